/-
  Plain texts, joined: UChar UCharB UCharC UCharD.
-/
import Derived.Test.YtdpdgppjeekcmaaFmtUnA
import Derived.Test.YtdpdgppjeekcmaaFmtBytes
import Derived.Test.YtdpdgppjeekcmaaFmtJD
import Derived.WalkKit
/-
  Walk: unescapeChar, way by way (printed by genuchar.py).
-/
namespace Go.Proofs.YtdpdgppjeekcmaaFmt
open Go Go.Lib Go.RowKit Go.Proofs
open Go.Extern.Stop Go.Stop Go.Extern

/-- What unescapeChar and its sister give. -/
def UPost (r : Option (Int × Bool × Nat)) (s : ByteArray) (w : World) (e : Ending) (w' : World) : Prop :=
  match r with
  | some (c, mb, k) => e = .returned (.tuple #[.int .i32 c, .bool mb, .string (s.extract k s.size), .nilIface]) ∧ Below w.heap.size w w'
  | none => ∃ (c : Int) (mb : Bool) (tl : ByteArray) (E : Nat) (m : ByteArray), e = .returned (.tuple #[.int .i32 c, .bool mb, .string tl, .iface 144 (.pointer (some ⟨E, 0, none⟩))]) ∧ w.heap.size ≤ E ∧ w'.heap[E]? = some (.cells #[.string m] 146 (0, 0)) ∧ Below w.heap.size w w'
theorem UPost.ok {s : ByteArray} {w w' : World} {e : Ending} {c : Int} {mb : Bool} {k : Nat} {r : Option (Int × Bool × Nat)} (h : r = some (c, mb, k)) (he : e = .returned (.tuple #[.int .i32 c, .bool mb, .string (s.extract k s.size), .nilIface])) (hb : Below w.heap.size w w') : UPost r s w e w' := by
  subst h
  exact ⟨he, hb⟩
theorem UPost.no {s : ByteArray} {w w1 w' : World} {c : Int} {mb : Bool} {tl m : ByteArray} {E : Nat} {r : Option (Int × Bool × Nat)} (h : r = none) (hb1 : Below w.heap.size w w1) (hE : w1.heap.size ≤ E) (hm : w'.heap[E]? = some (.cells #[.string m] 146 (0, 0))) (hb : Below w1.heap.size w1 w') : UPost r s w (.returned (.tuple #[.int .i32 c, .bool mb, .string tl, .iface 144 (.pointer (some ⟨E, 0, none⟩))])) w' := by
  subst h
  exact ⟨c, mb, tl, E, m, rfl, Nat.le_trans hb1.size hE, hm, hb1.trans (hb.mono hb1.size)⟩
theorem cut_cut (s : ByteArray) (a b : Nat) : (s.extract a s.size).extract b (s.extract a s.size).size = s.extract (b + a) s.size := by
  apply ByteArray.ext
  apply Array.ext'
  rw [Lib.extract_to_end, Lib.extract_to_end, Lib.extract_to_end, List.drop_drop, Nat.add_comm]
theorem byt0 {s : ByteArray} (h : 0 < s.size) : byt s 0 = (s[0]'h).toNat := byt_of h
theorem decode0 {w : World} (hT : Tabs w) (s : ByteArray) (h : 0 < s.size) :
    Calls Tryf.prog 65 #[.string s] w fun e w' => e = .returned (.tuple #[.int .i32 (rAt s 0), .int .i64 (wAt s 0)]) ∧ ∃ xs d, w' = grow w xs d := by
  have h1 := decode_any hT s 0 h
  have e : s.extract 0 s.size = s := by
    apply ByteArray.ext
    apply Array.ext'
    rw [Lib.extract_to_end, List.drop_zero]
  rw [e] at h1
  exact h1

theorem answers_low {F : Stop.Interp} {W0 w : World} (hF : F.answers W0.tape) (h : Below W0.heap.size W0 w) : F.answers w.tape := by rw [h.tape]; exact hF

set_option maxHeartbeats 4000000 in
set_option maxRecDepth 100000 in
theorem uc_high {F : Stop.Interp} {W0 w : World} (_hF : F.answers W0.tape) (hT : Tabs W0) (hlow : Below W0.heap.size W0 w) (s : ByteArray) (h0 : 0 < s.size) (hs : s.size ≤ 1099511627776) (h : 128 ≤ byt s 0) :
    Calls Tryf.prog 83 #[.string s] w (UPost (uChar s) s w) := by
  have s0 : (0 : Int) < (s.size : Int) := by omega
  have hu : uChar s = some (rAt s 0, true, wAt s 0) := by unfold uChar; rw [if_pos h]
  have h' : (128 : Int) ≤ ((s[0]'h0).toNat : Int) := by rw [byt0 h0] at h; omega
  have hw := wAt_le s 0 h0
  have Hu := Lib.hid hu
  clear hu h
  go_enter Tryf.func83, Tryf.ntmps83
  go_wp2_with fail
  refine (decode0 (hT.below hlow) s h0).mono ?_
  rintro e w1 ⟨rfl, xs, d, rfl⟩
  go_wp2_with fail
  go_quiet (fail)
  go_wp2_with fail
  refine bodyPost_ret (v := .tuple #[.int .i32 (rAt s 0), .bool true, .string (s.extract (wAt s 0) s.size), .nilIface]) ?_ rfl ?_
  · simp [results, Tryf.results83, go_sem]
  · exact UPost.ok Hu.out rfl (by repeat (first | exact Below.refl _ _ | apply below_drew | apply below_drewN | apply below_alloc | apply below_grow))

set_option maxHeartbeats 4000000 in
set_option maxRecDepth 100000 in
theorem uc_low {F : Stop.Interp} {W0 w : World} (_hF : F.answers W0.tape) (_hT : Tabs W0) (_hlow : Below W0.heap.size W0 w) (s : ByteArray) (h0 : 0 < s.size) (hs : s.size ≤ 1099511627776) (h : byt s 0 < 128) (h2 : byt s 0 ≠ 92) :
    Calls Tryf.prog 83 #[.string s] w (UPost (uChar s) s w) := by
  have s0 : (0 : Int) < (s.size : Int) := by omega
  have hu : uChar s = some (((byt s 0 : Nat) : Int), false, 1) := by unfold uChar; rw [if_neg (by omega), if_pos h2]
  have h' : ¬ (128 : Int) ≤ ((s[0]'h0).toNat : Int) := by rw [byt0 h0] at h; omega
  have e92 : (((s[0]'h0).toNat : Int) == 92) = false := by rw [beq_eq_false_iff_ne, ← byt0 h0]; omega
  have n92 : (((s[0]'h0).toNat : Int) != 92) = true := by unfold bne; rw [e92]; rfl
  have s1 : (1 : Int) ≤ (s.size : Int) := by omega
  rw [byt0 h0] at hu
  have Hu := Lib.hid hu
  clear hu h h2
  go_enter Tryf.func83, Tryf.ntmps83
  go_wp2_with fail
  go_quiet (fail)
  go_wp2_with fail
  refine bodyPost_ret (v := .tuple #[.int .i32 ((s[0]'h0).toNat : Nat), .bool false, .string (s.extract 1 s.size), .nilIface]) ?_ rfl ?_
  · simp [results, Tryf.results83, go_sem]
  · exact UPost.ok Hu.out rfl (by repeat (first | exact Below.refl _ _ | apply below_drew | apply below_drewN | apply below_alloc | apply below_grow))

set_option maxHeartbeats 4000000 in
set_option maxRecDepth 100000 in
theorem uc_last {F : Stop.Interp} {W0 w : World} (hF : F.answers W0.tape) (_hT : Tabs W0) (hlow : Below W0.heap.size W0 w) (s : ByteArray) (h0 : 0 < s.size) (hs : s.size ≤ 1099511627776) (h : byt s 0 = 92) (h1 : s.size ≤ 1) :
    Calls Tryf.prog 83 #[.string s] w (UPost (uChar s) s w) := by
  have s0 : (0 : Int) < (s.size : Int) := by omega
  have hb0 : ¬ 128 ≤ byt s 0 := by omega
  have e92 : ((s[0]'h0).toNat : Int) = 92 := by rw [← byt0 h0]; omega
  have hu : uChar s = none := by unfold uChar; rw [if_neg hb0, if_neg (by omega), if_pos h1]
  have s1 : (s.size : Int) ≤ 1 := by omega
  have Hu := Lib.hid hu
  clear hu h hb0
  go_enter Tryf.func83, Tryf.ntmps83
  go_wp2_with fail
  refine (errorf_1 _ (by exact answers_low hF hlow)).mono ?_
  rintro e w1 ⟨E, m, rfl, hE, hm, hb⟩
  have Hm := Lib.hid hm
  clear hm
  go_wp2_with fail
  refine bodyPost_ret (v := .tuple #[.int .i32 0, .bool false, .string ⟨#[]⟩, .iface 144 (.pointer (some ⟨E, 0, none⟩))]) ?_ rfl ?_
  · simp [results, Tryf.results83, go_sem]
  · exact UPost.no Hu.out (by repeat (first | exact Below.refl _ _ | apply below_drew | apply below_drewN | apply below_alloc | apply below_grow)) hE Hm.out hb

set_option maxHeartbeats 4000000 in
set_option maxRecDepth 100000 in
theorem uc_s97 {F : Stop.Interp} {W0 w : World} (_hF : F.answers W0.tape) (_hT : Tabs W0) (_hlow : Below W0.heap.size W0 w) (s : ByteArray) (h0 : 0 < s.size) (hs : s.size ≤ 1099511627776) (h : byt s 0 = 92) (hn : ¬ s.size ≤ 1) (hc : byt s 1 = 97) :
    Calls Tryf.prog 83 #[.string s] w (UPost (uChar s) s w) := by
  have s0 : (0 : Int) < (s.size : Int) := by omega
  have hb0 : ¬ 128 ≤ byt s 0 := by omega
  have e92 : ((s[0]'h0).toNat : Int) = 92 := by rw [← byt0 h0]; omega
  have h1 : 1 < s.size := by omega
  have s2 : (2 : Int) ≤ (s.size : Int) := by omega
  have s1 : ¬ (s.size : Int) ≤ 1 := by omega
  have s1' : (1 : Int) < (s.size : Int) := by omega
  have hu : uChar s = some (7, false, 2) := by unfold uChar; rw [if_neg hb0, if_neg (by omega), if_neg hn, hc, if_pos (by decide)]; rfl
  have ec : ((s[1]'h1).toNat : Int) = 97 := by rw [← byt_of h1]; omega
  have Hu := Lib.hid hu
  clear hu h hn hc hb0
  go_enter Tryf.func83, Tryf.ntmps83
  go_wp2_with fail
  refine bodyPost_ret (v := .tuple #[.int .i32 7, .bool false, .string (s.extract 2 s.size), .nilIface]) ?_ rfl ?_
  · simp [results, Tryf.results83, go_sem]
  · exact UPost.ok Hu.out rfl (by repeat (first | exact Below.refl _ _ | apply below_drew | apply below_drewN | apply below_alloc | apply below_grow))

set_option maxHeartbeats 4000000 in
set_option maxRecDepth 100000 in
theorem uc_s98 {F : Stop.Interp} {W0 w : World} (_hF : F.answers W0.tape) (_hT : Tabs W0) (_hlow : Below W0.heap.size W0 w) (s : ByteArray) (h0 : 0 < s.size) (hs : s.size ≤ 1099511627776) (h : byt s 0 = 92) (hn : ¬ s.size ≤ 1) (hc : byt s 1 = 98) :
    Calls Tryf.prog 83 #[.string s] w (UPost (uChar s) s w) := by
  have s0 : (0 : Int) < (s.size : Int) := by omega
  have hb0 : ¬ 128 ≤ byt s 0 := by omega
  have e92 : ((s[0]'h0).toNat : Int) = 92 := by rw [← byt0 h0]; omega
  have h1 : 1 < s.size := by omega
  have s2 : (2 : Int) ≤ (s.size : Int) := by omega
  have s1 : ¬ (s.size : Int) ≤ 1 := by omega
  have s1' : (1 : Int) < (s.size : Int) := by omega
  have hu : uChar s = some (8, false, 2) := by unfold uChar; rw [if_neg hb0, if_neg (by omega), if_neg hn, hc, if_pos (by decide)]; rfl
  have ec : ((s[1]'h1).toNat : Int) = 98 := by rw [← byt_of h1]; omega
  have Hu := Lib.hid hu
  clear hu h hn hc hb0
  go_enter Tryf.func83, Tryf.ntmps83
  go_wp2_with fail
  refine bodyPost_ret (v := .tuple #[.int .i32 8, .bool false, .string (s.extract 2 s.size), .nilIface]) ?_ rfl ?_
  · simp [results, Tryf.results83, go_sem]
  · exact UPost.ok Hu.out rfl (by repeat (first | exact Below.refl _ _ | apply below_drew | apply below_drewN | apply below_alloc | apply below_grow))

set_option maxHeartbeats 4000000 in
set_option maxRecDepth 100000 in
theorem uc_s102 {F : Stop.Interp} {W0 w : World} (_hF : F.answers W0.tape) (_hT : Tabs W0) (_hlow : Below W0.heap.size W0 w) (s : ByteArray) (h0 : 0 < s.size) (hs : s.size ≤ 1099511627776) (h : byt s 0 = 92) (hn : ¬ s.size ≤ 1) (hc : byt s 1 = 102) :
    Calls Tryf.prog 83 #[.string s] w (UPost (uChar s) s w) := by
  have s0 : (0 : Int) < (s.size : Int) := by omega
  have hb0 : ¬ 128 ≤ byt s 0 := by omega
  have e92 : ((s[0]'h0).toNat : Int) = 92 := by rw [← byt0 h0]; omega
  have h1 : 1 < s.size := by omega
  have s2 : (2 : Int) ≤ (s.size : Int) := by omega
  have s1 : ¬ (s.size : Int) ≤ 1 := by omega
  have s1' : (1 : Int) < (s.size : Int) := by omega
  have hu : uChar s = some (12, false, 2) := by unfold uChar; rw [if_neg hb0, if_neg (by omega), if_neg hn, hc, if_pos (by decide)]; rfl
  have ec : ((s[1]'h1).toNat : Int) = 102 := by rw [← byt_of h1]; omega
  have Hu := Lib.hid hu
  clear hu h hn hc hb0
  go_enter Tryf.func83, Tryf.ntmps83
  go_wp2_with fail
  refine bodyPost_ret (v := .tuple #[.int .i32 12, .bool false, .string (s.extract 2 s.size), .nilIface]) ?_ rfl ?_
  · simp [results, Tryf.results83, go_sem]
  · exact UPost.ok Hu.out rfl (by repeat (first | exact Below.refl _ _ | apply below_drew | apply below_drewN | apply below_alloc | apply below_grow))

set_option maxHeartbeats 4000000 in
set_option maxRecDepth 100000 in
theorem uc_s110 {F : Stop.Interp} {W0 w : World} (_hF : F.answers W0.tape) (_hT : Tabs W0) (_hlow : Below W0.heap.size W0 w) (s : ByteArray) (h0 : 0 < s.size) (hs : s.size ≤ 1099511627776) (h : byt s 0 = 92) (hn : ¬ s.size ≤ 1) (hc : byt s 1 = 110) :
    Calls Tryf.prog 83 #[.string s] w (UPost (uChar s) s w) := by
  have s0 : (0 : Int) < (s.size : Int) := by omega
  have hb0 : ¬ 128 ≤ byt s 0 := by omega
  have e92 : ((s[0]'h0).toNat : Int) = 92 := by rw [← byt0 h0]; omega
  have h1 : 1 < s.size := by omega
  have s2 : (2 : Int) ≤ (s.size : Int) := by omega
  have s1 : ¬ (s.size : Int) ≤ 1 := by omega
  have s1' : (1 : Int) < (s.size : Int) := by omega
  have hu : uChar s = some (10, false, 2) := by unfold uChar; rw [if_neg hb0, if_neg (by omega), if_neg hn, hc, if_pos (by decide)]; rfl
  have ec : ((s[1]'h1).toNat : Int) = 110 := by rw [← byt_of h1]; omega
  have Hu := Lib.hid hu
  clear hu h hn hc hb0
  go_enter Tryf.func83, Tryf.ntmps83
  go_wp2_with fail
  refine bodyPost_ret (v := .tuple #[.int .i32 10, .bool false, .string (s.extract 2 s.size), .nilIface]) ?_ rfl ?_
  · simp [results, Tryf.results83, go_sem]
  · exact UPost.ok Hu.out rfl (by repeat (first | exact Below.refl _ _ | apply below_drew | apply below_drewN | apply below_alloc | apply below_grow))

set_option maxHeartbeats 4000000 in
set_option maxRecDepth 100000 in
theorem uc_s114 {F : Stop.Interp} {W0 w : World} (_hF : F.answers W0.tape) (_hT : Tabs W0) (_hlow : Below W0.heap.size W0 w) (s : ByteArray) (h0 : 0 < s.size) (hs : s.size ≤ 1099511627776) (h : byt s 0 = 92) (hn : ¬ s.size ≤ 1) (hc : byt s 1 = 114) :
    Calls Tryf.prog 83 #[.string s] w (UPost (uChar s) s w) := by
  have s0 : (0 : Int) < (s.size : Int) := by omega
  have hb0 : ¬ 128 ≤ byt s 0 := by omega
  have e92 : ((s[0]'h0).toNat : Int) = 92 := by rw [← byt0 h0]; omega
  have h1 : 1 < s.size := by omega
  have s2 : (2 : Int) ≤ (s.size : Int) := by omega
  have s1 : ¬ (s.size : Int) ≤ 1 := by omega
  have s1' : (1 : Int) < (s.size : Int) := by omega
  have hu : uChar s = some (13, false, 2) := by unfold uChar; rw [if_neg hb0, if_neg (by omega), if_neg hn, hc, if_pos (by decide)]; rfl
  have ec : ((s[1]'h1).toNat : Int) = 114 := by rw [← byt_of h1]; omega
  have Hu := Lib.hid hu
  clear hu h hn hc hb0
  go_enter Tryf.func83, Tryf.ntmps83
  go_wp2_with fail
  refine bodyPost_ret (v := .tuple #[.int .i32 13, .bool false, .string (s.extract 2 s.size), .nilIface]) ?_ rfl ?_
  · simp [results, Tryf.results83, go_sem]
  · exact UPost.ok Hu.out rfl (by repeat (first | exact Below.refl _ _ | apply below_drew | apply below_drewN | apply below_alloc | apply below_grow))

set_option maxHeartbeats 4000000 in
set_option maxRecDepth 100000 in
theorem uc_s116 {F : Stop.Interp} {W0 w : World} (_hF : F.answers W0.tape) (_hT : Tabs W0) (_hlow : Below W0.heap.size W0 w) (s : ByteArray) (h0 : 0 < s.size) (hs : s.size ≤ 1099511627776) (h : byt s 0 = 92) (hn : ¬ s.size ≤ 1) (hc : byt s 1 = 116) :
    Calls Tryf.prog 83 #[.string s] w (UPost (uChar s) s w) := by
  have s0 : (0 : Int) < (s.size : Int) := by omega
  have hb0 : ¬ 128 ≤ byt s 0 := by omega
  have e92 : ((s[0]'h0).toNat : Int) = 92 := by rw [← byt0 h0]; omega
  have h1 : 1 < s.size := by omega
  have s2 : (2 : Int) ≤ (s.size : Int) := by omega
  have s1 : ¬ (s.size : Int) ≤ 1 := by omega
  have s1' : (1 : Int) < (s.size : Int) := by omega
  have hu : uChar s = some (9, false, 2) := by unfold uChar; rw [if_neg hb0, if_neg (by omega), if_neg hn, hc, if_pos (by decide)]; rfl
  have ec : ((s[1]'h1).toNat : Int) = 116 := by rw [← byt_of h1]; omega
  have Hu := Lib.hid hu
  clear hu h hn hc hb0
  go_enter Tryf.func83, Tryf.ntmps83
  go_wp2_with fail
  refine bodyPost_ret (v := .tuple #[.int .i32 9, .bool false, .string (s.extract 2 s.size), .nilIface]) ?_ rfl ?_
  · simp [results, Tryf.results83, go_sem]
  · exact UPost.ok Hu.out rfl (by repeat (first | exact Below.refl _ _ | apply below_drew | apply below_drewN | apply below_alloc | apply below_grow))

set_option maxHeartbeats 4000000 in
set_option maxRecDepth 100000 in
theorem uc_s118 {F : Stop.Interp} {W0 w : World} (_hF : F.answers W0.tape) (_hT : Tabs W0) (_hlow : Below W0.heap.size W0 w) (s : ByteArray) (h0 : 0 < s.size) (hs : s.size ≤ 1099511627776) (h : byt s 0 = 92) (hn : ¬ s.size ≤ 1) (hc : byt s 1 = 118) :
    Calls Tryf.prog 83 #[.string s] w (UPost (uChar s) s w) := by
  have s0 : (0 : Int) < (s.size : Int) := by omega
  have hb0 : ¬ 128 ≤ byt s 0 := by omega
  have e92 : ((s[0]'h0).toNat : Int) = 92 := by rw [← byt0 h0]; omega
  have h1 : 1 < s.size := by omega
  have s2 : (2 : Int) ≤ (s.size : Int) := by omega
  have s1 : ¬ (s.size : Int) ≤ 1 := by omega
  have s1' : (1 : Int) < (s.size : Int) := by omega
  have hu : uChar s = some (11, false, 2) := by unfold uChar; rw [if_neg hb0, if_neg (by omega), if_neg hn, hc, if_pos (by decide)]; rfl
  have ec : ((s[1]'h1).toNat : Int) = 118 := by rw [← byt_of h1]; omega
  have Hu := Lib.hid hu
  clear hu h hn hc hb0
  go_enter Tryf.func83, Tryf.ntmps83
  go_wp2_with fail
  refine bodyPost_ret (v := .tuple #[.int .i32 11, .bool false, .string (s.extract 2 s.size), .nilIface]) ?_ rfl ?_
  · simp [results, Tryf.results83, go_sem]
  · exact UPost.ok Hu.out rfl (by repeat (first | exact Below.refl _ _ | apply below_drew | apply below_drewN | apply below_alloc | apply below_grow))

set_option maxHeartbeats 4000000 in
set_option maxRecDepth 100000 in
theorem uc_s92 {F : Stop.Interp} {W0 w : World} (_hF : F.answers W0.tape) (_hT : Tabs W0) (_hlow : Below W0.heap.size W0 w) (s : ByteArray) (h0 : 0 < s.size) (hs : s.size ≤ 1099511627776) (h : byt s 0 = 92) (hn : ¬ s.size ≤ 1) (hc : byt s 1 = 92) :
    Calls Tryf.prog 83 #[.string s] w (UPost (uChar s) s w) := by
  have s0 : (0 : Int) < (s.size : Int) := by omega
  have hb0 : ¬ 128 ≤ byt s 0 := by omega
  have e92 : ((s[0]'h0).toNat : Int) = 92 := by rw [← byt0 h0]; omega
  have h1 : 1 < s.size := by omega
  have s2 : (2 : Int) ≤ (s.size : Int) := by omega
  have s1 : ¬ (s.size : Int) ≤ 1 := by omega
  have s1' : (1 : Int) < (s.size : Int) := by omega
  have hu : uChar s = some (92, false, 2) := by unfold uChar; rw [if_neg hb0, if_neg (by omega), if_neg hn, hc, if_pos (by decide)]; rfl
  have ec : ((s[1]'h1).toNat : Int) = 92 := by rw [← byt_of h1]; omega
  have Hu := Lib.hid hu
  clear hu h hn hc hb0
  go_enter Tryf.func83, Tryf.ntmps83
  go_wp2_with fail
  refine bodyPost_ret (v := .tuple #[.int .i32 92, .bool false, .string (s.extract 2 s.size), .nilIface]) ?_ rfl ?_
  · simp [results, Tryf.results83, go_sem]
  · exact UPost.ok Hu.out rfl (by repeat (first | exact Below.refl _ _ | apply below_drew | apply below_drewN | apply below_alloc | apply below_grow))

set_option maxHeartbeats 4000000 in
set_option maxRecDepth 100000 in
theorem uc_s39 {F : Stop.Interp} {W0 w : World} (_hF : F.answers W0.tape) (_hT : Tabs W0) (_hlow : Below W0.heap.size W0 w) (s : ByteArray) (h0 : 0 < s.size) (hs : s.size ≤ 1099511627776) (h : byt s 0 = 92) (hn : ¬ s.size ≤ 1) (hc : byt s 1 = 39) :
    Calls Tryf.prog 83 #[.string s] w (UPost (uChar s) s w) := by
  have s0 : (0 : Int) < (s.size : Int) := by omega
  have hb0 : ¬ 128 ≤ byt s 0 := by omega
  have e92 : ((s[0]'h0).toNat : Int) = 92 := by rw [← byt0 h0]; omega
  have h1 : 1 < s.size := by omega
  have s2 : (2 : Int) ≤ (s.size : Int) := by omega
  have s1 : ¬ (s.size : Int) ≤ 1 := by omega
  have s1' : (1 : Int) < (s.size : Int) := by omega
  have hu : uChar s = some (39, false, 2) := by unfold uChar; rw [if_neg hb0, if_neg (by omega), if_neg hn, hc, if_pos (by decide)]; rfl
  have ec : ((s[1]'h1).toNat : Int) = 39 := by rw [← byt_of h1]; omega
  have Hu := Lib.hid hu
  clear hu h hn hc hb0
  go_enter Tryf.func83, Tryf.ntmps83
  go_wp2_with fail
  refine bodyPost_ret (v := .tuple #[.int .i32 39, .bool false, .string (s.extract 2 s.size), .nilIface]) ?_ rfl ?_
  · simp [results, Tryf.results83, go_sem]
  · exact UPost.ok Hu.out rfl (by repeat (first | exact Below.refl _ _ | apply below_drew | apply below_drewN | apply below_alloc | apply below_grow))

set_option maxHeartbeats 4000000 in
set_option maxRecDepth 100000 in
theorem uc_s34 {F : Stop.Interp} {W0 w : World} (_hF : F.answers W0.tape) (_hT : Tabs W0) (_hlow : Below W0.heap.size W0 w) (s : ByteArray) (h0 : 0 < s.size) (hs : s.size ≤ 1099511627776) (h : byt s 0 = 92) (hn : ¬ s.size ≤ 1) (hc : byt s 1 = 34) :
    Calls Tryf.prog 83 #[.string s] w (UPost (uChar s) s w) := by
  have s0 : (0 : Int) < (s.size : Int) := by omega
  have hb0 : ¬ 128 ≤ byt s 0 := by omega
  have e92 : ((s[0]'h0).toNat : Int) = 92 := by rw [← byt0 h0]; omega
  have h1 : 1 < s.size := by omega
  have s2 : (2 : Int) ≤ (s.size : Int) := by omega
  have s1 : ¬ (s.size : Int) ≤ 1 := by omega
  have s1' : (1 : Int) < (s.size : Int) := by omega
  have hu : uChar s = some (34, false, 2) := by unfold uChar; rw [if_neg hb0, if_neg (by omega), if_neg hn, hc, if_pos (by decide)]; rfl
  have ec : ((s[1]'h1).toNat : Int) = 34 := by rw [← byt_of h1]; omega
  have Hu := Lib.hid hu
  clear hu h hn hc hb0
  go_enter Tryf.func83, Tryf.ntmps83
  go_wp2_with fail
  refine bodyPost_ret (v := .tuple #[.int .i32 34, .bool false, .string (s.extract 2 s.size), .nilIface]) ?_ rfl ?_
  · simp [results, Tryf.results83, go_sem]
  · exact UPost.ok Hu.out rfl (by repeat (first | exact Below.refl _ _ | apply below_drew | apply below_drewN | apply below_alloc | apply below_grow))

set_option maxHeartbeats 4000000 in
set_option maxRecDepth 100000 in
theorem uc_s96 {F : Stop.Interp} {W0 w : World} (_hF : F.answers W0.tape) (_hT : Tabs W0) (_hlow : Below W0.heap.size W0 w) (s : ByteArray) (h0 : 0 < s.size) (hs : s.size ≤ 1099511627776) (h : byt s 0 = 92) (hn : ¬ s.size ≤ 1) (hc : byt s 1 = 96) :
    Calls Tryf.prog 83 #[.string s] w (UPost (uChar s) s w) := by
  have s0 : (0 : Int) < (s.size : Int) := by omega
  have hb0 : ¬ 128 ≤ byt s 0 := by omega
  have e92 : ((s[0]'h0).toNat : Int) = 92 := by rw [← byt0 h0]; omega
  have h1 : 1 < s.size := by omega
  have s2 : (2 : Int) ≤ (s.size : Int) := by omega
  have s1 : ¬ (s.size : Int) ≤ 1 := by omega
  have s1' : (1 : Int) < (s.size : Int) := by omega
  have hu : uChar s = some (96, false, 2) := by unfold uChar; rw [if_neg hb0, if_neg (by omega), if_neg hn, hc, if_pos (by decide)]; rfl
  have ec : ((s[1]'h1).toNat : Int) = 96 := by rw [← byt_of h1]; omega
  have Hu := Lib.hid hu
  clear hu h hn hc hb0
  go_enter Tryf.func83, Tryf.ntmps83
  go_wp2_with fail
  refine bodyPost_ret (v := .tuple #[.int .i32 96, .bool false, .string (s.extract 2 s.size), .nilIface]) ?_ rfl ?_
  · simp [results, Tryf.results83, go_sem]
  · exact UPost.ok Hu.out rfl (by repeat (first | exact Below.refl _ _ | apply below_drew | apply below_drewN | apply below_alloc | apply below_grow))

set_option maxHeartbeats 4000000 in
set_option maxRecDepth 100000 in
theorem uc_s63 {F : Stop.Interp} {W0 w : World} (_hF : F.answers W0.tape) (_hT : Tabs W0) (_hlow : Below W0.heap.size W0 w) (s : ByteArray) (h0 : 0 < s.size) (hs : s.size ≤ 1099511627776) (h : byt s 0 = 92) (hn : ¬ s.size ≤ 1) (hc : byt s 1 = 63) :
    Calls Tryf.prog 83 #[.string s] w (UPost (uChar s) s w) := by
  have s0 : (0 : Int) < (s.size : Int) := by omega
  have hb0 : ¬ 128 ≤ byt s 0 := by omega
  have e92 : ((s[0]'h0).toNat : Int) = 92 := by rw [← byt0 h0]; omega
  have h1 : 1 < s.size := by omega
  have s2 : (2 : Int) ≤ (s.size : Int) := by omega
  have s1 : ¬ (s.size : Int) ≤ 1 := by omega
  have s1' : (1 : Int) < (s.size : Int) := by omega
  have hu : uChar s = some (63, false, 2) := by unfold uChar; rw [if_neg hb0, if_neg (by omega), if_neg hn, hc, if_pos (by decide)]; rfl
  have ec : ((s[1]'h1).toNat : Int) = 63 := by rw [← byt_of h1]; omega
  have Hu := Lib.hid hu
  clear hu h hn hc hb0
  go_enter Tryf.func83, Tryf.ntmps83
  go_wp2_with fail
  refine bodyPost_ret (v := .tuple #[.int .i32 63, .bool false, .string (s.extract 2 s.size), .nilIface]) ?_ rfl ?_
  · simp [results, Tryf.results83, go_sem]
  · exact UPost.ok Hu.out rfl (by repeat (first | exact Below.refl _ _ | apply below_drew | apply below_drewN | apply below_alloc | apply below_grow))

set_option maxHeartbeats 4000000 in
set_option maxRecDepth 100000 in
theorem uc_bad {F : Stop.Interp} {W0 w : World} (hF : F.answers W0.tape) (_hT : Tabs W0) (hlow : Below W0.heap.size W0 w) (s : ByteArray) (h0 : 0 < s.size) (hs : s.size ≤ 1099511627776) (h : byt s 0 = 92) (hn : ¬ s.size ≤ 1) (hc : simpleEsc (byt s 1) = -1) (hx : ¬ (byt s 1 = 120 ∨ byt s 1 = 88 ∨ byt s 1 = 117 ∨ byt s 1 = 85)) (ho : ¬ (48 ≤ byt s 1 ∧ byt s 1 ≤ 51)) :
    Calls Tryf.prog 83 #[.string s] w (UPost (uChar s) s w) := by
  have s0 : (0 : Int) < (s.size : Int) := by omega
  have hb0 : ¬ 128 ≤ byt s 0 := by omega
  have e92 : ((s[0]'h0).toNat : Int) = 92 := by rw [← byt0 h0]; omega
  have h1 : 1 < s.size := by omega
  have s2 : (2 : Int) ≤ (s.size : Int) := by omega
  have s1 : ¬ (s.size : Int) ≤ 1 := by omega
  have s1' : (1 : Int) < (s.size : Int) := by omega
  have hu : uChar s = none := by unfold uChar; rw [if_neg hb0, if_neg (by omega), if_neg hn, hc, if_neg (by decide), if_neg hx, if_neg ho]
  have eb := byt_of h1
  have n97 : (((s[1]'h1).toNat : Int) == 97) = false := by rw [beq_eq_false_iff_ne]; exact fun e => absurd ((congrArg simpleEsc (show byt s 1 = 97 by omega)).symm.trans hc) (by decide)
  have n98 : (((s[1]'h1).toNat : Int) == 98) = false := by rw [beq_eq_false_iff_ne]; exact fun e => absurd ((congrArg simpleEsc (show byt s 1 = 98 by omega)).symm.trans hc) (by decide)
  have n102 : (((s[1]'h1).toNat : Int) == 102) = false := by rw [beq_eq_false_iff_ne]; exact fun e => absurd ((congrArg simpleEsc (show byt s 1 = 102 by omega)).symm.trans hc) (by decide)
  have n110 : (((s[1]'h1).toNat : Int) == 110) = false := by rw [beq_eq_false_iff_ne]; exact fun e => absurd ((congrArg simpleEsc (show byt s 1 = 110 by omega)).symm.trans hc) (by decide)
  have n114 : (((s[1]'h1).toNat : Int) == 114) = false := by rw [beq_eq_false_iff_ne]; exact fun e => absurd ((congrArg simpleEsc (show byt s 1 = 114 by omega)).symm.trans hc) (by decide)
  have n116 : (((s[1]'h1).toNat : Int) == 116) = false := by rw [beq_eq_false_iff_ne]; exact fun e => absurd ((congrArg simpleEsc (show byt s 1 = 116 by omega)).symm.trans hc) (by decide)
  have n118 : (((s[1]'h1).toNat : Int) == 118) = false := by rw [beq_eq_false_iff_ne]; exact fun e => absurd ((congrArg simpleEsc (show byt s 1 = 118 by omega)).symm.trans hc) (by decide)
  have n92 : (((s[1]'h1).toNat : Int) == 92) = false := by rw [beq_eq_false_iff_ne]; exact fun e => absurd ((congrArg simpleEsc (show byt s 1 = 92 by omega)).symm.trans hc) (by decide)
  have n39 : (((s[1]'h1).toNat : Int) == 39) = false := by rw [beq_eq_false_iff_ne]; exact fun e => absurd ((congrArg simpleEsc (show byt s 1 = 39 by omega)).symm.trans hc) (by decide)
  have n34 : (((s[1]'h1).toNat : Int) == 34) = false := by rw [beq_eq_false_iff_ne]; exact fun e => absurd ((congrArg simpleEsc (show byt s 1 = 34 by omega)).symm.trans hc) (by decide)
  have n96 : (((s[1]'h1).toNat : Int) == 96) = false := by rw [beq_eq_false_iff_ne]; exact fun e => absurd ((congrArg simpleEsc (show byt s 1 = 96 by omega)).symm.trans hc) (by decide)
  have n63 : (((s[1]'h1).toNat : Int) == 63) = false := by rw [beq_eq_false_iff_ne]; exact fun e => absurd ((congrArg simpleEsc (show byt s 1 = 63 by omega)).symm.trans hc) (by decide)
  have n120 : (((s[1]'h1).toNat : Int) == 120) = false := by rw [beq_eq_false_iff_ne]; omega
  have n88 : (((s[1]'h1).toNat : Int) == 88) = false := by rw [beq_eq_false_iff_ne]; omega
  have n117 : (((s[1]'h1).toNat : Int) == 117) = false := by rw [beq_eq_false_iff_ne]; omega
  have n85 : (((s[1]'h1).toNat : Int) == 85) = false := by rw [beq_eq_false_iff_ne]; omega
  have n48 : (((s[1]'h1).toNat : Int) == 48) = false := by rw [beq_eq_false_iff_ne]; omega
  have n49 : (((s[1]'h1).toNat : Int) == 49) = false := by rw [beq_eq_false_iff_ne]; omega
  have n50 : (((s[1]'h1).toNat : Int) == 50) = false := by rw [beq_eq_false_iff_ne]; omega
  have n51 : (((s[1]'h1).toNat : Int) == 51) = false := by rw [beq_eq_false_iff_ne]; omega
  have Hu := Lib.hid hu
  clear hu h hn hc hb0 eb hx ho
  go_enter Tryf.func83, Tryf.ntmps83
  go_wp2_with fail
  refine (errorf_0 _ (by exact answers_low hF hlow)).mono ?_
  rintro e w1 ⟨E, m, rfl, hE, hm, hb⟩
  have Hm := Lib.hid hm
  clear hm
  go_wp2_with fail
  refine bodyPost_ret (v := .tuple #[.int .i32 0, .bool false, .string (s.extract 2 s.size), .iface 144 (.pointer (some ⟨E, 0, none⟩))]) ?_ rfl ?_
  · simp [results, Tryf.results83, go_sem]
  · exact UPost.no Hu.out (by repeat (first | exact Below.refl _ _ | apply below_drew | apply below_drewN | apply below_alloc | apply below_grow)) hE Hm.out hb

set_option maxHeartbeats 4000000 in
set_option maxRecDepth 100000 in
theorem uc_o48short {F : Stop.Interp} {W0 w : World} (hF : F.answers W0.tape) (_hT : Tabs W0) (hlow : Below W0.heap.size W0 w) (s : ByteArray) (h0 : 0 < s.size) (hs : s.size ≤ 1099511627776) (h : byt s 0 = 92) (hn : ¬ s.size ≤ 1) (hc : byt s 1 = 48) (hl : s.size < 4) :
    Calls Tryf.prog 83 #[.string s] w (UPost (uChar s) s w) := by
  have s0 : (0 : Int) < (s.size : Int) := by omega
  have hb0 : ¬ 128 ≤ byt s 0 := by omega
  have e92 : ((s[0]'h0).toNat : Int) = 92 := by rw [← byt0 h0]; omega
  have h1 : 1 < s.size := by omega
  have s2 : (2 : Int) ≤ (s.size : Int) := by omega
  have s1 : ¬ (s.size : Int) ≤ 1 := by omega
  have s1' : (1 : Int) < (s.size : Int) := by omega
  have hs1 : simpleEsc (byt s 1) = -1 := by rw [hc]; decide
  have hx1 : ¬ (byt s 1 = 120 ∨ byt s 1 = 88 ∨ byt s 1 = 117 ∨ byt s 1 = 85) := by omega
  have ho1 : 48 ≤ byt s 1 ∧ byt s 1 ≤ 51 := by omega
  have ec : ((s[1]'h1).toNat : Int) = 48 := by rw [← byt_of h1]; omega
  have hu : uChar s = none := by unfold uChar; rw [if_neg hb0, if_neg (by omega), if_neg hn, hs1, if_neg (by decide), if_neg hx1, if_pos ho1, if_pos hl]
  have l2 : (s.size : Int) - 2 < 2 := by omega
  have Hu := Lib.hid hu
  clear hu h hn hc hb0 hs1 hx1 ho1
  go_enter Tryf.func83, Tryf.ntmps83
  go_wp2_with fail
  refine (errorf_2 _ (by exact answers_low hF hlow)).mono ?_
  rintro e w1 ⟨E, m, rfl, hE, hm, hb⟩
  have Hm := Lib.hid hm
  clear hm
  go_wp2_with fail
  refine bodyPost_ret (v := .tuple #[.int .i32 0, .bool false, .string ⟨#[]⟩, .iface 144 (.pointer (some ⟨E, 0, none⟩))]) ?_ rfl ?_
  · simp [results, Tryf.results83, go_sem]
  · exact UPost.no Hu.out (by repeat (first | exact Below.refl _ _ | apply below_drew | apply below_drewN | apply below_alloc | apply below_grow)) hE Hm.out hb

set_option maxHeartbeats 4000000 in
set_option maxRecDepth 100000 in
theorem uc_o49short {F : Stop.Interp} {W0 w : World} (hF : F.answers W0.tape) (_hT : Tabs W0) (hlow : Below W0.heap.size W0 w) (s : ByteArray) (h0 : 0 < s.size) (hs : s.size ≤ 1099511627776) (h : byt s 0 = 92) (hn : ¬ s.size ≤ 1) (hc : byt s 1 = 49) (hl : s.size < 4) :
    Calls Tryf.prog 83 #[.string s] w (UPost (uChar s) s w) := by
  have s0 : (0 : Int) < (s.size : Int) := by omega
  have hb0 : ¬ 128 ≤ byt s 0 := by omega
  have e92 : ((s[0]'h0).toNat : Int) = 92 := by rw [← byt0 h0]; omega
  have h1 : 1 < s.size := by omega
  have s2 : (2 : Int) ≤ (s.size : Int) := by omega
  have s1 : ¬ (s.size : Int) ≤ 1 := by omega
  have s1' : (1 : Int) < (s.size : Int) := by omega
  have hs1 : simpleEsc (byt s 1) = -1 := by rw [hc]; decide
  have hx1 : ¬ (byt s 1 = 120 ∨ byt s 1 = 88 ∨ byt s 1 = 117 ∨ byt s 1 = 85) := by omega
  have ho1 : 48 ≤ byt s 1 ∧ byt s 1 ≤ 51 := by omega
  have ec : ((s[1]'h1).toNat : Int) = 49 := by rw [← byt_of h1]; omega
  have hu : uChar s = none := by unfold uChar; rw [if_neg hb0, if_neg (by omega), if_neg hn, hs1, if_neg (by decide), if_neg hx1, if_pos ho1, if_pos hl]
  have l2 : (s.size : Int) - 2 < 2 := by omega
  have Hu := Lib.hid hu
  clear hu h hn hc hb0 hs1 hx1 ho1
  go_enter Tryf.func83, Tryf.ntmps83
  go_wp2_with fail
  refine (errorf_2 _ (by exact answers_low hF hlow)).mono ?_
  rintro e w1 ⟨E, m, rfl, hE, hm, hb⟩
  have Hm := Lib.hid hm
  clear hm
  go_wp2_with fail
  refine bodyPost_ret (v := .tuple #[.int .i32 0, .bool false, .string ⟨#[]⟩, .iface 144 (.pointer (some ⟨E, 0, none⟩))]) ?_ rfl ?_
  · simp [results, Tryf.results83, go_sem]
  · exact UPost.no Hu.out (by repeat (first | exact Below.refl _ _ | apply below_drew | apply below_drewN | apply below_alloc | apply below_grow)) hE Hm.out hb

set_option maxHeartbeats 4000000 in
set_option maxRecDepth 100000 in
theorem uc_o50short {F : Stop.Interp} {W0 w : World} (hF : F.answers W0.tape) (_hT : Tabs W0) (hlow : Below W0.heap.size W0 w) (s : ByteArray) (h0 : 0 < s.size) (hs : s.size ≤ 1099511627776) (h : byt s 0 = 92) (hn : ¬ s.size ≤ 1) (hc : byt s 1 = 50) (hl : s.size < 4) :
    Calls Tryf.prog 83 #[.string s] w (UPost (uChar s) s w) := by
  have s0 : (0 : Int) < (s.size : Int) := by omega
  have hb0 : ¬ 128 ≤ byt s 0 := by omega
  have e92 : ((s[0]'h0).toNat : Int) = 92 := by rw [← byt0 h0]; omega
  have h1 : 1 < s.size := by omega
  have s2 : (2 : Int) ≤ (s.size : Int) := by omega
  have s1 : ¬ (s.size : Int) ≤ 1 := by omega
  have s1' : (1 : Int) < (s.size : Int) := by omega
  have hs1 : simpleEsc (byt s 1) = -1 := by rw [hc]; decide
  have hx1 : ¬ (byt s 1 = 120 ∨ byt s 1 = 88 ∨ byt s 1 = 117 ∨ byt s 1 = 85) := by omega
  have ho1 : 48 ≤ byt s 1 ∧ byt s 1 ≤ 51 := by omega
  have ec : ((s[1]'h1).toNat : Int) = 50 := by rw [← byt_of h1]; omega
  have hu : uChar s = none := by unfold uChar; rw [if_neg hb0, if_neg (by omega), if_neg hn, hs1, if_neg (by decide), if_neg hx1, if_pos ho1, if_pos hl]
  have l2 : (s.size : Int) - 2 < 2 := by omega
  have Hu := Lib.hid hu
  clear hu h hn hc hb0 hs1 hx1 ho1
  go_enter Tryf.func83, Tryf.ntmps83
  go_wp2_with fail
  refine (errorf_2 _ (by exact answers_low hF hlow)).mono ?_
  rintro e w1 ⟨E, m, rfl, hE, hm, hb⟩
  have Hm := Lib.hid hm
  clear hm
  go_wp2_with fail
  refine bodyPost_ret (v := .tuple #[.int .i32 0, .bool false, .string ⟨#[]⟩, .iface 144 (.pointer (some ⟨E, 0, none⟩))]) ?_ rfl ?_
  · simp [results, Tryf.results83, go_sem]
  · exact UPost.no Hu.out (by repeat (first | exact Below.refl _ _ | apply below_drew | apply below_drewN | apply below_alloc | apply below_grow)) hE Hm.out hb

set_option maxHeartbeats 4000000 in
set_option maxRecDepth 100000 in
theorem uc_o51short {F : Stop.Interp} {W0 w : World} (hF : F.answers W0.tape) (_hT : Tabs W0) (hlow : Below W0.heap.size W0 w) (s : ByteArray) (h0 : 0 < s.size) (hs : s.size ≤ 1099511627776) (h : byt s 0 = 92) (hn : ¬ s.size ≤ 1) (hc : byt s 1 = 51) (hl : s.size < 4) :
    Calls Tryf.prog 83 #[.string s] w (UPost (uChar s) s w) := by
  have s0 : (0 : Int) < (s.size : Int) := by omega
  have hb0 : ¬ 128 ≤ byt s 0 := by omega
  have e92 : ((s[0]'h0).toNat : Int) = 92 := by rw [← byt0 h0]; omega
  have h1 : 1 < s.size := by omega
  have s2 : (2 : Int) ≤ (s.size : Int) := by omega
  have s1 : ¬ (s.size : Int) ≤ 1 := by omega
  have s1' : (1 : Int) < (s.size : Int) := by omega
  have hs1 : simpleEsc (byt s 1) = -1 := by rw [hc]; decide
  have hx1 : ¬ (byt s 1 = 120 ∨ byt s 1 = 88 ∨ byt s 1 = 117 ∨ byt s 1 = 85) := by omega
  have ho1 : 48 ≤ byt s 1 ∧ byt s 1 ≤ 51 := by omega
  have ec : ((s[1]'h1).toNat : Int) = 51 := by rw [← byt_of h1]; omega
  have hu : uChar s = none := by unfold uChar; rw [if_neg hb0, if_neg (by omega), if_neg hn, hs1, if_neg (by decide), if_neg hx1, if_pos ho1, if_pos hl]
  have l2 : (s.size : Int) - 2 < 2 := by omega
  have Hu := Lib.hid hu
  clear hu h hn hc hb0 hs1 hx1 ho1
  go_enter Tryf.func83, Tryf.ntmps83
  go_wp2_with fail
  refine (errorf_2 _ (by exact answers_low hF hlow)).mono ?_
  rintro e w1 ⟨E, m, rfl, hE, hm, hb⟩
  have Hm := Lib.hid hm
  clear hm
  go_wp2_with fail
  refine bodyPost_ret (v := .tuple #[.int .i32 0, .bool false, .string ⟨#[]⟩, .iface 144 (.pointer (some ⟨E, 0, none⟩))]) ?_ rfl ?_
  · simp [results, Tryf.results83, go_sem]
  · exact UPost.no Hu.out (by repeat (first | exact Below.refl _ _ | apply below_drew | apply below_drewN | apply below_alloc | apply below_grow)) hE Hm.out hb

end Go.Proofs.YtdpdgppjeekcmaaFmt

/-
  Walk: unescapeChar, its octal and hexadecimal ways (printed by genuchar.py).
-/
namespace Go.Proofs.YtdpdgppjeekcmaaFmt
open Go Go.Lib Go.RowKit Go.Proofs
open Go.Extern.Stop Go.Stop Go.Extern

/-- The text behind the backslash and its letter. -/
structure Tail2 (s v : ByteArray) : Prop where
  eq : s.extract 2 s.size = v
  size : v.size + 2 = s.size
  get : ∀ j (hj : j < v.size), (v[j]'hj).toNat = byt s (j + 2)
  cut : ∀ n, v.extract n v.size = s.extract (n + 2) s.size
theorem tail2 (s : ByteArray) (h : 1 < s.size) : Tail2 s (s.extract 2 s.size) := by
  have hsz : (s.extract 2 s.size).size = s.size - 2 := by rw [ByteArray.size_extract]; omega
  refine ⟨rfl, by omega, fun j hj => ?_, fun n => cut_cut s 2 n⟩
  rw [byt_of (s := s) (k := j + 2) (by omega), ByteArray.getElem_extract]
  congr 2
  omega

/-- Where the octal loop stands. -/
def OctRel (s : ByteArray) (c : Int) (g : Nat) (vv jv : Value) : Prop :=
  (jv = .int .i64 0 ∧ vv = .int .i32 (c - 48) ∧ 3 ≤ g) ∨
  (jv = .int .i64 1 ∧ isOct (byt s 2) = true ∧ vv = .int .i32 ((c - 48) * 8 + ((byt s 2 : Nat) - 48 : Int)) ∧ 2 ≤ g) ∨
  (jv = .int .i64 2 ∧ isOct (byt s 2) = true ∧ isOct (byt s 3) = true ∧ vv = .int .i32 (((c - 48) * 8 + ((byt s 2 : Nat) - 48 : Int)) * 8 + ((byt s 3 : Nat) - 48 : Int)) ∧ 1 ≤ g)
theorem isOct_iff {b : Nat} : isOct b = true ↔ 48 ≤ b ∧ b ≤ 55 := by unfold isOct; simp

set_option maxHeartbeats 4000000 in
set_option maxRecDepth 100000 in
theorem uc_o48long {F : Stop.Interp} {W0 w : World} (hF : F.answers W0.tape) (_hT : Tabs W0) (hlow : Below W0.heap.size W0 w) (s : ByteArray) (h0 : 0 < s.size) (hs : s.size ≤ 1099511627776) (h : byt s 0 = 92) (hn : ¬ s.size ≤ 1) (hc : byt s 1 = 48) (hl : ¬ s.size < 4) :
    Calls Tryf.prog 83 #[.string s] w (UPost (uChar s) s w) := by
  have s0 : (0 : Int) < (s.size : Int) := by omega
  have hb0 : ¬ 128 ≤ byt s 0 := by omega
  have e92 : ((s[0]'h0).toNat : Int) = 92 := by rw [← byt0 h0]; omega
  have h1 : 1 < s.size := by omega
  have s2 : (2 : Int) ≤ (s.size : Int) := by omega
  have s1 : ¬ (s.size : Int) ≤ 1 := by omega
  have s1' : (1 : Int) < (s.size : Int) := by omega
  have hs1 : simpleEsc (byt s 1) = -1 := by rw [hc]; decide
  have hx1 : ¬ (byt s 1 = 120 ∨ byt s 1 = 88 ∨ byt s 1 = 117 ∨ byt s 1 = 85) := by omega
  have ho1 : 48 ≤ byt s 1 ∧ byt s 1 ≤ 51 := by omega
  have ec : ((s[1]'h1).toNat : Int) = 48 := by rw [← byt_of h1]; omega
  have l2 : ¬ (s.size : Int) - 2 < 2 := by omega
  have hT2 := tail2 s h1
  obtain ⟨v2, hv2⟩ : ∃ v, s.extract 2 s.size = v := ⟨_, rfl⟩
  rw [hv2] at hT2
  have hsz := hT2.size
  have g0 : 0 < v2.size := by omega
  have g1 : 1 < v2.size := by omega
  have m0 := byt_lt s 2
  have m1 := byt_lt s 3
  have q0 : (v2[0]'g0).toNat = byt s 2 := hT2.get 0 g0
  have q1 : (v2[1]'g1).toNat = byt s 3 := hT2.get 1 g1
  have w2 : (2 : Int) ≤ (v2.size : Int) := by omega
  have w1' : (1 : Int) < (v2.size : Int) := by omega
  have w0' : (0 : Int) < (v2.size : Int) := by omega
  have hu : uChar s = if isOct (byt s 2) && isOct (byt s 3) then some (((byt s 1 : Nat) - 48 : Int) * 64 + ((byt s 2 : Nat) - 48 : Int) * 8 + ((byt s 3 : Nat) - 48 : Int), true, 4) else none := by unfold uChar; rw [if_neg hb0, if_neg (by omega), if_neg hn, hs1, if_neg (by decide), if_neg hx1, if_pos ho1, if_neg hl]
  rw [hc] at hu
  obtain ⟨x0, hx0⟩ : ∃ x, byt s 2 = x := ⟨_, rfl⟩
  obtain ⟨x1, hx1'⟩ : ∃ x, byt s 3 = x := ⟨_, rfl⟩
  rw [hx0] at hu m0 q0
  rw [hx1'] at hu m1 q1
  have X0 := Lib.hid hx0
  have X1 := Lib.hid hx1'
  have Hu := Lib.hid hu
  have HT2 := Lib.hid hT2
  clear hu h hn hc hb0 hs1 hx1 ho1 hx0 hx1' hT2
  go_enter Tryf.func83, Tryf.ntmps83
  go_wp2_with fail
  have Hv2 := Lib.hid hv2
  clear hv2
  go_loopg [5, 19, 20] 3 (fun g ev vv jv wr => OctRel s 48 g vv jv ∧ w = wr ∧ ev = .nilIface)
  case atStart => exact ⟨.inl ⟨rfl, rfl, Nat.le_refl _⟩, rfl, rfl⟩
  case round =>
    obtain ⟨hrel, rfl, rfl⟩ := hrel
    unfold OctRel at hrel
    rw [X0.out, X1.out] at hrel
    rcases hrel with ⟨rfl, rfl, hg⟩ | ⟨rfl, ho, rfl, hg⟩ | ⟨rfl, ho, ho1, rfl, hg⟩
    · by_cases hlo : (x0 : Int) < 48
      · have hne : uChar s = none := by rw [Hu.out, if_neg]; simp [isOct]; omega
        have Hu := Lib.hid hne
        clear hne
        go_wp2_with fail
        refine (errorf_2 _ (by exact answers_low hF hlow)).mono ?_
        rintro e w1 ⟨E, m, rfl, hE, hm, hb⟩
        have Hm := Lib.hid hm
        clear hm
        go_wp2_with fail
        refine bodyPost_ret (v := .tuple #[.int .i32 0, .bool false, .string ⟨#[]⟩, .iface 144 (.pointer (some ⟨E, 0, none⟩))]) ?_ rfl ?_
        · simp [results, Tryf.results83, go_sem]
        · exact UPost.no Hu.out (by repeat (first | exact Below.refl _ _ | apply below_drew | apply below_drewN | apply below_alloc | apply below_grow)) hE Hm.out hb
      by_cases hhi : 55 < (x0 : Int)
      · have hne : uChar s = none := by rw [Hu.out, if_neg]; simp [isOct]; omega
        have Hu := Lib.hid hne
        clear hne
        go_wp2_with fail
        refine (errorf_2 _ (by exact answers_low hF hlow)).mono ?_
        rintro e w1 ⟨E, m, rfl, hE, hm, hb⟩
        have Hm := Lib.hid hm
        clear hm
        go_wp2_with fail
        refine bodyPost_ret (v := .tuple #[.int .i32 0, .bool false, .string ⟨#[]⟩, .iface 144 (.pointer (some ⟨E, 0, none⟩))]) ?_ rfl ?_
        · simp [results, Tryf.results83, go_sem]
        · exact UPost.no Hu.out (by repeat (first | exact Below.refl _ _ | apply below_drew | apply below_drewN | apply below_alloc | apply below_grow)) hE Hm.out hb
      have hiso : isOct x0 = true := isOct_iff.2 (by omega)
      go_wp2_with fail
      go_roundg 2
      case measure => omega
      case rel => exact ⟨.inr (.inl ⟨rfl, by rw [X0.out]; exact hiso, by rw [X0.out]; go_num, Nat.le_refl _⟩), rfl, rfl⟩
    · have hob := isOct_iff.1 ho
      have Ho := Lib.hid ho
      clear ho
      by_cases hlo : (x1 : Int) < 48
      · have hne : uChar s = none := by rw [Hu.out, if_neg]; simp [isOct]; omega
        have Hu := Lib.hid hne
        clear hne
        go_wp2_with fail
        refine (errorf_2 _ (by exact answers_low hF hlow)).mono ?_
        rintro e w1 ⟨E, m, rfl, hE, hm, hb⟩
        have Hm := Lib.hid hm
        clear hm
        go_wp2_with fail
        refine bodyPost_ret (v := .tuple #[.int .i32 0, .bool false, .string ⟨#[]⟩, .iface 144 (.pointer (some ⟨E, 0, none⟩))]) ?_ rfl ?_
        · simp [results, Tryf.results83, go_sem]
        · exact UPost.no Hu.out (by repeat (first | exact Below.refl _ _ | apply below_drew | apply below_drewN | apply below_alloc | apply below_grow)) hE Hm.out hb
      by_cases hhi : 55 < (x1 : Int)
      · have hne : uChar s = none := by rw [Hu.out, if_neg]; simp [isOct]; omega
        have Hu := Lib.hid hne
        clear hne
        go_wp2_with fail
        refine (errorf_2 _ (by exact answers_low hF hlow)).mono ?_
        rintro e w1 ⟨E, m, rfl, hE, hm, hb⟩
        have Hm := Lib.hid hm
        clear hm
        go_wp2_with fail
        refine bodyPost_ret (v := .tuple #[.int .i32 0, .bool false, .string ⟨#[]⟩, .iface 144 (.pointer (some ⟨E, 0, none⟩))]) ?_ rfl ?_
        · simp [results, Tryf.results83, go_sem]
        · exact UPost.no Hu.out (by repeat (first | exact Below.refl _ _ | apply below_drew | apply below_drewN | apply below_alloc | apply below_grow)) hE Hm.out hb
      have hiso : isOct x1 = true := isOct_iff.2 (by omega)
      go_wp2_with fail
      go_roundg 1
      case measure => omega
      case rel => exact ⟨.inr (.inr ⟨rfl, by rw [X0.out]; exact Ho.out, by rw [X1.out]; exact hiso, by rw [X0.out, X1.out]; go_num, Nat.le_refl _⟩), rfl, rfl⟩
    · have hob := isOct_iff.1 ho
      have hob1 := isOct_iff.1 ho1
      have hfin : uChar s = some (((48 - 48) * 8 + ((x0 : Nat) - 48 : Int)) * 8 + ((x1 : Nat) - 48 : Int), true, 4) := by
        rw [Hu.out, ho, ho1]
        simp <;> omega
      have Hf := Lib.hid hfin
      clear ho ho1 hfin
      go_wp2_with fail
      refine bodyPost_ret (v := .tuple #[.int .i32 (((48 - 48) * 8 + ((x0 : Nat) - 48 : Int)) * 8 + ((x1 : Nat) - 48 : Int)), .bool true, .string (v2.extract 2 v2.size), .nilIface]) ?_ rfl ?_
      · simp [results, Tryf.results83, go_sem]
      · exact UPost.ok Hf.out (by rw [HT2.out.cut 2]) (Below.refl _ _)

set_option maxHeartbeats 4000000 in
set_option maxRecDepth 100000 in
theorem uc_o49long {F : Stop.Interp} {W0 w : World} (hF : F.answers W0.tape) (_hT : Tabs W0) (hlow : Below W0.heap.size W0 w) (s : ByteArray) (h0 : 0 < s.size) (hs : s.size ≤ 1099511627776) (h : byt s 0 = 92) (hn : ¬ s.size ≤ 1) (hc : byt s 1 = 49) (hl : ¬ s.size < 4) :
    Calls Tryf.prog 83 #[.string s] w (UPost (uChar s) s w) := by
  have s0 : (0 : Int) < (s.size : Int) := by omega
  have hb0 : ¬ 128 ≤ byt s 0 := by omega
  have e92 : ((s[0]'h0).toNat : Int) = 92 := by rw [← byt0 h0]; omega
  have h1 : 1 < s.size := by omega
  have s2 : (2 : Int) ≤ (s.size : Int) := by omega
  have s1 : ¬ (s.size : Int) ≤ 1 := by omega
  have s1' : (1 : Int) < (s.size : Int) := by omega
  have hs1 : simpleEsc (byt s 1) = -1 := by rw [hc]; decide
  have hx1 : ¬ (byt s 1 = 120 ∨ byt s 1 = 88 ∨ byt s 1 = 117 ∨ byt s 1 = 85) := by omega
  have ho1 : 48 ≤ byt s 1 ∧ byt s 1 ≤ 51 := by omega
  have ec : ((s[1]'h1).toNat : Int) = 49 := by rw [← byt_of h1]; omega
  have l2 : ¬ (s.size : Int) - 2 < 2 := by omega
  have hT2 := tail2 s h1
  obtain ⟨v2, hv2⟩ : ∃ v, s.extract 2 s.size = v := ⟨_, rfl⟩
  rw [hv2] at hT2
  have hsz := hT2.size
  have g0 : 0 < v2.size := by omega
  have g1 : 1 < v2.size := by omega
  have m0 := byt_lt s 2
  have m1 := byt_lt s 3
  have q0 : (v2[0]'g0).toNat = byt s 2 := hT2.get 0 g0
  have q1 : (v2[1]'g1).toNat = byt s 3 := hT2.get 1 g1
  have w2 : (2 : Int) ≤ (v2.size : Int) := by omega
  have w1' : (1 : Int) < (v2.size : Int) := by omega
  have w0' : (0 : Int) < (v2.size : Int) := by omega
  have hu : uChar s = if isOct (byt s 2) && isOct (byt s 3) then some (((byt s 1 : Nat) - 48 : Int) * 64 + ((byt s 2 : Nat) - 48 : Int) * 8 + ((byt s 3 : Nat) - 48 : Int), true, 4) else none := by unfold uChar; rw [if_neg hb0, if_neg (by omega), if_neg hn, hs1, if_neg (by decide), if_neg hx1, if_pos ho1, if_neg hl]
  rw [hc] at hu
  obtain ⟨x0, hx0⟩ : ∃ x, byt s 2 = x := ⟨_, rfl⟩
  obtain ⟨x1, hx1'⟩ : ∃ x, byt s 3 = x := ⟨_, rfl⟩
  rw [hx0] at hu m0 q0
  rw [hx1'] at hu m1 q1
  have X0 := Lib.hid hx0
  have X1 := Lib.hid hx1'
  have Hu := Lib.hid hu
  have HT2 := Lib.hid hT2
  clear hu h hn hc hb0 hs1 hx1 ho1 hx0 hx1' hT2
  go_enter Tryf.func83, Tryf.ntmps83
  go_wp2_with fail
  have Hv2 := Lib.hid hv2
  clear hv2
  go_loopg [5, 19, 20] 3 (fun g ev vv jv wr => OctRel s 49 g vv jv ∧ w = wr ∧ ev = .nilIface)
  case atStart => exact ⟨.inl ⟨rfl, rfl, Nat.le_refl _⟩, rfl, rfl⟩
  case round =>
    obtain ⟨hrel, rfl, rfl⟩ := hrel
    unfold OctRel at hrel
    rw [X0.out, X1.out] at hrel
    rcases hrel with ⟨rfl, rfl, hg⟩ | ⟨rfl, ho, rfl, hg⟩ | ⟨rfl, ho, ho1, rfl, hg⟩
    · by_cases hlo : (x0 : Int) < 48
      · have hne : uChar s = none := by rw [Hu.out, if_neg]; simp [isOct]; omega
        have Hu := Lib.hid hne
        clear hne
        go_wp2_with fail
        refine (errorf_2 _ (by exact answers_low hF hlow)).mono ?_
        rintro e w1 ⟨E, m, rfl, hE, hm, hb⟩
        have Hm := Lib.hid hm
        clear hm
        go_wp2_with fail
        refine bodyPost_ret (v := .tuple #[.int .i32 0, .bool false, .string ⟨#[]⟩, .iface 144 (.pointer (some ⟨E, 0, none⟩))]) ?_ rfl ?_
        · simp [results, Tryf.results83, go_sem]
        · exact UPost.no Hu.out (by repeat (first | exact Below.refl _ _ | apply below_drew | apply below_drewN | apply below_alloc | apply below_grow)) hE Hm.out hb
      by_cases hhi : 55 < (x0 : Int)
      · have hne : uChar s = none := by rw [Hu.out, if_neg]; simp [isOct]; omega
        have Hu := Lib.hid hne
        clear hne
        go_wp2_with fail
        refine (errorf_2 _ (by exact answers_low hF hlow)).mono ?_
        rintro e w1 ⟨E, m, rfl, hE, hm, hb⟩
        have Hm := Lib.hid hm
        clear hm
        go_wp2_with fail
        refine bodyPost_ret (v := .tuple #[.int .i32 0, .bool false, .string ⟨#[]⟩, .iface 144 (.pointer (some ⟨E, 0, none⟩))]) ?_ rfl ?_
        · simp [results, Tryf.results83, go_sem]
        · exact UPost.no Hu.out (by repeat (first | exact Below.refl _ _ | apply below_drew | apply below_drewN | apply below_alloc | apply below_grow)) hE Hm.out hb
      have hiso : isOct x0 = true := isOct_iff.2 (by omega)
      go_wp2_with fail
      go_roundg 2
      case measure => omega
      case rel => exact ⟨.inr (.inl ⟨rfl, by rw [X0.out]; exact hiso, by rw [X0.out]; go_num, Nat.le_refl _⟩), rfl, rfl⟩
    · have hob := isOct_iff.1 ho
      have Ho := Lib.hid ho
      clear ho
      by_cases hlo : (x1 : Int) < 48
      · have hne : uChar s = none := by rw [Hu.out, if_neg]; simp [isOct]; omega
        have Hu := Lib.hid hne
        clear hne
        go_wp2_with fail
        refine (errorf_2 _ (by exact answers_low hF hlow)).mono ?_
        rintro e w1 ⟨E, m, rfl, hE, hm, hb⟩
        have Hm := Lib.hid hm
        clear hm
        go_wp2_with fail
        refine bodyPost_ret (v := .tuple #[.int .i32 0, .bool false, .string ⟨#[]⟩, .iface 144 (.pointer (some ⟨E, 0, none⟩))]) ?_ rfl ?_
        · simp [results, Tryf.results83, go_sem]
        · exact UPost.no Hu.out (by repeat (first | exact Below.refl _ _ | apply below_drew | apply below_drewN | apply below_alloc | apply below_grow)) hE Hm.out hb
      by_cases hhi : 55 < (x1 : Int)
      · have hne : uChar s = none := by rw [Hu.out, if_neg]; simp [isOct]; omega
        have Hu := Lib.hid hne
        clear hne
        go_wp2_with fail
        refine (errorf_2 _ (by exact answers_low hF hlow)).mono ?_
        rintro e w1 ⟨E, m, rfl, hE, hm, hb⟩
        have Hm := Lib.hid hm
        clear hm
        go_wp2_with fail
        refine bodyPost_ret (v := .tuple #[.int .i32 0, .bool false, .string ⟨#[]⟩, .iface 144 (.pointer (some ⟨E, 0, none⟩))]) ?_ rfl ?_
        · simp [results, Tryf.results83, go_sem]
        · exact UPost.no Hu.out (by repeat (first | exact Below.refl _ _ | apply below_drew | apply below_drewN | apply below_alloc | apply below_grow)) hE Hm.out hb
      have hiso : isOct x1 = true := isOct_iff.2 (by omega)
      go_wp2_with fail
      go_roundg 1
      case measure => omega
      case rel => exact ⟨.inr (.inr ⟨rfl, by rw [X0.out]; exact Ho.out, by rw [X1.out]; exact hiso, by rw [X0.out, X1.out]; go_num, Nat.le_refl _⟩), rfl, rfl⟩
    · have hob := isOct_iff.1 ho
      have hob1 := isOct_iff.1 ho1
      have hfin : uChar s = some (((49 - 48) * 8 + ((x0 : Nat) - 48 : Int)) * 8 + ((x1 : Nat) - 48 : Int), true, 4) := by
        rw [Hu.out, ho, ho1]
        simp <;> omega
      have Hf := Lib.hid hfin
      clear ho ho1 hfin
      go_wp2_with fail
      refine bodyPost_ret (v := .tuple #[.int .i32 (((49 - 48) * 8 + ((x0 : Nat) - 48 : Int)) * 8 + ((x1 : Nat) - 48 : Int)), .bool true, .string (v2.extract 2 v2.size), .nilIface]) ?_ rfl ?_
      · simp [results, Tryf.results83, go_sem]
      · exact UPost.ok Hf.out (by rw [HT2.out.cut 2]) (Below.refl _ _)

set_option maxHeartbeats 4000000 in
set_option maxRecDepth 100000 in
theorem uc_o50long {F : Stop.Interp} {W0 w : World} (hF : F.answers W0.tape) (_hT : Tabs W0) (hlow : Below W0.heap.size W0 w) (s : ByteArray) (h0 : 0 < s.size) (hs : s.size ≤ 1099511627776) (h : byt s 0 = 92) (hn : ¬ s.size ≤ 1) (hc : byt s 1 = 50) (hl : ¬ s.size < 4) :
    Calls Tryf.prog 83 #[.string s] w (UPost (uChar s) s w) := by
  have s0 : (0 : Int) < (s.size : Int) := by omega
  have hb0 : ¬ 128 ≤ byt s 0 := by omega
  have e92 : ((s[0]'h0).toNat : Int) = 92 := by rw [← byt0 h0]; omega
  have h1 : 1 < s.size := by omega
  have s2 : (2 : Int) ≤ (s.size : Int) := by omega
  have s1 : ¬ (s.size : Int) ≤ 1 := by omega
  have s1' : (1 : Int) < (s.size : Int) := by omega
  have hs1 : simpleEsc (byt s 1) = -1 := by rw [hc]; decide
  have hx1 : ¬ (byt s 1 = 120 ∨ byt s 1 = 88 ∨ byt s 1 = 117 ∨ byt s 1 = 85) := by omega
  have ho1 : 48 ≤ byt s 1 ∧ byt s 1 ≤ 51 := by omega
  have ec : ((s[1]'h1).toNat : Int) = 50 := by rw [← byt_of h1]; omega
  have l2 : ¬ (s.size : Int) - 2 < 2 := by omega
  have hT2 := tail2 s h1
  obtain ⟨v2, hv2⟩ : ∃ v, s.extract 2 s.size = v := ⟨_, rfl⟩
  rw [hv2] at hT2
  have hsz := hT2.size
  have g0 : 0 < v2.size := by omega
  have g1 : 1 < v2.size := by omega
  have m0 := byt_lt s 2
  have m1 := byt_lt s 3
  have q0 : (v2[0]'g0).toNat = byt s 2 := hT2.get 0 g0
  have q1 : (v2[1]'g1).toNat = byt s 3 := hT2.get 1 g1
  have w2 : (2 : Int) ≤ (v2.size : Int) := by omega
  have w1' : (1 : Int) < (v2.size : Int) := by omega
  have w0' : (0 : Int) < (v2.size : Int) := by omega
  have hu : uChar s = if isOct (byt s 2) && isOct (byt s 3) then some (((byt s 1 : Nat) - 48 : Int) * 64 + ((byt s 2 : Nat) - 48 : Int) * 8 + ((byt s 3 : Nat) - 48 : Int), true, 4) else none := by unfold uChar; rw [if_neg hb0, if_neg (by omega), if_neg hn, hs1, if_neg (by decide), if_neg hx1, if_pos ho1, if_neg hl]
  rw [hc] at hu
  obtain ⟨x0, hx0⟩ : ∃ x, byt s 2 = x := ⟨_, rfl⟩
  obtain ⟨x1, hx1'⟩ : ∃ x, byt s 3 = x := ⟨_, rfl⟩
  rw [hx0] at hu m0 q0
  rw [hx1'] at hu m1 q1
  have X0 := Lib.hid hx0
  have X1 := Lib.hid hx1'
  have Hu := Lib.hid hu
  have HT2 := Lib.hid hT2
  clear hu h hn hc hb0 hs1 hx1 ho1 hx0 hx1' hT2
  go_enter Tryf.func83, Tryf.ntmps83
  go_wp2_with fail
  have Hv2 := Lib.hid hv2
  clear hv2
  go_loopg [5, 19, 20] 3 (fun g ev vv jv wr => OctRel s 50 g vv jv ∧ w = wr ∧ ev = .nilIface)
  case atStart => exact ⟨.inl ⟨rfl, rfl, Nat.le_refl _⟩, rfl, rfl⟩
  case round =>
    obtain ⟨hrel, rfl, rfl⟩ := hrel
    unfold OctRel at hrel
    rw [X0.out, X1.out] at hrel
    rcases hrel with ⟨rfl, rfl, hg⟩ | ⟨rfl, ho, rfl, hg⟩ | ⟨rfl, ho, ho1, rfl, hg⟩
    · by_cases hlo : (x0 : Int) < 48
      · have hne : uChar s = none := by rw [Hu.out, if_neg]; simp [isOct]; omega
        have Hu := Lib.hid hne
        clear hne
        go_wp2_with fail
        refine (errorf_2 _ (by exact answers_low hF hlow)).mono ?_
        rintro e w1 ⟨E, m, rfl, hE, hm, hb⟩
        have Hm := Lib.hid hm
        clear hm
        go_wp2_with fail
        refine bodyPost_ret (v := .tuple #[.int .i32 0, .bool false, .string ⟨#[]⟩, .iface 144 (.pointer (some ⟨E, 0, none⟩))]) ?_ rfl ?_
        · simp [results, Tryf.results83, go_sem]
        · exact UPost.no Hu.out (by repeat (first | exact Below.refl _ _ | apply below_drew | apply below_drewN | apply below_alloc | apply below_grow)) hE Hm.out hb
      by_cases hhi : 55 < (x0 : Int)
      · have hne : uChar s = none := by rw [Hu.out, if_neg]; simp [isOct]; omega
        have Hu := Lib.hid hne
        clear hne
        go_wp2_with fail
        refine (errorf_2 _ (by exact answers_low hF hlow)).mono ?_
        rintro e w1 ⟨E, m, rfl, hE, hm, hb⟩
        have Hm := Lib.hid hm
        clear hm
        go_wp2_with fail
        refine bodyPost_ret (v := .tuple #[.int .i32 0, .bool false, .string ⟨#[]⟩, .iface 144 (.pointer (some ⟨E, 0, none⟩))]) ?_ rfl ?_
        · simp [results, Tryf.results83, go_sem]
        · exact UPost.no Hu.out (by repeat (first | exact Below.refl _ _ | apply below_drew | apply below_drewN | apply below_alloc | apply below_grow)) hE Hm.out hb
      have hiso : isOct x0 = true := isOct_iff.2 (by omega)
      go_wp2_with fail
      go_roundg 2
      case measure => omega
      case rel => exact ⟨.inr (.inl ⟨rfl, by rw [X0.out]; exact hiso, by rw [X0.out]; go_num, Nat.le_refl _⟩), rfl, rfl⟩
    · have hob := isOct_iff.1 ho
      have Ho := Lib.hid ho
      clear ho
      by_cases hlo : (x1 : Int) < 48
      · have hne : uChar s = none := by rw [Hu.out, if_neg]; simp [isOct]; omega
        have Hu := Lib.hid hne
        clear hne
        go_wp2_with fail
        refine (errorf_2 _ (by exact answers_low hF hlow)).mono ?_
        rintro e w1 ⟨E, m, rfl, hE, hm, hb⟩
        have Hm := Lib.hid hm
        clear hm
        go_wp2_with fail
        refine bodyPost_ret (v := .tuple #[.int .i32 0, .bool false, .string ⟨#[]⟩, .iface 144 (.pointer (some ⟨E, 0, none⟩))]) ?_ rfl ?_
        · simp [results, Tryf.results83, go_sem]
        · exact UPost.no Hu.out (by repeat (first | exact Below.refl _ _ | apply below_drew | apply below_drewN | apply below_alloc | apply below_grow)) hE Hm.out hb
      by_cases hhi : 55 < (x1 : Int)
      · have hne : uChar s = none := by rw [Hu.out, if_neg]; simp [isOct]; omega
        have Hu := Lib.hid hne
        clear hne
        go_wp2_with fail
        refine (errorf_2 _ (by exact answers_low hF hlow)).mono ?_
        rintro e w1 ⟨E, m, rfl, hE, hm, hb⟩
        have Hm := Lib.hid hm
        clear hm
        go_wp2_with fail
        refine bodyPost_ret (v := .tuple #[.int .i32 0, .bool false, .string ⟨#[]⟩, .iface 144 (.pointer (some ⟨E, 0, none⟩))]) ?_ rfl ?_
        · simp [results, Tryf.results83, go_sem]
        · exact UPost.no Hu.out (by repeat (first | exact Below.refl _ _ | apply below_drew | apply below_drewN | apply below_alloc | apply below_grow)) hE Hm.out hb
      have hiso : isOct x1 = true := isOct_iff.2 (by omega)
      go_wp2_with fail
      go_roundg 1
      case measure => omega
      case rel => exact ⟨.inr (.inr ⟨rfl, by rw [X0.out]; exact Ho.out, by rw [X1.out]; exact hiso, by rw [X0.out, X1.out]; go_num, Nat.le_refl _⟩), rfl, rfl⟩
    · have hob := isOct_iff.1 ho
      have hob1 := isOct_iff.1 ho1
      have hfin : uChar s = some (((50 - 48) * 8 + ((x0 : Nat) - 48 : Int)) * 8 + ((x1 : Nat) - 48 : Int), true, 4) := by
        rw [Hu.out, ho, ho1]
        simp <;> omega
      have Hf := Lib.hid hfin
      clear ho ho1 hfin
      go_wp2_with fail
      refine bodyPost_ret (v := .tuple #[.int .i32 (((50 - 48) * 8 + ((x0 : Nat) - 48 : Int)) * 8 + ((x1 : Nat) - 48 : Int)), .bool true, .string (v2.extract 2 v2.size), .nilIface]) ?_ rfl ?_
      · simp [results, Tryf.results83, go_sem]
      · exact UPost.ok Hf.out (by rw [HT2.out.cut 2]) (Below.refl _ _)

set_option maxHeartbeats 4000000 in
set_option maxRecDepth 100000 in
theorem uc_o51long {F : Stop.Interp} {W0 w : World} (hF : F.answers W0.tape) (_hT : Tabs W0) (hlow : Below W0.heap.size W0 w) (s : ByteArray) (h0 : 0 < s.size) (hs : s.size ≤ 1099511627776) (h : byt s 0 = 92) (hn : ¬ s.size ≤ 1) (hc : byt s 1 = 51) (hl : ¬ s.size < 4) :
    Calls Tryf.prog 83 #[.string s] w (UPost (uChar s) s w) := by
  have s0 : (0 : Int) < (s.size : Int) := by omega
  have hb0 : ¬ 128 ≤ byt s 0 := by omega
  have e92 : ((s[0]'h0).toNat : Int) = 92 := by rw [← byt0 h0]; omega
  have h1 : 1 < s.size := by omega
  have s2 : (2 : Int) ≤ (s.size : Int) := by omega
  have s1 : ¬ (s.size : Int) ≤ 1 := by omega
  have s1' : (1 : Int) < (s.size : Int) := by omega
  have hs1 : simpleEsc (byt s 1) = -1 := by rw [hc]; decide
  have hx1 : ¬ (byt s 1 = 120 ∨ byt s 1 = 88 ∨ byt s 1 = 117 ∨ byt s 1 = 85) := by omega
  have ho1 : 48 ≤ byt s 1 ∧ byt s 1 ≤ 51 := by omega
  have ec : ((s[1]'h1).toNat : Int) = 51 := by rw [← byt_of h1]; omega
  have l2 : ¬ (s.size : Int) - 2 < 2 := by omega
  have hT2 := tail2 s h1
  obtain ⟨v2, hv2⟩ : ∃ v, s.extract 2 s.size = v := ⟨_, rfl⟩
  rw [hv2] at hT2
  have hsz := hT2.size
  have g0 : 0 < v2.size := by omega
  have g1 : 1 < v2.size := by omega
  have m0 := byt_lt s 2
  have m1 := byt_lt s 3
  have q0 : (v2[0]'g0).toNat = byt s 2 := hT2.get 0 g0
  have q1 : (v2[1]'g1).toNat = byt s 3 := hT2.get 1 g1
  have w2 : (2 : Int) ≤ (v2.size : Int) := by omega
  have w1' : (1 : Int) < (v2.size : Int) := by omega
  have w0' : (0 : Int) < (v2.size : Int) := by omega
  have hu : uChar s = if isOct (byt s 2) && isOct (byt s 3) then some (((byt s 1 : Nat) - 48 : Int) * 64 + ((byt s 2 : Nat) - 48 : Int) * 8 + ((byt s 3 : Nat) - 48 : Int), true, 4) else none := by unfold uChar; rw [if_neg hb0, if_neg (by omega), if_neg hn, hs1, if_neg (by decide), if_neg hx1, if_pos ho1, if_neg hl]
  rw [hc] at hu
  obtain ⟨x0, hx0⟩ : ∃ x, byt s 2 = x := ⟨_, rfl⟩
  obtain ⟨x1, hx1'⟩ : ∃ x, byt s 3 = x := ⟨_, rfl⟩
  rw [hx0] at hu m0 q0
  rw [hx1'] at hu m1 q1
  have X0 := Lib.hid hx0
  have X1 := Lib.hid hx1'
  have Hu := Lib.hid hu
  have HT2 := Lib.hid hT2
  clear hu h hn hc hb0 hs1 hx1 ho1 hx0 hx1' hT2
  go_enter Tryf.func83, Tryf.ntmps83
  go_wp2_with fail
  have Hv2 := Lib.hid hv2
  clear hv2
  go_loopg [5, 19, 20] 3 (fun g ev vv jv wr => OctRel s 51 g vv jv ∧ w = wr ∧ ev = .nilIface)
  case atStart => exact ⟨.inl ⟨rfl, rfl, Nat.le_refl _⟩, rfl, rfl⟩
  case round =>
    obtain ⟨hrel, rfl, rfl⟩ := hrel
    unfold OctRel at hrel
    rw [X0.out, X1.out] at hrel
    rcases hrel with ⟨rfl, rfl, hg⟩ | ⟨rfl, ho, rfl, hg⟩ | ⟨rfl, ho, ho1, rfl, hg⟩
    · by_cases hlo : (x0 : Int) < 48
      · have hne : uChar s = none := by rw [Hu.out, if_neg]; simp [isOct]; omega
        have Hu := Lib.hid hne
        clear hne
        go_wp2_with fail
        refine (errorf_2 _ (by exact answers_low hF hlow)).mono ?_
        rintro e w1 ⟨E, m, rfl, hE, hm, hb⟩
        have Hm := Lib.hid hm
        clear hm
        go_wp2_with fail
        refine bodyPost_ret (v := .tuple #[.int .i32 0, .bool false, .string ⟨#[]⟩, .iface 144 (.pointer (some ⟨E, 0, none⟩))]) ?_ rfl ?_
        · simp [results, Tryf.results83, go_sem]
        · exact UPost.no Hu.out (by repeat (first | exact Below.refl _ _ | apply below_drew | apply below_drewN | apply below_alloc | apply below_grow)) hE Hm.out hb
      by_cases hhi : 55 < (x0 : Int)
      · have hne : uChar s = none := by rw [Hu.out, if_neg]; simp [isOct]; omega
        have Hu := Lib.hid hne
        clear hne
        go_wp2_with fail
        refine (errorf_2 _ (by exact answers_low hF hlow)).mono ?_
        rintro e w1 ⟨E, m, rfl, hE, hm, hb⟩
        have Hm := Lib.hid hm
        clear hm
        go_wp2_with fail
        refine bodyPost_ret (v := .tuple #[.int .i32 0, .bool false, .string ⟨#[]⟩, .iface 144 (.pointer (some ⟨E, 0, none⟩))]) ?_ rfl ?_
        · simp [results, Tryf.results83, go_sem]
        · exact UPost.no Hu.out (by repeat (first | exact Below.refl _ _ | apply below_drew | apply below_drewN | apply below_alloc | apply below_grow)) hE Hm.out hb
      have hiso : isOct x0 = true := isOct_iff.2 (by omega)
      go_wp2_with fail
      go_roundg 2
      case measure => omega
      case rel => exact ⟨.inr (.inl ⟨rfl, by rw [X0.out]; exact hiso, by rw [X0.out]; go_num, Nat.le_refl _⟩), rfl, rfl⟩
    · have hob := isOct_iff.1 ho
      have Ho := Lib.hid ho
      clear ho
      by_cases hlo : (x1 : Int) < 48
      · have hne : uChar s = none := by rw [Hu.out, if_neg]; simp [isOct]; omega
        have Hu := Lib.hid hne
        clear hne
        go_wp2_with fail
        refine (errorf_2 _ (by exact answers_low hF hlow)).mono ?_
        rintro e w1 ⟨E, m, rfl, hE, hm, hb⟩
        have Hm := Lib.hid hm
        clear hm
        go_wp2_with fail
        refine bodyPost_ret (v := .tuple #[.int .i32 0, .bool false, .string ⟨#[]⟩, .iface 144 (.pointer (some ⟨E, 0, none⟩))]) ?_ rfl ?_
        · simp [results, Tryf.results83, go_sem]
        · exact UPost.no Hu.out (by repeat (first | exact Below.refl _ _ | apply below_drew | apply below_drewN | apply below_alloc | apply below_grow)) hE Hm.out hb
      by_cases hhi : 55 < (x1 : Int)
      · have hne : uChar s = none := by rw [Hu.out, if_neg]; simp [isOct]; omega
        have Hu := Lib.hid hne
        clear hne
        go_wp2_with fail
        refine (errorf_2 _ (by exact answers_low hF hlow)).mono ?_
        rintro e w1 ⟨E, m, rfl, hE, hm, hb⟩
        have Hm := Lib.hid hm
        clear hm
        go_wp2_with fail
        refine bodyPost_ret (v := .tuple #[.int .i32 0, .bool false, .string ⟨#[]⟩, .iface 144 (.pointer (some ⟨E, 0, none⟩))]) ?_ rfl ?_
        · simp [results, Tryf.results83, go_sem]
        · exact UPost.no Hu.out (by repeat (first | exact Below.refl _ _ | apply below_drew | apply below_drewN | apply below_alloc | apply below_grow)) hE Hm.out hb
      have hiso : isOct x1 = true := isOct_iff.2 (by omega)
      go_wp2_with fail
      go_roundg 1
      case measure => omega
      case rel => exact ⟨.inr (.inr ⟨rfl, by rw [X0.out]; exact Ho.out, by rw [X1.out]; exact hiso, by rw [X0.out, X1.out]; go_num, Nat.le_refl _⟩), rfl, rfl⟩
    · have hob := isOct_iff.1 ho
      have hob1 := isOct_iff.1 ho1
      have hfin : uChar s = some (((51 - 48) * 8 + ((x0 : Nat) - 48 : Int)) * 8 + ((x1 : Nat) - 48 : Int), true, 4) := by
        rw [Hu.out, ho, ho1]
        simp <;> omega
      have Hf := Lib.hid hfin
      clear ho ho1 hfin
      go_wp2_with fail
      refine bodyPost_ret (v := .tuple #[.int .i32 (((51 - 48) * 8 + ((x0 : Nat) - 48 : Int)) * 8 + ((x1 : Nat) - 48 : Int)), .bool true, .string (v2.extract 2 v2.size), .nilIface]) ?_ rfl ?_
      · simp [results, Tryf.results83, go_sem]
      · exact UPost.ok Hf.out (by rw [HT2.out.cut 2]) (Below.refl _ _)

end Go.Proofs.YtdpdgppjeekcmaaFmt

/-
  Walk: unescapeChar, its hexadecimal ways (printed by genuchar.py).
-/
namespace Go.Proofs.YtdpdgppjeekcmaaFmt
open Go Go.Lib Go.RowKit Go.Proofs
open Go.Extern.Stop Go.Stop Go.Extern

theorem hexN_succ (s : ByteArray) (n i : Nat) (v : Int) : hexN s (n + 1) i v = if unhexB' (byt s i) then hexN s n (i + 1) (shl4 v (unhexV (byt s i))) else none := rfl
theorem hexBr_succ (s : ByteArray) (f i d : Nat) (v : Int) : hexBr s (f + 1) i d v = if i < s.size ∧ byt s i ≠ 125 then (if unhexB' (byt s i) then (if 6 ≤ d then none else hexBr s f (i + 1) (d + 1) (shl4 v (unhexV (byt s i)))) else none) else if i < s.size ∧ d ≠ 0 then some (v, i) else none := rfl
theorem shl4_def (v x : Int) : bits BinOp.or .i32 (wrap32 (v * 16)) x = shl4 v x := by unfold shl4; rw [IntWalk.i32_left]

set_option maxHeartbeats 4000000 in
set_option maxRecDepth 100000 in
theorem uc_x_short {F : Stop.Interp} {W0 w : World} (hF : F.answers W0.tape) (_hT : Tabs W0) (hlow : Below W0.heap.size W0 w) (s : ByteArray) (h0 : 0 < s.size) (hs : s.size ≤ 1099511627776) (h : byt s 0 = 92) (hn : ¬ s.size ≤ 1) (hc : byt s 1 = 120) (hl : s.size - 2 < 2) :
    Calls Tryf.prog 83 #[.string s] w (UPost (uChar s) s w) := by
  have s0 : (0 : Int) < (s.size : Int) := by omega
  have hb0 : ¬ 128 ≤ byt s 0 := by omega
  have e92 : ((s[0]'h0).toNat : Int) = 92 := by rw [← byt0 h0]; omega
  have h1 : 1 < s.size := by omega
  have s2 : (2 : Int) ≤ (s.size : Int) := by omega
  have s1 : ¬ (s.size : Int) ≤ 1 := by omega
  have s1' : (1 : Int) < (s.size : Int) := by omega
  have hs1 : simpleEsc (byt s 1) = -1 := by rw [hc]; decide
  have hx1 : byt s 1 = 120 ∨ byt s 1 = 88 ∨ byt s 1 = 117 ∨ byt s 1 = 85 := by omega
  have hnb : ¬ (byt s 1 = 117 ∧ 2 < s.size ∧ byt s 2 = 123) := by omega
  have hw1 : escW (byt s 1) = 2 := by rw [hc]; rfl
  have ec : ((s[1]'h1).toNat : Int) = 120 := by rw [← byt_of h1]; omega

  have hT2 := tail2 s h1
  obtain ⟨v2, hv2⟩ : ∃ v, s.extract 2 s.size = v := ⟨_, rfl⟩
  rw [hv2] at hT2
  have hsz := hT2.size
  have hu : uChar s = none := by unfold uChar; rw [if_neg hb0, if_neg (by omega), if_neg hn, hs1, if_neg (by decide), if_pos hx1, if_neg hnb, hw1, if_pos hl]
  have l2 : (v2.size : Int) < 2 := by omega
  have Hu := Lib.hid hu
  have HT2 := Lib.hid hT2
  clear hu h hn hc hb0 hs1 hx1 hnb hw1 hT2
  go_enter Tryf.func83, Tryf.ntmps83
  go_wp2_with fail
  refine (errorf_0 _ (by exact answers_low hF hlow)).mono ?_
  rintro e w1 ⟨E, m, rfl, hE, hm, hb⟩
  have Hm := Lib.hid hm
  clear hm
  go_wp2_with fail
  refine bodyPost_ret (v := .tuple #[.int .i32 0, .bool false, .string ⟨#[]⟩, .iface 144 (.pointer (some ⟨E, 0, none⟩))]) ?_ rfl ?_
  · simp [results, Tryf.results83, go_sem]
  · exact UPost.no Hu.out (by repeat (first | exact Below.refl _ _ | apply below_drew | apply below_drewN | apply below_alloc | apply below_grow)) hE Hm.out hb

set_option maxHeartbeats 4000000 in
set_option maxRecDepth 100000 in
theorem uc_x_long {F : Stop.Interp} {W0 w : World} (hF : F.answers W0.tape) (_hT : Tabs W0) (hlow : Below W0.heap.size W0 w) (s : ByteArray) (h0 : 0 < s.size) (hs : s.size ≤ 1099511627776) (h : byt s 0 = 92) (hn : ¬ s.size ≤ 1) (hc : byt s 1 = 120) (hl : ¬ s.size - 2 < 2) :
    Calls Tryf.prog 83 #[.string s] w (UPost (uChar s) s w) := by
  have s0 : (0 : Int) < (s.size : Int) := by omega
  have hb0 : ¬ 128 ≤ byt s 0 := by omega
  have e92 : ((s[0]'h0).toNat : Int) = 92 := by rw [← byt0 h0]; omega
  have h1 : 1 < s.size := by omega
  have s2 : (2 : Int) ≤ (s.size : Int) := by omega
  have s1 : ¬ (s.size : Int) ≤ 1 := by omega
  have s1' : (1 : Int) < (s.size : Int) := by omega
  have hs1 : simpleEsc (byt s 1) = -1 := by rw [hc]; decide
  have hx1 : byt s 1 = 120 ∨ byt s 1 = 88 ∨ byt s 1 = 117 ∨ byt s 1 = 85 := by omega
  have hnb : ¬ (byt s 1 = 117 ∧ 2 < s.size ∧ byt s 2 = 123) := by omega
  have hw1 : escW (byt s 1) = 2 := by rw [hc]; rfl
  have ec : ((s[1]'h1).toNat : Int) = 120 := by rw [← byt_of h1]; omega

  have hT2 := tail2 s h1
  obtain ⟨v2, hv2⟩ : ∃ v, s.extract 2 s.size = v := ⟨_, rfl⟩
  rw [hv2] at hT2
  have hsz := hT2.size
  have hu : uChar s = hexEnd (2 + 2) (hexN s 2 2 0) := by unfold uChar; rw [if_neg hb0, if_neg (by omega), if_neg hn, hs1, if_neg (by decide), if_pos hx1, if_neg hnb, hw1, if_neg hl]
  have l2 : ¬ (v2.size : Int) < 2 := by omega
  have l3 : (2 : Int) ≤ (v2.size : Int) := by omega
  have Hu := Lib.hid hu
  have HT2 := Lib.hid hT2
  clear hu h hn hc hb0 hs1 hx1 hnb hw1 hT2
  go_enter Tryf.func83, Tryf.ntmps83
  go_wp2_with fail
  have Hv2 := Lib.hid hv2
  clear hv2
  go_loopg [5, 15, 16] 3 (fun g ev vv jv wr => ∃ (j : Nat) (v : Int), ev = .nilIface ∧ vv = .int .i32 v ∧ jv = .int .i64 (j : Nat) ∧ w = wr ∧ j ≤ 2 ∧ 2 < j + g ∧ Hid (hexN s (2 - j) (j + 2) v = hexN s 2 2 0))
  case atStart => exact ⟨0, 0, rfl, rfl, rfl, rfl, by omega, by omega, Lib.hid rfl⟩
  case round =>
    obtain ⟨j, v, rfl, rfl, rfl, rfl, hj, hg, heq⟩ := hrel
    by_cases hjn : (j : Int) < 2
    · have gj : j < v2.size := by omega
      have j0 : (0 : Int) ≤ (j : Int) := by omega
      have j1 : (j : Int) < (v2.size : Int) := by omega
      have qj : (v2[j]'gj).toNat = byt s (j + 2) := HT2.out.get j gj
      obtain ⟨x, hx⟩ : ∃ x, byt s (j + 2) = x := ⟨_, rfl⟩
      have hx256 : x < 256 := by rw [← hx]; exact byt_lt s _
      obtain ⟨k, hk⟩ : ∃ k, 2 - j = k + 1 := ⟨2 - j - 1, by omega⟩
      have hst := heq.out
      rw [hk, hexN_succ, hx] at hst
      rw [hx] at qj
      have HX := Lib.hid hx
      clear hx heq
      cases hux : unhexB' x with
      | false =>
        rw [hux] at hst
        have hne : uChar s = none := by rw [Hu.out, ← hst]; rfl
        have Hu := Lib.hid hne
        have Hux := Lib.hid hux
        clear hne hst hux
        go_wp2_with fail
        refine (unhex_any x hx256 _).mono ?_
        rintro e w' ⟨rfl, rfl⟩
        rw [Hux.out]
        go_wp2_with fail
        refine (errorf_0 _ (by exact answers_low hF hlow)).mono ?_
        rintro e w1 ⟨E, m, rfl, hE, hm, hb⟩
        have Hm := Lib.hid hm
        clear hm
        go_wp2_with fail
        refine bodyPost_ret (v := .tuple #[.int .i32 0, .bool false, .string ⟨#[]⟩, .iface 144 (.pointer (some ⟨E, 0, none⟩))]) ?_ rfl ?_
        · simp [results, Tryf.results83, go_sem]
        · exact UPost.no Hu.out (by repeat (first | exact Below.refl _ _ | apply below_drew | apply below_drewN | apply below_alloc | apply below_grow)) hE Hm.out hb
      | true =>
        rw [hux, if_pos rfl] at hst
        have hk2 : 2 - (j + 1) = k := by omega
        rw [← hk2] at hst
        have Hst := Lib.hid hst
        have Hux := Lib.hid hux
        have hsh := shl4_def v (unhexV x)
        clear hst hux hk hk2
        go_wp2_with fail
        refine (unhex_any x hx256 _).mono ?_
        rintro e w' ⟨rfl, rfl⟩
        rw [Hux.out]
        go_wp2_with fail
        go_roundg (2 - j)
        case measure => omega
        case rel => exact ⟨j + 1, shl4 v (unhexV x), rfl, rfl, by go_num, rfl, by omega, by omega, by rw [show j + 1 + 2 = j + 2 + 1 by omega]; exact Hst⟩
    · have hj2 : j = 2 := by omega
      subst hj2
      have hst := heq.out
      change some v = _ at hst
      have hu2 := Hu.out
      rw [← hst] at hu2
      clear heq
      by_cases hv : 1114111 < v
      · have hne : uChar s = none := by rw [hu2]; exact if_pos hv
        have Hu := Lib.hid hne
        clear hne hu2 hst
        go_wp2_with fail
        refine (errorf_0 _ (by exact answers_low hF hlow)).mono ?_
        rintro e w1 ⟨E, m, rfl, hE, hm, hb⟩
        have Hm := Lib.hid hm
        clear hm
        go_wp2_with fail
        refine bodyPost_ret (v := .tuple #[.int .i32 0, .bool false, .string ⟨#[]⟩, .iface 144 (.pointer (some ⟨E, 0, none⟩))]) ?_ rfl ?_
        · simp [results, Tryf.results83, go_sem]
        · exact UPost.no Hu.out (by repeat (first | exact Below.refl _ _ | apply below_drew | apply below_drewN | apply below_alloc | apply below_grow)) hE Hm.out hb
      · have hfin : uChar s = some (v, true, 2 + 2) := by rw [hu2]; exact if_neg hv
        have Hf := Lib.hid hfin
        clear hfin hu2 hst
        go_wp2_with fail
        refine bodyPost_ret (v := .tuple #[.int .i32 v, .bool true, .string (v2.extract 2 v2.size), .nilIface]) ?_ rfl ?_
        · simp [results, Tryf.results83, go_sem]
        · exact UPost.ok Hf.out (by rw [HT2.out.cut 2]) (Below.refl _ _)

set_option maxHeartbeats 4000000 in
set_option maxRecDepth 100000 in
theorem uc_X_short {F : Stop.Interp} {W0 w : World} (hF : F.answers W0.tape) (_hT : Tabs W0) (hlow : Below W0.heap.size W0 w) (s : ByteArray) (h0 : 0 < s.size) (hs : s.size ≤ 1099511627776) (h : byt s 0 = 92) (hn : ¬ s.size ≤ 1) (hc : byt s 1 = 88) (hl : s.size - 2 < 2) :
    Calls Tryf.prog 83 #[.string s] w (UPost (uChar s) s w) := by
  have s0 : (0 : Int) < (s.size : Int) := by omega
  have hb0 : ¬ 128 ≤ byt s 0 := by omega
  have e92 : ((s[0]'h0).toNat : Int) = 92 := by rw [← byt0 h0]; omega
  have h1 : 1 < s.size := by omega
  have s2 : (2 : Int) ≤ (s.size : Int) := by omega
  have s1 : ¬ (s.size : Int) ≤ 1 := by omega
  have s1' : (1 : Int) < (s.size : Int) := by omega
  have hs1 : simpleEsc (byt s 1) = -1 := by rw [hc]; decide
  have hx1 : byt s 1 = 120 ∨ byt s 1 = 88 ∨ byt s 1 = 117 ∨ byt s 1 = 85 := by omega
  have hnb : ¬ (byt s 1 = 117 ∧ 2 < s.size ∧ byt s 2 = 123) := by omega
  have hw1 : escW (byt s 1) = 2 := by rw [hc]; rfl
  have ec : ((s[1]'h1).toNat : Int) = 88 := by rw [← byt_of h1]; omega

  have hT2 := tail2 s h1
  obtain ⟨v2, hv2⟩ : ∃ v, s.extract 2 s.size = v := ⟨_, rfl⟩
  rw [hv2] at hT2
  have hsz := hT2.size
  have hu : uChar s = none := by unfold uChar; rw [if_neg hb0, if_neg (by omega), if_neg hn, hs1, if_neg (by decide), if_pos hx1, if_neg hnb, hw1, if_pos hl]
  have l2 : (v2.size : Int) < 2 := by omega
  have Hu := Lib.hid hu
  have HT2 := Lib.hid hT2
  clear hu h hn hc hb0 hs1 hx1 hnb hw1 hT2
  go_enter Tryf.func83, Tryf.ntmps83
  go_wp2_with fail
  refine (errorf_0 _ (by exact answers_low hF hlow)).mono ?_
  rintro e w1 ⟨E, m, rfl, hE, hm, hb⟩
  have Hm := Lib.hid hm
  clear hm
  go_wp2_with fail
  refine bodyPost_ret (v := .tuple #[.int .i32 0, .bool false, .string ⟨#[]⟩, .iface 144 (.pointer (some ⟨E, 0, none⟩))]) ?_ rfl ?_
  · simp [results, Tryf.results83, go_sem]
  · exact UPost.no Hu.out (by repeat (first | exact Below.refl _ _ | apply below_drew | apply below_drewN | apply below_alloc | apply below_grow)) hE Hm.out hb

set_option maxHeartbeats 4000000 in
set_option maxRecDepth 100000 in
theorem uc_X_long {F : Stop.Interp} {W0 w : World} (hF : F.answers W0.tape) (_hT : Tabs W0) (hlow : Below W0.heap.size W0 w) (s : ByteArray) (h0 : 0 < s.size) (hs : s.size ≤ 1099511627776) (h : byt s 0 = 92) (hn : ¬ s.size ≤ 1) (hc : byt s 1 = 88) (hl : ¬ s.size - 2 < 2) :
    Calls Tryf.prog 83 #[.string s] w (UPost (uChar s) s w) := by
  have s0 : (0 : Int) < (s.size : Int) := by omega
  have hb0 : ¬ 128 ≤ byt s 0 := by omega
  have e92 : ((s[0]'h0).toNat : Int) = 92 := by rw [← byt0 h0]; omega
  have h1 : 1 < s.size := by omega
  have s2 : (2 : Int) ≤ (s.size : Int) := by omega
  have s1 : ¬ (s.size : Int) ≤ 1 := by omega
  have s1' : (1 : Int) < (s.size : Int) := by omega
  have hs1 : simpleEsc (byt s 1) = -1 := by rw [hc]; decide
  have hx1 : byt s 1 = 120 ∨ byt s 1 = 88 ∨ byt s 1 = 117 ∨ byt s 1 = 85 := by omega
  have hnb : ¬ (byt s 1 = 117 ∧ 2 < s.size ∧ byt s 2 = 123) := by omega
  have hw1 : escW (byt s 1) = 2 := by rw [hc]; rfl
  have ec : ((s[1]'h1).toNat : Int) = 88 := by rw [← byt_of h1]; omega

  have hT2 := tail2 s h1
  obtain ⟨v2, hv2⟩ : ∃ v, s.extract 2 s.size = v := ⟨_, rfl⟩
  rw [hv2] at hT2
  have hsz := hT2.size
  have hu : uChar s = hexEnd (2 + 2) (hexN s 2 2 0) := by unfold uChar; rw [if_neg hb0, if_neg (by omega), if_neg hn, hs1, if_neg (by decide), if_pos hx1, if_neg hnb, hw1, if_neg hl]
  have l2 : ¬ (v2.size : Int) < 2 := by omega
  have l3 : (2 : Int) ≤ (v2.size : Int) := by omega
  have Hu := Lib.hid hu
  have HT2 := Lib.hid hT2
  clear hu h hn hc hb0 hs1 hx1 hnb hw1 hT2
  go_enter Tryf.func83, Tryf.ntmps83
  go_wp2_with fail
  have Hv2 := Lib.hid hv2
  clear hv2
  go_loopg [5, 15, 16] 3 (fun g ev vv jv wr => ∃ (j : Nat) (v : Int), ev = .nilIface ∧ vv = .int .i32 v ∧ jv = .int .i64 (j : Nat) ∧ w = wr ∧ j ≤ 2 ∧ 2 < j + g ∧ Hid (hexN s (2 - j) (j + 2) v = hexN s 2 2 0))
  case atStart => exact ⟨0, 0, rfl, rfl, rfl, rfl, by omega, by omega, Lib.hid rfl⟩
  case round =>
    obtain ⟨j, v, rfl, rfl, rfl, rfl, hj, hg, heq⟩ := hrel
    by_cases hjn : (j : Int) < 2
    · have gj : j < v2.size := by omega
      have j0 : (0 : Int) ≤ (j : Int) := by omega
      have j1 : (j : Int) < (v2.size : Int) := by omega
      have qj : (v2[j]'gj).toNat = byt s (j + 2) := HT2.out.get j gj
      obtain ⟨x, hx⟩ : ∃ x, byt s (j + 2) = x := ⟨_, rfl⟩
      have hx256 : x < 256 := by rw [← hx]; exact byt_lt s _
      obtain ⟨k, hk⟩ : ∃ k, 2 - j = k + 1 := ⟨2 - j - 1, by omega⟩
      have hst := heq.out
      rw [hk, hexN_succ, hx] at hst
      rw [hx] at qj
      have HX := Lib.hid hx
      clear hx heq
      cases hux : unhexB' x with
      | false =>
        rw [hux] at hst
        have hne : uChar s = none := by rw [Hu.out, ← hst]; rfl
        have Hu := Lib.hid hne
        have Hux := Lib.hid hux
        clear hne hst hux
        go_wp2_with fail
        refine (unhex_any x hx256 _).mono ?_
        rintro e w' ⟨rfl, rfl⟩
        rw [Hux.out]
        go_wp2_with fail
        refine (errorf_0 _ (by exact answers_low hF hlow)).mono ?_
        rintro e w1 ⟨E, m, rfl, hE, hm, hb⟩
        have Hm := Lib.hid hm
        clear hm
        go_wp2_with fail
        refine bodyPost_ret (v := .tuple #[.int .i32 0, .bool false, .string ⟨#[]⟩, .iface 144 (.pointer (some ⟨E, 0, none⟩))]) ?_ rfl ?_
        · simp [results, Tryf.results83, go_sem]
        · exact UPost.no Hu.out (by repeat (first | exact Below.refl _ _ | apply below_drew | apply below_drewN | apply below_alloc | apply below_grow)) hE Hm.out hb
      | true =>
        rw [hux, if_pos rfl] at hst
        have hk2 : 2 - (j + 1) = k := by omega
        rw [← hk2] at hst
        have Hst := Lib.hid hst
        have Hux := Lib.hid hux
        have hsh := shl4_def v (unhexV x)
        clear hst hux hk hk2
        go_wp2_with fail
        refine (unhex_any x hx256 _).mono ?_
        rintro e w' ⟨rfl, rfl⟩
        rw [Hux.out]
        go_wp2_with fail
        go_roundg (2 - j)
        case measure => omega
        case rel => exact ⟨j + 1, shl4 v (unhexV x), rfl, rfl, by go_num, rfl, by omega, by omega, by rw [show j + 1 + 2 = j + 2 + 1 by omega]; exact Hst⟩
    · have hj2 : j = 2 := by omega
      subst hj2
      have hst := heq.out
      change some v = _ at hst
      have hu2 := Hu.out
      rw [← hst] at hu2
      clear heq
      by_cases hv : 1114111 < v
      · have hne : uChar s = none := by rw [hu2]; exact if_pos hv
        have Hu := Lib.hid hne
        clear hne hu2 hst
        go_wp2_with fail
        refine (errorf_0 _ (by exact answers_low hF hlow)).mono ?_
        rintro e w1 ⟨E, m, rfl, hE, hm, hb⟩
        have Hm := Lib.hid hm
        clear hm
        go_wp2_with fail
        refine bodyPost_ret (v := .tuple #[.int .i32 0, .bool false, .string ⟨#[]⟩, .iface 144 (.pointer (some ⟨E, 0, none⟩))]) ?_ rfl ?_
        · simp [results, Tryf.results83, go_sem]
        · exact UPost.no Hu.out (by repeat (first | exact Below.refl _ _ | apply below_drew | apply below_drewN | apply below_alloc | apply below_grow)) hE Hm.out hb
      · have hfin : uChar s = some (v, true, 2 + 2) := by rw [hu2]; exact if_neg hv
        have Hf := Lib.hid hfin
        clear hfin hu2 hst
        go_wp2_with fail
        refine bodyPost_ret (v := .tuple #[.int .i32 v, .bool true, .string (v2.extract 2 v2.size), .nilIface]) ?_ rfl ?_
        · simp [results, Tryf.results83, go_sem]
        · exact UPost.ok Hf.out (by rw [HT2.out.cut 2]) (Below.refl _ _)

set_option maxHeartbeats 4000000 in
set_option maxRecDepth 100000 in
theorem uc_U_short {F : Stop.Interp} {W0 w : World} (hF : F.answers W0.tape) (_hT : Tabs W0) (hlow : Below W0.heap.size W0 w) (s : ByteArray) (h0 : 0 < s.size) (hs : s.size ≤ 1099511627776) (h : byt s 0 = 92) (hn : ¬ s.size ≤ 1) (hc : byt s 1 = 85) (hl : s.size - 2 < 8) :
    Calls Tryf.prog 83 #[.string s] w (UPost (uChar s) s w) := by
  have s0 : (0 : Int) < (s.size : Int) := by omega
  have hb0 : ¬ 128 ≤ byt s 0 := by omega
  have e92 : ((s[0]'h0).toNat : Int) = 92 := by rw [← byt0 h0]; omega
  have h1 : 1 < s.size := by omega
  have s2 : (2 : Int) ≤ (s.size : Int) := by omega
  have s1 : ¬ (s.size : Int) ≤ 1 := by omega
  have s1' : (1 : Int) < (s.size : Int) := by omega
  have hs1 : simpleEsc (byt s 1) = -1 := by rw [hc]; decide
  have hx1 : byt s 1 = 120 ∨ byt s 1 = 88 ∨ byt s 1 = 117 ∨ byt s 1 = 85 := by omega
  have hnb : ¬ (byt s 1 = 117 ∧ 2 < s.size ∧ byt s 2 = 123) := by omega
  have hw1 : escW (byt s 1) = 8 := by rw [hc]; rfl
  have ec : ((s[1]'h1).toNat : Int) = 85 := by rw [← byt_of h1]; omega

  have hT2 := tail2 s h1
  obtain ⟨v2, hv2⟩ : ∃ v, s.extract 2 s.size = v := ⟨_, rfl⟩
  rw [hv2] at hT2
  have hsz := hT2.size
  have hu : uChar s = none := by unfold uChar; rw [if_neg hb0, if_neg (by omega), if_neg hn, hs1, if_neg (by decide), if_pos hx1, if_neg hnb, hw1, if_pos hl]
  have l2 : (v2.size : Int) < 8 := by omega
  have Hu := Lib.hid hu
  have HT2 := Lib.hid hT2
  clear hu h hn hc hb0 hs1 hx1 hnb hw1 hT2
  go_enter Tryf.func83, Tryf.ntmps83
  go_wp2_with fail
  refine (errorf_0 _ (by exact answers_low hF hlow)).mono ?_
  rintro e w1 ⟨E, m, rfl, hE, hm, hb⟩
  have Hm := Lib.hid hm
  clear hm
  go_wp2_with fail
  refine bodyPost_ret (v := .tuple #[.int .i32 0, .bool false, .string ⟨#[]⟩, .iface 144 (.pointer (some ⟨E, 0, none⟩))]) ?_ rfl ?_
  · simp [results, Tryf.results83, go_sem]
  · exact UPost.no Hu.out (by repeat (first | exact Below.refl _ _ | apply below_drew | apply below_drewN | apply below_alloc | apply below_grow)) hE Hm.out hb

set_option maxHeartbeats 4000000 in
set_option maxRecDepth 100000 in
theorem uc_U_long {F : Stop.Interp} {W0 w : World} (hF : F.answers W0.tape) (_hT : Tabs W0) (hlow : Below W0.heap.size W0 w) (s : ByteArray) (h0 : 0 < s.size) (hs : s.size ≤ 1099511627776) (h : byt s 0 = 92) (hn : ¬ s.size ≤ 1) (hc : byt s 1 = 85) (hl : ¬ s.size - 2 < 8) :
    Calls Tryf.prog 83 #[.string s] w (UPost (uChar s) s w) := by
  have s0 : (0 : Int) < (s.size : Int) := by omega
  have hb0 : ¬ 128 ≤ byt s 0 := by omega
  have e92 : ((s[0]'h0).toNat : Int) = 92 := by rw [← byt0 h0]; omega
  have h1 : 1 < s.size := by omega
  have s2 : (2 : Int) ≤ (s.size : Int) := by omega
  have s1 : ¬ (s.size : Int) ≤ 1 := by omega
  have s1' : (1 : Int) < (s.size : Int) := by omega
  have hs1 : simpleEsc (byt s 1) = -1 := by rw [hc]; decide
  have hx1 : byt s 1 = 120 ∨ byt s 1 = 88 ∨ byt s 1 = 117 ∨ byt s 1 = 85 := by omega
  have hnb : ¬ (byt s 1 = 117 ∧ 2 < s.size ∧ byt s 2 = 123) := by omega
  have hw1 : escW (byt s 1) = 8 := by rw [hc]; rfl
  have ec : ((s[1]'h1).toNat : Int) = 85 := by rw [← byt_of h1]; omega

  have hT2 := tail2 s h1
  obtain ⟨v2, hv2⟩ : ∃ v, s.extract 2 s.size = v := ⟨_, rfl⟩
  rw [hv2] at hT2
  have hsz := hT2.size
  have hu : uChar s = hexEnd (8 + 2) (hexN s 8 2 0) := by unfold uChar; rw [if_neg hb0, if_neg (by omega), if_neg hn, hs1, if_neg (by decide), if_pos hx1, if_neg hnb, hw1, if_neg hl]
  have l2 : ¬ (v2.size : Int) < 8 := by omega
  have l3 : (8 : Int) ≤ (v2.size : Int) := by omega
  have Hu := Lib.hid hu
  have HT2 := Lib.hid hT2
  clear hu h hn hc hb0 hs1 hx1 hnb hw1 hT2
  go_enter Tryf.func83, Tryf.ntmps83
  go_wp2_with fail
  have Hv2 := Lib.hid hv2
  clear hv2
  go_loopg [5, 15, 16] 9 (fun g ev vv jv wr => ∃ (j : Nat) (v : Int), ev = .nilIface ∧ vv = .int .i32 v ∧ jv = .int .i64 (j : Nat) ∧ w = wr ∧ j ≤ 8 ∧ 8 < j + g ∧ Hid (hexN s (8 - j) (j + 2) v = hexN s 8 2 0))
  case atStart => exact ⟨0, 0, rfl, rfl, rfl, rfl, by omega, by omega, Lib.hid rfl⟩
  case round =>
    obtain ⟨j, v, rfl, rfl, rfl, rfl, hj, hg, heq⟩ := hrel
    by_cases hjn : (j : Int) < 8
    · have gj : j < v2.size := by omega
      have j0 : (0 : Int) ≤ (j : Int) := by omega
      have j1 : (j : Int) < (v2.size : Int) := by omega
      have qj : (v2[j]'gj).toNat = byt s (j + 2) := HT2.out.get j gj
      obtain ⟨x, hx⟩ : ∃ x, byt s (j + 2) = x := ⟨_, rfl⟩
      have hx256 : x < 256 := by rw [← hx]; exact byt_lt s _
      obtain ⟨k, hk⟩ : ∃ k, 8 - j = k + 1 := ⟨8 - j - 1, by omega⟩
      have hst := heq.out
      rw [hk, hexN_succ, hx] at hst
      rw [hx] at qj
      have HX := Lib.hid hx
      clear hx heq
      cases hux : unhexB' x with
      | false =>
        rw [hux] at hst
        have hne : uChar s = none := by rw [Hu.out, ← hst]; rfl
        have Hu := Lib.hid hne
        have Hux := Lib.hid hux
        clear hne hst hux
        go_wp2_with fail
        refine (unhex_any x hx256 _).mono ?_
        rintro e w' ⟨rfl, rfl⟩
        rw [Hux.out]
        go_wp2_with fail
        refine (errorf_0 _ (by exact answers_low hF hlow)).mono ?_
        rintro e w1 ⟨E, m, rfl, hE, hm, hb⟩
        have Hm := Lib.hid hm
        clear hm
        go_wp2_with fail
        refine bodyPost_ret (v := .tuple #[.int .i32 0, .bool false, .string ⟨#[]⟩, .iface 144 (.pointer (some ⟨E, 0, none⟩))]) ?_ rfl ?_
        · simp [results, Tryf.results83, go_sem]
        · exact UPost.no Hu.out (by repeat (first | exact Below.refl _ _ | apply below_drew | apply below_drewN | apply below_alloc | apply below_grow)) hE Hm.out hb
      | true =>
        rw [hux, if_pos rfl] at hst
        have hk2 : 8 - (j + 1) = k := by omega
        rw [← hk2] at hst
        have Hst := Lib.hid hst
        have Hux := Lib.hid hux
        have hsh := shl4_def v (unhexV x)
        clear hst hux hk hk2
        go_wp2_with fail
        refine (unhex_any x hx256 _).mono ?_
        rintro e w' ⟨rfl, rfl⟩
        rw [Hux.out]
        go_wp2_with fail
        go_roundg (8 - j)
        case measure => omega
        case rel => exact ⟨j + 1, shl4 v (unhexV x), rfl, rfl, by go_num, rfl, by omega, by omega, by rw [show j + 1 + 2 = j + 2 + 1 by omega]; exact Hst⟩
    · have hj2 : j = 8 := by omega
      subst hj2
      have hst := heq.out
      change some v = _ at hst
      have hu2 := Hu.out
      rw [← hst] at hu2
      clear heq
      by_cases hv : 1114111 < v
      · have hne : uChar s = none := by rw [hu2]; exact if_pos hv
        have Hu := Lib.hid hne
        clear hne hu2 hst
        go_wp2_with fail
        refine (errorf_0 _ (by exact answers_low hF hlow)).mono ?_
        rintro e w1 ⟨E, m, rfl, hE, hm, hb⟩
        have Hm := Lib.hid hm
        clear hm
        go_wp2_with fail
        refine bodyPost_ret (v := .tuple #[.int .i32 0, .bool false, .string ⟨#[]⟩, .iface 144 (.pointer (some ⟨E, 0, none⟩))]) ?_ rfl ?_
        · simp [results, Tryf.results83, go_sem]
        · exact UPost.no Hu.out (by repeat (first | exact Below.refl _ _ | apply below_drew | apply below_drewN | apply below_alloc | apply below_grow)) hE Hm.out hb
      · have hfin : uChar s = some (v, true, 8 + 2) := by rw [hu2]; exact if_neg hv
        have Hf := Lib.hid hfin
        clear hfin hu2 hst
        go_wp2_with fail
        refine bodyPost_ret (v := .tuple #[.int .i32 v, .bool true, .string (v2.extract 8 v2.size), .nilIface]) ?_ rfl ?_
        · simp [results, Tryf.results83, go_sem]
        · exact UPost.ok Hf.out (by rw [HT2.out.cut 8]) (Below.refl _ _)

set_option maxHeartbeats 4000000 in
set_option maxRecDepth 100000 in
theorem uc_u_shorte {F : Stop.Interp} {W0 w : World} (hF : F.answers W0.tape) (_hT : Tabs W0) (hlow : Below W0.heap.size W0 w) (s : ByteArray) (h0 : 0 < s.size) (hs : s.size ≤ 1099511627776) (h : byt s 0 = 92) (hn : ¬ s.size ≤ 1) (hc : byt s 1 = 117) (hbr : ¬ (2 < s.size ∧ byt s 2 = 123)) (hz : s.size = 2) (hl : s.size - 2 < 4) :
    Calls Tryf.prog 83 #[.string s] w (UPost (uChar s) s w) := by
  have s0 : (0 : Int) < (s.size : Int) := by omega
  have hb0 : ¬ 128 ≤ byt s 0 := by omega
  have e92 : ((s[0]'h0).toNat : Int) = 92 := by rw [← byt0 h0]; omega
  have h1 : 1 < s.size := by omega
  have s2 : (2 : Int) ≤ (s.size : Int) := by omega
  have s1 : ¬ (s.size : Int) ≤ 1 := by omega
  have s1' : (1 : Int) < (s.size : Int) := by omega
  have hs1 : simpleEsc (byt s 1) = -1 := by rw [hc]; decide
  have hx1 : byt s 1 = 120 ∨ byt s 1 = 88 ∨ byt s 1 = 117 ∨ byt s 1 = 85 := by omega
  have hnb : ¬ (byt s 1 = 117 ∧ 2 < s.size ∧ byt s 2 = 123) := by exact fun e => hbr e.2
  have hw1 : escW (byt s 1) = 4 := by rw [hc]; rfl
  have ec : ((s[1]'h1).toNat : Int) = 117 := by rw [← byt_of h1]; omega

  have hT2 := tail2 s h1
  obtain ⟨v2, hv2⟩ : ∃ v, s.extract 2 s.size = v := ⟨_, rfl⟩
  rw [hv2] at hT2
  have hsz := hT2.size
  have vz : ¬ (0 : Int) < (v2.size : Int) := by omega
  have hu : uChar s = none := by unfold uChar; rw [if_neg hb0, if_neg (by omega), if_neg hn, hs1, if_neg (by decide), if_pos hx1, if_neg hnb, hw1, if_pos hl]
  have l2 : (v2.size : Int) < 4 := by omega
  have Hu := Lib.hid hu
  have HT2 := Lib.hid hT2
  clear hu h hn hc hb0 hs1 hx1 hnb hw1 hT2 hbr
  go_enter Tryf.func83, Tryf.ntmps83
  go_wp2_with fail
  refine (errorf_0 _ (by exact answers_low hF hlow)).mono ?_
  rintro e w1 ⟨E, m, rfl, hE, hm, hb⟩
  have Hm := Lib.hid hm
  clear hm
  go_wp2_with fail
  refine bodyPost_ret (v := .tuple #[.int .i32 0, .bool false, .string ⟨#[]⟩, .iface 144 (.pointer (some ⟨E, 0, none⟩))]) ?_ rfl ?_
  · simp [results, Tryf.results83, go_sem]
  · exact UPost.no Hu.out (by repeat (first | exact Below.refl _ _ | apply below_drew | apply below_drewN | apply below_alloc | apply below_grow)) hE Hm.out hb

set_option maxHeartbeats 4000000 in
set_option maxRecDepth 100000 in
theorem uc_u_shortn {F : Stop.Interp} {W0 w : World} (hF : F.answers W0.tape) (_hT : Tabs W0) (hlow : Below W0.heap.size W0 w) (s : ByteArray) (h0 : 0 < s.size) (hs : s.size ≤ 1099511627776) (h : byt s 0 = 92) (hn : ¬ s.size ≤ 1) (hc : byt s 1 = 117) (hbr : ¬ (2 < s.size ∧ byt s 2 = 123)) (hz : 2 < s.size) (hl : s.size - 2 < 4) :
    Calls Tryf.prog 83 #[.string s] w (UPost (uChar s) s w) := by
  have s0 : (0 : Int) < (s.size : Int) := by omega
  have hb0 : ¬ 128 ≤ byt s 0 := by omega
  have e92 : ((s[0]'h0).toNat : Int) = 92 := by rw [← byt0 h0]; omega
  have h1 : 1 < s.size := by omega
  have s2 : (2 : Int) ≤ (s.size : Int) := by omega
  have s1 : ¬ (s.size : Int) ≤ 1 := by omega
  have s1' : (1 : Int) < (s.size : Int) := by omega
  have hs1 : simpleEsc (byt s 1) = -1 := by rw [hc]; decide
  have hx1 : byt s 1 = 120 ∨ byt s 1 = 88 ∨ byt s 1 = 117 ∨ byt s 1 = 85 := by omega
  have hnb : ¬ (byt s 1 = 117 ∧ 2 < s.size ∧ byt s 2 = 123) := by exact fun e => hbr e.2
  have hw1 : escW (byt s 1) = 4 := by rw [hc]; rfl
  have ec : ((s[1]'h1).toNat : Int) = 117 := by rw [← byt_of h1]; omega

  have hT2 := tail2 s h1
  obtain ⟨v2, hv2⟩ : ∃ v, s.extract 2 s.size = v := ⟨_, rfl⟩
  rw [hv2] at hT2
  have hsz := hT2.size
  have vz : (0 : Int) < (v2.size : Int) := by omega
  have g0 : 0 < v2.size := by omega
  have q0 : (v2[0]'g0).toNat = byt s 2 := hT2.get 0 g0
  have n0 : (((v2[0]'g0).toNat : Int) == 123) = false := by rw [beq_eq_false_iff_ne, q0]; intro e; exact hbr ⟨hz, by omega⟩
  clear q0
  have hu : uChar s = none := by unfold uChar; rw [if_neg hb0, if_neg (by omega), if_neg hn, hs1, if_neg (by decide), if_pos hx1, if_neg hnb, hw1, if_pos hl]
  have l2 : (v2.size : Int) < 4 := by omega
  have Hu := Lib.hid hu
  have HT2 := Lib.hid hT2
  clear hu h hn hc hb0 hs1 hx1 hnb hw1 hT2 hbr
  go_enter Tryf.func83, Tryf.ntmps83
  go_wp2_with fail
  refine (errorf_0 _ (by exact answers_low hF hlow)).mono ?_
  rintro e w1 ⟨E, m, rfl, hE, hm, hb⟩
  have Hm := Lib.hid hm
  clear hm
  go_wp2_with fail
  refine bodyPost_ret (v := .tuple #[.int .i32 0, .bool false, .string ⟨#[]⟩, .iface 144 (.pointer (some ⟨E, 0, none⟩))]) ?_ rfl ?_
  · simp [results, Tryf.results83, go_sem]
  · exact UPost.no Hu.out (by repeat (first | exact Below.refl _ _ | apply below_drew | apply below_drewN | apply below_alloc | apply below_grow)) hE Hm.out hb

set_option maxHeartbeats 4000000 in
set_option maxRecDepth 100000 in
theorem uc_u_long {F : Stop.Interp} {W0 w : World} (hF : F.answers W0.tape) (_hT : Tabs W0) (hlow : Below W0.heap.size W0 w) (s : ByteArray) (h0 : 0 < s.size) (hs : s.size ≤ 1099511627776) (h : byt s 0 = 92) (hn : ¬ s.size ≤ 1) (hc : byt s 1 = 117) (hbr : ¬ (2 < s.size ∧ byt s 2 = 123)) (hz : 2 < s.size) (hl : ¬ s.size - 2 < 4) :
    Calls Tryf.prog 83 #[.string s] w (UPost (uChar s) s w) := by
  have s0 : (0 : Int) < (s.size : Int) := by omega
  have hb0 : ¬ 128 ≤ byt s 0 := by omega
  have e92 : ((s[0]'h0).toNat : Int) = 92 := by rw [← byt0 h0]; omega
  have h1 : 1 < s.size := by omega
  have s2 : (2 : Int) ≤ (s.size : Int) := by omega
  have s1 : ¬ (s.size : Int) ≤ 1 := by omega
  have s1' : (1 : Int) < (s.size : Int) := by omega
  have hs1 : simpleEsc (byt s 1) = -1 := by rw [hc]; decide
  have hx1 : byt s 1 = 120 ∨ byt s 1 = 88 ∨ byt s 1 = 117 ∨ byt s 1 = 85 := by omega
  have hnb : ¬ (byt s 1 = 117 ∧ 2 < s.size ∧ byt s 2 = 123) := by exact fun e => hbr e.2
  have hw1 : escW (byt s 1) = 4 := by rw [hc]; rfl
  have ec : ((s[1]'h1).toNat : Int) = 117 := by rw [← byt_of h1]; omega

  have hT2 := tail2 s h1
  obtain ⟨v2, hv2⟩ : ∃ v, s.extract 2 s.size = v := ⟨_, rfl⟩
  rw [hv2] at hT2
  have hsz := hT2.size
  have vz : (0 : Int) < (v2.size : Int) := by omega
  have g0 : 0 < v2.size := by omega
  have q0 : (v2[0]'g0).toNat = byt s 2 := hT2.get 0 g0
  have n0 : (((v2[0]'g0).toNat : Int) == 123) = false := by rw [beq_eq_false_iff_ne, q0]; intro e; exact hbr ⟨hz, by omega⟩
  clear q0
  have hu : uChar s = hexEnd (4 + 2) (hexN s 4 2 0) := by unfold uChar; rw [if_neg hb0, if_neg (by omega), if_neg hn, hs1, if_neg (by decide), if_pos hx1, if_neg hnb, hw1, if_neg hl]
  have l2 : ¬ (v2.size : Int) < 4 := by omega
  have l3 : (4 : Int) ≤ (v2.size : Int) := by omega
  have Hu := Lib.hid hu
  have HT2 := Lib.hid hT2
  clear hu h hn hc hb0 hs1 hx1 hnb hw1 hT2 hbr
  go_enter Tryf.func83, Tryf.ntmps83
  go_wp2_with fail
  have Hv2 := Lib.hid hv2
  clear hv2
  go_loopg [5, 15, 16] 5 (fun g ev vv jv wr => ∃ (j : Nat) (v : Int), ev = .nilIface ∧ vv = .int .i32 v ∧ jv = .int .i64 (j : Nat) ∧ w = wr ∧ j ≤ 4 ∧ 4 < j + g ∧ Hid (hexN s (4 - j) (j + 2) v = hexN s 4 2 0))
  case atStart => exact ⟨0, 0, rfl, rfl, rfl, rfl, by omega, by omega, Lib.hid rfl⟩
  case round =>
    obtain ⟨j, v, rfl, rfl, rfl, rfl, hj, hg, heq⟩ := hrel
    by_cases hjn : (j : Int) < 4
    · have gj : j < v2.size := by omega
      have j0 : (0 : Int) ≤ (j : Int) := by omega
      have j1 : (j : Int) < (v2.size : Int) := by omega
      have qj : (v2[j]'gj).toNat = byt s (j + 2) := HT2.out.get j gj
      obtain ⟨x, hx⟩ : ∃ x, byt s (j + 2) = x := ⟨_, rfl⟩
      have hx256 : x < 256 := by rw [← hx]; exact byt_lt s _
      obtain ⟨k, hk⟩ : ∃ k, 4 - j = k + 1 := ⟨4 - j - 1, by omega⟩
      have hst := heq.out
      rw [hk, hexN_succ, hx] at hst
      rw [hx] at qj
      have HX := Lib.hid hx
      clear hx heq
      cases hux : unhexB' x with
      | false =>
        rw [hux] at hst
        have hne : uChar s = none := by rw [Hu.out, ← hst]; rfl
        have Hu := Lib.hid hne
        have Hux := Lib.hid hux
        clear hne hst hux
        go_wp2_with fail
        refine (unhex_any x hx256 _).mono ?_
        rintro e w' ⟨rfl, rfl⟩
        rw [Hux.out]
        go_wp2_with fail
        refine (errorf_0 _ (by exact answers_low hF hlow)).mono ?_
        rintro e w1 ⟨E, m, rfl, hE, hm, hb⟩
        have Hm := Lib.hid hm
        clear hm
        go_wp2_with fail
        refine bodyPost_ret (v := .tuple #[.int .i32 0, .bool false, .string ⟨#[]⟩, .iface 144 (.pointer (some ⟨E, 0, none⟩))]) ?_ rfl ?_
        · simp [results, Tryf.results83, go_sem]
        · exact UPost.no Hu.out (by repeat (first | exact Below.refl _ _ | apply below_drew | apply below_drewN | apply below_alloc | apply below_grow)) hE Hm.out hb
      | true =>
        rw [hux, if_pos rfl] at hst
        have hk2 : 4 - (j + 1) = k := by omega
        rw [← hk2] at hst
        have Hst := Lib.hid hst
        have Hux := Lib.hid hux
        have hsh := shl4_def v (unhexV x)
        clear hst hux hk hk2
        go_wp2_with fail
        refine (unhex_any x hx256 _).mono ?_
        rintro e w' ⟨rfl, rfl⟩
        rw [Hux.out]
        go_wp2_with fail
        go_roundg (4 - j)
        case measure => omega
        case rel => exact ⟨j + 1, shl4 v (unhexV x), rfl, rfl, by go_num, rfl, by omega, by omega, by rw [show j + 1 + 2 = j + 2 + 1 by omega]; exact Hst⟩
    · have hj2 : j = 4 := by omega
      subst hj2
      have hst := heq.out
      change some v = _ at hst
      have hu2 := Hu.out
      rw [← hst] at hu2
      clear heq
      by_cases hv : 1114111 < v
      · have hne : uChar s = none := by rw [hu2]; exact if_pos hv
        have Hu := Lib.hid hne
        clear hne hu2 hst
        go_wp2_with fail
        refine (errorf_0 _ (by exact answers_low hF hlow)).mono ?_
        rintro e w1 ⟨E, m, rfl, hE, hm, hb⟩
        have Hm := Lib.hid hm
        clear hm
        go_wp2_with fail
        refine bodyPost_ret (v := .tuple #[.int .i32 0, .bool false, .string ⟨#[]⟩, .iface 144 (.pointer (some ⟨E, 0, none⟩))]) ?_ rfl ?_
        · simp [results, Tryf.results83, go_sem]
        · exact UPost.no Hu.out (by repeat (first | exact Below.refl _ _ | apply below_drew | apply below_drewN | apply below_alloc | apply below_grow)) hE Hm.out hb
      · have hfin : uChar s = some (v, true, 4 + 2) := by rw [hu2]; exact if_neg hv
        have Hf := Lib.hid hfin
        clear hfin hu2 hst
        go_wp2_with fail
        refine bodyPost_ret (v := .tuple #[.int .i32 v, .bool true, .string (v2.extract 4 v2.size), .nilIface]) ?_ rfl ?_
        · simp [results, Tryf.results83, go_sem]
        · exact UPost.ok Hf.out (by rw [HT2.out.cut 4]) (Below.refl _ _)

end Go.Proofs.YtdpdgppjeekcmaaFmt

/-
  Walk: unescapeChar, its braced way, and all ways together (printed by genuchar.py).
-/
namespace Go.Proofs.YtdpdgppjeekcmaaFmt
open Go Go.Lib Go.RowKit Go.Proofs
open Go.Extern.Stop Go.Stop Go.Extern

/-- The text from byte i on. -/
structure TailAt (s v : ByteArray) (i : Nat) : Prop where
  eq : s.extract i s.size = v
  size : v.size + i = s.size
  head : ∀ h : 0 < v.size, (v[0]'h).toNat = byt s i
  next : v.extract 1 v.size = s.extract (i + 1) s.size
theorem tailAt (s : ByteArray) (i : Nat) (h : i ≤ s.size) : TailAt s (s.extract i s.size) i := by
  have hsz : (s.extract i s.size).size = s.size - i := by rw [ByteArray.size_extract]; omega
  refine ⟨rfl, by omega, fun hj => ?_, by rw [cut_cut, Nat.add_comm]⟩
  rw [byt_of (s := s) (k := i) (by omega), ByteArray.getElem_extract]
  congr 2

set_option maxHeartbeats 4000000 in
set_option maxRecDepth 100000 in
theorem uc_brace {F : Stop.Interp} {W0 w : World} (hF : F.answers W0.tape) (_hT : Tabs W0) (hlow : Below W0.heap.size W0 w) (s : ByteArray) (h0 : 0 < s.size) (hs : s.size ≤ 1099511627776) (h : byt s 0 = 92) (hn : ¬ s.size ≤ 1) (hc : byt s 1 = 117) (hz : 2 < s.size) (hb2 : byt s 2 = 123) :
    Calls Tryf.prog 83 #[.string s] w (UPost (uChar s) s w) := by
  have s0 : (0 : Int) < (s.size : Int) := by omega
  have hb0 : ¬ 128 ≤ byt s 0 := by omega
  have e92 : ((s[0]'h0).toNat : Int) = 92 := by rw [← byt0 h0]; omega
  have h1 : 1 < s.size := by omega
  have s2 : (2 : Int) ≤ (s.size : Int) := by omega
  have s1 : ¬ (s.size : Int) ≤ 1 := by omega
  have s1' : (1 : Int) < (s.size : Int) := by omega
  have hs1 : simpleEsc (byt s 1) = -1 := by rw [hc]; decide
  have hx1 : byt s 1 = 120 ∨ byt s 1 = 88 ∨ byt s 1 = 117 ∨ byt s 1 = 85 := by omega
  have ec : ((s[1]'h1).toNat : Int) = 117 := by rw [← byt_of h1]; omega
  have hT2 := tail2 s h1
  obtain ⟨v2, hv2⟩ : ∃ v, s.extract 2 s.size = v := ⟨_, rfl⟩
  rw [hv2] at hT2
  have hsz := hT2.size
  have vz : (0 : Int) < (v2.size : Int) := by omega
  have vz1 : (1 : Int) ≤ (v2.size : Int) := by omega
  have g0 : 0 < v2.size := by omega
  have q0 : ((v2[0]'g0).toNat : Int) = 123 := by have := hT2.get 0 g0; rw [Nat.zero_add] at this; omega
  have hcut : v2.extract 1 v2.size = s.extract 3 s.size := hT2.cut 1
  have hu : uChar s = brEnd (hexBr s 7 3 0 0) := by unfold uChar; rw [if_neg hb0, if_neg (by omega), if_neg hn, hs1, if_neg (by decide), if_pos hx1, if_pos ⟨hc, hz, hb2⟩]
  have Hu := Lib.hid hu
  have HT2 := Lib.hid hT2
  clear hu h hn hc hb0 hs1 hx1 hb2 hT2
  go_enter Tryf.func83, Tryf.ntmps83
  go_wp2_with fail
  have Hv2 := Lib.hid hv2
  have Hcut := Lib.hid hcut
  clear hv2 hcut q0 vz vz1
  go_loopg [0, 5, 10, 11] 8 (fun g sv ev vv dv wr => ∃ (d : Nat) (v : Int), sv = .string (s.extract (3 + d) s.size) ∧ ev = .nilIface ∧ vv = .int .i32 v ∧ dv = .int .i64 (d : Nat) ∧ w = wr ∧ 3 + d ≤ s.size ∧ d ≤ 6 ∧ 7 < d + g ∧ Hid (hexBr s (7 - d) (3 + d) d v = hexBr s 7 3 0 0))
  case atStart => exact ⟨0, 0, rfl, rfl, rfl, rfl, rfl, by omega, by omega, by omega, Lib.hid rfl⟩
  case round =>
    obtain ⟨d, v, rfl, rfl, rfl, rfl, rfl, hd, hd6, hg, heq⟩ := hrel
    have hTA := tailAt s (3 + d) hd
    obtain ⟨u, hu'⟩ : ∃ u, s.extract (3 + d) s.size = u := ⟨_, rfl⟩
    rw [hu'] at hTA ⊢
    have Hu' := Lib.hid hu'
    clear hu'
    have usz := hTA.size
    obtain ⟨k, hk⟩ : ∃ k, 7 - d = k + 1 := ⟨6 - d, by omega⟩
    have hst := heq.out
    rw [hk, hexBr_succ] at hst
    clear heq
    by_cases hin : 3 + d < s.size
    · have u0 : 0 < u.size := by omega
      have u1 : (0 : Int) < (u.size : Int) := by omega
      have u2' : (1 : Int) ≤ (u.size : Int) := by omega
      have u3' : ((u.size : Int) == 0) = false := by rw [beq_eq_false_iff_ne]; omega
      have uq := hTA.head u0
      have unx := hTA.next
      obtain ⟨x, hx⟩ : ∃ x, byt s (3 + d) = x := ⟨_, rfl⟩
      have hx256 : x < 256 := by rw [← hx]; exact byt_lt s _
      rw [hx] at hst uq
      have HX := Lib.hid hx
      have HTA := Lib.hid hTA
      clear hx hTA
      by_cases h125 : x = 125
      · rw [if_neg (fun e => e.2 h125)] at hst
        subst h125
        by_cases hd0 : d = 0
        · rw [if_neg (fun e => e.2 hd0)] at hst
          have hne : uChar s = none := by rw [Hu.out, ← hst]; rfl
          have Hu := Lib.hid hne
          have hdz : ((d : Int) == 0) = true := by rw [beq_iff_eq]; omega
          have hdz' : (d : Int) = 0 := by omega
          clear hne hst hd0
          go_wp2_with fail
          refine (errorf_0 _ (by exact answers_low hF hlow)).mono ?_
          rintro e w1 ⟨E, m, rfl, hE, hm, hb⟩
          have Hm := Lib.hid hm
          clear hm
          go_wp2_with fail
          refine bodyPost_ret (v := .tuple #[.int .i32 0, .bool false, .string ⟨#[]⟩, .iface 144 (.pointer (some ⟨E, 0, none⟩))]) ?_ rfl ?_
          · simp [results, Tryf.results83, go_sem]
          · exact UPost.no Hu.out (by repeat (first | exact Below.refl _ _ | apply below_drew | apply below_drewN | apply below_alloc | apply below_grow)) hE Hm.out hb
        · rw [if_pos ⟨hin, hd0⟩] at hst
          have hdz : ((d : Int) == 0) = false := by rw [beq_eq_false_iff_ne]; omega
          have hdz' : ¬ (d : Int) = 0 := by omega
          have hu3 : uChar s = brEnd (some (v, 3 + d)) := by rw [Hu.out, ← hst]
          by_cases hv : 1114111 < v
          · have hne : uChar s = none := by rw [hu3]; exact if_pos hv
            have Hu := Lib.hid hne
            clear hne hst hu3
            go_wp2_with fail
            refine (errorf_0 _ (by exact answers_low hF hlow)).mono ?_
            rintro e w1 ⟨E, m, rfl, hE, hm, hb⟩
            have Hm := Lib.hid hm
            clear hm
            go_wp2_with fail
            refine bodyPost_ret (v := .tuple #[.int .i32 0, .bool false, .string ⟨#[]⟩, .iface 144 (.pointer (some ⟨E, 0, none⟩))]) ?_ rfl ?_
            · simp [results, Tryf.results83, go_sem]
            · exact UPost.no Hu.out (by repeat (first | exact Below.refl _ _ | apply below_drew | apply below_drewN | apply below_alloc | apply below_grow)) hE Hm.out hb
          · have hfin : uChar s = some (v, true, 3 + d + 1) := by rw [hu3]; exact if_neg hv
            have Hf := Lib.hid hfin
            clear hfin hst hu3
            go_wp2_with fail
            refine bodyPost_ret (v := .tuple #[.int .i32 v, .bool true, .string (s.extract (3 + d + 1) s.size), .nilIface]) ?_ rfl ?_
            · simp [results, Tryf.results83, go_sem]
            · exact UPost.ok Hf.out rfl (Below.refl _ _)
      · rw [if_pos ⟨hin, h125⟩] at hst
        have e125 : ((x : Int) == 125) = false := by rw [beq_eq_false_iff_ne]; omega
        have e125' : ((x : Int) != 125) = true := by unfold bne; rw [e125]; rfl
        cases hux : unhexB' x with
        | false =>
          rw [hux] at hst
          have hne : uChar s = none := by rw [Hu.out, ← hst]; rfl
          have Hu := Lib.hid hne
          have Hux := Lib.hid hux
          clear hne hst hux
          go_wp2_with fail
          refine (unhex_any x hx256 _).mono ?_
          rintro e w' ⟨rfl, rfl⟩
          rw [Hux.out]
          go_wp2_with fail
          refine (errorf_0 _ (by exact answers_low hF hlow)).mono ?_
          rintro e w1 ⟨E, m, rfl, hE, hm, hb⟩
          have Hm := Lib.hid hm
          clear hm
          go_wp2_with fail
          refine bodyPost_ret (v := .tuple #[.int .i32 0, .bool false, .string ⟨#[]⟩, .iface 144 (.pointer (some ⟨E, 0, none⟩))]) ?_ rfl ?_
          · simp [results, Tryf.results83, go_sem]
          · exact UPost.no Hu.out (by repeat (first | exact Below.refl _ _ | apply below_drew | apply below_drewN | apply below_alloc | apply below_grow)) hE Hm.out hb
        | true =>
          rw [hux, if_pos rfl] at hst
          have Hux := Lib.hid hux
          by_cases h6 : 6 ≤ d
          · rw [if_pos h6] at hst
            have hne : uChar s = none := by rw [Hu.out, ← hst]; rfl
            have Hu := Lib.hid hne
            have i6 : (6 : Int) ≤ (d : Int) := by omega
            clear hne hst hux
            go_wp2_with fail
            refine (unhex_any x hx256 _).mono ?_
            rintro e w' ⟨rfl, rfl⟩
            rw [Hux.out]
            go_wp2_with fail
            refine (errorf_0 _ (by exact answers_low hF hlow)).mono ?_
            rintro e w1 ⟨E, m, rfl, hE, hm, hb⟩
            have Hm := Lib.hid hm
            clear hm
            go_wp2_with fail
            refine bodyPost_ret (v := .tuple #[.int .i32 0, .bool false, .string ⟨#[]⟩, .iface 144 (.pointer (some ⟨E, 0, none⟩))]) ?_ rfl ?_
            · simp [results, Tryf.results83, go_sem]
            · exact UPost.no Hu.out (by repeat (first | exact Below.refl _ _ | apply below_drew | apply below_drewN | apply below_alloc | apply below_grow)) hE Hm.out hb
          · rw [if_neg h6] at hst
            have i6 : ¬ (6 : Int) ≤ (d : Int) := by omega
            have hk2 : 7 - (d + 1) = k := by omega
            rw [← hk2] at hst
            have Hst := Lib.hid hst
            have hsh := shl4_def v (unhexV x)
            clear hst hux hk hk2
            go_wp2_with fail
            refine (unhex_any x hx256 _).mono ?_
            rintro e w' ⟨rfl, rfl⟩
            rw [Hux.out]
            go_wp2_with fail
            go_roundg (7 - d)
            case measure => omega
            case rel => exact ⟨d + 1, shl4 v (unhexV x), by rw [show 3 + (d + 1) = 3 + d + 1 by omega], rfl, rfl, by go_num, rfl, by omega, by omega, by omega, by rw [show 3 + (d + 1) = 3 + d + 1 by omega]; exact Hst⟩
    · have u1 : ¬ (0 : Int) < (u.size : Int) := by omega
      have u3' : ((u.size : Int) == 0) = true := by rw [beq_iff_eq]; omega
      rw [if_neg (fun e => hin e.1), if_neg (fun e => hin e.1)] at hst
      have hne : uChar s = none := by rw [Hu.out, ← hst]; rfl
      have Hu := Lib.hid hne
      have HTA := Lib.hid hTA
      clear hne hst hTA
      go_wp2_with fail
      refine (errorf_0 _ (by exact answers_low hF hlow)).mono ?_
      rintro e w1 ⟨E, m, rfl, hE, hm, hb⟩
      have Hm := Lib.hid hm
      clear hm
      go_wp2_with fail
      refine bodyPost_ret (v := .tuple #[.int .i32 0, .bool false, .string ⟨#[]⟩, .iface 144 (.pointer (some ⟨E, 0, none⟩))]) ?_ rfl ?_
      · simp [results, Tryf.results83, go_sem]
      · exact UPost.no Hu.out (by repeat (first | exact Below.refl _ _ | apply below_drew | apply below_drewN | apply below_alloc | apply below_grow)) hE Hm.out hb

theorem unescapeChar_any {F : Stop.Interp} {W0 w : World} (hF : F.answers W0.tape) (hT : Tabs W0) (hlow : Below W0.heap.size W0 w) (s : ByteArray) (h0 : 0 < s.size) (hs : s.size ≤ 1099511627776) :
    Calls Tryf.prog 83 #[.string s] w (UPost (uChar s) s w) := by
  by_cases h : 128 ≤ byt s 0
  · exact uc_high hF hT hlow s h0 hs h
  by_cases h2 : byt s 0 = 92
  · by_cases hn : s.size ≤ 1
    · exact uc_last hF hT hlow s h0 hs h2 hn
    by_cases k97 : byt s 1 = 97
    · exact uc_s97 hF hT hlow s h0 hs h2 hn k97
    by_cases k98 : byt s 1 = 98
    · exact uc_s98 hF hT hlow s h0 hs h2 hn k98
    by_cases k102 : byt s 1 = 102
    · exact uc_s102 hF hT hlow s h0 hs h2 hn k102
    by_cases k110 : byt s 1 = 110
    · exact uc_s110 hF hT hlow s h0 hs h2 hn k110
    by_cases k114 : byt s 1 = 114
    · exact uc_s114 hF hT hlow s h0 hs h2 hn k114
    by_cases k116 : byt s 1 = 116
    · exact uc_s116 hF hT hlow s h0 hs h2 hn k116
    by_cases k118 : byt s 1 = 118
    · exact uc_s118 hF hT hlow s h0 hs h2 hn k118
    by_cases k92 : byt s 1 = 92
    · exact uc_s92 hF hT hlow s h0 hs h2 hn k92
    by_cases k39 : byt s 1 = 39
    · exact uc_s39 hF hT hlow s h0 hs h2 hn k39
    by_cases k34 : byt s 1 = 34
    · exact uc_s34 hF hT hlow s h0 hs h2 hn k34
    by_cases k96 : byt s 1 = 96
    · exact uc_s96 hF hT hlow s h0 hs h2 hn k96
    by_cases k63 : byt s 1 = 63
    · exact uc_s63 hF hT hlow s h0 hs h2 hn k63
    have hse : simpleEsc (byt s 1) = -1 := by unfold simpleEsc; rw [if_neg k97]; rw [if_neg k98]; rw [if_neg k102]; rw [if_neg k110]; rw [if_neg k114]; rw [if_neg k116]; rw [if_neg k118]; rw [if_neg k92]; rw [if_neg k39]; rw [if_neg k34]; rw [if_neg k96]; rw [if_neg k63]
    by_cases k120 : byt s 1 = 120
    · by_cases hl : s.size - 2 < 2
      · exact uc_x_short hF hT hlow s h0 hs h2 hn k120 hl
      · exact uc_x_long hF hT hlow s h0 hs h2 hn k120 hl
    by_cases k88 : byt s 1 = 88
    · by_cases hl : s.size - 2 < 2
      · exact uc_X_short hF hT hlow s h0 hs h2 hn k88 hl
      · exact uc_X_long hF hT hlow s h0 hs h2 hn k88 hl
    by_cases k85 : byt s 1 = 85
    · by_cases hl : s.size - 2 < 8
      · exact uc_U_short hF hT hlow s h0 hs h2 hn k85 hl
      · exact uc_U_long hF hT hlow s h0 hs h2 hn k85 hl
    by_cases k117 : byt s 1 = 117
    · by_cases hz : 2 < s.size
      · by_cases hb : byt s 2 = 123
        · exact uc_brace hF hT hlow s h0 hs h2 hn k117 hz hb
        · by_cases hl : s.size - 2 < 4
          · exact uc_u_shortn hF hT hlow s h0 hs h2 hn k117 (fun e => hb e.2) hz hl
          · exact uc_u_long hF hT hlow s h0 hs h2 hn k117 (fun e => hb e.2) hz hl
      · exact uc_u_shorte hF hT hlow s h0 hs h2 hn k117 (fun e => hz e.1) (by omega) (by omega)
    by_cases k48 : byt s 1 = 48
    · by_cases hl : s.size < 4
      · exact uc_o48short hF hT hlow s h0 hs h2 hn k48 hl
      · exact uc_o48long hF hT hlow s h0 hs h2 hn k48 hl
    by_cases k49 : byt s 1 = 49
    · by_cases hl : s.size < 4
      · exact uc_o49short hF hT hlow s h0 hs h2 hn k49 hl
      · exact uc_o49long hF hT hlow s h0 hs h2 hn k49 hl
    by_cases k50 : byt s 1 = 50
    · by_cases hl : s.size < 4
      · exact uc_o50short hF hT hlow s h0 hs h2 hn k50 hl
      · exact uc_o50long hF hT hlow s h0 hs h2 hn k50 hl
    by_cases k51 : byt s 1 = 51
    · by_cases hl : s.size < 4
      · exact uc_o51short hF hT hlow s h0 hs h2 hn k51 hl
      · exact uc_o51long hF hT hlow s h0 hs h2 hn k51 hl
    exact uc_bad hF hT hlow s h0 hs h2 hn hse (by omega) (by omega)
  · exact uc_low hF hT hlow s h0 hs (by omega) h2

end Go.Proofs.YtdpdgppjeekcmaaFmt
