/-
  Walk: unescapeChar, way by way (printed by genuchar.py).
-/
import Derived.Test.YtobdglhcepildaaGreatFmtUnA
import Derived.Test.YtobdglhcepildaaGreatFmtBytes
import Derived.Test.YtobdglhcepildaaGreatFmtCore
namespace Go.Proofs.YtobdglhcepildaaGreatFmt
open Go Go.Lib Go.RowKit Go.Proofs
open Go.Extern.Stop Go.Stop Go.Extern

/-- What unescapeChar and its sister give. -/
def UPost (r : Option (Int × Bool × Nat)) (s : ByteArray) (w : World) (e : Ending) (w' : World) : Prop :=
  match r with
  | some (c, mb, k) => e = .returned (.tuple #[.int .i32 c, .bool mb, .string (s.extract k s.size), .nilIface]) ∧ Below w.heap.size w w'
  | none => ∃ (c : Int) (mb : Bool) (tl : ByteArray) (E : Nat) (m : ByteArray), e = .returned (.tuple #[.int .i32 c, .bool mb, .string tl, .iface 139 (.pointer (some ⟨E, 0, none⟩))]) ∧ w.heap.size ≤ E ∧ w'.heap[E]? = some (.cells #[.string m] 141 (0, 0)) ∧ Below w.heap.size w w'
theorem UPost.ok {s : ByteArray} {w w' : World} {e : Ending} {c : Int} {mb : Bool} {k : Nat} {r : Option (Int × Bool × Nat)} (h : r = some (c, mb, k)) (he : e = .returned (.tuple #[.int .i32 c, .bool mb, .string (s.extract k s.size), .nilIface])) (hb : Below w.heap.size w w') : UPost r s w e w' := by
  subst h
  exact ⟨he, hb⟩
theorem UPost.no {s : ByteArray} {w w1 w' : World} {c : Int} {mb : Bool} {tl m : ByteArray} {E : Nat} {r : Option (Int × Bool × Nat)} (h : r = none) (hb1 : Below w.heap.size w w1) (hE : w1.heap.size ≤ E) (hm : w'.heap[E]? = some (.cells #[.string m] 141 (0, 0))) (hb : Below w1.heap.size w1 w') : UPost r s w (.returned (.tuple #[.int .i32 c, .bool mb, .string tl, .iface 139 (.pointer (some ⟨E, 0, none⟩))])) w' := by
  subst h
  exact ⟨c, mb, tl, E, m, rfl, Nat.le_trans hb1.size hE, hm, hb1.trans (hb.mono hb1.size)⟩
theorem cut_cut (s : ByteArray) (a b : Nat) : (s.extract a s.size).extract b (s.extract a s.size).size = s.extract (b + a) s.size := by
  apply ByteArray.ext
  apply Array.ext'
  rw [Lib.extract_to_end, Lib.extract_to_end, Lib.extract_to_end, List.drop_drop, Nat.add_comm]
theorem byt0 {s : ByteArray} (h : 0 < s.size) : byt s 0 = (s[0]'h).toNat := byt_of h
theorem decode0 {w : World} (hT : Tabs w) (s : ByteArray) (h : 0 < s.size) :
    Calls Tryz.prog 62 #[.string s] w fun e w' => e = .returned (.tuple #[.int .i32 (rAt s 0), .int .i64 (wAt s 0)]) ∧ ∃ xs d, w' = grow w xs d := by
  have h1 := decode_any hT s 0 h
  have e : s.extract 0 s.size = s := by
    apply ByteArray.ext
    apply Array.ext'
    rw [Lib.extract_to_end, List.drop_zero]
  rw [e] at h1
  exact h1

theorem answers_low {F : Stop.Interp} {W0 w : World} (hF : F.answers W0.tape) (h : Below W0.heap.size W0 w) : F.answers w.tape := by rw [h.tape]; exact hF

set_option maxHeartbeats 4000000 in
set_option maxRecDepth 100000 in
theorem uc_high {F : Stop.Interp} {W0 w : World} (hF : F.answers W0.tape) (hT : Tabs W0) (hlow : Below W0.heap.size W0 w) (s : ByteArray) (h0 : 0 < s.size) (hs : s.size ≤ 1099511627776) (h : 128 ≤ byt s 0) :
    Calls Tryz.prog 69 #[.string s] w (UPost (uChar s) s w) := by
  have s0 : (0 : Int) < (s.size : Int) := by omega
  have hu : uChar s = some (rAt s 0, true, wAt s 0) := by unfold uChar; rw [if_pos h]
  have h' : (128 : Int) ≤ ((s[0]'h0).toNat : Int) := by rw [byt0 h0] at h; omega
  have hw := wAt_le s 0 h0
  have Hu := Lib.hid hu
  clear hu h
  go_enter Tryz.func69, Tryz.ntmps69
  go_wp2_with fail
  refine (decode0 (hT.below hlow) s h0).mono ?_
  rintro e w1 ⟨rfl, xs, d, rfl⟩
  go_wp2_with fail
  go_quiet (fail)
  go_wp2_with fail
  refine bodyPost_ret (v := .tuple #[.int .i32 (rAt s 0), .bool true, .string (s.extract (wAt s 0) s.size), .nilIface]) ?_ rfl ?_
  · simp [results, Tryz.results69, go_sem]
  · exact UPost.ok Hu.out rfl (by repeat (first | exact Below.refl _ _ | apply below_drew | apply below_drewN | apply below_alloc | apply below_grow))

set_option maxHeartbeats 4000000 in
set_option maxRecDepth 100000 in
theorem uc_low {F : Stop.Interp} {W0 w : World} (hF : F.answers W0.tape) (hT : Tabs W0) (hlow : Below W0.heap.size W0 w) (s : ByteArray) (h0 : 0 < s.size) (hs : s.size ≤ 1099511627776) (h : byt s 0 < 128) (h2 : byt s 0 ≠ 92) :
    Calls Tryz.prog 69 #[.string s] w (UPost (uChar s) s w) := by
  have s0 : (0 : Int) < (s.size : Int) := by omega
  have hu : uChar s = some (((byt s 0 : Nat) : Int), false, 1) := by unfold uChar; rw [if_neg (by omega), if_pos h2]
  have h' : ¬ (128 : Int) ≤ ((s[0]'h0).toNat : Int) := by rw [byt0 h0] at h; omega
  have e92 : (((s[0]'h0).toNat : Int) == 92) = false := by rw [beq_eq_false_iff_ne, ← byt0 h0]; omega
  have n92 : (((s[0]'h0).toNat : Int) != 92) = true := by unfold bne; rw [e92]; rfl
  have s1 : (1 : Int) ≤ (s.size : Int) := by omega
  rw [byt0 h0] at hu
  have Hu := Lib.hid hu
  clear hu h h2
  go_enter Tryz.func69, Tryz.ntmps69
  go_wp2_with fail
  go_quiet (fail)
  go_wp2_with fail
  refine bodyPost_ret (v := .tuple #[.int .i32 ((s[0]'h0).toNat : Nat), .bool false, .string (s.extract 1 s.size), .nilIface]) ?_ rfl ?_
  · simp [results, Tryz.results69, go_sem]
  · exact UPost.ok Hu.out rfl (by repeat (first | exact Below.refl _ _ | apply below_drew | apply below_drewN | apply below_alloc | apply below_grow))

set_option maxHeartbeats 4000000 in
set_option maxRecDepth 100000 in
theorem uc_last {F : Stop.Interp} {W0 w : World} (hF : F.answers W0.tape) (hT : Tabs W0) (hlow : Below W0.heap.size W0 w) (s : ByteArray) (h0 : 0 < s.size) (hs : s.size ≤ 1099511627776) (h : byt s 0 = 92) (h1 : s.size ≤ 1) :
    Calls Tryz.prog 69 #[.string s] w (UPost (uChar s) s w) := by
  have s0 : (0 : Int) < (s.size : Int) := by omega
  have hb0 : ¬ 128 ≤ byt s 0 := by omega
  have e92 : ((s[0]'h0).toNat : Int) = 92 := by rw [← byt0 h0]; omega
  have hu : uChar s = none := by unfold uChar; rw [if_neg hb0, if_neg (by omega), if_pos h1]
  have s1 : (s.size : Int) ≤ 1 := by omega
  have Hu := Lib.hid hu
  clear hu h hb0
  go_enter Tryz.func69, Tryz.ntmps69
  go_wp2_with fail
  refine (errorf_1 _ (by exact answers_low hF hlow)).mono ?_
  rintro e w1 ⟨E, m, rfl, hE, hm, hb⟩
  have Hm := Lib.hid hm
  clear hm
  go_wp2_with fail
  refine bodyPost_ret (v := .tuple #[.int .i32 0, .bool false, .string ⟨#[]⟩, .iface 139 (.pointer (some ⟨E, 0, none⟩))]) ?_ rfl ?_
  · simp [results, Tryz.results69, go_sem]
  · exact UPost.no Hu.out (by repeat (first | exact Below.refl _ _ | apply below_drew | apply below_drewN | apply below_alloc | apply below_grow)) hE Hm.out hb

set_option maxHeartbeats 4000000 in
set_option maxRecDepth 100000 in
theorem uc_s97 {F : Stop.Interp} {W0 w : World} (hF : F.answers W0.tape) (hT : Tabs W0) (hlow : Below W0.heap.size W0 w) (s : ByteArray) (h0 : 0 < s.size) (hs : s.size ≤ 1099511627776) (h : byt s 0 = 92) (hn : ¬ s.size ≤ 1) (hc : byt s 1 = 97) :
    Calls Tryz.prog 69 #[.string s] w (UPost (uChar s) s w) := by
  have s0 : (0 : Int) < (s.size : Int) := by omega
  have hb0 : ¬ 128 ≤ byt s 0 := by omega
  have e92 : ((s[0]'h0).toNat : Int) = 92 := by rw [← byt0 h0]; omega
  have h1 : 1 < s.size := by omega
  have s2 : (2 : Int) ≤ (s.size : Int) := by omega
  have s1 : ¬ (s.size : Int) ≤ 1 := by omega
  have s1' : (1 : Int) < (s.size : Int) := by omega
  have hu : uChar s = some (7, false, 2) := by unfold uChar; rw [if_neg hb0, if_neg (by omega), if_neg hn, hc, if_pos (by decide)]; rfl
  have ec : ((s[1]'h1).toNat : Int) = 97 := by rw [← byt_of h1]; omega
  have Hu := Lib.hid hu
  clear hu h hn hc hb0
  go_enter Tryz.func69, Tryz.ntmps69
  go_wp2_with fail
  refine bodyPost_ret (v := .tuple #[.int .i32 7, .bool false, .string (s.extract 2 s.size), .nilIface]) ?_ rfl ?_
  · simp [results, Tryz.results69, go_sem]
  · exact UPost.ok Hu.out rfl (by repeat (first | exact Below.refl _ _ | apply below_drew | apply below_drewN | apply below_alloc | apply below_grow))

set_option maxHeartbeats 4000000 in
set_option maxRecDepth 100000 in
theorem uc_s98 {F : Stop.Interp} {W0 w : World} (hF : F.answers W0.tape) (hT : Tabs W0) (hlow : Below W0.heap.size W0 w) (s : ByteArray) (h0 : 0 < s.size) (hs : s.size ≤ 1099511627776) (h : byt s 0 = 92) (hn : ¬ s.size ≤ 1) (hc : byt s 1 = 98) :
    Calls Tryz.prog 69 #[.string s] w (UPost (uChar s) s w) := by
  have s0 : (0 : Int) < (s.size : Int) := by omega
  have hb0 : ¬ 128 ≤ byt s 0 := by omega
  have e92 : ((s[0]'h0).toNat : Int) = 92 := by rw [← byt0 h0]; omega
  have h1 : 1 < s.size := by omega
  have s2 : (2 : Int) ≤ (s.size : Int) := by omega
  have s1 : ¬ (s.size : Int) ≤ 1 := by omega
  have s1' : (1 : Int) < (s.size : Int) := by omega
  have hu : uChar s = some (8, false, 2) := by unfold uChar; rw [if_neg hb0, if_neg (by omega), if_neg hn, hc, if_pos (by decide)]; rfl
  have ec : ((s[1]'h1).toNat : Int) = 98 := by rw [← byt_of h1]; omega
  have Hu := Lib.hid hu
  clear hu h hn hc hb0
  go_enter Tryz.func69, Tryz.ntmps69
  go_wp2_with fail
  refine bodyPost_ret (v := .tuple #[.int .i32 8, .bool false, .string (s.extract 2 s.size), .nilIface]) ?_ rfl ?_
  · simp [results, Tryz.results69, go_sem]
  · exact UPost.ok Hu.out rfl (by repeat (first | exact Below.refl _ _ | apply below_drew | apply below_drewN | apply below_alloc | apply below_grow))

set_option maxHeartbeats 4000000 in
set_option maxRecDepth 100000 in
theorem uc_s102 {F : Stop.Interp} {W0 w : World} (hF : F.answers W0.tape) (hT : Tabs W0) (hlow : Below W0.heap.size W0 w) (s : ByteArray) (h0 : 0 < s.size) (hs : s.size ≤ 1099511627776) (h : byt s 0 = 92) (hn : ¬ s.size ≤ 1) (hc : byt s 1 = 102) :
    Calls Tryz.prog 69 #[.string s] w (UPost (uChar s) s w) := by
  have s0 : (0 : Int) < (s.size : Int) := by omega
  have hb0 : ¬ 128 ≤ byt s 0 := by omega
  have e92 : ((s[0]'h0).toNat : Int) = 92 := by rw [← byt0 h0]; omega
  have h1 : 1 < s.size := by omega
  have s2 : (2 : Int) ≤ (s.size : Int) := by omega
  have s1 : ¬ (s.size : Int) ≤ 1 := by omega
  have s1' : (1 : Int) < (s.size : Int) := by omega
  have hu : uChar s = some (12, false, 2) := by unfold uChar; rw [if_neg hb0, if_neg (by omega), if_neg hn, hc, if_pos (by decide)]; rfl
  have ec : ((s[1]'h1).toNat : Int) = 102 := by rw [← byt_of h1]; omega
  have Hu := Lib.hid hu
  clear hu h hn hc hb0
  go_enter Tryz.func69, Tryz.ntmps69
  go_wp2_with fail
  refine bodyPost_ret (v := .tuple #[.int .i32 12, .bool false, .string (s.extract 2 s.size), .nilIface]) ?_ rfl ?_
  · simp [results, Tryz.results69, go_sem]
  · exact UPost.ok Hu.out rfl (by repeat (first | exact Below.refl _ _ | apply below_drew | apply below_drewN | apply below_alloc | apply below_grow))

set_option maxHeartbeats 4000000 in
set_option maxRecDepth 100000 in
theorem uc_s110 {F : Stop.Interp} {W0 w : World} (hF : F.answers W0.tape) (hT : Tabs W0) (hlow : Below W0.heap.size W0 w) (s : ByteArray) (h0 : 0 < s.size) (hs : s.size ≤ 1099511627776) (h : byt s 0 = 92) (hn : ¬ s.size ≤ 1) (hc : byt s 1 = 110) :
    Calls Tryz.prog 69 #[.string s] w (UPost (uChar s) s w) := by
  have s0 : (0 : Int) < (s.size : Int) := by omega
  have hb0 : ¬ 128 ≤ byt s 0 := by omega
  have e92 : ((s[0]'h0).toNat : Int) = 92 := by rw [← byt0 h0]; omega
  have h1 : 1 < s.size := by omega
  have s2 : (2 : Int) ≤ (s.size : Int) := by omega
  have s1 : ¬ (s.size : Int) ≤ 1 := by omega
  have s1' : (1 : Int) < (s.size : Int) := by omega
  have hu : uChar s = some (10, false, 2) := by unfold uChar; rw [if_neg hb0, if_neg (by omega), if_neg hn, hc, if_pos (by decide)]; rfl
  have ec : ((s[1]'h1).toNat : Int) = 110 := by rw [← byt_of h1]; omega
  have Hu := Lib.hid hu
  clear hu h hn hc hb0
  go_enter Tryz.func69, Tryz.ntmps69
  go_wp2_with fail
  refine bodyPost_ret (v := .tuple #[.int .i32 10, .bool false, .string (s.extract 2 s.size), .nilIface]) ?_ rfl ?_
  · simp [results, Tryz.results69, go_sem]
  · exact UPost.ok Hu.out rfl (by repeat (first | exact Below.refl _ _ | apply below_drew | apply below_drewN | apply below_alloc | apply below_grow))

set_option maxHeartbeats 4000000 in
set_option maxRecDepth 100000 in
theorem uc_s114 {F : Stop.Interp} {W0 w : World} (hF : F.answers W0.tape) (hT : Tabs W0) (hlow : Below W0.heap.size W0 w) (s : ByteArray) (h0 : 0 < s.size) (hs : s.size ≤ 1099511627776) (h : byt s 0 = 92) (hn : ¬ s.size ≤ 1) (hc : byt s 1 = 114) :
    Calls Tryz.prog 69 #[.string s] w (UPost (uChar s) s w) := by
  have s0 : (0 : Int) < (s.size : Int) := by omega
  have hb0 : ¬ 128 ≤ byt s 0 := by omega
  have e92 : ((s[0]'h0).toNat : Int) = 92 := by rw [← byt0 h0]; omega
  have h1 : 1 < s.size := by omega
  have s2 : (2 : Int) ≤ (s.size : Int) := by omega
  have s1 : ¬ (s.size : Int) ≤ 1 := by omega
  have s1' : (1 : Int) < (s.size : Int) := by omega
  have hu : uChar s = some (13, false, 2) := by unfold uChar; rw [if_neg hb0, if_neg (by omega), if_neg hn, hc, if_pos (by decide)]; rfl
  have ec : ((s[1]'h1).toNat : Int) = 114 := by rw [← byt_of h1]; omega
  have Hu := Lib.hid hu
  clear hu h hn hc hb0
  go_enter Tryz.func69, Tryz.ntmps69
  go_wp2_with fail
  refine bodyPost_ret (v := .tuple #[.int .i32 13, .bool false, .string (s.extract 2 s.size), .nilIface]) ?_ rfl ?_
  · simp [results, Tryz.results69, go_sem]
  · exact UPost.ok Hu.out rfl (by repeat (first | exact Below.refl _ _ | apply below_drew | apply below_drewN | apply below_alloc | apply below_grow))

set_option maxHeartbeats 4000000 in
set_option maxRecDepth 100000 in
theorem uc_s116 {F : Stop.Interp} {W0 w : World} (hF : F.answers W0.tape) (hT : Tabs W0) (hlow : Below W0.heap.size W0 w) (s : ByteArray) (h0 : 0 < s.size) (hs : s.size ≤ 1099511627776) (h : byt s 0 = 92) (hn : ¬ s.size ≤ 1) (hc : byt s 1 = 116) :
    Calls Tryz.prog 69 #[.string s] w (UPost (uChar s) s w) := by
  have s0 : (0 : Int) < (s.size : Int) := by omega
  have hb0 : ¬ 128 ≤ byt s 0 := by omega
  have e92 : ((s[0]'h0).toNat : Int) = 92 := by rw [← byt0 h0]; omega
  have h1 : 1 < s.size := by omega
  have s2 : (2 : Int) ≤ (s.size : Int) := by omega
  have s1 : ¬ (s.size : Int) ≤ 1 := by omega
  have s1' : (1 : Int) < (s.size : Int) := by omega
  have hu : uChar s = some (9, false, 2) := by unfold uChar; rw [if_neg hb0, if_neg (by omega), if_neg hn, hc, if_pos (by decide)]; rfl
  have ec : ((s[1]'h1).toNat : Int) = 116 := by rw [← byt_of h1]; omega
  have Hu := Lib.hid hu
  clear hu h hn hc hb0
  go_enter Tryz.func69, Tryz.ntmps69
  go_wp2_with fail
  refine bodyPost_ret (v := .tuple #[.int .i32 9, .bool false, .string (s.extract 2 s.size), .nilIface]) ?_ rfl ?_
  · simp [results, Tryz.results69, go_sem]
  · exact UPost.ok Hu.out rfl (by repeat (first | exact Below.refl _ _ | apply below_drew | apply below_drewN | apply below_alloc | apply below_grow))

set_option maxHeartbeats 4000000 in
set_option maxRecDepth 100000 in
theorem uc_s118 {F : Stop.Interp} {W0 w : World} (hF : F.answers W0.tape) (hT : Tabs W0) (hlow : Below W0.heap.size W0 w) (s : ByteArray) (h0 : 0 < s.size) (hs : s.size ≤ 1099511627776) (h : byt s 0 = 92) (hn : ¬ s.size ≤ 1) (hc : byt s 1 = 118) :
    Calls Tryz.prog 69 #[.string s] w (UPost (uChar s) s w) := by
  have s0 : (0 : Int) < (s.size : Int) := by omega
  have hb0 : ¬ 128 ≤ byt s 0 := by omega
  have e92 : ((s[0]'h0).toNat : Int) = 92 := by rw [← byt0 h0]; omega
  have h1 : 1 < s.size := by omega
  have s2 : (2 : Int) ≤ (s.size : Int) := by omega
  have s1 : ¬ (s.size : Int) ≤ 1 := by omega
  have s1' : (1 : Int) < (s.size : Int) := by omega
  have hu : uChar s = some (11, false, 2) := by unfold uChar; rw [if_neg hb0, if_neg (by omega), if_neg hn, hc, if_pos (by decide)]; rfl
  have ec : ((s[1]'h1).toNat : Int) = 118 := by rw [← byt_of h1]; omega
  have Hu := Lib.hid hu
  clear hu h hn hc hb0
  go_enter Tryz.func69, Tryz.ntmps69
  go_wp2_with fail
  refine bodyPost_ret (v := .tuple #[.int .i32 11, .bool false, .string (s.extract 2 s.size), .nilIface]) ?_ rfl ?_
  · simp [results, Tryz.results69, go_sem]
  · exact UPost.ok Hu.out rfl (by repeat (first | exact Below.refl _ _ | apply below_drew | apply below_drewN | apply below_alloc | apply below_grow))

set_option maxHeartbeats 4000000 in
set_option maxRecDepth 100000 in
theorem uc_s92 {F : Stop.Interp} {W0 w : World} (hF : F.answers W0.tape) (hT : Tabs W0) (hlow : Below W0.heap.size W0 w) (s : ByteArray) (h0 : 0 < s.size) (hs : s.size ≤ 1099511627776) (h : byt s 0 = 92) (hn : ¬ s.size ≤ 1) (hc : byt s 1 = 92) :
    Calls Tryz.prog 69 #[.string s] w (UPost (uChar s) s w) := by
  have s0 : (0 : Int) < (s.size : Int) := by omega
  have hb0 : ¬ 128 ≤ byt s 0 := by omega
  have e92 : ((s[0]'h0).toNat : Int) = 92 := by rw [← byt0 h0]; omega
  have h1 : 1 < s.size := by omega
  have s2 : (2 : Int) ≤ (s.size : Int) := by omega
  have s1 : ¬ (s.size : Int) ≤ 1 := by omega
  have s1' : (1 : Int) < (s.size : Int) := by omega
  have hu : uChar s = some (92, false, 2) := by unfold uChar; rw [if_neg hb0, if_neg (by omega), if_neg hn, hc, if_pos (by decide)]; rfl
  have ec : ((s[1]'h1).toNat : Int) = 92 := by rw [← byt_of h1]; omega
  have Hu := Lib.hid hu
  clear hu h hn hc hb0
  go_enter Tryz.func69, Tryz.ntmps69
  go_wp2_with fail
  refine bodyPost_ret (v := .tuple #[.int .i32 92, .bool false, .string (s.extract 2 s.size), .nilIface]) ?_ rfl ?_
  · simp [results, Tryz.results69, go_sem]
  · exact UPost.ok Hu.out rfl (by repeat (first | exact Below.refl _ _ | apply below_drew | apply below_drewN | apply below_alloc | apply below_grow))

set_option maxHeartbeats 4000000 in
set_option maxRecDepth 100000 in
theorem uc_s39 {F : Stop.Interp} {W0 w : World} (hF : F.answers W0.tape) (hT : Tabs W0) (hlow : Below W0.heap.size W0 w) (s : ByteArray) (h0 : 0 < s.size) (hs : s.size ≤ 1099511627776) (h : byt s 0 = 92) (hn : ¬ s.size ≤ 1) (hc : byt s 1 = 39) :
    Calls Tryz.prog 69 #[.string s] w (UPost (uChar s) s w) := by
  have s0 : (0 : Int) < (s.size : Int) := by omega
  have hb0 : ¬ 128 ≤ byt s 0 := by omega
  have e92 : ((s[0]'h0).toNat : Int) = 92 := by rw [← byt0 h0]; omega
  have h1 : 1 < s.size := by omega
  have s2 : (2 : Int) ≤ (s.size : Int) := by omega
  have s1 : ¬ (s.size : Int) ≤ 1 := by omega
  have s1' : (1 : Int) < (s.size : Int) := by omega
  have hu : uChar s = some (39, false, 2) := by unfold uChar; rw [if_neg hb0, if_neg (by omega), if_neg hn, hc, if_pos (by decide)]; rfl
  have ec : ((s[1]'h1).toNat : Int) = 39 := by rw [← byt_of h1]; omega
  have Hu := Lib.hid hu
  clear hu h hn hc hb0
  go_enter Tryz.func69, Tryz.ntmps69
  go_wp2_with fail
  refine bodyPost_ret (v := .tuple #[.int .i32 39, .bool false, .string (s.extract 2 s.size), .nilIface]) ?_ rfl ?_
  · simp [results, Tryz.results69, go_sem]
  · exact UPost.ok Hu.out rfl (by repeat (first | exact Below.refl _ _ | apply below_drew | apply below_drewN | apply below_alloc | apply below_grow))

set_option maxHeartbeats 4000000 in
set_option maxRecDepth 100000 in
theorem uc_s34 {F : Stop.Interp} {W0 w : World} (hF : F.answers W0.tape) (hT : Tabs W0) (hlow : Below W0.heap.size W0 w) (s : ByteArray) (h0 : 0 < s.size) (hs : s.size ≤ 1099511627776) (h : byt s 0 = 92) (hn : ¬ s.size ≤ 1) (hc : byt s 1 = 34) :
    Calls Tryz.prog 69 #[.string s] w (UPost (uChar s) s w) := by
  have s0 : (0 : Int) < (s.size : Int) := by omega
  have hb0 : ¬ 128 ≤ byt s 0 := by omega
  have e92 : ((s[0]'h0).toNat : Int) = 92 := by rw [← byt0 h0]; omega
  have h1 : 1 < s.size := by omega
  have s2 : (2 : Int) ≤ (s.size : Int) := by omega
  have s1 : ¬ (s.size : Int) ≤ 1 := by omega
  have s1' : (1 : Int) < (s.size : Int) := by omega
  have hu : uChar s = some (34, false, 2) := by unfold uChar; rw [if_neg hb0, if_neg (by omega), if_neg hn, hc, if_pos (by decide)]; rfl
  have ec : ((s[1]'h1).toNat : Int) = 34 := by rw [← byt_of h1]; omega
  have Hu := Lib.hid hu
  clear hu h hn hc hb0
  go_enter Tryz.func69, Tryz.ntmps69
  go_wp2_with fail
  refine bodyPost_ret (v := .tuple #[.int .i32 34, .bool false, .string (s.extract 2 s.size), .nilIface]) ?_ rfl ?_
  · simp [results, Tryz.results69, go_sem]
  · exact UPost.ok Hu.out rfl (by repeat (first | exact Below.refl _ _ | apply below_drew | apply below_drewN | apply below_alloc | apply below_grow))

set_option maxHeartbeats 4000000 in
set_option maxRecDepth 100000 in
theorem uc_s96 {F : Stop.Interp} {W0 w : World} (hF : F.answers W0.tape) (hT : Tabs W0) (hlow : Below W0.heap.size W0 w) (s : ByteArray) (h0 : 0 < s.size) (hs : s.size ≤ 1099511627776) (h : byt s 0 = 92) (hn : ¬ s.size ≤ 1) (hc : byt s 1 = 96) :
    Calls Tryz.prog 69 #[.string s] w (UPost (uChar s) s w) := by
  have s0 : (0 : Int) < (s.size : Int) := by omega
  have hb0 : ¬ 128 ≤ byt s 0 := by omega
  have e92 : ((s[0]'h0).toNat : Int) = 92 := by rw [← byt0 h0]; omega
  have h1 : 1 < s.size := by omega
  have s2 : (2 : Int) ≤ (s.size : Int) := by omega
  have s1 : ¬ (s.size : Int) ≤ 1 := by omega
  have s1' : (1 : Int) < (s.size : Int) := by omega
  have hu : uChar s = some (96, false, 2) := by unfold uChar; rw [if_neg hb0, if_neg (by omega), if_neg hn, hc, if_pos (by decide)]; rfl
  have ec : ((s[1]'h1).toNat : Int) = 96 := by rw [← byt_of h1]; omega
  have Hu := Lib.hid hu
  clear hu h hn hc hb0
  go_enter Tryz.func69, Tryz.ntmps69
  go_wp2_with fail
  refine bodyPost_ret (v := .tuple #[.int .i32 96, .bool false, .string (s.extract 2 s.size), .nilIface]) ?_ rfl ?_
  · simp [results, Tryz.results69, go_sem]
  · exact UPost.ok Hu.out rfl (by repeat (first | exact Below.refl _ _ | apply below_drew | apply below_drewN | apply below_alloc | apply below_grow))

set_option maxHeartbeats 4000000 in
set_option maxRecDepth 100000 in
theorem uc_s63 {F : Stop.Interp} {W0 w : World} (hF : F.answers W0.tape) (hT : Tabs W0) (hlow : Below W0.heap.size W0 w) (s : ByteArray) (h0 : 0 < s.size) (hs : s.size ≤ 1099511627776) (h : byt s 0 = 92) (hn : ¬ s.size ≤ 1) (hc : byt s 1 = 63) :
    Calls Tryz.prog 69 #[.string s] w (UPost (uChar s) s w) := by
  have s0 : (0 : Int) < (s.size : Int) := by omega
  have hb0 : ¬ 128 ≤ byt s 0 := by omega
  have e92 : ((s[0]'h0).toNat : Int) = 92 := by rw [← byt0 h0]; omega
  have h1 : 1 < s.size := by omega
  have s2 : (2 : Int) ≤ (s.size : Int) := by omega
  have s1 : ¬ (s.size : Int) ≤ 1 := by omega
  have s1' : (1 : Int) < (s.size : Int) := by omega
  have hu : uChar s = some (63, false, 2) := by unfold uChar; rw [if_neg hb0, if_neg (by omega), if_neg hn, hc, if_pos (by decide)]; rfl
  have ec : ((s[1]'h1).toNat : Int) = 63 := by rw [← byt_of h1]; omega
  have Hu := Lib.hid hu
  clear hu h hn hc hb0
  go_enter Tryz.func69, Tryz.ntmps69
  go_wp2_with fail
  refine bodyPost_ret (v := .tuple #[.int .i32 63, .bool false, .string (s.extract 2 s.size), .nilIface]) ?_ rfl ?_
  · simp [results, Tryz.results69, go_sem]
  · exact UPost.ok Hu.out rfl (by repeat (first | exact Below.refl _ _ | apply below_drew | apply below_drewN | apply below_alloc | apply below_grow))

set_option maxHeartbeats 4000000 in
set_option maxRecDepth 100000 in
theorem uc_bad {F : Stop.Interp} {W0 w : World} (hF : F.answers W0.tape) (hT : Tabs W0) (hlow : Below W0.heap.size W0 w) (s : ByteArray) (h0 : 0 < s.size) (hs : s.size ≤ 1099511627776) (h : byt s 0 = 92) (hn : ¬ s.size ≤ 1) (hc : simpleEsc (byt s 1) = -1) (hx : ¬ (byt s 1 = 120 ∨ byt s 1 = 88 ∨ byt s 1 = 117 ∨ byt s 1 = 85)) (ho : ¬ (48 ≤ byt s 1 ∧ byt s 1 ≤ 51)) :
    Calls Tryz.prog 69 #[.string s] w (UPost (uChar s) s w) := by
  have s0 : (0 : Int) < (s.size : Int) := by omega
  have hb0 : ¬ 128 ≤ byt s 0 := by omega
  have e92 : ((s[0]'h0).toNat : Int) = 92 := by rw [← byt0 h0]; omega
  have h1 : 1 < s.size := by omega
  have s2 : (2 : Int) ≤ (s.size : Int) := by omega
  have s1 : ¬ (s.size : Int) ≤ 1 := by omega
  have s1' : (1 : Int) < (s.size : Int) := by omega
  have hu : uChar s = none := by unfold uChar; rw [if_neg hb0, if_neg (by omega), if_neg hn, hc, if_neg (by decide), if_neg hx, if_neg ho]
  have eb := byt_of h1
  have n97 : (((s[1]'h1).toNat : Int) == 97) = false := by rw [beq_eq_false_iff_ne]; exact fun e => absurd ((congrArg simpleEsc (show byt s 1 = 97 by omega)).symm.trans hc) (by decide)
  have n98 : (((s[1]'h1).toNat : Int) == 98) = false := by rw [beq_eq_false_iff_ne]; exact fun e => absurd ((congrArg simpleEsc (show byt s 1 = 98 by omega)).symm.trans hc) (by decide)
  have n102 : (((s[1]'h1).toNat : Int) == 102) = false := by rw [beq_eq_false_iff_ne]; exact fun e => absurd ((congrArg simpleEsc (show byt s 1 = 102 by omega)).symm.trans hc) (by decide)
  have n110 : (((s[1]'h1).toNat : Int) == 110) = false := by rw [beq_eq_false_iff_ne]; exact fun e => absurd ((congrArg simpleEsc (show byt s 1 = 110 by omega)).symm.trans hc) (by decide)
  have n114 : (((s[1]'h1).toNat : Int) == 114) = false := by rw [beq_eq_false_iff_ne]; exact fun e => absurd ((congrArg simpleEsc (show byt s 1 = 114 by omega)).symm.trans hc) (by decide)
  have n116 : (((s[1]'h1).toNat : Int) == 116) = false := by rw [beq_eq_false_iff_ne]; exact fun e => absurd ((congrArg simpleEsc (show byt s 1 = 116 by omega)).symm.trans hc) (by decide)
  have n118 : (((s[1]'h1).toNat : Int) == 118) = false := by rw [beq_eq_false_iff_ne]; exact fun e => absurd ((congrArg simpleEsc (show byt s 1 = 118 by omega)).symm.trans hc) (by decide)
  have n92 : (((s[1]'h1).toNat : Int) == 92) = false := by rw [beq_eq_false_iff_ne]; exact fun e => absurd ((congrArg simpleEsc (show byt s 1 = 92 by omega)).symm.trans hc) (by decide)
  have n39 : (((s[1]'h1).toNat : Int) == 39) = false := by rw [beq_eq_false_iff_ne]; exact fun e => absurd ((congrArg simpleEsc (show byt s 1 = 39 by omega)).symm.trans hc) (by decide)
  have n34 : (((s[1]'h1).toNat : Int) == 34) = false := by rw [beq_eq_false_iff_ne]; exact fun e => absurd ((congrArg simpleEsc (show byt s 1 = 34 by omega)).symm.trans hc) (by decide)
  have n96 : (((s[1]'h1).toNat : Int) == 96) = false := by rw [beq_eq_false_iff_ne]; exact fun e => absurd ((congrArg simpleEsc (show byt s 1 = 96 by omega)).symm.trans hc) (by decide)
  have n63 : (((s[1]'h1).toNat : Int) == 63) = false := by rw [beq_eq_false_iff_ne]; exact fun e => absurd ((congrArg simpleEsc (show byt s 1 = 63 by omega)).symm.trans hc) (by decide)
  have n120 : (((s[1]'h1).toNat : Int) == 120) = false := by rw [beq_eq_false_iff_ne]; omega
  have n88 : (((s[1]'h1).toNat : Int) == 88) = false := by rw [beq_eq_false_iff_ne]; omega
  have n117 : (((s[1]'h1).toNat : Int) == 117) = false := by rw [beq_eq_false_iff_ne]; omega
  have n85 : (((s[1]'h1).toNat : Int) == 85) = false := by rw [beq_eq_false_iff_ne]; omega
  have n48 : (((s[1]'h1).toNat : Int) == 48) = false := by rw [beq_eq_false_iff_ne]; omega
  have n49 : (((s[1]'h1).toNat : Int) == 49) = false := by rw [beq_eq_false_iff_ne]; omega
  have n50 : (((s[1]'h1).toNat : Int) == 50) = false := by rw [beq_eq_false_iff_ne]; omega
  have n51 : (((s[1]'h1).toNat : Int) == 51) = false := by rw [beq_eq_false_iff_ne]; omega
  have Hu := Lib.hid hu
  clear hu h hn hc hb0 eb hx ho
  go_enter Tryz.func69, Tryz.ntmps69
  go_wp2_with fail
  refine (errorf_0 _ (by exact answers_low hF hlow)).mono ?_
  rintro e w1 ⟨E, m, rfl, hE, hm, hb⟩
  have Hm := Lib.hid hm
  clear hm
  go_wp2_with fail
  refine bodyPost_ret (v := .tuple #[.int .i32 0, .bool false, .string (s.extract 2 s.size), .iface 139 (.pointer (some ⟨E, 0, none⟩))]) ?_ rfl ?_
  · simp [results, Tryz.results69, go_sem]
  · exact UPost.no Hu.out (by repeat (first | exact Below.refl _ _ | apply below_drew | apply below_drewN | apply below_alloc | apply below_grow)) hE Hm.out hb

set_option maxHeartbeats 4000000 in
set_option maxRecDepth 100000 in
theorem uc_o48short {F : Stop.Interp} {W0 w : World} (hF : F.answers W0.tape) (hT : Tabs W0) (hlow : Below W0.heap.size W0 w) (s : ByteArray) (h0 : 0 < s.size) (hs : s.size ≤ 1099511627776) (h : byt s 0 = 92) (hn : ¬ s.size ≤ 1) (hc : byt s 1 = 48) (hl : s.size < 4) :
    Calls Tryz.prog 69 #[.string s] w (UPost (uChar s) s w) := by
  have s0 : (0 : Int) < (s.size : Int) := by omega
  have hb0 : ¬ 128 ≤ byt s 0 := by omega
  have e92 : ((s[0]'h0).toNat : Int) = 92 := by rw [← byt0 h0]; omega
  have h1 : 1 < s.size := by omega
  have s2 : (2 : Int) ≤ (s.size : Int) := by omega
  have s1 : ¬ (s.size : Int) ≤ 1 := by omega
  have s1' : (1 : Int) < (s.size : Int) := by omega
  have hs1 : simpleEsc (byt s 1) = -1 := by rw [hc]; decide
  have hx1 : ¬ (byt s 1 = 120 ∨ byt s 1 = 88 ∨ byt s 1 = 117 ∨ byt s 1 = 85) := by omega
  have ho1 : 48 ≤ byt s 1 ∧ byt s 1 ≤ 51 := by omega
  have ec : ((s[1]'h1).toNat : Int) = 48 := by rw [← byt_of h1]; omega
  have hu : uChar s = none := by unfold uChar; rw [if_neg hb0, if_neg (by omega), if_neg hn, hs1, if_neg (by decide), if_neg hx1, if_pos ho1, if_pos hl]
  have l2 : (s.size : Int) - 2 < 2 := by omega
  have Hu := Lib.hid hu
  clear hu h hn hc hb0 hs1 hx1 ho1
  go_enter Tryz.func69, Tryz.ntmps69
  go_wp2_with fail
  refine (errorf_2 _ (by exact answers_low hF hlow)).mono ?_
  rintro e w1 ⟨E, m, rfl, hE, hm, hb⟩
  have Hm := Lib.hid hm
  clear hm
  go_wp2_with fail
  refine bodyPost_ret (v := .tuple #[.int .i32 0, .bool false, .string ⟨#[]⟩, .iface 139 (.pointer (some ⟨E, 0, none⟩))]) ?_ rfl ?_
  · simp [results, Tryz.results69, go_sem]
  · exact UPost.no Hu.out (by repeat (first | exact Below.refl _ _ | apply below_drew | apply below_drewN | apply below_alloc | apply below_grow)) hE Hm.out hb

set_option maxHeartbeats 4000000 in
set_option maxRecDepth 100000 in
theorem uc_o49short {F : Stop.Interp} {W0 w : World} (hF : F.answers W0.tape) (hT : Tabs W0) (hlow : Below W0.heap.size W0 w) (s : ByteArray) (h0 : 0 < s.size) (hs : s.size ≤ 1099511627776) (h : byt s 0 = 92) (hn : ¬ s.size ≤ 1) (hc : byt s 1 = 49) (hl : s.size < 4) :
    Calls Tryz.prog 69 #[.string s] w (UPost (uChar s) s w) := by
  have s0 : (0 : Int) < (s.size : Int) := by omega
  have hb0 : ¬ 128 ≤ byt s 0 := by omega
  have e92 : ((s[0]'h0).toNat : Int) = 92 := by rw [← byt0 h0]; omega
  have h1 : 1 < s.size := by omega
  have s2 : (2 : Int) ≤ (s.size : Int) := by omega
  have s1 : ¬ (s.size : Int) ≤ 1 := by omega
  have s1' : (1 : Int) < (s.size : Int) := by omega
  have hs1 : simpleEsc (byt s 1) = -1 := by rw [hc]; decide
  have hx1 : ¬ (byt s 1 = 120 ∨ byt s 1 = 88 ∨ byt s 1 = 117 ∨ byt s 1 = 85) := by omega
  have ho1 : 48 ≤ byt s 1 ∧ byt s 1 ≤ 51 := by omega
  have ec : ((s[1]'h1).toNat : Int) = 49 := by rw [← byt_of h1]; omega
  have hu : uChar s = none := by unfold uChar; rw [if_neg hb0, if_neg (by omega), if_neg hn, hs1, if_neg (by decide), if_neg hx1, if_pos ho1, if_pos hl]
  have l2 : (s.size : Int) - 2 < 2 := by omega
  have Hu := Lib.hid hu
  clear hu h hn hc hb0 hs1 hx1 ho1
  go_enter Tryz.func69, Tryz.ntmps69
  go_wp2_with fail
  refine (errorf_2 _ (by exact answers_low hF hlow)).mono ?_
  rintro e w1 ⟨E, m, rfl, hE, hm, hb⟩
  have Hm := Lib.hid hm
  clear hm
  go_wp2_with fail
  refine bodyPost_ret (v := .tuple #[.int .i32 0, .bool false, .string ⟨#[]⟩, .iface 139 (.pointer (some ⟨E, 0, none⟩))]) ?_ rfl ?_
  · simp [results, Tryz.results69, go_sem]
  · exact UPost.no Hu.out (by repeat (first | exact Below.refl _ _ | apply below_drew | apply below_drewN | apply below_alloc | apply below_grow)) hE Hm.out hb

set_option maxHeartbeats 4000000 in
set_option maxRecDepth 100000 in
theorem uc_o50short {F : Stop.Interp} {W0 w : World} (hF : F.answers W0.tape) (hT : Tabs W0) (hlow : Below W0.heap.size W0 w) (s : ByteArray) (h0 : 0 < s.size) (hs : s.size ≤ 1099511627776) (h : byt s 0 = 92) (hn : ¬ s.size ≤ 1) (hc : byt s 1 = 50) (hl : s.size < 4) :
    Calls Tryz.prog 69 #[.string s] w (UPost (uChar s) s w) := by
  have s0 : (0 : Int) < (s.size : Int) := by omega
  have hb0 : ¬ 128 ≤ byt s 0 := by omega
  have e92 : ((s[0]'h0).toNat : Int) = 92 := by rw [← byt0 h0]; omega
  have h1 : 1 < s.size := by omega
  have s2 : (2 : Int) ≤ (s.size : Int) := by omega
  have s1 : ¬ (s.size : Int) ≤ 1 := by omega
  have s1' : (1 : Int) < (s.size : Int) := by omega
  have hs1 : simpleEsc (byt s 1) = -1 := by rw [hc]; decide
  have hx1 : ¬ (byt s 1 = 120 ∨ byt s 1 = 88 ∨ byt s 1 = 117 ∨ byt s 1 = 85) := by omega
  have ho1 : 48 ≤ byt s 1 ∧ byt s 1 ≤ 51 := by omega
  have ec : ((s[1]'h1).toNat : Int) = 50 := by rw [← byt_of h1]; omega
  have hu : uChar s = none := by unfold uChar; rw [if_neg hb0, if_neg (by omega), if_neg hn, hs1, if_neg (by decide), if_neg hx1, if_pos ho1, if_pos hl]
  have l2 : (s.size : Int) - 2 < 2 := by omega
  have Hu := Lib.hid hu
  clear hu h hn hc hb0 hs1 hx1 ho1
  go_enter Tryz.func69, Tryz.ntmps69
  go_wp2_with fail
  refine (errorf_2 _ (by exact answers_low hF hlow)).mono ?_
  rintro e w1 ⟨E, m, rfl, hE, hm, hb⟩
  have Hm := Lib.hid hm
  clear hm
  go_wp2_with fail
  refine bodyPost_ret (v := .tuple #[.int .i32 0, .bool false, .string ⟨#[]⟩, .iface 139 (.pointer (some ⟨E, 0, none⟩))]) ?_ rfl ?_
  · simp [results, Tryz.results69, go_sem]
  · exact UPost.no Hu.out (by repeat (first | exact Below.refl _ _ | apply below_drew | apply below_drewN | apply below_alloc | apply below_grow)) hE Hm.out hb

set_option maxHeartbeats 4000000 in
set_option maxRecDepth 100000 in
theorem uc_o51short {F : Stop.Interp} {W0 w : World} (hF : F.answers W0.tape) (hT : Tabs W0) (hlow : Below W0.heap.size W0 w) (s : ByteArray) (h0 : 0 < s.size) (hs : s.size ≤ 1099511627776) (h : byt s 0 = 92) (hn : ¬ s.size ≤ 1) (hc : byt s 1 = 51) (hl : s.size < 4) :
    Calls Tryz.prog 69 #[.string s] w (UPost (uChar s) s w) := by
  have s0 : (0 : Int) < (s.size : Int) := by omega
  have hb0 : ¬ 128 ≤ byt s 0 := by omega
  have e92 : ((s[0]'h0).toNat : Int) = 92 := by rw [← byt0 h0]; omega
  have h1 : 1 < s.size := by omega
  have s2 : (2 : Int) ≤ (s.size : Int) := by omega
  have s1 : ¬ (s.size : Int) ≤ 1 := by omega
  have s1' : (1 : Int) < (s.size : Int) := by omega
  have hs1 : simpleEsc (byt s 1) = -1 := by rw [hc]; decide
  have hx1 : ¬ (byt s 1 = 120 ∨ byt s 1 = 88 ∨ byt s 1 = 117 ∨ byt s 1 = 85) := by omega
  have ho1 : 48 ≤ byt s 1 ∧ byt s 1 ≤ 51 := by omega
  have ec : ((s[1]'h1).toNat : Int) = 51 := by rw [← byt_of h1]; omega
  have hu : uChar s = none := by unfold uChar; rw [if_neg hb0, if_neg (by omega), if_neg hn, hs1, if_neg (by decide), if_neg hx1, if_pos ho1, if_pos hl]
  have l2 : (s.size : Int) - 2 < 2 := by omega
  have Hu := Lib.hid hu
  clear hu h hn hc hb0 hs1 hx1 ho1
  go_enter Tryz.func69, Tryz.ntmps69
  go_wp2_with fail
  refine (errorf_2 _ (by exact answers_low hF hlow)).mono ?_
  rintro e w1 ⟨E, m, rfl, hE, hm, hb⟩
  have Hm := Lib.hid hm
  clear hm
  go_wp2_with fail
  refine bodyPost_ret (v := .tuple #[.int .i32 0, .bool false, .string ⟨#[]⟩, .iface 139 (.pointer (some ⟨E, 0, none⟩))]) ?_ rfl ?_
  · simp [results, Tryz.results69, go_sem]
  · exact UPost.no Hu.out (by repeat (first | exact Below.refl _ _ | apply below_drew | apply below_drewN | apply below_alloc | apply below_grow)) hE Hm.out hb

end Go.Proofs.YtobdglhcepildaaGreatFmt
