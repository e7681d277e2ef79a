/-
  Plain texts, joined: BChar BCharB.
-/
import Derived.Test.YtdpdgppjeekcmaaFmtJE
import Derived.WalkKit
/-
  Walk: unescapeByteChar, way by way (printed by genbchar.py).
-/
namespace Go.Proofs.YtdpdgppjeekcmaaFmt
open Go Go.Lib Go.RowKit Go.Proofs
open Go.Extern.Stop Go.Stop Go.Extern

set_option maxHeartbeats 4000000 in
set_option maxRecDepth 100000 in
theorem bc_high {F : Stop.Interp} {W0 w : World} (_hF : F.answers W0.tape) (hT : Tabs W0) (hlow : Below W0.heap.size W0 w) (s : ByteArray) (h0 : 0 < s.size) (hs : s.size ≤ 1099511627776) (h2 : byt s 0 ≠ 92) (h : 128 ≤ byt s 0) :
    Calls Tryf.prog 87 #[.string s] w (UPost (bChar s) s w) := by
  have s0 : (0 : Int) < (s.size : Int) := by omega
  have hu : bChar s = some (rAt s 0, true, wAt s 0) := by unfold bChar; rw [if_pos h2, if_pos h]
  have h' : (128 : Int) ≤ ((s[0]'h0).toNat : Int) := by rw [byt0 h0] at h; omega
  have e92 : (((s[0]'h0).toNat : Int) == 92) = false := by rw [beq_eq_false_iff_ne, ← byt0 h0]; omega
  have n92 : (((s[0]'h0).toNat : Int) != 92) = true := by unfold bne; rw [e92]; rfl
  have hw := wAt_le s 0 h0
  have Hu := Lib.hid hu
  clear hu h h2
  go_enter Tryf.func87, Tryf.ntmps87
  go_wp2_with fail
  refine (decode0 (hT.below hlow) s h0).mono ?_
  rintro e w1 ⟨rfl, xs, d, rfl⟩
  go_wp2_with fail
  go_quiet (fail)
  go_wp2_with fail
  refine bodyPost_ret (v := .tuple #[.int .i32 (rAt s 0), .bool true, .string (s.extract (wAt s 0) s.size), .nilIface]) ?_ rfl ?_
  · simp [results, Tryf.results87, go_sem]
  · exact UPost.ok Hu.out rfl (by repeat (first | exact Below.refl _ _ | apply below_drew | apply below_drewN | apply below_alloc | apply below_grow))

set_option maxHeartbeats 4000000 in
set_option maxRecDepth 100000 in
theorem bc_low {F : Stop.Interp} {W0 w : World} (_hF : F.answers W0.tape) (_hT : Tabs W0) (_hlow : Below W0.heap.size W0 w) (s : ByteArray) (h0 : 0 < s.size) (hs : s.size ≤ 1099511627776) (h : byt s 0 < 128) (h2 : byt s 0 ≠ 92) :
    Calls Tryf.prog 87 #[.string s] w (UPost (bChar s) s w) := by
  have s0 : (0 : Int) < (s.size : Int) := by omega
  have hu : bChar s = some (((byt s 0 : Nat) : Int), false, 1) := by unfold bChar; rw [if_pos h2, if_neg (by omega)]
  have h' : ¬ (128 : Int) ≤ ((s[0]'h0).toNat : Int) := by rw [byt0 h0] at h; omega
  have e92 : (((s[0]'h0).toNat : Int) == 92) = false := by rw [beq_eq_false_iff_ne, ← byt0 h0]; omega
  have n92 : (((s[0]'h0).toNat : Int) != 92) = true := by unfold bne; rw [e92]; rfl
  have s1 : (1 : Int) ≤ (s.size : Int) := by omega
  rw [byt0 h0] at hu
  have Hu := Lib.hid hu
  clear hu h h2
  go_enter Tryf.func87, Tryf.ntmps87
  go_wp2_with fail
  go_quiet (fail)
  go_wp2_with fail
  refine bodyPost_ret (v := .tuple #[.int .i32 ((s[0]'h0).toNat : Nat), .bool false, .string (s.extract 1 s.size), .nilIface]) ?_ rfl ?_
  · simp [results, Tryf.results87, go_sem]
  · exact UPost.ok Hu.out rfl (by repeat (first | exact Below.refl _ _ | apply below_drew | apply below_drewN | apply below_alloc | apply below_grow))

set_option maxHeartbeats 4000000 in
set_option maxRecDepth 100000 in
theorem bc_last {F : Stop.Interp} {W0 w : World} (hF : F.answers W0.tape) (_hT : Tabs W0) (hlow : Below W0.heap.size W0 w) (s : ByteArray) (h0 : 0 < s.size) (hs : s.size ≤ 1099511627776) (h : byt s 0 = 92) (h1 : s.size ≤ 1) :
    Calls Tryf.prog 87 #[.string s] w (UPost (bChar s) s w) := by
  have s0 : (0 : Int) < (s.size : Int) := by omega
  have hb0 : ¬ byt s 0 ≠ 92 := by omega
  have e92 : ((s[0]'h0).toNat : Int) = 92 := by rw [← byt0 h0]; omega
  have hu : bChar s = none := by unfold bChar; rw [if_neg hb0, if_pos h1]
  have s1 : (s.size : Int) ≤ 1 := by omega
  have Hu := Lib.hid hu
  clear hu h hb0
  go_enter Tryf.func87, Tryf.ntmps87
  go_wp2_with fail
  refine (errorf_1 _ (by exact answers_low hF hlow)).mono ?_
  rintro e w1 ⟨E, m, rfl, hE, hm, hb⟩
  have Hm := Lib.hid hm
  clear hm
  go_wp2_with fail
  refine bodyPost_ret (v := .tuple #[.int .i32 0, .bool false, .string ⟨#[]⟩, .iface 144 (.pointer (some ⟨E, 0, none⟩))]) ?_ rfl ?_
  · simp [results, Tryf.results87, go_sem]
  · exact UPost.no Hu.out (by repeat (first | exact Below.refl _ _ | apply below_drew | apply below_drewN | apply below_alloc | apply below_grow)) hE Hm.out hb

set_option maxHeartbeats 4000000 in
set_option maxRecDepth 100000 in
theorem bc_s97 {F : Stop.Interp} {W0 w : World} (_hF : F.answers W0.tape) (_hT : Tabs W0) (_hlow : Below W0.heap.size W0 w) (s : ByteArray) (h0 : 0 < s.size) (hs : s.size ≤ 1099511627776) (h : byt s 0 = 92) (hn : ¬ s.size ≤ 1) (hc : byt s 1 = 97) :
    Calls Tryf.prog 87 #[.string s] w (UPost (bChar s) s w) := by
  have s0 : (0 : Int) < (s.size : Int) := by omega
  have hb0 : ¬ byt s 0 ≠ 92 := by omega
  have e92 : ((s[0]'h0).toNat : Int) = 92 := by rw [← byt0 h0]; omega
  have h1 : 1 < s.size := by omega
  have s2 : (2 : Int) ≤ (s.size : Int) := by omega
  have s1 : ¬ (s.size : Int) ≤ 1 := by omega
  have s1' : (1 : Int) < (s.size : Int) := by omega
  have hu : bChar s = some (7, false, 2) := by unfold bChar; rw [if_neg hb0, if_neg hn, hc, if_pos (by decide)]; rfl
  have ec : ((s[1]'h1).toNat : Int) = 97 := by rw [← byt_of h1]; omega
  have Hu := Lib.hid hu
  clear hu h hn hc hb0
  go_enter Tryf.func87, Tryf.ntmps87
  go_wp2_with fail
  refine bodyPost_ret (v := .tuple #[.int .i32 7, .bool false, .string (s.extract 2 s.size), .nilIface]) ?_ rfl ?_
  · simp [results, Tryf.results87, go_sem]
  · exact UPost.ok Hu.out rfl (by repeat (first | exact Below.refl _ _ | apply below_drew | apply below_drewN | apply below_alloc | apply below_grow))

set_option maxHeartbeats 4000000 in
set_option maxRecDepth 100000 in
theorem bc_s98 {F : Stop.Interp} {W0 w : World} (_hF : F.answers W0.tape) (_hT : Tabs W0) (_hlow : Below W0.heap.size W0 w) (s : ByteArray) (h0 : 0 < s.size) (hs : s.size ≤ 1099511627776) (h : byt s 0 = 92) (hn : ¬ s.size ≤ 1) (hc : byt s 1 = 98) :
    Calls Tryf.prog 87 #[.string s] w (UPost (bChar s) s w) := by
  have s0 : (0 : Int) < (s.size : Int) := by omega
  have hb0 : ¬ byt s 0 ≠ 92 := by omega
  have e92 : ((s[0]'h0).toNat : Int) = 92 := by rw [← byt0 h0]; omega
  have h1 : 1 < s.size := by omega
  have s2 : (2 : Int) ≤ (s.size : Int) := by omega
  have s1 : ¬ (s.size : Int) ≤ 1 := by omega
  have s1' : (1 : Int) < (s.size : Int) := by omega
  have hu : bChar s = some (8, false, 2) := by unfold bChar; rw [if_neg hb0, if_neg hn, hc, if_pos (by decide)]; rfl
  have ec : ((s[1]'h1).toNat : Int) = 98 := by rw [← byt_of h1]; omega
  have Hu := Lib.hid hu
  clear hu h hn hc hb0
  go_enter Tryf.func87, Tryf.ntmps87
  go_wp2_with fail
  refine bodyPost_ret (v := .tuple #[.int .i32 8, .bool false, .string (s.extract 2 s.size), .nilIface]) ?_ rfl ?_
  · simp [results, Tryf.results87, go_sem]
  · exact UPost.ok Hu.out rfl (by repeat (first | exact Below.refl _ _ | apply below_drew | apply below_drewN | apply below_alloc | apply below_grow))

set_option maxHeartbeats 4000000 in
set_option maxRecDepth 100000 in
theorem bc_s102 {F : Stop.Interp} {W0 w : World} (_hF : F.answers W0.tape) (_hT : Tabs W0) (_hlow : Below W0.heap.size W0 w) (s : ByteArray) (h0 : 0 < s.size) (hs : s.size ≤ 1099511627776) (h : byt s 0 = 92) (hn : ¬ s.size ≤ 1) (hc : byt s 1 = 102) :
    Calls Tryf.prog 87 #[.string s] w (UPost (bChar s) s w) := by
  have s0 : (0 : Int) < (s.size : Int) := by omega
  have hb0 : ¬ byt s 0 ≠ 92 := by omega
  have e92 : ((s[0]'h0).toNat : Int) = 92 := by rw [← byt0 h0]; omega
  have h1 : 1 < s.size := by omega
  have s2 : (2 : Int) ≤ (s.size : Int) := by omega
  have s1 : ¬ (s.size : Int) ≤ 1 := by omega
  have s1' : (1 : Int) < (s.size : Int) := by omega
  have hu : bChar s = some (12, false, 2) := by unfold bChar; rw [if_neg hb0, if_neg hn, hc, if_pos (by decide)]; rfl
  have ec : ((s[1]'h1).toNat : Int) = 102 := by rw [← byt_of h1]; omega
  have Hu := Lib.hid hu
  clear hu h hn hc hb0
  go_enter Tryf.func87, Tryf.ntmps87
  go_wp2_with fail
  refine bodyPost_ret (v := .tuple #[.int .i32 12, .bool false, .string (s.extract 2 s.size), .nilIface]) ?_ rfl ?_
  · simp [results, Tryf.results87, go_sem]
  · exact UPost.ok Hu.out rfl (by repeat (first | exact Below.refl _ _ | apply below_drew | apply below_drewN | apply below_alloc | apply below_grow))

set_option maxHeartbeats 4000000 in
set_option maxRecDepth 100000 in
theorem bc_s110 {F : Stop.Interp} {W0 w : World} (_hF : F.answers W0.tape) (_hT : Tabs W0) (_hlow : Below W0.heap.size W0 w) (s : ByteArray) (h0 : 0 < s.size) (hs : s.size ≤ 1099511627776) (h : byt s 0 = 92) (hn : ¬ s.size ≤ 1) (hc : byt s 1 = 110) :
    Calls Tryf.prog 87 #[.string s] w (UPost (bChar s) s w) := by
  have s0 : (0 : Int) < (s.size : Int) := by omega
  have hb0 : ¬ byt s 0 ≠ 92 := by omega
  have e92 : ((s[0]'h0).toNat : Int) = 92 := by rw [← byt0 h0]; omega
  have h1 : 1 < s.size := by omega
  have s2 : (2 : Int) ≤ (s.size : Int) := by omega
  have s1 : ¬ (s.size : Int) ≤ 1 := by omega
  have s1' : (1 : Int) < (s.size : Int) := by omega
  have hu : bChar s = some (10, false, 2) := by unfold bChar; rw [if_neg hb0, if_neg hn, hc, if_pos (by decide)]; rfl
  have ec : ((s[1]'h1).toNat : Int) = 110 := by rw [← byt_of h1]; omega
  have Hu := Lib.hid hu
  clear hu h hn hc hb0
  go_enter Tryf.func87, Tryf.ntmps87
  go_wp2_with fail
  refine bodyPost_ret (v := .tuple #[.int .i32 10, .bool false, .string (s.extract 2 s.size), .nilIface]) ?_ rfl ?_
  · simp [results, Tryf.results87, go_sem]
  · exact UPost.ok Hu.out rfl (by repeat (first | exact Below.refl _ _ | apply below_drew | apply below_drewN | apply below_alloc | apply below_grow))

set_option maxHeartbeats 4000000 in
set_option maxRecDepth 100000 in
theorem bc_s114 {F : Stop.Interp} {W0 w : World} (_hF : F.answers W0.tape) (_hT : Tabs W0) (_hlow : Below W0.heap.size W0 w) (s : ByteArray) (h0 : 0 < s.size) (hs : s.size ≤ 1099511627776) (h : byt s 0 = 92) (hn : ¬ s.size ≤ 1) (hc : byt s 1 = 114) :
    Calls Tryf.prog 87 #[.string s] w (UPost (bChar s) s w) := by
  have s0 : (0 : Int) < (s.size : Int) := by omega
  have hb0 : ¬ byt s 0 ≠ 92 := by omega
  have e92 : ((s[0]'h0).toNat : Int) = 92 := by rw [← byt0 h0]; omega
  have h1 : 1 < s.size := by omega
  have s2 : (2 : Int) ≤ (s.size : Int) := by omega
  have s1 : ¬ (s.size : Int) ≤ 1 := by omega
  have s1' : (1 : Int) < (s.size : Int) := by omega
  have hu : bChar s = some (13, false, 2) := by unfold bChar; rw [if_neg hb0, if_neg hn, hc, if_pos (by decide)]; rfl
  have ec : ((s[1]'h1).toNat : Int) = 114 := by rw [← byt_of h1]; omega
  have Hu := Lib.hid hu
  clear hu h hn hc hb0
  go_enter Tryf.func87, Tryf.ntmps87
  go_wp2_with fail
  refine bodyPost_ret (v := .tuple #[.int .i32 13, .bool false, .string (s.extract 2 s.size), .nilIface]) ?_ rfl ?_
  · simp [results, Tryf.results87, go_sem]
  · exact UPost.ok Hu.out rfl (by repeat (first | exact Below.refl _ _ | apply below_drew | apply below_drewN | apply below_alloc | apply below_grow))

set_option maxHeartbeats 4000000 in
set_option maxRecDepth 100000 in
theorem bc_s116 {F : Stop.Interp} {W0 w : World} (_hF : F.answers W0.tape) (_hT : Tabs W0) (_hlow : Below W0.heap.size W0 w) (s : ByteArray) (h0 : 0 < s.size) (hs : s.size ≤ 1099511627776) (h : byt s 0 = 92) (hn : ¬ s.size ≤ 1) (hc : byt s 1 = 116) :
    Calls Tryf.prog 87 #[.string s] w (UPost (bChar s) s w) := by
  have s0 : (0 : Int) < (s.size : Int) := by omega
  have hb0 : ¬ byt s 0 ≠ 92 := by omega
  have e92 : ((s[0]'h0).toNat : Int) = 92 := by rw [← byt0 h0]; omega
  have h1 : 1 < s.size := by omega
  have s2 : (2 : Int) ≤ (s.size : Int) := by omega
  have s1 : ¬ (s.size : Int) ≤ 1 := by omega
  have s1' : (1 : Int) < (s.size : Int) := by omega
  have hu : bChar s = some (9, false, 2) := by unfold bChar; rw [if_neg hb0, if_neg hn, hc, if_pos (by decide)]; rfl
  have ec : ((s[1]'h1).toNat : Int) = 116 := by rw [← byt_of h1]; omega
  have Hu := Lib.hid hu
  clear hu h hn hc hb0
  go_enter Tryf.func87, Tryf.ntmps87
  go_wp2_with fail
  refine bodyPost_ret (v := .tuple #[.int .i32 9, .bool false, .string (s.extract 2 s.size), .nilIface]) ?_ rfl ?_
  · simp [results, Tryf.results87, go_sem]
  · exact UPost.ok Hu.out rfl (by repeat (first | exact Below.refl _ _ | apply below_drew | apply below_drewN | apply below_alloc | apply below_grow))

set_option maxHeartbeats 4000000 in
set_option maxRecDepth 100000 in
theorem bc_s118 {F : Stop.Interp} {W0 w : World} (_hF : F.answers W0.tape) (_hT : Tabs W0) (_hlow : Below W0.heap.size W0 w) (s : ByteArray) (h0 : 0 < s.size) (hs : s.size ≤ 1099511627776) (h : byt s 0 = 92) (hn : ¬ s.size ≤ 1) (hc : byt s 1 = 118) :
    Calls Tryf.prog 87 #[.string s] w (UPost (bChar s) s w) := by
  have s0 : (0 : Int) < (s.size : Int) := by omega
  have hb0 : ¬ byt s 0 ≠ 92 := by omega
  have e92 : ((s[0]'h0).toNat : Int) = 92 := by rw [← byt0 h0]; omega
  have h1 : 1 < s.size := by omega
  have s2 : (2 : Int) ≤ (s.size : Int) := by omega
  have s1 : ¬ (s.size : Int) ≤ 1 := by omega
  have s1' : (1 : Int) < (s.size : Int) := by omega
  have hu : bChar s = some (11, false, 2) := by unfold bChar; rw [if_neg hb0, if_neg hn, hc, if_pos (by decide)]; rfl
  have ec : ((s[1]'h1).toNat : Int) = 118 := by rw [← byt_of h1]; omega
  have Hu := Lib.hid hu
  clear hu h hn hc hb0
  go_enter Tryf.func87, Tryf.ntmps87
  go_wp2_with fail
  refine bodyPost_ret (v := .tuple #[.int .i32 11, .bool false, .string (s.extract 2 s.size), .nilIface]) ?_ rfl ?_
  · simp [results, Tryf.results87, go_sem]
  · exact UPost.ok Hu.out rfl (by repeat (first | exact Below.refl _ _ | apply below_drew | apply below_drewN | apply below_alloc | apply below_grow))

set_option maxHeartbeats 4000000 in
set_option maxRecDepth 100000 in
theorem bc_s92 {F : Stop.Interp} {W0 w : World} (_hF : F.answers W0.tape) (_hT : Tabs W0) (_hlow : Below W0.heap.size W0 w) (s : ByteArray) (h0 : 0 < s.size) (hs : s.size ≤ 1099511627776) (h : byt s 0 = 92) (hn : ¬ s.size ≤ 1) (hc : byt s 1 = 92) :
    Calls Tryf.prog 87 #[.string s] w (UPost (bChar s) s w) := by
  have s0 : (0 : Int) < (s.size : Int) := by omega
  have hb0 : ¬ byt s 0 ≠ 92 := by omega
  have e92 : ((s[0]'h0).toNat : Int) = 92 := by rw [← byt0 h0]; omega
  have h1 : 1 < s.size := by omega
  have s2 : (2 : Int) ≤ (s.size : Int) := by omega
  have s1 : ¬ (s.size : Int) ≤ 1 := by omega
  have s1' : (1 : Int) < (s.size : Int) := by omega
  have hu : bChar s = some (92, false, 2) := by unfold bChar; rw [if_neg hb0, if_neg hn, hc, if_pos (by decide)]; rfl
  have ec : ((s[1]'h1).toNat : Int) = 92 := by rw [← byt_of h1]; omega
  have Hu := Lib.hid hu
  clear hu h hn hc hb0
  go_enter Tryf.func87, Tryf.ntmps87
  go_wp2_with fail
  refine bodyPost_ret (v := .tuple #[.int .i32 92, .bool false, .string (s.extract 2 s.size), .nilIface]) ?_ rfl ?_
  · simp [results, Tryf.results87, go_sem]
  · exact UPost.ok Hu.out rfl (by repeat (first | exact Below.refl _ _ | apply below_drew | apply below_drewN | apply below_alloc | apply below_grow))

set_option maxHeartbeats 4000000 in
set_option maxRecDepth 100000 in
theorem bc_s39 {F : Stop.Interp} {W0 w : World} (_hF : F.answers W0.tape) (_hT : Tabs W0) (_hlow : Below W0.heap.size W0 w) (s : ByteArray) (h0 : 0 < s.size) (hs : s.size ≤ 1099511627776) (h : byt s 0 = 92) (hn : ¬ s.size ≤ 1) (hc : byt s 1 = 39) :
    Calls Tryf.prog 87 #[.string s] w (UPost (bChar s) s w) := by
  have s0 : (0 : Int) < (s.size : Int) := by omega
  have hb0 : ¬ byt s 0 ≠ 92 := by omega
  have e92 : ((s[0]'h0).toNat : Int) = 92 := by rw [← byt0 h0]; omega
  have h1 : 1 < s.size := by omega
  have s2 : (2 : Int) ≤ (s.size : Int) := by omega
  have s1 : ¬ (s.size : Int) ≤ 1 := by omega
  have s1' : (1 : Int) < (s.size : Int) := by omega
  have hu : bChar s = some (39, false, 2) := by unfold bChar; rw [if_neg hb0, if_neg hn, hc, if_pos (by decide)]; rfl
  have ec : ((s[1]'h1).toNat : Int) = 39 := by rw [← byt_of h1]; omega
  have Hu := Lib.hid hu
  clear hu h hn hc hb0
  go_enter Tryf.func87, Tryf.ntmps87
  go_wp2_with fail
  refine bodyPost_ret (v := .tuple #[.int .i32 39, .bool false, .string (s.extract 2 s.size), .nilIface]) ?_ rfl ?_
  · simp [results, Tryf.results87, go_sem]
  · exact UPost.ok Hu.out rfl (by repeat (first | exact Below.refl _ _ | apply below_drew | apply below_drewN | apply below_alloc | apply below_grow))

set_option maxHeartbeats 4000000 in
set_option maxRecDepth 100000 in
theorem bc_s34 {F : Stop.Interp} {W0 w : World} (_hF : F.answers W0.tape) (_hT : Tabs W0) (_hlow : Below W0.heap.size W0 w) (s : ByteArray) (h0 : 0 < s.size) (hs : s.size ≤ 1099511627776) (h : byt s 0 = 92) (hn : ¬ s.size ≤ 1) (hc : byt s 1 = 34) :
    Calls Tryf.prog 87 #[.string s] w (UPost (bChar s) s w) := by
  have s0 : (0 : Int) < (s.size : Int) := by omega
  have hb0 : ¬ byt s 0 ≠ 92 := by omega
  have e92 : ((s[0]'h0).toNat : Int) = 92 := by rw [← byt0 h0]; omega
  have h1 : 1 < s.size := by omega
  have s2 : (2 : Int) ≤ (s.size : Int) := by omega
  have s1 : ¬ (s.size : Int) ≤ 1 := by omega
  have s1' : (1 : Int) < (s.size : Int) := by omega
  have hu : bChar s = some (34, false, 2) := by unfold bChar; rw [if_neg hb0, if_neg hn, hc, if_pos (by decide)]; rfl
  have ec : ((s[1]'h1).toNat : Int) = 34 := by rw [← byt_of h1]; omega
  have Hu := Lib.hid hu
  clear hu h hn hc hb0
  go_enter Tryf.func87, Tryf.ntmps87
  go_wp2_with fail
  refine bodyPost_ret (v := .tuple #[.int .i32 34, .bool false, .string (s.extract 2 s.size), .nilIface]) ?_ rfl ?_
  · simp [results, Tryf.results87, go_sem]
  · exact UPost.ok Hu.out rfl (by repeat (first | exact Below.refl _ _ | apply below_drew | apply below_drewN | apply below_alloc | apply below_grow))

set_option maxHeartbeats 4000000 in
set_option maxRecDepth 100000 in
theorem bc_s96 {F : Stop.Interp} {W0 w : World} (_hF : F.answers W0.tape) (_hT : Tabs W0) (_hlow : Below W0.heap.size W0 w) (s : ByteArray) (h0 : 0 < s.size) (hs : s.size ≤ 1099511627776) (h : byt s 0 = 92) (hn : ¬ s.size ≤ 1) (hc : byt s 1 = 96) :
    Calls Tryf.prog 87 #[.string s] w (UPost (bChar s) s w) := by
  have s0 : (0 : Int) < (s.size : Int) := by omega
  have hb0 : ¬ byt s 0 ≠ 92 := by omega
  have e92 : ((s[0]'h0).toNat : Int) = 92 := by rw [← byt0 h0]; omega
  have h1 : 1 < s.size := by omega
  have s2 : (2 : Int) ≤ (s.size : Int) := by omega
  have s1 : ¬ (s.size : Int) ≤ 1 := by omega
  have s1' : (1 : Int) < (s.size : Int) := by omega
  have hu : bChar s = some (96, false, 2) := by unfold bChar; rw [if_neg hb0, if_neg hn, hc, if_pos (by decide)]; rfl
  have ec : ((s[1]'h1).toNat : Int) = 96 := by rw [← byt_of h1]; omega
  have Hu := Lib.hid hu
  clear hu h hn hc hb0
  go_enter Tryf.func87, Tryf.ntmps87
  go_wp2_with fail
  refine bodyPost_ret (v := .tuple #[.int .i32 96, .bool false, .string (s.extract 2 s.size), .nilIface]) ?_ rfl ?_
  · simp [results, Tryf.results87, go_sem]
  · exact UPost.ok Hu.out rfl (by repeat (first | exact Below.refl _ _ | apply below_drew | apply below_drewN | apply below_alloc | apply below_grow))

set_option maxHeartbeats 4000000 in
set_option maxRecDepth 100000 in
theorem bc_s63 {F : Stop.Interp} {W0 w : World} (_hF : F.answers W0.tape) (_hT : Tabs W0) (_hlow : Below W0.heap.size W0 w) (s : ByteArray) (h0 : 0 < s.size) (hs : s.size ≤ 1099511627776) (h : byt s 0 = 92) (hn : ¬ s.size ≤ 1) (hc : byt s 1 = 63) :
    Calls Tryf.prog 87 #[.string s] w (UPost (bChar s) s w) := by
  have s0 : (0 : Int) < (s.size : Int) := by omega
  have hb0 : ¬ byt s 0 ≠ 92 := by omega
  have e92 : ((s[0]'h0).toNat : Int) = 92 := by rw [← byt0 h0]; omega
  have h1 : 1 < s.size := by omega
  have s2 : (2 : Int) ≤ (s.size : Int) := by omega
  have s1 : ¬ (s.size : Int) ≤ 1 := by omega
  have s1' : (1 : Int) < (s.size : Int) := by omega
  have hu : bChar s = some (63, false, 2) := by unfold bChar; rw [if_neg hb0, if_neg hn, hc, if_pos (by decide)]; rfl
  have ec : ((s[1]'h1).toNat : Int) = 63 := by rw [← byt_of h1]; omega
  have Hu := Lib.hid hu
  clear hu h hn hc hb0
  go_enter Tryf.func87, Tryf.ntmps87
  go_wp2_with fail
  refine bodyPost_ret (v := .tuple #[.int .i32 63, .bool false, .string (s.extract 2 s.size), .nilIface]) ?_ rfl ?_
  · simp [results, Tryf.results87, go_sem]
  · exact UPost.ok Hu.out rfl (by repeat (first | exact Below.refl _ _ | apply below_drew | apply below_drewN | apply below_alloc | apply below_grow))

set_option maxHeartbeats 4000000 in
set_option maxRecDepth 100000 in
theorem bc_bad {F : Stop.Interp} {W0 w : World} (hF : F.answers W0.tape) (_hT : Tabs W0) (hlow : Below W0.heap.size W0 w) (s : ByteArray) (h0 : 0 < s.size) (hs : s.size ≤ 1099511627776) (h : byt s 0 = 92) (hn : ¬ s.size ≤ 1) (hc : simpleEsc (byt s 1) = -1) (hx : ¬ (byt s 1 = 120 ∨ byt s 1 = 88)) (ho : ¬ (48 ≤ byt s 1 ∧ byt s 1 ≤ 51)) :
    Calls Tryf.prog 87 #[.string s] w (UPost (bChar s) s w) := by
  have s0 : (0 : Int) < (s.size : Int) := by omega
  have hb0 : ¬ byt s 0 ≠ 92 := by omega
  have e92 : ((s[0]'h0).toNat : Int) = 92 := by rw [← byt0 h0]; omega
  have h1 : 1 < s.size := by omega
  have s2 : (2 : Int) ≤ (s.size : Int) := by omega
  have s1 : ¬ (s.size : Int) ≤ 1 := by omega
  have s1' : (1 : Int) < (s.size : Int) := by omega
  have hu : bChar s = none := by unfold bChar; rw [if_neg hb0, if_neg hn, hc, if_neg (by decide), if_neg hx, if_neg ho]
  have eb := byt_of h1
  have n97 : (((s[1]'h1).toNat : Int) == 97) = false := by rw [beq_eq_false_iff_ne]; exact fun e => absurd ((congrArg simpleEsc (show byt s 1 = 97 by omega)).symm.trans hc) (by decide)
  have n98 : (((s[1]'h1).toNat : Int) == 98) = false := by rw [beq_eq_false_iff_ne]; exact fun e => absurd ((congrArg simpleEsc (show byt s 1 = 98 by omega)).symm.trans hc) (by decide)
  have n102 : (((s[1]'h1).toNat : Int) == 102) = false := by rw [beq_eq_false_iff_ne]; exact fun e => absurd ((congrArg simpleEsc (show byt s 1 = 102 by omega)).symm.trans hc) (by decide)
  have n110 : (((s[1]'h1).toNat : Int) == 110) = false := by rw [beq_eq_false_iff_ne]; exact fun e => absurd ((congrArg simpleEsc (show byt s 1 = 110 by omega)).symm.trans hc) (by decide)
  have n114 : (((s[1]'h1).toNat : Int) == 114) = false := by rw [beq_eq_false_iff_ne]; exact fun e => absurd ((congrArg simpleEsc (show byt s 1 = 114 by omega)).symm.trans hc) (by decide)
  have n116 : (((s[1]'h1).toNat : Int) == 116) = false := by rw [beq_eq_false_iff_ne]; exact fun e => absurd ((congrArg simpleEsc (show byt s 1 = 116 by omega)).symm.trans hc) (by decide)
  have n118 : (((s[1]'h1).toNat : Int) == 118) = false := by rw [beq_eq_false_iff_ne]; exact fun e => absurd ((congrArg simpleEsc (show byt s 1 = 118 by omega)).symm.trans hc) (by decide)
  have n92 : (((s[1]'h1).toNat : Int) == 92) = false := by rw [beq_eq_false_iff_ne]; exact fun e => absurd ((congrArg simpleEsc (show byt s 1 = 92 by omega)).symm.trans hc) (by decide)
  have n39 : (((s[1]'h1).toNat : Int) == 39) = false := by rw [beq_eq_false_iff_ne]; exact fun e => absurd ((congrArg simpleEsc (show byt s 1 = 39 by omega)).symm.trans hc) (by decide)
  have n34 : (((s[1]'h1).toNat : Int) == 34) = false := by rw [beq_eq_false_iff_ne]; exact fun e => absurd ((congrArg simpleEsc (show byt s 1 = 34 by omega)).symm.trans hc) (by decide)
  have n96 : (((s[1]'h1).toNat : Int) == 96) = false := by rw [beq_eq_false_iff_ne]; exact fun e => absurd ((congrArg simpleEsc (show byt s 1 = 96 by omega)).symm.trans hc) (by decide)
  have n63 : (((s[1]'h1).toNat : Int) == 63) = false := by rw [beq_eq_false_iff_ne]; exact fun e => absurd ((congrArg simpleEsc (show byt s 1 = 63 by omega)).symm.trans hc) (by decide)
  have n120 : (((s[1]'h1).toNat : Int) == 120) = false := by rw [beq_eq_false_iff_ne]; omega
  have n88 : (((s[1]'h1).toNat : Int) == 88) = false := by rw [beq_eq_false_iff_ne]; omega
  have n48 : (((s[1]'h1).toNat : Int) == 48) = false := by rw [beq_eq_false_iff_ne]; omega
  have n49 : (((s[1]'h1).toNat : Int) == 49) = false := by rw [beq_eq_false_iff_ne]; omega
  have n50 : (((s[1]'h1).toNat : Int) == 50) = false := by rw [beq_eq_false_iff_ne]; omega
  have n51 : (((s[1]'h1).toNat : Int) == 51) = false := by rw [beq_eq_false_iff_ne]; omega
  have Hu := Lib.hid hu
  clear hu h hn hc hb0 eb hx ho
  go_enter Tryf.func87, Tryf.ntmps87
  go_wp2_with fail
  refine (errorf_0 _ (by exact answers_low hF hlow)).mono ?_
  rintro e w1 ⟨E, m, rfl, hE, hm, hb⟩
  have Hm := Lib.hid hm
  clear hm
  go_wp2_with fail
  refine bodyPost_ret (v := .tuple #[.int .i32 0, .bool false, .string ⟨#[]⟩, .iface 144 (.pointer (some ⟨E, 0, none⟩))]) ?_ rfl ?_
  · simp [results, Tryf.results87, go_sem]
  · exact UPost.no Hu.out (by repeat (first | exact Below.refl _ _ | apply below_drew | apply below_drewN | apply below_alloc | apply below_grow)) hE Hm.out hb

set_option maxHeartbeats 4000000 in
set_option maxRecDepth 100000 in
theorem bc_x120short {F : Stop.Interp} {W0 w : World} (hF : F.answers W0.tape) (_hT : Tabs W0) (hlow : Below W0.heap.size W0 w) (s : ByteArray) (h0 : 0 < s.size) (hs : s.size ≤ 1099511627776) (h : byt s 0 = 92) (hn : ¬ s.size ≤ 1) (hc : byt s 1 = 120) (hl : s.size < 4) :
    Calls Tryf.prog 87 #[.string s] w (UPost (bChar s) s w) := by
  have s0 : (0 : Int) < (s.size : Int) := by omega
  have hb0 : ¬ byt s 0 ≠ 92 := by omega
  have e92 : ((s[0]'h0).toNat : Int) = 92 := by rw [← byt0 h0]; omega
  have h1 : 1 < s.size := by omega
  have s2 : (2 : Int) ≤ (s.size : Int) := by omega
  have s1 : ¬ (s.size : Int) ≤ 1 := by omega
  have s1' : (1 : Int) < (s.size : Int) := by omega
  have hs1 : simpleEsc (byt s 1) = -1 := by rw [hc]; decide
  have ec : ((s[1]'h1).toNat : Int) = 120 := by rw [← byt_of h1]; omega
  have hT2 := tail2 s h1
  obtain ⟨v2, hv2⟩ : ∃ v, s.extract 2 s.size = v := ⟨_, rfl⟩
  rw [hv2] at hT2
  have hsz := hT2.size
  have hx : byt s 1 = 120 ∨ byt s 1 = 88 := by omega
  have hu : bChar s = none := by unfold bChar; rw [if_neg hb0, if_neg hn, hs1, if_neg (by decide), if_pos hx, if_pos hl]
  have l2 : (v2.size : Int) < 2 := by omega
  have Hu := Lib.hid hu
  clear hu h hn hc hb0 hs1 hx hT2
  go_enter Tryf.func87, Tryf.ntmps87
  go_wp2_with fail
  refine (errorf_0 _ (by exact answers_low hF hlow)).mono ?_
  rintro e w1 ⟨E, m, rfl, hE, hm, hb⟩
  have Hm := Lib.hid hm
  clear hm
  go_wp2_with fail
  refine bodyPost_ret (v := .tuple #[.int .i32 0, .bool false, .string ⟨#[]⟩, .iface 144 (.pointer (some ⟨E, 0, none⟩))]) ?_ rfl ?_
  · simp [results, Tryf.results87, go_sem]
  · exact UPost.no Hu.out (by repeat (first | exact Below.refl _ _ | apply below_drew | apply below_drewN | apply below_alloc | apply below_grow)) hE Hm.out hb

set_option maxHeartbeats 4000000 in
set_option maxRecDepth 100000 in
theorem bc_x120long {F : Stop.Interp} {W0 w : World} (hF : F.answers W0.tape) (_hT : Tabs W0) (hlow : Below W0.heap.size W0 w) (s : ByteArray) (h0 : 0 < s.size) (hs : s.size ≤ 1099511627776) (h : byt s 0 = 92) (hn : ¬ s.size ≤ 1) (hc : byt s 1 = 120) (hl : ¬ s.size < 4) :
    Calls Tryf.prog 87 #[.string s] w (UPost (bChar s) s w) := by
  have s0 : (0 : Int) < (s.size : Int) := by omega
  have hb0 : ¬ byt s 0 ≠ 92 := by omega
  have e92 : ((s[0]'h0).toNat : Int) = 92 := by rw [← byt0 h0]; omega
  have h1 : 1 < s.size := by omega
  have s2 : (2 : Int) ≤ (s.size : Int) := by omega
  have s1 : ¬ (s.size : Int) ≤ 1 := by omega
  have s1' : (1 : Int) < (s.size : Int) := by omega
  have hs1 : simpleEsc (byt s 1) = -1 := by rw [hc]; decide
  have ec : ((s[1]'h1).toNat : Int) = 120 := by rw [← byt_of h1]; omega
  have hT2 := tail2 s h1
  obtain ⟨v2, hv2⟩ : ∃ v, s.extract 2 s.size = v := ⟨_, rfl⟩
  rw [hv2] at hT2
  have hsz := hT2.size
  have hx : byt s 1 = 120 ∨ byt s 1 = 88 := by omega
  have hu : bChar s = if unhexB' (byt s 2) && unhexB' (byt s 3) then some (shl4 (unhexV (byt s 2)) (unhexV (byt s 3)), false, 4) else none := by unfold bChar; rw [if_neg hb0, if_neg hn, hs1, if_neg (by decide), if_pos hx, if_neg hl]
  have l2 : ¬ (v2.size : Int) < 2 := by omega
  have l3 : (2 : Int) ≤ (v2.size : Int) := by omega
  have g0 : 0 < v2.size := by omega
  have g1 : 1 < v2.size := by omega
  have w0' : (0 : Int) < (v2.size : Int) := by omega
  have w1' : (1 : Int) < (v2.size : Int) := by omega
  have q0 : (v2[0]'g0).toNat = byt s 2 := hT2.get 0 g0
  have q1 : (v2[1]'g1).toNat = byt s 3 := hT2.get 1 g1
  have m0 := byt_lt s 2
  have m1 := byt_lt s 3
  obtain ⟨x0, hx0⟩ : ∃ x, byt s 2 = x := ⟨_, rfl⟩
  obtain ⟨x1, hx1'⟩ : ∃ x, byt s 3 = x := ⟨_, rfl⟩
  rw [hx0] at m0 q0
  rw [hx1'] at m1 q1
  rw [hx0, hx1'] at hu
  obtain ⟨b0, hb0'⟩ : ∃ b, unhexB' x0 = b := ⟨_, rfl⟩
  obtain ⟨b1, hb1'⟩ : ∃ b, unhexB' x1 = b := ⟨_, rfl⟩
  rw [hb0', hb1'] at hu
  have HB0 := Lib.hid hb0'
  have HB1 := Lib.hid hb1'
  have hsh := shl4_def (unhexV x0) (unhexV x1)
  have HT2 := Lib.hid hT2
  have X0 := Lib.hid hx0
  have X1 := Lib.hid hx1'
  clear h hn hc hb0 hs1 hx hT2 hb0' hb1' hx0 hx1'
  cases b0 with
  | false =>
    have hne : bChar s = none := by rw [hu]; rfl
    have Hu := Lib.hid hne
    clear hne hu
    go_enter Tryf.func87, Tryf.ntmps87
    go_wp2_with fail
    refine (unhex_any x0 m0 _).mono ?_
    rintro e w' ⟨rfl, rfl⟩
    rw [HB0.out]
    go_wp2_with fail
    refine (unhex_any x1 m1 _).mono ?_
    rintro e w' ⟨rfl, rfl⟩
    rw [HB1.out]
    go_wp2_with fail
    refine (errorf_0 _ (by exact answers_low hF hlow)).mono ?_
    rintro e w1 ⟨E, m, rfl, hE, hm, hb⟩
    have Hm := Lib.hid hm
    clear hm
    go_wp2_with fail
    refine bodyPost_ret (v := .tuple #[.int .i32 0, .bool false, .string ⟨#[]⟩, .iface 144 (.pointer (some ⟨E, 0, none⟩))]) ?_ rfl ?_
    · simp [results, Tryf.results87, go_sem]
    · exact UPost.no Hu.out (by repeat (first | exact Below.refl _ _ | apply below_drew | apply below_drewN | apply below_alloc | apply below_grow)) hE Hm.out hb
  | true =>
    cases b1 with
    | false =>
      have hne : bChar s = none := by rw [hu]; rfl
      have Hu := Lib.hid hne
      clear hne hu
      go_enter Tryf.func87, Tryf.ntmps87
      go_wp2_with fail
      refine (unhex_any x0 m0 _).mono ?_
      rintro e w' ⟨rfl, rfl⟩
      rw [HB0.out]
      go_wp2_with fail
      refine (unhex_any x1 m1 _).mono ?_
      rintro e w' ⟨rfl, rfl⟩
      rw [HB1.out]
      go_wp2_with fail
      refine (errorf_0 _ (by exact answers_low hF hlow)).mono ?_
      rintro e w1 ⟨E, m, rfl, hE, hm, hb⟩
      have Hm := Lib.hid hm
      clear hm
      go_wp2_with fail
      refine bodyPost_ret (v := .tuple #[.int .i32 0, .bool false, .string ⟨#[]⟩, .iface 144 (.pointer (some ⟨E, 0, none⟩))]) ?_ rfl ?_
      · simp [results, Tryf.results87, go_sem]
      · exact UPost.no Hu.out (by repeat (first | exact Below.refl _ _ | apply below_drew | apply below_drewN | apply below_alloc | apply below_grow)) hE Hm.out hb
    | true =>
      have hfin : bChar s = some (shl4 (unhexV x0) (unhexV x1), false, 4) := by rw [hu]; rfl
      have Hf := Lib.hid hfin
      clear hfin hu
      go_enter Tryf.func87, Tryf.ntmps87
      go_wp2_with fail
      refine (unhex_any x0 m0 _).mono ?_
      rintro e w' ⟨rfl, rfl⟩
      rw [HB0.out]
      go_wp2_with fail
      refine (unhex_any x1 m1 _).mono ?_
      rintro e w' ⟨rfl, rfl⟩
      rw [HB1.out]
      go_wp2_with fail
      go_quiet (fail)
      go_wp2_with fail
      refine bodyPost_ret (v := .tuple #[.int .i32 (shl4 (unhexV x0) (unhexV x1)), .bool false, .string (v2.extract 2 v2.size), .nilIface]) ?_ rfl ?_
      · simp [results, Tryf.results87, go_sem]
      · exact UPost.ok Hf.out (by rw [HT2.out.cut 2]) (by repeat (first | exact Below.refl _ _ | apply below_drew | apply below_drewN | apply below_alloc | apply below_grow))

set_option maxHeartbeats 4000000 in
set_option maxRecDepth 100000 in
theorem bc_x88short {F : Stop.Interp} {W0 w : World} (hF : F.answers W0.tape) (_hT : Tabs W0) (hlow : Below W0.heap.size W0 w) (s : ByteArray) (h0 : 0 < s.size) (hs : s.size ≤ 1099511627776) (h : byt s 0 = 92) (hn : ¬ s.size ≤ 1) (hc : byt s 1 = 88) (hl : s.size < 4) :
    Calls Tryf.prog 87 #[.string s] w (UPost (bChar s) s w) := by
  have s0 : (0 : Int) < (s.size : Int) := by omega
  have hb0 : ¬ byt s 0 ≠ 92 := by omega
  have e92 : ((s[0]'h0).toNat : Int) = 92 := by rw [← byt0 h0]; omega
  have h1 : 1 < s.size := by omega
  have s2 : (2 : Int) ≤ (s.size : Int) := by omega
  have s1 : ¬ (s.size : Int) ≤ 1 := by omega
  have s1' : (1 : Int) < (s.size : Int) := by omega
  have hs1 : simpleEsc (byt s 1) = -1 := by rw [hc]; decide
  have ec : ((s[1]'h1).toNat : Int) = 88 := by rw [← byt_of h1]; omega
  have hT2 := tail2 s h1
  obtain ⟨v2, hv2⟩ : ∃ v, s.extract 2 s.size = v := ⟨_, rfl⟩
  rw [hv2] at hT2
  have hsz := hT2.size
  have hx : byt s 1 = 120 ∨ byt s 1 = 88 := by omega
  have hu : bChar s = none := by unfold bChar; rw [if_neg hb0, if_neg hn, hs1, if_neg (by decide), if_pos hx, if_pos hl]
  have l2 : (v2.size : Int) < 2 := by omega
  have Hu := Lib.hid hu
  clear hu h hn hc hb0 hs1 hx hT2
  go_enter Tryf.func87, Tryf.ntmps87
  go_wp2_with fail
  refine (errorf_0 _ (by exact answers_low hF hlow)).mono ?_
  rintro e w1 ⟨E, m, rfl, hE, hm, hb⟩
  have Hm := Lib.hid hm
  clear hm
  go_wp2_with fail
  refine bodyPost_ret (v := .tuple #[.int .i32 0, .bool false, .string ⟨#[]⟩, .iface 144 (.pointer (some ⟨E, 0, none⟩))]) ?_ rfl ?_
  · simp [results, Tryf.results87, go_sem]
  · exact UPost.no Hu.out (by repeat (first | exact Below.refl _ _ | apply below_drew | apply below_drewN | apply below_alloc | apply below_grow)) hE Hm.out hb

set_option maxHeartbeats 4000000 in
set_option maxRecDepth 100000 in
theorem bc_x88long {F : Stop.Interp} {W0 w : World} (hF : F.answers W0.tape) (_hT : Tabs W0) (hlow : Below W0.heap.size W0 w) (s : ByteArray) (h0 : 0 < s.size) (hs : s.size ≤ 1099511627776) (h : byt s 0 = 92) (hn : ¬ s.size ≤ 1) (hc : byt s 1 = 88) (hl : ¬ s.size < 4) :
    Calls Tryf.prog 87 #[.string s] w (UPost (bChar s) s w) := by
  have s0 : (0 : Int) < (s.size : Int) := by omega
  have hb0 : ¬ byt s 0 ≠ 92 := by omega
  have e92 : ((s[0]'h0).toNat : Int) = 92 := by rw [← byt0 h0]; omega
  have h1 : 1 < s.size := by omega
  have s2 : (2 : Int) ≤ (s.size : Int) := by omega
  have s1 : ¬ (s.size : Int) ≤ 1 := by omega
  have s1' : (1 : Int) < (s.size : Int) := by omega
  have hs1 : simpleEsc (byt s 1) = -1 := by rw [hc]; decide
  have ec : ((s[1]'h1).toNat : Int) = 88 := by rw [← byt_of h1]; omega
  have hT2 := tail2 s h1
  obtain ⟨v2, hv2⟩ : ∃ v, s.extract 2 s.size = v := ⟨_, rfl⟩
  rw [hv2] at hT2
  have hsz := hT2.size
  have hx : byt s 1 = 120 ∨ byt s 1 = 88 := by omega
  have hu : bChar s = if unhexB' (byt s 2) && unhexB' (byt s 3) then some (shl4 (unhexV (byt s 2)) (unhexV (byt s 3)), false, 4) else none := by unfold bChar; rw [if_neg hb0, if_neg hn, hs1, if_neg (by decide), if_pos hx, if_neg hl]
  have l2 : ¬ (v2.size : Int) < 2 := by omega
  have l3 : (2 : Int) ≤ (v2.size : Int) := by omega
  have g0 : 0 < v2.size := by omega
  have g1 : 1 < v2.size := by omega
  have w0' : (0 : Int) < (v2.size : Int) := by omega
  have w1' : (1 : Int) < (v2.size : Int) := by omega
  have q0 : (v2[0]'g0).toNat = byt s 2 := hT2.get 0 g0
  have q1 : (v2[1]'g1).toNat = byt s 3 := hT2.get 1 g1
  have m0 := byt_lt s 2
  have m1 := byt_lt s 3
  obtain ⟨x0, hx0⟩ : ∃ x, byt s 2 = x := ⟨_, rfl⟩
  obtain ⟨x1, hx1'⟩ : ∃ x, byt s 3 = x := ⟨_, rfl⟩
  rw [hx0] at m0 q0
  rw [hx1'] at m1 q1
  rw [hx0, hx1'] at hu
  obtain ⟨b0, hb0'⟩ : ∃ b, unhexB' x0 = b := ⟨_, rfl⟩
  obtain ⟨b1, hb1'⟩ : ∃ b, unhexB' x1 = b := ⟨_, rfl⟩
  rw [hb0', hb1'] at hu
  have HB0 := Lib.hid hb0'
  have HB1 := Lib.hid hb1'
  have hsh := shl4_def (unhexV x0) (unhexV x1)
  have HT2 := Lib.hid hT2
  have X0 := Lib.hid hx0
  have X1 := Lib.hid hx1'
  clear h hn hc hb0 hs1 hx hT2 hb0' hb1' hx0 hx1'
  cases b0 with
  | false =>
    have hne : bChar s = none := by rw [hu]; rfl
    have Hu := Lib.hid hne
    clear hne hu
    go_enter Tryf.func87, Tryf.ntmps87
    go_wp2_with fail
    refine (unhex_any x0 m0 _).mono ?_
    rintro e w' ⟨rfl, rfl⟩
    rw [HB0.out]
    go_wp2_with fail
    refine (unhex_any x1 m1 _).mono ?_
    rintro e w' ⟨rfl, rfl⟩
    rw [HB1.out]
    go_wp2_with fail
    refine (errorf_0 _ (by exact answers_low hF hlow)).mono ?_
    rintro e w1 ⟨E, m, rfl, hE, hm, hb⟩
    have Hm := Lib.hid hm
    clear hm
    go_wp2_with fail
    refine bodyPost_ret (v := .tuple #[.int .i32 0, .bool false, .string ⟨#[]⟩, .iface 144 (.pointer (some ⟨E, 0, none⟩))]) ?_ rfl ?_
    · simp [results, Tryf.results87, go_sem]
    · exact UPost.no Hu.out (by repeat (first | exact Below.refl _ _ | apply below_drew | apply below_drewN | apply below_alloc | apply below_grow)) hE Hm.out hb
  | true =>
    cases b1 with
    | false =>
      have hne : bChar s = none := by rw [hu]; rfl
      have Hu := Lib.hid hne
      clear hne hu
      go_enter Tryf.func87, Tryf.ntmps87
      go_wp2_with fail
      refine (unhex_any x0 m0 _).mono ?_
      rintro e w' ⟨rfl, rfl⟩
      rw [HB0.out]
      go_wp2_with fail
      refine (unhex_any x1 m1 _).mono ?_
      rintro e w' ⟨rfl, rfl⟩
      rw [HB1.out]
      go_wp2_with fail
      refine (errorf_0 _ (by exact answers_low hF hlow)).mono ?_
      rintro e w1 ⟨E, m, rfl, hE, hm, hb⟩
      have Hm := Lib.hid hm
      clear hm
      go_wp2_with fail
      refine bodyPost_ret (v := .tuple #[.int .i32 0, .bool false, .string ⟨#[]⟩, .iface 144 (.pointer (some ⟨E, 0, none⟩))]) ?_ rfl ?_
      · simp [results, Tryf.results87, go_sem]
      · exact UPost.no Hu.out (by repeat (first | exact Below.refl _ _ | apply below_drew | apply below_drewN | apply below_alloc | apply below_grow)) hE Hm.out hb
    | true =>
      have hfin : bChar s = some (shl4 (unhexV x0) (unhexV x1), false, 4) := by rw [hu]; rfl
      have Hf := Lib.hid hfin
      clear hfin hu
      go_enter Tryf.func87, Tryf.ntmps87
      go_wp2_with fail
      refine (unhex_any x0 m0 _).mono ?_
      rintro e w' ⟨rfl, rfl⟩
      rw [HB0.out]
      go_wp2_with fail
      refine (unhex_any x1 m1 _).mono ?_
      rintro e w' ⟨rfl, rfl⟩
      rw [HB1.out]
      go_wp2_with fail
      go_quiet (fail)
      go_wp2_with fail
      refine bodyPost_ret (v := .tuple #[.int .i32 (shl4 (unhexV x0) (unhexV x1)), .bool false, .string (v2.extract 2 v2.size), .nilIface]) ?_ rfl ?_
      · simp [results, Tryf.results87, go_sem]
      · exact UPost.ok Hf.out (by rw [HT2.out.cut 2]) (by repeat (first | exact Below.refl _ _ | apply below_drew | apply below_drewN | apply below_alloc | apply below_grow))

end Go.Proofs.YtdpdgppjeekcmaaFmt

/-
  Walk: unescapeByteChar, its octal ways, all ways (printed by genbchar.py).
-/
namespace Go.Proofs.YtdpdgppjeekcmaaFmt
open Go Go.Lib Go.RowKit Go.Proofs
open Go.Extern.Stop Go.Stop Go.Extern

set_option maxHeartbeats 4000000 in
set_option maxRecDepth 100000 in
theorem bc_o48short {F : Stop.Interp} {W0 w : World} (hF : F.answers W0.tape) (_hT : Tabs W0) (hlow : Below W0.heap.size W0 w) (s : ByteArray) (h0 : 0 < s.size) (hs : s.size ≤ 1099511627776) (h : byt s 0 = 92) (hn : ¬ s.size ≤ 1) (hc : byt s 1 = 48) (hl : s.size < 4) :
    Calls Tryf.prog 87 #[.string s] w (UPost (bChar s) s w) := by
  have s0 : (0 : Int) < (s.size : Int) := by omega
  have hb0 : ¬ byt s 0 ≠ 92 := by omega
  have e92 : ((s[0]'h0).toNat : Int) = 92 := by rw [← byt0 h0]; omega
  have h1 : 1 < s.size := by omega
  have s2 : (2 : Int) ≤ (s.size : Int) := by omega
  have s1 : ¬ (s.size : Int) ≤ 1 := by omega
  have s1' : (1 : Int) < (s.size : Int) := by omega
  have hs1 : simpleEsc (byt s 1) = -1 := by rw [hc]; decide
  have ec : ((s[1]'h1).toNat : Int) = 48 := by rw [← byt_of h1]; omega
  have hT2 := tail2 s h1
  obtain ⟨v2, hv2⟩ : ∃ v, s.extract 2 s.size = v := ⟨_, rfl⟩
  rw [hv2] at hT2
  have hsz := hT2.size
  have hx : ¬ (byt s 1 = 120 ∨ byt s 1 = 88) := by omega
  have ho : 48 ≤ byt s 1 ∧ byt s 1 ≤ 51 := by omega
  have hu : bChar s = none := by unfold bChar; rw [if_neg hb0, if_neg hn, hs1, if_neg (by decide), if_neg hx, if_pos ho, if_pos hl]
  have l2 : (v2.size : Int) < 2 := by omega
  have Hu := Lib.hid hu
  clear hu h hn hc hb0 hs1 hx ho hT2
  go_enter Tryf.func87, Tryf.ntmps87
  go_wp2_with fail
  refine (errorf_2 _ (by exact answers_low hF hlow)).mono ?_
  rintro e w1 ⟨E, m, rfl, hE, hm, hb⟩
  have Hm := Lib.hid hm
  clear hm
  go_wp2_with fail
  refine bodyPost_ret (v := .tuple #[.int .i32 0, .bool false, .string ⟨#[]⟩, .iface 144 (.pointer (some ⟨E, 0, none⟩))]) ?_ rfl ?_
  · simp [results, Tryf.results87, go_sem]
  · exact UPost.no Hu.out (by repeat (first | exact Below.refl _ _ | apply below_drew | apply below_drewN | apply below_alloc | apply below_grow)) hE Hm.out hb

set_option maxHeartbeats 4000000 in
set_option maxRecDepth 100000 in
theorem bc_o48long {F : Stop.Interp} {W0 w : World} (hF : F.answers W0.tape) (_hT : Tabs W0) (hlow : Below W0.heap.size W0 w) (s : ByteArray) (h0 : 0 < s.size) (hs : s.size ≤ 1099511627776) (h : byt s 0 = 92) (hn : ¬ s.size ≤ 1) (hc : byt s 1 = 48) (hl : ¬ s.size < 4) :
    Calls Tryf.prog 87 #[.string s] w (UPost (bChar s) s w) := by
  have s0 : (0 : Int) < (s.size : Int) := by omega
  have hb0 : ¬ byt s 0 ≠ 92 := by omega
  have e92 : ((s[0]'h0).toNat : Int) = 92 := by rw [← byt0 h0]; omega
  have h1 : 1 < s.size := by omega
  have s2 : (2 : Int) ≤ (s.size : Int) := by omega
  have s1 : ¬ (s.size : Int) ≤ 1 := by omega
  have s1' : (1 : Int) < (s.size : Int) := by omega
  have hs1 : simpleEsc (byt s 1) = -1 := by rw [hc]; decide
  have ec : ((s[1]'h1).toNat : Int) = 48 := by rw [← byt_of h1]; omega
  have hT2 := tail2 s h1
  obtain ⟨v2, hv2⟩ : ∃ v, s.extract 2 s.size = v := ⟨_, rfl⟩
  rw [hv2] at hT2
  have hsz := hT2.size
  have hx : ¬ (byt s 1 = 120 ∨ byt s 1 = 88) := by omega
  have ho : 48 ≤ byt s 1 ∧ byt s 1 ≤ 51 := by omega
  have hu : bChar s = if isOct (byt s 2) && isOct (byt s 3) then some (((byt s 1 : Nat) - 48 : Int) * 64 + ((byt s 2 : Nat) - 48 : Int) * 8 + ((byt s 3 : Nat) - 48 : Int), false, 4) else none := by unfold bChar; rw [if_neg hb0, if_neg hn, hs1, if_neg (by decide), if_neg hx, if_pos ho, if_neg hl]
  have l2 : ¬ (v2.size : Int) < 2 := by omega
  have l3 : (2 : Int) ≤ (v2.size : Int) := by omega
  have g0 : 0 < v2.size := by omega
  have g1 : 1 < v2.size := by omega
  have w0' : (0 : Int) < (v2.size : Int) := by omega
  have w1' : (1 : Int) < (v2.size : Int) := by omega
  have q0 : (v2[0]'g0).toNat = byt s 2 := hT2.get 0 g0
  have q1 : (v2[1]'g1).toNat = byt s 3 := hT2.get 1 g1
  have m0 := byt_lt s 2
  have m1 := byt_lt s 3
  obtain ⟨x0, hx0⟩ : ∃ x, byt s 2 = x := ⟨_, rfl⟩
  obtain ⟨x1, hx1'⟩ : ∃ x, byt s 3 = x := ⟨_, rfl⟩
  rw [hx0] at m0 q0
  rw [hx1'] at m1 q1
  rw [hx0, hx1'] at hu
  rw [hc] at hu
  have HT2 := Lib.hid hT2
  have X0 := Lib.hid hx0
  have X1 := Lib.hid hx1'
  clear h hn hc hb0 hs1 hx ho hT2 hx0 hx1'
  by_cases hbad : (x0 : Int) < 48 ∨ (48 ≤ (x0 : Int) ∧ 55 < (x0 : Int)) ∨ (48 ≤ (x0 : Int) ∧ (x0 : Int) ≤ 55 ∧ (x1 : Int) < 48) ∨ (48 ≤ (x0 : Int) ∧ (x0 : Int) ≤ 55 ∧ 48 ≤ (x1 : Int) ∧ 55 < (x1 : Int))
  · have hne : bChar s = none := by rw [hu, if_neg]; simp [isOct]; omega
    have Hu := Lib.hid hne
    clear hne hu
    rcases hbad with a | ⟨a, b⟩ | ⟨a, b, c⟩ | ⟨a, b, c, d⟩
    all_goals
      go_enter Tryf.func87, Tryf.ntmps87
      go_wp2_with fail
      refine (errorf_2 _ (by exact answers_low hF hlow)).mono ?_
      rintro e w1 ⟨E, m, rfl, hE, hm, hb⟩
      have Hm := Lib.hid hm
      clear hm
      go_wp2_with fail
      refine bodyPost_ret (v := .tuple #[.int .i32 0, .bool false, .string ⟨#[]⟩, .iface 144 (.pointer (some ⟨E, 0, none⟩))]) ?_ rfl ?_
      · simp [results, Tryf.results87, go_sem]
      · exact UPost.no Hu.out (by repeat (first | exact Below.refl _ _ | apply below_drew | apply below_drewN | apply below_alloc | apply below_grow)) hE Hm.out hb
  · have p0 : (48 : Int) ≤ (x0 : Int) := by omega
    have p1 : (x0 : Int) ≤ 55 := by omega
    have p2 : (48 : Int) ≤ (x1 : Int) := by omega
    have p3 : (x1 : Int) ≤ 55 := by omega
    have d0 : isOct x0 = true := isOct_iff.2 (by omega)
    have d1 : isOct x1 = true := isOct_iff.2 (by omega)
    rw [d0, d1, Bool.and_self, if_pos rfl] at hu
    have Hf := Lib.hid hu
    clear hu d0 d1 hbad
    go_enter Tryf.func87, Tryf.ntmps87
    go_wp2_with fail
    go_quiet (fail)
    go_wp2_with fail
    go_quiet (fail)
    go_wp2_with fail
    refine bodyPost_ret (v := .tuple #[.int .i32 (((48 : Nat) - 48 : Int) * 64 + ((x0 : Nat) - 48 : Int) * 8 + ((x1 : Nat) - 48 : Int)), .bool false, .string (v2.extract 2 v2.size), .nilIface]) ?_ rfl ?_
    · simp [results, Tryf.results87, go_sem]
    · exact UPost.ok Hf.out (by rw [HT2.out.cut 2]) (by repeat (first | exact Below.refl _ _ | apply below_drew | apply below_drewN | apply below_alloc | apply below_grow))

set_option maxHeartbeats 4000000 in
set_option maxRecDepth 100000 in
theorem bc_o49short {F : Stop.Interp} {W0 w : World} (hF : F.answers W0.tape) (_hT : Tabs W0) (hlow : Below W0.heap.size W0 w) (s : ByteArray) (h0 : 0 < s.size) (hs : s.size ≤ 1099511627776) (h : byt s 0 = 92) (hn : ¬ s.size ≤ 1) (hc : byt s 1 = 49) (hl : s.size < 4) :
    Calls Tryf.prog 87 #[.string s] w (UPost (bChar s) s w) := by
  have s0 : (0 : Int) < (s.size : Int) := by omega
  have hb0 : ¬ byt s 0 ≠ 92 := by omega
  have e92 : ((s[0]'h0).toNat : Int) = 92 := by rw [← byt0 h0]; omega
  have h1 : 1 < s.size := by omega
  have s2 : (2 : Int) ≤ (s.size : Int) := by omega
  have s1 : ¬ (s.size : Int) ≤ 1 := by omega
  have s1' : (1 : Int) < (s.size : Int) := by omega
  have hs1 : simpleEsc (byt s 1) = -1 := by rw [hc]; decide
  have ec : ((s[1]'h1).toNat : Int) = 49 := by rw [← byt_of h1]; omega
  have hT2 := tail2 s h1
  obtain ⟨v2, hv2⟩ : ∃ v, s.extract 2 s.size = v := ⟨_, rfl⟩
  rw [hv2] at hT2
  have hsz := hT2.size
  have hx : ¬ (byt s 1 = 120 ∨ byt s 1 = 88) := by omega
  have ho : 48 ≤ byt s 1 ∧ byt s 1 ≤ 51 := by omega
  have hu : bChar s = none := by unfold bChar; rw [if_neg hb0, if_neg hn, hs1, if_neg (by decide), if_neg hx, if_pos ho, if_pos hl]
  have l2 : (v2.size : Int) < 2 := by omega
  have Hu := Lib.hid hu
  clear hu h hn hc hb0 hs1 hx ho hT2
  go_enter Tryf.func87, Tryf.ntmps87
  go_wp2_with fail
  refine (errorf_2 _ (by exact answers_low hF hlow)).mono ?_
  rintro e w1 ⟨E, m, rfl, hE, hm, hb⟩
  have Hm := Lib.hid hm
  clear hm
  go_wp2_with fail
  refine bodyPost_ret (v := .tuple #[.int .i32 0, .bool false, .string ⟨#[]⟩, .iface 144 (.pointer (some ⟨E, 0, none⟩))]) ?_ rfl ?_
  · simp [results, Tryf.results87, go_sem]
  · exact UPost.no Hu.out (by repeat (first | exact Below.refl _ _ | apply below_drew | apply below_drewN | apply below_alloc | apply below_grow)) hE Hm.out hb

set_option maxHeartbeats 4000000 in
set_option maxRecDepth 100000 in
theorem bc_o49long {F : Stop.Interp} {W0 w : World} (hF : F.answers W0.tape) (_hT : Tabs W0) (hlow : Below W0.heap.size W0 w) (s : ByteArray) (h0 : 0 < s.size) (hs : s.size ≤ 1099511627776) (h : byt s 0 = 92) (hn : ¬ s.size ≤ 1) (hc : byt s 1 = 49) (hl : ¬ s.size < 4) :
    Calls Tryf.prog 87 #[.string s] w (UPost (bChar s) s w) := by
  have s0 : (0 : Int) < (s.size : Int) := by omega
  have hb0 : ¬ byt s 0 ≠ 92 := by omega
  have e92 : ((s[0]'h0).toNat : Int) = 92 := by rw [← byt0 h0]; omega
  have h1 : 1 < s.size := by omega
  have s2 : (2 : Int) ≤ (s.size : Int) := by omega
  have s1 : ¬ (s.size : Int) ≤ 1 := by omega
  have s1' : (1 : Int) < (s.size : Int) := by omega
  have hs1 : simpleEsc (byt s 1) = -1 := by rw [hc]; decide
  have ec : ((s[1]'h1).toNat : Int) = 49 := by rw [← byt_of h1]; omega
  have hT2 := tail2 s h1
  obtain ⟨v2, hv2⟩ : ∃ v, s.extract 2 s.size = v := ⟨_, rfl⟩
  rw [hv2] at hT2
  have hsz := hT2.size
  have hx : ¬ (byt s 1 = 120 ∨ byt s 1 = 88) := by omega
  have ho : 48 ≤ byt s 1 ∧ byt s 1 ≤ 51 := by omega
  have hu : bChar s = if isOct (byt s 2) && isOct (byt s 3) then some (((byt s 1 : Nat) - 48 : Int) * 64 + ((byt s 2 : Nat) - 48 : Int) * 8 + ((byt s 3 : Nat) - 48 : Int), false, 4) else none := by unfold bChar; rw [if_neg hb0, if_neg hn, hs1, if_neg (by decide), if_neg hx, if_pos ho, if_neg hl]
  have l2 : ¬ (v2.size : Int) < 2 := by omega
  have l3 : (2 : Int) ≤ (v2.size : Int) := by omega
  have g0 : 0 < v2.size := by omega
  have g1 : 1 < v2.size := by omega
  have w0' : (0 : Int) < (v2.size : Int) := by omega
  have w1' : (1 : Int) < (v2.size : Int) := by omega
  have q0 : (v2[0]'g0).toNat = byt s 2 := hT2.get 0 g0
  have q1 : (v2[1]'g1).toNat = byt s 3 := hT2.get 1 g1
  have m0 := byt_lt s 2
  have m1 := byt_lt s 3
  obtain ⟨x0, hx0⟩ : ∃ x, byt s 2 = x := ⟨_, rfl⟩
  obtain ⟨x1, hx1'⟩ : ∃ x, byt s 3 = x := ⟨_, rfl⟩
  rw [hx0] at m0 q0
  rw [hx1'] at m1 q1
  rw [hx0, hx1'] at hu
  rw [hc] at hu
  have HT2 := Lib.hid hT2
  have X0 := Lib.hid hx0
  have X1 := Lib.hid hx1'
  clear h hn hc hb0 hs1 hx ho hT2 hx0 hx1'
  by_cases hbad : (x0 : Int) < 48 ∨ (48 ≤ (x0 : Int) ∧ 55 < (x0 : Int)) ∨ (48 ≤ (x0 : Int) ∧ (x0 : Int) ≤ 55 ∧ (x1 : Int) < 48) ∨ (48 ≤ (x0 : Int) ∧ (x0 : Int) ≤ 55 ∧ 48 ≤ (x1 : Int) ∧ 55 < (x1 : Int))
  · have hne : bChar s = none := by rw [hu, if_neg]; simp [isOct]; omega
    have Hu := Lib.hid hne
    clear hne hu
    rcases hbad with a | ⟨a, b⟩ | ⟨a, b, c⟩ | ⟨a, b, c, d⟩
    all_goals
      go_enter Tryf.func87, Tryf.ntmps87
      go_wp2_with fail
      refine (errorf_2 _ (by exact answers_low hF hlow)).mono ?_
      rintro e w1 ⟨E, m, rfl, hE, hm, hb⟩
      have Hm := Lib.hid hm
      clear hm
      go_wp2_with fail
      refine bodyPost_ret (v := .tuple #[.int .i32 0, .bool false, .string ⟨#[]⟩, .iface 144 (.pointer (some ⟨E, 0, none⟩))]) ?_ rfl ?_
      · simp [results, Tryf.results87, go_sem]
      · exact UPost.no Hu.out (by repeat (first | exact Below.refl _ _ | apply below_drew | apply below_drewN | apply below_alloc | apply below_grow)) hE Hm.out hb
  · have p0 : (48 : Int) ≤ (x0 : Int) := by omega
    have p1 : (x0 : Int) ≤ 55 := by omega
    have p2 : (48 : Int) ≤ (x1 : Int) := by omega
    have p3 : (x1 : Int) ≤ 55 := by omega
    have d0 : isOct x0 = true := isOct_iff.2 (by omega)
    have d1 : isOct x1 = true := isOct_iff.2 (by omega)
    rw [d0, d1, Bool.and_self, if_pos rfl] at hu
    have Hf := Lib.hid hu
    clear hu d0 d1 hbad
    go_enter Tryf.func87, Tryf.ntmps87
    go_wp2_with fail
    go_quiet (fail)
    go_wp2_with fail
    go_quiet (fail)
    go_wp2_with fail
    refine bodyPost_ret (v := .tuple #[.int .i32 (((49 : Nat) - 48 : Int) * 64 + ((x0 : Nat) - 48 : Int) * 8 + ((x1 : Nat) - 48 : Int)), .bool false, .string (v2.extract 2 v2.size), .nilIface]) ?_ rfl ?_
    · simp [results, Tryf.results87, go_sem]
    · exact UPost.ok Hf.out (by rw [HT2.out.cut 2]) (by repeat (first | exact Below.refl _ _ | apply below_drew | apply below_drewN | apply below_alloc | apply below_grow))

set_option maxHeartbeats 4000000 in
set_option maxRecDepth 100000 in
theorem bc_o50short {F : Stop.Interp} {W0 w : World} (hF : F.answers W0.tape) (_hT : Tabs W0) (hlow : Below W0.heap.size W0 w) (s : ByteArray) (h0 : 0 < s.size) (hs : s.size ≤ 1099511627776) (h : byt s 0 = 92) (hn : ¬ s.size ≤ 1) (hc : byt s 1 = 50) (hl : s.size < 4) :
    Calls Tryf.prog 87 #[.string s] w (UPost (bChar s) s w) := by
  have s0 : (0 : Int) < (s.size : Int) := by omega
  have hb0 : ¬ byt s 0 ≠ 92 := by omega
  have e92 : ((s[0]'h0).toNat : Int) = 92 := by rw [← byt0 h0]; omega
  have h1 : 1 < s.size := by omega
  have s2 : (2 : Int) ≤ (s.size : Int) := by omega
  have s1 : ¬ (s.size : Int) ≤ 1 := by omega
  have s1' : (1 : Int) < (s.size : Int) := by omega
  have hs1 : simpleEsc (byt s 1) = -1 := by rw [hc]; decide
  have ec : ((s[1]'h1).toNat : Int) = 50 := by rw [← byt_of h1]; omega
  have hT2 := tail2 s h1
  obtain ⟨v2, hv2⟩ : ∃ v, s.extract 2 s.size = v := ⟨_, rfl⟩
  rw [hv2] at hT2
  have hsz := hT2.size
  have hx : ¬ (byt s 1 = 120 ∨ byt s 1 = 88) := by omega
  have ho : 48 ≤ byt s 1 ∧ byt s 1 ≤ 51 := by omega
  have hu : bChar s = none := by unfold bChar; rw [if_neg hb0, if_neg hn, hs1, if_neg (by decide), if_neg hx, if_pos ho, if_pos hl]
  have l2 : (v2.size : Int) < 2 := by omega
  have Hu := Lib.hid hu
  clear hu h hn hc hb0 hs1 hx ho hT2
  go_enter Tryf.func87, Tryf.ntmps87
  go_wp2_with fail
  refine (errorf_2 _ (by exact answers_low hF hlow)).mono ?_
  rintro e w1 ⟨E, m, rfl, hE, hm, hb⟩
  have Hm := Lib.hid hm
  clear hm
  go_wp2_with fail
  refine bodyPost_ret (v := .tuple #[.int .i32 0, .bool false, .string ⟨#[]⟩, .iface 144 (.pointer (some ⟨E, 0, none⟩))]) ?_ rfl ?_
  · simp [results, Tryf.results87, go_sem]
  · exact UPost.no Hu.out (by repeat (first | exact Below.refl _ _ | apply below_drew | apply below_drewN | apply below_alloc | apply below_grow)) hE Hm.out hb

set_option maxHeartbeats 4000000 in
set_option maxRecDepth 100000 in
theorem bc_o50long {F : Stop.Interp} {W0 w : World} (hF : F.answers W0.tape) (_hT : Tabs W0) (hlow : Below W0.heap.size W0 w) (s : ByteArray) (h0 : 0 < s.size) (hs : s.size ≤ 1099511627776) (h : byt s 0 = 92) (hn : ¬ s.size ≤ 1) (hc : byt s 1 = 50) (hl : ¬ s.size < 4) :
    Calls Tryf.prog 87 #[.string s] w (UPost (bChar s) s w) := by
  have s0 : (0 : Int) < (s.size : Int) := by omega
  have hb0 : ¬ byt s 0 ≠ 92 := by omega
  have e92 : ((s[0]'h0).toNat : Int) = 92 := by rw [← byt0 h0]; omega
  have h1 : 1 < s.size := by omega
  have s2 : (2 : Int) ≤ (s.size : Int) := by omega
  have s1 : ¬ (s.size : Int) ≤ 1 := by omega
  have s1' : (1 : Int) < (s.size : Int) := by omega
  have hs1 : simpleEsc (byt s 1) = -1 := by rw [hc]; decide
  have ec : ((s[1]'h1).toNat : Int) = 50 := by rw [← byt_of h1]; omega
  have hT2 := tail2 s h1
  obtain ⟨v2, hv2⟩ : ∃ v, s.extract 2 s.size = v := ⟨_, rfl⟩
  rw [hv2] at hT2
  have hsz := hT2.size
  have hx : ¬ (byt s 1 = 120 ∨ byt s 1 = 88) := by omega
  have ho : 48 ≤ byt s 1 ∧ byt s 1 ≤ 51 := by omega
  have hu : bChar s = if isOct (byt s 2) && isOct (byt s 3) then some (((byt s 1 : Nat) - 48 : Int) * 64 + ((byt s 2 : Nat) - 48 : Int) * 8 + ((byt s 3 : Nat) - 48 : Int), false, 4) else none := by unfold bChar; rw [if_neg hb0, if_neg hn, hs1, if_neg (by decide), if_neg hx, if_pos ho, if_neg hl]
  have l2 : ¬ (v2.size : Int) < 2 := by omega
  have l3 : (2 : Int) ≤ (v2.size : Int) := by omega
  have g0 : 0 < v2.size := by omega
  have g1 : 1 < v2.size := by omega
  have w0' : (0 : Int) < (v2.size : Int) := by omega
  have w1' : (1 : Int) < (v2.size : Int) := by omega
  have q0 : (v2[0]'g0).toNat = byt s 2 := hT2.get 0 g0
  have q1 : (v2[1]'g1).toNat = byt s 3 := hT2.get 1 g1
  have m0 := byt_lt s 2
  have m1 := byt_lt s 3
  obtain ⟨x0, hx0⟩ : ∃ x, byt s 2 = x := ⟨_, rfl⟩
  obtain ⟨x1, hx1'⟩ : ∃ x, byt s 3 = x := ⟨_, rfl⟩
  rw [hx0] at m0 q0
  rw [hx1'] at m1 q1
  rw [hx0, hx1'] at hu
  rw [hc] at hu
  have HT2 := Lib.hid hT2
  have X0 := Lib.hid hx0
  have X1 := Lib.hid hx1'
  clear h hn hc hb0 hs1 hx ho hT2 hx0 hx1'
  by_cases hbad : (x0 : Int) < 48 ∨ (48 ≤ (x0 : Int) ∧ 55 < (x0 : Int)) ∨ (48 ≤ (x0 : Int) ∧ (x0 : Int) ≤ 55 ∧ (x1 : Int) < 48) ∨ (48 ≤ (x0 : Int) ∧ (x0 : Int) ≤ 55 ∧ 48 ≤ (x1 : Int) ∧ 55 < (x1 : Int))
  · have hne : bChar s = none := by rw [hu, if_neg]; simp [isOct]; omega
    have Hu := Lib.hid hne
    clear hne hu
    rcases hbad with a | ⟨a, b⟩ | ⟨a, b, c⟩ | ⟨a, b, c, d⟩
    all_goals
      go_enter Tryf.func87, Tryf.ntmps87
      go_wp2_with fail
      refine (errorf_2 _ (by exact answers_low hF hlow)).mono ?_
      rintro e w1 ⟨E, m, rfl, hE, hm, hb⟩
      have Hm := Lib.hid hm
      clear hm
      go_wp2_with fail
      refine bodyPost_ret (v := .tuple #[.int .i32 0, .bool false, .string ⟨#[]⟩, .iface 144 (.pointer (some ⟨E, 0, none⟩))]) ?_ rfl ?_
      · simp [results, Tryf.results87, go_sem]
      · exact UPost.no Hu.out (by repeat (first | exact Below.refl _ _ | apply below_drew | apply below_drewN | apply below_alloc | apply below_grow)) hE Hm.out hb
  · have p0 : (48 : Int) ≤ (x0 : Int) := by omega
    have p1 : (x0 : Int) ≤ 55 := by omega
    have p2 : (48 : Int) ≤ (x1 : Int) := by omega
    have p3 : (x1 : Int) ≤ 55 := by omega
    have d0 : isOct x0 = true := isOct_iff.2 (by omega)
    have d1 : isOct x1 = true := isOct_iff.2 (by omega)
    rw [d0, d1, Bool.and_self, if_pos rfl] at hu
    have Hf := Lib.hid hu
    clear hu d0 d1 hbad
    go_enter Tryf.func87, Tryf.ntmps87
    go_wp2_with fail
    go_quiet (fail)
    go_wp2_with fail
    go_quiet (fail)
    go_wp2_with fail
    refine bodyPost_ret (v := .tuple #[.int .i32 (((50 : Nat) - 48 : Int) * 64 + ((x0 : Nat) - 48 : Int) * 8 + ((x1 : Nat) - 48 : Int)), .bool false, .string (v2.extract 2 v2.size), .nilIface]) ?_ rfl ?_
    · simp [results, Tryf.results87, go_sem]
    · exact UPost.ok Hf.out (by rw [HT2.out.cut 2]) (by repeat (first | exact Below.refl _ _ | apply below_drew | apply below_drewN | apply below_alloc | apply below_grow))

set_option maxHeartbeats 4000000 in
set_option maxRecDepth 100000 in
theorem bc_o51short {F : Stop.Interp} {W0 w : World} (hF : F.answers W0.tape) (_hT : Tabs W0) (hlow : Below W0.heap.size W0 w) (s : ByteArray) (h0 : 0 < s.size) (hs : s.size ≤ 1099511627776) (h : byt s 0 = 92) (hn : ¬ s.size ≤ 1) (hc : byt s 1 = 51) (hl : s.size < 4) :
    Calls Tryf.prog 87 #[.string s] w (UPost (bChar s) s w) := by
  have s0 : (0 : Int) < (s.size : Int) := by omega
  have hb0 : ¬ byt s 0 ≠ 92 := by omega
  have e92 : ((s[0]'h0).toNat : Int) = 92 := by rw [← byt0 h0]; omega
  have h1 : 1 < s.size := by omega
  have s2 : (2 : Int) ≤ (s.size : Int) := by omega
  have s1 : ¬ (s.size : Int) ≤ 1 := by omega
  have s1' : (1 : Int) < (s.size : Int) := by omega
  have hs1 : simpleEsc (byt s 1) = -1 := by rw [hc]; decide
  have ec : ((s[1]'h1).toNat : Int) = 51 := by rw [← byt_of h1]; omega
  have hT2 := tail2 s h1
  obtain ⟨v2, hv2⟩ : ∃ v, s.extract 2 s.size = v := ⟨_, rfl⟩
  rw [hv2] at hT2
  have hsz := hT2.size
  have hx : ¬ (byt s 1 = 120 ∨ byt s 1 = 88) := by omega
  have ho : 48 ≤ byt s 1 ∧ byt s 1 ≤ 51 := by omega
  have hu : bChar s = none := by unfold bChar; rw [if_neg hb0, if_neg hn, hs1, if_neg (by decide), if_neg hx, if_pos ho, if_pos hl]
  have l2 : (v2.size : Int) < 2 := by omega
  have Hu := Lib.hid hu
  clear hu h hn hc hb0 hs1 hx ho hT2
  go_enter Tryf.func87, Tryf.ntmps87
  go_wp2_with fail
  refine (errorf_2 _ (by exact answers_low hF hlow)).mono ?_
  rintro e w1 ⟨E, m, rfl, hE, hm, hb⟩
  have Hm := Lib.hid hm
  clear hm
  go_wp2_with fail
  refine bodyPost_ret (v := .tuple #[.int .i32 0, .bool false, .string ⟨#[]⟩, .iface 144 (.pointer (some ⟨E, 0, none⟩))]) ?_ rfl ?_
  · simp [results, Tryf.results87, go_sem]
  · exact UPost.no Hu.out (by repeat (first | exact Below.refl _ _ | apply below_drew | apply below_drewN | apply below_alloc | apply below_grow)) hE Hm.out hb

set_option maxHeartbeats 4000000 in
set_option maxRecDepth 100000 in
theorem bc_o51long {F : Stop.Interp} {W0 w : World} (hF : F.answers W0.tape) (_hT : Tabs W0) (hlow : Below W0.heap.size W0 w) (s : ByteArray) (h0 : 0 < s.size) (hs : s.size ≤ 1099511627776) (h : byt s 0 = 92) (hn : ¬ s.size ≤ 1) (hc : byt s 1 = 51) (hl : ¬ s.size < 4) :
    Calls Tryf.prog 87 #[.string s] w (UPost (bChar s) s w) := by
  have s0 : (0 : Int) < (s.size : Int) := by omega
  have hb0 : ¬ byt s 0 ≠ 92 := by omega
  have e92 : ((s[0]'h0).toNat : Int) = 92 := by rw [← byt0 h0]; omega
  have h1 : 1 < s.size := by omega
  have s2 : (2 : Int) ≤ (s.size : Int) := by omega
  have s1 : ¬ (s.size : Int) ≤ 1 := by omega
  have s1' : (1 : Int) < (s.size : Int) := by omega
  have hs1 : simpleEsc (byt s 1) = -1 := by rw [hc]; decide
  have ec : ((s[1]'h1).toNat : Int) = 51 := by rw [← byt_of h1]; omega
  have hT2 := tail2 s h1
  obtain ⟨v2, hv2⟩ : ∃ v, s.extract 2 s.size = v := ⟨_, rfl⟩
  rw [hv2] at hT2
  have hsz := hT2.size
  have hx : ¬ (byt s 1 = 120 ∨ byt s 1 = 88) := by omega
  have ho : 48 ≤ byt s 1 ∧ byt s 1 ≤ 51 := by omega
  have hu : bChar s = if isOct (byt s 2) && isOct (byt s 3) then some (((byt s 1 : Nat) - 48 : Int) * 64 + ((byt s 2 : Nat) - 48 : Int) * 8 + ((byt s 3 : Nat) - 48 : Int), false, 4) else none := by unfold bChar; rw [if_neg hb0, if_neg hn, hs1, if_neg (by decide), if_neg hx, if_pos ho, if_neg hl]
  have l2 : ¬ (v2.size : Int) < 2 := by omega
  have l3 : (2 : Int) ≤ (v2.size : Int) := by omega
  have g0 : 0 < v2.size := by omega
  have g1 : 1 < v2.size := by omega
  have w0' : (0 : Int) < (v2.size : Int) := by omega
  have w1' : (1 : Int) < (v2.size : Int) := by omega
  have q0 : (v2[0]'g0).toNat = byt s 2 := hT2.get 0 g0
  have q1 : (v2[1]'g1).toNat = byt s 3 := hT2.get 1 g1
  have m0 := byt_lt s 2
  have m1 := byt_lt s 3
  obtain ⟨x0, hx0⟩ : ∃ x, byt s 2 = x := ⟨_, rfl⟩
  obtain ⟨x1, hx1'⟩ : ∃ x, byt s 3 = x := ⟨_, rfl⟩
  rw [hx0] at m0 q0
  rw [hx1'] at m1 q1
  rw [hx0, hx1'] at hu
  rw [hc] at hu
  have HT2 := Lib.hid hT2
  have X0 := Lib.hid hx0
  have X1 := Lib.hid hx1'
  clear h hn hc hb0 hs1 hx ho hT2 hx0 hx1'
  by_cases hbad : (x0 : Int) < 48 ∨ (48 ≤ (x0 : Int) ∧ 55 < (x0 : Int)) ∨ (48 ≤ (x0 : Int) ∧ (x0 : Int) ≤ 55 ∧ (x1 : Int) < 48) ∨ (48 ≤ (x0 : Int) ∧ (x0 : Int) ≤ 55 ∧ 48 ≤ (x1 : Int) ∧ 55 < (x1 : Int))
  · have hne : bChar s = none := by rw [hu, if_neg]; simp [isOct]; omega
    have Hu := Lib.hid hne
    clear hne hu
    rcases hbad with a | ⟨a, b⟩ | ⟨a, b, c⟩ | ⟨a, b, c, d⟩
    all_goals
      go_enter Tryf.func87, Tryf.ntmps87
      go_wp2_with fail
      refine (errorf_2 _ (by exact answers_low hF hlow)).mono ?_
      rintro e w1 ⟨E, m, rfl, hE, hm, hb⟩
      have Hm := Lib.hid hm
      clear hm
      go_wp2_with fail
      refine bodyPost_ret (v := .tuple #[.int .i32 0, .bool false, .string ⟨#[]⟩, .iface 144 (.pointer (some ⟨E, 0, none⟩))]) ?_ rfl ?_
      · simp [results, Tryf.results87, go_sem]
      · exact UPost.no Hu.out (by repeat (first | exact Below.refl _ _ | apply below_drew | apply below_drewN | apply below_alloc | apply below_grow)) hE Hm.out hb
  · have p0 : (48 : Int) ≤ (x0 : Int) := by omega
    have p1 : (x0 : Int) ≤ 55 := by omega
    have p2 : (48 : Int) ≤ (x1 : Int) := by omega
    have p3 : (x1 : Int) ≤ 55 := by omega
    have d0 : isOct x0 = true := isOct_iff.2 (by omega)
    have d1 : isOct x1 = true := isOct_iff.2 (by omega)
    rw [d0, d1, Bool.and_self, if_pos rfl] at hu
    have Hf := Lib.hid hu
    clear hu d0 d1 hbad
    go_enter Tryf.func87, Tryf.ntmps87
    go_wp2_with fail
    go_quiet (fail)
    go_wp2_with fail
    go_quiet (fail)
    go_wp2_with fail
    refine bodyPost_ret (v := .tuple #[.int .i32 (((51 : Nat) - 48 : Int) * 64 + ((x0 : Nat) - 48 : Int) * 8 + ((x1 : Nat) - 48 : Int)), .bool false, .string (v2.extract 2 v2.size), .nilIface]) ?_ rfl ?_
    · simp [results, Tryf.results87, go_sem]
    · exact UPost.ok Hf.out (by rw [HT2.out.cut 2]) (by repeat (first | exact Below.refl _ _ | apply below_drew | apply below_drewN | apply below_alloc | apply below_grow))

theorem unescapeByteChar_any {F : Stop.Interp} {W0 w : World} (hF : F.answers W0.tape) (hT : Tabs W0) (hlow : Below W0.heap.size W0 w) (s : ByteArray) (h0 : 0 < s.size) (hs : s.size ≤ 1099511627776) :
    Calls Tryf.prog 87 #[.string s] w (UPost (bChar s) s w) := by
  by_cases h2 : byt s 0 = 92
  · by_cases hn : s.size ≤ 1
    · exact bc_last hF hT hlow s h0 hs h2 hn
    by_cases k97 : byt s 1 = 97
    · exact bc_s97 hF hT hlow s h0 hs h2 hn k97
    by_cases k98 : byt s 1 = 98
    · exact bc_s98 hF hT hlow s h0 hs h2 hn k98
    by_cases k102 : byt s 1 = 102
    · exact bc_s102 hF hT hlow s h0 hs h2 hn k102
    by_cases k110 : byt s 1 = 110
    · exact bc_s110 hF hT hlow s h0 hs h2 hn k110
    by_cases k114 : byt s 1 = 114
    · exact bc_s114 hF hT hlow s h0 hs h2 hn k114
    by_cases k116 : byt s 1 = 116
    · exact bc_s116 hF hT hlow s h0 hs h2 hn k116
    by_cases k118 : byt s 1 = 118
    · exact bc_s118 hF hT hlow s h0 hs h2 hn k118
    by_cases k92 : byt s 1 = 92
    · exact bc_s92 hF hT hlow s h0 hs h2 hn k92
    by_cases k39 : byt s 1 = 39
    · exact bc_s39 hF hT hlow s h0 hs h2 hn k39
    by_cases k34 : byt s 1 = 34
    · exact bc_s34 hF hT hlow s h0 hs h2 hn k34
    by_cases k96 : byt s 1 = 96
    · exact bc_s96 hF hT hlow s h0 hs h2 hn k96
    by_cases k63 : byt s 1 = 63
    · exact bc_s63 hF hT hlow s h0 hs h2 hn k63
    have hse : simpleEsc (byt s 1) = -1 := by unfold simpleEsc; rw [if_neg k97]; rw [if_neg k98]; rw [if_neg k102]; rw [if_neg k110]; rw [if_neg k114]; rw [if_neg k116]; rw [if_neg k118]; rw [if_neg k92]; rw [if_neg k39]; rw [if_neg k34]; rw [if_neg k96]; rw [if_neg k63]
    by_cases k120 : byt s 1 = 120
    · by_cases hl : s.size < 4
      · exact bc_x120short hF hT hlow s h0 hs h2 hn k120 hl
      · exact bc_x120long hF hT hlow s h0 hs h2 hn k120 hl
    by_cases k88 : byt s 1 = 88
    · by_cases hl : s.size < 4
      · exact bc_x88short hF hT hlow s h0 hs h2 hn k88 hl
      · exact bc_x88long hF hT hlow s h0 hs h2 hn k88 hl
    by_cases k48 : byt s 1 = 48
    · by_cases hl : s.size < 4
      · exact bc_o48short hF hT hlow s h0 hs h2 hn k48 hl
      · exact bc_o48long hF hT hlow s h0 hs h2 hn k48 hl
    by_cases k49 : byt s 1 = 49
    · by_cases hl : s.size < 4
      · exact bc_o49short hF hT hlow s h0 hs h2 hn k49 hl
      · exact bc_o49long hF hT hlow s h0 hs h2 hn k49 hl
    by_cases k50 : byt s 1 = 50
    · by_cases hl : s.size < 4
      · exact bc_o50short hF hT hlow s h0 hs h2 hn k50 hl
      · exact bc_o50long hF hT hlow s h0 hs h2 hn k50 hl
    by_cases k51 : byt s 1 = 51
    · by_cases hl : s.size < 4
      · exact bc_o51short hF hT hlow s h0 hs h2 hn k51 hl
      · exact bc_o51long hF hT hlow s h0 hs h2 hn k51 hl
    exact bc_bad hF hT hlow s h0 hs h2 hn hse (by omega) (by omega)
  · by_cases h : 128 ≤ byt s 0
    · exact bc_high hF hT hlow s h0 hs h2 h
    · exact bc_low hF hT hlow s h0 hs (by omega) h2

end Go.Proofs.YtdpdgppjeekcmaaFmt
