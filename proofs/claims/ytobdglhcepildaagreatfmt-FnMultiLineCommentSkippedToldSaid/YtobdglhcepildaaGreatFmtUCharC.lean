/-
  Walk: unescapeChar, its hexadecimal ways (printed by genuchar.py).
-/
import Derived.Test.YtobdglhcepildaaGreatFmtUCharB
import Derived.WalkKit
namespace Go.Proofs.YtobdglhcepildaaGreatFmt
open Go Go.Lib Go.RowKit Go.Proofs
open Go.Extern.Stop Go.Stop Go.Extern

theorem hexN_succ (s : ByteArray) (n i : Nat) (v : Int) : hexN s (n + 1) i v = if unhexB' (byt s i) then hexN s n (i + 1) (shl4 v (unhexV (byt s i))) else none := rfl
theorem hexBr_succ (s : ByteArray) (f i d : Nat) (v : Int) : hexBr s (f + 1) i d v = if i < s.size ∧ byt s i ≠ 125 then (if unhexB' (byt s i) then (if 6 ≤ d then none else hexBr s f (i + 1) (d + 1) (shl4 v (unhexV (byt s i)))) else none) else if i < s.size ∧ d ≠ 0 then some (v, i) else none := rfl
theorem shl4_def (v x : Int) : bits BinOp.or .i32 (wrap32 (v * 16)) x = shl4 v x := by unfold shl4; rw [IntWalk.i32_left]

set_option maxHeartbeats 4000000 in
set_option maxRecDepth 100000 in
theorem uc_x_short {F : Stop.Interp} {W0 w : World} (hF : F.answers W0.tape) (hT : Tabs W0) (hlow : Below W0.heap.size W0 w) (s : ByteArray) (h0 : 0 < s.size) (hs : s.size ≤ 1099511627776) (h : byt s 0 = 92) (hn : ¬ s.size ≤ 1) (hc : byt s 1 = 120) (hl : s.size - 2 < 2) :
    Calls Tryz.prog 69 #[.string s] w (UPost (uChar s) s w) := by
  have s0 : (0 : Int) < (s.size : Int) := by omega
  have hb0 : ¬ 128 ≤ byt s 0 := by omega
  have e92 : ((s[0]'h0).toNat : Int) = 92 := by rw [← byt0 h0]; omega
  have h1 : 1 < s.size := by omega
  have s2 : (2 : Int) ≤ (s.size : Int) := by omega
  have s1 : ¬ (s.size : Int) ≤ 1 := by omega
  have s1' : (1 : Int) < (s.size : Int) := by omega
  have hs1 : simpleEsc (byt s 1) = -1 := by rw [hc]; decide
  have hx1 : byt s 1 = 120 ∨ byt s 1 = 88 ∨ byt s 1 = 117 ∨ byt s 1 = 85 := by omega
  have hnb : ¬ (byt s 1 = 117 ∧ 2 < s.size ∧ byt s 2 = 123) := by omega
  have hw1 : escW (byt s 1) = 2 := by rw [hc]; rfl
  have ec : ((s[1]'h1).toNat : Int) = 120 := by rw [← byt_of h1]; omega

  have hT2 := tail2 s h1
  obtain ⟨v2, hv2⟩ : ∃ v, s.extract 2 s.size = v := ⟨_, rfl⟩
  rw [hv2] at hT2
  have hsz := hT2.size
  have hu : uChar s = none := by unfold uChar; rw [if_neg hb0, if_neg (by omega), if_neg hn, hs1, if_neg (by decide), if_pos hx1, if_neg hnb, hw1, if_pos hl]
  have l2 : (v2.size : Int) < 2 := by omega
  have Hu := Lib.hid hu
  have HT2 := Lib.hid hT2
  clear hu h hn hc hb0 hs1 hx1 hnb hw1 hT2
  go_enter Tryz.func69, Tryz.ntmps69
  go_wp2_with fail
  refine (errorf_0 _ (by exact answers_low hF hlow)).mono ?_
  rintro e w1 ⟨E, m, rfl, hE, hm, hb⟩
  have Hm := Lib.hid hm
  clear hm
  go_wp2_with fail
  refine bodyPost_ret (v := .tuple #[.int .i32 0, .bool false, .string ⟨#[]⟩, .iface 139 (.pointer (some ⟨E, 0, none⟩))]) ?_ rfl ?_
  · simp [results, Tryz.results69, go_sem]
  · exact UPost.no Hu.out (by repeat (first | exact Below.refl _ _ | apply below_drew | apply below_drewN | apply below_alloc | apply below_grow)) hE Hm.out hb

set_option maxHeartbeats 4000000 in
set_option maxRecDepth 100000 in
theorem uc_x_long {F : Stop.Interp} {W0 w : World} (hF : F.answers W0.tape) (hT : Tabs W0) (hlow : Below W0.heap.size W0 w) (s : ByteArray) (h0 : 0 < s.size) (hs : s.size ≤ 1099511627776) (h : byt s 0 = 92) (hn : ¬ s.size ≤ 1) (hc : byt s 1 = 120) (hl : ¬ s.size - 2 < 2) :
    Calls Tryz.prog 69 #[.string s] w (UPost (uChar s) s w) := by
  have s0 : (0 : Int) < (s.size : Int) := by omega
  have hb0 : ¬ 128 ≤ byt s 0 := by omega
  have e92 : ((s[0]'h0).toNat : Int) = 92 := by rw [← byt0 h0]; omega
  have h1 : 1 < s.size := by omega
  have s2 : (2 : Int) ≤ (s.size : Int) := by omega
  have s1 : ¬ (s.size : Int) ≤ 1 := by omega
  have s1' : (1 : Int) < (s.size : Int) := by omega
  have hs1 : simpleEsc (byt s 1) = -1 := by rw [hc]; decide
  have hx1 : byt s 1 = 120 ∨ byt s 1 = 88 ∨ byt s 1 = 117 ∨ byt s 1 = 85 := by omega
  have hnb : ¬ (byt s 1 = 117 ∧ 2 < s.size ∧ byt s 2 = 123) := by omega
  have hw1 : escW (byt s 1) = 2 := by rw [hc]; rfl
  have ec : ((s[1]'h1).toNat : Int) = 120 := by rw [← byt_of h1]; omega

  have hT2 := tail2 s h1
  obtain ⟨v2, hv2⟩ : ∃ v, s.extract 2 s.size = v := ⟨_, rfl⟩
  rw [hv2] at hT2
  have hsz := hT2.size
  have hu : uChar s = hexEnd (2 + 2) (hexN s 2 2 0) := by unfold uChar; rw [if_neg hb0, if_neg (by omega), if_neg hn, hs1, if_neg (by decide), if_pos hx1, if_neg hnb, hw1, if_neg hl]
  have l2 : ¬ (v2.size : Int) < 2 := by omega
  have l3 : (2 : Int) ≤ (v2.size : Int) := by omega
  have Hu := Lib.hid hu
  have HT2 := Lib.hid hT2
  clear hu h hn hc hb0 hs1 hx1 hnb hw1 hT2
  go_enter Tryz.func69, Tryz.ntmps69
  go_wp2_with fail
  have Hv2 := Lib.hid hv2
  clear hv2
  go_loopg [5, 15, 16] 3 (fun g ev vv jv wr => ∃ (j : Nat) (v : Int), ev = .nilIface ∧ vv = .int .i32 v ∧ jv = .int .i64 (j : Nat) ∧ w = wr ∧ j ≤ 2 ∧ 2 < j + g ∧ Hid (hexN s (2 - j) (j + 2) v = hexN s 2 2 0))
  case atStart => exact ⟨0, 0, rfl, rfl, rfl, rfl, by omega, by omega, Lib.hid rfl⟩
  case round =>
    obtain ⟨j, v, rfl, rfl, rfl, rfl, hj, hg, heq⟩ := hrel
    by_cases hjn : (j : Int) < 2
    · have gj : j < v2.size := by omega
      have j0 : (0 : Int) ≤ (j : Int) := by omega
      have j1 : (j : Int) < (v2.size : Int) := by omega
      have qj : (v2[j]'gj).toNat = byt s (j + 2) := HT2.out.get j gj
      obtain ⟨x, hx⟩ : ∃ x, byt s (j + 2) = x := ⟨_, rfl⟩
      have hx256 : x < 256 := by rw [← hx]; exact byt_lt s _
      obtain ⟨k, hk⟩ : ∃ k, 2 - j = k + 1 := ⟨2 - j - 1, by omega⟩
      have hst := heq.out
      rw [hk, hexN_succ, hx] at hst
      rw [hx] at qj
      have HX := Lib.hid hx
      clear hx heq
      cases hux : unhexB' x with
      | false =>
        rw [hux] at hst
        have hne : uChar s = none := by rw [Hu.out, ← hst]; rfl
        have Hu := Lib.hid hne
        have Hux := Lib.hid hux
        clear hne hst hux
        go_wp2_with fail
        refine (unhex_any x hx256 _).mono ?_
        rintro e w' ⟨rfl, rfl⟩
        rw [Hux.out]
        go_wp2_with fail
        refine (errorf_0 _ (by exact answers_low hF hlow)).mono ?_
        rintro e w1 ⟨E, m, rfl, hE, hm, hb⟩
        have Hm := Lib.hid hm
        clear hm
        go_wp2_with fail
        refine bodyPost_ret (v := .tuple #[.int .i32 0, .bool false, .string ⟨#[]⟩, .iface 139 (.pointer (some ⟨E, 0, none⟩))]) ?_ rfl ?_
        · simp [results, Tryz.results69, go_sem]
        · exact UPost.no Hu.out (by repeat (first | exact Below.refl _ _ | apply below_drew | apply below_drewN | apply below_alloc | apply below_grow)) hE Hm.out hb
      | true =>
        rw [hux, if_pos rfl] at hst
        have hk2 : 2 - (j + 1) = k := by omega
        rw [← hk2] at hst
        have Hst := Lib.hid hst
        have Hux := Lib.hid hux
        have hsh := shl4_def v (unhexV x)
        clear hst hux hk hk2
        go_wp2_with fail
        refine (unhex_any x hx256 _).mono ?_
        rintro e w' ⟨rfl, rfl⟩
        rw [Hux.out]
        go_wp2_with fail
        go_roundg (2 - j)
        case measure => omega
        case rel => exact ⟨j + 1, shl4 v (unhexV x), rfl, rfl, by go_num, rfl, by omega, by omega, by rw [show j + 1 + 2 = j + 2 + 1 by omega]; exact Hst⟩
    · have hj2 : j = 2 := by omega
      subst hj2
      have hst := heq.out
      change some v = _ at hst
      have hu2 := Hu.out
      rw [← hst] at hu2
      clear heq
      by_cases hv : 1114111 < v
      · have hne : uChar s = none := by rw [hu2]; exact if_pos hv
        have Hu := Lib.hid hne
        clear hne hu2 hst
        go_wp2_with fail
        refine (errorf_0 _ (by exact answers_low hF hlow)).mono ?_
        rintro e w1 ⟨E, m, rfl, hE, hm, hb⟩
        have Hm := Lib.hid hm
        clear hm
        go_wp2_with fail
        refine bodyPost_ret (v := .tuple #[.int .i32 0, .bool false, .string ⟨#[]⟩, .iface 139 (.pointer (some ⟨E, 0, none⟩))]) ?_ rfl ?_
        · simp [results, Tryz.results69, go_sem]
        · exact UPost.no Hu.out (by repeat (first | exact Below.refl _ _ | apply below_drew | apply below_drewN | apply below_alloc | apply below_grow)) hE Hm.out hb
      · have hfin : uChar s = some (v, true, 2 + 2) := by rw [hu2]; exact if_neg hv
        have Hf := Lib.hid hfin
        clear hfin hu2 hst
        go_wp2_with fail
        refine bodyPost_ret (v := .tuple #[.int .i32 v, .bool true, .string (v2.extract 2 v2.size), .nilIface]) ?_ rfl ?_
        · simp [results, Tryz.results69, go_sem]
        · exact UPost.ok Hf.out (by rw [HT2.out.cut 2]) (Below.refl _ _)

set_option maxHeartbeats 4000000 in
set_option maxRecDepth 100000 in
theorem uc_X_short {F : Stop.Interp} {W0 w : World} (hF : F.answers W0.tape) (hT : Tabs W0) (hlow : Below W0.heap.size W0 w) (s : ByteArray) (h0 : 0 < s.size) (hs : s.size ≤ 1099511627776) (h : byt s 0 = 92) (hn : ¬ s.size ≤ 1) (hc : byt s 1 = 88) (hl : s.size - 2 < 2) :
    Calls Tryz.prog 69 #[.string s] w (UPost (uChar s) s w) := by
  have s0 : (0 : Int) < (s.size : Int) := by omega
  have hb0 : ¬ 128 ≤ byt s 0 := by omega
  have e92 : ((s[0]'h0).toNat : Int) = 92 := by rw [← byt0 h0]; omega
  have h1 : 1 < s.size := by omega
  have s2 : (2 : Int) ≤ (s.size : Int) := by omega
  have s1 : ¬ (s.size : Int) ≤ 1 := by omega
  have s1' : (1 : Int) < (s.size : Int) := by omega
  have hs1 : simpleEsc (byt s 1) = -1 := by rw [hc]; decide
  have hx1 : byt s 1 = 120 ∨ byt s 1 = 88 ∨ byt s 1 = 117 ∨ byt s 1 = 85 := by omega
  have hnb : ¬ (byt s 1 = 117 ∧ 2 < s.size ∧ byt s 2 = 123) := by omega
  have hw1 : escW (byt s 1) = 2 := by rw [hc]; rfl
  have ec : ((s[1]'h1).toNat : Int) = 88 := by rw [← byt_of h1]; omega

  have hT2 := tail2 s h1
  obtain ⟨v2, hv2⟩ : ∃ v, s.extract 2 s.size = v := ⟨_, rfl⟩
  rw [hv2] at hT2
  have hsz := hT2.size
  have hu : uChar s = none := by unfold uChar; rw [if_neg hb0, if_neg (by omega), if_neg hn, hs1, if_neg (by decide), if_pos hx1, if_neg hnb, hw1, if_pos hl]
  have l2 : (v2.size : Int) < 2 := by omega
  have Hu := Lib.hid hu
  have HT2 := Lib.hid hT2
  clear hu h hn hc hb0 hs1 hx1 hnb hw1 hT2
  go_enter Tryz.func69, Tryz.ntmps69
  go_wp2_with fail
  refine (errorf_0 _ (by exact answers_low hF hlow)).mono ?_
  rintro e w1 ⟨E, m, rfl, hE, hm, hb⟩
  have Hm := Lib.hid hm
  clear hm
  go_wp2_with fail
  refine bodyPost_ret (v := .tuple #[.int .i32 0, .bool false, .string ⟨#[]⟩, .iface 139 (.pointer (some ⟨E, 0, none⟩))]) ?_ rfl ?_
  · simp [results, Tryz.results69, go_sem]
  · exact UPost.no Hu.out (by repeat (first | exact Below.refl _ _ | apply below_drew | apply below_drewN | apply below_alloc | apply below_grow)) hE Hm.out hb

set_option maxHeartbeats 4000000 in
set_option maxRecDepth 100000 in
theorem uc_X_long {F : Stop.Interp} {W0 w : World} (hF : F.answers W0.tape) (hT : Tabs W0) (hlow : Below W0.heap.size W0 w) (s : ByteArray) (h0 : 0 < s.size) (hs : s.size ≤ 1099511627776) (h : byt s 0 = 92) (hn : ¬ s.size ≤ 1) (hc : byt s 1 = 88) (hl : ¬ s.size - 2 < 2) :
    Calls Tryz.prog 69 #[.string s] w (UPost (uChar s) s w) := by
  have s0 : (0 : Int) < (s.size : Int) := by omega
  have hb0 : ¬ 128 ≤ byt s 0 := by omega
  have e92 : ((s[0]'h0).toNat : Int) = 92 := by rw [← byt0 h0]; omega
  have h1 : 1 < s.size := by omega
  have s2 : (2 : Int) ≤ (s.size : Int) := by omega
  have s1 : ¬ (s.size : Int) ≤ 1 := by omega
  have s1' : (1 : Int) < (s.size : Int) := by omega
  have hs1 : simpleEsc (byt s 1) = -1 := by rw [hc]; decide
  have hx1 : byt s 1 = 120 ∨ byt s 1 = 88 ∨ byt s 1 = 117 ∨ byt s 1 = 85 := by omega
  have hnb : ¬ (byt s 1 = 117 ∧ 2 < s.size ∧ byt s 2 = 123) := by omega
  have hw1 : escW (byt s 1) = 2 := by rw [hc]; rfl
  have ec : ((s[1]'h1).toNat : Int) = 88 := by rw [← byt_of h1]; omega

  have hT2 := tail2 s h1
  obtain ⟨v2, hv2⟩ : ∃ v, s.extract 2 s.size = v := ⟨_, rfl⟩
  rw [hv2] at hT2
  have hsz := hT2.size
  have hu : uChar s = hexEnd (2 + 2) (hexN s 2 2 0) := by unfold uChar; rw [if_neg hb0, if_neg (by omega), if_neg hn, hs1, if_neg (by decide), if_pos hx1, if_neg hnb, hw1, if_neg hl]
  have l2 : ¬ (v2.size : Int) < 2 := by omega
  have l3 : (2 : Int) ≤ (v2.size : Int) := by omega
  have Hu := Lib.hid hu
  have HT2 := Lib.hid hT2
  clear hu h hn hc hb0 hs1 hx1 hnb hw1 hT2
  go_enter Tryz.func69, Tryz.ntmps69
  go_wp2_with fail
  have Hv2 := Lib.hid hv2
  clear hv2
  go_loopg [5, 15, 16] 3 (fun g ev vv jv wr => ∃ (j : Nat) (v : Int), ev = .nilIface ∧ vv = .int .i32 v ∧ jv = .int .i64 (j : Nat) ∧ w = wr ∧ j ≤ 2 ∧ 2 < j + g ∧ Hid (hexN s (2 - j) (j + 2) v = hexN s 2 2 0))
  case atStart => exact ⟨0, 0, rfl, rfl, rfl, rfl, by omega, by omega, Lib.hid rfl⟩
  case round =>
    obtain ⟨j, v, rfl, rfl, rfl, rfl, hj, hg, heq⟩ := hrel
    by_cases hjn : (j : Int) < 2
    · have gj : j < v2.size := by omega
      have j0 : (0 : Int) ≤ (j : Int) := by omega
      have j1 : (j : Int) < (v2.size : Int) := by omega
      have qj : (v2[j]'gj).toNat = byt s (j + 2) := HT2.out.get j gj
      obtain ⟨x, hx⟩ : ∃ x, byt s (j + 2) = x := ⟨_, rfl⟩
      have hx256 : x < 256 := by rw [← hx]; exact byt_lt s _
      obtain ⟨k, hk⟩ : ∃ k, 2 - j = k + 1 := ⟨2 - j - 1, by omega⟩
      have hst := heq.out
      rw [hk, hexN_succ, hx] at hst
      rw [hx] at qj
      have HX := Lib.hid hx
      clear hx heq
      cases hux : unhexB' x with
      | false =>
        rw [hux] at hst
        have hne : uChar s = none := by rw [Hu.out, ← hst]; rfl
        have Hu := Lib.hid hne
        have Hux := Lib.hid hux
        clear hne hst hux
        go_wp2_with fail
        refine (unhex_any x hx256 _).mono ?_
        rintro e w' ⟨rfl, rfl⟩
        rw [Hux.out]
        go_wp2_with fail
        refine (errorf_0 _ (by exact answers_low hF hlow)).mono ?_
        rintro e w1 ⟨E, m, rfl, hE, hm, hb⟩
        have Hm := Lib.hid hm
        clear hm
        go_wp2_with fail
        refine bodyPost_ret (v := .tuple #[.int .i32 0, .bool false, .string ⟨#[]⟩, .iface 139 (.pointer (some ⟨E, 0, none⟩))]) ?_ rfl ?_
        · simp [results, Tryz.results69, go_sem]
        · exact UPost.no Hu.out (by repeat (first | exact Below.refl _ _ | apply below_drew | apply below_drewN | apply below_alloc | apply below_grow)) hE Hm.out hb
      | true =>
        rw [hux, if_pos rfl] at hst
        have hk2 : 2 - (j + 1) = k := by omega
        rw [← hk2] at hst
        have Hst := Lib.hid hst
        have Hux := Lib.hid hux
        have hsh := shl4_def v (unhexV x)
        clear hst hux hk hk2
        go_wp2_with fail
        refine (unhex_any x hx256 _).mono ?_
        rintro e w' ⟨rfl, rfl⟩
        rw [Hux.out]
        go_wp2_with fail
        go_roundg (2 - j)
        case measure => omega
        case rel => exact ⟨j + 1, shl4 v (unhexV x), rfl, rfl, by go_num, rfl, by omega, by omega, by rw [show j + 1 + 2 = j + 2 + 1 by omega]; exact Hst⟩
    · have hj2 : j = 2 := by omega
      subst hj2
      have hst := heq.out
      change some v = _ at hst
      have hu2 := Hu.out
      rw [← hst] at hu2
      clear heq
      by_cases hv : 1114111 < v
      · have hne : uChar s = none := by rw [hu2]; exact if_pos hv
        have Hu := Lib.hid hne
        clear hne hu2 hst
        go_wp2_with fail
        refine (errorf_0 _ (by exact answers_low hF hlow)).mono ?_
        rintro e w1 ⟨E, m, rfl, hE, hm, hb⟩
        have Hm := Lib.hid hm
        clear hm
        go_wp2_with fail
        refine bodyPost_ret (v := .tuple #[.int .i32 0, .bool false, .string ⟨#[]⟩, .iface 139 (.pointer (some ⟨E, 0, none⟩))]) ?_ rfl ?_
        · simp [results, Tryz.results69, go_sem]
        · exact UPost.no Hu.out (by repeat (first | exact Below.refl _ _ | apply below_drew | apply below_drewN | apply below_alloc | apply below_grow)) hE Hm.out hb
      · have hfin : uChar s = some (v, true, 2 + 2) := by rw [hu2]; exact if_neg hv
        have Hf := Lib.hid hfin
        clear hfin hu2 hst
        go_wp2_with fail
        refine bodyPost_ret (v := .tuple #[.int .i32 v, .bool true, .string (v2.extract 2 v2.size), .nilIface]) ?_ rfl ?_
        · simp [results, Tryz.results69, go_sem]
        · exact UPost.ok Hf.out (by rw [HT2.out.cut 2]) (Below.refl _ _)

set_option maxHeartbeats 4000000 in
set_option maxRecDepth 100000 in
theorem uc_U_short {F : Stop.Interp} {W0 w : World} (hF : F.answers W0.tape) (hT : Tabs W0) (hlow : Below W0.heap.size W0 w) (s : ByteArray) (h0 : 0 < s.size) (hs : s.size ≤ 1099511627776) (h : byt s 0 = 92) (hn : ¬ s.size ≤ 1) (hc : byt s 1 = 85) (hl : s.size - 2 < 8) :
    Calls Tryz.prog 69 #[.string s] w (UPost (uChar s) s w) := by
  have s0 : (0 : Int) < (s.size : Int) := by omega
  have hb0 : ¬ 128 ≤ byt s 0 := by omega
  have e92 : ((s[0]'h0).toNat : Int) = 92 := by rw [← byt0 h0]; omega
  have h1 : 1 < s.size := by omega
  have s2 : (2 : Int) ≤ (s.size : Int) := by omega
  have s1 : ¬ (s.size : Int) ≤ 1 := by omega
  have s1' : (1 : Int) < (s.size : Int) := by omega
  have hs1 : simpleEsc (byt s 1) = -1 := by rw [hc]; decide
  have hx1 : byt s 1 = 120 ∨ byt s 1 = 88 ∨ byt s 1 = 117 ∨ byt s 1 = 85 := by omega
  have hnb : ¬ (byt s 1 = 117 ∧ 2 < s.size ∧ byt s 2 = 123) := by omega
  have hw1 : escW (byt s 1) = 8 := by rw [hc]; rfl
  have ec : ((s[1]'h1).toNat : Int) = 85 := by rw [← byt_of h1]; omega

  have hT2 := tail2 s h1
  obtain ⟨v2, hv2⟩ : ∃ v, s.extract 2 s.size = v := ⟨_, rfl⟩
  rw [hv2] at hT2
  have hsz := hT2.size
  have hu : uChar s = none := by unfold uChar; rw [if_neg hb0, if_neg (by omega), if_neg hn, hs1, if_neg (by decide), if_pos hx1, if_neg hnb, hw1, if_pos hl]
  have l2 : (v2.size : Int) < 8 := by omega
  have Hu := Lib.hid hu
  have HT2 := Lib.hid hT2
  clear hu h hn hc hb0 hs1 hx1 hnb hw1 hT2
  go_enter Tryz.func69, Tryz.ntmps69
  go_wp2_with fail
  refine (errorf_0 _ (by exact answers_low hF hlow)).mono ?_
  rintro e w1 ⟨E, m, rfl, hE, hm, hb⟩
  have Hm := Lib.hid hm
  clear hm
  go_wp2_with fail
  refine bodyPost_ret (v := .tuple #[.int .i32 0, .bool false, .string ⟨#[]⟩, .iface 139 (.pointer (some ⟨E, 0, none⟩))]) ?_ rfl ?_
  · simp [results, Tryz.results69, go_sem]
  · exact UPost.no Hu.out (by repeat (first | exact Below.refl _ _ | apply below_drew | apply below_drewN | apply below_alloc | apply below_grow)) hE Hm.out hb

set_option maxHeartbeats 4000000 in
set_option maxRecDepth 100000 in
theorem uc_U_long {F : Stop.Interp} {W0 w : World} (hF : F.answers W0.tape) (hT : Tabs W0) (hlow : Below W0.heap.size W0 w) (s : ByteArray) (h0 : 0 < s.size) (hs : s.size ≤ 1099511627776) (h : byt s 0 = 92) (hn : ¬ s.size ≤ 1) (hc : byt s 1 = 85) (hl : ¬ s.size - 2 < 8) :
    Calls Tryz.prog 69 #[.string s] w (UPost (uChar s) s w) := by
  have s0 : (0 : Int) < (s.size : Int) := by omega
  have hb0 : ¬ 128 ≤ byt s 0 := by omega
  have e92 : ((s[0]'h0).toNat : Int) = 92 := by rw [← byt0 h0]; omega
  have h1 : 1 < s.size := by omega
  have s2 : (2 : Int) ≤ (s.size : Int) := by omega
  have s1 : ¬ (s.size : Int) ≤ 1 := by omega
  have s1' : (1 : Int) < (s.size : Int) := by omega
  have hs1 : simpleEsc (byt s 1) = -1 := by rw [hc]; decide
  have hx1 : byt s 1 = 120 ∨ byt s 1 = 88 ∨ byt s 1 = 117 ∨ byt s 1 = 85 := by omega
  have hnb : ¬ (byt s 1 = 117 ∧ 2 < s.size ∧ byt s 2 = 123) := by omega
  have hw1 : escW (byt s 1) = 8 := by rw [hc]; rfl
  have ec : ((s[1]'h1).toNat : Int) = 85 := by rw [← byt_of h1]; omega

  have hT2 := tail2 s h1
  obtain ⟨v2, hv2⟩ : ∃ v, s.extract 2 s.size = v := ⟨_, rfl⟩
  rw [hv2] at hT2
  have hsz := hT2.size
  have hu : uChar s = hexEnd (8 + 2) (hexN s 8 2 0) := by unfold uChar; rw [if_neg hb0, if_neg (by omega), if_neg hn, hs1, if_neg (by decide), if_pos hx1, if_neg hnb, hw1, if_neg hl]
  have l2 : ¬ (v2.size : Int) < 8 := by omega
  have l3 : (8 : Int) ≤ (v2.size : Int) := by omega
  have Hu := Lib.hid hu
  have HT2 := Lib.hid hT2
  clear hu h hn hc hb0 hs1 hx1 hnb hw1 hT2
  go_enter Tryz.func69, Tryz.ntmps69
  go_wp2_with fail
  have Hv2 := Lib.hid hv2
  clear hv2
  go_loopg [5, 15, 16] 9 (fun g ev vv jv wr => ∃ (j : Nat) (v : Int), ev = .nilIface ∧ vv = .int .i32 v ∧ jv = .int .i64 (j : Nat) ∧ w = wr ∧ j ≤ 8 ∧ 8 < j + g ∧ Hid (hexN s (8 - j) (j + 2) v = hexN s 8 2 0))
  case atStart => exact ⟨0, 0, rfl, rfl, rfl, rfl, by omega, by omega, Lib.hid rfl⟩
  case round =>
    obtain ⟨j, v, rfl, rfl, rfl, rfl, hj, hg, heq⟩ := hrel
    by_cases hjn : (j : Int) < 8
    · have gj : j < v2.size := by omega
      have j0 : (0 : Int) ≤ (j : Int) := by omega
      have j1 : (j : Int) < (v2.size : Int) := by omega
      have qj : (v2[j]'gj).toNat = byt s (j + 2) := HT2.out.get j gj
      obtain ⟨x, hx⟩ : ∃ x, byt s (j + 2) = x := ⟨_, rfl⟩
      have hx256 : x < 256 := by rw [← hx]; exact byt_lt s _
      obtain ⟨k, hk⟩ : ∃ k, 8 - j = k + 1 := ⟨8 - j - 1, by omega⟩
      have hst := heq.out
      rw [hk, hexN_succ, hx] at hst
      rw [hx] at qj
      have HX := Lib.hid hx
      clear hx heq
      cases hux : unhexB' x with
      | false =>
        rw [hux] at hst
        have hne : uChar s = none := by rw [Hu.out, ← hst]; rfl
        have Hu := Lib.hid hne
        have Hux := Lib.hid hux
        clear hne hst hux
        go_wp2_with fail
        refine (unhex_any x hx256 _).mono ?_
        rintro e w' ⟨rfl, rfl⟩
        rw [Hux.out]
        go_wp2_with fail
        refine (errorf_0 _ (by exact answers_low hF hlow)).mono ?_
        rintro e w1 ⟨E, m, rfl, hE, hm, hb⟩
        have Hm := Lib.hid hm
        clear hm
        go_wp2_with fail
        refine bodyPost_ret (v := .tuple #[.int .i32 0, .bool false, .string ⟨#[]⟩, .iface 139 (.pointer (some ⟨E, 0, none⟩))]) ?_ rfl ?_
        · simp [results, Tryz.results69, go_sem]
        · exact UPost.no Hu.out (by repeat (first | exact Below.refl _ _ | apply below_drew | apply below_drewN | apply below_alloc | apply below_grow)) hE Hm.out hb
      | true =>
        rw [hux, if_pos rfl] at hst
        have hk2 : 8 - (j + 1) = k := by omega
        rw [← hk2] at hst
        have Hst := Lib.hid hst
        have Hux := Lib.hid hux
        have hsh := shl4_def v (unhexV x)
        clear hst hux hk hk2
        go_wp2_with fail
        refine (unhex_any x hx256 _).mono ?_
        rintro e w' ⟨rfl, rfl⟩
        rw [Hux.out]
        go_wp2_with fail
        go_roundg (8 - j)
        case measure => omega
        case rel => exact ⟨j + 1, shl4 v (unhexV x), rfl, rfl, by go_num, rfl, by omega, by omega, by rw [show j + 1 + 2 = j + 2 + 1 by omega]; exact Hst⟩
    · have hj2 : j = 8 := by omega
      subst hj2
      have hst := heq.out
      change some v = _ at hst
      have hu2 := Hu.out
      rw [← hst] at hu2
      clear heq
      by_cases hv : 1114111 < v
      · have hne : uChar s = none := by rw [hu2]; exact if_pos hv
        have Hu := Lib.hid hne
        clear hne hu2 hst
        go_wp2_with fail
        refine (errorf_0 _ (by exact answers_low hF hlow)).mono ?_
        rintro e w1 ⟨E, m, rfl, hE, hm, hb⟩
        have Hm := Lib.hid hm
        clear hm
        go_wp2_with fail
        refine bodyPost_ret (v := .tuple #[.int .i32 0, .bool false, .string ⟨#[]⟩, .iface 139 (.pointer (some ⟨E, 0, none⟩))]) ?_ rfl ?_
        · simp [results, Tryz.results69, go_sem]
        · exact UPost.no Hu.out (by repeat (first | exact Below.refl _ _ | apply below_drew | apply below_drewN | apply below_alloc | apply below_grow)) hE Hm.out hb
      · have hfin : uChar s = some (v, true, 8 + 2) := by rw [hu2]; exact if_neg hv
        have Hf := Lib.hid hfin
        clear hfin hu2 hst
        go_wp2_with fail
        refine bodyPost_ret (v := .tuple #[.int .i32 v, .bool true, .string (v2.extract 8 v2.size), .nilIface]) ?_ rfl ?_
        · simp [results, Tryz.results69, go_sem]
        · exact UPost.ok Hf.out (by rw [HT2.out.cut 8]) (Below.refl _ _)

set_option maxHeartbeats 4000000 in
set_option maxRecDepth 100000 in
theorem uc_u_shorte {F : Stop.Interp} {W0 w : World} (hF : F.answers W0.tape) (hT : Tabs W0) (hlow : Below W0.heap.size W0 w) (s : ByteArray) (h0 : 0 < s.size) (hs : s.size ≤ 1099511627776) (h : byt s 0 = 92) (hn : ¬ s.size ≤ 1) (hc : byt s 1 = 117) (hbr : ¬ (2 < s.size ∧ byt s 2 = 123)) (hz : s.size = 2) (hl : s.size - 2 < 4) :
    Calls Tryz.prog 69 #[.string s] w (UPost (uChar s) s w) := by
  have s0 : (0 : Int) < (s.size : Int) := by omega
  have hb0 : ¬ 128 ≤ byt s 0 := by omega
  have e92 : ((s[0]'h0).toNat : Int) = 92 := by rw [← byt0 h0]; omega
  have h1 : 1 < s.size := by omega
  have s2 : (2 : Int) ≤ (s.size : Int) := by omega
  have s1 : ¬ (s.size : Int) ≤ 1 := by omega
  have s1' : (1 : Int) < (s.size : Int) := by omega
  have hs1 : simpleEsc (byt s 1) = -1 := by rw [hc]; decide
  have hx1 : byt s 1 = 120 ∨ byt s 1 = 88 ∨ byt s 1 = 117 ∨ byt s 1 = 85 := by omega
  have hnb : ¬ (byt s 1 = 117 ∧ 2 < s.size ∧ byt s 2 = 123) := by exact fun e => hbr e.2
  have hw1 : escW (byt s 1) = 4 := by rw [hc]; rfl
  have ec : ((s[1]'h1).toNat : Int) = 117 := by rw [← byt_of h1]; omega

  have hT2 := tail2 s h1
  obtain ⟨v2, hv2⟩ : ∃ v, s.extract 2 s.size = v := ⟨_, rfl⟩
  rw [hv2] at hT2
  have hsz := hT2.size
  have vz : ¬ (0 : Int) < (v2.size : Int) := by omega
  have hu : uChar s = none := by unfold uChar; rw [if_neg hb0, if_neg (by omega), if_neg hn, hs1, if_neg (by decide), if_pos hx1, if_neg hnb, hw1, if_pos hl]
  have l2 : (v2.size : Int) < 4 := by omega
  have Hu := Lib.hid hu
  have HT2 := Lib.hid hT2
  clear hu h hn hc hb0 hs1 hx1 hnb hw1 hT2 hbr
  go_enter Tryz.func69, Tryz.ntmps69
  go_wp2_with fail
  refine (errorf_0 _ (by exact answers_low hF hlow)).mono ?_
  rintro e w1 ⟨E, m, rfl, hE, hm, hb⟩
  have Hm := Lib.hid hm
  clear hm
  go_wp2_with fail
  refine bodyPost_ret (v := .tuple #[.int .i32 0, .bool false, .string ⟨#[]⟩, .iface 139 (.pointer (some ⟨E, 0, none⟩))]) ?_ rfl ?_
  · simp [results, Tryz.results69, go_sem]
  · exact UPost.no Hu.out (by repeat (first | exact Below.refl _ _ | apply below_drew | apply below_drewN | apply below_alloc | apply below_grow)) hE Hm.out hb

set_option maxHeartbeats 4000000 in
set_option maxRecDepth 100000 in
theorem uc_u_shortn {F : Stop.Interp} {W0 w : World} (hF : F.answers W0.tape) (hT : Tabs W0) (hlow : Below W0.heap.size W0 w) (s : ByteArray) (h0 : 0 < s.size) (hs : s.size ≤ 1099511627776) (h : byt s 0 = 92) (hn : ¬ s.size ≤ 1) (hc : byt s 1 = 117) (hbr : ¬ (2 < s.size ∧ byt s 2 = 123)) (hz : 2 < s.size) (hl : s.size - 2 < 4) :
    Calls Tryz.prog 69 #[.string s] w (UPost (uChar s) s w) := by
  have s0 : (0 : Int) < (s.size : Int) := by omega
  have hb0 : ¬ 128 ≤ byt s 0 := by omega
  have e92 : ((s[0]'h0).toNat : Int) = 92 := by rw [← byt0 h0]; omega
  have h1 : 1 < s.size := by omega
  have s2 : (2 : Int) ≤ (s.size : Int) := by omega
  have s1 : ¬ (s.size : Int) ≤ 1 := by omega
  have s1' : (1 : Int) < (s.size : Int) := by omega
  have hs1 : simpleEsc (byt s 1) = -1 := by rw [hc]; decide
  have hx1 : byt s 1 = 120 ∨ byt s 1 = 88 ∨ byt s 1 = 117 ∨ byt s 1 = 85 := by omega
  have hnb : ¬ (byt s 1 = 117 ∧ 2 < s.size ∧ byt s 2 = 123) := by exact fun e => hbr e.2
  have hw1 : escW (byt s 1) = 4 := by rw [hc]; rfl
  have ec : ((s[1]'h1).toNat : Int) = 117 := by rw [← byt_of h1]; omega

  have hT2 := tail2 s h1
  obtain ⟨v2, hv2⟩ : ∃ v, s.extract 2 s.size = v := ⟨_, rfl⟩
  rw [hv2] at hT2
  have hsz := hT2.size
  have vz : (0 : Int) < (v2.size : Int) := by omega
  have g0 : 0 < v2.size := by omega
  have q0 : (v2[0]'g0).toNat = byt s 2 := hT2.get 0 g0
  have n0 : (((v2[0]'g0).toNat : Int) == 123) = false := by rw [beq_eq_false_iff_ne, q0]; intro e; exact hbr ⟨hz, by omega⟩
  clear q0
  have hu : uChar s = none := by unfold uChar; rw [if_neg hb0, if_neg (by omega), if_neg hn, hs1, if_neg (by decide), if_pos hx1, if_neg hnb, hw1, if_pos hl]
  have l2 : (v2.size : Int) < 4 := by omega
  have Hu := Lib.hid hu
  have HT2 := Lib.hid hT2
  clear hu h hn hc hb0 hs1 hx1 hnb hw1 hT2 hbr
  go_enter Tryz.func69, Tryz.ntmps69
  go_wp2_with fail
  refine (errorf_0 _ (by exact answers_low hF hlow)).mono ?_
  rintro e w1 ⟨E, m, rfl, hE, hm, hb⟩
  have Hm := Lib.hid hm
  clear hm
  go_wp2_with fail
  refine bodyPost_ret (v := .tuple #[.int .i32 0, .bool false, .string ⟨#[]⟩, .iface 139 (.pointer (some ⟨E, 0, none⟩))]) ?_ rfl ?_
  · simp [results, Tryz.results69, go_sem]
  · exact UPost.no Hu.out (by repeat (first | exact Below.refl _ _ | apply below_drew | apply below_drewN | apply below_alloc | apply below_grow)) hE Hm.out hb

set_option maxHeartbeats 4000000 in
set_option maxRecDepth 100000 in
theorem uc_u_long {F : Stop.Interp} {W0 w : World} (hF : F.answers W0.tape) (hT : Tabs W0) (hlow : Below W0.heap.size W0 w) (s : ByteArray) (h0 : 0 < s.size) (hs : s.size ≤ 1099511627776) (h : byt s 0 = 92) (hn : ¬ s.size ≤ 1) (hc : byt s 1 = 117) (hbr : ¬ (2 < s.size ∧ byt s 2 = 123)) (hz : 2 < s.size) (hl : ¬ s.size - 2 < 4) :
    Calls Tryz.prog 69 #[.string s] w (UPost (uChar s) s w) := by
  have s0 : (0 : Int) < (s.size : Int) := by omega
  have hb0 : ¬ 128 ≤ byt s 0 := by omega
  have e92 : ((s[0]'h0).toNat : Int) = 92 := by rw [← byt0 h0]; omega
  have h1 : 1 < s.size := by omega
  have s2 : (2 : Int) ≤ (s.size : Int) := by omega
  have s1 : ¬ (s.size : Int) ≤ 1 := by omega
  have s1' : (1 : Int) < (s.size : Int) := by omega
  have hs1 : simpleEsc (byt s 1) = -1 := by rw [hc]; decide
  have hx1 : byt s 1 = 120 ∨ byt s 1 = 88 ∨ byt s 1 = 117 ∨ byt s 1 = 85 := by omega
  have hnb : ¬ (byt s 1 = 117 ∧ 2 < s.size ∧ byt s 2 = 123) := by exact fun e => hbr e.2
  have hw1 : escW (byt s 1) = 4 := by rw [hc]; rfl
  have ec : ((s[1]'h1).toNat : Int) = 117 := by rw [← byt_of h1]; omega

  have hT2 := tail2 s h1
  obtain ⟨v2, hv2⟩ : ∃ v, s.extract 2 s.size = v := ⟨_, rfl⟩
  rw [hv2] at hT2
  have hsz := hT2.size
  have vz : (0 : Int) < (v2.size : Int) := by omega
  have g0 : 0 < v2.size := by omega
  have q0 : (v2[0]'g0).toNat = byt s 2 := hT2.get 0 g0
  have n0 : (((v2[0]'g0).toNat : Int) == 123) = false := by rw [beq_eq_false_iff_ne, q0]; intro e; exact hbr ⟨hz, by omega⟩
  clear q0
  have hu : uChar s = hexEnd (4 + 2) (hexN s 4 2 0) := by unfold uChar; rw [if_neg hb0, if_neg (by omega), if_neg hn, hs1, if_neg (by decide), if_pos hx1, if_neg hnb, hw1, if_neg hl]
  have l2 : ¬ (v2.size : Int) < 4 := by omega
  have l3 : (4 : Int) ≤ (v2.size : Int) := by omega
  have Hu := Lib.hid hu
  have HT2 := Lib.hid hT2
  clear hu h hn hc hb0 hs1 hx1 hnb hw1 hT2 hbr
  go_enter Tryz.func69, Tryz.ntmps69
  go_wp2_with fail
  have Hv2 := Lib.hid hv2
  clear hv2
  go_loopg [5, 15, 16] 5 (fun g ev vv jv wr => ∃ (j : Nat) (v : Int), ev = .nilIface ∧ vv = .int .i32 v ∧ jv = .int .i64 (j : Nat) ∧ w = wr ∧ j ≤ 4 ∧ 4 < j + g ∧ Hid (hexN s (4 - j) (j + 2) v = hexN s 4 2 0))
  case atStart => exact ⟨0, 0, rfl, rfl, rfl, rfl, by omega, by omega, Lib.hid rfl⟩
  case round =>
    obtain ⟨j, v, rfl, rfl, rfl, rfl, hj, hg, heq⟩ := hrel
    by_cases hjn : (j : Int) < 4
    · have gj : j < v2.size := by omega
      have j0 : (0 : Int) ≤ (j : Int) := by omega
      have j1 : (j : Int) < (v2.size : Int) := by omega
      have qj : (v2[j]'gj).toNat = byt s (j + 2) := HT2.out.get j gj
      obtain ⟨x, hx⟩ : ∃ x, byt s (j + 2) = x := ⟨_, rfl⟩
      have hx256 : x < 256 := by rw [← hx]; exact byt_lt s _
      obtain ⟨k, hk⟩ : ∃ k, 4 - j = k + 1 := ⟨4 - j - 1, by omega⟩
      have hst := heq.out
      rw [hk, hexN_succ, hx] at hst
      rw [hx] at qj
      have HX := Lib.hid hx
      clear hx heq
      cases hux : unhexB' x with
      | false =>
        rw [hux] at hst
        have hne : uChar s = none := by rw [Hu.out, ← hst]; rfl
        have Hu := Lib.hid hne
        have Hux := Lib.hid hux
        clear hne hst hux
        go_wp2_with fail
        refine (unhex_any x hx256 _).mono ?_
        rintro e w' ⟨rfl, rfl⟩
        rw [Hux.out]
        go_wp2_with fail
        refine (errorf_0 _ (by exact answers_low hF hlow)).mono ?_
        rintro e w1 ⟨E, m, rfl, hE, hm, hb⟩
        have Hm := Lib.hid hm
        clear hm
        go_wp2_with fail
        refine bodyPost_ret (v := .tuple #[.int .i32 0, .bool false, .string ⟨#[]⟩, .iface 139 (.pointer (some ⟨E, 0, none⟩))]) ?_ rfl ?_
        · simp [results, Tryz.results69, go_sem]
        · exact UPost.no Hu.out (by repeat (first | exact Below.refl _ _ | apply below_drew | apply below_drewN | apply below_alloc | apply below_grow)) hE Hm.out hb
      | true =>
        rw [hux, if_pos rfl] at hst
        have hk2 : 4 - (j + 1) = k := by omega
        rw [← hk2] at hst
        have Hst := Lib.hid hst
        have Hux := Lib.hid hux
        have hsh := shl4_def v (unhexV x)
        clear hst hux hk hk2
        go_wp2_with fail
        refine (unhex_any x hx256 _).mono ?_
        rintro e w' ⟨rfl, rfl⟩
        rw [Hux.out]
        go_wp2_with fail
        go_roundg (4 - j)
        case measure => omega
        case rel => exact ⟨j + 1, shl4 v (unhexV x), rfl, rfl, by go_num, rfl, by omega, by omega, by rw [show j + 1 + 2 = j + 2 + 1 by omega]; exact Hst⟩
    · have hj2 : j = 4 := by omega
      subst hj2
      have hst := heq.out
      change some v = _ at hst
      have hu2 := Hu.out
      rw [← hst] at hu2
      clear heq
      by_cases hv : 1114111 < v
      · have hne : uChar s = none := by rw [hu2]; exact if_pos hv
        have Hu := Lib.hid hne
        clear hne hu2 hst
        go_wp2_with fail
        refine (errorf_0 _ (by exact answers_low hF hlow)).mono ?_
        rintro e w1 ⟨E, m, rfl, hE, hm, hb⟩
        have Hm := Lib.hid hm
        clear hm
        go_wp2_with fail
        refine bodyPost_ret (v := .tuple #[.int .i32 0, .bool false, .string ⟨#[]⟩, .iface 139 (.pointer (some ⟨E, 0, none⟩))]) ?_ rfl ?_
        · simp [results, Tryz.results69, go_sem]
        · exact UPost.no Hu.out (by repeat (first | exact Below.refl _ _ | apply below_drew | apply below_drewN | apply below_alloc | apply below_grow)) hE Hm.out hb
      · have hfin : uChar s = some (v, true, 4 + 2) := by rw [hu2]; exact if_neg hv
        have Hf := Lib.hid hfin
        clear hfin hu2 hst
        go_wp2_with fail
        refine bodyPost_ret (v := .tuple #[.int .i32 v, .bool true, .string (v2.extract 4 v2.size), .nilIface]) ?_ rfl ?_
        · simp [results, Tryz.results69, go_sem]
        · exact UPost.ok Hf.out (by rw [HT2.out.cut 4]) (Below.refl _ _)

end Go.Proofs.YtobdglhcepildaaGreatFmt
