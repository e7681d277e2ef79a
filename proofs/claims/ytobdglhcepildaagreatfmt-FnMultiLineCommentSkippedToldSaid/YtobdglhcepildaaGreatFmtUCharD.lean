/-
  Walk: unescapeChar, its braced way, and all ways together (printed by genuchar.py).
-/
import Derived.Test.YtobdglhcepildaaGreatFmtUCharC
import Derived.WalkKit
namespace Go.Proofs.YtobdglhcepildaaGreatFmt
open Go Go.Lib Go.RowKit Go.Proofs
open Go.Extern.Stop Go.Stop Go.Extern

/-- The text from byte i on. -/
structure TailAt (s v : ByteArray) (i : Nat) : Prop where
  eq : s.extract i s.size = v
  size : v.size + i = s.size
  head : ∀ h : 0 < v.size, (v[0]'h).toNat = byt s i
  next : v.extract 1 v.size = s.extract (i + 1) s.size
theorem tailAt (s : ByteArray) (i : Nat) (h : i ≤ s.size) : TailAt s (s.extract i s.size) i := by
  have hsz : (s.extract i s.size).size = s.size - i := by rw [ByteArray.size_extract]; omega
  refine ⟨rfl, by omega, fun hj => ?_, by rw [cut_cut, Nat.add_comm]⟩
  rw [byt_of (s := s) (k := i) (by omega), ByteArray.getElem_extract]
  congr 2

set_option maxHeartbeats 4000000 in
set_option maxRecDepth 100000 in
theorem uc_brace {F : Stop.Interp} {W0 w : World} (hF : F.answers W0.tape) (hT : Tabs W0) (hlow : Below W0.heap.size W0 w) (s : ByteArray) (h0 : 0 < s.size) (hs : s.size ≤ 1099511627776) (h : byt s 0 = 92) (hn : ¬ s.size ≤ 1) (hc : byt s 1 = 117) (hz : 2 < s.size) (hb2 : byt s 2 = 123) :
    Calls Tryz.prog 69 #[.string s] w (UPost (uChar s) s w) := by
  have s0 : (0 : Int) < (s.size : Int) := by omega
  have hb0 : ¬ 128 ≤ byt s 0 := by omega
  have e92 : ((s[0]'h0).toNat : Int) = 92 := by rw [← byt0 h0]; omega
  have h1 : 1 < s.size := by omega
  have s2 : (2 : Int) ≤ (s.size : Int) := by omega
  have s1 : ¬ (s.size : Int) ≤ 1 := by omega
  have s1' : (1 : Int) < (s.size : Int) := by omega
  have hs1 : simpleEsc (byt s 1) = -1 := by rw [hc]; decide
  have hx1 : byt s 1 = 120 ∨ byt s 1 = 88 ∨ byt s 1 = 117 ∨ byt s 1 = 85 := by omega
  have ec : ((s[1]'h1).toNat : Int) = 117 := by rw [← byt_of h1]; omega
  have hT2 := tail2 s h1
  obtain ⟨v2, hv2⟩ : ∃ v, s.extract 2 s.size = v := ⟨_, rfl⟩
  rw [hv2] at hT2
  have hsz := hT2.size
  have vz : (0 : Int) < (v2.size : Int) := by omega
  have vz1 : (1 : Int) ≤ (v2.size : Int) := by omega
  have g0 : 0 < v2.size := by omega
  have q0 : ((v2[0]'g0).toNat : Int) = 123 := by have := hT2.get 0 g0; rw [Nat.zero_add] at this; omega
  have hcut : v2.extract 1 v2.size = s.extract 3 s.size := hT2.cut 1
  have hu : uChar s = brEnd (hexBr s 7 3 0 0) := by unfold uChar; rw [if_neg hb0, if_neg (by omega), if_neg hn, hs1, if_neg (by decide), if_pos hx1, if_pos ⟨hc, hz, hb2⟩]
  have Hu := Lib.hid hu
  have HT2 := Lib.hid hT2
  clear hu h hn hc hb0 hs1 hx1 hb2 hT2
  go_enter Tryz.func69, Tryz.ntmps69
  go_wp2_with fail
  have Hv2 := Lib.hid hv2
  have Hcut := Lib.hid hcut
  clear hv2 hcut q0 vz vz1
  go_loopg [0, 5, 10, 11] 8 (fun g sv ev vv dv wr => ∃ (d : Nat) (v : Int), sv = .string (s.extract (3 + d) s.size) ∧ ev = .nilIface ∧ vv = .int .i32 v ∧ dv = .int .i64 (d : Nat) ∧ w = wr ∧ 3 + d ≤ s.size ∧ d ≤ 6 ∧ 7 < d + g ∧ Hid (hexBr s (7 - d) (3 + d) d v = hexBr s 7 3 0 0))
  case atStart => exact ⟨0, 0, rfl, rfl, rfl, rfl, rfl, by omega, by omega, by omega, Lib.hid rfl⟩
  case round =>
    obtain ⟨d, v, rfl, rfl, rfl, rfl, rfl, hd, hd6, hg, heq⟩ := hrel
    have hTA := tailAt s (3 + d) hd
    obtain ⟨u, hu'⟩ : ∃ u, s.extract (3 + d) s.size = u := ⟨_, rfl⟩
    rw [hu'] at hTA ⊢
    have Hu' := Lib.hid hu'
    clear hu'
    have usz := hTA.size
    obtain ⟨k, hk⟩ : ∃ k, 7 - d = k + 1 := ⟨6 - d, by omega⟩
    have hst := heq.out
    rw [hk, hexBr_succ] at hst
    clear heq
    by_cases hin : 3 + d < s.size
    · have u0 : 0 < u.size := by omega
      have u1 : (0 : Int) < (u.size : Int) := by omega
      have u2' : (1 : Int) ≤ (u.size : Int) := by omega
      have u3' : ((u.size : Int) == 0) = false := by rw [beq_eq_false_iff_ne]; omega
      have uq := hTA.head u0
      have unx := hTA.next
      obtain ⟨x, hx⟩ : ∃ x, byt s (3 + d) = x := ⟨_, rfl⟩
      have hx256 : x < 256 := by rw [← hx]; exact byt_lt s _
      rw [hx] at hst uq
      have HX := Lib.hid hx
      have HTA := Lib.hid hTA
      clear hx hTA
      by_cases h125 : x = 125
      · rw [if_neg (fun e => e.2 h125)] at hst
        subst h125
        by_cases hd0 : d = 0
        · rw [if_neg (fun e => e.2 hd0)] at hst
          have hne : uChar s = none := by rw [Hu.out, ← hst]; rfl
          have Hu := Lib.hid hne
          have hdz : ((d : Int) == 0) = true := by rw [beq_iff_eq]; omega
          have hdz' : (d : Int) = 0 := by omega
          clear hne hst hd0
          go_wp2_with fail
          refine (errorf_0 _ (by exact answers_low hF hlow)).mono ?_
          rintro e w1 ⟨E, m, rfl, hE, hm, hb⟩
          have Hm := Lib.hid hm
          clear hm
          go_wp2_with fail
          refine bodyPost_ret (v := .tuple #[.int .i32 0, .bool false, .string ⟨#[]⟩, .iface 139 (.pointer (some ⟨E, 0, none⟩))]) ?_ rfl ?_
          · simp [results, Tryz.results69, go_sem]
          · exact UPost.no Hu.out (by repeat (first | exact Below.refl _ _ | apply below_drew | apply below_drewN | apply below_alloc | apply below_grow)) hE Hm.out hb
        · rw [if_pos ⟨hin, hd0⟩] at hst
          have hdz : ((d : Int) == 0) = false := by rw [beq_eq_false_iff_ne]; omega
          have hdz' : ¬ (d : Int) = 0 := by omega
          have hu3 : uChar s = brEnd (some (v, 3 + d)) := by rw [Hu.out, ← hst]
          by_cases hv : 1114111 < v
          · have hne : uChar s = none := by rw [hu3]; exact if_pos hv
            have Hu := Lib.hid hne
            clear hne hst hu3
            go_wp2_with fail
            refine (errorf_0 _ (by exact answers_low hF hlow)).mono ?_
            rintro e w1 ⟨E, m, rfl, hE, hm, hb⟩
            have Hm := Lib.hid hm
            clear hm
            go_wp2_with fail
            refine bodyPost_ret (v := .tuple #[.int .i32 0, .bool false, .string ⟨#[]⟩, .iface 139 (.pointer (some ⟨E, 0, none⟩))]) ?_ rfl ?_
            · simp [results, Tryz.results69, go_sem]
            · exact UPost.no Hu.out (by repeat (first | exact Below.refl _ _ | apply below_drew | apply below_drewN | apply below_alloc | apply below_grow)) hE Hm.out hb
          · have hfin : uChar s = some (v, true, 3 + d + 1) := by rw [hu3]; exact if_neg hv
            have Hf := Lib.hid hfin
            clear hfin hst hu3
            go_wp2_with fail
            refine bodyPost_ret (v := .tuple #[.int .i32 v, .bool true, .string (s.extract (3 + d + 1) s.size), .nilIface]) ?_ rfl ?_
            · simp [results, Tryz.results69, go_sem]
            · exact UPost.ok Hf.out rfl (Below.refl _ _)
      · rw [if_pos ⟨hin, h125⟩] at hst
        have e125 : ((x : Int) == 125) = false := by rw [beq_eq_false_iff_ne]; omega
        have e125' : ((x : Int) != 125) = true := by unfold bne; rw [e125]; rfl
        cases hux : unhexB' x with
        | false =>
          rw [hux] at hst
          have hne : uChar s = none := by rw [Hu.out, ← hst]; rfl
          have Hu := Lib.hid hne
          have Hux := Lib.hid hux
          clear hne hst hux
          go_wp2_with fail
          refine (unhex_any x hx256 _).mono ?_
          rintro e w' ⟨rfl, rfl⟩
          rw [Hux.out]
          go_wp2_with fail
          refine (errorf_0 _ (by exact answers_low hF hlow)).mono ?_
          rintro e w1 ⟨E, m, rfl, hE, hm, hb⟩
          have Hm := Lib.hid hm
          clear hm
          go_wp2_with fail
          refine bodyPost_ret (v := .tuple #[.int .i32 0, .bool false, .string ⟨#[]⟩, .iface 139 (.pointer (some ⟨E, 0, none⟩))]) ?_ rfl ?_
          · simp [results, Tryz.results69, go_sem]
          · exact UPost.no Hu.out (by repeat (first | exact Below.refl _ _ | apply below_drew | apply below_drewN | apply below_alloc | apply below_grow)) hE Hm.out hb
        | true =>
          rw [hux, if_pos rfl] at hst
          have Hux := Lib.hid hux
          by_cases h6 : 6 ≤ d
          · rw [if_pos h6] at hst
            have hne : uChar s = none := by rw [Hu.out, ← hst]; rfl
            have Hu := Lib.hid hne
            have i6 : (6 : Int) ≤ (d : Int) := by omega
            clear hne hst hux
            go_wp2_with fail
            refine (unhex_any x hx256 _).mono ?_
            rintro e w' ⟨rfl, rfl⟩
            rw [Hux.out]
            go_wp2_with fail
            refine (errorf_0 _ (by exact answers_low hF hlow)).mono ?_
            rintro e w1 ⟨E, m, rfl, hE, hm, hb⟩
            have Hm := Lib.hid hm
            clear hm
            go_wp2_with fail
            refine bodyPost_ret (v := .tuple #[.int .i32 0, .bool false, .string ⟨#[]⟩, .iface 139 (.pointer (some ⟨E, 0, none⟩))]) ?_ rfl ?_
            · simp [results, Tryz.results69, go_sem]
            · exact UPost.no Hu.out (by repeat (first | exact Below.refl _ _ | apply below_drew | apply below_drewN | apply below_alloc | apply below_grow)) hE Hm.out hb
          · rw [if_neg h6] at hst
            have i6 : ¬ (6 : Int) ≤ (d : Int) := by omega
            have hk2 : 7 - (d + 1) = k := by omega
            rw [← hk2] at hst
            have Hst := Lib.hid hst
            have hsh := shl4_def v (unhexV x)
            clear hst hux hk hk2
            go_wp2_with fail
            refine (unhex_any x hx256 _).mono ?_
            rintro e w' ⟨rfl, rfl⟩
            rw [Hux.out]
            go_wp2_with fail
            go_roundg (7 - d)
            case measure => omega
            case rel => exact ⟨d + 1, shl4 v (unhexV x), by rw [show 3 + (d + 1) = 3 + d + 1 by omega], rfl, rfl, by go_num, rfl, by omega, by omega, by omega, by rw [show 3 + (d + 1) = 3 + d + 1 by omega]; exact Hst⟩
    · have u1 : ¬ (0 : Int) < (u.size : Int) := by omega
      have u3' : ((u.size : Int) == 0) = true := by rw [beq_iff_eq]; omega
      rw [if_neg (fun e => hin e.1), if_neg (fun e => hin e.1)] at hst
      have hne : uChar s = none := by rw [Hu.out, ← hst]; rfl
      have Hu := Lib.hid hne
      have HTA := Lib.hid hTA
      clear hne hst hTA
      go_wp2_with fail
      refine (errorf_0 _ (by exact answers_low hF hlow)).mono ?_
      rintro e w1 ⟨E, m, rfl, hE, hm, hb⟩
      have Hm := Lib.hid hm
      clear hm
      go_wp2_with fail
      refine bodyPost_ret (v := .tuple #[.int .i32 0, .bool false, .string ⟨#[]⟩, .iface 139 (.pointer (some ⟨E, 0, none⟩))]) ?_ rfl ?_
      · simp [results, Tryz.results69, go_sem]
      · exact UPost.no Hu.out (by repeat (first | exact Below.refl _ _ | apply below_drew | apply below_drewN | apply below_alloc | apply below_grow)) hE Hm.out hb

theorem unescapeChar_any {F : Stop.Interp} {W0 w : World} (hF : F.answers W0.tape) (hT : Tabs W0) (hlow : Below W0.heap.size W0 w) (s : ByteArray) (h0 : 0 < s.size) (hs : s.size ≤ 1099511627776) :
    Calls Tryz.prog 69 #[.string s] w (UPost (uChar s) s w) := by
  by_cases h : 128 ≤ byt s 0
  · exact uc_high hF hT hlow s h0 hs h
  by_cases h2 : byt s 0 = 92
  · by_cases hn : s.size ≤ 1
    · exact uc_last hF hT hlow s h0 hs h2 hn
    by_cases k97 : byt s 1 = 97
    · exact uc_s97 hF hT hlow s h0 hs h2 hn k97
    by_cases k98 : byt s 1 = 98
    · exact uc_s98 hF hT hlow s h0 hs h2 hn k98
    by_cases k102 : byt s 1 = 102
    · exact uc_s102 hF hT hlow s h0 hs h2 hn k102
    by_cases k110 : byt s 1 = 110
    · exact uc_s110 hF hT hlow s h0 hs h2 hn k110
    by_cases k114 : byt s 1 = 114
    · exact uc_s114 hF hT hlow s h0 hs h2 hn k114
    by_cases k116 : byt s 1 = 116
    · exact uc_s116 hF hT hlow s h0 hs h2 hn k116
    by_cases k118 : byt s 1 = 118
    · exact uc_s118 hF hT hlow s h0 hs h2 hn k118
    by_cases k92 : byt s 1 = 92
    · exact uc_s92 hF hT hlow s h0 hs h2 hn k92
    by_cases k39 : byt s 1 = 39
    · exact uc_s39 hF hT hlow s h0 hs h2 hn k39
    by_cases k34 : byt s 1 = 34
    · exact uc_s34 hF hT hlow s h0 hs h2 hn k34
    by_cases k96 : byt s 1 = 96
    · exact uc_s96 hF hT hlow s h0 hs h2 hn k96
    by_cases k63 : byt s 1 = 63
    · exact uc_s63 hF hT hlow s h0 hs h2 hn k63
    have hse : simpleEsc (byt s 1) = -1 := by unfold simpleEsc; rw [if_neg k97]; rw [if_neg k98]; rw [if_neg k102]; rw [if_neg k110]; rw [if_neg k114]; rw [if_neg k116]; rw [if_neg k118]; rw [if_neg k92]; rw [if_neg k39]; rw [if_neg k34]; rw [if_neg k96]; rw [if_neg k63]
    by_cases k120 : byt s 1 = 120
    · by_cases hl : s.size - 2 < 2
      · exact uc_x_short hF hT hlow s h0 hs h2 hn k120 hl
      · exact uc_x_long hF hT hlow s h0 hs h2 hn k120 hl
    by_cases k88 : byt s 1 = 88
    · by_cases hl : s.size - 2 < 2
      · exact uc_X_short hF hT hlow s h0 hs h2 hn k88 hl
      · exact uc_X_long hF hT hlow s h0 hs h2 hn k88 hl
    by_cases k85 : byt s 1 = 85
    · by_cases hl : s.size - 2 < 8
      · exact uc_U_short hF hT hlow s h0 hs h2 hn k85 hl
      · exact uc_U_long hF hT hlow s h0 hs h2 hn k85 hl
    by_cases k117 : byt s 1 = 117
    · by_cases hz : 2 < s.size
      · by_cases hb : byt s 2 = 123
        · exact uc_brace hF hT hlow s h0 hs h2 hn k117 hz hb
        · by_cases hl : s.size - 2 < 4
          · exact uc_u_shortn hF hT hlow s h0 hs h2 hn k117 (fun e => hb e.2) hz hl
          · exact uc_u_long hF hT hlow s h0 hs h2 hn k117 (fun e => hb e.2) hz hl
      · exact uc_u_shorte hF hT hlow s h0 hs h2 hn k117 (fun e => hz e.1) (by omega) (by omega)
    by_cases k48 : byt s 1 = 48
    · by_cases hl : s.size < 4
      · exact uc_o48short hF hT hlow s h0 hs h2 hn k48 hl
      · exact uc_o48long hF hT hlow s h0 hs h2 hn k48 hl
    by_cases k49 : byt s 1 = 49
    · by_cases hl : s.size < 4
      · exact uc_o49short hF hT hlow s h0 hs h2 hn k49 hl
      · exact uc_o49long hF hT hlow s h0 hs h2 hn k49 hl
    by_cases k50 : byt s 1 = 50
    · by_cases hl : s.size < 4
      · exact uc_o50short hF hT hlow s h0 hs h2 hn k50 hl
      · exact uc_o50long hF hT hlow s h0 hs h2 hn k50 hl
    by_cases k51 : byt s 1 = 51
    · by_cases hl : s.size < 4
      · exact uc_o51short hF hT hlow s h0 hs h2 hn k51 hl
      · exact uc_o51long hF hT hlow s h0 hs h2 hn k51 hl
    exact uc_bad hF hT hlow s h0 hs h2 hn hse (by omega) (by omega)
  · exact uc_low hF hT hlow s h0 hs (by omega) h2

end Go.Proofs.YtobdglhcepildaaGreatFmt
