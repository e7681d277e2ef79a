/-
  Walk of zzModel of n003_74: the small language's tokens, in a row of their own.
-/
import Derived.Test.YtkplkccjeacniaaGreatFmtZ74m
namespace Go.Proofs.YtkplkccjeacniaaGreatFmt
open Go Go.Lib Go.RowKit Go.Proofs
open Go.Extern.Stop Go.Stop Go.Extern

theorem infoZ : (Tryz.prog.info? 51).map (fun i => (i.zero, i.size, i.bytes)) = some (some (.agg #[.int .i64 0, .int .i64 0, .string ⟨#[]⟩, .string ⟨#[]⟩]), 4, 48) := by kernel_rfl
theorem tok_cells {w : World} {g : Nat} {T : TypeId} (k : Tok) (h : w.heap[g]? = some (.cells #[.int .i64 k.frm, .int .i64 k.to, .string k.kind, .string k.value] T (0, 0))) : ∀ j u, (tokCells k)[j]? = some u → w.cell? ((⟨g, 0, none⟩ : Addr).add j) = some u := by
  intro j u hj
  rw [addr_add, Nat.zero_add, cell_of_block h j]
  simpa [tokCells] using hj
theorem model_push {w0 wr w1 : World} {v v' : Value} {l : List Tok} {k : Tok} (hb : Below w0.heap.size w0 wr) (hown : wr.ownsRow w0.heap.size 51 4 v l.length (l.flatMap tokCells)) (o : Obj)
    (hown' : w1.ownsRow w0.heap.size 51 4 v' (l.length + 1) (l.flatMap tokCells ++ tokCells k)) (hg : (wr.alloc o).grownBy w1 v.ownBlock) :
    w1.ownsRow w0.heap.size 51 4 v' (l ++ [k]).length ((l ++ [k]).flatMap tokCells) ∧ Below w0.heap.size w0 w1 := by
  refine ⟨?_, ?_⟩
  · rw [flatMap_snoc, List.length_append]
    exact hown'
  · refine (hb.alloc hb.size o).grown hg (by simp; have := hb.size; omega) (fun g hgg => ?_)
    obtain ⟨h0, ⟨rfl, _⟩ | ⟨g', cap, cur, rfl, hB, _⟩⟩ := hown
    · simp [Value.ownBlock] at hgg
    · simp [Value.ownBlock] at hgg
      omega

/-- What zzModel comes to. -/
def ModelPost (s : ByteArray) (d : Bool) (w : World) (e : Ending) (w' : World) : Prop :=
  ∃ v, e = .returned v ∧ w'.ownsRow w.heap.size 51 4 v (modelGo s d 0 ++ [eofTok s.size]).length ((modelGo s d 0 ++ [eofTok s.size]).flatMap tokCells) ∧ Below w.heap.size w w'

set_option maxHeartbeats 8000000 in
set_option maxRecDepth 100000 in
theorem zzModel_any (s : ByteArray) (hs : s.size ≤ 1048576) (hsm : Small s) (d : Bool) (w : World) :
    Calls Tryz.prog 21 #[.string s, .bool d] w (ModelPost s d w) := by
  obtain ⟨i0, hi, hz0, hz1, hz2⟩ := info_parts infoZ
  have hu : Tryz.prog.underlying 47 = some (.slice 51) := by kernel_rfl
  have Hi := Lib.hid hi
  have Hz0 := Lib.hid hz0
  have Hz1 := Lib.hid hz1
  have Hz2 := Lib.hid hz2
  have Hu := Lib.hid hu
  have Hsm := Lib.hid hsm
  clear hi hz0 hz1 hz2 hu hsm
  go_enter Tryz.func21, Tryz.ntmps21
  go_wp2_with fail
  go_loopg [5, 6] (s.size + 1) (fun g bv iv wr => ∃ (i : Nat) (l : List Tok), iv = .int .i64 (i : Nat) ∧ Hid (wr.ownsRow w.heap.size 51 4 bv l.length (l.flatMap tokCells)) ∧ Hid (Below w.heap.size w wr) ∧ Hid (l ++ modelGo s d i = modelGo s d 0) ∧ l.length ≤ i ∧ i ≤ s.size ∧ s.size - i < g)
  case atStart => exact ⟨0, [], rfl, Lib.hid (World.ownsRow_nil _ _ _ _), Lib.hid (Below.refl _ _), Lib.hid rfl, Nat.zero_le _, Nat.zero_le _, by omega⟩
  case round =>
    obtain ⟨i, l, rfl, hown, hb, heq, hl, hi', hg⟩ := hrel
    have hbs := hb.out.size
    by_cases hin : i < s.size
    · have j0 : (0 : Int) ≤ (i : Int) := by omega
      have j1 : (i : Int) < (s.size : Int) := by omega
      have kb := byt_of hin
      have kl : (s[i]'hin).toNat < 256 := (s[i]'hin).toNat_lt
      by_cases h32 : byt s i = 32
      · have e32 : (((s[i]'hin).toNat : Int) == 32) = true := by rw [beq_iff_eq]; omega
        have hst := heq.out
        rw [model_sp hin h32] at hst
        have Hst := Lib.hid hst
        clear kb h32 hst heq
        go_wp2_with fail
        go_roundg (s.size - i)
        case measure => omega
        case rel => exact ⟨i + 1, l, by go_num, hown, hb, Hst, by omega, by omega, by omega⟩
      have e32 : (((s[i]'hin).toNat : Int) == 32) = false := by rw [beq_eq_false_iff_ne]; omega
      cases hlt : isLet (byt s i) with
      | true =>
        have hl2 : isLet (s[i]'hin).toNat = true := by rw [← kb]; exact hlt
        have hst := heq.out
        rw [model_let hin hlt, ← lettersEnd_let hin hlt] at hst
        have hgt : i < lettersEnd s i := by rw [lettersEnd_let hin hlt]; have := lettersEnd_ge s (i + 1); omega
        have Hl2 := Lib.hid hl2
        have Hst := Lib.hid hst
        have Hgt := Lib.hid hgt
        clear kb h32 hl2 hst hgt heq hlt
        go_wp2_with fail
        refine (zzIsLetter_any _ kl _).mono ?_
        rintro e w' ⟨rfl, rfl⟩
        rw [Hl2.out]
        go_wp2_with fail
        go_loopg [8] (s.size + 1) (fun g jv wq => ∃ j : Nat, jv = .int .i64 (j : Nat) ∧ wq = wr ∧ Hid (lettersEnd s j = lettersEnd s i) ∧ i ≤ j ∧ j ≤ s.size ∧ s.size - j < g)
        case atStart => exact ⟨i, rfl, rfl, Lib.hid rfl, Nat.le_refl _, hi', by omega⟩
        case round =>
          obtain ⟨j, rfl, rfl, ho, hij, hj', hgj⟩ := hrel
          by_cases hjn : j < s.size ∧ isLet (byt s j) = true
          · have hj2 := hjn.1
            have y0 : (0 : Int) ≤ (j : Int) := by omega
            have y1 : (j : Int) < (s.size : Int) := by omega
            have ky := byt_of hj2
            have kl2 : (s[j]'hj2).toNat < 256 := (s[j]'hj2).toNat_lt
            have hl3 : isLet (s[j]'hj2).toNat = true := by rw [← ky]; exact hjn.2
            have hoo := ho.out
            rw [lettersEnd_let hj2 hjn.2] at hoo
            have Hoo := Lib.hid hoo
            have Hl3 := Lib.hid hl3
            clear hoo ho ky hl3 hjn
            go_wp2_with (go_at_call 33; refine (zzIsLetter_any _ kl2 _).mono ?_; rintro e w' ⟨rfl, rfl⟩; rw [Hl3.out])
            go_roundg (s.size - j)
            case measure => omega
            case rel => exact ⟨j + 1, by go_num, rfl, Hoo, by omega, by omega, by omega⟩
          · have hend : lettersEnd s i = j := ho.out.symm.trans (lettersEnd_no hjn)
            have hst2 := Hst.out
            rw [hend] at hst2
            have hij2 : i < j := by have := Hgt.out; omega
            have Hst2 := Lib.hid hst2
            have p1 : (j : Int) ≤ (s.size : Int) := by omega
            have p2 : (i : Int) ≤ (j : Int) := by omega
            have y0 : (0 : Int) ≤ (j : Int) := by omega
            by_cases hj2 : j < s.size
            · have y1 : (j : Int) < (s.size : Int) := by omega
              have ky := byt_of hj2
              have kl2 : (s[j]'hj2).toNat < 256 := (s[j]'hj2).toNat_lt
              have hl3 : isLet (s[j]'hj2).toNat = false := by
                rw [← ky]
                cases h : isLet (byt s j) with
                | true => exact absurd ⟨hj2, h⟩ hjn
                | false => rfl
              have Hl3 := Lib.hid hl3
              clear ky hl3 hjn hend hst2 ho
              go_wp2_with (go_at_call 33; refine (zzIsLetter_any _ kl2 _).mono ?_; rintro e w' ⟨rfl, rfl⟩; rw [Hl3.out])
              obtain ⟨wd, hwd⟩ : ∃ wd, s.extract i j = wd := ⟨_, rfl⟩
              rw [hwd] at Hst2
              have Hwd := Lib.hid hwd
              have hlo : l.length ≤ 1099511627776 := by omega
              clear hwd
              rw [Hwd.out]
              refine (zzIsKeyword_any wd d _).mono ?_
              rintro e w' ⟨rfl, rfl⟩
              cases hkw : isKw d wd with
              | true =>
                have hk : kindW d wd = kOperator := by unfold kindW; rw [hkw]; rfl
                rw [hk] at Hst2
                clear hk hkw
                go_wp2_with (first | (at_builtin; go_loud (refine wpList_append_own _ rfl _ _ 47 rfl w.heap.size 51 i0 (.agg #[.int .i64 0, .int .i64 0, .string ⟨#[]⟩, .string ⟨#[]⟩]) 4 48 Hu.out Hi.out Hz0.out Hz1.out Hz2.out rfl (by decide) _ _ _ rfl (hown.out.alloc _) ⟨wr.heap.size, 0, none⟩ 1 1 (tokCells (⟨i, (j : Nat), kOperator, wd⟩ : Tok)) rfl rfl ?c1 ?c2 ?c3 ?c4 ?c5 ?_)))
                case c1 => first | exact tok_cells (⟨i, (j : Nat), kOperator, wd⟩ : Tok) (heap_alloc_at rfl) | exact fun _ _ h => h
                case c2 => exact tokCells_one (⟨i, (j : Nat), kOperator, wd⟩ : Tok)
                case c3 => unfold maxLen; omega
                case c4 => omega
                case c5 => first | omega | (simp; omega)
                intro v' w1 hown' hgrow _
                have R := model_push (k := (⟨i, (j : Nat), kOperator, wd⟩ : Tok)) hb.out hown.out _ hown' hgrow
                have R1 := Lib.hid R.1
                have R2 := Lib.hid R.2
                clear R hown' hgrow
                clear hown hb
                go_wp2_with fail
                go_roundg (s.size - i)
                case measure => omega
                case rel => exact ⟨j, l ++ [(⟨i, (j : Nat), kOperator, wd⟩ : Tok)], rfl, R1, R2, Lib.hid (by rw [← Hst2.out]; simp), by rw [List.length_append]; simp; omega, by omega, by omega⟩
              | false =>
                have hk : kindW d wd = kIdentifier := by unfold kindW; rw [hkw]; rfl
                rw [hk] at Hst2
                clear hk hkw
                go_wp2_with (first | (at_builtin; go_loud (refine wpList_append_own _ rfl _ _ 47 rfl w.heap.size 51 i0 (.agg #[.int .i64 0, .int .i64 0, .string ⟨#[]⟩, .string ⟨#[]⟩]) 4 48 Hu.out Hi.out Hz0.out Hz1.out Hz2.out rfl (by decide) _ _ _ rfl (hown.out.alloc _) ⟨wr.heap.size, 0, none⟩ 1 1 (tokCells (⟨i, (j : Nat), kIdentifier, wd⟩ : Tok)) rfl rfl ?c1 ?c2 ?c3 ?c4 ?c5 ?_)))
                case c1 => first | exact tok_cells (⟨i, (j : Nat), kIdentifier, wd⟩ : Tok) (heap_alloc_at rfl) | exact fun _ _ h => h
                case c2 => exact tokCells_one (⟨i, (j : Nat), kIdentifier, wd⟩ : Tok)
                case c3 => unfold maxLen; omega
                case c4 => omega
                case c5 => first | omega | (simp; omega)
                intro v' w1 hown' hgrow _
                have R := model_push (k := (⟨i, (j : Nat), kIdentifier, wd⟩ : Tok)) hb.out hown.out _ hown' hgrow
                have R1 := Lib.hid R.1
                have R2 := Lib.hid R.2
                clear R hown' hgrow
                clear hown hb
                go_wp2_with fail
                go_roundg (s.size - i)
                case measure => omega
                case rel => exact ⟨j, l ++ [(⟨i, (j : Nat), kIdentifier, wd⟩ : Tok)], rfl, R1, R2, Lib.hid (by rw [← Hst2.out]; simp), by rw [List.length_append]; simp; omega, by omega, by omega⟩
            · have y1 : ¬ (j : Int) < (s.size : Int) := by omega
              clear hjn hend hst2 ho
              go_wp2_with fail
              obtain ⟨wd, hwd⟩ : ∃ wd, s.extract i j = wd := ⟨_, rfl⟩
              rw [hwd] at Hst2
              have Hwd := Lib.hid hwd
              have hlo : l.length ≤ 1099511627776 := by omega
              clear hwd
              rw [Hwd.out]
              refine (zzIsKeyword_any wd d _).mono ?_
              rintro e w' ⟨rfl, rfl⟩
              cases hkw : isKw d wd with
              | true =>
                have hk : kindW d wd = kOperator := by unfold kindW; rw [hkw]; rfl
                rw [hk] at Hst2
                clear hk hkw
                go_wp2_with (first | (at_builtin; go_loud (refine wpList_append_own _ rfl _ _ 47 rfl w.heap.size 51 i0 (.agg #[.int .i64 0, .int .i64 0, .string ⟨#[]⟩, .string ⟨#[]⟩]) 4 48 Hu.out Hi.out Hz0.out Hz1.out Hz2.out rfl (by decide) _ _ _ rfl (hown.out.alloc _) ⟨wr.heap.size, 0, none⟩ 1 1 (tokCells (⟨i, (j : Nat), kOperator, wd⟩ : Tok)) rfl rfl ?c1 ?c2 ?c3 ?c4 ?c5 ?_)))
                case c1 => first | exact tok_cells (⟨i, (j : Nat), kOperator, wd⟩ : Tok) (heap_alloc_at rfl) | exact fun _ _ h => h
                case c2 => exact tokCells_one (⟨i, (j : Nat), kOperator, wd⟩ : Tok)
                case c3 => unfold maxLen; omega
                case c4 => omega
                case c5 => first | omega | (simp; omega)
                intro v' w1 hown' hgrow _
                have R := model_push (k := (⟨i, (j : Nat), kOperator, wd⟩ : Tok)) hb.out hown.out _ hown' hgrow
                have R1 := Lib.hid R.1
                have R2 := Lib.hid R.2
                clear R hown' hgrow
                clear hown hb
                go_wp2_with fail
                go_roundg (s.size - i)
                case measure => omega
                case rel => exact ⟨j, l ++ [(⟨i, (j : Nat), kOperator, wd⟩ : Tok)], rfl, R1, R2, Lib.hid (by rw [← Hst2.out]; simp), by rw [List.length_append]; simp; omega, by omega, by omega⟩
              | false =>
                have hk : kindW d wd = kIdentifier := by unfold kindW; rw [hkw]; rfl
                rw [hk] at Hst2
                clear hk hkw
                go_wp2_with (first | (at_builtin; go_loud (refine wpList_append_own _ rfl _ _ 47 rfl w.heap.size 51 i0 (.agg #[.int .i64 0, .int .i64 0, .string ⟨#[]⟩, .string ⟨#[]⟩]) 4 48 Hu.out Hi.out Hz0.out Hz1.out Hz2.out rfl (by decide) _ _ _ rfl (hown.out.alloc _) ⟨wr.heap.size, 0, none⟩ 1 1 (tokCells (⟨i, (j : Nat), kIdentifier, wd⟩ : Tok)) rfl rfl ?c1 ?c2 ?c3 ?c4 ?c5 ?_)))
                case c1 => first | exact tok_cells (⟨i, (j : Nat), kIdentifier, wd⟩ : Tok) (heap_alloc_at rfl) | exact fun _ _ h => h
                case c2 => exact tokCells_one (⟨i, (j : Nat), kIdentifier, wd⟩ : Tok)
                case c3 => unfold maxLen; omega
                case c4 => omega
                case c5 => first | omega | (simp; omega)
                intro v' w1 hown' hgrow _
                have R := model_push (k := (⟨i, (j : Nat), kIdentifier, wd⟩ : Tok)) hb.out hown.out _ hown' hgrow
                have R1 := Lib.hid R.1
                have R2 := Lib.hid R.2
                clear R hown' hgrow
                clear hown hb
                go_wp2_with fail
                go_roundg (s.size - i)
                case measure => omega
                case rel => exact ⟨j, l ++ [(⟨i, (j : Nat), kIdentifier, wd⟩ : Tok)], rfl, R1, R2, Lib.hid (by rw [← Hst2.out]; simp), by rw [List.length_append]; simp; omega, by omega, by omega⟩
      | false =>
        have hl2 : isLet (s[i]'hin).toNat = false := by rw [← kb]; exact hlt
        have hst := heq.out
        rw [model_one hin h32 hlt] at hst
        have hk : kindZ (s[i]'hin).toNat = kindP (byt s i) := by
          rw [← kb]
          unfold kindZ kindP
          rcases Hsm.out i hin with h | h | h | h
          · exact absurd h h32
          · rw [hlt] at h; cases h
          · rw [h]; rfl
          · rw [h]
            cases isBra (byt s i) <;> rfl
        obtain ⟨r, hr⟩ : ∃ r : Nat, r = i + 1 := ⟨_, rfl⟩
        have r0 : (i : Int) + 1 = (r : Int) := by omega
        have p1 : (r : Int) ≤ (s.size : Int) := by omega
        have p2 : (i : Int) ≤ (r : Int) := by omega
        rw [← hr, ← hk] at hst
        have Hl2 := Lib.hid hl2
        have Hst := Lib.hid hst
        have Hr := Lib.hid hr
        obtain ⟨kd, hkd⟩ : ∃ kd, kindZ (s[i]'hin).toNat = kd := ⟨_, rfl⟩
        rw [hkd] at Hst
        have Hkd := Lib.hid hkd
        have hlo : l.length ≤ 1099511627776 := by omega
        clear kb h32 hl2 hst heq hlt hk hkd hr
        go_wp2_with fail
        refine (zzIsLetter_any _ kl _).mono ?_
        rintro e w' ⟨rfl, rfl⟩
        rw [Hl2.out]
        go_wp2_with fail
        refine (zzPunct_any _ kl _).mono ?_
        rintro e w' ⟨rfl, rfl⟩
        rw [Hkd.out]
        go_wp2_with (first | (at_builtin; go_loud (refine wpList_append_own _ rfl _ _ 47 rfl w.heap.size 51 i0 (.agg #[.int .i64 0, .int .i64 0, .string ⟨#[]⟩, .string ⟨#[]⟩]) 4 48 Hu.out Hi.out Hz0.out Hz1.out Hz2.out rfl (by decide) _ _ _ rfl (hown.out.alloc _) ⟨wr.heap.size, 0, none⟩ 1 1 (tokCells (⟨i, (r : Nat), kd, s.extract i r⟩ : Tok)) rfl rfl ?c1 ?c2 ?c3 ?c4 ?c5 ?_)))
        case c1 => first | exact tok_cells (⟨i, (r : Nat), kd, s.extract i r⟩ : Tok) (heap_alloc_at rfl) | exact fun _ _ h => h
        case c2 => exact tokCells_one (⟨i, (r : Nat), kd, s.extract i r⟩ : Tok)
        case c3 => unfold maxLen; omega
        case c4 => omega
        case c5 => first | omega | (simp; omega)
        intro v' w1 hown' hgrow _
        have R := model_push (k := (⟨i, (r : Nat), kd, s.extract i r⟩ : Tok)) hb.out hown.out _ hown' hgrow
        have R1 := Lib.hid R.1
        have R2 := Lib.hid R.2
        clear R hown' hgrow
        clear hown hb
        go_wp2_with fail
        go_roundg (s.size - i)
        case measure => omega
        case rel => exact ⟨r, l ++ [(⟨i, (r : Nat), kd, s.extract i r⟩ : Tok)], by go_num, R1, R2, Lib.hid (by rw [← Hst.out]; simp), by rw [List.length_append, Hr.out]; simp; omega, by omega, by have := Hr.out; omega⟩
    · have j2 : ¬ (i : Int) < (s.size : Int) := by omega
      obtain rfl : i = s.size := by omega
      have hse := heq.out
      rw [model_end (Nat.lt_irrefl _), List.append_nil] at hse
      have Hse := Lib.hid hse
      clear hse heq
      by_cases h0 : s.size = 0
      · have n0 : (s.size : Int) - 1 < 0 := by omega
        have hlo : l.length ≤ 1099511627776 := by omega
        have hz0 : ((s.size : Nat) : Int) = 0 := by omega
        have he : eofTok s.size = (⟨0, (s.size : Nat), kEOF, ⟨#[]⟩⟩ : Tok) := by rw [h0]; rfl
        have He := Lib.hid he
        clear h0 he hz0
        go_wp2_with (first | (at_builtin; go_loud (refine wpList_append_own _ rfl _ _ 47 rfl w.heap.size 51 i0 (.agg #[.int .i64 0, .int .i64 0, .string ⟨#[]⟩, .string ⟨#[]⟩]) 4 48 Hu.out Hi.out Hz0.out Hz1.out Hz2.out rfl (by decide) _ _ _ rfl (hown.out.alloc _) ⟨wr.heap.size, 0, none⟩ 1 1 (tokCells (⟨0, (s.size : Nat), kEOF, ⟨#[]⟩⟩ : Tok)) rfl rfl ?c1 ?c2 ?c3 ?c4 ?c5 ?_)))
        case c1 => first | exact tok_cells (⟨0, (s.size : Nat), kEOF, ⟨#[]⟩⟩ : Tok) (heap_alloc_at rfl) | exact fun _ _ h => h
        case c2 => exact tokCells_one (⟨0, (s.size : Nat), kEOF, ⟨#[]⟩⟩ : Tok)
        case c3 => unfold maxLen; omega
        case c4 => omega
        case c5 => first | omega | (simp; omega)
        intro v' w1 hown' hgrow _
        have R := model_push (k := (⟨0, (s.size : Nat), kEOF, ⟨#[]⟩⟩ : Tok)) hb.out hown.out _ hown' hgrow
        have R1 := Lib.hid R.1
        have R2 := Lib.hid R.2
        clear R hown' hgrow
        rw [← He.out, Hse.out] at R1
        clear hown hb
        go_wp2_with fail
        go_ret
        exact ⟨_, rfl, R1.out, R2.out⟩
      · have n0 : ¬ ((s.size : Int) - 1 < 0) := by omega
        have n1 : (s.size : Int) - 1 = ((s.size - 1 : Nat) : Int) := by omega
        have n2 : IntKind.i64.wrap ((s.size : Int) - 1) = ((s.size - 1 : Nat) : Int) := by rw [IntKind.wrap_i64]; omega
        have n3 : ¬ (((s.size - 1 : Nat) : Int) < 0) := by omega
        have hlo : l.length ≤ 1099511627776 := by omega
        obtain ⟨f, hf⟩ : ∃ f, s.size - 1 = f := ⟨_, rfl⟩
        have he : eofTok s.size = (⟨(f : Nat), (s.size : Nat), kEOF, ⟨#[]⟩⟩ : Tok) := by rw [← hf]; rfl
        rw [hf] at n1 n2 n3
        have He := Lib.hid he
        clear h0 he hf
        go_wp2_with (first | (at_builtin; go_loud (refine wpList_append_own _ rfl _ _ 47 rfl w.heap.size 51 i0 (.agg #[.int .i64 0, .int .i64 0, .string ⟨#[]⟩, .string ⟨#[]⟩]) 4 48 Hu.out Hi.out Hz0.out Hz1.out Hz2.out rfl (by decide) _ _ _ rfl (hown.out.alloc _) ⟨wr.heap.size, 0, none⟩ 1 1 (tokCells (⟨(f : Nat), (s.size : Nat), kEOF, ⟨#[]⟩⟩ : Tok)) rfl rfl ?c1 ?c2 ?c3 ?c4 ?c5 ?_)))
        case c1 => first | exact tok_cells (⟨(f : Nat), (s.size : Nat), kEOF, ⟨#[]⟩⟩ : Tok) (heap_alloc_at rfl) | exact fun _ _ h => h
        case c2 => exact tokCells_one (⟨(f : Nat), (s.size : Nat), kEOF, ⟨#[]⟩⟩ : Tok)
        case c3 => unfold maxLen; omega
        case c4 => omega
        case c5 => first | omega | (simp; omega)
        intro v' w1 hown' hgrow _
        have R := model_push (k := (⟨(f : Nat), (s.size : Nat), kEOF, ⟨#[]⟩⟩ : Tok)) hb.out hown.out _ hown' hgrow
        have R1 := Lib.hid R.1
        have R2 := Lib.hid R.2
        clear R hown' hgrow
        rw [← He.out, Hse.out] at R1
        clear hown hb
        go_wp2_with fail
        go_ret
        exact ⟨_, rfl, R1.out, R2.out⟩

set_option maxHeartbeats 2000000 in
set_option maxRecDepth 100000 in
theorem zzSame_tok (k : Tok) (w : World) : Calls Tryz.prog 22 #[tokVal k, tokVal k] w fun e w' => e = .returned (.bool true) ∧ Below w.heap.size w w' := by
  unfold tokVal
  obtain ⟨a, b, c, d⟩ := k
  go_enter Tryz.func22, Tryz.ntmps22
  go_wp2_with fail
  go_ret
  exact ⟨rfl, (by repeat (first | exact Below.refl _ _ | apply below_drew | apply below_drewN | apply below_alloc | apply below_grow))⟩

end Go.Proofs.YtkplkccjeacniaaGreatFmt
