/- What is no part of a move: the law's walk. -/
import Derived.Test.YtlcdhahnngfjhaaDoorLxP
namespace Go.Proofs.YtlcdhahnngfjhaaDoor
open Go.Proofs Go.Shelf Go.Lib Go.ChangeShapes Go.WideShapes Go.ChangeAt Go.RowKit Go.PlainAid
set_option maxHeartbeats 2000000
set_option linter.unusedVariables false
set_option linter.unusedSimpArgs false
attribute [local go_sem] tx_list tx_size bt_tx

theorem slice_one (R : List UInt8) (a : Nat) (h : a < R.length) (w : World) : (Instr.slice 9 (.string (tx R)) (some (.int .u8 (a : Int))) (some (.int .u8 ((a : Int) + 1))) none).run Tryd.prog w = .ok (.string (tx [bAt R a])) w := by
  rw [run_slice_string w _ _ _ _ _ _ Tryd.underlying9 (by omega) (by omega) (by rw [tx_size]; omega), show ((a : Int) + 1).toNat = a + 1 by omega, Int.toNat_natCast, tx_extract]
  have e : (R.take (a + 1)).drop a = [bAt R a] := by
    unfold bAt
    rw [List.drop_take, show a + 1 - a = 1 by omega, List.getD_eq_getElem?_getD, List.getElem?_eq_getElem h, Option.getD_some]
    rw [List.drop_eq_getElem_cons h]; rfl
  rw [e]
def anyBad (l : List Tk) (k : Nat) : Bool := (l.take k).any (·.bad)
theorem anyBad_succ (l : List Tk) (k : Nat) (h : k < l.length) : anyBad l (k + 1) = (anyBad l k || l[k].bad) := by
  unfold anyBad; rw [List.take_succ_eq_append_getElem h, List.any_append]; simp
/-- The law's loop: whether some token of a list is bad. -/
theorem anyBad_all (l : List Tk) : anyBad l l.length = l.any (·.bad) := by unfold anyBad; rw [List.take_length]
set_option maxRecDepth 100000 in
theorem lexBad_a (wh pc fl rk pm : Int) (h0 : 0 ≤ wh ∧ wh ≤ 255) (h1 : 0 ≤ pc ∧ pc ≤ 255) (h2 : 0 ≤ fl ∧ fl ≤ 255) (h3 : 0 ≤ rk ∧ rk ≤ 255) (h4 : 0 ≤ pm ∧ pm ≤ 255) (W : World) (hT : LTabs W) :
    Calls Tryd.prog 3 #[.int .u8 wh, .int .u8 pc, .int .u8 fl, .int .u8 rk, .int .u8 pm] W fun e w' => e = .returned (.bool true) ∧ Below W.heap.size W w' := by
  have md : ∀ (x m : Int), 0 ≤ x → 0 < m → ∃ k : Nat, x.tmod m = (k : Int) ∧ (k : Int) < m := fun x m hx hm => ⟨(x % m).toNat, by rw [Int.tmod_eq_emod_of_nonneg hx]; have := Int.emod_nonneg x (show m ≠ 0 by omega); omega, by have := Int.emod_lt_of_pos x hm; have := Int.emod_nonneg x (show m ≠ 0 by omega); omega⟩
  obtain ⟨a, ea, ha⟩ := md fl 8 h2.1 (by omega)
  obtain ⟨r, er, hr⟩ := md rk 8 h3.1 (by omega)
  obtain ⟨q, eq, hq⟩ := md pc 4 h1.1 (by omega)
  obtain ⟨d, ed, hd⟩ := md pm 8 h4.1 (by omega)
  obtain ⟨n2, en2, hn2⟩ := md pm 2 h4.1 (by omega)
  obtain ⟨n3, en3, hn3⟩ := md pm 3 h4.1 (by omega)
  obtain ⟨r2, er2, hr2⟩ := md rk 2 h3.1 (by omega)
  obtain ⟨wc, ewc, hwc⟩ := md wh 3 h0.1 (by omega)
  have u8 : ∀ k : Nat, (k : Int) < 8 → IntKind.u8.wrap ((k : Int) + 1) = (k : Int) + 1 := fun k hk => IntWalk.u8_in _ (by omega)
  have ua := u8 a ha; have ur := u8 r hr; have uq := u8 q (by omega); have ud := u8 d hd
  have un2 := u8 n2 (by omega); have un3 := u8 n3 (by omega); have ur2 := u8 r2 (by omega)
  have s1 : ∀ wx, (Instr.slice 9 (.string ⟨#[97, 98, 99, 100, 101, 102, 103, 104]⟩) (some (.int .u8 (a : Int))) (some (.int .u8 ((a : Int) + 1))) none).run Tryd.prog wx = .ok (.string (tx [bAt [97, 98, 99, 100, 101, 102, 103, 104] a])) wx := fun wx => slice_one [97, 98, 99, 100, 101, 102, 103, 104] a (by simp; omega) wx
  have s2 : ∀ wx, (Instr.slice 9 (.string ⟨#[49, 50, 51, 52, 53, 54, 55, 56]⟩) (some (.int .u8 (r : Int))) (some (.int .u8 ((r : Int) + 1))) none).run Tryd.prog wx = .ok (.string (tx [bAt [49, 50, 51, 52, 53, 54, 55, 56] r])) wx := fun wx => slice_one [49, 50, 51, 52, 53, 54, 55, 56] r (by simp; omega) wx
  have s3 : ∀ wx, (Instr.slice 9 (.string ⟨#[78, 66, 82, 81]⟩) (some (.int .u8 (q : Int))) (some (.int .u8 ((q : Int) + 1))) none).run Tryd.prog wx = .ok (.string (tx [bAt [78, 66, 82, 81] q])) wx := fun wx => slice_one [78, 66, 82, 81] q (by simp; omega) wx
  have s4 : ∀ wx, (Instr.slice 9 (.string ⟨#[49, 50, 51, 52, 53, 54, 55, 56]⟩) (some (.int .u8 (d : Int))) (some (.int .u8 ((d : Int) + 1))) none).run Tryd.prog wx = .ok (.string (tx [bAt [49, 50, 51, 52, 53, 54, 55, 56] d])) wx := fun wx => slice_one [49, 50, 51, 52, 53, 54, 55, 56] d (by simp; omega) wx
  have s5 : ∀ wx, (Instr.slice 9 (.string ⟨#[48, 57]⟩) (some (.int .u8 (n2 : Int))) (some (.int .u8 ((n2 : Int) + 1))) none).run Tryd.prog wx = .ok (.string (tx [bAt [48, 57] n2])) wx := fun wx => slice_one [48, 57] n2 (by simp; omega) wx
  have s6 : ∀ wx, (Instr.slice 9 (.string ⟨#[65, 80, 90]⟩) (some (.int .u8 (n3 : Int))) (some (.int .u8 ((n3 : Int) + 1))) none).run Tryd.prog wx = .ok (.string (tx [bAt [65, 80, 90] n3])) wx := fun wx => slice_one [65, 80, 90] n3 (by simp; omega) wx
  have s7 : ∀ wx, (Instr.slice 9 (.string ⟨#[49, 56]⟩) (some (.int .u8 (r2 : Int))) (some (.int .u8 ((r2 : Int) + 1))) none).run Tryd.prog wx = .ok (.string (tx [bAt [49, 56] r2])) wx := fun wx => slice_one [49, 56] r2 (by simp; omega) wx
  have s8 : ∀ wx, (Instr.slice 9 (.string ⟨#[81, 82, 66, 78]⟩) (some (.int .u8 (q : Int))) (some (.int .u8 ((q : Int) + 1))) none).run Tryd.prog wx = .ok (.string (tx [bAt [81, 82, 66, 78] q])) wx := fun wx => slice_one [81, 82, 66, 78] q (by simp; omega) wx
  have hcl : (isFl (bAt [97, 98, 99, 100, 101, 102, 103, 104] a).toNat = true) ∧ (isRk (bAt [49, 50, 51, 52, 53, 54, 55, 56] r).toNat = true ∧ isD (bAt [49, 50, 51, 52, 53, 54, 55, 56] r).toNat = true) ∧ (isUp (bAt [78, 66, 82, 81] q).toNat = true ∧ isPc (bAt [78, 66, 82, 81] q).toNat = true ∧ (bAt [78, 66, 82, 81] q).toNat ≠ 79) ∧ (isRk (bAt [49, 50, 51, 52, 53, 54, 55, 56] d).toNat = true ∧ isD (bAt [49, 50, 51, 52, 53, 54, 55, 56] d).toNat = true) ∧
      (isRk (bAt [48, 57] n2).toNat = false ∧ isD (bAt [48, 57] n2).toNat = true) ∧ (isUp (bAt [65, 80, 90] n3).toNat = true ∧ isPc (bAt [65, 80, 90] n3).toNat = false ∧ (bAt [65, 80, 90] n3).toNat ≠ 79) ∧ (isRk (bAt [49, 56] r2).toNat = true ∧ isD (bAt [49, 56] r2).toNat = true) ∧ (isUp (bAt [81, 82, 66, 78] q).toNat = true ∧ isPc (bAt [81, 82, 66, 78] q).toNat = true ∧ (bAt [81, 82, 66, 78] q).toNat ≠ 79) := by
    have e8 : ∀ k : Nat, (k : Int) < 8 → k = 0 ∨ k = 1 ∨ k = 2 ∨ k = 3 ∨ k = 4 ∨ k = 5 ∨ k = 6 ∨ k = 7 := fun k hk => by omega
    refine ⟨?_, ?_, ?_, ?_, ?_, ?_, ?_, ?_⟩
    · rcases e8 a ha with rfl | rfl | rfl | rfl | rfl | rfl | rfl | rfl <;> decide
    · rcases e8 r hr with rfl | rfl | rfl | rfl | rfl | rfl | rfl | rfl <;> decide
    · have : q = 0 ∨ q = 1 ∨ q = 2 ∨ q = 3 := by omega
      rcases this with rfl | rfl | rfl | rfl <;> decide
    · rcases e8 d hd with rfl | rfl | rfl | rfl | rfl | rfl | rfl | rfl <;> decide
    · have : n2 = 0 ∨ n2 = 1 := by omega
      rcases this with rfl | rfl <;> decide
    · have : n3 = 0 ∨ n3 = 1 ∨ n3 = 2 := by omega
      rcases this with rfl | rfl | rfl <;> decide
    · have : r2 = 0 ∨ r2 = 1 := by omega
      rcases this with rfl | rfl <;> decide
    · have : q = 0 ∨ q = 1 ∨ q = 2 ∨ q = 3 := by omega
      rcases this with rfl | rfl | rfl | rfl <;> decide
  obtain ⟨cF, ⟨cR, cR'⟩, ⟨cP, cP', cP''⟩, ⟨cD, cD'⟩, ⟨cN, cN'⟩, ⟨cX, cX', cX''⟩, ⟨cE, cE'⟩, ⟨cQ, cQ', cQ''⟩⟩ := hcl
  generalize bAt [97, 98, 99, 100, 101, 102, 103, 104] a = bF at *
  generalize bAt [49, 50, 51, 52, 53, 54, 55, 56] r = bR at *
  generalize bAt [78, 66, 82, 81] q = bP at *
  generalize bAt [49, 50, 51, 52, 53, 54, 55, 56] d = bD at *
  generalize bAt [48, 57] n2 = bN at *
  generalize bAt [65, 80, 90] n3 = bX at *
  generalize bAt [49, 56] r2 = bE at *
  generalize bAt [81, 82, 66, 78] q = bQ at *
  have t1 := tx_app [bF] [bR]
  have t2 := tx_app [bP] [bD]
  have t3 := tx_app [bP, bD] [bF, bR]
  have t4 := tx_app [bP] [bN]
  have t5 := tx_app [bP, bN] [bF, bR]
  have t6 := tx_app [bF] [bE]
  have t7 : tx [bF, bE] ++ (⟨#[61]⟩ : ByteArray) = tx [bF, bE, 61] := tx_app [bF, bE] [61]
  have t8 := tx_app [bF, bE, 61] [bQ]
  have t9 := tx_app [bF, bE, 61] [bX]
  have t10 := tx_app [bP] [bF, bR]
  have t11 := tx_app [bX] [bF, bR]
  simp only [List.cons_append, List.nil_append] at t1 t2 t3 t4 t5 t6 t8 t9 t10 t11
  clear md u8 ha hr hq hd hn2 hn3 hr2 h0 h1 h2 h3 h4
  replace hT := Lib.hid hT
  go_enter Tryd.func3, Tryd.ntmps3
  go_upto_region 1 with (fail)
  go_quiet (fail)
  have hb0 : Below W.heap.size W (W.drewN nq) := ⟨rfl, rfl, rfl, Nat.le_refl _, fun _ _ => rfl⟩
  generalize W.drewN nq = w0 at *
  go_upto_region 3 with (fail)
  go_quiet (fail)
  have hb1 : Below W.heap.size W (w0.drewN nq) := hb0.trans ⟨rfl, rfl, rfl, Nat.le_refl _, fun _ _ => rfl⟩
  generalize w0.drewN nq = w1 at *
  clear hb0
  go_upto_region 6 with (fail)
  have : wc = 0 ∨ wc = 1 ∨ wc = 2 := by omega
  rcases this with rfl | rfl | rfl
  · clear hwc
    obtain ⟨kg, hkg⟩ : ∃ kg : List Tk, kg = [⟨false, [bP], 9⟩, ⟨false, [bD], 17⟩, ⟨false, [bF, bR], 10⟩] := ⟨_, rfl⟩
    obtain ⟨kb, hkb⟩ : ∃ kb : List Tk, kb = [⟨false, [bP], 9⟩, ⟨true, [bN], 17⟩, ⟨false, [bF, bR], 10⟩] := ⟨_, rfl⟩
    have hLG : Hid (∀ w, LTabs w → Calls Tryd.prog 5 #[.string (tx [bP, bD, bF, bR])] w fun e w' => LexPost kg w e w') := Lib.hid (fun w h => lex_any _ (by simp) kg (by rw [hkg]; simp) (by rw [hkg]; exact (by have := run_a bP bD bF bR cP cP'' cD' cF cR'; rw [cP', cD] at this; exact this)) w h)
    have hLB : Hid (∀ w, LTabs w → Calls Tryd.prog 5 #[.string (tx [bP, bN, bF, bR])] w fun e w' => LexPost kb w e w') := Lib.hid (fun w h => lex_any _ (by simp) kb (by rw [hkb]; simp) (by rw [hkb]; exact (by have := run_a bP bN bF bR cP cP'' cN' cF cR'; rw [cP', cN] at this; exact this)) w h)
    have hSan : Hid (∀ w, Calls Tryd.prog 8 #[.string (tx [bP, bD, bF, bR])] w fun e w' => SanP kg w e w') := Lib.hid (fun w => by rw [hkg]; exact sanA_any bP bD bF bR cP cD cF cR w)
    have hany : Hid (kb.any (·.bad) = true) := Lib.hid (by rw [hkb]; rfl)
    have hsm := Lib.hid (fun (B1 B2 : Nat) (v1 v2 : Value) (wx : World) (h1 : Toks B1 v1 kg wx) (h2 : Toks B2 v2 kg wx) => lexSame_any kg (by rw [hkg]; simp) (by rw [hkg]; simp) B1 B2 v1 v2 wx h1 h2)
    have hkl : kb.length ≤ 10 := by rw [hkb]; simp
    clear hkg hkb
    go_upto_region 11 with (fail)
    have hBx := Lib.hid (hb1)
    have hT1 := Lib.hid (hT.out.below hb1 (Nat.le_refl _))
    clear hb1
    go_upto_region 12 with (go_at_call 5; refine (hLG.out _ hT1.out).mono ?_; rintro e w2 ⟨v, rfl, hv, hb2⟩)
    have hBx2 := hBx.out.trans (hb2.mono hBx.out.size)
    have hT2 := Lib.hid (hT.out.below hBx2 (Nat.le_refl _))
    have hv2 : Toks w1.heap.size v kg w2 := hv
    replace hv2 := Lib.hid hv2
    clear hv hLG hb2
    replace hBx2 := Lib.hid hBx2
    go_upto_region 13 with (go_at_call 5; refine (hLB.out _ hT2.out).mono ?_; rintro e w3 ⟨u, rfl, hu, hb3⟩)
    have hBx3 := Lib.hid (hBx2.out.trans (hb3.mono hBx2.out.size))
    have hT3 := Lib.hid (hT.out.below hBx3.out (Nat.le_refl _))
    have hv3 := Lib.hid (Toks.below hv2.out hb3)
    have hu3 : Toks w2.heap.size u kb w3 := hu
    obtain ⟨ua, uc, rfl, hcu⟩ := toks_cells hu3
    replace hcu := Lib.hid hcu
    clear hu hu3 hLB hb3 hv2 hT2
    go_wp2_with (fail)
    go_loopw [21, 119] (fun s i wr => ∃ k : Nat, k ≤ kb.length ∧ i = .int .i64 (k : Int) ∧ s = .bool (anyBad kb k) ∧ Below w3.heap.size w3 wr) (fun _ i _ => kb.length - (match i with | .int _ n => n.toNat | _ => 0))
    case atStart => exact ⟨0, by omega, rfl, rfl, Below.refl _ _⟩
    case round =>
      obtain ⟨k, hk, rfl, rfl, hB⟩ := hrel
      by_cases hlt : k < kb.length
      · have hd : decide ((k : Int) < (kb.length : Int)) = true := decide_eq_true (by omega)
        have hkx : (k : Int) < (kb.length : Int) := by omega
        obtain ⟨gq, rfl, q1, q2, q3⟩ := hcu.out (by omega)
        obtain ⟨e0, e1, e2⟩ := q3 k hlt
        have hqq : ∀ j, wr.cell? ⟨gq, j, none⟩ = w3.cell? ⟨gq, j, none⟩ := fun j => hB.cell q2
        rw [← hqq] at e0 e1 e2
        have hsu := Lib.hid (anyBad_succ kb k hlt)
        generalize kb[k].t = kt at *
        generalize kb[k].v = kv at *
        generalize kb[k].bad = kd at *
        clear hqq q1 q2 q3 hcu
        go_upto_region 17 with (refine wpList_store_mid rfl 26 _ _ rfl wr.heap.size 0 #[.int .i64 kt, .string (tx kv), .bool kd] rfl rfl (rowIs_there (row_lit wr #[.int .i64 0, .string ⟨#[]⟩, .bool false] 26)) (by kernel_rfl) (by simp [Value.oneCell']) ?_)
        have hrw : ((wr.alloc (.cells #[.int .i64 0, .string ⟨#[]⟩, .bool false] 26)).setCells wr.heap.size 0 [.int .i64 kt, .string (tx kv), .bool kd]).rowIs wr.heap.size 26 3 (fun j => (#[Value.int .i64 kt, .string (tx kv), .bool kd] : Array Value).getD j undef) := row_store (row_lit wr #[.int .i64 0, .string ⟨#[]⟩, .bool false] 26) #[.int .i64 kt, .string (tx kv), .bool kd] rfl
        have hbw : Below wr.heap.size wr ((wr.alloc (.cells #[.int .i64 0, .string ⟨#[]⟩, .bool false] 26)).setCells wr.heap.size 0 [.int .i64 kt, .string (tx kv), .bool kd]) := below_setCells (Nat.le_refl _) _ _ _ ((Below.refl _ _).alloc (Nat.le_refl _) _)
        generalize ((wr.alloc (.cells #[.int .i64 0, .string ⟨#[]⟩, .bool false] 26)).setCells wr.heap.size 0 [.int .i64 kt, .string (tx kv), .bool kd]) = w5 at *
        have d2 : w5.cell? ⟨wr.heap.size, 2, none⟩ = some (.bool kd) := hrw.cell (i := 2) (by omega)
        have hB5 := Lib.hid (hB.trans (hbw.mono hB.size))
        clear hrw hbw hB e0 e1 e2
        cases hab : anyBad kb k
        · go_wp2_with (fail)
          exact ⟨⟨k + 1, by omega, by go_num, by rw [hsu.out, hab]; simp, hB5.out⟩, by simp; omega⟩
        · go_wp2_with (fail)
          exact ⟨⟨k + 1, by omega, by go_num, by rw [hsu.out, hab]; simp, hB5.out⟩, by simp; omega⟩
      · obtain rfl : k = kb.length := by omega
        have hd : decide ((kb.length : Int) < (kb.length : Int)) = false := decide_eq_false (by omega)
        have hab : anyBad kb kb.length = true := (anyBad_all kb).trans hany.out
        have hBx4 := Lib.hid (hBx3.out.trans (hB.mono hBx3.out.size))
        have hT4 := Lib.hid (hT.out.below hBx4.out (Nat.le_refl _))
        have hv4 := Lib.hid (Toks.below hv3.out hB)
        clear hcu hB hv3
        go_upto_region 19 with (fail)
        rw [hab]
        go_wp2_with (first
          | (go_at_call 7; refine (hsm.out _ _ _ _ _ (Toks.below (Toks.below hv4.out hb5) hb6) hs6).mono ?_; rintro e w7 ⟨rfl, hb7⟩)
          | (go_at_call 8; refine (hSan.out _).mono ?_; rintro e w6 ⟨vs, Bs, rfl, hs6, hBs, hb6⟩)
          | (go_at_call 6; refine (awake_any _ hT4.out).mono ?_; rintro e w5 ⟨rfl, hb5⟩))
        have z5 := hBx4.out.trans (hb5.mono hBx4.out.size)
        have z6 := z5.trans (hb6.mono z5.size)
        have z7 := z6.trans (hb7.mono z6.size)
        go_ret
        exact ⟨rfl, z7⟩
  · clear hwc
    obtain ⟨kg, hkg⟩ : ∃ kg : List Tk, kg = [⟨false, [bF, bE], 10⟩, ⟨false, [61], 20⟩, ⟨false, [bQ], 21⟩] := ⟨_, rfl⟩
    obtain ⟨kb, hkb⟩ : ∃ kb : List Tk, kb = [⟨false, [bF, bE], 10⟩, ⟨false, [61], 20⟩, ⟨true, [bX], 21⟩] := ⟨_, rfl⟩
    have hLG : Hid (∀ w, LTabs w → Calls Tryd.prog 5 #[.string (tx [bF, bE, 61, bQ])] w fun e w' => LexPost kg w e w') := Lib.hid (fun w h => lex_any _ (by simp) kg (by rw [hkg]; simp) (by rw [hkg]; exact (by have := run_b bF bE bQ cF cE' cQ cQ''; rw [cQ'] at this; exact this)) w h)
    have hLB : Hid (∀ w, LTabs w → Calls Tryd.prog 5 #[.string (tx [bF, bE, 61, bX])] w fun e w' => LexPost kb w e w') := Lib.hid (fun w h => lex_any _ (by simp) kb (by rw [hkb]; simp) (by rw [hkb]; exact (by have := run_b bF bE bX cF cE' cX cX''; rw [cX'] at this; exact this)) w h)
    have hSan : Hid (∀ w, Calls Tryd.prog 8 #[.string (tx [bF, bE, 61, bQ])] w fun e w' => SanP kg w e w') := Lib.hid (fun w => by rw [hkg]; exact sanB_any bF bE bQ cF cE cQ w)
    have hany : Hid (kb.any (·.bad) = true) := Lib.hid (by rw [hkb]; rfl)
    have hsm := Lib.hid (fun (B1 B2 : Nat) (v1 v2 : Value) (wx : World) (h1 : Toks B1 v1 kg wx) (h2 : Toks B2 v2 kg wx) => lexSame_any kg (by rw [hkg]; simp) (by rw [hkg]; simp) B1 B2 v1 v2 wx h1 h2)
    have hkl : kb.length ≤ 10 := by rw [hkb]; simp
    clear hkg hkb
    go_upto_region 7 with (fail)
    go_quiet (fail)
    replace hb1 : Below W.heap.size W (w1.drewN nq) := hb1.trans ⟨rfl, rfl, rfl, Nat.le_refl _, fun _ _ => rfl⟩
    generalize w1.drewN nq = w9 at *
    clear w1
    obtain ⟨w1, hw1⟩ : ∃ w1, w1 = w9 := ⟨_, rfl⟩
    subst hw1
    go_upto_region 11 with (fail)
    have hBx := Lib.hid (hb1)
    have hT1 := Lib.hid (hT.out.below hb1 (Nat.le_refl _))
    clear hb1
    go_upto_region 12 with (go_at_call 5; refine (hLG.out _ hT1.out).mono ?_; rintro e w2 ⟨v, rfl, hv, hb2⟩)
    have hBx2 := hBx.out.trans (hb2.mono hBx.out.size)
    have hT2 := Lib.hid (hT.out.below hBx2 (Nat.le_refl _))
    have hv2 : Toks w1.heap.size v kg w2 := hv
    replace hv2 := Lib.hid hv2
    clear hv hLG hb2
    replace hBx2 := Lib.hid hBx2
    go_upto_region 13 with (go_at_call 5; refine (hLB.out _ hT2.out).mono ?_; rintro e w3 ⟨u, rfl, hu, hb3⟩)
    have hBx3 := Lib.hid (hBx2.out.trans (hb3.mono hBx2.out.size))
    have hT3 := Lib.hid (hT.out.below hBx3.out (Nat.le_refl _))
    have hv3 := Lib.hid (Toks.below hv2.out hb3)
    have hu3 : Toks w2.heap.size u kb w3 := hu
    obtain ⟨ua, uc, rfl, hcu⟩ := toks_cells hu3
    replace hcu := Lib.hid hcu
    clear hu hu3 hLB hb3 hv2 hT2
    go_wp2_with (fail)
    go_loopw [21, 119] (fun s i wr => ∃ k : Nat, k ≤ kb.length ∧ i = .int .i64 (k : Int) ∧ s = .bool (anyBad kb k) ∧ Below w3.heap.size w3 wr) (fun _ i _ => kb.length - (match i with | .int _ n => n.toNat | _ => 0))
    case atStart => exact ⟨0, by omega, rfl, rfl, Below.refl _ _⟩
    case round =>
      obtain ⟨k, hk, rfl, rfl, hB⟩ := hrel
      by_cases hlt : k < kb.length
      · have hd : decide ((k : Int) < (kb.length : Int)) = true := decide_eq_true (by omega)
        have hkx : (k : Int) < (kb.length : Int) := by omega
        obtain ⟨gq, rfl, q1, q2, q3⟩ := hcu.out (by omega)
        obtain ⟨e0, e1, e2⟩ := q3 k hlt
        have hqq : ∀ j, wr.cell? ⟨gq, j, none⟩ = w3.cell? ⟨gq, j, none⟩ := fun j => hB.cell q2
        rw [← hqq] at e0 e1 e2
        have hsu := Lib.hid (anyBad_succ kb k hlt)
        generalize kb[k].t = kt at *
        generalize kb[k].v = kv at *
        generalize kb[k].bad = kd at *
        clear hqq q1 q2 q3 hcu
        go_upto_region 17 with (refine wpList_store_mid rfl 26 _ _ rfl wr.heap.size 0 #[.int .i64 kt, .string (tx kv), .bool kd] rfl rfl (rowIs_there (row_lit wr #[.int .i64 0, .string ⟨#[]⟩, .bool false] 26)) (by kernel_rfl) (by simp [Value.oneCell']) ?_)
        have hrw : ((wr.alloc (.cells #[.int .i64 0, .string ⟨#[]⟩, .bool false] 26)).setCells wr.heap.size 0 [.int .i64 kt, .string (tx kv), .bool kd]).rowIs wr.heap.size 26 3 (fun j => (#[Value.int .i64 kt, .string (tx kv), .bool kd] : Array Value).getD j undef) := row_store (row_lit wr #[.int .i64 0, .string ⟨#[]⟩, .bool false] 26) #[.int .i64 kt, .string (tx kv), .bool kd] rfl
        have hbw : Below wr.heap.size wr ((wr.alloc (.cells #[.int .i64 0, .string ⟨#[]⟩, .bool false] 26)).setCells wr.heap.size 0 [.int .i64 kt, .string (tx kv), .bool kd]) := below_setCells (Nat.le_refl _) _ _ _ ((Below.refl _ _).alloc (Nat.le_refl _) _)
        generalize ((wr.alloc (.cells #[.int .i64 0, .string ⟨#[]⟩, .bool false] 26)).setCells wr.heap.size 0 [.int .i64 kt, .string (tx kv), .bool kd]) = w5 at *
        have d2 : w5.cell? ⟨wr.heap.size, 2, none⟩ = some (.bool kd) := hrw.cell (i := 2) (by omega)
        have hB5 := Lib.hid (hB.trans (hbw.mono hB.size))
        clear hrw hbw hB e0 e1 e2
        cases hab : anyBad kb k
        · go_wp2_with (fail)
          exact ⟨⟨k + 1, by omega, by go_num, by rw [hsu.out, hab]; simp, hB5.out⟩, by simp; omega⟩
        · go_wp2_with (fail)
          exact ⟨⟨k + 1, by omega, by go_num, by rw [hsu.out, hab]; simp, hB5.out⟩, by simp; omega⟩
      · obtain rfl : k = kb.length := by omega
        have hd : decide ((kb.length : Int) < (kb.length : Int)) = false := decide_eq_false (by omega)
        have hab : anyBad kb kb.length = true := (anyBad_all kb).trans hany.out
        have hBx4 := Lib.hid (hBx3.out.trans (hB.mono hBx3.out.size))
        have hT4 := Lib.hid (hT.out.below hBx4.out (Nat.le_refl _))
        have hv4 := Lib.hid (Toks.below hv3.out hB)
        clear hcu hB hv3
        go_upto_region 19 with (fail)
        rw [hab]
        go_wp2_with (first
          | (go_at_call 7; refine (hsm.out _ _ _ _ _ (Toks.below (Toks.below hv4.out hb5) hb6) hs6).mono ?_; rintro e w7 ⟨rfl, hb7⟩)
          | (go_at_call 8; refine (hSan.out _).mono ?_; rintro e w6 ⟨vs, Bs, rfl, hs6, hBs, hb6⟩)
          | (go_at_call 6; refine (awake_any _ hT4.out).mono ?_; rintro e w5 ⟨rfl, hb5⟩))
        have z5 := hBx4.out.trans (hb5.mono hBx4.out.size)
        have z6 := z5.trans (hb6.mono z5.size)
        have z7 := z6.trans (hb7.mono z6.size)
        go_ret
        exact ⟨rfl, z7⟩
  · clear hwc
    obtain ⟨kg, hkg⟩ : ∃ kg : List Tk, kg = [⟨false, [bP], 9⟩, ⟨false, [bF, bR], 10⟩] := ⟨_, rfl⟩
    obtain ⟨kb, hkb⟩ : ∃ kb : List Tk, kb = [⟨true, [bX], 9⟩, ⟨false, [bF, bR], 10⟩] := ⟨_, rfl⟩
    have hLG : Hid (∀ w, LTabs w → Calls Tryd.prog 5 #[.string (tx [bP, bF, bR])] w fun e w' => LexPost kg w e w') := Lib.hid (fun w h => lex_any _ (by simp) kg (by rw [hkg]; simp) (by rw [hkg]; exact (by have := run_c bP bF bR cP cP'' cF cR'; rw [cP'] at this; exact this)) w h)
    have hLB : Hid (∀ w, LTabs w → Calls Tryd.prog 5 #[.string (tx [bX, bF, bR])] w fun e w' => LexPost kb w e w') := Lib.hid (fun w h => lex_any _ (by simp) kb (by rw [hkb]; simp) (by rw [hkb]; exact (by have := run_c bX bF bR cX cX'' cF cR'; rw [cX'] at this; exact this)) w h)
    have hSan : Hid (∀ w, Calls Tryd.prog 8 #[.string (tx [bP, bF, bR])] w fun e w' => SanP kg w e w') := Lib.hid (fun w => by rw [hkg]; exact sanC_any bP bF bR cP cF cR w)
    have hany : Hid (kb.any (·.bad) = true) := Lib.hid (by rw [hkb]; rfl)
    have hsm := Lib.hid (fun (B1 B2 : Nat) (v1 v2 : Value) (wx : World) (h1 : Toks B1 v1 kg wx) (h2 : Toks B2 v2 kg wx) => lexSame_any kg (by rw [hkg]; simp) (by rw [hkg]; simp) B1 B2 v1 v2 wx h1 h2)
    have hkl : kb.length ≤ 10 := by rw [hkb]; simp
    clear hkg hkb
    go_upto_region 11 with (fail)
    have hBx := Lib.hid (hb1)
    have hT1 := Lib.hid (hT.out.below hb1 (Nat.le_refl _))
    clear hb1
    go_upto_region 12 with (go_at_call 5; refine (hLG.out _ hT1.out).mono ?_; rintro e w2 ⟨v, rfl, hv, hb2⟩)
    have hBx2 := hBx.out.trans (hb2.mono hBx.out.size)
    have hT2 := Lib.hid (hT.out.below hBx2 (Nat.le_refl _))
    have hv2 : Toks w1.heap.size v kg w2 := hv
    replace hv2 := Lib.hid hv2
    clear hv hLG hb2
    replace hBx2 := Lib.hid hBx2
    go_upto_region 13 with (go_at_call 5; refine (hLB.out _ hT2.out).mono ?_; rintro e w3 ⟨u, rfl, hu, hb3⟩)
    have hBx3 := Lib.hid (hBx2.out.trans (hb3.mono hBx2.out.size))
    have hT3 := Lib.hid (hT.out.below hBx3.out (Nat.le_refl _))
    have hv3 := Lib.hid (Toks.below hv2.out hb3)
    have hu3 : Toks w2.heap.size u kb w3 := hu
    obtain ⟨ua, uc, rfl, hcu⟩ := toks_cells hu3
    replace hcu := Lib.hid hcu
    clear hu hu3 hLB hb3 hv2 hT2
    go_wp2_with (fail)
    go_loopw [21, 119] (fun s i wr => ∃ k : Nat, k ≤ kb.length ∧ i = .int .i64 (k : Int) ∧ s = .bool (anyBad kb k) ∧ Below w3.heap.size w3 wr) (fun _ i _ => kb.length - (match i with | .int _ n => n.toNat | _ => 0))
    case atStart => exact ⟨0, by omega, rfl, rfl, Below.refl _ _⟩
    case round =>
      obtain ⟨k, hk, rfl, rfl, hB⟩ := hrel
      by_cases hlt : k < kb.length
      · have hd : decide ((k : Int) < (kb.length : Int)) = true := decide_eq_true (by omega)
        have hkx : (k : Int) < (kb.length : Int) := by omega
        obtain ⟨gq, rfl, q1, q2, q3⟩ := hcu.out (by omega)
        obtain ⟨e0, e1, e2⟩ := q3 k hlt
        have hqq : ∀ j, wr.cell? ⟨gq, j, none⟩ = w3.cell? ⟨gq, j, none⟩ := fun j => hB.cell q2
        rw [← hqq] at e0 e1 e2
        have hsu := Lib.hid (anyBad_succ kb k hlt)
        generalize kb[k].t = kt at *
        generalize kb[k].v = kv at *
        generalize kb[k].bad = kd at *
        clear hqq q1 q2 q3 hcu
        go_upto_region 17 with (refine wpList_store_mid rfl 26 _ _ rfl wr.heap.size 0 #[.int .i64 kt, .string (tx kv), .bool kd] rfl rfl (rowIs_there (row_lit wr #[.int .i64 0, .string ⟨#[]⟩, .bool false] 26)) (by kernel_rfl) (by simp [Value.oneCell']) ?_)
        have hrw : ((wr.alloc (.cells #[.int .i64 0, .string ⟨#[]⟩, .bool false] 26)).setCells wr.heap.size 0 [.int .i64 kt, .string (tx kv), .bool kd]).rowIs wr.heap.size 26 3 (fun j => (#[Value.int .i64 kt, .string (tx kv), .bool kd] : Array Value).getD j undef) := row_store (row_lit wr #[.int .i64 0, .string ⟨#[]⟩, .bool false] 26) #[.int .i64 kt, .string (tx kv), .bool kd] rfl
        have hbw : Below wr.heap.size wr ((wr.alloc (.cells #[.int .i64 0, .string ⟨#[]⟩, .bool false] 26)).setCells wr.heap.size 0 [.int .i64 kt, .string (tx kv), .bool kd]) := below_setCells (Nat.le_refl _) _ _ _ ((Below.refl _ _).alloc (Nat.le_refl _) _)
        generalize ((wr.alloc (.cells #[.int .i64 0, .string ⟨#[]⟩, .bool false] 26)).setCells wr.heap.size 0 [.int .i64 kt, .string (tx kv), .bool kd]) = w5 at *
        have d2 : w5.cell? ⟨wr.heap.size, 2, none⟩ = some (.bool kd) := hrw.cell (i := 2) (by omega)
        have hB5 := Lib.hid (hB.trans (hbw.mono hB.size))
        clear hrw hbw hB e0 e1 e2
        cases hab : anyBad kb k
        · go_wp2_with (fail)
          exact ⟨⟨k + 1, by omega, by go_num, by rw [hsu.out, hab]; simp, hB5.out⟩, by simp; omega⟩
        · go_wp2_with (fail)
          exact ⟨⟨k + 1, by omega, by go_num, by rw [hsu.out, hab]; simp, hB5.out⟩, by simp; omega⟩
      · obtain rfl : k = kb.length := by omega
        have hd : decide ((kb.length : Int) < (kb.length : Int)) = false := decide_eq_false (by omega)
        have hab : anyBad kb kb.length = true := (anyBad_all kb).trans hany.out
        have hBx4 := Lib.hid (hBx3.out.trans (hB.mono hBx3.out.size))
        have hT4 := Lib.hid (hT.out.below hBx4.out (Nat.le_refl _))
        have hv4 := Lib.hid (Toks.below hv3.out hB)
        clear hcu hB hv3
        go_upto_region 19 with (fail)
        rw [hab]
        go_wp2_with (first
          | (go_at_call 7; refine (hsm.out _ _ _ _ _ (Toks.below (Toks.below hv4.out hb5) hb6) hs6).mono ?_; rintro e w7 ⟨rfl, hb7⟩)
          | (go_at_call 8; refine (hSan.out _).mono ?_; rintro e w6 ⟨vs, Bs, rfl, hs6, hBs, hb6⟩)
          | (go_at_call 6; refine (awake_any _ hT4.out).mono ?_; rintro e w5 ⟨rfl, hb5⟩))
        have z5 := hBx4.out.trans (hb5.mono hBx4.out.size)
        have z6 := z5.trans (hb6.mono z5.size)
        have z7 := z6.trans (hb7.mono z6.size)
        go_ret
        exact ⟨rfl, z7⟩
end Go.Proofs.YtlcdhahnngfjhaaDoor
