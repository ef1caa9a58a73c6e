/- Reading a board's text: the contract of fenBoard. -/
import Derived.Test.YtnlicbhelnocpaaDoorFen
namespace Go.Proofs.YtnlicbhelnocpaaDoor
open Go.ChangeShapes Go.WideShapes Go.ChangeAt Go.RowKit Go.Maps Go.PlainAid
set_option maxHeartbeats 1000000
set_option linter.unusedVariables false
set_option linter.unusedSimpArgs false

def fenV (s : ByteArray) (k : Nat) (q : Nat) : Int := if 7 - q / 8 < k then readBd s q else 0
theorem mapIs_of {w : World} {bm n : Nat} {D : DataW Unit} {v : Nat → Int} (h : w.ownsMap Tryd.prog tSq (plainElem Tryd.prog tPc) bm n D) (hD : PMap D v) : mapIs w bm n v :=
  ⟨D, h, hD.isMap, fun s hs => by
    by_cases e : v s = 0
    · have hh : Maps.has D (keySq s) = false := by rw [hD.has s hs, e]; rfl
      exact ⟨by rw [atKey_of_not_has hh, e], fun _ => e⟩
    · exact ⟨hD.at_ s hs e _, fun hh => by rw [hD.has s hs] at hh; simpa using hh⟩⟩
theorem PMap.none {D : DataW Unit} (h : IsMap D) (he : ∀ kl, Maps.has D kl = false) : PMap D (fun _ => 0) :=
  ⟨h, fun s _ => by rw [he]; rfl, fun _ _ h => absurd rfl h, fun kl h => by rw [he] at h; cases h⟩

/-- The board while a rank's pieces are handed over: 'left': the files that are still to come. -/
def trV (s : ByteArray) (k : Nat) (left : Lit → Bool) (q : Nat) : Int := if 7 - q / 8 = k ∧ left (keySq (q % 8)) = false then rRow (partAt s k) (q % 8) else fenV s k q
theorem trV_start {s : ByteArray} {k : Nat} {D : DataW Unit} (h : FMap D (rRow (partAt s k))) (q : Nat) : fenV s k q = trV s k (Maps.has D) q := by
  unfold trV
  split
  · rename_i hq
    rw [h.has _ (by omega)] at hq
    have : rRow (partAt s k) (q % 8) = 0 := by simpa using hq.2
    rw [this]
    unfold fenV
    rw [if_neg (by omega)]
  · rfl
theorem trV_end {s : ByteArray} {k : Nat} {left : Lit → Bool} (h : ∀ kl, left kl = false) (q : Nat) : trV s k left q = fenV s (k + 1) q := by
  unfold trV fenV readBd
  by_cases e : 7 - q / 8 = k
  · rw [if_pos ⟨e, h _⟩, if_pos (by omega), e]
  · rw [if_neg (fun x => e x.1)]
    by_cases e2 : 7 - q / 8 < k
    · rw [if_pos e2, if_pos (by omega)]
    · rw [if_neg e2, if_neg (by omega)]
theorem trV_step {s : ByteArray} {k t : Nat} {left : Lit → Bool} (ht : t < 8) (hk : k < 8) (q : Nat) (hq : q < 64) :
    (if q = 8 * (7 - k) + t then rRow (partAt s k) t else trV s k left q) = trV s k (fun z => left z && !z.sameKey (keySq t)) q := by
  simp only [trV]
  by_cases e : q = 8 * (7 - k) + t
  · have e1 : 7 - q / 8 = k := by omega
    have e2 : q % 8 = t := by omega
    have hs : (keySq t).sameKey (keySq t) = true := WideAt.sameKey_self (show WideAt.IsKeyLit (keySq t) from trivial)
    simp [← e, e1, e2, hs]
  · by_cases e1 : 7 - q / 8 = k
    · have e2 : q % 8 ≠ t := by omega
      have hs : (keySq (q % 8)).sameKey (keySq t) = false := sameKey_ne (fun x => e2 (keySq_inj x))
      simp [e, hs]
    · simp [e, e1]
theorem FenS.fresh {w wr w' : World} {bufs : Nat → ByteArray} {D Df : DataW Unit} {n nf : Nat} (h : FenS w wr bufs D Df n nf) (hg : wr.grownBy w' none) : FenS w w' bufs D Df n nf :=
  ⟨h.own.kept hg (by simp), h.ownf.kept hg (by simp), rowIs_grown h.buf hg (by simp), h.below.grown hg h.below.size (by intro r hr; cases hr)⟩

theorem mk32 (w : World) : (Instr.makeMap 92 (some (.int .i64 32))).run Tryd.prog w = .ok (.map (some w.heap.size)) (w.alloc (.map #[] 0)) := by kernel_rfl
theorem mk8 (w : World) : (Instr.makeMap 134 (some (.int .i64 8))).run Tryd.prog w = .ok (.map (some w.heap.size)) (w.alloc (.map #[] 0)) := by kernel_rfl
set_option maxRecDepth 100000 in
theorem fenBoard_any (s : ByteArray) (hsz : s.size ≤ 200) (h128 : ∀ i, i < s.size → bt s i < 128) (hend : opn s s.size < s.size ∨ s.size = 0) (w : World) (hT : TabsP w) (hF : TabsF w) :
    Calls Tryd.prog 65 #[.string s] w fun e w' => FenPost s w e w' := by
  have hm1 := mk32
  have hm2 := mk8
  have hget := get_bt s
  have hsz' : s.size ≤ 9223372036854775807 := by omega
  replace h128 := Lib.hid h128
  replace hT := Lib.hid hT
  replace hF := Lib.hid hF
  have hS0 : FenS w (((w.alloc (.map #[] 0)).alloc (.map #[] 0)).alloc (.cells #[.string ⟨#[]⟩, .string ⟨#[]⟩, .string ⟨#[]⟩, .string ⟨#[]⟩, .string ⟨#[]⟩, .string ⟨#[]⟩, .string ⟨#[]⟩, .string ⟨#[]⟩] 135)) (fun _ => ByteArray.empty) (.map []) (.map []) 0 0 := by
    refine ⟨(((World.ownsMap_made w _ _ _).alloc _).alloc _), ?_, ?_, (((Below.refl _ _).alloc (Nat.le_refl _) _).alloc (by simp) _).alloc (by simp; omega) _⟩
    · have := (World.ownsMap_made (H := Unit) (w.alloc (.map #[] 0)) Tryd.prog tFile (plainElem Tryd.prog tPc)).alloc (.cells #[.string ⟨#[]⟩, .string ⟨#[]⟩, .string ⟨#[]⟩, .string ⟨#[]⟩, .string ⟨#[]⟩, .string ⟨#[]⟩, .string ⟨#[]⟩, .string ⟨#[]⟩] 135)
      rwa [World.size_alloc] at this
    · have := World.rowIs_alloc ((w.alloc (.map #[] 0)).alloc (.map #[] 0)) #[.string ⟨#[]⟩, .string ⟨#[]⟩, .string ⟨#[]⟩, .string ⟨#[]⟩, .string ⟨#[]⟩, .string ⟨#[]⟩, .string ⟨#[]⟩, .string ⟨#[]⟩] 135 (fun _ => .string ByteArray.empty) (fun i hi => by
        have : i = 0 ∨ i = 1 ∨ i = 2 ∨ i = 3 ∨ i = 4 ∨ i = 5 ∨ i = 6 ∨ i = 7 := by simp at hi; omega
        rcases this with rfl | rfl | rfl | rfl | rfl | rfl | rfl | rfl <;> rfl)
      rw [World.size_alloc, World.size_alloc] at this
      exact this
  go_enter Tryd.func65, Tryd.ntmps65
  go_wp2_with (first
    | (go_at_call 89; refine (clearFile_any (w.heap.size + 1) 0 _ w4 hS1.ownf isMap_empty).mono ?_; rintro e w5 ⟨rfl, ⟨Df, hf1, hf2, hf3⟩, hg5⟩; have hS2 := hS1.onF hg5 hf1)
    | (go_at_call 88; refine (clearSq_any w.heap.size 0 _ _ hS0.own isMap_empty).mono ?_; rintro e w4 ⟨rfl, ⟨D, hm1', hm2', hm3'⟩, hg4⟩; have hS1 := hS0.onM hg4 hm1'))
  clear hS0 hS1 hg4 hg5 hm1 hm2
  have hP0 := PMap.none hm2' hm3'
  have hF0 := FMap.empty hf2 hf3
  clear hm1' hm2' hm3' hf1 hf2 hf3
  go_loopw [7, 8, 23] (fun rc st i wr => ∃ k : Nat, k ≤ s.size ∧ i = .int .i64 k ∧ rc = .int .i64 ((cuts s k).length : Nat) ∧ st = .int .i64 (opn s k : Nat) ∧ (cuts s k).length ≤ 8 ∧ FenS w wr (fun j => (cuts s k).getD j ByteArray.empty) D Df 0 0) (fun _ _ i _ => s.size - (intOf i).toNat)
  case atStart => exact ⟨0, by omega, rfl, rfl, rfl, by simp [cuts], hS2.congr fun j _ => by simp [cuts]⟩
  case round =>
    clear hS2
    obtain ⟨k, hk, rfl, rfl, rfl, hcl, hS⟩ := hrel
    by_cases hlt : k < s.size
    · have h0 := bt_nonneg s k
      have hol := opn_le s k
      have hgk := hget k hlt
      have hc1 : cuts s (k + 1) = if bt s k = 47 then cuts s k ++ [s.extract (opn s k) k] else cuts s k := rfl
      have ho1 : opn s (k + 1) = if bt s k = 47 then k + 1 else opn s k := rfl
      have hmono := Lib.hid (cuts_mono s (k := k + 1) s.size (by omega))
      clear hget
      generalize bt s k = c at *
      by_cases hc : c = 47
      · rw [if_pos hc] at hc1 ho1
        have hce : (c == 47) = true := by simp [hc]
        replace hc := Lib.hid hc
        by_cases h8 : (cuts s k).length < 8
        · have hd8 : decide ((8 : Int) ≤ ((cuts s k).length : Nat)) = false := by simp; omega
          have hcell := hS.buf.cell (i := (cuts s k).length) (by omega)
          have hfz := hS.buf.frozen (cuts s k).length
          have hS' := (hS.onB (cuts s k).length (s.extract (opn s k) k)).congr (bufs' := fun j => (cuts s (k + 1)).getD j ByteArray.empty) fun j _ => by
            rw [hc1]
            simp only [List.getD_eq_getElem?_getD, List.getElem?_append]
            by_cases e : j = (cuts s k).length
            · subst e; simp
            · by_cases e2 : j < (cuts s k).length
              · simp [e, e2]
              · have : j - (cuts s k).length ≠ 0 := by omega
                simp [e, e2, List.getElem?_eq_none (show (cuts s k).length ≤ j by omega), this]
          have hlen : (cuts s (k + 1)).length = (cuts s k).length + 1 := by rw [hc1]; simp
          replace hS' := Lib.hid hS'
          replace hlen := Lib.hid hlen
          replace ho1 := Lib.hid ho1
          clear hc1 hS
          generalize (cuts s k).length = rc at *
          generalize opn s k = st at *
          go_wp2
          go_roundw
          case rel => exact ⟨k + 1, by omega, by go_num, by rw [hlen.out]; go_num, by rw [ho1.out]; go_num, by have := hlen.out; omega, hS'.out⟩
          case measure => simp [intOf]; omega
        · have hd8 : decide ((8 : Int) ≤ ((cuts s k).length : Nat)) = true := by simp; omega
          have hR : readOk s = false := readOk_false_len (by
            have h1 := hmono.out
            have h2 : (cuts s (k + 1)).length = (cuts s k).length + 1 := by rw [hc1]; simp
            unfold partsB
            simp only [List.length_append, List.length_cons, List.length_nil]
            omega)
          have hB := Lib.hid hS.below
          replace hR := Lib.hid hR
          clear hc1 ho1 hS hmono
          generalize (cuts s k).length = rc at *
          generalize opn s k = st at *
          go_wp2
          go_ret2
          exact .inr ⟨hR.out, ⟨_, rfl⟩, hB.out.alloc hB.out.size _⟩
      · rw [if_neg hc] at hc1 ho1
        have hce : (c == 47) = false := by simp [hc]
        replace hc1 := Lib.hid hc1
        replace ho1 := Lib.hid ho1
        replace hS := Lib.hid hS
        clear hc hmono
        go_wp2
        go_roundw
        case rel => exact ⟨k + 1, by omega, by go_num, by rw [hc1.out], by rw [ho1.out], by rw [hc1.out]; exact hcl, hS.out.congr fun j _ => by rw [hc1.out]⟩
        case measure => simp [intOf]; omega
    · obtain rfl : k = s.size := by omega
      have hpl : (partsB s).length = (cuts s s.size).length + 1 := by unfold partsB; simp
      by_cases he : opn s s.size < s.size
      · by_cases h8 : (cuts s s.size).length = 8
        · have hd8 : decide ((8 : Int) ≤ ((cuts s s.size).length : Nat)) = true := by simp; omega
          have hde : decide (((opn s s.size : Nat) : Int) < (s.size : Int)) = true := by simp; omega
          have hR := Lib.hid (readOk_false_len (s := s) (by omega))
          have hB := Lib.hid hS.below
          clear hS hget h8 hpl
          generalize (cuts s s.size).length = rc at *
          generalize opn s s.size = st at *
          go_wp2
          go_ret2
          exact .inr ⟨hR.out, ⟨_, rfl⟩, hB.out.alloc hB.out.size _⟩
        · have hd8 : decide ((8 : Int) ≤ ((cuts s s.size).length : Nat)) = false := by simp; omega
          have hde : decide (((opn s s.size : Nat) : Int) < (s.size : Int)) = true := by simp; omega
          have hol := opn_le s s.size
          have hrc : (cuts s s.size).length < 8 := by omega
          have hcell := hS.buf.cell (i := (cuts s s.size).length) (by omega)
          have hfz := hS.buf.frozen (cuts s s.size).length
          have hS' := (hS.onB (cuts s s.size).length (s.extract (opn s s.size) s.size)).congr (bufs' := fun j => partAt s j) fun j _ => by
            unfold partAt partsB
            simp only [List.getD_eq_getElem?_getD, List.getElem?_append]
            by_cases e : j = (cuts s s.size).length
            · subst e; simp
            · by_cases e2 : j < (cuts s s.size).length
              · simp [e, e2]
              · have : j - (cuts s s.size).length ≠ 0 := by omega
                simp [e, e2, List.getElem?_eq_none (show (cuts s s.size).length ≤ j by omega), this]
          replace hS' := Lib.hid hS'
          clear hS hget
          by_cases h7 : (cuts s s.size).length = 7
          · have hd7 : (((cuts s s.size).length : Nat) : Int) + 1 = 8 := by omega
            replace hpl := Lib.hid (show (partsB s).length = 8 by omega)
            rw [h7] at hcell hfz hS'
            rw [h7]
            rw [show ((7 : Nat) : Int) = 7 from rfl]
            clear h8 hcl hd8 h7 hd7 hrc
            generalize opn s s.size = st at *
            go_wp2_with (fail)
            have hSb := hS'.out
            clear hS' hcell hfz
            generalize (wr.setCell ⟨w.heap.size + 2, 7, none⟩ (.string (s.extract st s.size))) = w6 at hSb ⊢
            clear hlt hk hde hol he hend
            go_loopw [61] (fun i wr => ∃ (k n nf : Nat) (D Df : DataW Unit), k ≤ 8 ∧ i = .int .i64 k ∧ FenS w wr (fun j => partAt s j) D Df n nf ∧ n ≤ 2000 * k ∧ nf ≤ 200 * k ∧ PMap D (fenV s k) ∧ IsMap Df ∧ ∀ j, j < k → rOk (partAt s j) = true) (fun i _ => 8 - (intOf i).toNat)
            case atStart => exact ⟨0, 0, 0, D, Df, by omega, rfl, hSb, by omega, by omega, hP0.congr fun q _ => by simp [fenV], hF0.isMap, fun j hj => absurd hj (by omega)⟩
            case round =>
              clear hSb hP0 hF0
              obtain ⟨k, n, nf, D1, Df1, hk, rfl, hS, hn, hnf, hP, hDf, hall⟩ := hrel
              replace hall := Lib.hid hall
              replace hpl := hpl
              by_cases hlt : k < 8
              · have e1 : IntKind.i8.wrap (7 - (k : Int)) = 7 - (k : Int) := IntWalk.i8_in _ (by omega)
                have hdk : decide ((k : Int) < 8) = true := by simp; omega
                obtain ⟨hz, h128p⟩ := part_facts s h128.out k
                have hclr := Lib.hid (clearFile_any (w.heap.size + 1) nf Df1 wr hS.ownf hDf)
                have hTab : ∀ v, Below w.heap.size w v → TabsF v := fun v hb => hF.out.below hb
                have hg6 : 6 < w.heap.size := block_lt_of_cell (hF.out.tab 0 (by omega))
                have hfr := Lib.hid fun (v : World) (D0 : DataW Unit) (h : v.ownsMap Tryd.prog tFile (plainElem Tryd.prog tPc) (w.heap.size + 1) nf D0) (h0 : FMap D0 fun _ => 0) (hv : Below w.heap.size w v) => fenFormRank_any (partAt s k) (by omega) h128p (w.heap.size + 1) nf (by omega) D0 v h h0 (hTab v hv) (by omega)
                clear hDf h128p hTab
                by_cases hok : rOk (partAt s k) = true
                · go_wp2_with (first
                    | (at_range; refine wpList_range_own _ rfl _ tFMap rfl tFile tPc (int_keyed Tryd.underlying133) Tryd.underlying134 _ (w.heap.size + 1) n8 _ rfl ho8 ?_; intro w9 hrg9 hg9 hs9)
                    | (go_at_call 90; refine (hfr.out w7 Dc hc1 (FMap.empty hc2 hc3) hS7.below).mono ?_; rintro e w8 ⟨hg8, n8, D8, ho8, hn8, hor⟩; obtain ⟨rfl, hF8⟩ := (show e = .returned .nilIface ∧ FMap D8 (rRow (partAt s k)) from hor.elim (fun h => h.2) (fun h => absurd hok (by rw [h.1]; simp))))
                    | (go_at_call 89; refine hclr.out.mono ?_; rintro e w7 ⟨rfl, ⟨Dc, hc1, hc2, hc3⟩, hg7⟩; have hS7 := hS.onF hg7 hc1; have hcell := hS7.buf.cell (i := k) (by omega)))
                  go_frame
                  have hsz8 := ownsMap_size ho8
                  have hS8 := hS7.onF hg8 ho8
                  have hS9 := hS8.fresh hg9
                  have hz8 : w.heap.size + 2 < w8.heap.size := hS8.buf.lt
                  have hs9' : w8.heap.size < w9.heap.size := hrg9.lt
                  have hokk := Lib.hid hok
                  have hpiece := Lib.hid fun t (ht : t < 8) => hF8.has t ht
                  clear hS hclr hfr hg7 hg8 hg9 hs9 ho8 hS7 hS8 hc1 hc2 hc3 hok hcell e1
                  go_loopw [13, 14] (fun _ _ ws => ∃ (left : Lit → Bool) (c n2 : Nat) (D2 : DataW Unit), ws.ranges Tryd.prog tFile (plainElem Tryd.prog tPc) (w.heap.size + 1) w8.heap.size n8 D8 left c ∧ (∀ kl, left kl = true → Maps.has D8 kl = true) ∧ n2 + c ≤ n + Maps.size D8 ∧ FenS w ws (fun j => partAt s j) D2 D8 n2 n8 ∧ PMap D2 (trV s k left) ∧ w8.heap.size < ws.heap.size)
                    (fun _ _ ws => ws.rangeLeft (w.heap.size + 1) w8.heap.size)
                  case atStart => exact ⟨_, _, n, D1, hrg9, fun _ h => h, Nat.le_refl _, hS9, hP.congr fun q _ => trV_start hF8 q, hs9'⟩
                  case round =>
                    clear hrg9 hS9 hP hs9'
                    obtain ⟨left, c, n2, D2, hrg, hleft, hnc, hS, hP, hws⟩ := hrel
                    replace hleft := Lib.hid hleft
                    go_wp2_with (at_next; refine wpList_next_ranges_ii _ rfl _ rfl tFile tPc .i8 .i8 (int_keyed Tryd.underlying133) Tryd.underlying133 Tryd.underlying67 (w.heap.size + 1) w8.heap.size n8 _ _ _ rfl hrg ?_ ?_)
                    · intro _ hl0
                      have hP' := hP.congr fun q _ => trV_end (s := s) (k := k) hl0 q
                      have hm := hF8.isMap
                      have hall' : ∀ j, j < k + 1 → rOk (partAt s j) = true := fun j hj => by
                        by_cases e : j = k
                        · subst e; exact hokk.out
                        · exact hall.out j (by omega)
                      replace hall' := Lib.hid hall'
                      clear hl0 hP hrg hF8
                      go_wp2
                      go_roundw
                      case rel => exact ⟨k + 1, n2, n8, D2, D8, by omega, by go_num, hS, by omega, by omega, hP', hm, hall'.out⟩
                      case measure => simp [intOf]; omega
                    · intro x y w10 c10 hwx hwy hlx hat hrg10 hlt10 hg10 hs10 hen
                      obtain ⟨t, ht, hxt⟩ := hF8.key _ (hleft.out _ hlx)
                      obtain rfl : x = (t : Int) := by simp only [keySq, Lit.int.injEq, true_and] at hxt; exact hxt
                      have hrt : rRow (partAt s k) t ≠ 0 := by
                        have h1 := hpiece.out t ht; have h2 : Maps.has D8 (keySq t) = true := hleft.out _ hlx; rw [h2] at h1; simpa using h1.symm
                      obtain rfl : y = rRow (partAt s k) t := by
                        have := (hat (.lit (.int .i8 0))).symm.trans (hF8.at_ t ht hrt _)
                        simp only [DataW.lit.injEq, Lit.int.injEq, true_and] at this
                        exact this
                      have hput := (hP.put (8 * (7 - k) + t) (by omega) (rRow (partAt s k) t) hrt).congr fun q hq => trV_step ht hlt q hq
                      have hS10 : FenS w w10 (fun j => partAt s j) D2 D8 n2 n8 := ⟨hS.own.kept hg10 (by intro e; have := Option.some.inj e; omega), hrg10.owns, rowIs_grown hS.buf hg10 (by intro e; have := Option.some.inj e; omega), hS.turn hg10 (by omega)⟩
                      have hleft' : ∀ kl, (left kl && !kl.sameKey (.int .i8 (t : Int))) = true → Maps.has D8 kl = true := fun kl h => hleft.out kl (by simp only [Bool.and_eq_true] at h; exact h.1)
                      have hkey : ((8 * (7 - k) + t : Nat) : Int) = 8 * (7 - (k : Int)) + (t : Int) := by omega
                      have hwk := Lib.hid (show (Lit.int .i8 (8 * (7 - (k : Int)) + (t : Int))).wf = true from wf_i8 (by omega) (by omega))
                      have hput' : PMap (D2.put (.int .i8 (8 * (7 - (k : Int)) + (t : Int))) (.lit (.int .i8 (rRow (partAt s k) t)))) (trV s k (fun z => left z && !z.sameKey (.int .i8 (t : Int)))) := by
                        rw [← hkey]; exact hput
                      have hwy' := Lib.hid hwy
                      replace hput' := Lib.hid hput'
                      replace hleft' := Lib.hid hleft'
                      have hn2 : n2 ≤ 100000 := by omega
                      clear hput hP hat hwx hwy hlx hS hrt hxt hkey
                      generalize rRow (partAt s k) t = pc at *
                      go_wp2_with (first
                        | (go_at_call 87; refine (newSquare_any _ _ (by omega) (by omega) (by omega) (by omega) _).mono ?_; rintro e w' ⟨rfl, rfl⟩)
                        | (at_mapUpdate; refine wpList_mapUpdate_own _ rfl _ _ _ tMap rfl tSq tPc (int_keyed Tryd.underlying57) Tryd.underlying92 _ w.heap.size n2 _ rfl hS10.own (by unfold maxLen; omega) _ _ _ rfl rfl (keyOf_int_mk Tryd.underlying57 hwk.out) _ [] (plainElem_int Tryd.underlying67 hwy'.out) ?_; intro w11 hown11 hg11; go_frame))
                      have hrg11 := hrg10.kept hg11 (by intro e; have := Option.some.inj e; omega) (by intro e; have := Option.some.inj e; omega)
                      go_roundw
                      case rel => exact ⟨_, c10, n2 + 1, _, hrg11, hleft'.out, by omega, hS10.onM hg11 hown11, hput'.out, by have := hg11.size; omega⟩
                      case measure => rw [hrg11.left_eq, hrg.left_eq]; exact hlt10
                · have hok' : rOk (partAt s k) = false := by simpa using hok
                  have hR := Lib.hid (readOk_false_at hlt hok')
                  replace hok' := Lib.hid hok'
                  clear hok hP
                  go_wp2_with (first
                    | (go_at_call 90; refine (hfr.out w7 Dc hc1 (FMap.empty hc2 hc3) hS7.below).mono ?_; rintro e w8 ⟨hg8, n8, D8, ho8, hn8, ⟨hbad, _⟩ | ⟨_, g, rfl⟩⟩; exact absurd hbad (by rw [hok'.out]; simp))
                    | (go_at_call 89; refine hclr.out.mono ?_; rintro e w7 ⟨rfl, ⟨Dc, hc1, hc2, hc3⟩, hg7⟩; have hS7 := hS.onF hg7 hc1; have hcell := hS7.buf.cell (i := k) (by omega)))
                  go_ret2
                  exact .inr ⟨hR.out, ⟨_, rfl⟩, hS7.turn hg8 (by omega)⟩
              · obtain rfl : k = 8 := by omega
                have hok : readOk s = true := by
                  unfold readOk
                  rw [hpl.out, List.all_eq_true.2 fun i hi => hall.out i (List.mem_range.1 hi)]
                  rfl
                have hnb := Lib.hid (newBoard_any w.heap.size n (readBd s) wr (mapIs_of hS.own (hP.congr fun q _ => by unfold fenV; rw [if_pos (by omega)])) (hT.out.below hS.below))
                have hB := Lib.hid hS.below
                replace hok := Lib.hid hok
                clear hP hDf hS
                go_wp2_with (go_at_call 62; refine hnb.out.mono ?_; rintro e w7 ⟨rfl, hr7, hb7⟩)
                go_ret2
                exact .inl ⟨hok.out, ⟨_, rfl, hB.out.size, hr7⟩, hB.out.trans (hb7.mono hB.out.size)⟩
          · have hd7 : ((((cuts s s.size).length : Nat) : Int) + 1 != 8) = true := by simp; omega
            have hR := Lib.hid (readOk_false_len (s := s) (by omega))
            clear h8 hpl h7
            generalize (cuts s s.size).length = rc at *
            generalize opn s s.size = st at *
            go_wp2
            go_ret2
            exact .inr ⟨hR.out, ⟨_, rfl⟩, hS'.out.below.alloc hS'.out.below.size _⟩
      · have hz : s.size = 0 := by omega
        have hR := Lib.hid (readOk_false_len (s := s) (by have := cuts_le s s.size; omega))
        have h0 : (cuts s s.size).length = 0 := by have := cuts_le s s.size; omega
        have hde : decide (((opn s s.size : Nat) : Int) < (s.size : Int)) = false := by simp; omega
        have hB := Lib.hid hS.below
        rw [h0]
        clear hS hget hpl h0 hz hend
        generalize opn s s.size = st at *
        go_wp2
        go_ret2
        exact .inr ⟨hR.out, ⟨_, rfl⟩, hB.out.alloc hB.out.size _⟩
end Go.Proofs.YtnlicbhelnocpaaDoor
