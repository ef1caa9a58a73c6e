/- Reading an option: the program's UnmarshalText at the text of an option. -/
import Derived.Test.YtkbbncobgmepbaaOptPlain
import Derived.Test.YtkbbncobgmepbaaIdRead
import Derived.Maps.Range
namespace Go.Proofs.Ytkbbncobgmepbaa
open Go.ChangeShapes Go.WideShapes Go.ChangeAt Go.RowKit Go.PlainAid
set_option maxHeartbeats 1000000
set_option linter.unusedVariables false
set_option linter.unusedSimpArgs false
attribute [local go_sem] tx_list tx_size

/-- The option's own block behind some pairs. -/
def OptB (g base : Nat) (ps : List (Nat × List UInt8)) (w0 w : World) : Prop :=
  (∃ v, w.rowIs g 37 6 (fun j => if j = 5 then v else .string (tx (stF ps j))) ∧ w.ownsRow base 9 1 v (stV ps).length (strs (stV ps))) ∧ w0.grownBy w (some g)
theorem grown_set (w : World) (g i : Nat) (v : Value) : w.grownBy (w.setCell ⟨g, i, none⟩ v) (some g) :=
  ⟨rfl, rfl, rfl, by simp, fun k hk hne => by rw [Below.heap_setCell _ _ _ _ (by intro e; exact hne (by rw [e]))]⟩
theorem OptB.put {g B : Nat} {ps : List (Nat × List UInt8)} {w0 w : World} (h : OptB g B ps w0 w) (hg : g < B) {k : Nat} (hk : k < 5) (x : List UInt8) : OptB g B (ps ++ [(k, x)]) w0 (w.setCell ⟨g, k, none⟩ (.string (tx x))) := by
  obtain ⟨⟨v, hr, ho⟩, hgr⟩ := h
  refine ⟨⟨v, (hr.set k _).congr fun j hj => ?_, ?_⟩, hgr.andThen (grown_set w g k _) (fun j hj => .inr hj)⟩
  · by_cases e : j = k
    · subst e; rw [if_pos rfl, if_neg (by omega), stF_app, if_pos rfl]
    · rw [if_neg e]
      by_cases e5 : j = 5
      · rw [if_pos e5, if_pos e5]
      · rw [if_neg e5, if_neg e5, stF_app, if_neg (show ¬ j = k from e)]
  · rw [stV_app, if_neg (show ¬ k = 5 by omega)]
    exact ho.kept (grown_set w g k _) (.inr fun e => by have := (ho.lt g e).1; omega)
theorem OptB.app {g B : Nat} {ps : List (Nat × List UInt8)} {w0 w w2 : World} (h : OptB g B ps w0 w) (hg : g < B) (hB : B ≤ w.heap.size) (h0 : w0.heap.size ≤ B) {v' : Value} (x : List UInt8) (hb : Below B w w2) (ho : w2.ownsRow B 9 1 v' (stV ps ++ [x]).length (strs (stV ps ++ [x]))) : OptB g B (ps ++ [(5, x)]) w0 (w2.setCell ⟨g, 5, none⟩ v') := by
  obtain ⟨⟨v, hr, _⟩, hgr⟩ := h
  refine ⟨⟨v', ((rowIs_below hr hb hg).set 5 _).congr fun j hj => ?_, ?_⟩, ?_⟩
  · by_cases e : j = 5
    · subst e; rw [if_pos rfl, if_pos rfl]
    · rw [if_neg e, if_neg e, if_neg e, stF_app, if_neg (show ¬ j = 5 from e)]
  · rw [stV_app, if_pos rfl]
    exact ho.kept (grown_set w2 g 5 _) (.inr fun e => by have := (ho.lt g e).1; omega)
  · refine World.grownBy.andThen (b' := w2) (row' := some g) ?_ (grown_set w2 g 5 _) (fun j hj => .inr hj)
    exact ⟨hb.os.trans hgr.os, hb.tape.trans hgr.tape, hb.output.trans hgr.output, Nat.le_trans hgr.size hb.size, fun k hk hne => (hb.block k (by omega)).trans (hgr.block k hk hne)⟩
theorem OptB.below {g B : Nat} {ps : List (Nat × List UInt8)} {w0 w w2 : World} (h : OptB g B ps w0 w) (hb : Below w.heap.size w w2) : OptB g B ps w0 w2 := by
  obtain ⟨⟨v, hr, ho⟩, hgr⟩ := h
  have hk : w.grownBy w2 none := ⟨hb.os, hb.tape, hb.output, hb.size, fun k hk _ => hb.block k hk⟩
  exact ⟨⟨v, rowIs_below hr hb hr.lt, ho.kept hk (by cases v.ownBlock <;> simp)⟩, hgr.andThen hk (fun j hj => by cases hj)⟩
theorem own_slice {w : World} {B : Nat} {t : TypeId} {n m : Nat} {v : Value} {xs : List Value} (h : w.ownsRow B t n v m xs) : ∃ a k c, v = .slice a k c := by
  obtain ⟨_, ⟨rfl, _⟩ | ⟨g, cap, cur, rfl, _⟩⟩ := h
  · exact ⟨_, _, _, rfl⟩
  · exact ⟨_, _, _, rfl⟩
theorem keyK_ne (k : Nat) (hk : k ≤ 5) : (keyK k).isEmpty = false := by
  have : k = 0 ∨ k = 1 ∨ k = 2 ∨ k = 3 ∨ k = 4 ∨ k = 5 := by omega
  rcases this with rfl | rfl | rfl | rfl | rfl | rfl <;> rfl
theorem typeT_no (i : Nat) (hi : i < 5) : (typeT i == [110, 111, 116, 121, 112, 101]) = false := by
  have : i = 0 ∨ i = 1 ∨ i = 2 ∨ i = 3 ∨ i = 4 := by omega
  rcases this with rfl | rfl | rfl | rfl | rfl <;> rfl
theorem owns_mono {w : World} {B B' : Nat} {t : TypeId} {n m : Nat} {v : Value} {xs : List Value} (h : w.ownsRow B t n v m xs) (hb : B' ≤ B) : w.ownsRow B' t n v m xs := by
  obtain ⟨h1, h | ⟨g, cap, cur, h2, h3, h4⟩⟩ := h
  · exact ⟨h1, .inl h⟩
  · exact ⟨h1, .inr ⟨g, cap, cur, h2, by omega, h4⟩⟩
/-- The loop's place: between two pairs, or behind a pair's key. -/
def OptAtQ (ps : List (Nat × List UInt8)) (k q : Nat) (ref : Value) : Prop :=
  (k = 1 + 2 * q ∧ ref = .string ⟨#[]⟩) ∨ (k = 2 + 2 * q ∧ q < ps.length ∧ ref = .string (tx (keyK (ps.getD q (0, [])).1)))
theorem stV_go : ∀ (ps : List (Nat × List UInt8)) (V : List (List UInt8)), (ps.foldl (fun V p => if p.1 = 5 then V ++ [p.2] else V) V).length ≤ V.length + ps.length
  | [], V => by simp
  | p :: ps, V => by
    have ih := stV_go ps (if p.1 = 5 then V ++ [p.2] else V)
    have : (if p.1 = 5 then V ++ [p.2] else V).length ≤ V.length + 1 := by split <;> simp
    simp only [List.foldl_cons, List.length_cons]
    omega
theorem stV_len (ps : List (Nat × List UInt8)) : (stV ps).length ≤ ps.length := by have := stV_go ps []; simpa [stV] using this
theorem infoOpt : (Try.prog.info? 37).map (·.size) = some 6 := by kernel_rfl
set_option maxRecDepth 100000 in
theorem unmOpt_any (f : Nat → List UInt8) (l : List (List UInt8)) (hok : OptOk f l) (hno : ∀ i, i < 5 → NoB (f i)) (hnl : ∀ i, i < l.length → NoB (l.getD i [])) (hf0 : f 0 ≠ []) (ti : Nat) (hti : ti < 5) (hf1 : f 1 = typeT ti) (g : Nat) (v : Value) (w : World)
    (hg : w.rowIs g 37 6 (fun j => if j = 5 then .slice none 0 0 else .string ⟨#[]⟩))
    (hconv : (convert 41 9 v).run Try.prog (w.setCell ⟨g, 1, none⟩ (.string ⟨#[110, 111, 116, 121, 112, 101]⟩)) = .ok (.string (tx (endT f l l.length))) (w.setCell ⟨g, 1, none⟩ (.string ⟨#[110, 111, 116, 121, 112, 101]⟩))) :
    Calls Try.prog 14 #[.pointer (some ⟨g, 0, none⟩), v] w fun e w' => e = .returned .nilIface ∧ OptB g w.heap.size (endP f l l.length) w w' := by
  have hc1 : w.cell? ⟨g, 1, none⟩ = some (.string ⟨#[]⟩) := hg.cell (i := 1) (by omega)
  have hfz := hg.frozen 1
  have hlen := endT_len hok l.length (Nat.le_refl _)
  have hfew := hok.few
  have hspl : splitB (endT f l l.length) = optionW :: flat (endP f l l.length) := by rw [split_endT hno hnl l.length (Nat.le_refl _), endW_flat]
  have hzz := fun w => zzSplit_any (endT f l l.length) (by omega) w
  have hB0 : (w.setCell ⟨g, 1, none⟩ (.string ⟨#[110, 111, 116, 121, 112, 101]⟩)).rowIs g 37 6 (fun j => if j = 5 then .slice none 0 0 else .string (tx (stF [] j))) := by
    refine (hg.set 1 (.string ⟨#[110, 111, 116, 121, 112, 101]⟩)).congr fun j hj => ?_
    have : j = 0 ∨ j = 1 ∨ j = 2 ∨ j = 3 ∨ j = 4 ∨ j = 5 := by omega
    rcases this with rfl | rfl | rfl | rfl | rfl | rfl <;> rfl
  have hW : ∀ i, wordAt (endT f l l.length) i = (optionW :: flat (endP f l l.length)).getD i [] := fun i => by unfold wordAt; rw [hspl]
  have hW0 : wordAt (endT f l l.length) 0 = [111, 112, 116, 105, 111, 110] := by rw [hW]; rfl
  have hn : (splitB (endT f l l.length)).length = 1 + 2 * (endP f l l.length).length := by rw [hspl, List.length_cons, flat_len]; omega
  replace hW := Lib.hid hW
  have hz1 : ((((splitB (endT f l l.length)).length : Nat) : Int) == 0) = false := by rw [hn]; simp; omega
  have hz2 : 0 < (splitB (endT f l l.length)).length := by omega
  replace hn := Lib.hid hn
  replace hW0 := Lib.hid hW0
  replace hzz := Lib.hid hzz
  replace hspl := Lib.hid hspl
  replace hB0 := Lib.hid hB0
  generalize endT f l l.length = L at *
  go_enter Try.func14, Try.ntmps14
  go_wp2_with (go_at_call 18; refine (hzz.out _).mono ?_; rintro e w1 hwp; obtain ⟨gp, cp, rfl, hgp, hgl, hcp, hcells, hb1⟩ := words_open hwp; have hc0 := hcells 0 (split_pos L); rw [hW0.out] at hc0; replace hcells := Lib.hid hcells; clear hwp)
  have hB1 : OptB g w1.heap.size ((endP f l l.length).take 0) w1 w1 :=
    ⟨⟨.slice none 0 0, rowIs_below hB0.out hb1 hB0.out.lt, World.ownsRow_nil _ _ _ _⟩, rfl, rfl, rfl, Nat.le_refl _, fun _ _ _ => rfl⟩
  have hG1 : w.grownBy w1 (some g) := (grown_set w g 1 (.string ⟨#[110, 111, 116, 121, 112, 101]⟩)).andThen (row' := none) ⟨hb1.os, hb1.tape, hb1.output, hb1.size, fun k hk _ => hb1.block k hk⟩ (fun _ e => by cases e)
  replace hG1 := Lib.hid hG1
  have hgw : g < w.heap.size := hg.lt
  have hnb : (splitB L).length ≤ 10000 := by have := splitB_len L; omega
  have hgp2 : w.heap.size ≤ gp := by simpa using hgp
  have hcl := hcells.out
  have hwd : ∀ wr : World, w1.grownBy wr (some g) → ∀ i, i < (splitB L).length → wr.cell? ⟨gp, i, none⟩ = some (.string (tx ((optionW :: flat (endP f l l.length)).getD i []))) := fun wr hgr i hi => by
    rw [← hW.out i]
    exact hgr.cell (hcl i hi) (by intro e; have : gp = g := (by simpa using e); omega)
  have hkind := endP_kind f l l.length
  have hfl : ∀ q, q < (endP f l l.length).length → (optionW :: flat (endP f l l.length)).getD (1 + 2 * q) [] = keyK ((endP f l l.length).getD q (0, [])).1 ∧ (optionW :: flat (endP f l l.length)).getD (2 + 2 * q) [] = ((endP f l l.length).getD q (0, [])).2 := fun q hq => by
    have := flat_key (endP f l l.length) q hq
    rw [show 1 + 2 * q = 2 * q + 1 by omega, show 2 + 2 * q = (2 * q + 1) + 1 by omega]
    exact this
  have htk : ∀ q, q < (endP f l l.length).length → (endP f l l.length).take (q + 1) = (endP f l l.length).take q ++ [(endP f l l.length).getD q (0, [])] := fun q hq => take_pair hq
  have hps : (endP f l l.length).length ≤ 1000 := by have := splitB_len L; have := hn.out; omega
  have hvl : ∀ q, (stV ((endP f l l.length).take q)).length ≤ 1000 := fun q => by
    have := stV_len ((endP f l l.length).take q); have := List.length_take_le' q (endP f l l.length); omega
  have hF := stF_end f l l.length
  have hV := stV_end f l l.length (Nat.le_refl _)
  have hf0e : (f 0).isEmpty = false := by simpa using hf0
  replace hwd := Lib.hid hwd
  replace hkind := Lib.hid hkind
  replace hfl := Lib.hid hfl
  replace htk := Lib.hid htk
  replace hF := Lib.hid hF
  replace hV := Lib.hid hV
  replace hvl := Lib.hid hvl
  replace hf1 := Lib.hid hf1
  clear hcl hcells hc0 hW hW0 hzz hconv hspl hB0 hc1 hfz
  generalize hpe : endP f l l.length = ps at *
  replace hpe := Lib.hid hpe
  go_loopw [6, 7, 8, 9, 10] (fun ref i _ _ _ wr => ∃ k q : Nat, k ≤ (splitB L).length ∧ i = .int .i64 k ∧ q ≤ ps.length ∧ OptB g w1.heap.size (ps.take q) w1 wr ∧ OptAtQ ps k q ref) (fun _ i _ _ _ _ => (splitB L).length - (intOf i).toNat)
  case atStart => exact ⟨1, 0, by omega, rfl, by omega, hB1, .inl ⟨rfl, rfl⟩⟩
  case round =>
    clear hB1 hb1
    obtain ⟨k, q, hk, rfl, hq, hB, hst⟩ := hrel
    rcases hst with ⟨hkq, rfl⟩ | ⟨hkq, hlt, rfl⟩
    · by_cases hlt : q < ps.length
      · have hkn : k < (splitB L).length := by rw [hn.out]; omega
        have hw := hwd.out wr hB.2 k hkn
        rw [hkq, (hfl.out q hlt).1, ← hkq] at hw
        have hB' := Lib.hid hB
        have hst' := Lib.hid (show OptAtQ ps (k + 1) q (.string (tx (keyK (ps.getD q (0, [])).1))) from .inr ⟨by omega, hlt, rfl⟩)
        clear hB hwd hkq
        generalize tx (keyK (ps.getD q (0, [])).1) = x at *
        go_wp2
        exact ⟨⟨k + 1, q, by omega, by go_num, hq, hB'.out, hst'.out⟩, by simp [intOf]; omega⟩
      · obtain rfl : q = ps.length := by omega
        have hkn : k = (splitB L).length := by rw [hn.out]; omega
        subst hkn
        rw [List.take_of_length_le (Nat.le_refl _)] at hB
        obtain ⟨⟨vv, hr, ho⟩, hgr⟩ := hB
        have c0 := hr.cell (i := 0) (by omega)
        have c1 := hr.cell (i := 1) (by omega)
        rw [if_neg (by omega), hF.out 0 (by omega)] at c0
        rw [if_neg (by omega), hF.out 1 (by omega), hf1.out] at c1
        have hty := typeT_no ti hti
        have hfin := Lib.hid (show OptB g w.heap.size ps w wr from ⟨⟨vv, hr, owns_mono ho (by have := hG1.out.size; omega)⟩, hG1.out.andThen hgr (fun j hj => .inr hj)⟩)
        clear hr ho hgr hwd hkq
        generalize f 0 = f0 at *
        generalize typeT ti = f1 at *
        go_wp2
        go_ret
        exact ⟨rfl, by rw [hpe.out]; exact hfin.out⟩
    · have hkn : k < (splitB L).length := by rw [hn.out]; omega
      have hw := hwd.out wr hB.2 k hkn
      rw [hkq, (hfl.out q hlt).2, ← hkq] at hw
      have hkd := hkind.out (ps.getD q (0, [])) (by rw [List.getD_eq_getElem?_getD, List.getElem?_eq_getElem hlt]; exact List.getElem_mem hlt)
      have htq := htk.out q hlt
      have hlv := hvl.out q
      have hst' := Lib.hid (show OptAtQ ps (k + 1) (q + 1) (.string ⟨#[]⟩) from .inl ⟨by omega, rfl⟩)
      replace htq := Lib.hid htq
      clear hwd hkq
      generalize ps.getD q (0, []) = pr at *
      obtain ⟨kd, x⟩ := pr
      obtain ⟨hkd5, hkd1⟩ := hkd
      have hkd5 : kd ≤ 5 := hkd5
      have hkd1 : kd = 1 → x = f 1 := hkd1
      replace htq : Hid (ps.take (q + 1) = ps.take q ++ [(kd, x)]) := htq
      have hw : wr.cell? ⟨gp, k, none⟩ = some (.string (tx x)) := hw
      have hcell : ∀ i, i < 5 → wr.cell? ⟨g, i, none⟩ = some (.string (tx (stF (ps.take q) i))) := fun i hi => by
        obtain ⟨⟨vv, hr, ho⟩, hgr⟩ := hB
        rw [hr.cell (i := i) (by omega), if_neg (by omega)]
      have hfrz : ∀ i, wr.frozen? ⟨g, i, none⟩ = false := fun i => by
        obtain ⟨⟨vv, hr, ho⟩, hgr⟩ := hB
        exact hr.frozen i
      have hg1 : g < w1.heap.size := by have := hG1.out.size; omega
      have hwr1 := hB.2.size
      replace hB := Lib.hid hB
      replace hcell := Lib.hid hcell
      replace hfrz := Lib.hid hfrz
      replace hkd1 := Lib.hid hkd1
      have hcs : kd = 0 ∨ kd = 1 ∨ kd = 2 ∨ kd = 3 ∨ kd = 4 ∨ kd = 5 := by omega
      rcases hcs with rfl | rfl | rfl | rfl | rfl | rfl
      · have hc := hcell.out 0 (by omega)
        have hz := hfrz.out 0
        have hkk : keyK 0 = [110, 97, 109, 101] := rfl
        clear hcell hfrz hkd1
        generalize stF (ps.take q) 0 = old at *
        go_wp2
        exact ⟨⟨k + 1, q + 1, by omega, by go_num, by omega, by rw [htq.out]; exact hB.out.put hg1 (by omega) _, hst'.out⟩, by simp [intOf]; omega⟩
      · have hc := hcell.out 1 (by omega)
        have hz := hfrz.out 1
        have hkk : keyK 1 = [116, 121, 112, 101] := rfl
        obtain rfl := hkd1.out rfl
        have hty := Lib.hid (fun w => optType_any ti hti w)
        rw [← hf1.out] at hty
        clear hcell hfrz hkd1
        generalize stF (ps.take q) 1 = old at *
        go_wp2_with (go_at_call 20; refine (hty.out _).mono ?_; rintro e w2 ⟨rfl, hb2⟩; have hc2 := (hb2.cell (p := ⟨g, 1, none⟩) (by show g < wr.heap.size; omega)).trans hc; have hz2 := (hb2.frozen (p := ⟨g, 1, none⟩) (by show g < wr.heap.size; omega)).trans hz; have hB2 := Lib.hid (hB.out.below hb2); clear hc hz)
        exact ⟨⟨k + 1, q + 1, by omega, by go_num, by omega, by rw [htq.out]; exact hB2.out.put hg1 (by omega) _, hst'.out⟩, by simp [intOf]; omega⟩
      · have hc := hcell.out 2 (by omega)
        have hz := hfrz.out 2
        have hkk : keyK 2 = [100, 101, 102, 97, 117, 108, 116] := rfl
        clear hcell hfrz hkd1
        generalize stF (ps.take q) 2 = old at *
        go_wp2
        exact ⟨⟨k + 1, q + 1, by omega, by go_num, by omega, by rw [htq.out]; exact hB.out.put hg1 (by omega) _, hst'.out⟩, by simp [intOf]; omega⟩
      · have hc := hcell.out 3 (by omega)
        have hz := hfrz.out 3
        have hkk : keyK 3 = [109, 105, 110] := rfl
        clear hcell hfrz hkd1
        generalize stF (ps.take q) 3 = old at *
        go_wp2
        exact ⟨⟨k + 1, q + 1, by omega, by go_num, by omega, by rw [htq.out]; exact hB.out.put hg1 (by omega) _, hst'.out⟩, by simp [intOf]; omega⟩
      · have hc := hcell.out 4 (by omega)
        have hz := hfrz.out 4
        have hkk : keyK 4 = [109, 97, 120] := rfl
        clear hcell hfrz hkd1
        generalize stF (ps.take q) 4 = old at *
        go_wp2
        exact ⟨⟨k + 1, q + 1, by omega, by go_num, by omega, by rw [htq.out]; exact hB.out.put hg1 (by omega) _, hst'.out⟩, by simp [intOf]; omega⟩
      · have hkk : keyK 5 = [118, 97, 114] := rfl
        have hB' := hB.out
        obtain ⟨⟨vv, hr, ho⟩, hgr⟩ := hB'
        have hc := hr.cell (i := 5) (by omega)
        rw [if_pos rfl] at hc
        clear hcell hkd1 hfrz
        replace hr := Lib.hid hr
        replace hgr := Lib.hid hgr
        generalize hVe : stV (ps.take q) = V at *
        replace hVe := Lib.hid hVe
        go_wp2_with (at_builtin; refine wpList_app rfl _ _ 22 rfl w1.heap.size 9 (.string ByteArray.empty) 1 16 Try.underlying22 infoStr rfl (by decide) vv V.length (strs V) rfl ho (Below.refl _ wr) hwr1 [.string (tx x)] (one_str _) rfl _ rfl rfl (by omega) (by decide) ?_; intro v' w2 hown2 hb2 hnil; obtain ⟨av, kv, cv, rfl⟩ := own_slice hown2; have hr2 := rowIs_below hr.out hb2 hg1; have hc2 := hr2.cell (i := 5) (by omega); rw [if_pos rfl] at hc2; have hz2 := hr2.frozen 5; replace hr2 := Lib.hid hr2; have hown3 := Lib.hid (app_strs hown2); clear hown2 hnil hc ho)
        exact ⟨⟨k + 1, q + 1, by omega, by go_num, by omega, by rw [htq.out]; exact hB.out.app hg1 hwr1 (Nat.le_refl _) x hb2 (by rw [hVe.out]; exact hown3.out), hst'.out⟩, by simp [intOf]; omega⟩
end Go.Proofs.Ytkbbncobgmepbaa
