/- What an engine tells of itself: the reference, the program, and that they agree. -/
import Derived.Test.YtkbbncobgmepbaaWords
import Derived.Test.YtkbbncobgmepbaaLayJ
import Derived.Shelf.Strings.OnBuilder
import Derived.StillTailTactics
import Derived.Deep.RegionHeld3
import Derived.Deep.QuietTactic
import Derived.BigQuiet
namespace Go.Proofs.Ytkbbncobgmepbaa
open Go.ChangeShapes Go.WideShapes Go.ChangeAt Go.RowKit Go.PlainAid
set_option maxHeartbeats 1000000
set_option linter.unusedVariables false
set_option linter.unusedSimpArgs false
attribute [local go_sem] tx_list tx_size

def idT : List UInt8 := [105, 100]
def wordAt (L : List UInt8) (i : Nat) : List UInt8 := (splitB L).getD i []
/-- That a text begins with the word id and has three words. -/
def specIs (L : List UInt8) : Bool := wordAt L 0 == idT && decide (3 ≤ (splitB L).length)
def progIs (L : List UInt8) : Bool := L.take 2 == idT && decide (3 ≤ (splitB L).length)
theorem id_head {L : List UInt8} (h : L.take 2 = idT) (h2 : 2 < L.length → L.getD 2 0 = 32) : wordAt L 0 = idT := by
  unfold wordAt
  by_cases hl : 2 < L.length
  · have hb := first_blank (l := L) (k := 2) hl (by rw [h]; simp [NoB, idT]) (h2 hl)
    rw [hb, h, splitB_app idT _ (by simp [NoB, idT])]; rfl
  · have : L = idT := by rw [← h, List.take_of_length_le (by omega)]
    rw [this]; rfl
theorem head_id {L : List UInt8} (h : wordAt L 0 = idT) : L.take 2 = idT := by
  obtain ⟨x, r, e⟩ := splitB_ne L
  have hj := join_splitB L
  unfold wordAt at h
  rw [e] at h hj
  have hx : x = idT := h
  rw [← hj, Lib.join_cons, hx]; rfl
theorem is_eq {L : List UInt8} (h : L.take 2 = idT → 2 < L.length → L.getD 2 0 = 32) : progIs L = specIs L := by
  unfold progIs specIs
  by_cases hp : L.take 2 = idT
  · rw [id_head hp (h hp), hp]
  · have : ¬ wordAt L 0 = idT := fun e => hp (head_id e)
    rw [beq_eq_false_iff_ne.2 hp, beq_eq_false_iff_ne.2 this]
theorem value_eq {L : List UInt8} (h : specIs L = true) : Lib.join ((splitB L).drop 2) [32] = L.drop (4 + (wordAt L 1).length) ∧ 4 + (wordAt L 1).length ≤ L.length := by
  unfold specIs at h
  simp only [Bool.and_eq_true, beq_iff_eq, decide_eq_true_eq] at h
  obtain ⟨h1, h2⟩ := h
  unfold wordAt at h1 ⊢
  have hj := join_splitB L
  match e : splitB L, h2 with
  | a :: b :: c :: r, _ =>
    rw [e] at h1 hj
    have ha : a = idT := h1
    subst ha
    have hl : L = idT ++ ([32] ++ (b ++ ([32] ++ Lib.join (c :: r) [32]))) := by
      rw [← hj, Lib.join_cons, Lib.join_cons]
      simp only [Lib.joinTail, List.map_cons, List.flatten_cons, List.append_assoc]
    constructor
    · show Lib.join (c :: r) [32] = L.drop (4 + b.length)
      have h4 : (idT ++ ([32] ++ (b ++ [32]))).length = 4 + b.length := by simp [idT]; omega
      have h5 : L = (idT ++ ([32] ++ (b ++ [32]))) ++ Lib.join (c :: r) [32] := by rw [hl]; simp
      conv => rhs; rw [h5]
      rw [List.drop_append_of_le_length (by omega), List.drop_eq_nil_of_le (by omega), List.nil_append]
    · show 4 + b.length ≤ L.length
      rw [hl]; simp [idT]; omega
theorem own_strs {w : World} {B : Nat} {t : TypeId} {v : Value} {l : List (List UInt8)} (h : w.ownsRow B t 1 v l.length (strs l)) (hl : 0 < l.length) :
    ∃ g cap, v = .slice (some ⟨g, 0, none⟩) l.length cap ∧ B ≤ g ∧ g < w.heap.size ∧ l.length ≤ cap ∧ ∀ i, i < l.length → w.cell? ⟨g, i, none⟩ = some (.string (tx (l.getD i []))) := by
  obtain ⟨_, h | ⟨g, cap, cur, hv, hB, hg, hc1, hc2, hc3, hc4⟩⟩ := h
  · omega
  · refine ⟨g, cap, hv, hB, ?_, hc1, fun i hi => ?_⟩
    · rcases Nat.lt_or_ge g w.heap.size with h | h
      · exact h
      · rw [Array.getElem?_eq_none h] at hg; cases hg
    · unfold World.cell?
      rw [hg]
      have h1 : (cur.toList.take (l.length * 1))[i]? = (strs l)[i]? := by rw [hc4]
      rw [List.getElem?_take_of_lt (by omega)] at h1
      simp only [strs, List.getElem?_map, List.getElem?_eq_getElem hi, Option.map_some] at h1
      simp [List.getD_eq_getElem?_getD, List.getElem?_eq_getElem hi] at h1 ⊢
      exact h1
theorem split_pos (L : List UInt8) : 0 < (splitB L).length := by
  obtain ⟨x, r, e⟩ := splitB_ne L
  rw [e]; simp
theorem words_open {L : List UInt8} {w w' : World} {e : Ending} (h : WordsPost L w e w') : ∃ g cp, e = .returned (.slice (some ⟨g, 0, none⟩) (splitB L).length cp) ∧ w.heap.size ≤ g ∧ g < w'.heap.size ∧ (splitB L).length ≤ cp ∧ (∀ i, i < (splitB L).length → w'.cell? ⟨g, i, none⟩ = some (.string (tx (wordAt L i)))) ∧ Below w.heap.size w w' := by
  obtain ⟨⟨v, rfl, hown⟩, hb⟩ := h
  obtain ⟨g, cp, rfl, hg, hgl, hcp, hcells⟩ := own_strs hown (split_pos L)
  exact ⟨g, cp, rfl, hg, hgl, hcp, hcells, hb⟩

/-! The reference. -/
def SpecId (L : List UInt8) (e : Ending) : Prop :=
  (specIs L = true ∧ e = .returned (.tuple #[.string (tx (wordAt L 1)), .string (tx (L.drop (4 + (wordAt L 1).length))), .bool true])) ∨
  (specIs L = false ∧ e = .returned (.tuple #[.string ⟨#[]⟩, .string ⟨#[]⟩, .bool false]))
set_option maxRecDepth 100000 in
theorem specId_any (L : List UInt8) (hL : L.length ≤ 400) (w : World) :
    Calls Try.prog 10 #[.string (tx L)] w fun e w' => SpecId L e ∧ Below w.heap.size w w' := by
  have hw := Lib.hid (uciWords_any L (by omega) w)
  have hp := split_pos L
  by_cases h0 : wordAt L 0 = idT
  · by_cases h3 : (splitB L).length < 3
    · have hno : specIs L = false := by unfold specIs; rw [decide_eq_false (by omega), Bool.and_false]
      replace hno := Lib.hid hno
      go_enter Try.func10, Try.ntmps10
      go_wp2_with (go_at_call 15; go_loud (refine hw.out.mono ?_; rintro e w1 hwp; obtain ⟨g, cp, rfl, hg, hgl, hcp, hcells, hb1⟩ := words_open hwp; have hc0 := hcells 0 hp; rw [h0] at hc0; clear hcells hwp))
      first | go_ret2 | go_ret3
      exact ⟨.inr ⟨hno.out, rfl⟩, hb1⟩
    · have hyes : specIs L = true := by unfold specIs; rw [h0, decide_eq_true (by omega)]; rfl
      have hv := value_eq hyes
      have hsz : 4 + (((wordAt L 1).length : Nat) : Int) ≤ (L.length : Int) := by omega
      have hsl := slice_from L (4 + (wordAt L 1).length) (4 + ((wordAt L 1).length : Int)) (by omega) hv.2
      replace hyes := Lib.hid hyes
      clear hv
      go_enter Try.func10, Try.ntmps10
      go_wp2_with (go_at_call 15; go_loud (refine hw.out.mono ?_; rintro e w1 hwp; obtain ⟨g, cp, rfl, hg, hgl, hcp, hcells, hb1⟩ := words_open hwp; have hc0 := hcells 0 hp; have hc1 := hcells 1 (by omega); rw [h0] at hc0; clear hcells hwp))
      have hlt1 : (1 : Int) < ((splitB L).length : Int) := by omega
      clear hw h0 hcp
      generalize (splitB L).length = n at *
      go_quiet (fail)
      go_wp2
      first | go_ret2 | go_ret3
      exact ⟨.inl ⟨hyes.out, rfl⟩, hb1.os, hb1.tape, hb1.output, hb1.size, hb1.block⟩
  · have hno : specIs L = false := by unfold specIs; rw [beq_eq_false_iff_ne.2 h0, Bool.false_and]
    have h0e : (wordAt L 0 == [105, 100]) = false := by rw [beq_eq_false_iff_ne]; exact h0
    replace hno := Lib.hid hno
    go_enter Try.func10, Try.ntmps10
    go_wp2_with (go_at_call 15; go_loud (refine hw.out.mono ?_; rintro e w1 hwp; obtain ⟨g, cp, rfl, hg, hgl, hcp, hcells, hb1⟩ := words_open hwp; have hc0 := hcells 0 hp; clear hcells hwp))
    first | go_ret2 | go_ret3
    exact ⟨.inr ⟨hno.out, rfl⟩, hb1⟩

/-! The program. -/
theorem specIs_iff (L : List UInt8) : specIs L = true ↔ wordAt L 0 = idT ∧ 3 ≤ (splitB L).length := by
  unfold specIs; simp
theorem join_at (L : List UInt8) (hL : L.length ≤ 400) (hy : specIs L = true) (g cp : Nat) (hcp : (splitB L).length ≤ cp) (v : World) (hg : g < v.heap.size) (hcells : ∀ i, i < (splitB L).length → v.cell? ⟨g, i, none⟩ = some (.string (tx (wordAt L i)))) :
    Calls Try.prog 24 #[.slice (some ⟨g, 2, none⟩) ((splitB L).length - 2) (cp - 2), .string ⟨#[32]⟩] v fun e w' => e = .returned (.string (tx (L.drop (4 + (wordAt L 1).length)))) ∧ Below v.heap.size v w' := by
  have hv := value_eq hy
  have h3 := ((specIs_iff L).1 hy).2
  have e1 : (((splitB L).drop 2).map tx).map (fun x => x.data.toList) = (splitB L).drop 2 := by
    rw [List.map_map]
    conv => rhs; rw [← List.map_id ((splitB L).drop 2)]
    rfl
  have e2 : (((splitB L).drop 2).map tx).length = (splitB L).length - 2 := by rw [List.length_map, List.length_drop]
  have hlen := splitB_len L
  have := Any.strings_Join lays_Lays_n156 lays_Builder_Extra g 2 (cp - 2) (((splitB L).drop 2).map tx) ⟨#[32]⟩ v (fun j x hj => by
      rw [List.getElem?_map, List.getElem?_drop] at hj
      have hj2 : 2 + j < (splitB L).length := by
        rcases Nat.lt_or_ge (2 + j) (splitB L).length with h | h
        · exact h
        · rw [List.getElem?_eq_none h] at hj; cases hj
      rw [hcells _ hj2]
      rw [List.getElem?_eq_getElem hj2] at hj
      simp only [Option.map_some, Option.some.injEq] at hj
      rw [← hj]
      unfold wordAt
      rw [List.getD_eq_getElem?_getD, List.getElem?_eq_getElem hj2]; rfl) hg (by rw [e2]; omega) (by rw [e2]; omega) (by rw [e1]; show (Lib.join ((splitB L).drop 2) [32]).length ≤ _; rw [hv.1, List.length_drop]; omega)
  rw [e1, e2] at this
  refine this.mono ?_
  rintro e w' ⟨rfl, hb⟩
  refine ⟨?_, hb⟩
  show Ending.returned (.string (tx (Lib.join ((splitB L).drop 2) [32]))) = _
  rw [hv.1]
def ProgId (L : List UInt8) (e : Ending) : Prop :=
  (specIs L = true ∧ e = .returned (.tuple #[.string (tx (wordAt L 1)), .string (tx (L.drop (4 + (wordAt L 1).length))), .nilIface])) ∨
  (specIs L = false ∧ ∃ a, e = .returned (.tuple #[.string ⟨#[]⟩, .string ⟨#[]⟩, .iface 50 (.pointer (some ⟨a, 0, none⟩))]))
/-- What stands in memory behind the cut. -/
def Cut (L : List UInt8) (w0 : World) (g : Nat) (v : World) : Prop :=
  g < v.heap.size ∧ (∀ i, i < (splitB L).length → v.cell? ⟨g, i, none⟩ = some (.string (tx (wordAt L i)))) ∧ Below w0.heap.size w0 v
theorem Cut.below {L : List UInt8} {w0 v v' : World} {g : Nat} (h : Cut L w0 g v) (hb : Below v.heap.size v v') : Cut L w0 g v' :=
  ⟨Nat.lt_of_lt_of_le h.1 hb.size, fun i hi => by rw [hb.cell (show (⟨g, i, none⟩ : Addr).block < v.heap.size from h.1)]; exact h.2.1 i hi, h.2.2.trans (hb.mono h.2.2.size)⟩
set_option maxRecDepth 100000 in
theorem parseID_yes (L : List UInt8) (hL : L.length ≤ 400) (hyes : specIs L = true) (w : World) :
    Calls Try.prog 21 #[.string (tx L)] w fun e w' => e = .returned (.tuple #[.string (tx (wordAt L 1)), .string (tx (L.drop (4 + (wordAt L 1).length))), .nilIface]) ∧ Below w.heap.size w w' := by
  have hw := Lib.hid (zzSplit_any L (by omega) w)
  have hp := split_pos L
  have hex : (tx L).extract 0 2 = tx (L.take 2) := extract_take L 2
  have h2 := head_id ((specIs_iff L).1 hyes).1
  have h3 := ((specIs_iff L).1 hyes).2
  have hl2 : 2 ≤ L.length := by
    have := congrArg List.length h2
    rw [List.length_take] at this
    simp [idT] at this; omega
  rw [h2] at hex
  have hjoin := fun g cp hcp v hg hcells => join_at L hL hyes g cp hcp v hg hcells
  replace hjoin := Lib.hid hjoin
  clear hyes h2
  unfold idT at hex
  go_enter Try.func21, Try.ntmps21
  go_wp2_with (first
    | (go_at_call 18; refine hw.out.mono ?_; rintro e w1 hwp; obtain ⟨g, cp, rfl, hg, hgl, hcp, hcells, hb1⟩ := words_open hwp; clear hwp)
    | go_in)
  have h : Cut L w g w1 := ⟨hgl, hcells, hb1⟩
  have hd : ∀ v : World, Cut L w g v → Cut L w g v.drew := fun v h => h.below ⟨rfl, rfl, rfl, Nat.le_refl _, fun _ _ => rfl⟩
  have h3' : (2 : Int) ≤ ((splitB L).length : Int) := by omega
  have h3'' : (1 : Int) < ((splitB L).length : Int) := by omega
  have hcp2 : ¬ cp = 2 := by omega
  clear hcells hb1 hgl hw
  refine wp_region_held_drew (S := Cut L w g) (by kernel_rfl) (hd _ h) (fun hHeld => ?_)
  clear h
  (refine wpAnyH_take (i := 0) (v := ?_) rfl (by kernel_rfl) (by kernel_rfl) (by kernel_rfl) (fun _ _ _ h => h) (Or.inl ⟨by rfl, ?_⟩) (by assumption) ?_; rotate_left; · (intro w hSw; go_simp; try with_reducible rfl)); try simp only [List.getElem_toArray, List.getElem_cons_succ, List.getElem_cons_zero, Act.put, List.setIfInBounds_toArray, List.set_cons_zero, List.set_cons_succ]
  (refine wpAnyH_take (i := 1) (v := ?_) rfl (by kernel_rfl) (by kernel_rfl) (by kernel_rfl) (fun _ _ _ h => h) (Or.inl ⟨by rfl, ?_⟩) (by assumption) ?_; rotate_left; · (intro w hSw; go_simp; try with_reducible rfl)); try simp only [List.getElem_toArray, List.getElem_cons_succ, List.getElem_cons_zero, Act.put, List.setIfInBounds_toArray, List.set_cons_zero, List.set_cons_succ]
  refine wpAnyH_take (i := 2) (v := ?_) rfl (by kernel_rfl) (by kernel_rfl) (by kernel_rfl) (fun _ _ _ h => h) (Or.inl ⟨by rfl, ?_⟩) (by assumption) ?_
  rotate_left
  · (intro w hSw; have hF := hSw.2.1 1 (by omega); go_simp; try with_reducible rfl)
  try simp only [List.getElem_toArray, List.getElem_cons_succ, List.getElem_cons_zero, Act.put, List.setIfInBounds_toArray, List.set_cons_zero, List.set_cons_succ]
  (refine wpAnyH_take (i := 3) (v := ?_) rfl (by kernel_rfl) (by kernel_rfl) (by kernel_rfl) (fun _ _ _ h => h) (Or.inl ⟨by rfl, ?_⟩) (by assumption) ?_; rotate_left; · (intro w hSw; go_simp; try with_reducible rfl)); try simp only [List.getElem_toArray, List.getElem_cons_succ, List.getElem_cons_zero, Act.put, List.setIfInBounds_toArray, List.set_cons_zero, List.set_cons_succ]
  (refine wpAnyH_take (i := 4) (v := ?_) rfl (by kernel_rfl) (by kernel_rfl) (by kernel_rfl) (fun _ _ _ h => h) (Or.inl ⟨by rfl, ?_⟩) (by assumption) ?_; rotate_left; · (intro w hSw; go_simp; try with_reducible rfl)); try simp only [List.getElem_toArray, List.getElem_cons_succ, List.getElem_cons_zero, Act.put, List.setIfInBounds_toArray, List.set_cons_zero, List.set_cons_succ]
  refine wpAnyH_ready (rs := [5]) (by kernel_rfl) (by simp) ?_
  refine AllReadyH.cons rfl (fun K hK => ?_) AllReadyH.nil
  go_simp
  refine (hjoin.out g cp hcp _ hHeld.1 hHeld.2.1).mono ?_
  rintro e w7 ⟨rfl, hb7⟩
  refine hK.out _ _ (hHeld.below hb7) (fun hHeld => ?_)
  clear hK K
  try simp only [List.getElem_toArray, List.getElem_cons_succ, List.getElem_cons_zero, Act.put, List.setIfInBounds_toArray, List.set_cons_zero, List.set_cons_succ]
  (refine wpAnyH_take (i := 6) (v := ?_) rfl (by kernel_rfl) (by kernel_rfl) (by kernel_rfl) (fun _ _ _ h => h) (Or.inl ⟨by rfl, ?_⟩) (by assumption) ?_; rotate_left; · (intro w hSw; go_simp; try with_reducible rfl)); try simp only [List.getElem_toArray, List.getElem_cons_succ, List.getElem_cons_zero, Act.put, List.setIfInBounds_toArray, List.set_cons_zero, List.set_cons_succ]
  (refine wpAnyH_take (i := 7) (v := ?_) rfl (by kernel_rfl) (by kernel_rfl) (by kernel_rfl) (fun _ _ _ h => h) (Or.inl ⟨by rfl, ?_⟩) (by assumption) ?_; rotate_left; · (intro w hSw; go_simp; try with_reducible rfl)); try simp only [List.getElem_toArray, List.getElem_cons_succ, List.getElem_cons_zero, Act.put, List.setIfInBounds_toArray, List.set_cons_zero, List.set_cons_succ]
  (refine wpAnyH_take (i := 8) (v := ?_) rfl (by kernel_rfl) (by kernel_rfl) (by kernel_rfl) (fun _ _ _ h => h) (Or.inl ⟨by rfl, ?_⟩) (by assumption) ?_; rotate_left; · (intro w hSw; go_simp; try with_reducible rfl)); try simp only [List.getElem_toArray, List.getElem_cons_succ, List.getElem_cons_zero, Act.put, List.setIfInBounds_toArray, List.set_cons_zero, List.set_cons_succ]
  refine wpAnyH_done (by kernel_rfl) ?_ _
  have h := hHeld
  clear hHeld
  go_wp2_with (fail)
  first | go_ret2 | go_ret3
  exact ⟨rfl, h.2.2⟩
set_option maxRecDepth 100000 in
theorem parseID_any (L : List UInt8) (hL : L.length ≤ 400) (hA : L.take 2 = idT → 2 < L.length → L.getD 2 0 = 32) (w : World) :
    Calls Try.prog 21 #[.string (tx L)] w fun e w' => ProgId L e ∧ Below w.heap.size w w' := by
  have hw := Lib.hid (zzSplit_any L (by omega) w)
  have hpe := is_eq hA
  have hp := split_pos L
  have hex : (tx L).extract 0 2 = tx (L.take 2) := extract_take L 2
  by_cases h2 : L.take 2 = idT
  · have hl2 : 2 ≤ L.length := by
      have := congrArg List.length h2
      rw [List.length_take] at this
      simp [idT] at this; omega
    rw [h2] at hex
    by_cases h3 : (splitB L).length < 3
    · have hno : specIs L = false := by unfold specIs; rw [decide_eq_false (by omega), Bool.and_false]
      replace hno := Lib.hid hno
      clear hpe
      replace h2 := Lib.hid h2
      unfold idT at hex
      go_enter Try.func21, Try.ntmps21
      go_wp2_with (first
        | (go_at_call 18; refine hw.out.mono ?_; rintro e w1 hwp; obtain ⟨g, cp, rfl, hg, hgl, hcp, hcells, hb1⟩ := words_open hwp; clear hcells hwp)
        | go_in)
      first | go_ret2 | go_ret3
      exact ⟨.inr ⟨hno.out, _, rfl⟩, hb1.alloc hb1.size _⟩
    · exact (parseID_yes L hL (by rw [specIs_iff]; exact ⟨id_head h2 (hA h2), by omega⟩) w).mono fun e w' h => ⟨.inl ⟨by rw [specIs_iff]; exact ⟨id_head h2 (hA h2), by omega⟩, h.1⟩, h.2⟩
  · have hno : specIs L = false := by rw [← hpe]; unfold progIs; rw [beq_eq_false_iff_ne.2 h2, Bool.false_and]
    have hce : (L.take 2 == [105, 100]) = false := beq_eq_false_iff_ne.2 h2
    replace hno := Lib.hid hno
    clear hpe h2
    generalize L.take 2 = x at *
    by_cases hl2 : 2 ≤ L.length
    all_goals
      go_enter Try.func21, Try.ntmps21
      go_wp2_with go_in
      first | go_ret2 | go_ret3
      exact ⟨.inr ⟨hno.out, _, rfl⟩, (Below.refl _ _).alloc (Nat.le_refl _) _⟩
end Go.Proofs.Ytkbbncobgmepbaa
