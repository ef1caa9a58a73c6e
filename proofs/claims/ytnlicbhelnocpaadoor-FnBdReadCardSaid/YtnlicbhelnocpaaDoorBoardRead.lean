/- The wrapper impl.BoardRead. -/
import Derived.Test.YtnlicbhelnocpaaDoorFen1
import Derived.Laws.IdiomStrings
import Derived.Lib.ConvBytes
import Derived.Test.YtnlicbhelnocpaaDoorEqArr
import Derived.Test.YtnlicbhelnocpaaDoorBoardOf
namespace Go.Proofs.YtnlicbhelnocpaaDoor
open Go.ChangeShapes Go.WideShapes Go.ChangeAt Go.RowKit Go.Maps Go.PlainAid
set_option maxHeartbeats 1000000
set_option linter.unusedVariables false
set_option linter.unusedSimpArgs false

theorem infoBoard : (Tryd.prog.info? 59).map (·.size) = some 17 := by kernel_rfl
theorem board_oneCell (bb : Nat → BitVec 64) (n : Nat) : (rowArr 17 (calcRow bb n)).all (·.oneCell') = true := by
  rw [Array.all_eq_true_iff_forall_mem]
  intro v hv
  simp only [rowArr, List.mem_toArray, List.mem_map] at hv
  obtain ⟨i, _, rfl⟩ := hv
  unfold calcRow cellB
  split
  · rfl
  · split <;> rfl
def UnmPost (s : ByteArray) (g : Nat) (w0 : World) (e : Ending) (w' : World) : Prop :=
  (readOk s = true ∧ e = .returned .nilIface ∧ w'.rowIs g tBoard 17 (calcRow (bbsOf (readBd s)) 64) ∧ w0.grownBy w' (some g)) ∨ (readOk s = false ∧ (∃ a, e = .returned (.iface 111 (.pointer (some ⟨a, 0, none⟩)))) ∧ w0.grownBy w' (some g))
theorem grown_setRow {w wr : World} {g : Nat} (h : w.grownBy wr (some g)) (cs : Array Value) : w.grownBy (wr.setRow g cs) (some g) :=
  ⟨h.os, h.tape, h.output, by have := h.size; simpa using this, fun k hk hne => by rw [setRow_other wr g k cs (fun e => hne (by rw [e]))]; exact h.block k hk hne⟩
set_option maxRecDepth 100000 in
theorem unmarshalText_any (s : ByteArray) (hsz : s.size ≤ 200) (h128 : ∀ i, i < s.size → bt s i < 128) (hend : opn s s.size < s.size ∨ s.size = 0) (g : Nat) (v : Value) (w w0 : World) (hg : w.rowIs g tBoard 17 zeroB) (hT : TabsP w) (hF : TabsF w)
    (hconv : ∀ w', Below w.heap.size w w' → (convert 22 9 v).run Tryd.prog w' = .ok (.string s) w') (h0 : w0.grownBy w (some g)) :
    Calls Tryd.prog 44 #[.pointer (some ⟨g, 0, none⟩), v] w fun e w' =>
UnmPost s g w0 e w' := by
  have hcv := hconv w (Below.refl _ _)
  have hfen := Lib.hid (fenBoard_any s hsz h128 hend w hT hF)
  clear hconv hT hF h128 hend
  rcases (show readOk s = false ∨ readOk s = true by cases readOk s <;> simp) with hok | hok
  · replace hok := Lib.hid hok
    go_enter Tryd.func44, Tryd.ntmps44
    go_wp2_with (go_at_call 65; refine hfen.out.mono ?_; rintro e w1 hor; obtain ⟨⟨a, rfl⟩, hb⟩ := (show FenErr w e w1 from hor.elim (fun h => absurd (hok.out.symm.trans h.1) (by simp)) (fun h => h.2)))
    go_ret
    exact .inr ⟨hok.out, ⟨_, rfl⟩, h0.andThen (row' := none) ⟨hb.os, hb.tape, hb.output, hb.size, fun k hk _ => hb.block k hk⟩ (fun _ e => by cases e)⟩
  · replace hok := Lib.hid hok
    go_enter Tryd.func44, Tryd.ntmps44
    go_wp2_with (first
      | (go_at_call 65; refine hfen.out.mono ?_; rintro e w1 hor; obtain ⟨⟨gb, rfl, hgb, hr⟩, hb⟩ := (hor.elim (fun h => h.2) (fun h => absurd (hok.out.symm.trans h.1) (by simp)) : (∃ g, e = .returned (.tuple #[.pointer (some ⟨g, 0, none⟩), .nilIface]) ∧ w.heap.size ≤ g ∧ w1.rowIs g tBoard 17 (calcRow (bbsOf (readBd s)) 64)) ∧ Below w.heap.size w w1); have hrg := rowIs_below hg hb hg.lt)
      | (refine wpList_load_row rfl 59 _ rfl gb rfl _ _ (0, 0) _ (rowIs_block hr) Tryd.underlying59 rfl (by rw [infoBoard, rowArr_size]) ?_)
      | (refine wpList_store_row rfl 59 _ _ rfl g _ rfl rfl _ _ (rowIs_block hrg) (by rw [infoBoard, rowArr_size]) (by rw [rowArr_size, rowArr_size]) (board_oneCell _ _) ?_))
    go_ret
    exact .inl ⟨hok.out, rfl, rowIs_setRow hrg _, grown_setRow (h0.andThen (row' := none) ⟨hb.os, hb.tape, hb.output, hb.size, fun k hk _ => hb.block k hk⟩ (fun _ e => by cases e)) _⟩
theorem rowB_range (b : Nat → Int) (j : Nat) : ∀ k, 0 ≤ rowB b k j ∧ rowB b k j ≤ 12
  | 0 => by simp [rowB]
  | k + 1 => by
    unfold rowB
    split
    · exact kindB_range _
    · exact rowB_range b j k
theorem readBd_range (s : ByteArray) (q : Nat) : 0 ≤ readBd s q ∧ readBd s q ≤ 12 := rowB_range _ _ _
theorem below_bytes (w : World) (s : ByteArray) : Below w.heap.size w (Lib.bytesWorld w 5 s) := by
  refine ⟨?_, ?_, ?_, by rw [Lib.bytesWorld_size]; omega, fun k hk => Lib.bytesWorld_at_old _ _ _ k hk⟩
  all_goals (unfold Lib.bytesWorld World.freeze; split <;> rfl)
theorem bytes_back {w w' : World} (s : ByteArray) (hb : Below (Lib.bytesWorld w 5 s).heap.size (Lib.bytesWorld w 5 s) w') (cap : Nat) :
    (convert 22 9 (.slice (some ⟨w.heap.size, 0, none⟩) s.size cap)).run Tryd.prog w' = .ok (.string s) w' := by
  have hl : s.data.toList.length = s.size := by simp
  have := run_convert_bytes_back (P := Tryd.prog) w' 22 9 5 ⟨w.heap.size, 0, none⟩ cap s.data.toList Tryd.underlying22 Tryd.underlying5 Tryd.underlying9 (fun j hj => by
    have hj' : j < s.size := hl ▸ hj
    rw [show (⟨w.heap.size, 0, none⟩ : Addr).add j = ⟨w.heap.size, j, none⟩ from by unfold Addr.add; split <;> simp_all, hb.cell (by rw [Lib.bytesWorld_size]; exact Nat.lt_succ_self _), Lib.bytesWorld_cell _ _ _ _ hj']
    simp [List.getD, hj'])
  rw [hl] at this
  simpa using this
theorem clo_BoardRead (p0 p1 : Addr) (w : World) :
    CallsD Tryd.prog 43 #[.pointer (some p0), .pointer (some p1)] .returning w fun e u' w' => e = .returned (.tuple #[]) ∧ u' = .returning ∧ w' = w := by
  refine callsD_of_wpS Tryd.func43 rfl fun c₀ cs hu => ?_
  apply wpS_seq
  apply wpS_region
  simp [wpOpsS, go_sem, recoverD, hu, Tryd.ntmps43, Exit.thenS]
  refine wpS_cond (t := false) (by simp [Act.eval, Array.replicate]) ?_
  simp only [Bool.false_eq_true, if_false]
  refine wpS_of_wp (wp_skip ?_)
  cases c₀
  simp_all [bodyPostS, results, Tryd.results43]

set_option maxHeartbeats 2000000 in
set_option maxRecDepth 100000 in
theorem implBoardRead_any (s : ByteArray) (hsz : s.size ≤ 200) (h128 : ∀ i, i < s.size → bt s i < 128) (hend : opn s s.size < s.size ∨ s.size = 0) (w : World) (hT : TabsP w) (hF : TabsF w) :
    Calls Tryd.prog 17 #[.string s] w fun e w' => ((readOk s = true ∧ e = .returned (.tuple #[intRow 64 (readBd s), .bool true])) ∨ (readOk s = false ∧ ∃ v : Nat → Int, e = .returned (.tuple #[intRow 64 v, .bool false]))) ∧ Below w.heap.size w w' := by
  have hmf := mkf Tryd.prog
  have hcb := fun w => Go.Lib.run_convert_string_bytes (P := Tryd.prog) w 9 22 5 s Tryd.underlying9 Tryd.underlying22 Tryd.underlying5
  obtain ⟨hs, hr1, hc, hb⟩ := resW_facts w
  have hbB : Below (resW w).heap.size (resW w) ((resW w).alloc (.cells zeroCells tBoard)) := (Below.refl _ _).alloc (Nat.le_refl _) _
  have hbC := below_bytes ((resW w).alloc (.cells zeroCells tBoard)) s
  have hbD : Below (resW w).heap.size (resW w) (Lib.bytesWorld ((resW w).alloc (.cells zeroCells tBoard)) 5 s) := hbB.trans (hbC.mono (by simp))
  have hs3 : (Lib.bytesWorld ((resW w).alloc (.cells zeroCells tBoard)) 5 s).heap.size = w.heap.size + 4 := by rw [Lib.bytesWorld_size]; simp [hs]
  have hT1 := hT.below hb
  have hun := unmarshalText_any s hsz h128 hend (w.heap.size + 1 + 1) (.slice (some ⟨((resW w).alloc (.cells zeroCells tBoard)).heap.size, 0, none⟩) s.size (grownCap ((resW w).alloc (.cells zeroCells tBoard)) s.size 0 5)) _ _ (rowIs_below (by have := rowZero (resW w); rwa [hs] at this) hbC (by simp [hs])) (hT1.below hbD) ((hF.below hb).below hbD) (fun w' h => bytes_back s h _) (World.grownBy.refl _ _)
  rw [show ((resW w).alloc (.cells zeroCells tBoard)).heap.size = w.heap.size + 1 + 1 + 1 by simp [hs]] at hun
  replace hun := Lib.hid hun
  have hbX : ∀ w1, (Lib.bytesWorld ((resW w).alloc (.cells zeroCells tBoard)) 5 s).grownBy w1 (some (w.heap.size + 1 + 1)) → Below (resW w).heap.size (resW w) w1 := fun w1 hg4 => hbD.grown hg4 (by have := hbD.size; omega) (by intro r hr; cases hr; omega)
  replace hbX := Lib.hid hbX
  rcases (show readOk s = false ∨ readOk s = true by cases readOk s <;> simp) with hok | hok
  · replace hok := Lib.hid hok
    have hb := Lib.hid hb
    clear hbC hbD hT hF hs3 h128 hend
    go_enter_defers Tryd.func17, Tryd.ntmps17
    go_wp2_with (first
      | (go_at_call 44; refine hun.out.mono ?_; rintro e w1 hor; obtain ⟨⟨a, rfl⟩, hg1⟩ := (show (∃ a, e = .returned (.iface 111 (.pointer (some ⟨a, 0, none⟩)))) ∧ _ from (show UnmPost _ _ _ _ _ from hor).elim (fun h => absurd (hok.out.symm.trans h.1) (by simp)) (fun h => h.2)); have hbA := hbX.out w1 hg1; have hR3 := rowIs_block (rowIs_below hr1 hbA (by omega)); have hR3' := rowIs_below hr1 hbA (by omega); have hc3 := rowIs_below hc hbA (by omega); have hq := (fun cs => (rowIs_setRow_other (b' := w.heap.size) hc3 (by omega) cs).cell (i := 0) (by omega)); have hq2 := (fun cs => (rowIs_setRow_other (b' := w.heap.size) hc3 (by omega) cs).frozen 0))
      | (refine wpList_store_row rfl 23 _ _ rfl w.heap.size _ rfl rfl _ _ hR3 (by rw [info64]; rfl) (by rw [rowArr_size]; rfl) (by kernel_rfl) ?_; change wpList _ _ _ _ _ (w1.setRow w.heap.size zero64); rw [zeroRow]))
    have hfin : ∀ R : Nat → Int, ((w1.setRow w.heap.size (rowArr 64 fun i => .int .i64 (R i))).setCell ⟨w.heap.size + 1, 0, none⟩ (.bool false)).rowIs w.heap.size 23 64 (fun i => .int .i64 (R i)) := fun R =>
      (rowIs_setRow hR3' _).setOther (a := ⟨w.heap.size + 1, 0, none⟩) (by simp) _
    have hcell : ∀ cs, ((w1.setRow w.heap.size cs).setCell ⟨w.heap.size + 1, 0, none⟩ (.bool false)).cell? ⟨w.heap.size + 1, 0, none⟩ = some (.bool false) := fun cs => (rowIs_setRow_other (b' := w.heap.size) hc3 (by omega) cs).set 0 (.bool false) |>.cell (i := 0) (by omega)
    refine leaves_cons (f := 43) (args := #[.pointer (some ⟨w.heap.size, 0, none⟩), .pointer (some ⟨w.heap.size + 1, 0, none⟩)]) (by simp) (by simp [go_sem]) ?_; refine (clo_BoardRead _ _ _).mono ?_; rintro e u' w'' ⟨rfl, rfl, rfl⟩
    have hl := loadRow' (hfin (fun _ => 0))
    have hl2 : ∀ cs, (loadVar 4 ⟨w.heap.size + 1, 0, none⟩).run Tryd.prog ((w1.setRow w.heap.size cs).setCell ⟨w.heap.size + 1, 0, none⟩ (.bool false)) = .ok (.bool false) ((w1.setRow w.heap.size cs).setCell ⟨w.heap.size + 1, 0, none⟩ (.bool false)) := fun cs => by simp [go_sem, hcell]
    simp [Leaves, settle, results, Tryd.results17, asAddr, hl, hl2]
    refine ⟨⟨hok.out, _, rfl⟩, ?_⟩
    exact (below_setRow (hb.out.trans (hbA.mono (by omega))) (by omega) _).setCell (by simp) _
  · replace hok := Lib.hid hok
    have hb := Lib.hid hb
    clear hbC hbD hT hF hs3 h128 hend
    go_enter_defers Tryd.func17, Tryd.ntmps17
    go_wp2_with (first
      | (go_at_call 31; refine (plainBoard_any (w.heap.size + 1 + 1) _ (bbsOf (readBd s)) w1 hr4 (fun j hj => calcRow_low hj) hT4).mono ?_; rintro e w3 ⟨rfl, hb3⟩; have hbA := hbX'.trans (hb3.mono (by have := hbX'.size; omega)); have hR3 := rowIs_block (rowIs_below hr1 hbA (by omega)); have hR3' := rowIs_below hr1 hbA (by omega); have hc3 := rowIs_below hc hbA (by omega); have hq := (fun cs => (rowIs_setRow_other (b' := w.heap.size) hc3 (by omega) cs).cell (i := 0) (by omega)); have hq2 := (fun cs => (rowIs_setRow_other (b' := w.heap.size) hc3 (by omega) cs).frozen 0); unfold intRow)
      | (go_at_call 44; refine hun.out.mono ?_; rintro e w1 hor; obtain ⟨rfl, hr4, hg1⟩ := (show e = .returned .nilIface ∧ _ from (show UnmPost _ _ _ _ _ from hor).elim (fun h => h.2) (fun h => absurd (hok.out.symm.trans h.1) (by simp))); have hbX' := hbX.out w1 hg1; have hT4 := hT1.below hbX')
      | (refine wpList_store_row rfl 23 _ _ rfl w.heap.size _ rfl rfl _ _ hR3 (by rw [info64, rowArr_size]) (by rw [rowArr_size, rowArr_size]) (intRow_one _ _) ?_))
    have hfin : ∀ R : Nat → Int, ((w3.setRow w.heap.size (rowArr 64 fun i => .int .i64 (R i))).setCell ⟨w.heap.size + 1, 0, none⟩ (.bool true)).rowIs w.heap.size 23 64 (fun i => .int .i64 (R i)) := fun R =>
      (rowIs_setRow hR3' _).setOther (a := ⟨w.heap.size + 1, 0, none⟩) (by simp) _
    have hcell : ∀ cs, ((w3.setRow w.heap.size cs).setCell ⟨w.heap.size + 1, 0, none⟩ (.bool true)).cell? ⟨w.heap.size + 1, 0, none⟩ = some (.bool true) := fun cs => (rowIs_setRow_other (b' := w.heap.size) hc3 (by omega) cs).set 0 (.bool true) |>.cell (i := 0) (by omega)
    refine leaves_cons (f := 43) (args := #[.pointer (some ⟨w.heap.size, 0, none⟩), .pointer (some ⟨w.heap.size + 1, 0, none⟩)]) (by simp) (by simp [go_sem]) ?_; refine (clo_BoardRead _ _ _).mono ?_; rintro e u' w'' ⟨rfl, rfl, rfl⟩
    have hl := loadRow' (hfin (pieceAt (bbsOf (readBd s))))
    have hl2 : ∀ cs, (loadVar 4 ⟨w.heap.size + 1, 0, none⟩).run Tryd.prog ((w3.setRow w.heap.size cs).setCell ⟨w.heap.size + 1, 0, none⟩ (.bool true)) = .ok (.bool true) ((w3.setRow w.heap.size cs).setCell ⟨w.heap.size + 1, 0, none⟩ (.bool true)) := fun cs => by simp [go_sem, hcell]
    simp [Leaves, settle, results, Tryd.results17, asAddr, hl, hl2]
    refine ⟨⟨hok.out, ?_⟩, ?_⟩
    · unfold intRow
      refine congrArg _ (rowArr_congr fun i hi => ?_)
      rw [pieceAt_of (readBd s) i hi (readBd_range s i).1 (readBd_range s i).2]
    · exact (below_setRow (hb.out.trans (hbA.mono (by omega))) (by omega) _).setCell (by simp) _
end Go.Proofs.YtnlicbhelnocpaaDoor
