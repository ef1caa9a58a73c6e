/- Plain boards and the package's: contracts of impl.board and impl.plainBoard. -/
import Derived.Test.YthdbgjhonnogpaaDoorNewBoard
namespace Go.Proofs.YthdbgjhonnogpaaDoor
open Go.ChangeShapes Go.WideShapes Go.ChangeAt Go.RowKit Plain
set_option maxHeartbeats 4000000
set_option linter.unusedVariables false
set_option linter.unusedSimpArgs false

theorem run_index64 (f : Nat → Int) (k : Nat) (hk : k < 64) (w : World) : (Instr.index 22 (.agg (rowArr 64 fun i => .int .i64 (f i))) (.int .i64 (k : Int))).run Tryd.prog w = .ok (.int .i64 (f k)) w := by
  have h1 : (0 : Int) ≤ k ∧ (k : Int) < 64 := by omega
  have hu : (underlying 22).run Tryd.prog w = .ok (.array 64 3) w := run_underlying Tryd.underlying22 w
  have hs : (sizeOf 3).run Tryd.prog w = .ok 1 w := by kernel_rfl
  have ha : (isAgg 3).run Tryd.prog w = .ok false w := by kernel_rfl
  have hg : (rowArr 64 fun i => Value.int .i64 (f i))[k]? = some (.int .i64 (f k)) := rowArr_get 64 _ k hk
  unfold Instr.index
  simp only [Sem.run_bind, asIntOf, Sem.run_pure, Result.andThen_ok, hu]
  simp [h1, hs, part, ha, hg, Sem.run_bind, Sem.run_pure]

/-- The list of pieces is none of a map's block. -/
theorem tabsP_grown {w w' : World} {bm n : Nat} {v : Nat → Int} (h : TabsP w) (hg : w.grownBy w' (some bm)) (hlt : bm < w.heap.size) (hm : mapIs w bm n v) : TabsP w' := by
  obtain ⟨b, o, h1, h2⟩ := h
  obtain ⟨D, ⟨es, c, hb, _⟩, _⟩ := hm
  have key : ∀ {a : Addr} {x : Value}, w.cell? a = some x → w'.cell? a = some x := fun {a x} ha => hg.cell ha (by
    intro e
    have e : a.block = bm := Option.some.inj e
    rw [World.cell?, e, hb] at ha
    simp at ha)
  exact ⟨b, o, key h1, fun i hi => key (h2 i hi)⟩
def bdStep (bd : Nat → Int) (k : Nat) (j : Nat) : Int := if j < k then bd j else 0
def BoardPost (v : Nat → Int) (w : World) (e : Ending) (w' : World) : Prop :=
  ∃ g, e = .returned (.pointer (some ⟨g, 0, none⟩)) ∧ w.heap.size ≤ g ∧ w'.rowIs g tBoard 17 (calcRow (bbsOf v) 64) ∧ Below w.heap.size w w'
set_option maxRecDepth 100000 in
theorem board_any (bd : Nat → Int) (hbd : ∀ i, i < 64 → 0 ≤ bd i ∧ bd i ≤ 12) (w : World) (hT : TabsP w) :
    Calls Tryd.prog 37 #[intRow 64 bd] w fun e w' => BoardPost bd w e w' := by
  have hmm := @run_makeMap Tryd.prog
  have hix := run_index64 bd
  have hrow := rowIs_new w 22 64 (fun i => .int .i64 (bd i))
  unfold intRow
  have hrow2 := hrow.alloc (.map #[] 0)
  have hT2 := hT.below (((Below.refl _ _).alloc (Nat.le_refl _) (.cells (rowArr 64 fun i => .int .i64 (bd i)) 22)).alloc (by simp) (.map #[] 0))
  have hB2 : Below w.heap.size w ((w.alloc (.cells (rowArr 64 fun i => .int .i64 (bd i)) 22)).alloc (.map #[] 0)) := ((Below.refl _ _).alloc (Nat.le_refl _) _).alloc (by simp) _
  have hm2 : mapIs ((w.alloc (.cells (rowArr 64 fun i => .int .i64 (bd i)) 22)).alloc (.map #[] 0)) (w.heap.size + 1) 0 (bdStep bd 0) := by
    have := mapIs_made (w.alloc (.cells (rowArr 64 fun i => .int .i64 (bd i)) 22))
    simpa using mapIs_congr this fun s _ => by simp [bdStep]
  clear hrow hT
  go_enter Tryd.func37, Tryd.ntmps37
  go_wp2_with (refine wpList_load_row rfl 22 _ rfl w.heap.size rfl _ _ (0, 0) _ (rowIs_block hrow2) Tryd.underlying22 rfl (by rw [rowArr_size]; kernel_rfl) ?_)
  generalize ((w.alloc (.cells (rowArr 64 fun i => .int .i64 (bd i)) 22)).alloc (.map #[] 0)) = w2 at *
  clear hrow2
  go_loopw [8] (fun i wr => ∃ k n : Nat, k ≤ 64 ∧ n ≤ k ∧ i = .int .i64 k ∧ mapIs wr (w.heap.size + 1) n (bdStep bd k) ∧ Below w.heap.size w wr ∧ TabsP wr) (fun i _ => 64 - (intOf i).toNat)
  case atStart => exact ⟨0, 0, by omega, by omega, rfl, hm2, hB2, hT2⟩
  case round =>
    clear hm2 hB2 hT2
    obtain ⟨k, n, hk, hn, rfl, hm, hb, hT⟩ := hrel
    by_cases hlt : k < 64
    · have hbk := hbd k hlt
      have hixk := hix k hlt
      by_cases hp : bd k = 0
      · have hm' := mapIs_congr hm (u := bdStep bd (k + 1)) fun s _ => by unfold bdStep; by_cases e : s = k; (subst e; simp [hp]); (have : (s < k + 1) = (s < k) := (by simp only [eq_iff_iff]; omega); simp [this])
        have hnp : ¬ 0 < bd k := by omega
        clear hm hix hp
        go_wp2
        exact ⟨⟨k + 1, n, by omega, by omega, by go_num, hm', hb, hT⟩, by simp [intOf]; omega⟩
      · have hnp : 0 < bd k := by omega
        have e1 : IntKind.i8.wrap (k : Int) = (k : Int) := IntWalk.i8_in _ (by omega)
        have e2 : IntKind.i8.wrap (bd k) = bd k := IntWalk.i8_in _ (by omega)
        clear hix hp
        go_wp2_with (at_mapUpdate; refine wpList_storeSq _ rfl _ _ _ rfl (w.heap.size + 1) n _ rfl hm (by omega) k hlt rfl (bd k) (by omega) (by omega) rfl ?_; intro w3 hm3 hg3)
        have hm' := mapIs_congr hm3 (u := bdStep bd (k + 1)) fun s _ => by unfold bdStep; by_cases e : s = k; (subst e; simp); (have : (s < k + 1) = (s < k) := (by simp only [eq_iff_iff]; omega); simp [this, e])
        exact ⟨⟨k + 1, n + 1, by omega, by omega, by go_num, hm', hb.grown hg3 hb.size (by intro r hr; cases hr; omega), tabsP_grown hT hg3 (mapIs_lt hm) hm⟩, by simp [intOf]; omega⟩
    · obtain rfl : k = 64 := by omega
      have hm' := mapIs_congr hm (u := bd) fun s hs => by unfold bdStep; rw [if_pos hs]
      have hcall := newBoard_any (w.heap.size + 1) n bd wr hm' hT
      have hcall := Lib.hid hcall
      clear hix hm hm' hT
      go_wp2_with (go_at_call 52; refine hcall.out.mono ?_; rintro e w' ⟨rfl, hr2, hg2⟩)
      go_ret
      exact ⟨_, rfl, hb.size, hr2, hb.trans (hg2.mono hb.size)⟩

def zero64 : Array Value := #[.int .i64 0, .int .i64 0, .int .i64 0, .int .i64 0, .int .i64 0, .int .i64 0, .int .i64 0, .int .i64 0, .int .i64 0, .int .i64 0, .int .i64 0, .int .i64 0, .int .i64 0, .int .i64 0, .int .i64 0, .int .i64 0, .int .i64 0, .int .i64 0, .int .i64 0, .int .i64 0, .int .i64 0, .int .i64 0, .int .i64 0, .int .i64 0, .int .i64 0, .int .i64 0, .int .i64 0, .int .i64 0, .int .i64 0, .int .i64 0, .int .i64 0, .int .i64 0, .int .i64 0, .int .i64 0, .int .i64 0, .int .i64 0, .int .i64 0, .int .i64 0, .int .i64 0, .int .i64 0, .int .i64 0, .int .i64 0, .int .i64 0, .int .i64 0, .int .i64 0, .int .i64 0, .int .i64 0, .int .i64 0, .int .i64 0, .int .i64 0, .int .i64 0, .int .i64 0, .int .i64 0, .int .i64 0, .int .i64 0, .int .i64 0, .int .i64 0, .int .i64 0, .int .i64 0, .int .i64 0, .int .i64 0, .int .i64 0, .int .i64 0, .int .i64 0]
theorem zeroRow : zero64 = rowArr 64 fun _ => .int .i64 0 := by kernel_rfl
theorem info64 : (Tryd.prog.info? 22).map (·.size) = some 64 := by kernel_rfl
end Go.Proofs.YthdbgjhonnogpaaDoor
