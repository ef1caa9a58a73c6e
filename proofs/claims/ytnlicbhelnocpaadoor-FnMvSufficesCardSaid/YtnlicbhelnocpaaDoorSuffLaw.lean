/- The walk of the law FnMvSuffices. -/
import Derived.Test.YtnlicbhelnocpaaDoorSuff
import Derived.Test.YtnlicbhelnocpaaDoorDead
import Derived.Test.YtnlicbhelnocpaaDoorUnguard
import Derived.Test.YtnlicbhelnocpaaDoorMoved
import Derived.Great.BuildSlice
namespace Go.Proofs.YtnlicbhelnocpaaDoor.Suffices
open Go.ChangeShapes Go.WideShapes Go.ChangeAt Go.RowKit Go.Maps Plain
set_option maxHeartbeats 4000000
set_option linter.unusedVariables false
set_option linter.unusedSimpArgs false

/-! The plain law: what the program makes of the numbers is what the reference makes of them. -/
theorem ptype_kind (x : Int) : ptype x = kindOf x := by unfold ptype kindOf; split <;> split <;> omega
theorem heavy_kind {x : Int} (h : 0 ≤ x ∧ x ≤ 12) : heavyP x = heavyK (kindOf x) := by
  have : x = 0 ∨ x = 1 ∨ x = 2 ∨ x = 3 ∨ x = 4 ∨ x = 5 ∨ x = 6 ∨ x = 7 ∨ x = 8 ∨ x = 9 ∨ x = 10 ∨ x = 11 ∨ x = 12 := by omega
  rcases this with rfl | rfl | rfl | rfl | rfl | rfl | rfl | rfl | rfl | rfl | rfl | rfl | rfl <;> rfl
theorem cnt_add {p q r : Nat → Bool} (h : ∀ i, (p i = true ∧ q i = true ∧ r i = false) ∨ (p i = true ∧ q i = false ∧ r i = true) ∨ (p i = false ∧ q i = false ∧ r i = false)) : ∀ n, cnt p n = cnt q n + cnt r n
  | 0 => rfl
  | n + 1 => by
    rw [cnt_succ, cnt_succ, cnt_succ, cnt_add h n]
    rcases h n with ⟨a, b, c⟩ | ⟨a, b, c⟩ | ⟨a, b, c⟩ <;> rw [a, b, c] <;> simp <;> omega
theorem suff_dead {v g : Nat → Int} (hv : ∀ i, i < 64 → 0 ≤ v i ∧ v i ≤ 12) (hg : ∀ i, i < 64 → g i = v i) (hh : ∀ s, s < 64 → heavyP (v s) = false) : suffV v = !deadB g := by
  have e0 : cnt (fun i => heavyK (kindOf (g i))) 64 = 0 := cnt_zero.2 fun i hi => by rw [hg i hi, ← heavy_kind (hv i hi)]; exact hh i hi
  have e5 : kindTot v 5 = cnt (knightOn g) 64 := cnt_congr fun i hi => by
    unfold knightOn; rw [hg i hi, ptype_kind]
    by_cases h : v i = 0
    · rw [h]; rfl
    · rw [show (v i != 0) = true by simpa using h, Bool.true_and]
  have eb : ∀ p, cnt (bishopSel v p) 64 = cnt (bishopOn g p) 64 := fun p => cnt_congr fun i hi => by
    unfold bishopSel bishopOn; rw [hg i hi, ptype_kind]
    by_cases h : v i = 0
    · rw [h]; rfl
    · rw [show (v i != 0) = true by simpa using h, Bool.true_and]
  have e4 : kindTot v 4 = cnt (bishopOn g 0) 64 + cnt (bishopOn g 1) 64 := by
    rw [← eb, ← eb]
    refine cnt_add (fun i => ?_) 64
    unfold bishopSel
    have : (i % 8 + i / 8) % 2 = 0 ∨ (i % 8 + i / 8) % 2 = 1 := by omega
    cases (v i != 0 && ptype (v i) == 4) <;> rcases this with h | h <;> simp [h]
  unfold suffV deadB
  rw [e0, e5, e4, eb, eb, if_neg (show ¬ (0 < 0) from Nat.lt_irrefl 0)]
  generalize cnt (knightOn g) 64 = nk
  generalize cnt (bishopOn g 0) 64 = b0
  generalize cnt (bishopOn g 1) 64 = b1
  by_cases hk : nk = 0
  · subst hk
    rw [if_pos rfl, if_neg (show ¬ (0 < 0) from Nat.lt_irrefl 0)]
    by_cases hb : b0 + b1 ≤ 1
    · rw [if_pos hb]
      have : b0 = 0 ∨ b1 = 0 := by omega
      rcases this with h | h <;> simp [h]
    · rw [if_neg hb, Bool.eq_iff_iff]
      simp
      omega
  · rw [if_neg hk, if_pos (show 0 < nk by omega)]
theorem heavy_dead {g : Nat → Int} {s : Nat} (hs : s < 64) (hg : 0 ≤ g s ∧ g s ≤ 12) (h : heavyP (g s) = true) : deadB g = false := by
  have : 0 < cnt (fun i => heavyK (kindOf (g i))) 64 := by
    rcases Nat.eq_zero_or_pos (cnt (fun i => heavyK (kindOf (g i))) 64) with h0 | h0
    · have := cnt_zero.1 h0 s hs; rw [← heavy_kind hg, h] at this; cases this
    · exact h0
  unfold deadB; rw [if_pos this]

/-! The wrapper impl.Sufficient. -/
theorem sufficient_any (g : Nat) (f : Nat → Value) (v : Nat → Int) (hv : Right v) (w : World) (h : w.rowIs g tBoard 17 f) (hf : ∀ j, j < 12 → f j = .int .u64 (tn (bbsOf v j))) (hT : TabsP w)
    (h1 : 0 < cnt (fun i => v i == 1) 64) (h7 : 0 < cnt (fun i => v i == 7) 64) :
    Calls Tryd.prog 61 #[.pointer (some ⟨g, 0, none⟩)] w fun e w' => e = .returned (.bool (!deadB v)) ∧ Below w.heap.size w w' := by
  by_cases hh : ∀ s, s < 64 → heavyP (v s) = false
  · obtain ⟨s1, hs1, e1⟩ := cnt_pos h1
    obtain ⟨s7, hs7, e7⟩ := cnt_pos h7
    have := suff_light g f v hv w h hf hT hh (bbs_pos (j := 0) hs1 (by simpa using e1)) (bbs_pos (j := 6) hs7 (by simpa using e7))
    rwa [suff_dead (g := v) hv (fun _ _ => rfl) hh] at this
  · obtain ⟨s, hs, hp⟩ : ∃ s, s < 64 ∧ heavyP (v s) = true := by
      apply Classical.byContradiction
      intro hn
      exact hh fun s hs => by
        cases hx : heavyP (v s)
        · rfl
        · exact absurd ⟨s, hs, hx⟩ hn
    have := suff_heavy g f v w h hf hs hp
    rw [heavy_dead hs (hv s hs) hp]
    exact this
def laidS (w : World) (bd : Nat → Int) : World := ((w.alloc (.cells (rowArr 64 fun i => .int .i64 (bd i)) 23)).alloc (.cells #[.bool false] 4)).alloc (.cells #[.bool false] 4)
theorem clo_Sufficient (p0 p1 : Addr) (w : World) :
    CallsD Tryd.prog 32 #[.pointer (some p0), .pointer (some p1)] .returning w fun e u' w' => e = .returned (.tuple #[]) ∧ u' = .returning ∧ w' = w := by
  refine callsD_of_wpS Tryd.func32 rfl fun c₀ cs hu => ?_
  apply wpS_seq
  apply wpS_region
  simp [wpOpsS, go_sem, recoverD, hu, Tryd.ntmps32, Exit.thenS]
  refine wpS_cond (t := false) (by simp [Act.eval, Array.replicate]) ?_
  simp only [Bool.false_eq_true, if_false]
  refine wpS_of_wp (wp_skip ?_)
  cases c₀
  simp_all [bodyPostS, results, Tryd.results32]

set_option maxRecDepth 100000 in
theorem implSufficient_any (bd : Nat → Int) (hbd : Right bd) (h1 : 0 < cnt (fun i => bd i == 1) 64) (h7 : 0 < cnt (fun i => bd i == 7) 64) (w : World) (hT : TabsP w) :
    Calls Tryd.prog 12 #[intRow 64 bd] w fun e w' => e = .returned (.tuple #[.bool (!deadB bd), .bool true]) ∧ Below w.heap.size w w' := by
  have hmf := mkf Tryd.prog
  have hr : (laidS w bd).rowIs w.heap.size 23 64 (fun i => .int .i64 (bd i)) := ((rowIs_new w 23 64 (fun i => .int .i64 (bd i))).alloc _).alloc _
  have hb : Below w.heap.size w (laidS w bd) := (((Below.refl _ _).alloc (Nat.le_refl _) _).alloc (by simp) _).alloc (by simp; omega) _
  have hs : (laidS w bd).heap.size = w.heap.size + 3 := by simp [laidS]
  have hTw := hT.below hb
  have hrow0 := rowIs_block hr
  have hone : ∀ (v : World), (v.alloc (.cells #[.bool false] 4)).rowIs v.heap.size 4 1 (fun _ => .bool false) := fun v => World.rowIs_alloc v #[.bool false] 4 (fun _ => .bool false) (fun i hi => by obtain rfl : i = 0 := (by simp at hi; omega); rfl)
  have hc1 : (laidS w bd).rowIs (w.heap.size + 1) 4 1 (fun _ => .bool false) := by
    have := (hone (w.alloc (.cells (rowArr 64 fun i => .int .i64 (bd i)) 23))).alloc (.cells #[.bool false] 4)
    simpa [laidS] using this
  have hc2 : (laidS w bd).rowIs (w.heap.size + 1 + 1) 4 1 (fun _ => .bool false) := by
    have := hone ((w.alloc (.cells (rowArr 64 fun i => .int .i64 (bd i)) 23)).alloc (.cells #[.bool false] 4))
    simpa [laidS] using this
  replace hb := Lib.hid hb
  clear hT hone
  unfold intRow
  go_enter_defers Tryd.func12, Tryd.ntmps12
  go_wp2_with (first
    | (refine wpList_load_row rfl 23 _ rfl w.heap.size rfl _ _ (0, 0) _ hrow0 Tryd.underlying23 rfl (by rw [info64, rowArr_size]) ?_)
    | (go_at_call 61; refine (sufficient_any g _ bd hbd w1 hrow (fun j hj => calcRow_low hj) hT1 h1 h7).mono ?_; rintro e w3 ⟨rfl, hb3⟩; have hbA := hb1.trans (hb3.mono hb1.size); have k1 := (rowIs_below hc1 hbA (by omega)).cell (i := 0) (by omega); have k2 := (rowIs_below hc2 hbA (by omega)).cell (i := 0) (by omega); have f1 := (rowIs_below hc1 hbA (by omega)).frozen 0; have f2 := (rowIs_below hc2 hbA (by omega)).frozen 0)
    | (go_at_call 33; go_in)
    | (go_at_call 34; refine (board_any bd hbd (laidS w bd) hTw).mono ?_; rintro e w1 ⟨g, rfl, hg, hrow, hb1⟩; have hT1 := hTw.below hb1))
  refine leaves_cons (f := 32) (args := #[.pointer (some ⟨w.heap.size + 1, 0, none⟩), .pointer (some ⟨w.heap.size + 2, 0, none⟩)]) (by simp) (by simp [go_sem]) ?_; refine (clo_Sufficient _ _ _).mono ?_; rintro e u' w'' ⟨rfl, rfl, rfl⟩
  simp [Leaves, settle, results, Tryd.results12, asAddr, go_sem, k1, k2]
  exact (((hb.out.trans (hbA.mono (by omega))).setCell (by simp) _).setCell (by simp; omega) _)
end Go.Proofs.YtnlicbhelnocpaaDoor.Suffices
