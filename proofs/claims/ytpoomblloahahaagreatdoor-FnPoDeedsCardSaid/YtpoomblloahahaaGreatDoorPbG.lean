/- A book's entries sorted: sort.Slice by the shelf, at the program's two closures. -/
import Derived.Test.YtpoomblloahahaaGreatDoorPbE
import Derived.Test.YtpoomblloahahaaGreatDoorLayG
import Derived.Shelf.SlSortFuncK.WholeK
import Derived.Shelf.GgSortFunc.Tiny
namespace Go.Proofs.YtpoomblloahahaaGreatDoor
open Go.Proofs Go.Shelf Go.Sort Go.Lib Go.ChangeShapes Go.WideShapes Go.ChangeAt Go.RowKit Go.PlainAid
set_option maxHeartbeats 2000000
set_option linter.unusedVariables false
set_option linter.unusedSimpArgs false

/-- By the key; by the weight, the greatest first. -/
def ltK (a b : En) : Bool := decide (a.1 < b.1)
def ltW (a b : En) : Bool := decide (b.2.2.1 < a.2.2.1)
theorem swo_K : SWO ltK where
  irrefl := fun x => by simp [ltK]
  trans := fun x y z h1 h2 => by simp [ltK] at *; omega
  ntrans := fun x y z h1 h2 => by simp [ltK] at *; omega
theorem lessK (blk off c Bs size : Nat) (W : World) (G : Nat → Int) (hs : W.cell? ⟨Bs, 0, none⟩ = some (.slice (some ⟨blk, off, none⟩) size c))
    (hc : ∀ t, t < size → W.cell? ⟨blk, off + t * 4 + 0, none⟩ = some (.int .u64 (G t))) (i j : Nat) (hi : i < size) (hj : j < size) (_hsz : size < 4611686018427387904) :
    Calls Tryz.prog 27 #[.int .i64 i, .int .i64 j, .pointer (some ⟨Bs, 0, none⟩)] W fun e w' => e = .returned (.bool (decide (G i < G j))) ∧ ∃ q, w' = W.drewN q := by
  have ci := hc i hi
  have cj := hc j hj
  rw [Nat.add_zero] at ci cj
  skip
  go_enter Tryz.func27, Tryz.ntmps27
  go_wp2
  go_quiet (fail)
  go_wp2
  go_ret
  exact ⟨rfl, nq, rfl⟩
noncomputable def svT : TypeInfo := (Tryz.prog.info? 62).get (by kernel_rfl)
noncomputable def svE : TypeInfo := (Tryz.prog.info? 69).get (by kernel_rfl)
theorem svK (n : Nat) (h2 : 2 ≤ n) : Lib.swapperK n svE 25 = 9 := by
  have a : svE.hasPointers = false := by kernel_rfl
  have b : svE.bytes = 16 := by kernel_rfl
  have c : (n == 0) = false := by simp; omega
  have d : (n == 1) = false := by simp; omega
  simp [Lib.swapperK, a, b, c, d]
theorem sv0 : Lib.swapperK 0 svE 25 = 1 := by kernel_rfl
theorem sv1 : Lib.swapperK 1 svE 25 = 2 := by kernel_rfl
/-- What is known behind sorting. -/
def SortedTo (lt : En → En → Bool) (g Bs : Nat) (v : Value) (l : List En) (w w' : World) : Prop :=
  ∃ l' : List En, l'.Perm l ∧ (∀ i j : Nat, i < j → j < l.length → lt (l'.getD j e0) (l'.getD i e0) = false) ∧ (∀ i : Nat, i < l.length → ∀ j : Nat, j < 4 → w'.cell? ⟨g, i * 4 + j, none⟩ = some (enF (l'.getD i e0) j)) ∧ KeptBut (fun k => k = g) w w' ∧ (∀ (cur : Array Value) (t : TypeId) (fr : Nat × Nat), w.heap[g]? = some (.cells cur t fr) → ∃ cur' : Array Value, w'.heap[g]? = some (.cells cur' t fr) ∧ cur'.size = cur.size)
theorem enc_get (x : En) (j : Nat) (hj : j < 4) : (encE x)[j]! = enF x j := by
  have : j = 0 ∨ j = 1 ∨ j = 2 ∨ j = 3 := by omega
  rcases this with rfl | rfl | rfl | rfl <;> rfl
theorem sortK_any (g c Bs : Nat) (l : List En) (h2 : 2 ≤ l.length) (hl : l.length ≤ 1000) (w : World) (hH : HoldsK encE 4 w g 0 l.toArray) (hblk : g < w.heap.size)
    (hBs : w.cell? ⟨Bs, 0, none⟩ = some (.slice (some ⟨g, 0, none⟩) l.length c)) (hB1 : Bs < w.heap.size) (hB2 : Bs ≠ g) :
    Calls Tryz.prog 19 #[.iface 62 (.slice (some ⟨g, 0, none⟩) l.length c), .func (.func 27) #[] #[.pointer (some ⟨Bs, 0, none⟩)]] w fun e w' =>
      e = .returned (.tuple #[]) ∧ SortedTo ltK g Bs (.slice (some ⟨g, 0, none⟩) l.length c) l w w' := by
  have hsz : l.toArray.size = l.length := by simp
  have hless : LessReadsK Tryz.prog 27 #[.pointer (some ⟨Bs, 0, none⟩)] encE 4 ltK g 0 l.toArray.size w := by
    intro m os dk hs i j hi hj
    have e : sortWorldK encE 4 w g 0 m dk os = putRowK encE 4 (grow (Sort.ahead w m) os) g 0 dk := by
      unfold sortWorldK; rw [putRowK_grow _ _ (Sort.ahead w m) _ g 0 _ hblk]
    have hHg : HoldsK encE 4 (grow (Sort.ahead w m) os) g 0 l.toArray := holdsK_grow _ _ _ _ g 0 _ hblk (holdsK_ahead _ _ _ _ _ _ _ hH)
    refine lessK g 0 c Bs l.toArray.size _ (fun t => dk[t]!.1) ?_ (fun t ht => ?_) i j hi hj (by omega)
    · rw [e, cell?_putRowK_other _ _ _ g 0 dk _ (by exact hB2), cell?_grow _ _ _ (by exact hB1)]; rw [hsz]; exact hBs
    · rw [e]; exact ((holdsK_putRowK _ _ _ g 0 _ dk hHg hs).cell (i := t) (c := 0) (by omega) (by omega)).1
  have hk := Any.sort_Slice_cells_sorted lays_LaysGg_n6 62 69 svT svE (by kernel_rfl) (by kernel_rfl) (by kernel_rfl) (by kernel_rfl) 25 (fun _ => by kernel_rfl) encE 4 (fun _ => rfl) (by kernel_rfl) (fun _ => by kernel_rfl)
    (fun x v hv => one_enc x v hv) ltK swo_K 27 _
    (enters_of Tryz.func27 (by kernel_rfl) rfl) g 0 c l.toArray (by omega) (by omega) 50 (by rw [svK _ (by omega)]; kernel_rfl) false
    (fun args W => run_callFunc_extern Tryz.func50 (by kernel_rfl) (by kernel_rfl) (by kernel_rfl) (e := Extern.ReflectliteSwapper.swap false) (by kernel_rfl) args W) w hless hH hblk
  rw [hsz] at hk
  refine hk.mono ?_
  rintro e w' ⟨rfl, d', n, os, ⟨hp1, _, hp3⟩, hso, rfl⟩
  rw [hsz] at hp1
  have hH' : HoldsK encE 4 (grow (putRowK encE 4 (Sort.ahead w n) g 0 d') os) g 0 d' := by
    refine holdsK_grow _ _ _ _ g 0 _ (by rw [size_putRowK]; exact hblk) (holdsK_putRowK _ _ _ g 0 _ d' (holdsK_ahead _ _ _ _ _ _ _ hH) (by simp [hp1]))
  have hget : ∀ i, i < l.length → d'.toList.getD i e0 = d'[i]! := fun i hi => by
    rw [List.getD_eq_getElem?_getD, List.getElem?_eq_getElem (by simpa [hp1] using hi), getElem!_pos d' i (by omega)]; rfl
  refine ⟨rfl, d'.toList, ?_, ?_, ?_, ?_, ?_⟩
  · have e1 : (d'.extract 0 l.length).toList = d'.toList := by rw [← hp1]; simp
    have e2 : (l.toArray.extract 0 l.length).toList = l := by simp
    rw [e1, e2] at hp3
    exact hp3
  · intro i j hij hj
    rw [hget i (by omega), hget j hj]
    exact hso i j (Nat.zero_le _) hij hj
  · intro i hi j hj
    have := (hH'.cell (i := i) (c := j) (by omega) hj).1
    rw [Nat.zero_add] at this
    rw [this, enc_get _ _ hj, hget i hi]
  · refine ⟨rfl, rfl, rfl, ?_, fun k hk hne => ?_⟩
    · show w.heap.size ≤ (grow (putRowK encE 4 (Sort.ahead w n) g 0 d') os).heap.size
      rw [size_grow, size_putRowK]
      exact Nat.le_add_right _ _
    · rw [heap_grow_old _ os (by rw [size_putRowK]; exact hk)]
      simp only [putRowK, putRow, mapBlock, Array.getElem?_modify]
      rw [if_neg (fun e => hne e.symm)]
      rfl
  · intro cur t fr hc
    rw [heap_grow_old _ os (by rw [size_putRowK]; exact hblk)]
    have hc' : (Sort.ahead w n).heap[g]? = some (.cells cur t fr) := hc
    simp only [putRowK, putRow, mapBlock, Array.getElem?_modify, if_pos]
    rw [hc']
    exact ⟨_, rfl, by simp [putCells]⟩
theorem sort_tiny (v : Value) (a : Option Addr) (n c F : Nat) (la lb : Array Value) (hn : n ≤ 1) (w : World) :
    Calls Tryz.prog 19 #[.iface 62 (.slice a n c), .func (.func F) la lb] w fun e w' => e = .returned (.tuple #[]) ∧ KeptBut (fun _ => False) w w' := by
  have h01 : n = 0 ∨ n = 1 := by omega
  have hk : ∀ f : Nat, Tryz.prog.funcs.findIdx? (·.name == "internal/reflectlite" ++ ".Swapper$" ++ toString (Lib.swapperK n svE 25)) = some f → Calls Tryz.prog 19 #[.iface 62 (.slice a n c), .func (.func F) la lb] w fun e w' => e = .returned (.tuple #[]) ∧ KeptBut (fun _ => False) w w' := fun f hf => by
    have h := Any.sort_Slice_tiny lays_LaysGg_n6 62 69 svT svE (by kernel_rfl) (by kernel_rfl) (by kernel_rfl) (by kernel_rfl) 25 (fun _ => by kernel_rfl) a n c hn f hf (.func F) la lb w
    refine h.mono ?_
    rintro e w' ⟨rfl, os, rfl⟩
    exact ⟨rfl, rfl, rfl, rfl, by rw [size_grow]; exact Nat.le_add_right _ _, fun k hk _ => heap_grow_old _ os hk⟩
  rcases h01 with rfl | rfl
  · exact hk 42 (by rw [sv0]; kernel_rfl)
  · exact hk 43 (by rw [sv1]; kernel_rfl)
end Go.Proofs.YtpoomblloahahaaGreatDoor
