/- Deeds to a book: what stays; the entries sorted anew (the closure of AddMove). -/
import Derived.Test.YtpoomblloahahaaGreatDoorPbJ
import Derived.Test.YtpoomblloahahaaGreatDoorPoE
import Derived.Deep.AppendLies
import Derived.BigQuiet
namespace Go.Proofs.YtpoomblloahahaaGreatDoor
open Go.Proofs Go.Shelf Go.Sort Go.Lib Go.ChangeShapes Go.WideShapes Go.ChangeAt Go.RowKit Go.PlainAid
set_option maxHeartbeats 2000000
set_option linter.unusedVariables false
set_option linter.unusedSimpArgs false

/-- Blocks of other types than a book's and its entries' stay. -/
def KeptT (w w' : World) : Prop := w.heap.size ≤ w'.heap.size ∧ ∀ (k : Nat) (cc : Array Value) (T : TypeId), w.heap[k]? = some (.cells cc T (0, 0)) → T ≠ 69 → T ≠ 71 → w'.heap[k]? = some (.cells cc T (0, 0))
theorem KeptT.refl (w : World) : KeptT w w := ⟨Nat.le_refl _, fun _ _ _ h _ _ => h⟩
theorem KeptT.trans {a b c : World} (h : KeptT a b) (h2 : KeptT b c) : KeptT a c := ⟨Nat.le_trans h.1 h2.1, fun k cc T h0 h1 h3 => h2.2 k cc T (h.2 k cc T h0 h1 h3) h1 h3⟩
theorem lt_of_block {w : World} {k : Nat} {o : Obj} (h : w.heap[k]? = some o) : k < w.heap.size := by
  rcases Nat.lt_or_ge k w.heap.size with h' | h'
  · exact h'
  · rw [Array.getElem?_eq_none h'] at h; cases h
theorem KeptT.of_below {w w' : World} (h : RowKit.Below w.heap.size w w') : KeptT w w' := ⟨h.size, fun k cc T h0 _ _ => (h.block k (lt_of_block h0)).trans h0⟩
theorem KeptT.row {w w' : World} (h : KeptT w w') {g n : Nat} {T : TypeId} {F : Nat → Value} (hr : w.rowIs g T n F) (h1 : T ≠ 69) (h2 : T ≠ 71) : w'.rowIs g T n F := rowIs_of_block (h.2 g _ T (rowIs_block hr) h1 h2)
theorem KeptT.own {w w' : World} (h : KeptT w w') {B n k : Nat} {T : TypeId} {v : Value} {xs : List Value} (ho : w.ownsRow B T k v n xs) (h1 : T ≠ 69) (h2 : T ≠ 71) : w'.ownsRow B T k v n xs := by
  obtain ⟨h0, h' | ⟨g, cap, cur, hv, hB, hg, hr⟩⟩ := ho
  · exact ⟨h0, .inl h'⟩
  · exact ⟨h0, .inr ⟨g, cap, cur, hv, hB, h.2 g cur T hg h1 h2, hr⟩⟩
/-- A book, its entries its own. -/
def Bk (pb B0 : Nat) (l : List En) (w : World) : Prop := ∃ v, w.rowIs pb 71 1 (fun _ => v) ∧ w.ownsRow B0 69 4 v l.length (ents l)
theorem Bk.below {pb B0 : Nat} {l : List En} {w w' : World} (h : Bk pb B0 l w) (hb : RowKit.Below w.heap.size w w') : Bk pb B0 l w' := by
  obtain ⟨v, h1, h2⟩ := h
  exact ⟨v, rowIs_below h1 hb h1.lt, own_below h2 hb⟩
theorem lessA (blk off c Bs pb size : Nat) (W : World) (G : Nat → Int) (hBs : W.cell? ⟨Bs, 0, none⟩ = some (.pointer (some ⟨pb, 0, none⟩))) (hs : W.cell? ⟨pb, 0, none⟩ = some (.slice (some ⟨blk, off, none⟩) size c))
    (hc : ∀ t, t < size → W.cell? ⟨blk, off + t * 4 + 0, none⟩ = some (.int .u64 (G t))) (i j : Nat) (hi : i < size) (hj : j < size) (_hsz : size < 4611686018427387904) :
    Calls Tryz.prog 20 #[.int .i64 i, .int .i64 j, .pointer (some ⟨Bs, 0, none⟩)] W fun e w' => e = .returned (.bool (decide (G i < G j))) ∧ ∃ q, w' = W.drewN q := by
  have ci := hc i hi
  have cj := hc j hj
  rw [Nat.add_zero] at ci cj
  go_enter Tryz.func20, Tryz.ntmps20
  go_wp2
  go_quiet (fail)
  go_wp2
  go_ret
  exact ⟨rfl, nq, rfl⟩
theorem sortA_any (g c Bs pb : Nat) (l : List En) (h2 : 2 ≤ l.length) (hl : l.length ≤ 1000) (w : World) (hH : HoldsK encE 4 w g 0 l.toArray) (hblk : g < w.heap.size)
    (hBs : w.cell? ⟨Bs, 0, none⟩ = some (.pointer (some ⟨pb, 0, none⟩))) (hpb : w.cell? ⟨pb, 0, none⟩ = some (.slice (some ⟨g, 0, none⟩) l.length c)) (hB1 : Bs < w.heap.size) (hB2 : Bs ≠ g) (hP1 : pb < w.heap.size) (hP2 : pb ≠ g) :
    Calls Tryz.prog 19 #[.iface 62 (.slice (some ⟨g, 0, none⟩) l.length c), .func (.func 20) #[] #[.pointer (some ⟨Bs, 0, none⟩)]] w fun e w' =>
      e = .returned (.tuple #[]) ∧ SortedTo ltK g Bs (.slice (some ⟨g, 0, none⟩) l.length c) l w w' := by
  have hsz : l.toArray.size = l.length := by simp
  have hless : LessReadsK Tryz.prog 20 #[.pointer (some ⟨Bs, 0, none⟩)] encE 4 ltK g 0 l.toArray.size w := by
    intro m os dk hs i j hi hj
    have e : sortWorldK encE 4 w g 0 m dk os = putRowK encE 4 (grow (Sort.ahead w m) os) g 0 dk := by
      unfold sortWorldK; rw [putRowK_grow _ _ (Sort.ahead w m) _ g 0 _ hblk]
    have hHg : HoldsK encE 4 (grow (Sort.ahead w m) os) g 0 l.toArray := holdsK_grow _ _ _ _ g 0 _ hblk (holdsK_ahead _ _ _ _ _ _ _ hH)
    refine lessA g 0 c Bs pb l.toArray.size _ (fun t => dk[t]!.1) ?_ ?_ (fun t ht => ?_) i j hi hj (by omega)
    · rw [e, cell?_putRowK_other _ _ _ g 0 dk _ (by exact hB2), cell?_grow _ _ _ (by exact hB1)]; exact hBs
    · rw [e, cell?_putRowK_other _ _ _ g 0 dk _ (by exact hP2), cell?_grow _ _ _ (by exact hP1)]; rw [hsz]; exact hpb
    · rw [e]; exact ((holdsK_putRowK _ _ _ g 0 _ dk hHg hs).cell (i := t) (c := 0) (by omega) (by omega)).1
  have hk := Any.sort_Slice_cells_sorted lays_LaysGg_n6 62 69 svT svE (by kernel_rfl) (by kernel_rfl) (by kernel_rfl) (by kernel_rfl) 25 (fun _ => by kernel_rfl) encE 4 (fun _ => rfl) (by kernel_rfl) (fun _ => by kernel_rfl)
    (fun x v hv => one_enc x v hv) ltK swo_K 20 _
    (enters_of Tryz.func20 (by kernel_rfl) rfl) g 0 c l.toArray (by omega) (by omega) 50 (by rw [svK _ (by omega)]; kernel_rfl) false
    (fun args W => run_callFunc_extern Tryz.func50 (by kernel_rfl) (by kernel_rfl) (by kernel_rfl) (e := Extern.ReflectliteSwapper.swap false) (by kernel_rfl) args W) w hless hH hblk
  rw [hsz] at hk
  refine hk.mono ?_
  rintro e w' ⟨rfl, d', n, os, ⟨hp1, _, hp3⟩, hso, rfl⟩
  rw [hsz] at hp1
  have hH' : HoldsK encE 4 (grow (putRowK encE 4 (Sort.ahead w n) g 0 d') os) g 0 d' := by
    refine holdsK_grow _ _ _ _ g 0 _ (by rw [size_putRowK]; exact hblk) (holdsK_putRowK _ _ _ g 0 _ d' (holdsK_ahead _ _ _ _ _ _ _ hH) (by simp [hp1]))
  have hget : ∀ i, i < l.length → d'.toList.getD i e0 = d'[i]! := fun i hi => by
    rw [List.getD_eq_getElem?_getD, List.getElem?_eq_getElem (by simpa [hp1] using hi), getElem!_pos d' i (by omega)]; rfl
  refine ⟨rfl, d'.toList, ?_, ?_, ?_, ?_, ?_⟩
  · have e1 : (d'.extract 0 l.length).toList = d'.toList := by rw [← hp1]; simp
    have e2 : (l.toArray.extract 0 l.length).toList = l := by simp
    rw [e1, e2] at hp3
    exact hp3
  · intro i j hij hj
    rw [hget i (by omega), hget j hj]
    exact hso i j (Nat.zero_le _) hij hj
  · intro i hi j hj
    have := (hH'.cell (i := i) (c := j) (by omega) hj).1
    rw [Nat.zero_add] at this
    rw [this, enc_get _ _ hj, hget i hi]
  · refine ⟨rfl, rfl, rfl, ?_, fun k hk hne => ?_⟩
    · show w.heap.size ≤ (grow (putRowK encE 4 (Sort.ahead w n) g 0 d') os).heap.size
      rw [size_grow, size_putRowK]
      exact Nat.le_add_right _ _
    · rw [heap_grow_old _ os (by rw [size_putRowK]; exact hk)]
      simp only [putRowK, putRow, mapBlock, Array.getElem?_modify]
      rw [if_neg (fun e => hne e.symm)]
      rfl
  · intro cur t fr hc
    rw [heap_grow_old _ os (by rw [size_putRowK]; exact hblk)]
    have hc' : (Sort.ahead w n).heap[g]? = some (.cells cur t fr) := hc
    simp only [putRowK, putRow, mapBlock, Array.getElem?_modify, if_pos]
    rw [hc']
    exact ⟨_, rfl, by simp [putCells]⟩
theorem KeptBut.keptT {g : Nat} {cur : Array Value} {w w' : World} (h : KeptBut (fun k => k = g) w w') (hg : w.heap[g]? = some (.cells cur 69 (0, 0))) : KeptT w w' := ⟨h.2.2.2.1, fun k cc T h0 h1 _ => by
  rw [h.2.2.2.2 k (lt_of_block h0) (fun e => by rw [e, hg] at h0; injection h0 with h0; injection h0 with _ h0; exact h1 h0.symm)]; exact h0⟩
/-- The book's entries are sorted anew. -/
theorem sortOwn_A (B0 Bs pb : Nat) (v : Value) (l : List En) (W0 w : World) (hown : w.ownsRow B0 69 4 v l.length (ents l)) (hP : w.rowIs pb 71 1 (fun _ => v)) (hBs : w.rowIs Bs 42 1 (fun _ => .pointer (some ⟨pb, 0, none⟩))) (hl : l.length ≤ 1000) (hb : RowKit.Below B0 W0 w) (hBw : B0 ≤ w.heap.size) :
    Calls Tryz.prog 19 #[.iface 62 v, .func (.func 20) #[] #[.pointer (some ⟨Bs, 0, none⟩)]] w fun e w' =>
      e = .returned (.tuple #[]) ∧ ∃ l' : List En, l'.Perm l ∧ Bk pb B0 l' w' ∧ RowKit.Below B0 W0 w' ∧ KeptT w w' := by
  by_cases h2 : 2 ≤ l.length
  · obtain ⟨g, cap, cur, rfl, hB, hg, hblk, hH⟩ := own_open hown (by omega)
    have hne : Bs ≠ g := fun e => by
      have h1 := rowIs_block hBs
      rw [e, hblk] at h1
      simp at h1
    have hne2 : pb ≠ g := fun e => by
      have h1 := rowIs_block hP
      rw [e, hblk] at h1
      simp at h1
    refine (sortA_any g cap Bs pb l h2 hl w hH hg (hBs.cell (i := 0) (by omega)) (hP.cell (i := 0) (by omega)) hBs.lt hne hP.lt hne2).mono ?_
    rintro e w' ⟨rfl, l', hp, hs, hc, hk, hbk⟩
    have hlen := hp.length_eq
    obtain ⟨cur', hg', hsz'⟩ := hbk _ _ _ hblk
    exact ⟨rfl, l', hp, ⟨_, hP.of_block (hk.2.2.2.2 pb hP.lt hne2), by rw [hlen]; exact own_cells hown hblk hg' hsz' hlen (fun i hi j hj => hc i hi j hj)⟩, hk.below hb hBw (fun k hk => by subst hk; exact hB), hk.keptT hblk⟩
  · obtain ⟨va, vn, vc, rfl⟩ : ∃ a n c, v = .slice a n c := by
      rcases hown.2 with ⟨hv, _⟩ | ⟨_, _, _, hv, _⟩ <;> exact ⟨_, _, _, hv⟩
    have hEn := ens_own hown
    have hvn : vn = l.length := by
      obtain ⟨a', c', hv, _⟩ := hEn
      injection hv
    refine (sort_tiny (.slice va vn vc) va vn vc _ _ _ (by omega) w).mono ?_
    rintro e w' ⟨rfl, hk⟩
    have hbl := kept_below hk (fun _ h => h)
    exact ⟨rfl, l, List.Perm.refl _, ⟨_, rowIs_below hP hbl hP.lt, own_below hown hbl⟩, hb.trans (hbl.mono hBw), KeptT.of_below hbl⟩
end Go.Proofs.YtpoomblloahahaaGreatDoor
