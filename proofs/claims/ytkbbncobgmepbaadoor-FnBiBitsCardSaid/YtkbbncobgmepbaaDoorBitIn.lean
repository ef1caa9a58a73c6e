/- impl.Bits: the number of some squares. -/
import Derived.Test.YtkbbncobgmepbaaDoorBitMap
namespace Go.Proofs.YtkbbncobgmepbaaDoor
open Go.ChangeShapes Go.WideShapes Go.ChangeAt Go.RowKit Go.Maps Plain
set_option maxHeartbeats 1000000
set_option linter.unusedVariables false
set_option linter.unusedSimpArgs false

/-- Which squares are among the first k of a list. -/
def among (l : List Nat) (k : Nat) (s : Nat) : Bool := decide (s ∈ l.take k)
theorem among_step {l : List Nat} {k : Nat} (h : k < l.length) (s : Nat) : (if s = l.getD k 0 then true else among l k s) = among l (k + 1) s := by
  unfold among
  rw [List.take_succ_eq_append_getElem h]
  have e : l.getD k 0 = l[k] := by simp [List.getD, h]
  rw [e]
  simp only [List.mem_append, List.mem_singleton]
  by_cases h2 : s = l[k]
  · rw [if_pos h2]; exact (decide_eq_true (Or.inr h2)).symm
  · rw [if_neg h2]; simp only [h2, or_false]
theorem clo_Bits (p0 p1 : Addr) (w : World) :
    CallsD Tryd.prog 33 #[.pointer (some p0), .pointer (some p1)] .returning w fun e u' w' => e = .returned (.tuple #[]) ∧ u' = .returning ∧ w' = w := by
  refine callsD_of_wpS Tryd.func33 rfl fun c₀ cs hu => ?_
  apply wpS_seq
  apply wpS_region
  simp [wpOpsS, go_sem, recoverD, hu, Tryd.ntmps33, Exit.thenS]
  refine wpS_cond (t := false) (by simp [Act.eval, Array.replicate]) ?_
  simp only [Bool.false_eq_true, if_false]
  refine wpS_of_wp (wp_skip ?_)
  cases c₀
  simp_all [bodyPostS, results, Tryd.results33]

/-- The world behind the wrapper's two cells and its map. -/
def bitW (w : World) : World := ((w.alloc (.cells #[.int .u64 0] 33)).alloc (.cells #[.bool false] 4)).alloc (.map #[] 0)
theorem bitW_facts (w : World) : (bitW w).heap.size = w.heap.size + 1 + 1 + 1 ∧ (bitW w).rowIs w.heap.size 33 1 (fun _ => .int .u64 0) ∧ (bitW w).rowIs (w.heap.size + 1) 4 1 (fun _ => .bool false) ∧ setIs (bitW w) (w.heap.size + 1 + 1) 0 (fun _ => false) ∧ Below w.heap.size w (bitW w) := by
  have h1 := World.rowIs_alloc w #[.int .u64 0] 33 (fun _ => .int .u64 0) (fun i hi => by simp at hi; subst hi; rfl)
  have h2 := World.rowIs_alloc (w.alloc (.cells #[.int .u64 0] 33)) #[.bool false] 4 (fun _ => .bool false) (fun i hi => by simp at hi; subst hi; rfl)
  have h3 := setIs_made ((w.alloc (.cells #[.int .u64 0] 33)).alloc (.cells #[.bool false] 4))
  rw [World.size_alloc] at h2
  rw [World.size_alloc, World.size_alloc] at h3
  exact ⟨by simp [bitW], (h1.alloc _).alloc _, h2.alloc _, h3, (((Below.refl _ _).alloc (Nat.le_refl _) _).alloc (by simp) _).alloc (by simp; omega) _⟩
set_option maxRecDepth 100000 in
theorem bits_any {B : Nat} (v : Value) (l : List Nat) (w : World) (h : w.ownsRow B 3 1 v l.length (ints l)) (h64 : ∀ s ∈ l, s < 64) (hlen : l.length ≤ 64) :
    Calls Tryd.prog 15 #[v] w fun e w' => e = .returned (.tuple #[.int .u64 (tn (numB (fun s => decide (s ∈ l)) 64)), .bool true]) ∧ Below w.heap.size w w' := by
  have hmf := mkf Tryd.prog
  have hmm := @run_makeMap Tryd.prog
  obtain ⟨hS, r1, r2, hm0, hB0⟩ := bitW_facts w
  have hd : ∀ k, k < l.length → l.getD k 0 < 64 := by
    intro k hk
    apply h64
    simp [hk]
  have hend := Lib.hid (show ∀ s, among l l.length s = decide (s ∈ l) from fun s => by simp [among])
  rcases h.2 with ⟨rfl, hn⟩ | ⟨g, cap, cur, rfl, hB, hcur, hle, hcap, hsz, htake⟩
  · obtain rfl : l = [] := List.length_eq_zero_iff.1 hn
    clear h h64 hlen hn hd
    have hw : ((w.alloc (.cells #[.int .u64 0] 33)).alloc (.cells #[.bool false] 4)).alloc (.map #[] 0) = bitW w := rfl
    have hm' := setIs_congr hm0 (u := fun s => decide (s ∈ ([] : List Nat))) (fun s _ => by simp)
    clear hm0
    go_enter_defers Tryd.func15, Tryd.ntmps15
    go_wp2
    clear hw
    generalize bitW w = w3 at *
    have c1 := r1.cell (i := 0) (by omega)
    have c2 := r2.cell (i := 0) (by omega)
    have f1 := r1.frozen 0
    have f2 := r2.frozen 0
    go_loopw [11] (fun i wr => i = .int .i64 0 ∧ wr = w3) (fun _ _ => 0)
    case atStart => exact ⟨rfl, rfl⟩
    case round =>
      obtain ⟨rfl, rfl⟩ := hrel
      go_wp2_with (go_at_call 35; refine (doorBits_any _ _ _ _ hm').mono ?_; rintro e w' ⟨rfl, rfl⟩)
      refine leaves_cons (f := 33) (args := #[.pointer (some ⟨w.heap.size, 0, none⟩), .pointer (some ⟨w.heap.size + 1, 0, none⟩)]) (by simp) (by simp [go_sem]) ?_; refine (clo_Bits _ _ _).mono ?_; rintro e u' w'' ⟨rfl, rfl, rfl⟩
      simp [Leaves, settle, results, Tryd.results15, asAddr, go_sem, c1, c2]
      exact (hB0.setCell (by simp) _).setCell (by simp) _
  · have hg := lt_of_block hcur
    have hc : ∀ k, k < l.length → w.cell? ⟨g, k, none⟩ = some (.int .i64 (l.getD k 0 : Nat)) := by
      intro k hk
      rw [h.cellAt k (by omega)]
      simp [ints, hk]
    clear h h64 hcur hsz htake hB
    unfold maxLen at hcap
    go_enter_defers Tryd.func15, Tryd.ntmps15
    go_wp2
    have hw : ((w.alloc (.cells #[.int .u64 0] 33)).alloc (.cells #[.bool false] 4)).alloc (.map #[] 0) = bitW w := rfl
    rw [hw]
    clear hw
    generalize bitW w = w3 at *
    go_loopw [11] (fun i wr => ∃ k n : Nat, k ≤ l.length ∧ n ≤ k ∧ i = .int .i64 k ∧ setIs wr (w.heap.size + 1 + 1) n (among l k) ∧ Below (w.heap.size + 1 + 1) w3 wr) (fun i _ => l.length - (intOf i).toNat)
    case atStart => exact ⟨0, 0, by omega, by omega, rfl, setIs_congr hm0 (fun s _ => by simp [among]), Below.refl _ _⟩
    case round =>
      clear hm0
      obtain ⟨k, n, hk, hn, rfl, hm, hb⟩ := hrel
      by_cases hlt : k < l.length
      · have hck := hc k hlt
        have hdk := hd k hlt
        have hs := Lib.hid (among_step hlt)
        have hcr := ((hb.cell (p := ⟨g, k, none⟩) (by show g < _; omega)).trans (hB0.cell (p := ⟨g, k, none⟩) hg)).trans hck
        generalize hx : l.getD k 0 = x at *
        clear hx hc hd
        go_wp2_with (first
          | (go_at_call 34; refine (square_any _ (by omega) (by omega) _).mono ?_; rintro e w' ⟨rfl, rfl⟩)
          | (at_mapUpdate; refine wpList_storeB _ rfl _ _ _ rfl (w.heap.size + 1 + 1) n _ rfl hm (by omega) x hdk rfl rfl ?_; intro w1 hm1 hgrow1))
        exact ⟨⟨k + 1, n + 1, by omega, by omega, by go_num, setIs_congr hm1 (fun s _ => hs.out s), hb.grown hgrow1 (by have := hb.size; omega) (by intro r hr; cases hr; exact Nat.le_refl _)⟩, by simp [intOf]; omega⟩
      · obtain rfl : k = l.length := by omega
        clear hc hd
        have c1 := (rowIs_below r1 hb (by omega)).cell (i := 0) (by omega)
        have c2 := (rowIs_below r2 hb (by omega)).cell (i := 0) (by omega)
        have f1 := (rowIs_below r1 hb (by omega)).frozen 0
        have f2 := (rowIs_below r2 hb (by omega)).frozen 0
        have hm' := setIs_congr hm (fun s _ => hend.out s)
        go_wp2_with (go_at_call 35; refine (doorBits_any _ _ _ _ hm').mono ?_; rintro e w' ⟨rfl, rfl⟩)
        refine leaves_cons (f := 33) (args := #[.pointer (some ⟨w.heap.size, 0, none⟩), .pointer (some ⟨w.heap.size + 1, 0, none⟩)]) (by simp) (by simp [go_sem]) ?_; refine (clo_Bits _ _ _).mono ?_; rintro e u' w'' ⟨rfl, rfl, rfl⟩
        simp [Leaves, settle, results, Tryd.results15, asAddr, go_sem, c1, c2]
        exact ((hB0.trans (hb.mono (by omega))).setCell (by simp) _).setCell (by simp) _
end Go.Proofs.YtkbbncobgmepbaaDoor
