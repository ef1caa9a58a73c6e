/- The reading of a move of four or five letters without a position. -/
import Derived.Test.YtpoomblloahahaaGreatDoorPoA
import Derived.Deep.Cut
import Derived.Deep.CutRange
namespace Go.Proofs.YtpoomblloahahaaGreatDoor
open Go.ChangeShapes Go.WideShapes Go.ChangeAt Go.RowKit Go.PlainAid
set_option maxHeartbeats 1000000
set_option linter.unusedVariables false
set_option linter.unusedSimpArgs false
attribute [local go_sem] tx_list tx_size bt_tx

theorem newErr_any (s : ByteArray) (w : World) :
    Calls Tryz.prog 23 #[.string s] w fun e w' => (∃ a, e = .returned (.iface 117 (.pointer (some ⟨a, 0, none⟩)))) ∧ Below w.heap.size w w' := by
  go_enter Tryz.func23, Tryz.ntmps23
  go_wp2
  go_ret
  exact ⟨⟨_, rfl⟩, (Below.refl _ _).alloc (Nat.le_refl _) _⟩
/-- The byte at a place, as a number. -/
def bi (L : List UInt8) (k : Nat) : Int := ((L.getD k 0).toNat : Int)
theorem bi_range (L : List UInt8) (k : Nat) : 0 ≤ bi L k ∧ bi L k < 256 := by
  unfold bi; have := (L.getD k 0).toNat_lt; omega
theorem bt_bi (L : List UInt8) (k : Nat) : bt (tx L) k = bi L k := bt_tx L k
def pmap (c : Int) : Int := if c = 110 then 5 else if c = 98 then 4 else if c = 114 then 3 else if c = 113 then 2 else 0
def mvF (a b p : Int) (t : Int) : Nat → Value
  | 0 => .pointer none | 1 => .pointer none | 2 => .string ⟨#[]⟩ | 3 => .string ⟨#[]⟩ | 4 => .map none | 5 => .slice none 0 0 | 6 => .int .u64 0 | 7 => .int .u16 t | 8 => .int .i8 a | 9 => .int .i8 b | _ => .int .i8 p
theorem mv_lit (a b p : Int) (j : Nat) (hj : j < 11) : (#[Value.pointer none, Value.pointer none, Value.string ⟨#[]⟩, Value.string ⟨#[]⟩, Value.map none, Value.slice none 0 0, Value.int .u64 0, Value.int .u16 0, Value.int .i8 a, Value.int .i8 b, Value.int .i8 p] : Array Value).getD j undef = mvF a b p 0 j := by
  have : j = 0 ∨ j = 1 ∨ j = 2 ∨ j = 3 ∨ j = 4 ∨ j = 5 ∨ j = 6 ∨ j = 7 ∨ j = 8 ∨ j = 9 ∨ j = 10 := by omega
  rcases this with rfl | rfl | rfl | rfl | rfl | rfl | rfl | rfl | rfl | rfl | rfl <;> rfl
def pmF (j : Nat) : Value := .int .i8 (pmap j)
theorem zero256 : Tryz.zeroCells133 = Array.replicate 256 (.int .i8 0) := by kernel_rfl
theorem pm_eq : (((Tryz.zeroCells133.setIfInBounds 110 (.int .i8 5)).setIfInBounds 98 (.int .i8 4)).setIfInBounds 114 (.int .i8 3)).setIfInBounds 113 (.int .i8 2) = rowArr 256 pmF := by
  rw [zero256]
  refine rowArr_eq (by simp) fun n hn => ?_
  unfold pmF pmap
  simp only [Array.getElem?_setIfInBounds, Array.size_setIfInBounds, Array.size_replicate, Array.getElem?_replicate]
  by_cases e1 : n = 113
  · subst e1; rfl
  · by_cases e2 : n = 114
    · subst e2; rfl
    · by_cases e3 : n = 98
      · subst e3; rfl
      · by_cases e4 : n = 110
        · subst e4; rfl
        · rw [if_neg (by omega), if_neg (by omega), if_neg (by omega), if_neg (by omega), if_pos hn, if_neg (by omega), if_neg (by omega), if_neg (by omega), if_neg (by omega)]
theorem pm_one : (rowArr 256 pmF).all (·.oneCell') = true := by
  rw [Array.all_eq_true_iff_forall_mem]
  intro v hv
  simp only [rowArr, List.mem_toArray, List.mem_map] at hv
  obtain ⟨i, _, rfl⟩ := hv
  rfl
theorem info256 : (Tryz.prog.info? 133).map (·.size) = some 256 := by kernel_rfl
theorem pm_row {w : World} {b : Nat} (hb : b = w.heap.size) : ((w.alloc (.cells Tryz.zeroCells133 133)).setCells b 0 (rowArr 256 pmF).toList).rowIs b 133 256 pmF := by
  subst hb
  have h := row_lit w Tryz.zeroCells133 133
  have hs : Tryz.zeroCells133.size = 256 := by rw [zero256]; simp
  rw [hs] at h
  refine (row_store h (rowArr 256 pmF) (rowArr_size _ _)).congr fun j hj => ?_
  rw [Array.getD_eq_getD_getElem?, rowArr_get 256 pmF j hj]; rfl
theorem mv_set (a b p q : Int) (j : Nat) (hj : j < 11) : (if j = 10 then Value.int .i8 q else mvF a b p 0 j) = mvF a b q 0 j := by
  have : j = 0 ∨ j = 1 ∨ j = 2 ∨ j = 3 ∨ j = 4 ∨ j = 5 ∨ j = 6 ∨ j = 7 ∨ j = 8 ∨ j = 9 ∨ j = 10 := by omega
  rcases this with rfl | rfl | rfl | rfl | rfl | rfl | rfl | rfl | rfl | rfl | rfl <;> rfl
def UErr (w : World) (e : Ending) (w' : World) : Prop :=
  (∃ a, e = .returned (.tuple #[.pointer none, .iface 117 (.pointer (some ⟨a, 0, none⟩))])) ∧ Below w.heap.size w w'
theorem decode_len (L : List UInt8) (hL : L.length ≤ 1000) (h : L.length < 4 ∨ 5 < L.length) (w : World) :
    Calls Tryz.prog 40 #[.agg #[], .pointer none, .string (tx L)] w fun e w' => UErr w e w' := by
  have hb0 : Below w.heap.size w (w.alloc (.cells #[] 114)) := (Below.refl _ _).alloc (Nat.le_refl _) _
  by_cases h4 : L.length < 4
  · have d : decide ((L.length : Int) < 4) = true := by simp; omega
    clear h
    go_enter Tryz.func40, Tryz.ntmps40
    go_wp2_with (go_at_call 23; refine (newErr_any _ _).mono ?_; rintro e w1 ⟨⟨a, rfl⟩, hb1⟩)
    go_ret2
    exact ⟨⟨_, rfl⟩, hb0.trans (hb1.mono hb0.size)⟩
  · have d : decide ((L.length : Int) < 4) = false := by simp; omega
    have d2 : decide (5 < (L.length : Int)) = true := by simp; omega
    clear h
    go_enter Tryz.func40, Tryz.ntmps40
    go_wp2_with (go_at_call 23; refine (newErr_any _ _).mono ?_; rintro e w1 ⟨⟨a, rfl⟩, hb1⟩)
    go_ret2
    exact ⟨⟨_, rfl⟩, hb0.trans (hb1.mono hb0.size)⟩
theorem g_at (L : List UInt8) (k : Nat) (h : k < (tx L).size) : ((((tx L)[k]'h).toNat : Nat) : Int) = bi L k := by rw [get_bt (tx L) k h, bt_bi]
set_option maxRecDepth 100000 in
theorem decode_file (L : List UInt8) (h4 : 4 ≤ L.length) (h5 : L.length ≤ 5) (h : bi L 0 < 97 ∨ 104 < bi L 0) (w : World) :
    Calls Tryz.prog 40 #[.agg #[], .pointer none, .string (tx L)] w fun e w' => UErr w e w' := by
  have hb0 : Below w.heap.size w (w.alloc (.cells #[] 114)) := (Below.refl _ _).alloc (Nat.le_refl _) _
  have d1 : decide ((L.length : Int) < 4) = false := by simp; omega
  have d2 : decide (5 < (L.length : Int)) = false := by simp; omega
  have g0 := g_at L 0
  have r0 := bi_range L 0
  have hd : (decide (bi L 0 < 97) = true) ∨ (decide (bi L 0 < 97) = false ∧ decide (104 < bi L 0) = true) := by
    rcases h with h | h
    · exact .inl (by simpa using h)
    · exact .inr ⟨by simp; omega, by simpa using h⟩
  clear h
  generalize bi L 0 = c0 at *
  rcases hd with hd | ⟨hd, hd2⟩
  all_goals
    go_enter Tryz.func40, Tryz.ntmps40
    go_wp2
    generalize (w.alloc (.cells #[] 114)) = w1 at *
    go_loopw [9] (fun i wr => i = .int .i64 0 ∧ w1 = wr) (fun i _ => 2 - (intOf i).toNat)
    case atStart => exact ⟨rfl, rfl⟩
    case round =>
      obtain ⟨rfl, rfl⟩ := hrel
      go_wp2_with (go_at_call 23; refine (newErr_any _ _).mono ?_; rintro e w2 ⟨⟨a, rfl⟩, hb2⟩)
      go_ret2
      exact ⟨⟨_, rfl⟩, hb0.trans (hb2.mono hb0.size)⟩
set_option maxRecDepth 100000 in
theorem decode_rank (L : List UInt8) (h4 : 4 ≤ L.length) (h5 : L.length ≤ 5) (h0 : 97 ≤ bi L 0) (h1 : bi L 0 ≤ 104) (h : bi L 1 < 49 ∨ 56 < bi L 1) (w : World) :
    Calls Tryz.prog 40 #[.agg #[], .pointer none, .string (tx L)] w fun e w' => UErr w e w' := by
  have hb0 : Below w.heap.size w (w.alloc (.cells #[] 114)) := (Below.refl _ _).alloc (Nat.le_refl _) _
  have d1 : decide ((L.length : Int) < 4) = false := by simp; omega
  have d2 : decide (5 < (L.length : Int)) = false := by simp; omega
  have g0 := g_at L 0
  have g1 := g_at L 1
  have r1 := bi_range L 1
  have hd : (decide (bi L 1 < 49) = true) ∨ (decide (bi L 1 < 49) = false ∧ decide (56 < bi L 1) = true) := by
    rcases h with h | h
    · exact .inl (by simpa using h)
    · exact .inr ⟨by simp; omega, by simpa using h⟩
  have f1 : decide (bi L 0 < 97) = false := by simp; omega
  have f2 : decide (104 < bi L 0) = false := by simp; omega
  clear h
  generalize bi L 0 = c0 at *
  generalize bi L 1 = c1 at *
  rcases hd with hd | ⟨hd, hd2⟩
  all_goals
    go_enter Tryz.func40, Tryz.ntmps40
    go_wp2
    generalize (w.alloc (.cells #[] 114)) = w1 at *
    go_loopw [9] (fun i wr => i = .int .i64 0 ∧ w1 = wr) (fun i _ => 2 - (intOf i).toNat)
    case atStart => exact ⟨rfl, rfl⟩
    case round =>
      obtain ⟨rfl, rfl⟩ := hrel
      go_wp2_with (go_at_call 23; refine (newErr_any _ _).mono ?_; rintro e w2 ⟨⟨a, rfl⟩, hb2⟩)
      go_ret2
      exact ⟨⟨_, rfl⟩, hb0.trans (hb2.mono hb0.size)⟩
def sq2 (L : List UInt8) : Int := IntKind.i8.wrap ((bi L 2 - 97 + (bi L 3 - 49) % 256 * 8) % 256)
def sq1 (L : List UInt8) : Int := bi L 0 - 97 + (bi L 1 - 49) * 8
theorem sq2_range (L : List UInt8) : -128 ≤ sq2 L ∧ sq2 L ≤ 127 := by
  unfold sq2
  generalize (bi L 2 - 97 + (bi L 3 - 49) % 256 * 8) % 256 = x
  have h1 : -128 ≤ (x + 128) % 256 - 128 := by omega
  have h2 : (x + 128) % 256 - 128 ≤ 127 := by omega
  have : IntKind.i8.wrap x = (x + 128) % 256 - 128 := by
    simp only [IntKind.wrap, IntKind.bits, IntKind.signed]
    simp
    split <;> omega
  rw [this]
  exact ⟨h1, h2⟩
def UGood (L : List UInt8) (p : Int) (w : World) (e : Ending) (w' : World) : Prop :=
  ∃ g, w.heap.size ≤ g ∧ e = .returned (.tuple #[.pointer (some ⟨g, 0, none⟩), .nilIface]) ∧ w'.rowIs g 57 11 (mvF (sq1 L) (sq2 L) p 0) ∧ Below w.heap.size w w'
set_option maxRecDepth 100000 in
theorem decode_sq (L : List UInt8) (h4 : 4 ≤ L.length) (h5 : L.length ≤ 5) (h0 : 97 ≤ bi L 0) (h1 : bi L 0 ≤ 104) (h2 : 49 ≤ bi L 1) (h3 : bi L 1 ≤ 56) (h : sq2 L < 0 ∨ 63 < sq2 L)  (w : World) :
    Calls Tryz.prog 40 #[.agg #[], .pointer none, .string (tx L)] w fun e w' => UErr w e w' := by
  have hb0 : Below w.heap.size w (w.alloc (.cells #[] 114)) := (Below.refl _ _).alloc (Nat.le_refl _) _
  have d1 : decide ((L.length : Int) < 4) = false := by simp; omega
  have d2 : decide (5 < (L.length : Int)) = false := by simp; omega

  have g0 := g_at L 0
  have g1 := g_at L 1
  have g2 := g_at L 2
  have g3 := g_at L 3
  have r2 := bi_range L 2
  have r3 := bi_range L 3
  have rs := sq2_range L
  have f1 : decide (bi L 0 < 97) = false := by simp; omega
  have f2 : decide (104 < bi L 0) = false := by simp; omega
  have f3 : decide (bi L 1 < 49) = false := by simp; omega
  have f4 : decide (56 < bi L 1) = false := by simp; omega
  have he : IntKind.i8.wrap ((bi L 2 - 97 + (bi L 3 - 49) % 256 * 8) % 256) = sq2 L := rfl
  have hq : sq1 L = bi L 0 - 97 + (bi L 1 - 49) * 8 := rfl

  generalize sq2 L = s at *
  generalize sq1 L = s1 at *
  generalize bi L 0 = c0 at *
  generalize bi L 1 = c1 at *
  generalize bi L 2 = c2 at *
  generalize bi L 3 = c3 at *

  replace hq := Lib.hid hq



  have hd : (decide (s < 0) = true) ∨ (decide (s < 0) = false ∧ decide (63 < s) = true) := by
    rcases h with h | h
    · exact .inl (by simpa using h)
    · exact .inr ⟨by simp; omega, by simpa using h⟩
  go_enter Tryz.func40, Tryz.ntmps40
  go_wp2
  generalize (w.alloc (.cells #[] 114)) = w1 at *
  go_loopw [9] (fun i wr => (i = .int .i64 0 ∨ i = .int .i64 2) ∧ w1 = wr) (fun i _ => 2 - (intOf i).toNat)
  case atStart => exact ⟨.inl rfl, rfl⟩
  case round =>
    obtain ⟨rfl | rfl, rfl⟩ := hrel
    · go_wp2_with (fail)
      exact ⟨⟨.inr (by go_num), trivial⟩, by simp [intOf]⟩
    · go_wp2_with (fail)
      go_quiet (fail)
      go_wp2_with (fail)
      go_quiet (fail)
      have hdr : ∀ n m, Below w.heap.size w ((w1.drewN n).drewN m) := fun n m => hb0.trans ⟨rfl, rfl, rfl, Nat.le_refl _, fun _ _ => rfl⟩
      generalize hW : World.drewN (World.drewN w1 _) _ = w3
      have hb3 : Below w.heap.size w w3 := by rw [← hW]; exact hdr _ _
      clear hdr hW hb0
      rcases hd with hd | ⟨hd, hd2⟩
      all_goals
        go_wp2_with (go_at_call 23; refine (newErr_any _ _).mono ?_; rintro e w2 ⟨⟨a, rfl⟩, hb2⟩)
        go_ret2
        exact ⟨⟨_, rfl⟩, hb3.trans (hb2.mono hb3.size)⟩
set_option maxRecDepth 100000 in
theorem decode_four (L : List UInt8) (h4 : 4 ≤ L.length) (h5 : L.length ≤ 5) (h0 : 97 ≤ bi L 0) (h1 : bi L 0 ≤ 104) (h2 : 49 ≤ bi L 1) (h3 : bi L 1 ≤ 56) (h : 0 ≤ sq2 L ∧ sq2 L ≤ 63) (hl : L.length = 4) (w : World) :
    Calls Tryz.prog 40 #[.agg #[], .pointer none, .string (tx L)] w fun e w' => UGood L 0 w e w' := by
  have hb0 : Below w.heap.size w (w.alloc (.cells #[] 114)) := (Below.refl _ _).alloc (Nat.le_refl _) _
  have d1 : decide ((L.length : Int) < 4) = false := by simp; omega
  have d2 : decide (5 < (L.length : Int)) = false := by simp; omega
  have d3 : ((L.length : Int) == 5) = false := by rw [hl]; rfl
  have g0 := g_at L 0
  have g1 := g_at L 1
  have g2 := g_at L 2
  have g3 := g_at L 3
  have r2 := bi_range L 2
  have r3 := bi_range L 3
  have rs := sq2_range L
  have f1 : decide (bi L 0 < 97) = false := by simp; omega
  have f2 : decide (104 < bi L 0) = false := by simp; omega
  have f3 : decide (bi L 1 < 49) = false := by simp; omega
  have f4 : decide (56 < bi L 1) = false := by simp; omega
  have he : IntKind.i8.wrap ((bi L 2 - 97 + (bi L 3 - 49) % 256 * 8) % 256) = sq2 L := rfl
  have hq : sq1 L = bi L 0 - 97 + (bi L 1 - 49) * 8 := rfl
  unfold UGood
  generalize sq2 L = s at *
  generalize sq1 L = s1 at *
  generalize bi L 0 = c0 at *
  generalize bi L 1 = c1 at *
  generalize bi L 2 = c2 at *
  generalize bi L 3 = c3 at *

  replace hq := Lib.hid hq




  go_enter Tryz.func40, Tryz.ntmps40
  go_wp2
  generalize (w.alloc (.cells #[] 114)) = w1 at *
  go_loopw [9] (fun i wr => (i = .int .i64 0 ∨ i = .int .i64 2) ∧ w1 = wr) (fun i _ => 2 - (intOf i).toNat)
  case atStart => exact ⟨.inl rfl, rfl⟩
  case round =>
    obtain ⟨rfl | rfl, rfl⟩ := hrel
    · go_wp2_with (fail)
      exact ⟨⟨.inr (by go_num), trivial⟩, by simp [intOf]⟩
    · go_wp2_with (fail)
      go_quiet (fail)
      go_wp2_with (fail)
      go_quiet (fail)
      have hdr : ∀ n m, Below w.heap.size w ((w1.drewN n).drewN m) := fun n m => hb0.trans ⟨rfl, rfl, rfl, Nat.le_refl _, fun _ _ => rfl⟩
      generalize hW : World.drewN (World.drewN w1 _) _ = w3
      have hb3 : Below w.heap.size w w3 := by rw [← hW]; exact hdr _ _
      clear hdr hW hb0
      go_wp2_with (fail)
      go_ret2
      refine ⟨w3.heap.size, hb3.size, rfl, (row_lit w3 _ _).congr (fun j hj => ?_), hb3.alloc hb3.size _⟩
      rw [hq.out]
      exact mv_lit _ _ _ j hj
set_option maxRecDepth 100000 in
theorem decode_nop (L : List UInt8) (h4 : 4 ≤ L.length) (h5 : L.length ≤ 5) (h0 : 97 ≤ bi L 0) (h1 : bi L 0 ≤ 104) (h2 : 49 ≤ bi L 1) (h3 : bi L 1 ≤ 56) (h : 0 ≤ sq2 L ∧ sq2 L ≤ 63) (hl : L.length = 5) (hp : pmap (bi L 4) = 0) (w : World) :
    Calls Tryz.prog 40 #[.agg #[], .pointer none, .string (tx L)] w fun e w' => UErr w e w' := by
  have hb0 : Below w.heap.size w (w.alloc (.cells #[] 114)) := (Below.refl _ _).alloc (Nat.le_refl _) _
  have d1 : decide ((L.length : Int) < 4) = false := by simp; omega
  have d2 : decide (5 < (L.length : Int)) = false := by simp; omega
  have d3 : ((L.length : Int) == 5) = true := by rw [hl]; rfl
  have g4 := g_at L 4
  have r4 := bi_range L 4
  have g0 := g_at L 0
  have g1 := g_at L 1
  have g2 := g_at L 2
  have g3 := g_at L 3
  have r2 := bi_range L 2
  have r3 := bi_range L 3
  have rs := sq2_range L
  have f1 : decide (bi L 0 < 97) = false := by simp; omega
  have f2 : decide (104 < bi L 0) = false := by simp; omega
  have f3 : decide (bi L 1 < 49) = false := by simp; omega
  have f4 : decide (56 < bi L 1) = false := by simp; omega
  have he : IntKind.i8.wrap ((bi L 2 - 97 + (bi L 3 - 49) % 256 * 8) % 256) = sq2 L := rfl
  have hq : sq1 L = bi L 0 - 97 + (bi L 1 - 49) * 8 := rfl

  generalize sq2 L = s at *
  generalize sq1 L = s1 at *
  generalize bi L 0 = c0 at *
  generalize bi L 1 = c1 at *
  generalize bi L 2 = c2 at *
  generalize bi L 3 = c3 at *
  generalize bi L 4 = c4 at *
  replace hq := Lib.hid hq
  have hq0 : (pmap c4 == 0) = true := by simpa using hp
  generalize hqq : pmap c4 = q at *
  replace hqq := Lib.hid hqq

  go_enter Tryz.func40, Tryz.ntmps40
  go_wp2
  generalize (w.alloc (.cells #[] 114)) = w1 at *
  go_loopw [9] (fun i wr => (i = .int .i64 0 ∨ i = .int .i64 2) ∧ w1 = wr) (fun i _ => 2 - (intOf i).toNat)
  case atStart => exact ⟨.inl rfl, rfl⟩
  case round =>
    obtain ⟨rfl | rfl, rfl⟩ := hrel
    · go_wp2_with (fail)
      exact ⟨⟨.inr (by go_num), trivial⟩, by simp [intOf]⟩
    · go_wp2_with (fail)
      go_quiet (fail)
      go_wp2_with (fail)
      go_quiet (fail)
      have hdr : ∀ n m, Below w.heap.size w ((w1.drewN n).drewN m) := fun n m => hb0.trans ⟨rfl, rfl, rfl, Nat.le_refl _, fun _ _ => rfl⟩
      generalize hW : World.drewN (World.drewN w1 _) _ = w3
      have hb3 : Below w.heap.size w w3 := by rw [← hW]; exact hdr _ _
      clear hdr hW hb0
      go_upto_region 17 with (fail)
      have hpm := pm_eq
      have hb4 := hb3.alloc hb3.size (.cells #[Value.pointer none, Value.pointer none, Value.string ⟨#[]⟩, Value.string ⟨#[]⟩, Value.map none, Value.slice none 0 0, Value.int .u64 0, Value.int .u16 0, Value.int .i8 (c0 - 97 + (c1 - 49) * 8), Value.int .i8 s, Value.int .i8 0] 57)
      have hr4 := row_lit w3 #[Value.pointer none, Value.pointer none, Value.string ⟨#[]⟩, Value.string ⟨#[]⟩, Value.map none, Value.slice none 0 0, Value.int .u64 0, Value.int .u16 0, Value.int .i8 (c0 - 97 + (c1 - 49) * 8), Value.int .i8 s, Value.int .i8 0] 57
      generalize hW4 : World.alloc w3 _ = w4 at *
      clear hW4
      have hm4 : w4.rowIs w3.heap.size 57 11 (mvF (c0 - 97 + (c1 - 49) * 8) s 0 0) := hr4.congr (fun j hj => mv_lit _ _ _ j hj)
      clear hr4
      go_wp2_with (refine wpList_store_mid rfl 133 _ _ rfl w4.heap.size 0 (rowArr 256 pmF) rfl rfl (by rw [rowArr_size]; exact rowIs_there (row_lit w4 _ _)) (by rw [info256, rowArr_size]) pm_one ?_; have hpr := pm_row (w := w4) rfl; have hm5 := (hm4.alloc (.cells Tryz.zeroCells133 133)).of_block (setCells_other w4.heap.size (rowArr 256 pmF).toList 0 _ w3.heap.size (by have := hm4.lt; omega)); have hb5 := below_setCells hb4.size (rowArr 256 pmF).toList 0 _ (hb4.alloc hb4.size (.cells Tryz.zeroCells133 133)); generalize (w4.alloc (.cells Tryz.zeroCells133 133)).setCells w4.heap.size 0 (rowArr 256 pmF).toList = w5 at *; have hc5 := hpr.cell (i := c4.toNat) (by omega); rw [show pmF c4.toNat = .int .i8 q from by rw [← hqq.out, pmF, Int.toNat_of_nonneg r4.1]] at hc5; have hcm := hm5.cell (i := 10) (by omega); have hfm := hm5.frozen 10; clear hpr hm4 hb4 hpm)
      all_goals try go_wp2_with (go_at_call 23; refine (newErr_any _ _).mono ?_; rintro e w6 ⟨⟨a, rfl⟩, hb6⟩)
      go_ret2
      exact ⟨⟨_, rfl⟩, hb5.trans (hb6.mono hb5.size)⟩
set_option maxRecDepth 100000 in
theorem decode_five (L : List UInt8) (h4 : 4 ≤ L.length) (h5 : L.length ≤ 5) (h0 : 97 ≤ bi L 0) (h1 : bi L 0 ≤ 104) (h2 : 49 ≤ bi L 1) (h3 : bi L 1 ≤ 56) (h : 0 ≤ sq2 L ∧ sq2 L ≤ 63) (hl : L.length = 5) (hp : pmap (bi L 4) ≠ 0) (w : World) :
    Calls Tryz.prog 40 #[.agg #[], .pointer none, .string (tx L)] w fun e w' => UGood L (pmap (bi L 4)) w e w' := by
  have hb0 : Below w.heap.size w (w.alloc (.cells #[] 114)) := (Below.refl _ _).alloc (Nat.le_refl _) _
  have d1 : decide ((L.length : Int) < 4) = false := by simp; omega
  have d2 : decide (5 < (L.length : Int)) = false := by simp; omega
  have d3 : ((L.length : Int) == 5) = true := by rw [hl]; rfl
  have g4 := g_at L 4
  have r4 := bi_range L 4
  have g0 := g_at L 0
  have g1 := g_at L 1
  have g2 := g_at L 2
  have g3 := g_at L 3
  have r2 := bi_range L 2
  have r3 := bi_range L 3
  have rs := sq2_range L
  have f1 : decide (bi L 0 < 97) = false := by simp; omega
  have f2 : decide (104 < bi L 0) = false := by simp; omega
  have f3 : decide (bi L 1 < 49) = false := by simp; omega
  have f4 : decide (56 < bi L 1) = false := by simp; omega
  have he : IntKind.i8.wrap ((bi L 2 - 97 + (bi L 3 - 49) % 256 * 8) % 256) = sq2 L := rfl
  have hq : sq1 L = bi L 0 - 97 + (bi L 1 - 49) * 8 := rfl
  unfold UGood
  generalize sq2 L = s at *
  generalize sq1 L = s1 at *
  generalize bi L 0 = c0 at *
  generalize bi L 1 = c1 at *
  generalize bi L 2 = c2 at *
  generalize bi L 3 = c3 at *
  generalize bi L 4 = c4 at *
  replace hq := Lib.hid hq
  have hq0 : (pmap c4 == 0) = false := by simpa using hp
  generalize hqq : pmap c4 = q at *
  replace hqq := Lib.hid hqq

  go_enter Tryz.func40, Tryz.ntmps40
  go_wp2
  generalize (w.alloc (.cells #[] 114)) = w1 at *
  go_loopw [9] (fun i wr => (i = .int .i64 0 ∨ i = .int .i64 2) ∧ w1 = wr) (fun i _ => 2 - (intOf i).toNat)
  case atStart => exact ⟨.inl rfl, rfl⟩
  case round =>
    obtain ⟨rfl | rfl, rfl⟩ := hrel
    · go_wp2_with (fail)
      exact ⟨⟨.inr (by go_num), trivial⟩, by simp [intOf]⟩
    · go_wp2_with (fail)
      go_quiet (fail)
      go_wp2_with (fail)
      go_quiet (fail)
      have hdr : ∀ n m, Below w.heap.size w ((w1.drewN n).drewN m) := fun n m => hb0.trans ⟨rfl, rfl, rfl, Nat.le_refl _, fun _ _ => rfl⟩
      generalize hW : World.drewN (World.drewN w1 _) _ = w3
      have hb3 : Below w.heap.size w w3 := by rw [← hW]; exact hdr _ _
      clear hdr hW hb0
      go_upto_region 17 with (fail)
      have hpm := pm_eq
      have hb4 := hb3.alloc hb3.size (.cells #[Value.pointer none, Value.pointer none, Value.string ⟨#[]⟩, Value.string ⟨#[]⟩, Value.map none, Value.slice none 0 0, Value.int .u64 0, Value.int .u16 0, Value.int .i8 (c0 - 97 + (c1 - 49) * 8), Value.int .i8 s, Value.int .i8 0] 57)
      have hr4 := row_lit w3 #[Value.pointer none, Value.pointer none, Value.string ⟨#[]⟩, Value.string ⟨#[]⟩, Value.map none, Value.slice none 0 0, Value.int .u64 0, Value.int .u16 0, Value.int .i8 (c0 - 97 + (c1 - 49) * 8), Value.int .i8 s, Value.int .i8 0] 57
      generalize hW4 : World.alloc w3 _ = w4 at *
      clear hW4
      have hm4 : w4.rowIs w3.heap.size 57 11 (mvF (c0 - 97 + (c1 - 49) * 8) s 0 0) := hr4.congr (fun j hj => mv_lit _ _ _ j hj)
      clear hr4
      go_wp2_with (refine wpList_store_mid rfl 133 _ _ rfl w4.heap.size 0 (rowArr 256 pmF) rfl rfl (by rw [rowArr_size]; exact rowIs_there (row_lit w4 _ _)) (by rw [info256, rowArr_size]) pm_one ?_; have hpr := pm_row (w := w4) rfl; have hm5 := (hm4.alloc (.cells Tryz.zeroCells133 133)).of_block (setCells_other w4.heap.size (rowArr 256 pmF).toList 0 _ w3.heap.size (by have := hm4.lt; omega)); have hb5 := below_setCells hb4.size (rowArr 256 pmF).toList 0 _ (hb4.alloc hb4.size (.cells Tryz.zeroCells133 133)); generalize (w4.alloc (.cells Tryz.zeroCells133 133)).setCells w4.heap.size 0 (rowArr 256 pmF).toList = w5 at *; have hc5 := hpr.cell (i := c4.toNat) (by omega); rw [show pmF c4.toNat = .int .i8 q from by rw [← hqq.out, pmF, Int.toNat_of_nonneg r4.1]] at hc5; have hcm := hm5.cell (i := 10) (by omega); have hfm := hm5.frozen 10; clear hpr hm4 hb4 hpm)
      all_goals try go_wp2_with (go_at_call 23; refine (newErr_any _ _).mono ?_; rintro e w6 ⟨⟨a, rfl⟩, hb6⟩)
      go_ret2
      refine ⟨w3.heap.size, hb3.size, rfl, (hm5.set 10 _).congr (fun j hj => ?_), hb5.setCell hb3.size _⟩
      rw [hq.out]
      exact mv_set _ _ _ _ j hj
end Go.Proofs.YtpoomblloahahaaGreatDoor
