/- Standard algebraic notation: zzSan finds the way to read a text, or none. -/
import Derived.Test.YtkbbncobgmepbaaDoorSanFind
namespace Go.Proofs.YtkbbncobgmepbaaDoor
open Go.ChangeShapes Go.WideShapes Go.ChangeAt Go.RowKit Go.PlainAid
set_option maxHeartbeats 1000000
set_option linter.unusedVariables false
set_option linter.unusedSimpArgs false
attribute [local go_sem] tx_list tx_size

def castA : List UInt8 := [79, 45, 79, 45, 79]
def castO : List UInt8 := [79, 45, 79]
def castB (L o : List UInt8) : Bool := decide (o.length ≤ L.length) && (L.take o.length == o) && tailB L o.length
def noHit (L : List UInt8) : Prop := ∀ a b c d p, ¬ Hit L a b c d p
/-- How a text is read: its eight parts, or nothing. -/
def SanR (L : List UInt8) : Option (List (List UInt8)) → Prop
  | some l => (∃ a b c d p, Hit L a b c d p ∧ l = partsOf L a b c d p) ∨ (noHit L ∧ castB L castA = true ∧ l = [[], [], [], [], [], [], [], castA]) ∨ (noHit L ∧ castB L castA = false ∧ castB L castO = true ∧ l = [[], [], [], [], [], [], [], castO])
  | none => noHit L ∧ castB L castA = false ∧ castB L castO = false
theorem SanR.uniq {L : List UInt8} {r r' : Option (List (List UInt8))} (h : SanR L r) (h' : SanR L r') : r = r' := by
  cases r with
  | none =>
    obtain ⟨n1, n2, n3⟩ := h
    cases r' with
    | none => rfl
    | some l' =>
      rcases h' with ⟨a, b, c, d, p, hh, _⟩ | ⟨_, h2, _⟩ | ⟨_, _, h2, _⟩
      · exact absurd hh (n1 a b c d p)
      · rw [n2] at h2; cases h2
      · rw [n3] at h2; cases h2
  | some l =>
    cases r' with
    | none =>
      obtain ⟨n1, n2, n3⟩ := h'
      rcases h with ⟨a, b, c, d, p, hh, _⟩ | ⟨_, h2, _⟩ | ⟨_, _, h2, _⟩
      · exact absurd hh (n1 a b c d p)
      · rw [n2] at h2; cases h2
      · rw [n3] at h2; cases h2
    | some l' =>
      rcases h with ⟨a, b, c, d, p, hh, rfl⟩ | ⟨n1, h2, rfl⟩ | ⟨n1, h2, h3, rfl⟩ <;> rcases h' with ⟨a', b', c', d', p', hh', rfl⟩ | ⟨n1', h2', rfl⟩ | ⟨n1', h2', h3', rfl⟩
      · obtain ⟨rfl, rfl, rfl, rfl, rfl⟩ := hit_uniq hh hh'; rfl
      · exact absurd hh (n1' a b c d p)
      · exact absurd hh (n1' a b c d p)
      · exact absurd hh' (n1 a' b' c' d' p')
      · rfl
      · rw [h2] at h2'; cases h2'
      · exact absurd hh' (n1 a' b' c' d' p')
      · rw [h2'] at h2; cases h2
      · rfl
theorem one_at (S L : List UInt8) (hS : S.length ≤ 1000) (hL : L.length ≤ 1000) (x : Int) (i : Nat) (hx : x = i) (hi : i ≤ 2000) (H : Nat) (w : World) (hc : w.cell? ⟨H, 0, none⟩ = some (.string (tx L))) :
    Calls Tryd.prog 64 #[.int .i64 x, .string (tx S), .pointer (some ⟨H, 0, none⟩)] w fun e w' => e = .returned (.int .i64 ((oneB S L i : Nat) : Int)) ∧ Below w.heap.size w w' := by
  subst hx; exact one_any S L hS hL i hi H w hc
theorem one_v (S L : List UInt8) (hS : S.length ≤ 1000) (hL : L.length ≤ 1000) (x : Int) (i : Nat) (hx : x = i) (hi : i ≤ 2000) (v : Int) (hv : ((oneB S L i : Nat) : Int) = v) (H : Nat) (w : World) (hc : w.cell? ⟨H, 0, none⟩ = some (.string (tx L))) :
    Calls Tryd.prog 64 #[.int .i64 x, .string (tx S), .pointer (some ⟨H, 0, none⟩)] w fun e w' => e = .returned (.int .i64 v) ∧ Below w.heap.size w w' := by
  subst hx hv; exact one_any S L hS hL i hi H w hc
theorem one_yes {S L : List UInt8} {i : Nat} (h : has S L i = true) : ((oneB S L i : Nat) : Int) = 1 := by rw [oneB_yes h]; rfl
theorem one_no {S L : List UInt8} {i : Nat} (h : has S L i = false) : ((oneB S L i : Nat) : Int) = 0 := by rw [oneB_no h]; rfl
theorem slice_at (L : List UInt8) (x y : Int) (i j : Nat) (hx : x = i) (hy : y = j) (hij : i ≤ j) (hj : j ≤ L.length) (w : World) : (Instr.slice 9 (.string (tx L)) (some (.int .i64 x)) (some (.int .i64 y)) none).run Tryd.prog w = .ok (.string (tx (mid L i j))) w := by
  subst hx hy; exact slice_mid L i j hij hj w
theorem slice_to (R : List UInt8) (x : Int) (k : Nat) (hx : x = k) (hk : k ≤ R.length) (w : World) : (Instr.slice 9 (.string (tx R)) none (some (.int .i64 x)) none).run Tryd.prog w = .ok (.string (tx (mid R 0 k))) w := by
  subst hx
  rw [run_slice_string_to_if w _ _ _ _ Tryd.underlying9, if_pos ⟨by omega, by rw [tx_size]; omega⟩, Int.toNat_natCast, tx_extract]; rfl
theorem ten_cells (w : World) (x0 x1 x2 x3 x4 x5 x6 x7 x8 x9 : Value) : ∀ i, i < 10 → (w.alloc (.cells #[x0, x1, x2, x3, x4, x5, x6, x7, x8, x9] 9)).cell? ⟨w.heap.size, i, none⟩ = some ([x0, x1, x2, x3, x4, x5, x6, x7, x8, x9].getD i undef) := by
  intro i hi
  have : i = 0 ∨ i = 1 ∨ i = 2 ∨ i = 3 ∨ i = 4 ∨ i = 5 ∨ i = 6 ∨ i = 7 ∨ i = 8 ∨ i = 9 := by omega
  rcases this with rfl | rfl | rfl | rfl | rfl | rfl | rfl | rfl | rfl | rfl <;> simp [go_sem]
def PS (L : List UInt8) (a b c d : Nat) (z0 z : Int) : Prop :=
  ((z = 2 ∧ z0 = 2) ∨ z = 0 ∨ z = -2) ∧ ∀ p : Nat, z < (p : Int) → ¬ Hit L a b c d p
theorem tail_at (L : List UInt8) (hL : L.length ≤ 1000) (x : Int) (i : Nat) (hx : x = i) (hi : i ≤ 2000) (w : World) :
    Calls Tryd.prog 65 #[.string (tx L), .int .i64 x] w fun e w' => e = .returned (.bool (tailB L i)) ∧ w' = w := by
  subst hx; exact tail_any L hL i hi w
def SanW (L : List UInt8) (w0 w : World) : Prop := w0.heap.size < w.heap.size ∧ w.cell? ⟨w0.heap.size, 0, none⟩ = some (.string (tx L)) ∧ Below w0.heap.size w0 w
theorem SanW.below {L : List UInt8} {w0 w w' : World} (h : SanW L w0 w) (hb : Below w.heap.size w w') : SanW L w0 w' :=
  ⟨Nat.lt_of_lt_of_le h.1 hb.size, by rw [hb.cell (show (⟨w0.heap.size, 0, none⟩ : Addr).block < w.heap.size from h.1)]; exact h.2.1, h.2.2.trans (hb.mono h.2.2.size)⟩
theorem sanW_new (L : List UInt8) (w : World) : SanW L w (w.alloc (.cells #[.string (tx L)] 9)) := ⟨by simp, by simp [go_sem], (Below.refl _ _).alloc (Nat.le_refl _) _⟩
/-- What zzSan answers. -/
def SanPost (L : List UInt8) (w : World) (e : Ending) (w' : World) : Prop :=
  ((∃ l g, SanR L (some l) ∧ l.length = 8 ∧ e = .returned (.slice (some ⟨g, 0, none⟩) 10 10) ∧ g < w'.heap.size ∧ w.heap.size ≤ g ∧ ∀ i, i < 8 → w'.cell? ⟨g, i + 1, none⟩ = some (.string (tx (l.getD i [])))) ∨ (SanR L none ∧ e = .returned (.slice none 0 0))) ∧ Below w.heap.size w w'
theorem held_any {P : Program} {ops : Array Oper} {Q : Exit → Act → World → Prop} {S : World → Prop} {id : Nat} {a : Act} {w : World} (hm : P.follows .mixedOrders = true) (hS : S w.drew)
    (h : ∀ wA, S wA → wpAnyH P .any ops Q S ops.size (Array.replicate ops.size false) a wA) : (Code.region id ops true).wp P Q a w := wp_region_held_drew hm hS (fun hh => h _ hh)
theorem two_cells (w : World) (x y : List UInt8) : ∀ i, i < 2 → (w.alloc (.cells #[.string (tx x), .string (tx y)] 9)).cell? ⟨w.heap.size, i, none⟩ = some (.string (tx ([x, y].getD i []))) := by
  intro i hi
  have : i = 0 ∨ i = 1 := by omega
  rcases this with rfl | rfl <;> simp [go_sem]
/-- What the search for castling holds. -/
def CastW (L : List UInt8) (g : Nat) (w0 w : World) : Prop := SanW L w0 w ∧ g < w.heap.size ∧ ∀ i, i < 2 → w.cell? ⟨g, i, none⟩ = some (.string (tx ([castA, castO].getD i [])))
theorem CastW.below {L : List UInt8} {g : Nat} {w0 w w' : World} (h : CastW L g w0 w) (hb : Below w.heap.size w w') : CastW L g w0 w' :=
  ⟨h.1.below hb, Nat.lt_of_lt_of_le h.2.1 hb.size, fun i hi => by rw [hb.cell (show (⟨g, i, none⟩ : Addr).block < w.heap.size from h.2.1)]; exact h.2.2 i hi⟩
theorem castW_new {L : List UInt8} {w0 w : World} (h : SanW L w0 w) : CastW L w.heap.size w0 (w.alloc (.cells #[.string (tx castA), .string (tx castO)] 9)) :=
  ⟨h.below ((Below.refl _ _).alloc (Nat.le_refl _) _), by simp, two_cells w castA castO⟩
theorem take_to (R o : List UInt8) (hk : o.length ≤ R.length) (w : World) : (Instr.slice 9 (.string (tx R)) none (some (.int .i64 (o.length : Int))) none).run Tryd.prog w = .ok (.string (tx (R.take o.length))) w := by
  rw [slice_to R _ o.length rfl hk w]; rfl
set_option maxHeartbeats 16000000 in
set_option maxRecDepth 100000 in
theorem zzSan_any (L : List UInt8) (hL : L.length ≤ 100) (w : World) :
    Calls Tryd.prog 50 #[.string (tx L)] w fun e w' => SanPost L w e w' := by
  have hL1 : L.length ≤ 1000 := by omega
  have hw0 := sanW_new L w
  have hmf := mkf Tryd.prog
  go_enter Tryd.func50, Tryd.ntmps50
  go_wp2_with (fail)
  generalize (w.alloc (.cells #[.string (tx L)] 9)) = w1 at *
  refine (one_at pieceS L (by decide) hL1 _ 0 rfl (by omega) w.heap.size _ hw0.2.1).mono ?_
  rintro e w2 ⟨rfl, hb2⟩
  have hw := hw0.below hb2
  clear hw0 hb2
  go_wp2_with (fail)
  have b1 := oneB_le pieceS L 0
  go_loopw [4, 5, 6, 7, 8, 9, 10] (fun a _ _ _ _ _ _ wr => ∃ x : Int, -1 ≤ x ∧ x ≤ (oneB pieceS L (0) : Nat) ∧ a = .int .i64 x ∧ (∀ a' b c d p : Nat, x < (a' : Int) → ¬ Hit L  a' b c d p) ∧ SanW L w wr) (fun a _ _ _ _ _ _ _ => (intOf a + 1).toNat)
  case atStart => exact ⟨_, by omega, Int.le_refl _, rfl, fun a' b c d p h hh => by have := hh.ha; omega, hw⟩
  case round =>
    clear hw
    obtain ⟨x, hx0, hx1, rfl, hno1, hw⟩ := hrel
    by_cases hx : 0 ≤ x
    · obtain ⟨a, rfl⟩ := Int.eq_ofNat_of_zero_le hx
      replace hno1 := Lib.hid hno1
      go_wp2_with (fail)
      refine (one_at fileS L (by decide) hL1 _ (a) (by omega) (by omega) w.heap.size _ hw.2.1).mono ?_
      rintro e w3 ⟨rfl, hbn⟩
      replace hw := hw.below hbn
      clear hbn
      go_wp2_with (fail)
      have b2 := oneB_le fileS L (a)
      go_loopw [5, 6, 7, 8, 9, 10] (fun b _ _ _ _ _ wr => ∃ y : Int, -1 ≤ y ∧ y ≤ (oneB fileS L (a) : Nat) ∧ b = .int .i64 y ∧ (∀ b' c d p : Nat, y < (b' : Int) → ¬ Hit L a b' c d p) ∧ SanW L w wr) (fun b _ _ _ _ _ _ => (intOf b + 1).toNat)
      case atStart => exact ⟨_, by omega, Int.le_refl _, rfl, fun b' c d p h hh => by have := hh.hb; omega, hw⟩
      case round =>
        clear hw
        obtain ⟨y, hy0, hy1, rfl, hno2, hw⟩ := hrel
        by_cases hy : 0 ≤ y
        · obtain ⟨b, rfl⟩ := Int.eq_ofNat_of_zero_le hy
          replace hno2 := Lib.hid hno2
          go_wp2_with (fail)
          refine (one_at digS L (by decide) hL1 _ (a + b) (by omega) (by omega) w.heap.size _ hw.2.1).mono ?_
          rintro e w4 ⟨rfl, hbn⟩
          replace hw := hw.below hbn
          clear hbn
          go_wp2_with (fail)
          have b3 := oneB_le digS L (a + b)
          go_loopw [6, 7, 8, 9, 10] (fun c _ _ _ _ wr => ∃ z : Int, -1 ≤ z ∧ z ≤ (oneB digS L (a + b) : Nat) ∧ c = .int .i64 z ∧ (∀ c' d p : Nat, z < (c' : Int) → ¬ Hit L a b c' d p) ∧ SanW L w wr) (fun c _ _ _ _ _ => (intOf c + 1).toNat)
          case atStart => exact ⟨_, by omega, Int.le_refl _, rfl, fun c' d p h hh => by have := hh.hc; omega, hw⟩
          case round =>
            clear hw
            obtain ⟨z, hz0, hz1, rfl, hno3, hw⟩ := hrel
            by_cases hz : 0 ≤ z
            · obtain ⟨c, rfl⟩ := Int.eq_ofNat_of_zero_le hz
              replace hno3 := Lib.hid hno3
              go_wp2_with (fail)
              refine (one_at xS L (by decide) hL1 _ (a + b + c) (by omega) (by omega) w.heap.size _ hw.2.1).mono ?_
              rintro e w5 ⟨rfl, hbn⟩
              replace hw := hw.below hbn
              clear hbn
              go_wp2_with (fail)
              have b4 := oneB_le xS L (a + b + c)
              go_loopw [7, 8, 9, 10] (fun d _ _ _ wr => ∃ v : Int, -1 ≤ v ∧ v ≤ (oneB xS L (a + b + c) : Nat) ∧ d = .int .i64 v ∧ (∀ d' p : Nat, v < (d' : Int) → ¬ Hit L a b c d' p) ∧ SanW L w wr) (fun d _ _ _ _ => (intOf d + 1).toNat)
              case atStart => exact ⟨_, by omega, Int.le_refl _, rfl, fun d' p h hh => by have := hh.hd; omega, hw⟩
              case round =>
                clear hw
                obtain ⟨v, hv0, hv1, rfl, hno4, hw⟩ := hrel
                by_cases hv : 0 ≤ v
                · obtain ⟨d, rfl⟩ := Int.eq_ofNat_of_zero_le hv
                  replace hno4 := Lib.hid hno4
                  go_wp2_with (fail)
                  cases hF : has fileS L (a + b + c + d)
                  · skip
                    have hfin := Lib.hid (show ∀ d' p : Nat, (d : Int) - 1 < (d' : Int) → ¬ Hit L a b c d' p from fun d' p h hh => by
                      by_cases e : d' = d
                      · subst e; have := hh.hf; rw [hF] at this; cases this
                      · exact hno4.out d' p (by omega) hh)
                    refine (one_v fileS L (by decide) hL1 _ (a + b + c + d) (by omega) (by omega) 0 (one_no hF) w.heap.size _ hw.2.1).mono ?_
                    rintro e hw6w ⟨rfl, hb⟩
                    have hw6 := hw.below hb
                    clear hw hb
                    go_wp2_with (fail)
                    exact ⟨⟨(d : Int) - 1, by omega, by omega, rfl, hfin.out, hw6⟩, by simp [intOf]⟩
                  · skip
                    refine (one_v fileS L (by decide) hL1 _ (a + b + c + d) (by omega) (by omega) 1 (one_yes hF) w.heap.size _ hw.2.1).mono ?_
                    rintro e hw6w ⟨rfl, hb⟩
                    have hw6 := hw.below hb
                    clear hw hb
                    go_wp2_with (fail)
                    cases hD : has digS L (a + b + c + d + 1)
                    · skip
                      have hfin := Lib.hid (show ∀ d' p : Nat, (d : Int) - 1 < (d' : Int) → ¬ Hit L a b c d' p from fun d' p h hh => by
                        by_cases e : d' = d
                        · subst e; have := hh.hg; rw [hD] at this; cases this
                        · exact hno4.out d' p (by omega) hh)
                      refine (one_v digS L (by decide) hL1 _ (a + b + c + d + 1) (by omega) (by omega) 0 (one_no hD) w.heap.size _ hw6.2.1).mono ?_
                      rintro e hw7w ⟨rfl, hb⟩
                      have hw7 := hw6.below hb
                      clear hw6 hb
                      go_wp2_with (fail)
                      exact ⟨⟨(d : Int) - 1, by omega, by omega, rfl, hfin.out, hw7⟩, by simp [intOf]⟩
                    · skip
                      refine (one_v digS L (by decide) hL1 _ (a + b + c + d + 1) (by omega) (by omega) 1 (one_yes hD) w.heap.size _ hw6.2.1).mono ?_
                      rintro e hw7w ⟨rfl, hb⟩
                      have hw7 := hw6.below hb
                      clear hw6 hb
                      go_wp2_with (fail)
                      cases hE : has eqS L (a + b + c + d + 2)
                      · skip
                        refine (one_v eqS L (by decide) hL1 _ (a + b + c + d + 2) (by omega) (by omega) 0 (one_no hE) w.heap.size _ hw7.2.1).mono ?_
                        rintro e hw8w ⟨rfl, hb⟩
                        have hw8 := hw7.below hb
                        clear hw7 hb
                        go_wp2_with (fail)
                        have hps : PS L a b c d 0 0 := ⟨.inr (.inl rfl), fun p h hh => by
                          rcases hh.hp with ⟨_, h1, _⟩ | h0
                          · rw [hE] at h1; cases h1
                          · omega⟩
                        go_loopw [10] (fun p wr => ∃ z : Int, PS L a b c d 0 z ∧ p = .int .i64 z ∧ SanW L w wr) (fun p _ => (intOf p + 2).toNat)
                        case atStart => exact ⟨_, hps, rfl, hw8⟩
                        case round =>
                          clear hw8 hps
                          obtain ⟨q, ⟨hq, hno5⟩, rfl, hw⟩ := hrel
                          have hcw := hw.2.1
                          have hq' : q = 0 ∨ q = -2 := by omega
                          rcases hq' with rfl | rfl
                          · cases ht : tailB L (a + b + c + d + 2 + 0)
                            · have hfin := Lib.hid (show ∀ p' : Nat, (-2 : Int) < (p' : Int) → ¬ Hit L a b c d p' from fun p' h hh => by
                                by_cases e : p' = 0
                                · subst e; have := hh.ht; rw [ht] at this; cases this
                                · exact hno5 p' (by rcases hh.hp with ⟨h0, _⟩ | h0 <;> omega) hh)
                              clear hno5
                              go_wp2_with (fail)
                              refine (tail_at L hL1 _ (a + b + c + d + 2 + 0) (by omega) (by omega) _).mono ?_
                              rintro e w9 ⟨rfl, rfl⟩
                              rw [ht]
                              go_wp2_with (fail)
                              exact ⟨⟨-2, ⟨.inr (.inr rfl), hfin.out⟩, rfl, hw⟩, by simp [intOf]⟩
                            · have hit : Hit L a b c d 0 := ⟨by omega, by omega, by omega, by omega, hF, hD, .inr rfl, ht⟩
                              clear hno5
                              go_wp2_with (fail)
                              refine (tail_at L hL1 _ (a + b + c + d + 2 + 0) (by omega) (by omega) _).mono ?_
                              rintro e w9 ⟨rfl, rfl⟩
                              rw [ht]
                              go_wp2_with (fail)
                              have hlD := has_lt hD
                              skip
                              have s1 := slice_to L (a : Int) a rfl (by omega)
                              have s2 := slice_at L (a : Int) ((a : Int) + (b : Int)) a (a + b) rfl (by omega) (by omega) (by omega)
                              have s3 := slice_at L ((a : Int) + (b : Int)) ((a : Int) + (b : Int) + (c : Int)) (a + b) (a + b + c) (by omega) (by omega) (by omega) (by omega)
                              have s4 := slice_at L ((a : Int) + (b : Int) + (c : Int)) ((a : Int) + (b : Int) + (c : Int) + (d : Int)) (a + b + c) (a + b + c + d) (by omega) (by omega) (by omega) (by omega)
                              have s5 := slice_at L ((a : Int) + (b : Int) + (c : Int) + (d : Int)) ((a : Int) + (b : Int) + (c : Int) + (d : Int) + 1) (a + b + c + d) (a + b + c + d + 1) (by omega) (by omega) (by omega) (by omega)
                              have s6 := slice_at L ((a : Int) + (b : Int) + (c : Int) + (d : Int) + 1) ((a : Int) + (b : Int) + (c : Int) + (d : Int) + 2) (a + b + c + d + 1) (a + b + c + d + 2) (by omega) (by omega) (by omega) (by omega)
                              have s7 := slice_at L ((a : Int) + (b : Int) + (c : Int) + (d : Int) + 2) ((a : Int) + (b : Int) + (c : Int) + (d : Int) + 2) (a + b + c + d + 2) (a + b + c + d + 2 + 0) (by omega) (by omega) (by omega) (by omega)
                              have e1 : IntKind.i64.wrap ((a : Int) + (b : Int)) = (a : Int) + (b : Int) := IntWalk.i64_in _ (by omega)
                              have e2 : IntKind.i64.wrap ((a : Int) + (b : Int) + (c : Int)) = (a : Int) + (b : Int) + (c : Int) := IntWalk.i64_in _ (by omega)
                              have e3 : IntKind.i64.wrap ((a : Int) + (b : Int) + (c : Int) + (d : Int) + 1) = (a : Int) + (b : Int) + (c : Int) + (d : Int) + 1 := IntWalk.i64_in _ (by omega)
                              have e4 : IntKind.i64.wrap ((a : Int) + (b : Int) + (c : Int) + (d : Int) + 2) = (a : Int) + (b : Int) + (c : Int) + (d : Int) + 2 := IntWalk.i64_in _ (by omega)
                              have e5 : IntKind.i64.wrap ((a : Int) + (b : Int) + (c : Int) + (d : Int) + 2 + 2) = (a : Int) + (b : Int) + (c : Int) + (d : Int) + 2 + 2 := IntWalk.i64_in _ (by omega)
                              refine held_any (S := SanW L w) (by kernel_rfl) (hw.below ⟨rfl, rfl, rfl, Nat.le_refl _, fun _ _ => rfl⟩) ?_
                              intro wA hHeld
                              clear hw hcw
                              refine wpAnyH_take (i := 0) (v := ?_) rfl (by kernel_rfl) (by kernel_rfl) (by kernel_rfl) (fun _ _ _ h => h) (Or.inl ⟨by rfl, ?_⟩) (by assumption) ?_
                              rotate_left
                              · (intro w hSw; have hcw := hSw.2.1; go_simp; try with_reducible rfl)
                              try simp only [List.getElem_toArray, List.getElem_cons_succ, List.getElem_cons_zero, Act.put, List.setIfInBounds_toArray, List.set_cons_zero, List.set_cons_succ]
                              refine wpAnyH_take (i := 1) (v := ?_) rfl (by kernel_rfl) (by kernel_rfl) (by kernel_rfl) (fun _ _ _ h => h) (Or.inl ⟨by rfl, ?_⟩) (by assumption) ?_
                              rotate_left
                              · (intro w hSw; have hcw := hSw.2.1; go_simp; try with_reducible rfl)
                              try simp only [List.getElem_toArray, List.getElem_cons_succ, List.getElem_cons_zero, Act.put, List.setIfInBounds_toArray, List.set_cons_zero, List.set_cons_succ]
                              refine wpAnyH_take (i := 2) (v := ?_) rfl (by kernel_rfl) (by kernel_rfl) (by kernel_rfl) (fun _ _ _ h => h) (Or.inl ⟨by rfl, ?_⟩) (by assumption) ?_
                              rotate_left
                              · (intro w hSw; have hcw := hSw.2.1; go_simp; try with_reducible rfl)
                              try simp only [List.getElem_toArray, List.getElem_cons_succ, List.getElem_cons_zero, Act.put, List.setIfInBounds_toArray, List.set_cons_zero, List.set_cons_succ]
                              refine wpAnyH_take (i := 3) (v := ?_) rfl (by kernel_rfl) (by kernel_rfl) (by kernel_rfl) (fun _ _ _ h => h) (Or.inl ⟨by rfl, ?_⟩) (by assumption) ?_
                              rotate_left
                              · (intro w hSw; have hcw := hSw.2.1; go_simp; try with_reducible rfl)
                              try simp only [List.getElem_toArray, List.getElem_cons_succ, List.getElem_cons_zero, Act.put, List.setIfInBounds_toArray, List.set_cons_zero, List.set_cons_succ]
                              refine wpAnyH_take (i := 4) (v := ?_) rfl (by kernel_rfl) (by kernel_rfl) (by kernel_rfl) (fun _ _ _ h => h) (Or.inl ⟨by rfl, ?_⟩) (by assumption) ?_
                              rotate_left
                              · (intro w hSw; have hcw := hSw.2.1; go_simp; try with_reducible rfl)
                              try simp only [List.getElem_toArray, List.getElem_cons_succ, List.getElem_cons_zero, Act.put, List.setIfInBounds_toArray, List.set_cons_zero, List.set_cons_succ]
                              refine wpAnyH_take (i := 5) (v := ?_) rfl (by kernel_rfl) (by kernel_rfl) (by kernel_rfl) (fun _ _ _ h => h) (Or.inl ⟨by rfl, ?_⟩) (by assumption) ?_
                              rotate_left
                              · (intro w hSw; have hcw := hSw.2.1; go_simp; try with_reducible rfl)
                              try simp only [List.getElem_toArray, List.getElem_cons_succ, List.getElem_cons_zero, Act.put, List.setIfInBounds_toArray, List.set_cons_zero, List.set_cons_succ]
                              refine wpAnyH_take (i := 6) (v := ?_) rfl (by kernel_rfl) (by kernel_rfl) (by kernel_rfl) (fun _ _ _ h => h) (Or.inl ⟨by rfl, ?_⟩) (by assumption) ?_
                              rotate_left
                              · (intro w hSw; have hcw := hSw.2.1; go_simp; try with_reducible rfl)
                              try simp only [List.getElem_toArray, List.getElem_cons_succ, List.getElem_cons_zero, Act.put, List.setIfInBounds_toArray, List.set_cons_zero, List.set_cons_succ]
                              refine wpAnyH_take (i := 7) (v := ?_) rfl (by kernel_rfl) (by kernel_rfl) (by kernel_rfl) (fun _ _ _ h => h) (Or.inl ⟨by rfl, ?_⟩) (by assumption) ?_
                              rotate_left
                              · (intro w hSw; have hcw := hSw.2.1; go_simp; try with_reducible rfl)
                              try simp only [List.getElem_toArray, List.getElem_cons_succ, List.getElem_cons_zero, Act.put, List.setIfInBounds_toArray, List.set_cons_zero, List.set_cons_succ]
                              refine wpAnyH_take (i := 8) (v := ?_) rfl (by kernel_rfl) (by kernel_rfl) (by kernel_rfl) (fun _ _ _ h => h) (Or.inl ⟨by rfl, ?_⟩) (by assumption) ?_
                              rotate_left
                              · (intro w hSw; have hcw := hSw.2.1; go_simp; try with_reducible rfl)
                              try simp only [List.getElem_toArray, List.getElem_cons_succ, List.getElem_cons_zero, Act.put, List.setIfInBounds_toArray, List.set_cons_zero, List.set_cons_succ]
                              refine wpAnyH_take (i := 9) (v := ?_) rfl (by kernel_rfl) (by kernel_rfl) (by kernel_rfl) (fun _ _ _ h => h) (Or.inl ⟨by rfl, ?_⟩) (by assumption) ?_
                              rotate_left
                              · (intro w hSw; have hcw := hSw.2.1; go_simp; try with_reducible rfl)
                              try simp only [List.getElem_toArray, List.getElem_cons_succ, List.getElem_cons_zero, Act.put, List.setIfInBounds_toArray, List.set_cons_zero, List.set_cons_succ]
                              refine wpAnyH_take (i := 10) (v := ?_) rfl (by kernel_rfl) (by kernel_rfl) (by kernel_rfl) (fun _ _ _ h => h) (Or.inl ⟨by rfl, ?_⟩) (by assumption) ?_
                              rotate_left
                              · (intro w hSw; have hcw := hSw.2.1; go_simp; try with_reducible rfl)
                              try simp only [List.getElem_toArray, List.getElem_cons_succ, List.getElem_cons_zero, Act.put, List.setIfInBounds_toArray, List.set_cons_zero, List.set_cons_succ]
                              refine wpAnyH_take (i := 11) (v := ?_) rfl (by kernel_rfl) (by kernel_rfl) (by kernel_rfl) (fun _ _ _ h => h) (Or.inl ⟨by rfl, ?_⟩) (by assumption) ?_
                              rotate_left
                              · (intro w hSw; have hcw := hSw.2.1; go_simp; try with_reducible rfl)
                              try simp only [List.getElem_toArray, List.getElem_cons_succ, List.getElem_cons_zero, Act.put, List.setIfInBounds_toArray, List.set_cons_zero, List.set_cons_succ]
                              refine wpAnyH_take (i := 12) (v := ?_) rfl (by kernel_rfl) (by kernel_rfl) (by kernel_rfl) (fun _ _ _ h => h) (Or.inl ⟨by rfl, ?_⟩) (by assumption) ?_
                              rotate_left
                              · (intro w hSw; have hcw := hSw.2.1; go_simp; try with_reducible rfl)
                              try simp only [List.getElem_toArray, List.getElem_cons_succ, List.getElem_cons_zero, Act.put, List.setIfInBounds_toArray, List.set_cons_zero, List.set_cons_succ]
                              refine wpAnyH_take (i := 13) (v := ?_) rfl (by kernel_rfl) (by kernel_rfl) (by kernel_rfl) (fun _ _ _ h => h) (Or.inl ⟨by rfl, ?_⟩) (by assumption) ?_
                              rotate_left
                              · (intro w hSw; have hcw := hSw.2.1; go_simp; try with_reducible rfl)
                              try simp only [List.getElem_toArray, List.getElem_cons_succ, List.getElem_cons_zero, Act.put, List.setIfInBounds_toArray, List.set_cons_zero, List.set_cons_succ]
                              refine wpAnyH_take (i := 14) (v := ?_) rfl (by kernel_rfl) (by kernel_rfl) (by kernel_rfl) (fun _ _ _ h => h) (Or.inl ⟨by rfl, ?_⟩) (by assumption) ?_
                              rotate_left
                              · (intro w hSw; have hcw := hSw.2.1; go_simp; try with_reducible rfl)
                              try simp only [List.getElem_toArray, List.getElem_cons_succ, List.getElem_cons_zero, Act.put, List.setIfInBounds_toArray, List.set_cons_zero, List.set_cons_succ]
                              refine wpAnyH_take (i := 15) (v := ?_) rfl (by kernel_rfl) (by kernel_rfl) (by kernel_rfl) (fun _ _ _ h => h) (Or.inl ⟨by rfl, ?_⟩) (by assumption) ?_
                              rotate_left
                              · (intro w hSw; have hcw := hSw.2.1; go_simp; try with_reducible rfl)
                              try simp only [List.getElem_toArray, List.getElem_cons_succ, List.getElem_cons_zero, Act.put, List.setIfInBounds_toArray, List.set_cons_zero, List.set_cons_succ]
                              refine wpAnyH_take (i := 16) (v := ?_) rfl (by kernel_rfl) (by kernel_rfl) (by kernel_rfl) (fun _ _ _ h => h) (Or.inl ⟨by rfl, ?_⟩) (by assumption) ?_
                              rotate_left
                              · (intro w hSw; have hcw := hSw.2.1; go_simp; try with_reducible rfl)
                              try simp only [List.getElem_toArray, List.getElem_cons_succ, List.getElem_cons_zero, Act.put, List.setIfInBounds_toArray, List.set_cons_zero, List.set_cons_succ]
                              refine wpAnyH_take (i := 17) (v := ?_) rfl (by kernel_rfl) (by kernel_rfl) (by kernel_rfl) (fun _ _ _ h => h) (Or.inl ⟨by rfl, ?_⟩) (by assumption) ?_
                              rotate_left
                              · (intro w hSw; have hcw := hSw.2.1; go_simp; try with_reducible rfl)
                              try simp only [List.getElem_toArray, List.getElem_cons_succ, List.getElem_cons_zero, Act.put, List.setIfInBounds_toArray, List.set_cons_zero, List.set_cons_succ]
                              refine wpAnyH_take (i := 18) (v := ?_) rfl (by kernel_rfl) (by kernel_rfl) (by kernel_rfl) (fun _ _ _ h => h) (Or.inl ⟨by rfl, ?_⟩) (by assumption) ?_
                              rotate_left
                              · (intro w hSw; have hcw := hSw.2.1; go_simp; try with_reducible rfl)
                              try simp only [List.getElem_toArray, List.getElem_cons_succ, List.getElem_cons_zero, Act.put, List.setIfInBounds_toArray, List.set_cons_zero, List.set_cons_succ]
                              refine wpAnyH_take (i := 19) (v := ?_) rfl (by kernel_rfl) (by kernel_rfl) (by kernel_rfl) (fun _ _ _ h => h) (Or.inl ⟨by rfl, ?_⟩) (by assumption) ?_
                              rotate_left
                              · (intro w hSw; have hcw := hSw.2.1; go_simp; try with_reducible rfl)
                              try simp only [List.getElem_toArray, List.getElem_cons_succ, List.getElem_cons_zero, Act.put, List.setIfInBounds_toArray, List.set_cons_zero, List.set_cons_succ]
                              refine wpAnyH_take (i := 20) (v := ?_) rfl (by kernel_rfl) (by kernel_rfl) (by kernel_rfl) (fun _ _ _ h => h) (Or.inl ⟨by rfl, ?_⟩) (by assumption) ?_
                              rotate_left
                              · (intro w hSw; have hcw := hSw.2.1; go_simp; try with_reducible rfl)
                              try simp only [List.getElem_toArray, List.getElem_cons_succ, List.getElem_cons_zero, Act.put, List.setIfInBounds_toArray, List.set_cons_zero, List.set_cons_succ]
                              refine wpAnyH_take (i := 21) (v := ?_) rfl (by kernel_rfl) (by kernel_rfl) (by kernel_rfl) (fun _ _ _ h => h) (Or.inl ⟨by rfl, ?_⟩) (by assumption) ?_
                              rotate_left
                              · (intro w hSw; have hcw := hSw.2.1; go_simp; try with_reducible rfl)
                              try simp only [List.getElem_toArray, List.getElem_cons_succ, List.getElem_cons_zero, Act.put, List.setIfInBounds_toArray, List.set_cons_zero, List.set_cons_succ]
                              refine wpAnyH_take (i := 22) (v := ?_) rfl (by kernel_rfl) (by kernel_rfl) (by kernel_rfl) (fun _ _ _ h => h) (Or.inl ⟨by rfl, ?_⟩) (by assumption) ?_
                              rotate_left
                              · (intro w hSw; have hcw := hSw.2.1; go_simp; try with_reducible rfl)
                              try simp only [List.getElem_toArray, List.getElem_cons_succ, List.getElem_cons_zero, Act.put, List.setIfInBounds_toArray, List.set_cons_zero, List.set_cons_succ]
                              refine wpAnyH_take (i := 23) (v := ?_) rfl (by kernel_rfl) (by kernel_rfl) (by kernel_rfl) (fun _ _ _ h => h) (Or.inl ⟨by rfl, ?_⟩) (by assumption) ?_
                              rotate_left
                              · (intro w hSw; have hcw := hSw.2.1; go_simp; try with_reducible rfl)
                              try simp only [List.getElem_toArray, List.getElem_cons_succ, List.getElem_cons_zero, Act.put, List.setIfInBounds_toArray, List.set_cons_zero, List.set_cons_succ]
                              refine wpAnyH_take (i := 24) (v := ?_) rfl (by kernel_rfl) (by kernel_rfl) (by kernel_rfl) (fun _ _ _ h => h) (Or.inl ⟨by rfl, ?_⟩) (by assumption) ?_
                              rotate_left
                              · (intro w hSw; have hcw := hSw.2.1; go_simp; try with_reducible rfl)
                              try simp only [List.getElem_toArray, List.getElem_cons_succ, List.getElem_cons_zero, Act.put, List.setIfInBounds_toArray, List.set_cons_zero, List.set_cons_succ]
                              refine wpAnyH_take (i := 25) (v := ?_) rfl (by kernel_rfl) (by kernel_rfl) (by kernel_rfl) (fun _ _ _ h => h) (Or.inl ⟨by rfl, ?_⟩) (by assumption) ?_
                              rotate_left
                              · (intro w hSw; have hcw := hSw.2.1; go_simp; try with_reducible rfl)
                              try simp only [List.getElem_toArray, List.getElem_cons_succ, List.getElem_cons_zero, Act.put, List.setIfInBounds_toArray, List.set_cons_zero, List.set_cons_succ]
                              refine wpAnyH_take (i := 26) (v := ?_) rfl (by kernel_rfl) (by kernel_rfl) (by kernel_rfl) (fun _ _ _ h => h) (Or.inl ⟨by rfl, ?_⟩) (by assumption) ?_
                              rotate_left
                              · (intro w hSw; have hcw := hSw.2.1; go_simp; try with_reducible rfl)
                              try simp only [List.getElem_toArray, List.getElem_cons_succ, List.getElem_cons_zero, Act.put, List.setIfInBounds_toArray, List.set_cons_zero, List.set_cons_succ]
                              refine wpAnyH_take (i := 27) (v := ?_) rfl (by kernel_rfl) (by kernel_rfl) (by kernel_rfl) (fun _ _ _ h => h) (Or.inl ⟨by rfl, ?_⟩) (by assumption) ?_
                              rotate_left
                              · (intro w hSw; have hcw := hSw.2.1; go_simp; try with_reducible rfl)
                              try simp only [List.getElem_toArray, List.getElem_cons_succ, List.getElem_cons_zero, Act.put, List.setIfInBounds_toArray, List.set_cons_zero, List.set_cons_succ]
                              refine wpAnyH_take (i := 28) (v := ?_) rfl (by kernel_rfl) (by kernel_rfl) (by kernel_rfl) (fun _ _ _ h => h) (Or.inl ⟨by rfl, ?_⟩) (by assumption) ?_
                              rotate_left
                              · (intro w hSw; have hcw := hSw.2.1; go_simp; try with_reducible rfl)
                              try simp only [List.getElem_toArray, List.getElem_cons_succ, List.getElem_cons_zero, Act.put, List.setIfInBounds_toArray, List.set_cons_zero, List.set_cons_succ]
                              refine wpAnyH_take (i := 29) (v := ?_) rfl (by kernel_rfl) (by kernel_rfl) (by kernel_rfl) (fun _ _ _ h => h) (Or.inl ⟨by rfl, ?_⟩) (by assumption) ?_
                              rotate_left
                              · (intro w hSw; have hcw := hSw.2.1; go_simp; try with_reducible rfl)
                              try simp only [List.getElem_toArray, List.getElem_cons_succ, List.getElem_cons_zero, Act.put, List.setIfInBounds_toArray, List.set_cons_zero, List.set_cons_succ]
                              refine wpAnyH_take (i := 30) (v := ?_) rfl (by kernel_rfl) (by kernel_rfl) (by kernel_rfl) (fun _ _ _ h => h) (Or.inl ⟨by rfl, ?_⟩) (by assumption) ?_
                              rotate_left
                              · (intro w hSw; have hcw := hSw.2.1; go_simp; try with_reducible rfl)
                              try simp only [List.getElem_toArray, List.getElem_cons_succ, List.getElem_cons_zero, Act.put, List.setIfInBounds_toArray, List.set_cons_zero, List.set_cons_succ]
                              refine wpAnyH_take (i := 31) (v := ?_) rfl (by kernel_rfl) (by kernel_rfl) (by kernel_rfl) (fun _ _ _ h => h) (Or.inl ⟨by rfl, ?_⟩) (by assumption) ?_
                              rotate_left
                              · (intro w hSw; have hcw := hSw.2.1; go_simp; try with_reducible rfl)
                              try simp only [List.getElem_toArray, List.getElem_cons_succ, List.getElem_cons_zero, Act.put, List.setIfInBounds_toArray, List.set_cons_zero, List.set_cons_succ]
                              refine wpAnyH_take (i := 32) (v := ?_) rfl (by kernel_rfl) (by kernel_rfl) (by kernel_rfl) (fun _ _ _ h => h) (Or.inl ⟨by rfl, ?_⟩) (by assumption) ?_
                              rotate_left
                              · (intro w hSw; have hcw := hSw.2.1; go_simp; try with_reducible rfl)
                              try simp only [List.getElem_toArray, List.getElem_cons_succ, List.getElem_cons_zero, Act.put, List.setIfInBounds_toArray, List.set_cons_zero, List.set_cons_succ]
                              refine wpAnyH_take (i := 33) (v := ?_) rfl (by kernel_rfl) (by kernel_rfl) (by kernel_rfl) (fun _ _ _ h => h) (Or.inl ⟨by rfl, ?_⟩) (by assumption) ?_
                              rotate_left
                              · (intro w hSw; have hcw := hSw.2.1; go_simp; try with_reducible rfl)
                              try simp only [List.getElem_toArray, List.getElem_cons_succ, List.getElem_cons_zero, Act.put, List.setIfInBounds_toArray, List.set_cons_zero, List.set_cons_succ]
                              refine wpAnyH_take (i := 34) (v := ?_) rfl (by kernel_rfl) (by kernel_rfl) (by kernel_rfl) (fun _ _ _ h => h) (Or.inl ⟨by rfl, ?_⟩) (by assumption) ?_
                              rotate_left
                              · (intro w hSw; have hcw := hSw.2.1; go_simp; try with_reducible rfl)
                              try simp only [List.getElem_toArray, List.getElem_cons_succ, List.getElem_cons_zero, Act.put, List.setIfInBounds_toArray, List.set_cons_zero, List.set_cons_succ]
                              refine wpAnyH_take (i := 35) (v := ?_) rfl (by kernel_rfl) (by kernel_rfl) (by kernel_rfl) (fun _ _ _ h => h) (Or.inl ⟨by rfl, ?_⟩) (by assumption) ?_
                              rotate_left
                              · (intro w hSw; have hcw := hSw.2.1; go_simp; try with_reducible rfl)
                              try simp only [List.getElem_toArray, List.getElem_cons_succ, List.getElem_cons_zero, Act.put, List.setIfInBounds_toArray, List.set_cons_zero, List.set_cons_succ]
                              refine wpAnyH_take (i := 36) (v := ?_) rfl (by kernel_rfl) (by kernel_rfl) (by kernel_rfl) (fun _ _ _ h => h) (Or.inl ⟨by rfl, ?_⟩) (by assumption) ?_
                              rotate_left
                              · (intro w hSw; have hcw := hSw.2.1; go_simp; try with_reducible rfl)
                              try simp only [List.getElem_toArray, List.getElem_cons_succ, List.getElem_cons_zero, Act.put, List.setIfInBounds_toArray, List.set_cons_zero, List.set_cons_succ]
                              refine wpAnyH_take (i := 37) (v := ?_) rfl (by kernel_rfl) (by kernel_rfl) (by kernel_rfl) (fun _ _ _ h => h) (Or.inl ⟨by rfl, ?_⟩) (by assumption) ?_
                              rotate_left
                              · (intro w hSw; have hcw := hSw.2.1; go_simp; try with_reducible rfl)
                              try simp only [List.getElem_toArray, List.getElem_cons_succ, List.getElem_cons_zero, Act.put, List.setIfInBounds_toArray, List.set_cons_zero, List.set_cons_succ]
                              refine wpAnyH_take (i := 38) (v := ?_) rfl (by kernel_rfl) (by kernel_rfl) (by kernel_rfl) (fun _ _ _ h => h) (Or.inl ⟨by rfl, ?_⟩) (by assumption) ?_
                              rotate_left
                              · (intro w hSw; have hcw := hSw.2.1; go_simp; try with_reducible rfl)
                              try simp only [List.getElem_toArray, List.getElem_cons_succ, List.getElem_cons_zero, Act.put, List.setIfInBounds_toArray, List.set_cons_zero, List.set_cons_succ]
                              refine wpAnyH_take (i := 39) (v := ?_) rfl (by kernel_rfl) (by kernel_rfl) (by kernel_rfl) (fun _ _ _ h => h) (Or.inl ⟨by rfl, ?_⟩) (by assumption) ?_
                              rotate_left
                              · (intro w hSw; have hcw := hSw.2.1; go_simp; try with_reducible rfl)
                              try simp only [List.getElem_toArray, List.getElem_cons_succ, List.getElem_cons_zero, Act.put, List.setIfInBounds_toArray, List.set_cons_zero, List.set_cons_succ]
                              refine wpAnyH_take (i := 40) (v := ?_) rfl (by kernel_rfl) (by kernel_rfl) (by kernel_rfl) (fun _ _ _ h => h) (Or.inl ⟨by rfl, ?_⟩) (by assumption) ?_
                              rotate_left
                              · (intro w hSw; have hcw := hSw.2.1; go_simp; try with_reducible rfl)
                              try simp only [List.getElem_toArray, List.getElem_cons_succ, List.getElem_cons_zero, Act.put, List.setIfInBounds_toArray, List.set_cons_zero, List.set_cons_succ]
                              refine wpAnyH_take (i := 41) (v := ?_) rfl (by kernel_rfl) (by kernel_rfl) (by kernel_rfl) (fun _ _ _ h => h) (Or.inl ⟨by rfl, ?_⟩) (by assumption) ?_
                              rotate_left
                              · (intro w hSw; have hcw := hSw.2.1; go_simp; try with_reducible rfl)
                              try simp only [List.getElem_toArray, List.getElem_cons_succ, List.getElem_cons_zero, Act.put, List.setIfInBounds_toArray, List.set_cons_zero, List.set_cons_succ]
                              refine wpAnyH_take (i := 42) (v := ?_) rfl (by kernel_rfl) (by kernel_rfl) (by kernel_rfl) (fun _ _ _ h => h) (Or.inl ⟨by rfl, ?_⟩) (by assumption) ?_
                              rotate_left
                              · (intro w hSw; have hcw := hSw.2.1; go_simp; try with_reducible rfl)
                              try simp only [List.getElem_toArray, List.getElem_cons_succ, List.getElem_cons_zero, Act.put, List.setIfInBounds_toArray, List.set_cons_zero, List.set_cons_succ]
                              refine wpAnyH_take (i := 43) (v := ?_) rfl (by kernel_rfl) (by kernel_rfl) (by kernel_rfl) (fun _ _ _ h => h) (Or.inl ⟨by rfl, ?_⟩) (by assumption) ?_
                              rotate_left
                              · (intro w hSw; have hcw := hSw.2.1; go_simp; try with_reducible rfl)
                              try simp only [List.getElem_toArray, List.getElem_cons_succ, List.getElem_cons_zero, Act.put, List.setIfInBounds_toArray, List.set_cons_zero, List.set_cons_succ]
                              refine wpAnyH_ready (rs := [44]) (by kernel_rfl) (by simp) ?_
                              refine AllReadyH.cons rfl (fun K hK => ?_) AllReadyH.nil
                              go_simp
                              have hten := ten_cells wA (.string (tx L)) (.string (tx (mid L 0 a))) (.string (tx (mid L a (a + b)))) (.string (tx (mid L (a + b) (a + b + c)))) (.string (tx (mid L (a + b + c) (a + b + c + d)))) (.string (tx (mid L (a + b + c + d) (a + b + c + d + 1)))) (.string (tx (mid L (a + b + c + d + 1) (a + b + c + d + 2)))) (.string (tx (mid L (a + b + c + d + 2) (a + b + c + d + 2 + 0)))) (.string ⟨#[]⟩) (.string ⟨#[]⟩)
                              have hB2 : SanW L w (wA.alloc (.cells #[.string (tx L), .string (tx (mid L 0 a)), .string (tx (mid L a (a + b))), .string (tx (mid L (a + b) (a + b + c))), .string (tx (mid L (a + b + c) (a + b + c + d))), .string (tx (mid L (a + b + c + d) (a + b + c + d + 1))), .string (tx (mid L (a + b + c + d + 1) (a + b + c + d + 2))), .string (tx (mid L (a + b + c + d + 2) (a + b + c + d + 2 + 0))), .string ⟨#[]⟩, .string ⟨#[]⟩] 9)) := hHeld.below ((Below.refl _ _).alloc (Nat.le_refl _) _)
                              refine hK.out _ _ hB2 (fun hHeld2 => ?_)
                              clear hK K
                              try simp only [List.getElem_toArray, List.getElem_cons_succ, List.getElem_cons_zero, Act.put, List.setIfInBounds_toArray, List.set_cons_zero, List.set_cons_succ]
                              refine wpAnyH_take (i := 45) (v := ?_) rfl (by kernel_rfl) (by kernel_rfl) (by kernel_rfl) (fun _ _ _ h => h) (Or.inl ⟨by rfl, ?_⟩) (by assumption) ?_
                              rotate_left
                              · (intro w hSw; go_simp; try with_reducible rfl)
                              try simp only [List.getElem_toArray, List.getElem_cons_succ, List.getElem_cons_zero, Act.put, List.setIfInBounds_toArray, List.set_cons_zero, List.set_cons_succ]
                              refine wpAnyH_done (by kernel_rfl) ?_ _
                              replace hten := Lib.hid hten
                              replace hB2 := Lib.hid hB2
                              clear hHeld2 s1 s2 s3 s4 s5 s6 s7 e1 e2 e3 e4 e5
                              go_wp2_with (fail)
                              go_ret
                              refine ⟨.inl ⟨partsOf L a b c d 0, wA.heap.size, .inl ⟨a, b, c, d, 0, hit, rfl⟩, rfl, rfl, by simp, Nat.le_of_lt hHeld.1, fun i hi => ?_⟩, hB2.out.2.2⟩
                              rw [hten.out (i + 1) (by omega)]
                              have : i = 0 ∨ i = 1 ∨ i = 2 ∨ i = 3 ∨ i = 4 ∨ i = 5 ∨ i = 6 ∨ i = 7 := by omega
                              rcases this with rfl | rfl | rfl | rfl | rfl | rfl | rfl | rfl <;> rfl
                          · have hfin := Lib.hid (show ∀ d' p : Nat, (d : Int) - 1 < (d' : Int) → ¬ Hit L a b c d' p from fun d' p h hh => by
                              by_cases e : d' = d
                              · subst e; exact hno5 p (by omega) hh
                              · exact hno4.out d' p (by omega) hh)
                            clear hno5
                            go_wp2_with (fail)
                            exact ⟨⟨(d : Int) - 1, by omega, by omega, rfl, hfin.out, hw⟩, by simp [intOf]⟩
                      · skip
                        refine (one_v eqS L (by decide) hL1 _ (a + b + c + d + 2) (by omega) (by omega) 1 (one_yes hE) w.heap.size _ hw7.2.1).mono ?_
                        rintro e hw9w ⟨rfl, hb⟩
                        have hw9 := hw7.below hb
                        clear hw7 hb
                        go_wp2_with (fail)
                        cases hP : has promS L (a + b + c + d + 3)
                        · skip
                          refine (one_v promS L (by decide) hL1 _ (a + b + c + d + 3) (by omega) (by omega) 0 (one_no hP) w.heap.size _ hw9.2.1).mono ?_
                          rintro e hw8w ⟨rfl, hb⟩
                          have hw8 := hw9.below hb
                          clear hw9 hb
                          go_wp2_with (fail)
                          have hps : PS L a b c d 0 0 := ⟨.inr (.inl rfl), fun p h hh => by
                            rcases hh.hp with ⟨_, _, h1⟩ | h0
                            · rw [hP] at h1; cases h1
                            · omega⟩
                          go_loopw [10] (fun p wr => ∃ z : Int, PS L a b c d 0 z ∧ p = .int .i64 z ∧ SanW L w wr) (fun p _ => (intOf p + 2).toNat)
                          case atStart => exact ⟨_, hps, rfl, hw8⟩
                          case round =>
                            clear hw8 hps
                            obtain ⟨q, ⟨hq, hno5⟩, rfl, hw⟩ := hrel
                            have hcw := hw.2.1
                            have hq' : q = 0 ∨ q = -2 := by omega
                            rcases hq' with rfl | rfl
                            · cases ht : tailB L (a + b + c + d + 2 + 0)
                              · have hfin := Lib.hid (show ∀ p' : Nat, (-2 : Int) < (p' : Int) → ¬ Hit L a b c d p' from fun p' h hh => by
                                  by_cases e : p' = 0
                                  · subst e; have := hh.ht; rw [ht] at this; cases this
                                  · exact hno5 p' (by rcases hh.hp with ⟨h0, _⟩ | h0 <;> omega) hh)
                                clear hno5
                                go_wp2_with (fail)
                                refine (tail_at L hL1 _ (a + b + c + d + 2 + 0) (by omega) (by omega) _).mono ?_
                                rintro e w9 ⟨rfl, rfl⟩
                                rw [ht]
                                go_wp2_with (fail)
                                exact ⟨⟨-2, ⟨.inr (.inr rfl), hfin.out⟩, rfl, hw⟩, by simp [intOf]⟩
                              · have hit : Hit L a b c d 0 := ⟨by omega, by omega, by omega, by omega, hF, hD, .inr rfl, ht⟩
                                clear hno5
                                go_wp2_with (fail)
                                refine (tail_at L hL1 _ (a + b + c + d + 2 + 0) (by omega) (by omega) _).mono ?_
                                rintro e w9 ⟨rfl, rfl⟩
                                rw [ht]
                                go_wp2_with (fail)
                                have hlD := has_lt hD
                                skip
                                have s1 := slice_to L (a : Int) a rfl (by omega)
                                have s2 := slice_at L (a : Int) ((a : Int) + (b : Int)) a (a + b) rfl (by omega) (by omega) (by omega)
                                have s3 := slice_at L ((a : Int) + (b : Int)) ((a : Int) + (b : Int) + (c : Int)) (a + b) (a + b + c) (by omega) (by omega) (by omega) (by omega)
                                have s4 := slice_at L ((a : Int) + (b : Int) + (c : Int)) ((a : Int) + (b : Int) + (c : Int) + (d : Int)) (a + b + c) (a + b + c + d) (by omega) (by omega) (by omega) (by omega)
                                have s5 := slice_at L ((a : Int) + (b : Int) + (c : Int) + (d : Int)) ((a : Int) + (b : Int) + (c : Int) + (d : Int) + 1) (a + b + c + d) (a + b + c + d + 1) (by omega) (by omega) (by omega) (by omega)
                                have s6 := slice_at L ((a : Int) + (b : Int) + (c : Int) + (d : Int) + 1) ((a : Int) + (b : Int) + (c : Int) + (d : Int) + 2) (a + b + c + d + 1) (a + b + c + d + 2) (by omega) (by omega) (by omega) (by omega)
                                have s7 := slice_at L ((a : Int) + (b : Int) + (c : Int) + (d : Int) + 2) ((a : Int) + (b : Int) + (c : Int) + (d : Int) + 2) (a + b + c + d + 2) (a + b + c + d + 2 + 0) (by omega) (by omega) (by omega) (by omega)
                                have e1 : IntKind.i64.wrap ((a : Int) + (b : Int)) = (a : Int) + (b : Int) := IntWalk.i64_in _ (by omega)
                                have e2 : IntKind.i64.wrap ((a : Int) + (b : Int) + (c : Int)) = (a : Int) + (b : Int) + (c : Int) := IntWalk.i64_in _ (by omega)
                                have e3 : IntKind.i64.wrap ((a : Int) + (b : Int) + (c : Int) + (d : Int) + 1) = (a : Int) + (b : Int) + (c : Int) + (d : Int) + 1 := IntWalk.i64_in _ (by omega)
                                have e4 : IntKind.i64.wrap ((a : Int) + (b : Int) + (c : Int) + (d : Int) + 2) = (a : Int) + (b : Int) + (c : Int) + (d : Int) + 2 := IntWalk.i64_in _ (by omega)
                                have e5 : IntKind.i64.wrap ((a : Int) + (b : Int) + (c : Int) + (d : Int) + 2 + 2) = (a : Int) + (b : Int) + (c : Int) + (d : Int) + 2 + 2 := IntWalk.i64_in _ (by omega)
                                refine held_any (S := SanW L w) (by kernel_rfl) (hw.below ⟨rfl, rfl, rfl, Nat.le_refl _, fun _ _ => rfl⟩) ?_
                                intro wA hHeld
                                clear hw hcw
                                refine wpAnyH_take (i := 0) (v := ?_) rfl (by kernel_rfl) (by kernel_rfl) (by kernel_rfl) (fun _ _ _ h => h) (Or.inl ⟨by rfl, ?_⟩) (by assumption) ?_
                                rotate_left
                                · (intro w hSw; have hcw := hSw.2.1; go_simp; try with_reducible rfl)
                                try simp only [List.getElem_toArray, List.getElem_cons_succ, List.getElem_cons_zero, Act.put, List.setIfInBounds_toArray, List.set_cons_zero, List.set_cons_succ]
                                refine wpAnyH_take (i := 1) (v := ?_) rfl (by kernel_rfl) (by kernel_rfl) (by kernel_rfl) (fun _ _ _ h => h) (Or.inl ⟨by rfl, ?_⟩) (by assumption) ?_
                                rotate_left
                                · (intro w hSw; have hcw := hSw.2.1; go_simp; try with_reducible rfl)
                                try simp only [List.getElem_toArray, List.getElem_cons_succ, List.getElem_cons_zero, Act.put, List.setIfInBounds_toArray, List.set_cons_zero, List.set_cons_succ]
                                refine wpAnyH_take (i := 2) (v := ?_) rfl (by kernel_rfl) (by kernel_rfl) (by kernel_rfl) (fun _ _ _ h => h) (Or.inl ⟨by rfl, ?_⟩) (by assumption) ?_
                                rotate_left
                                · (intro w hSw; have hcw := hSw.2.1; go_simp; try with_reducible rfl)
                                try simp only [List.getElem_toArray, List.getElem_cons_succ, List.getElem_cons_zero, Act.put, List.setIfInBounds_toArray, List.set_cons_zero, List.set_cons_succ]
                                refine wpAnyH_take (i := 3) (v := ?_) rfl (by kernel_rfl) (by kernel_rfl) (by kernel_rfl) (fun _ _ _ h => h) (Or.inl ⟨by rfl, ?_⟩) (by assumption) ?_
                                rotate_left
                                · (intro w hSw; have hcw := hSw.2.1; go_simp; try with_reducible rfl)
                                try simp only [List.getElem_toArray, List.getElem_cons_succ, List.getElem_cons_zero, Act.put, List.setIfInBounds_toArray, List.set_cons_zero, List.set_cons_succ]
                                refine wpAnyH_take (i := 4) (v := ?_) rfl (by kernel_rfl) (by kernel_rfl) (by kernel_rfl) (fun _ _ _ h => h) (Or.inl ⟨by rfl, ?_⟩) (by assumption) ?_
                                rotate_left
                                · (intro w hSw; have hcw := hSw.2.1; go_simp; try with_reducible rfl)
                                try simp only [List.getElem_toArray, List.getElem_cons_succ, List.getElem_cons_zero, Act.put, List.setIfInBounds_toArray, List.set_cons_zero, List.set_cons_succ]
                                refine wpAnyH_take (i := 5) (v := ?_) rfl (by kernel_rfl) (by kernel_rfl) (by kernel_rfl) (fun _ _ _ h => h) (Or.inl ⟨by rfl, ?_⟩) (by assumption) ?_
                                rotate_left
                                · (intro w hSw; have hcw := hSw.2.1; go_simp; try with_reducible rfl)
                                try simp only [List.getElem_toArray, List.getElem_cons_succ, List.getElem_cons_zero, Act.put, List.setIfInBounds_toArray, List.set_cons_zero, List.set_cons_succ]
                                refine wpAnyH_take (i := 6) (v := ?_) rfl (by kernel_rfl) (by kernel_rfl) (by kernel_rfl) (fun _ _ _ h => h) (Or.inl ⟨by rfl, ?_⟩) (by assumption) ?_
                                rotate_left
                                · (intro w hSw; have hcw := hSw.2.1; go_simp; try with_reducible rfl)
                                try simp only [List.getElem_toArray, List.getElem_cons_succ, List.getElem_cons_zero, Act.put, List.setIfInBounds_toArray, List.set_cons_zero, List.set_cons_succ]
                                refine wpAnyH_take (i := 7) (v := ?_) rfl (by kernel_rfl) (by kernel_rfl) (by kernel_rfl) (fun _ _ _ h => h) (Or.inl ⟨by rfl, ?_⟩) (by assumption) ?_
                                rotate_left
                                · (intro w hSw; have hcw := hSw.2.1; go_simp; try with_reducible rfl)
                                try simp only [List.getElem_toArray, List.getElem_cons_succ, List.getElem_cons_zero, Act.put, List.setIfInBounds_toArray, List.set_cons_zero, List.set_cons_succ]
                                refine wpAnyH_take (i := 8) (v := ?_) rfl (by kernel_rfl) (by kernel_rfl) (by kernel_rfl) (fun _ _ _ h => h) (Or.inl ⟨by rfl, ?_⟩) (by assumption) ?_
                                rotate_left
                                · (intro w hSw; have hcw := hSw.2.1; go_simp; try with_reducible rfl)
                                try simp only [List.getElem_toArray, List.getElem_cons_succ, List.getElem_cons_zero, Act.put, List.setIfInBounds_toArray, List.set_cons_zero, List.set_cons_succ]
                                refine wpAnyH_take (i := 9) (v := ?_) rfl (by kernel_rfl) (by kernel_rfl) (by kernel_rfl) (fun _ _ _ h => h) (Or.inl ⟨by rfl, ?_⟩) (by assumption) ?_
                                rotate_left
                                · (intro w hSw; have hcw := hSw.2.1; go_simp; try with_reducible rfl)
                                try simp only [List.getElem_toArray, List.getElem_cons_succ, List.getElem_cons_zero, Act.put, List.setIfInBounds_toArray, List.set_cons_zero, List.set_cons_succ]
                                refine wpAnyH_take (i := 10) (v := ?_) rfl (by kernel_rfl) (by kernel_rfl) (by kernel_rfl) (fun _ _ _ h => h) (Or.inl ⟨by rfl, ?_⟩) (by assumption) ?_
                                rotate_left
                                · (intro w hSw; have hcw := hSw.2.1; go_simp; try with_reducible rfl)
                                try simp only [List.getElem_toArray, List.getElem_cons_succ, List.getElem_cons_zero, Act.put, List.setIfInBounds_toArray, List.set_cons_zero, List.set_cons_succ]
                                refine wpAnyH_take (i := 11) (v := ?_) rfl (by kernel_rfl) (by kernel_rfl) (by kernel_rfl) (fun _ _ _ h => h) (Or.inl ⟨by rfl, ?_⟩) (by assumption) ?_
                                rotate_left
                                · (intro w hSw; have hcw := hSw.2.1; go_simp; try with_reducible rfl)
                                try simp only [List.getElem_toArray, List.getElem_cons_succ, List.getElem_cons_zero, Act.put, List.setIfInBounds_toArray, List.set_cons_zero, List.set_cons_succ]
                                refine wpAnyH_take (i := 12) (v := ?_) rfl (by kernel_rfl) (by kernel_rfl) (by kernel_rfl) (fun _ _ _ h => h) (Or.inl ⟨by rfl, ?_⟩) (by assumption) ?_
                                rotate_left
                                · (intro w hSw; have hcw := hSw.2.1; go_simp; try with_reducible rfl)
                                try simp only [List.getElem_toArray, List.getElem_cons_succ, List.getElem_cons_zero, Act.put, List.setIfInBounds_toArray, List.set_cons_zero, List.set_cons_succ]
                                refine wpAnyH_take (i := 13) (v := ?_) rfl (by kernel_rfl) (by kernel_rfl) (by kernel_rfl) (fun _ _ _ h => h) (Or.inl ⟨by rfl, ?_⟩) (by assumption) ?_
                                rotate_left
                                · (intro w hSw; have hcw := hSw.2.1; go_simp; try with_reducible rfl)
                                try simp only [List.getElem_toArray, List.getElem_cons_succ, List.getElem_cons_zero, Act.put, List.setIfInBounds_toArray, List.set_cons_zero, List.set_cons_succ]
                                refine wpAnyH_take (i := 14) (v := ?_) rfl (by kernel_rfl) (by kernel_rfl) (by kernel_rfl) (fun _ _ _ h => h) (Or.inl ⟨by rfl, ?_⟩) (by assumption) ?_
                                rotate_left
                                · (intro w hSw; have hcw := hSw.2.1; go_simp; try with_reducible rfl)
                                try simp only [List.getElem_toArray, List.getElem_cons_succ, List.getElem_cons_zero, Act.put, List.setIfInBounds_toArray, List.set_cons_zero, List.set_cons_succ]
                                refine wpAnyH_take (i := 15) (v := ?_) rfl (by kernel_rfl) (by kernel_rfl) (by kernel_rfl) (fun _ _ _ h => h) (Or.inl ⟨by rfl, ?_⟩) (by assumption) ?_
                                rotate_left
                                · (intro w hSw; have hcw := hSw.2.1; go_simp; try with_reducible rfl)
                                try simp only [List.getElem_toArray, List.getElem_cons_succ, List.getElem_cons_zero, Act.put, List.setIfInBounds_toArray, List.set_cons_zero, List.set_cons_succ]
                                refine wpAnyH_take (i := 16) (v := ?_) rfl (by kernel_rfl) (by kernel_rfl) (by kernel_rfl) (fun _ _ _ h => h) (Or.inl ⟨by rfl, ?_⟩) (by assumption) ?_
                                rotate_left
                                · (intro w hSw; have hcw := hSw.2.1; go_simp; try with_reducible rfl)
                                try simp only [List.getElem_toArray, List.getElem_cons_succ, List.getElem_cons_zero, Act.put, List.setIfInBounds_toArray, List.set_cons_zero, List.set_cons_succ]
                                refine wpAnyH_take (i := 17) (v := ?_) rfl (by kernel_rfl) (by kernel_rfl) (by kernel_rfl) (fun _ _ _ h => h) (Or.inl ⟨by rfl, ?_⟩) (by assumption) ?_
                                rotate_left
                                · (intro w hSw; have hcw := hSw.2.1; go_simp; try with_reducible rfl)
                                try simp only [List.getElem_toArray, List.getElem_cons_succ, List.getElem_cons_zero, Act.put, List.setIfInBounds_toArray, List.set_cons_zero, List.set_cons_succ]
                                refine wpAnyH_take (i := 18) (v := ?_) rfl (by kernel_rfl) (by kernel_rfl) (by kernel_rfl) (fun _ _ _ h => h) (Or.inl ⟨by rfl, ?_⟩) (by assumption) ?_
                                rotate_left
                                · (intro w hSw; have hcw := hSw.2.1; go_simp; try with_reducible rfl)
                                try simp only [List.getElem_toArray, List.getElem_cons_succ, List.getElem_cons_zero, Act.put, List.setIfInBounds_toArray, List.set_cons_zero, List.set_cons_succ]
                                refine wpAnyH_take (i := 19) (v := ?_) rfl (by kernel_rfl) (by kernel_rfl) (by kernel_rfl) (fun _ _ _ h => h) (Or.inl ⟨by rfl, ?_⟩) (by assumption) ?_
                                rotate_left
                                · (intro w hSw; have hcw := hSw.2.1; go_simp; try with_reducible rfl)
                                try simp only [List.getElem_toArray, List.getElem_cons_succ, List.getElem_cons_zero, Act.put, List.setIfInBounds_toArray, List.set_cons_zero, List.set_cons_succ]
                                refine wpAnyH_take (i := 20) (v := ?_) rfl (by kernel_rfl) (by kernel_rfl) (by kernel_rfl) (fun _ _ _ h => h) (Or.inl ⟨by rfl, ?_⟩) (by assumption) ?_
                                rotate_left
                                · (intro w hSw; have hcw := hSw.2.1; go_simp; try with_reducible rfl)
                                try simp only [List.getElem_toArray, List.getElem_cons_succ, List.getElem_cons_zero, Act.put, List.setIfInBounds_toArray, List.set_cons_zero, List.set_cons_succ]
                                refine wpAnyH_take (i := 21) (v := ?_) rfl (by kernel_rfl) (by kernel_rfl) (by kernel_rfl) (fun _ _ _ h => h) (Or.inl ⟨by rfl, ?_⟩) (by assumption) ?_
                                rotate_left
                                · (intro w hSw; have hcw := hSw.2.1; go_simp; try with_reducible rfl)
                                try simp only [List.getElem_toArray, List.getElem_cons_succ, List.getElem_cons_zero, Act.put, List.setIfInBounds_toArray, List.set_cons_zero, List.set_cons_succ]
                                refine wpAnyH_take (i := 22) (v := ?_) rfl (by kernel_rfl) (by kernel_rfl) (by kernel_rfl) (fun _ _ _ h => h) (Or.inl ⟨by rfl, ?_⟩) (by assumption) ?_
                                rotate_left
                                · (intro w hSw; have hcw := hSw.2.1; go_simp; try with_reducible rfl)
                                try simp only [List.getElem_toArray, List.getElem_cons_succ, List.getElem_cons_zero, Act.put, List.setIfInBounds_toArray, List.set_cons_zero, List.set_cons_succ]
                                refine wpAnyH_take (i := 23) (v := ?_) rfl (by kernel_rfl) (by kernel_rfl) (by kernel_rfl) (fun _ _ _ h => h) (Or.inl ⟨by rfl, ?_⟩) (by assumption) ?_
                                rotate_left
                                · (intro w hSw; have hcw := hSw.2.1; go_simp; try with_reducible rfl)
                                try simp only [List.getElem_toArray, List.getElem_cons_succ, List.getElem_cons_zero, Act.put, List.setIfInBounds_toArray, List.set_cons_zero, List.set_cons_succ]
                                refine wpAnyH_take (i := 24) (v := ?_) rfl (by kernel_rfl) (by kernel_rfl) (by kernel_rfl) (fun _ _ _ h => h) (Or.inl ⟨by rfl, ?_⟩) (by assumption) ?_
                                rotate_left
                                · (intro w hSw; have hcw := hSw.2.1; go_simp; try with_reducible rfl)
                                try simp only [List.getElem_toArray, List.getElem_cons_succ, List.getElem_cons_zero, Act.put, List.setIfInBounds_toArray, List.set_cons_zero, List.set_cons_succ]
                                refine wpAnyH_take (i := 25) (v := ?_) rfl (by kernel_rfl) (by kernel_rfl) (by kernel_rfl) (fun _ _ _ h => h) (Or.inl ⟨by rfl, ?_⟩) (by assumption) ?_
                                rotate_left
                                · (intro w hSw; have hcw := hSw.2.1; go_simp; try with_reducible rfl)
                                try simp only [List.getElem_toArray, List.getElem_cons_succ, List.getElem_cons_zero, Act.put, List.setIfInBounds_toArray, List.set_cons_zero, List.set_cons_succ]
                                refine wpAnyH_take (i := 26) (v := ?_) rfl (by kernel_rfl) (by kernel_rfl) (by kernel_rfl) (fun _ _ _ h => h) (Or.inl ⟨by rfl, ?_⟩) (by assumption) ?_
                                rotate_left
                                · (intro w hSw; have hcw := hSw.2.1; go_simp; try with_reducible rfl)
                                try simp only [List.getElem_toArray, List.getElem_cons_succ, List.getElem_cons_zero, Act.put, List.setIfInBounds_toArray, List.set_cons_zero, List.set_cons_succ]
                                refine wpAnyH_take (i := 27) (v := ?_) rfl (by kernel_rfl) (by kernel_rfl) (by kernel_rfl) (fun _ _ _ h => h) (Or.inl ⟨by rfl, ?_⟩) (by assumption) ?_
                                rotate_left
                                · (intro w hSw; have hcw := hSw.2.1; go_simp; try with_reducible rfl)
                                try simp only [List.getElem_toArray, List.getElem_cons_succ, List.getElem_cons_zero, Act.put, List.setIfInBounds_toArray, List.set_cons_zero, List.set_cons_succ]
                                refine wpAnyH_take (i := 28) (v := ?_) rfl (by kernel_rfl) (by kernel_rfl) (by kernel_rfl) (fun _ _ _ h => h) (Or.inl ⟨by rfl, ?_⟩) (by assumption) ?_
                                rotate_left
                                · (intro w hSw; have hcw := hSw.2.1; go_simp; try with_reducible rfl)
                                try simp only [List.getElem_toArray, List.getElem_cons_succ, List.getElem_cons_zero, Act.put, List.setIfInBounds_toArray, List.set_cons_zero, List.set_cons_succ]
                                refine wpAnyH_take (i := 29) (v := ?_) rfl (by kernel_rfl) (by kernel_rfl) (by kernel_rfl) (fun _ _ _ h => h) (Or.inl ⟨by rfl, ?_⟩) (by assumption) ?_
                                rotate_left
                                · (intro w hSw; have hcw := hSw.2.1; go_simp; try with_reducible rfl)
                                try simp only [List.getElem_toArray, List.getElem_cons_succ, List.getElem_cons_zero, Act.put, List.setIfInBounds_toArray, List.set_cons_zero, List.set_cons_succ]
                                refine wpAnyH_take (i := 30) (v := ?_) rfl (by kernel_rfl) (by kernel_rfl) (by kernel_rfl) (fun _ _ _ h => h) (Or.inl ⟨by rfl, ?_⟩) (by assumption) ?_
                                rotate_left
                                · (intro w hSw; have hcw := hSw.2.1; go_simp; try with_reducible rfl)
                                try simp only [List.getElem_toArray, List.getElem_cons_succ, List.getElem_cons_zero, Act.put, List.setIfInBounds_toArray, List.set_cons_zero, List.set_cons_succ]
                                refine wpAnyH_take (i := 31) (v := ?_) rfl (by kernel_rfl) (by kernel_rfl) (by kernel_rfl) (fun _ _ _ h => h) (Or.inl ⟨by rfl, ?_⟩) (by assumption) ?_
                                rotate_left
                                · (intro w hSw; have hcw := hSw.2.1; go_simp; try with_reducible rfl)
                                try simp only [List.getElem_toArray, List.getElem_cons_succ, List.getElem_cons_zero, Act.put, List.setIfInBounds_toArray, List.set_cons_zero, List.set_cons_succ]
                                refine wpAnyH_take (i := 32) (v := ?_) rfl (by kernel_rfl) (by kernel_rfl) (by kernel_rfl) (fun _ _ _ h => h) (Or.inl ⟨by rfl, ?_⟩) (by assumption) ?_
                                rotate_left
                                · (intro w hSw; have hcw := hSw.2.1; go_simp; try with_reducible rfl)
                                try simp only [List.getElem_toArray, List.getElem_cons_succ, List.getElem_cons_zero, Act.put, List.setIfInBounds_toArray, List.set_cons_zero, List.set_cons_succ]
                                refine wpAnyH_take (i := 33) (v := ?_) rfl (by kernel_rfl) (by kernel_rfl) (by kernel_rfl) (fun _ _ _ h => h) (Or.inl ⟨by rfl, ?_⟩) (by assumption) ?_
                                rotate_left
                                · (intro w hSw; have hcw := hSw.2.1; go_simp; try with_reducible rfl)
                                try simp only [List.getElem_toArray, List.getElem_cons_succ, List.getElem_cons_zero, Act.put, List.setIfInBounds_toArray, List.set_cons_zero, List.set_cons_succ]
                                refine wpAnyH_take (i := 34) (v := ?_) rfl (by kernel_rfl) (by kernel_rfl) (by kernel_rfl) (fun _ _ _ h => h) (Or.inl ⟨by rfl, ?_⟩) (by assumption) ?_
                                rotate_left
                                · (intro w hSw; have hcw := hSw.2.1; go_simp; try with_reducible rfl)
                                try simp only [List.getElem_toArray, List.getElem_cons_succ, List.getElem_cons_zero, Act.put, List.setIfInBounds_toArray, List.set_cons_zero, List.set_cons_succ]
                                refine wpAnyH_take (i := 35) (v := ?_) rfl (by kernel_rfl) (by kernel_rfl) (by kernel_rfl) (fun _ _ _ h => h) (Or.inl ⟨by rfl, ?_⟩) (by assumption) ?_
                                rotate_left
                                · (intro w hSw; have hcw := hSw.2.1; go_simp; try with_reducible rfl)
                                try simp only [List.getElem_toArray, List.getElem_cons_succ, List.getElem_cons_zero, Act.put, List.setIfInBounds_toArray, List.set_cons_zero, List.set_cons_succ]
                                refine wpAnyH_take (i := 36) (v := ?_) rfl (by kernel_rfl) (by kernel_rfl) (by kernel_rfl) (fun _ _ _ h => h) (Or.inl ⟨by rfl, ?_⟩) (by assumption) ?_
                                rotate_left
                                · (intro w hSw; have hcw := hSw.2.1; go_simp; try with_reducible rfl)
                                try simp only [List.getElem_toArray, List.getElem_cons_succ, List.getElem_cons_zero, Act.put, List.setIfInBounds_toArray, List.set_cons_zero, List.set_cons_succ]
                                refine wpAnyH_take (i := 37) (v := ?_) rfl (by kernel_rfl) (by kernel_rfl) (by kernel_rfl) (fun _ _ _ h => h) (Or.inl ⟨by rfl, ?_⟩) (by assumption) ?_
                                rotate_left
                                · (intro w hSw; have hcw := hSw.2.1; go_simp; try with_reducible rfl)
                                try simp only [List.getElem_toArray, List.getElem_cons_succ, List.getElem_cons_zero, Act.put, List.setIfInBounds_toArray, List.set_cons_zero, List.set_cons_succ]
                                refine wpAnyH_take (i := 38) (v := ?_) rfl (by kernel_rfl) (by kernel_rfl) (by kernel_rfl) (fun _ _ _ h => h) (Or.inl ⟨by rfl, ?_⟩) (by assumption) ?_
                                rotate_left
                                · (intro w hSw; have hcw := hSw.2.1; go_simp; try with_reducible rfl)
                                try simp only [List.getElem_toArray, List.getElem_cons_succ, List.getElem_cons_zero, Act.put, List.setIfInBounds_toArray, List.set_cons_zero, List.set_cons_succ]
                                refine wpAnyH_take (i := 39) (v := ?_) rfl (by kernel_rfl) (by kernel_rfl) (by kernel_rfl) (fun _ _ _ h => h) (Or.inl ⟨by rfl, ?_⟩) (by assumption) ?_
                                rotate_left
                                · (intro w hSw; have hcw := hSw.2.1; go_simp; try with_reducible rfl)
                                try simp only [List.getElem_toArray, List.getElem_cons_succ, List.getElem_cons_zero, Act.put, List.setIfInBounds_toArray, List.set_cons_zero, List.set_cons_succ]
                                refine wpAnyH_take (i := 40) (v := ?_) rfl (by kernel_rfl) (by kernel_rfl) (by kernel_rfl) (fun _ _ _ h => h) (Or.inl ⟨by rfl, ?_⟩) (by assumption) ?_
                                rotate_left
                                · (intro w hSw; have hcw := hSw.2.1; go_simp; try with_reducible rfl)
                                try simp only [List.getElem_toArray, List.getElem_cons_succ, List.getElem_cons_zero, Act.put, List.setIfInBounds_toArray, List.set_cons_zero, List.set_cons_succ]
                                refine wpAnyH_take (i := 41) (v := ?_) rfl (by kernel_rfl) (by kernel_rfl) (by kernel_rfl) (fun _ _ _ h => h) (Or.inl ⟨by rfl, ?_⟩) (by assumption) ?_
                                rotate_left
                                · (intro w hSw; have hcw := hSw.2.1; go_simp; try with_reducible rfl)
                                try simp only [List.getElem_toArray, List.getElem_cons_succ, List.getElem_cons_zero, Act.put, List.setIfInBounds_toArray, List.set_cons_zero, List.set_cons_succ]
                                refine wpAnyH_take (i := 42) (v := ?_) rfl (by kernel_rfl) (by kernel_rfl) (by kernel_rfl) (fun _ _ _ h => h) (Or.inl ⟨by rfl, ?_⟩) (by assumption) ?_
                                rotate_left
                                · (intro w hSw; have hcw := hSw.2.1; go_simp; try with_reducible rfl)
                                try simp only [List.getElem_toArray, List.getElem_cons_succ, List.getElem_cons_zero, Act.put, List.setIfInBounds_toArray, List.set_cons_zero, List.set_cons_succ]
                                refine wpAnyH_take (i := 43) (v := ?_) rfl (by kernel_rfl) (by kernel_rfl) (by kernel_rfl) (fun _ _ _ h => h) (Or.inl ⟨by rfl, ?_⟩) (by assumption) ?_
                                rotate_left
                                · (intro w hSw; have hcw := hSw.2.1; go_simp; try with_reducible rfl)
                                try simp only [List.getElem_toArray, List.getElem_cons_succ, List.getElem_cons_zero, Act.put, List.setIfInBounds_toArray, List.set_cons_zero, List.set_cons_succ]
                                refine wpAnyH_ready (rs := [44]) (by kernel_rfl) (by simp) ?_
                                refine AllReadyH.cons rfl (fun K hK => ?_) AllReadyH.nil
                                go_simp
                                have hten := ten_cells wA (.string (tx L)) (.string (tx (mid L 0 a))) (.string (tx (mid L a (a + b)))) (.string (tx (mid L (a + b) (a + b + c)))) (.string (tx (mid L (a + b + c) (a + b + c + d)))) (.string (tx (mid L (a + b + c + d) (a + b + c + d + 1)))) (.string (tx (mid L (a + b + c + d + 1) (a + b + c + d + 2)))) (.string (tx (mid L (a + b + c + d + 2) (a + b + c + d + 2 + 0)))) (.string ⟨#[]⟩) (.string ⟨#[]⟩)
                                have hB2 : SanW L w (wA.alloc (.cells #[.string (tx L), .string (tx (mid L 0 a)), .string (tx (mid L a (a + b))), .string (tx (mid L (a + b) (a + b + c))), .string (tx (mid L (a + b + c) (a + b + c + d))), .string (tx (mid L (a + b + c + d) (a + b + c + d + 1))), .string (tx (mid L (a + b + c + d + 1) (a + b + c + d + 2))), .string (tx (mid L (a + b + c + d + 2) (a + b + c + d + 2 + 0))), .string ⟨#[]⟩, .string ⟨#[]⟩] 9)) := hHeld.below ((Below.refl _ _).alloc (Nat.le_refl _) _)
                                refine hK.out _ _ hB2 (fun hHeld2 => ?_)
                                clear hK K
                                try simp only [List.getElem_toArray, List.getElem_cons_succ, List.getElem_cons_zero, Act.put, List.setIfInBounds_toArray, List.set_cons_zero, List.set_cons_succ]
                                refine wpAnyH_take (i := 45) (v := ?_) rfl (by kernel_rfl) (by kernel_rfl) (by kernel_rfl) (fun _ _ _ h => h) (Or.inl ⟨by rfl, ?_⟩) (by assumption) ?_
                                rotate_left
                                · (intro w hSw; go_simp; try with_reducible rfl)
                                try simp only [List.getElem_toArray, List.getElem_cons_succ, List.getElem_cons_zero, Act.put, List.setIfInBounds_toArray, List.set_cons_zero, List.set_cons_succ]
                                refine wpAnyH_done (by kernel_rfl) ?_ _
                                replace hten := Lib.hid hten
                                replace hB2 := Lib.hid hB2
                                clear hHeld2 s1 s2 s3 s4 s5 s6 s7 e1 e2 e3 e4 e5
                                go_wp2_with (fail)
                                go_ret
                                refine ⟨.inl ⟨partsOf L a b c d 0, wA.heap.size, .inl ⟨a, b, c, d, 0, hit, rfl⟩, rfl, rfl, by simp, Nat.le_of_lt hHeld.1, fun i hi => ?_⟩, hB2.out.2.2⟩
                                rw [hten.out (i + 1) (by omega)]
                                have : i = 0 ∨ i = 1 ∨ i = 2 ∨ i = 3 ∨ i = 4 ∨ i = 5 ∨ i = 6 ∨ i = 7 := by omega
                                rcases this with rfl | rfl | rfl | rfl | rfl | rfl | rfl | rfl <;> rfl
                            · have hfin := Lib.hid (show ∀ d' p : Nat, (d : Int) - 1 < (d' : Int) → ¬ Hit L a b c d' p from fun d' p h hh => by
                                by_cases e : d' = d
                                · subst e; exact hno5 p (by omega) hh
                                · exact hno4.out d' p (by omega) hh)
                              clear hno5
                              go_wp2_with (fail)
                              exact ⟨⟨(d : Int) - 1, by omega, by omega, rfl, hfin.out, hw⟩, by simp [intOf]⟩
                        · skip
                          refine (one_v promS L (by decide) hL1 _ (a + b + c + d + 3) (by omega) (by omega) 1 (one_yes hP) w.heap.size _ hw9.2.1).mono ?_
                          rintro e hw8w ⟨rfl, hb⟩
                          have hw8 := hw9.below hb
                          clear hw9 hb
                          go_wp2_with (fail)
                          have hps : PS L a b c d 2 2 := ⟨.inl ⟨rfl, rfl⟩, fun p h hh => by
                            rcases hh.hp with ⟨h0, _, _⟩ | h0
                            · omega
                            · omega⟩
                          go_loopw [10] (fun p wr => ∃ z : Int, PS L a b c d 2 z ∧ p = .int .i64 z ∧ SanW L w wr) (fun p _ => (intOf p + 2).toNat)
                          case atStart => exact ⟨_, hps, rfl, hw8⟩
                          case round =>
                            clear hw8 hps
                            obtain ⟨q, ⟨hq, hno5⟩, rfl, hw⟩ := hrel
                            have hcw := hw.2.1
                            have hq' : q = 2 ∨ q = 0 ∨ q = -2 := by omega
                            rcases hq' with rfl | rfl | rfl
                            · cases ht : tailB L (a + b + c + d + 2 + 2)
                              · have hfin := Lib.hid (show ∀ p' : Nat, (0 : Int) < (p' : Int) → ¬ Hit L a b c d p' from fun p' h hh => by
                                  by_cases e : p' = 2
                                  · subst e; have := hh.ht; rw [ht] at this; cases this
                                  · exact hno5 p' (by rcases hh.hp with ⟨h0, _⟩ | h0 <;> omega) hh)
                                clear hno5
                                go_wp2_with (fail)
                                refine (tail_at L hL1 _ (a + b + c + d + 2 + 2) (by omega) (by omega) _).mono ?_
                                rintro e w9 ⟨rfl, rfl⟩
                                rw [ht]
                                go_wp2_with (fail)
                                exact ⟨⟨0, ⟨.inr (.inl rfl), hfin.out⟩, rfl, hw⟩, by simp [intOf]⟩
                              · have hit : Hit L a b c d 2 := ⟨by omega, by omega, by omega, by omega, hF, hD, .inl ⟨rfl, hE, hP⟩, ht⟩
                                clear hno5
                                go_wp2_with (fail)
                                refine (tail_at L hL1 _ (a + b + c + d + 2 + 2) (by omega) (by omega) _).mono ?_
                                rintro e w9 ⟨rfl, rfl⟩
                                rw [ht]
                                go_wp2_with (fail)
                                have hlD := has_lt hD
                                have hlP := has_lt hP
                                have s1 := slice_to L (a : Int) a rfl (by omega)
                                have s2 := slice_at L (a : Int) ((a : Int) + (b : Int)) a (a + b) rfl (by omega) (by omega) (by omega)
                                have s3 := slice_at L ((a : Int) + (b : Int)) ((a : Int) + (b : Int) + (c : Int)) (a + b) (a + b + c) (by omega) (by omega) (by omega) (by omega)
                                have s4 := slice_at L ((a : Int) + (b : Int) + (c : Int)) ((a : Int) + (b : Int) + (c : Int) + (d : Int)) (a + b + c) (a + b + c + d) (by omega) (by omega) (by omega) (by omega)
                                have s5 := slice_at L ((a : Int) + (b : Int) + (c : Int) + (d : Int)) ((a : Int) + (b : Int) + (c : Int) + (d : Int) + 1) (a + b + c + d) (a + b + c + d + 1) (by omega) (by omega) (by omega) (by omega)
                                have s6 := slice_at L ((a : Int) + (b : Int) + (c : Int) + (d : Int) + 1) ((a : Int) + (b : Int) + (c : Int) + (d : Int) + 2) (a + b + c + d + 1) (a + b + c + d + 2) (by omega) (by omega) (by omega) (by omega)
                                have s7 := slice_at L ((a : Int) + (b : Int) + (c : Int) + (d : Int) + 2) ((a : Int) + (b : Int) + (c : Int) + (d : Int) + 2 + 2) (a + b + c + d + 2) (a + b + c + d + 2 + 2) (by omega) (by omega) (by omega) (by omega)
                                have e1 : IntKind.i64.wrap ((a : Int) + (b : Int)) = (a : Int) + (b : Int) := IntWalk.i64_in _ (by omega)
                                have e2 : IntKind.i64.wrap ((a : Int) + (b : Int) + (c : Int)) = (a : Int) + (b : Int) + (c : Int) := IntWalk.i64_in _ (by omega)
                                have e3 : IntKind.i64.wrap ((a : Int) + (b : Int) + (c : Int) + (d : Int) + 1) = (a : Int) + (b : Int) + (c : Int) + (d : Int) + 1 := IntWalk.i64_in _ (by omega)
                                have e4 : IntKind.i64.wrap ((a : Int) + (b : Int) + (c : Int) + (d : Int) + 2) = (a : Int) + (b : Int) + (c : Int) + (d : Int) + 2 := IntWalk.i64_in _ (by omega)
                                have e5 : IntKind.i64.wrap ((a : Int) + (b : Int) + (c : Int) + (d : Int) + 2 + 2) = (a : Int) + (b : Int) + (c : Int) + (d : Int) + 2 + 2 := IntWalk.i64_in _ (by omega)
                                refine held_any (S := SanW L w) (by kernel_rfl) (hw.below ⟨rfl, rfl, rfl, Nat.le_refl _, fun _ _ => rfl⟩) ?_
                                intro wA hHeld
                                clear hw hcw
                                refine wpAnyH_take (i := 0) (v := ?_) rfl (by kernel_rfl) (by kernel_rfl) (by kernel_rfl) (fun _ _ _ h => h) (Or.inl ⟨by rfl, ?_⟩) (by assumption) ?_
                                rotate_left
                                · (intro w hSw; have hcw := hSw.2.1; go_simp; try with_reducible rfl)
                                try simp only [List.getElem_toArray, List.getElem_cons_succ, List.getElem_cons_zero, Act.put, List.setIfInBounds_toArray, List.set_cons_zero, List.set_cons_succ]
                                refine wpAnyH_take (i := 1) (v := ?_) rfl (by kernel_rfl) (by kernel_rfl) (by kernel_rfl) (fun _ _ _ h => h) (Or.inl ⟨by rfl, ?_⟩) (by assumption) ?_
                                rotate_left
                                · (intro w hSw; have hcw := hSw.2.1; go_simp; try with_reducible rfl)
                                try simp only [List.getElem_toArray, List.getElem_cons_succ, List.getElem_cons_zero, Act.put, List.setIfInBounds_toArray, List.set_cons_zero, List.set_cons_succ]
                                refine wpAnyH_take (i := 2) (v := ?_) rfl (by kernel_rfl) (by kernel_rfl) (by kernel_rfl) (fun _ _ _ h => h) (Or.inl ⟨by rfl, ?_⟩) (by assumption) ?_
                                rotate_left
                                · (intro w hSw; have hcw := hSw.2.1; go_simp; try with_reducible rfl)
                                try simp only [List.getElem_toArray, List.getElem_cons_succ, List.getElem_cons_zero, Act.put, List.setIfInBounds_toArray, List.set_cons_zero, List.set_cons_succ]
                                refine wpAnyH_take (i := 3) (v := ?_) rfl (by kernel_rfl) (by kernel_rfl) (by kernel_rfl) (fun _ _ _ h => h) (Or.inl ⟨by rfl, ?_⟩) (by assumption) ?_
                                rotate_left
                                · (intro w hSw; have hcw := hSw.2.1; go_simp; try with_reducible rfl)
                                try simp only [List.getElem_toArray, List.getElem_cons_succ, List.getElem_cons_zero, Act.put, List.setIfInBounds_toArray, List.set_cons_zero, List.set_cons_succ]
                                refine wpAnyH_take (i := 4) (v := ?_) rfl (by kernel_rfl) (by kernel_rfl) (by kernel_rfl) (fun _ _ _ h => h) (Or.inl ⟨by rfl, ?_⟩) (by assumption) ?_
                                rotate_left
                                · (intro w hSw; have hcw := hSw.2.1; go_simp; try with_reducible rfl)
                                try simp only [List.getElem_toArray, List.getElem_cons_succ, List.getElem_cons_zero, Act.put, List.setIfInBounds_toArray, List.set_cons_zero, List.set_cons_succ]
                                refine wpAnyH_take (i := 5) (v := ?_) rfl (by kernel_rfl) (by kernel_rfl) (by kernel_rfl) (fun _ _ _ h => h) (Or.inl ⟨by rfl, ?_⟩) (by assumption) ?_
                                rotate_left
                                · (intro w hSw; have hcw := hSw.2.1; go_simp; try with_reducible rfl)
                                try simp only [List.getElem_toArray, List.getElem_cons_succ, List.getElem_cons_zero, Act.put, List.setIfInBounds_toArray, List.set_cons_zero, List.set_cons_succ]
                                refine wpAnyH_take (i := 6) (v := ?_) rfl (by kernel_rfl) (by kernel_rfl) (by kernel_rfl) (fun _ _ _ h => h) (Or.inl ⟨by rfl, ?_⟩) (by assumption) ?_
                                rotate_left
                                · (intro w hSw; have hcw := hSw.2.1; go_simp; try with_reducible rfl)
                                try simp only [List.getElem_toArray, List.getElem_cons_succ, List.getElem_cons_zero, Act.put, List.setIfInBounds_toArray, List.set_cons_zero, List.set_cons_succ]
                                refine wpAnyH_take (i := 7) (v := ?_) rfl (by kernel_rfl) (by kernel_rfl) (by kernel_rfl) (fun _ _ _ h => h) (Or.inl ⟨by rfl, ?_⟩) (by assumption) ?_
                                rotate_left
                                · (intro w hSw; have hcw := hSw.2.1; go_simp; try with_reducible rfl)
                                try simp only [List.getElem_toArray, List.getElem_cons_succ, List.getElem_cons_zero, Act.put, List.setIfInBounds_toArray, List.set_cons_zero, List.set_cons_succ]
                                refine wpAnyH_take (i := 8) (v := ?_) rfl (by kernel_rfl) (by kernel_rfl) (by kernel_rfl) (fun _ _ _ h => h) (Or.inl ⟨by rfl, ?_⟩) (by assumption) ?_
                                rotate_left
                                · (intro w hSw; have hcw := hSw.2.1; go_simp; try with_reducible rfl)
                                try simp only [List.getElem_toArray, List.getElem_cons_succ, List.getElem_cons_zero, Act.put, List.setIfInBounds_toArray, List.set_cons_zero, List.set_cons_succ]
                                refine wpAnyH_take (i := 9) (v := ?_) rfl (by kernel_rfl) (by kernel_rfl) (by kernel_rfl) (fun _ _ _ h => h) (Or.inl ⟨by rfl, ?_⟩) (by assumption) ?_
                                rotate_left
                                · (intro w hSw; have hcw := hSw.2.1; go_simp; try with_reducible rfl)
                                try simp only [List.getElem_toArray, List.getElem_cons_succ, List.getElem_cons_zero, Act.put, List.setIfInBounds_toArray, List.set_cons_zero, List.set_cons_succ]
                                refine wpAnyH_take (i := 10) (v := ?_) rfl (by kernel_rfl) (by kernel_rfl) (by kernel_rfl) (fun _ _ _ h => h) (Or.inl ⟨by rfl, ?_⟩) (by assumption) ?_
                                rotate_left
                                · (intro w hSw; have hcw := hSw.2.1; go_simp; try with_reducible rfl)
                                try simp only [List.getElem_toArray, List.getElem_cons_succ, List.getElem_cons_zero, Act.put, List.setIfInBounds_toArray, List.set_cons_zero, List.set_cons_succ]
                                refine wpAnyH_take (i := 11) (v := ?_) rfl (by kernel_rfl) (by kernel_rfl) (by kernel_rfl) (fun _ _ _ h => h) (Or.inl ⟨by rfl, ?_⟩) (by assumption) ?_
                                rotate_left
                                · (intro w hSw; have hcw := hSw.2.1; go_simp; try with_reducible rfl)
                                try simp only [List.getElem_toArray, List.getElem_cons_succ, List.getElem_cons_zero, Act.put, List.setIfInBounds_toArray, List.set_cons_zero, List.set_cons_succ]
                                refine wpAnyH_take (i := 12) (v := ?_) rfl (by kernel_rfl) (by kernel_rfl) (by kernel_rfl) (fun _ _ _ h => h) (Or.inl ⟨by rfl, ?_⟩) (by assumption) ?_
                                rotate_left
                                · (intro w hSw; have hcw := hSw.2.1; go_simp; try with_reducible rfl)
                                try simp only [List.getElem_toArray, List.getElem_cons_succ, List.getElem_cons_zero, Act.put, List.setIfInBounds_toArray, List.set_cons_zero, List.set_cons_succ]
                                refine wpAnyH_take (i := 13) (v := ?_) rfl (by kernel_rfl) (by kernel_rfl) (by kernel_rfl) (fun _ _ _ h => h) (Or.inl ⟨by rfl, ?_⟩) (by assumption) ?_
                                rotate_left
                                · (intro w hSw; have hcw := hSw.2.1; go_simp; try with_reducible rfl)
                                try simp only [List.getElem_toArray, List.getElem_cons_succ, List.getElem_cons_zero, Act.put, List.setIfInBounds_toArray, List.set_cons_zero, List.set_cons_succ]
                                refine wpAnyH_take (i := 14) (v := ?_) rfl (by kernel_rfl) (by kernel_rfl) (by kernel_rfl) (fun _ _ _ h => h) (Or.inl ⟨by rfl, ?_⟩) (by assumption) ?_
                                rotate_left
                                · (intro w hSw; have hcw := hSw.2.1; go_simp; try with_reducible rfl)
                                try simp only [List.getElem_toArray, List.getElem_cons_succ, List.getElem_cons_zero, Act.put, List.setIfInBounds_toArray, List.set_cons_zero, List.set_cons_succ]
                                refine wpAnyH_take (i := 15) (v := ?_) rfl (by kernel_rfl) (by kernel_rfl) (by kernel_rfl) (fun _ _ _ h => h) (Or.inl ⟨by rfl, ?_⟩) (by assumption) ?_
                                rotate_left
                                · (intro w hSw; have hcw := hSw.2.1; go_simp; try with_reducible rfl)
                                try simp only [List.getElem_toArray, List.getElem_cons_succ, List.getElem_cons_zero, Act.put, List.setIfInBounds_toArray, List.set_cons_zero, List.set_cons_succ]
                                refine wpAnyH_take (i := 16) (v := ?_) rfl (by kernel_rfl) (by kernel_rfl) (by kernel_rfl) (fun _ _ _ h => h) (Or.inl ⟨by rfl, ?_⟩) (by assumption) ?_
                                rotate_left
                                · (intro w hSw; have hcw := hSw.2.1; go_simp; try with_reducible rfl)
                                try simp only [List.getElem_toArray, List.getElem_cons_succ, List.getElem_cons_zero, Act.put, List.setIfInBounds_toArray, List.set_cons_zero, List.set_cons_succ]
                                refine wpAnyH_take (i := 17) (v := ?_) rfl (by kernel_rfl) (by kernel_rfl) (by kernel_rfl) (fun _ _ _ h => h) (Or.inl ⟨by rfl, ?_⟩) (by assumption) ?_
                                rotate_left
                                · (intro w hSw; have hcw := hSw.2.1; go_simp; try with_reducible rfl)
                                try simp only [List.getElem_toArray, List.getElem_cons_succ, List.getElem_cons_zero, Act.put, List.setIfInBounds_toArray, List.set_cons_zero, List.set_cons_succ]
                                refine wpAnyH_take (i := 18) (v := ?_) rfl (by kernel_rfl) (by kernel_rfl) (by kernel_rfl) (fun _ _ _ h => h) (Or.inl ⟨by rfl, ?_⟩) (by assumption) ?_
                                rotate_left
                                · (intro w hSw; have hcw := hSw.2.1; go_simp; try with_reducible rfl)
                                try simp only [List.getElem_toArray, List.getElem_cons_succ, List.getElem_cons_zero, Act.put, List.setIfInBounds_toArray, List.set_cons_zero, List.set_cons_succ]
                                refine wpAnyH_take (i := 19) (v := ?_) rfl (by kernel_rfl) (by kernel_rfl) (by kernel_rfl) (fun _ _ _ h => h) (Or.inl ⟨by rfl, ?_⟩) (by assumption) ?_
                                rotate_left
                                · (intro w hSw; have hcw := hSw.2.1; go_simp; try with_reducible rfl)
                                try simp only [List.getElem_toArray, List.getElem_cons_succ, List.getElem_cons_zero, Act.put, List.setIfInBounds_toArray, List.set_cons_zero, List.set_cons_succ]
                                refine wpAnyH_take (i := 20) (v := ?_) rfl (by kernel_rfl) (by kernel_rfl) (by kernel_rfl) (fun _ _ _ h => h) (Or.inl ⟨by rfl, ?_⟩) (by assumption) ?_
                                rotate_left
                                · (intro w hSw; have hcw := hSw.2.1; go_simp; try with_reducible rfl)
                                try simp only [List.getElem_toArray, List.getElem_cons_succ, List.getElem_cons_zero, Act.put, List.setIfInBounds_toArray, List.set_cons_zero, List.set_cons_succ]
                                refine wpAnyH_take (i := 21) (v := ?_) rfl (by kernel_rfl) (by kernel_rfl) (by kernel_rfl) (fun _ _ _ h => h) (Or.inl ⟨by rfl, ?_⟩) (by assumption) ?_
                                rotate_left
                                · (intro w hSw; have hcw := hSw.2.1; go_simp; try with_reducible rfl)
                                try simp only [List.getElem_toArray, List.getElem_cons_succ, List.getElem_cons_zero, Act.put, List.setIfInBounds_toArray, List.set_cons_zero, List.set_cons_succ]
                                refine wpAnyH_take (i := 22) (v := ?_) rfl (by kernel_rfl) (by kernel_rfl) (by kernel_rfl) (fun _ _ _ h => h) (Or.inl ⟨by rfl, ?_⟩) (by assumption) ?_
                                rotate_left
                                · (intro w hSw; have hcw := hSw.2.1; go_simp; try with_reducible rfl)
                                try simp only [List.getElem_toArray, List.getElem_cons_succ, List.getElem_cons_zero, Act.put, List.setIfInBounds_toArray, List.set_cons_zero, List.set_cons_succ]
                                refine wpAnyH_take (i := 23) (v := ?_) rfl (by kernel_rfl) (by kernel_rfl) (by kernel_rfl) (fun _ _ _ h => h) (Or.inl ⟨by rfl, ?_⟩) (by assumption) ?_
                                rotate_left
                                · (intro w hSw; have hcw := hSw.2.1; go_simp; try with_reducible rfl)
                                try simp only [List.getElem_toArray, List.getElem_cons_succ, List.getElem_cons_zero, Act.put, List.setIfInBounds_toArray, List.set_cons_zero, List.set_cons_succ]
                                refine wpAnyH_take (i := 24) (v := ?_) rfl (by kernel_rfl) (by kernel_rfl) (by kernel_rfl) (fun _ _ _ h => h) (Or.inl ⟨by rfl, ?_⟩) (by assumption) ?_
                                rotate_left
                                · (intro w hSw; have hcw := hSw.2.1; go_simp; try with_reducible rfl)
                                try simp only [List.getElem_toArray, List.getElem_cons_succ, List.getElem_cons_zero, Act.put, List.setIfInBounds_toArray, List.set_cons_zero, List.set_cons_succ]
                                refine wpAnyH_take (i := 25) (v := ?_) rfl (by kernel_rfl) (by kernel_rfl) (by kernel_rfl) (fun _ _ _ h => h) (Or.inl ⟨by rfl, ?_⟩) (by assumption) ?_
                                rotate_left
                                · (intro w hSw; have hcw := hSw.2.1; go_simp; try with_reducible rfl)
                                try simp only [List.getElem_toArray, List.getElem_cons_succ, List.getElem_cons_zero, Act.put, List.setIfInBounds_toArray, List.set_cons_zero, List.set_cons_succ]
                                refine wpAnyH_take (i := 26) (v := ?_) rfl (by kernel_rfl) (by kernel_rfl) (by kernel_rfl) (fun _ _ _ h => h) (Or.inl ⟨by rfl, ?_⟩) (by assumption) ?_
                                rotate_left
                                · (intro w hSw; have hcw := hSw.2.1; go_simp; try with_reducible rfl)
                                try simp only [List.getElem_toArray, List.getElem_cons_succ, List.getElem_cons_zero, Act.put, List.setIfInBounds_toArray, List.set_cons_zero, List.set_cons_succ]
                                refine wpAnyH_take (i := 27) (v := ?_) rfl (by kernel_rfl) (by kernel_rfl) (by kernel_rfl) (fun _ _ _ h => h) (Or.inl ⟨by rfl, ?_⟩) (by assumption) ?_
                                rotate_left
                                · (intro w hSw; have hcw := hSw.2.1; go_simp; try with_reducible rfl)
                                try simp only [List.getElem_toArray, List.getElem_cons_succ, List.getElem_cons_zero, Act.put, List.setIfInBounds_toArray, List.set_cons_zero, List.set_cons_succ]
                                refine wpAnyH_take (i := 28) (v := ?_) rfl (by kernel_rfl) (by kernel_rfl) (by kernel_rfl) (fun _ _ _ h => h) (Or.inl ⟨by rfl, ?_⟩) (by assumption) ?_
                                rotate_left
                                · (intro w hSw; have hcw := hSw.2.1; go_simp; try with_reducible rfl)
                                try simp only [List.getElem_toArray, List.getElem_cons_succ, List.getElem_cons_zero, Act.put, List.setIfInBounds_toArray, List.set_cons_zero, List.set_cons_succ]
                                refine wpAnyH_take (i := 29) (v := ?_) rfl (by kernel_rfl) (by kernel_rfl) (by kernel_rfl) (fun _ _ _ h => h) (Or.inl ⟨by rfl, ?_⟩) (by assumption) ?_
                                rotate_left
                                · (intro w hSw; have hcw := hSw.2.1; go_simp; try with_reducible rfl)
                                try simp only [List.getElem_toArray, List.getElem_cons_succ, List.getElem_cons_zero, Act.put, List.setIfInBounds_toArray, List.set_cons_zero, List.set_cons_succ]
                                refine wpAnyH_take (i := 30) (v := ?_) rfl (by kernel_rfl) (by kernel_rfl) (by kernel_rfl) (fun _ _ _ h => h) (Or.inl ⟨by rfl, ?_⟩) (by assumption) ?_
                                rotate_left
                                · (intro w hSw; have hcw := hSw.2.1; go_simp; try with_reducible rfl)
                                try simp only [List.getElem_toArray, List.getElem_cons_succ, List.getElem_cons_zero, Act.put, List.setIfInBounds_toArray, List.set_cons_zero, List.set_cons_succ]
                                refine wpAnyH_take (i := 31) (v := ?_) rfl (by kernel_rfl) (by kernel_rfl) (by kernel_rfl) (fun _ _ _ h => h) (Or.inl ⟨by rfl, ?_⟩) (by assumption) ?_
                                rotate_left
                                · (intro w hSw; have hcw := hSw.2.1; go_simp; try with_reducible rfl)
                                try simp only [List.getElem_toArray, List.getElem_cons_succ, List.getElem_cons_zero, Act.put, List.setIfInBounds_toArray, List.set_cons_zero, List.set_cons_succ]
                                refine wpAnyH_take (i := 32) (v := ?_) rfl (by kernel_rfl) (by kernel_rfl) (by kernel_rfl) (fun _ _ _ h => h) (Or.inl ⟨by rfl, ?_⟩) (by assumption) ?_
                                rotate_left
                                · (intro w hSw; have hcw := hSw.2.1; go_simp; try with_reducible rfl)
                                try simp only [List.getElem_toArray, List.getElem_cons_succ, List.getElem_cons_zero, Act.put, List.setIfInBounds_toArray, List.set_cons_zero, List.set_cons_succ]
                                refine wpAnyH_take (i := 33) (v := ?_) rfl (by kernel_rfl) (by kernel_rfl) (by kernel_rfl) (fun _ _ _ h => h) (Or.inl ⟨by rfl, ?_⟩) (by assumption) ?_
                                rotate_left
                                · (intro w hSw; have hcw := hSw.2.1; go_simp; try with_reducible rfl)
                                try simp only [List.getElem_toArray, List.getElem_cons_succ, List.getElem_cons_zero, Act.put, List.setIfInBounds_toArray, List.set_cons_zero, List.set_cons_succ]
                                refine wpAnyH_take (i := 34) (v := ?_) rfl (by kernel_rfl) (by kernel_rfl) (by kernel_rfl) (fun _ _ _ h => h) (Or.inl ⟨by rfl, ?_⟩) (by assumption) ?_
                                rotate_left
                                · (intro w hSw; have hcw := hSw.2.1; go_simp; try with_reducible rfl)
                                try simp only [List.getElem_toArray, List.getElem_cons_succ, List.getElem_cons_zero, Act.put, List.setIfInBounds_toArray, List.set_cons_zero, List.set_cons_succ]
                                refine wpAnyH_take (i := 35) (v := ?_) rfl (by kernel_rfl) (by kernel_rfl) (by kernel_rfl) (fun _ _ _ h => h) (Or.inl ⟨by rfl, ?_⟩) (by assumption) ?_
                                rotate_left
                                · (intro w hSw; have hcw := hSw.2.1; go_simp; try with_reducible rfl)
                                try simp only [List.getElem_toArray, List.getElem_cons_succ, List.getElem_cons_zero, Act.put, List.setIfInBounds_toArray, List.set_cons_zero, List.set_cons_succ]
                                refine wpAnyH_take (i := 36) (v := ?_) rfl (by kernel_rfl) (by kernel_rfl) (by kernel_rfl) (fun _ _ _ h => h) (Or.inl ⟨by rfl, ?_⟩) (by assumption) ?_
                                rotate_left
                                · (intro w hSw; have hcw := hSw.2.1; go_simp; try with_reducible rfl)
                                try simp only [List.getElem_toArray, List.getElem_cons_succ, List.getElem_cons_zero, Act.put, List.setIfInBounds_toArray, List.set_cons_zero, List.set_cons_succ]
                                refine wpAnyH_take (i := 37) (v := ?_) rfl (by kernel_rfl) (by kernel_rfl) (by kernel_rfl) (fun _ _ _ h => h) (Or.inl ⟨by rfl, ?_⟩) (by assumption) ?_
                                rotate_left
                                · (intro w hSw; have hcw := hSw.2.1; go_simp; try with_reducible rfl)
                                try simp only [List.getElem_toArray, List.getElem_cons_succ, List.getElem_cons_zero, Act.put, List.setIfInBounds_toArray, List.set_cons_zero, List.set_cons_succ]
                                refine wpAnyH_take (i := 38) (v := ?_) rfl (by kernel_rfl) (by kernel_rfl) (by kernel_rfl) (fun _ _ _ h => h) (Or.inl ⟨by rfl, ?_⟩) (by assumption) ?_
                                rotate_left
                                · (intro w hSw; have hcw := hSw.2.1; go_simp; try with_reducible rfl)
                                try simp only [List.getElem_toArray, List.getElem_cons_succ, List.getElem_cons_zero, Act.put, List.setIfInBounds_toArray, List.set_cons_zero, List.set_cons_succ]
                                refine wpAnyH_take (i := 39) (v := ?_) rfl (by kernel_rfl) (by kernel_rfl) (by kernel_rfl) (fun _ _ _ h => h) (Or.inl ⟨by rfl, ?_⟩) (by assumption) ?_
                                rotate_left
                                · (intro w hSw; have hcw := hSw.2.1; go_simp; try with_reducible rfl)
                                try simp only [List.getElem_toArray, List.getElem_cons_succ, List.getElem_cons_zero, Act.put, List.setIfInBounds_toArray, List.set_cons_zero, List.set_cons_succ]
                                refine wpAnyH_take (i := 40) (v := ?_) rfl (by kernel_rfl) (by kernel_rfl) (by kernel_rfl) (fun _ _ _ h => h) (Or.inl ⟨by rfl, ?_⟩) (by assumption) ?_
                                rotate_left
                                · (intro w hSw; have hcw := hSw.2.1; go_simp; try with_reducible rfl)
                                try simp only [List.getElem_toArray, List.getElem_cons_succ, List.getElem_cons_zero, Act.put, List.setIfInBounds_toArray, List.set_cons_zero, List.set_cons_succ]
                                refine wpAnyH_take (i := 41) (v := ?_) rfl (by kernel_rfl) (by kernel_rfl) (by kernel_rfl) (fun _ _ _ h => h) (Or.inl ⟨by rfl, ?_⟩) (by assumption) ?_
                                rotate_left
                                · (intro w hSw; have hcw := hSw.2.1; go_simp; try with_reducible rfl)
                                try simp only [List.getElem_toArray, List.getElem_cons_succ, List.getElem_cons_zero, Act.put, List.setIfInBounds_toArray, List.set_cons_zero, List.set_cons_succ]
                                refine wpAnyH_take (i := 42) (v := ?_) rfl (by kernel_rfl) (by kernel_rfl) (by kernel_rfl) (fun _ _ _ h => h) (Or.inl ⟨by rfl, ?_⟩) (by assumption) ?_
                                rotate_left
                                · (intro w hSw; have hcw := hSw.2.1; go_simp; try with_reducible rfl)
                                try simp only [List.getElem_toArray, List.getElem_cons_succ, List.getElem_cons_zero, Act.put, List.setIfInBounds_toArray, List.set_cons_zero, List.set_cons_succ]
                                refine wpAnyH_take (i := 43) (v := ?_) rfl (by kernel_rfl) (by kernel_rfl) (by kernel_rfl) (fun _ _ _ h => h) (Or.inl ⟨by rfl, ?_⟩) (by assumption) ?_
                                rotate_left
                                · (intro w hSw; have hcw := hSw.2.1; go_simp; try with_reducible rfl)
                                try simp only [List.getElem_toArray, List.getElem_cons_succ, List.getElem_cons_zero, Act.put, List.setIfInBounds_toArray, List.set_cons_zero, List.set_cons_succ]
                                refine wpAnyH_ready (rs := [44]) (by kernel_rfl) (by simp) ?_
                                refine AllReadyH.cons rfl (fun K hK => ?_) AllReadyH.nil
                                go_simp
                                have hten := ten_cells wA (.string (tx L)) (.string (tx (mid L 0 a))) (.string (tx (mid L a (a + b)))) (.string (tx (mid L (a + b) (a + b + c)))) (.string (tx (mid L (a + b + c) (a + b + c + d)))) (.string (tx (mid L (a + b + c + d) (a + b + c + d + 1)))) (.string (tx (mid L (a + b + c + d + 1) (a + b + c + d + 2)))) (.string (tx (mid L (a + b + c + d + 2) (a + b + c + d + 2 + 2)))) (.string ⟨#[]⟩) (.string ⟨#[]⟩)
                                have hB2 : SanW L w (wA.alloc (.cells #[.string (tx L), .string (tx (mid L 0 a)), .string (tx (mid L a (a + b))), .string (tx (mid L (a + b) (a + b + c))), .string (tx (mid L (a + b + c) (a + b + c + d))), .string (tx (mid L (a + b + c + d) (a + b + c + d + 1))), .string (tx (mid L (a + b + c + d + 1) (a + b + c + d + 2))), .string (tx (mid L (a + b + c + d + 2) (a + b + c + d + 2 + 2))), .string ⟨#[]⟩, .string ⟨#[]⟩] 9)) := hHeld.below ((Below.refl _ _).alloc (Nat.le_refl _) _)
                                refine hK.out _ _ hB2 (fun hHeld2 => ?_)
                                clear hK K
                                try simp only [List.getElem_toArray, List.getElem_cons_succ, List.getElem_cons_zero, Act.put, List.setIfInBounds_toArray, List.set_cons_zero, List.set_cons_succ]
                                refine wpAnyH_take (i := 45) (v := ?_) rfl (by kernel_rfl) (by kernel_rfl) (by kernel_rfl) (fun _ _ _ h => h) (Or.inl ⟨by rfl, ?_⟩) (by assumption) ?_
                                rotate_left
                                · (intro w hSw; go_simp; try with_reducible rfl)
                                try simp only [List.getElem_toArray, List.getElem_cons_succ, List.getElem_cons_zero, Act.put, List.setIfInBounds_toArray, List.set_cons_zero, List.set_cons_succ]
                                refine wpAnyH_done (by kernel_rfl) ?_ _
                                replace hten := Lib.hid hten
                                replace hB2 := Lib.hid hB2
                                clear hHeld2 s1 s2 s3 s4 s5 s6 s7 e1 e2 e3 e4 e5
                                go_wp2_with (fail)
                                go_ret
                                refine ⟨.inl ⟨partsOf L a b c d 2, wA.heap.size, .inl ⟨a, b, c, d, 2, hit, rfl⟩, rfl, rfl, by simp, Nat.le_of_lt hHeld.1, fun i hi => ?_⟩, hB2.out.2.2⟩
                                rw [hten.out (i + 1) (by omega)]
                                have : i = 0 ∨ i = 1 ∨ i = 2 ∨ i = 3 ∨ i = 4 ∨ i = 5 ∨ i = 6 ∨ i = 7 := by omega
                                rcases this with rfl | rfl | rfl | rfl | rfl | rfl | rfl | rfl <;> rfl
                            · cases ht : tailB L (a + b + c + d + 2 + 0)
                              · have hfin := Lib.hid (show ∀ p' : Nat, (-2 : Int) < (p' : Int) → ¬ Hit L a b c d p' from fun p' h hh => by
                                  by_cases e : p' = 0
                                  · subst e; have := hh.ht; rw [ht] at this; cases this
                                  · exact hno5 p' (by rcases hh.hp with ⟨h0, _⟩ | h0 <;> omega) hh)
                                clear hno5
                                go_wp2_with (fail)
                                refine (tail_at L hL1 _ (a + b + c + d + 2 + 0) (by omega) (by omega) _).mono ?_
                                rintro e w9 ⟨rfl, rfl⟩
                                rw [ht]
                                go_wp2_with (fail)
                                exact ⟨⟨-2, ⟨.inr (.inr rfl), hfin.out⟩, rfl, hw⟩, by simp [intOf]⟩
                              · have hit : Hit L a b c d 0 := ⟨by omega, by omega, by omega, by omega, hF, hD, .inr rfl, ht⟩
                                clear hno5
                                go_wp2_with (fail)
                                refine (tail_at L hL1 _ (a + b + c + d + 2 + 0) (by omega) (by omega) _).mono ?_
                                rintro e w9 ⟨rfl, rfl⟩
                                rw [ht]
                                go_wp2_with (fail)
                                have hlD := has_lt hD
                                skip
                                have s1 := slice_to L (a : Int) a rfl (by omega)
                                have s2 := slice_at L (a : Int) ((a : Int) + (b : Int)) a (a + b) rfl (by omega) (by omega) (by omega)
                                have s3 := slice_at L ((a : Int) + (b : Int)) ((a : Int) + (b : Int) + (c : Int)) (a + b) (a + b + c) (by omega) (by omega) (by omega) (by omega)
                                have s4 := slice_at L ((a : Int) + (b : Int) + (c : Int)) ((a : Int) + (b : Int) + (c : Int) + (d : Int)) (a + b + c) (a + b + c + d) (by omega) (by omega) (by omega) (by omega)
                                have s5 := slice_at L ((a : Int) + (b : Int) + (c : Int) + (d : Int)) ((a : Int) + (b : Int) + (c : Int) + (d : Int) + 1) (a + b + c + d) (a + b + c + d + 1) (by omega) (by omega) (by omega) (by omega)
                                have s6 := slice_at L ((a : Int) + (b : Int) + (c : Int) + (d : Int) + 1) ((a : Int) + (b : Int) + (c : Int) + (d : Int) + 2) (a + b + c + d + 1) (a + b + c + d + 2) (by omega) (by omega) (by omega) (by omega)
                                have s7 := slice_at L ((a : Int) + (b : Int) + (c : Int) + (d : Int) + 2) ((a : Int) + (b : Int) + (c : Int) + (d : Int) + 2) (a + b + c + d + 2) (a + b + c + d + 2 + 0) (by omega) (by omega) (by omega) (by omega)
                                have e1 : IntKind.i64.wrap ((a : Int) + (b : Int)) = (a : Int) + (b : Int) := IntWalk.i64_in _ (by omega)
                                have e2 : IntKind.i64.wrap ((a : Int) + (b : Int) + (c : Int)) = (a : Int) + (b : Int) + (c : Int) := IntWalk.i64_in _ (by omega)
                                have e3 : IntKind.i64.wrap ((a : Int) + (b : Int) + (c : Int) + (d : Int) + 1) = (a : Int) + (b : Int) + (c : Int) + (d : Int) + 1 := IntWalk.i64_in _ (by omega)
                                have e4 : IntKind.i64.wrap ((a : Int) + (b : Int) + (c : Int) + (d : Int) + 2) = (a : Int) + (b : Int) + (c : Int) + (d : Int) + 2 := IntWalk.i64_in _ (by omega)
                                have e5 : IntKind.i64.wrap ((a : Int) + (b : Int) + (c : Int) + (d : Int) + 2 + 2) = (a : Int) + (b : Int) + (c : Int) + (d : Int) + 2 + 2 := IntWalk.i64_in _ (by omega)
                                refine held_any (S := SanW L w) (by kernel_rfl) (hw.below ⟨rfl, rfl, rfl, Nat.le_refl _, fun _ _ => rfl⟩) ?_
                                intro wA hHeld
                                clear hw hcw
                                refine wpAnyH_take (i := 0) (v := ?_) rfl (by kernel_rfl) (by kernel_rfl) (by kernel_rfl) (fun _ _ _ h => h) (Or.inl ⟨by rfl, ?_⟩) (by assumption) ?_
                                rotate_left
                                · (intro w hSw; have hcw := hSw.2.1; go_simp; try with_reducible rfl)
                                try simp only [List.getElem_toArray, List.getElem_cons_succ, List.getElem_cons_zero, Act.put, List.setIfInBounds_toArray, List.set_cons_zero, List.set_cons_succ]
                                refine wpAnyH_take (i := 1) (v := ?_) rfl (by kernel_rfl) (by kernel_rfl) (by kernel_rfl) (fun _ _ _ h => h) (Or.inl ⟨by rfl, ?_⟩) (by assumption) ?_
                                rotate_left
                                · (intro w hSw; have hcw := hSw.2.1; go_simp; try with_reducible rfl)
                                try simp only [List.getElem_toArray, List.getElem_cons_succ, List.getElem_cons_zero, Act.put, List.setIfInBounds_toArray, List.set_cons_zero, List.set_cons_succ]
                                refine wpAnyH_take (i := 2) (v := ?_) rfl (by kernel_rfl) (by kernel_rfl) (by kernel_rfl) (fun _ _ _ h => h) (Or.inl ⟨by rfl, ?_⟩) (by assumption) ?_
                                rotate_left
                                · (intro w hSw; have hcw := hSw.2.1; go_simp; try with_reducible rfl)
                                try simp only [List.getElem_toArray, List.getElem_cons_succ, List.getElem_cons_zero, Act.put, List.setIfInBounds_toArray, List.set_cons_zero, List.set_cons_succ]
                                refine wpAnyH_take (i := 3) (v := ?_) rfl (by kernel_rfl) (by kernel_rfl) (by kernel_rfl) (fun _ _ _ h => h) (Or.inl ⟨by rfl, ?_⟩) (by assumption) ?_
                                rotate_left
                                · (intro w hSw; have hcw := hSw.2.1; go_simp; try with_reducible rfl)
                                try simp only [List.getElem_toArray, List.getElem_cons_succ, List.getElem_cons_zero, Act.put, List.setIfInBounds_toArray, List.set_cons_zero, List.set_cons_succ]
                                refine wpAnyH_take (i := 4) (v := ?_) rfl (by kernel_rfl) (by kernel_rfl) (by kernel_rfl) (fun _ _ _ h => h) (Or.inl ⟨by rfl, ?_⟩) (by assumption) ?_
                                rotate_left
                                · (intro w hSw; have hcw := hSw.2.1; go_simp; try with_reducible rfl)
                                try simp only [List.getElem_toArray, List.getElem_cons_succ, List.getElem_cons_zero, Act.put, List.setIfInBounds_toArray, List.set_cons_zero, List.set_cons_succ]
                                refine wpAnyH_take (i := 5) (v := ?_) rfl (by kernel_rfl) (by kernel_rfl) (by kernel_rfl) (fun _ _ _ h => h) (Or.inl ⟨by rfl, ?_⟩) (by assumption) ?_
                                rotate_left
                                · (intro w hSw; have hcw := hSw.2.1; go_simp; try with_reducible rfl)
                                try simp only [List.getElem_toArray, List.getElem_cons_succ, List.getElem_cons_zero, Act.put, List.setIfInBounds_toArray, List.set_cons_zero, List.set_cons_succ]
                                refine wpAnyH_take (i := 6) (v := ?_) rfl (by kernel_rfl) (by kernel_rfl) (by kernel_rfl) (fun _ _ _ h => h) (Or.inl ⟨by rfl, ?_⟩) (by assumption) ?_
                                rotate_left
                                · (intro w hSw; have hcw := hSw.2.1; go_simp; try with_reducible rfl)
                                try simp only [List.getElem_toArray, List.getElem_cons_succ, List.getElem_cons_zero, Act.put, List.setIfInBounds_toArray, List.set_cons_zero, List.set_cons_succ]
                                refine wpAnyH_take (i := 7) (v := ?_) rfl (by kernel_rfl) (by kernel_rfl) (by kernel_rfl) (fun _ _ _ h => h) (Or.inl ⟨by rfl, ?_⟩) (by assumption) ?_
                                rotate_left
                                · (intro w hSw; have hcw := hSw.2.1; go_simp; try with_reducible rfl)
                                try simp only [List.getElem_toArray, List.getElem_cons_succ, List.getElem_cons_zero, Act.put, List.setIfInBounds_toArray, List.set_cons_zero, List.set_cons_succ]
                                refine wpAnyH_take (i := 8) (v := ?_) rfl (by kernel_rfl) (by kernel_rfl) (by kernel_rfl) (fun _ _ _ h => h) (Or.inl ⟨by rfl, ?_⟩) (by assumption) ?_
                                rotate_left
                                · (intro w hSw; have hcw := hSw.2.1; go_simp; try with_reducible rfl)
                                try simp only [List.getElem_toArray, List.getElem_cons_succ, List.getElem_cons_zero, Act.put, List.setIfInBounds_toArray, List.set_cons_zero, List.set_cons_succ]
                                refine wpAnyH_take (i := 9) (v := ?_) rfl (by kernel_rfl) (by kernel_rfl) (by kernel_rfl) (fun _ _ _ h => h) (Or.inl ⟨by rfl, ?_⟩) (by assumption) ?_
                                rotate_left
                                · (intro w hSw; have hcw := hSw.2.1; go_simp; try with_reducible rfl)
                                try simp only [List.getElem_toArray, List.getElem_cons_succ, List.getElem_cons_zero, Act.put, List.setIfInBounds_toArray, List.set_cons_zero, List.set_cons_succ]
                                refine wpAnyH_take (i := 10) (v := ?_) rfl (by kernel_rfl) (by kernel_rfl) (by kernel_rfl) (fun _ _ _ h => h) (Or.inl ⟨by rfl, ?_⟩) (by assumption) ?_
                                rotate_left
                                · (intro w hSw; have hcw := hSw.2.1; go_simp; try with_reducible rfl)
                                try simp only [List.getElem_toArray, List.getElem_cons_succ, List.getElem_cons_zero, Act.put, List.setIfInBounds_toArray, List.set_cons_zero, List.set_cons_succ]
                                refine wpAnyH_take (i := 11) (v := ?_) rfl (by kernel_rfl) (by kernel_rfl) (by kernel_rfl) (fun _ _ _ h => h) (Or.inl ⟨by rfl, ?_⟩) (by assumption) ?_
                                rotate_left
                                · (intro w hSw; have hcw := hSw.2.1; go_simp; try with_reducible rfl)
                                try simp only [List.getElem_toArray, List.getElem_cons_succ, List.getElem_cons_zero, Act.put, List.setIfInBounds_toArray, List.set_cons_zero, List.set_cons_succ]
                                refine wpAnyH_take (i := 12) (v := ?_) rfl (by kernel_rfl) (by kernel_rfl) (by kernel_rfl) (fun _ _ _ h => h) (Or.inl ⟨by rfl, ?_⟩) (by assumption) ?_
                                rotate_left
                                · (intro w hSw; have hcw := hSw.2.1; go_simp; try with_reducible rfl)
                                try simp only [List.getElem_toArray, List.getElem_cons_succ, List.getElem_cons_zero, Act.put, List.setIfInBounds_toArray, List.set_cons_zero, List.set_cons_succ]
                                refine wpAnyH_take (i := 13) (v := ?_) rfl (by kernel_rfl) (by kernel_rfl) (by kernel_rfl) (fun _ _ _ h => h) (Or.inl ⟨by rfl, ?_⟩) (by assumption) ?_
                                rotate_left
                                · (intro w hSw; have hcw := hSw.2.1; go_simp; try with_reducible rfl)
                                try simp only [List.getElem_toArray, List.getElem_cons_succ, List.getElem_cons_zero, Act.put, List.setIfInBounds_toArray, List.set_cons_zero, List.set_cons_succ]
                                refine wpAnyH_take (i := 14) (v := ?_) rfl (by kernel_rfl) (by kernel_rfl) (by kernel_rfl) (fun _ _ _ h => h) (Or.inl ⟨by rfl, ?_⟩) (by assumption) ?_
                                rotate_left
                                · (intro w hSw; have hcw := hSw.2.1; go_simp; try with_reducible rfl)
                                try simp only [List.getElem_toArray, List.getElem_cons_succ, List.getElem_cons_zero, Act.put, List.setIfInBounds_toArray, List.set_cons_zero, List.set_cons_succ]
                                refine wpAnyH_take (i := 15) (v := ?_) rfl (by kernel_rfl) (by kernel_rfl) (by kernel_rfl) (fun _ _ _ h => h) (Or.inl ⟨by rfl, ?_⟩) (by assumption) ?_
                                rotate_left
                                · (intro w hSw; have hcw := hSw.2.1; go_simp; try with_reducible rfl)
                                try simp only [List.getElem_toArray, List.getElem_cons_succ, List.getElem_cons_zero, Act.put, List.setIfInBounds_toArray, List.set_cons_zero, List.set_cons_succ]
                                refine wpAnyH_take (i := 16) (v := ?_) rfl (by kernel_rfl) (by kernel_rfl) (by kernel_rfl) (fun _ _ _ h => h) (Or.inl ⟨by rfl, ?_⟩) (by assumption) ?_
                                rotate_left
                                · (intro w hSw; have hcw := hSw.2.1; go_simp; try with_reducible rfl)
                                try simp only [List.getElem_toArray, List.getElem_cons_succ, List.getElem_cons_zero, Act.put, List.setIfInBounds_toArray, List.set_cons_zero, List.set_cons_succ]
                                refine wpAnyH_take (i := 17) (v := ?_) rfl (by kernel_rfl) (by kernel_rfl) (by kernel_rfl) (fun _ _ _ h => h) (Or.inl ⟨by rfl, ?_⟩) (by assumption) ?_
                                rotate_left
                                · (intro w hSw; have hcw := hSw.2.1; go_simp; try with_reducible rfl)
                                try simp only [List.getElem_toArray, List.getElem_cons_succ, List.getElem_cons_zero, Act.put, List.setIfInBounds_toArray, List.set_cons_zero, List.set_cons_succ]
                                refine wpAnyH_take (i := 18) (v := ?_) rfl (by kernel_rfl) (by kernel_rfl) (by kernel_rfl) (fun _ _ _ h => h) (Or.inl ⟨by rfl, ?_⟩) (by assumption) ?_
                                rotate_left
                                · (intro w hSw; have hcw := hSw.2.1; go_simp; try with_reducible rfl)
                                try simp only [List.getElem_toArray, List.getElem_cons_succ, List.getElem_cons_zero, Act.put, List.setIfInBounds_toArray, List.set_cons_zero, List.set_cons_succ]
                                refine wpAnyH_take (i := 19) (v := ?_) rfl (by kernel_rfl) (by kernel_rfl) (by kernel_rfl) (fun _ _ _ h => h) (Or.inl ⟨by rfl, ?_⟩) (by assumption) ?_
                                rotate_left
                                · (intro w hSw; have hcw := hSw.2.1; go_simp; try with_reducible rfl)
                                try simp only [List.getElem_toArray, List.getElem_cons_succ, List.getElem_cons_zero, Act.put, List.setIfInBounds_toArray, List.set_cons_zero, List.set_cons_succ]
                                refine wpAnyH_take (i := 20) (v := ?_) rfl (by kernel_rfl) (by kernel_rfl) (by kernel_rfl) (fun _ _ _ h => h) (Or.inl ⟨by rfl, ?_⟩) (by assumption) ?_
                                rotate_left
                                · (intro w hSw; have hcw := hSw.2.1; go_simp; try with_reducible rfl)
                                try simp only [List.getElem_toArray, List.getElem_cons_succ, List.getElem_cons_zero, Act.put, List.setIfInBounds_toArray, List.set_cons_zero, List.set_cons_succ]
                                refine wpAnyH_take (i := 21) (v := ?_) rfl (by kernel_rfl) (by kernel_rfl) (by kernel_rfl) (fun _ _ _ h => h) (Or.inl ⟨by rfl, ?_⟩) (by assumption) ?_
                                rotate_left
                                · (intro w hSw; have hcw := hSw.2.1; go_simp; try with_reducible rfl)
                                try simp only [List.getElem_toArray, List.getElem_cons_succ, List.getElem_cons_zero, Act.put, List.setIfInBounds_toArray, List.set_cons_zero, List.set_cons_succ]
                                refine wpAnyH_take (i := 22) (v := ?_) rfl (by kernel_rfl) (by kernel_rfl) (by kernel_rfl) (fun _ _ _ h => h) (Or.inl ⟨by rfl, ?_⟩) (by assumption) ?_
                                rotate_left
                                · (intro w hSw; have hcw := hSw.2.1; go_simp; try with_reducible rfl)
                                try simp only [List.getElem_toArray, List.getElem_cons_succ, List.getElem_cons_zero, Act.put, List.setIfInBounds_toArray, List.set_cons_zero, List.set_cons_succ]
                                refine wpAnyH_take (i := 23) (v := ?_) rfl (by kernel_rfl) (by kernel_rfl) (by kernel_rfl) (fun _ _ _ h => h) (Or.inl ⟨by rfl, ?_⟩) (by assumption) ?_
                                rotate_left
                                · (intro w hSw; have hcw := hSw.2.1; go_simp; try with_reducible rfl)
                                try simp only [List.getElem_toArray, List.getElem_cons_succ, List.getElem_cons_zero, Act.put, List.setIfInBounds_toArray, List.set_cons_zero, List.set_cons_succ]
                                refine wpAnyH_take (i := 24) (v := ?_) rfl (by kernel_rfl) (by kernel_rfl) (by kernel_rfl) (fun _ _ _ h => h) (Or.inl ⟨by rfl, ?_⟩) (by assumption) ?_
                                rotate_left
                                · (intro w hSw; have hcw := hSw.2.1; go_simp; try with_reducible rfl)
                                try simp only [List.getElem_toArray, List.getElem_cons_succ, List.getElem_cons_zero, Act.put, List.setIfInBounds_toArray, List.set_cons_zero, List.set_cons_succ]
                                refine wpAnyH_take (i := 25) (v := ?_) rfl (by kernel_rfl) (by kernel_rfl) (by kernel_rfl) (fun _ _ _ h => h) (Or.inl ⟨by rfl, ?_⟩) (by assumption) ?_
                                rotate_left
                                · (intro w hSw; have hcw := hSw.2.1; go_simp; try with_reducible rfl)
                                try simp only [List.getElem_toArray, List.getElem_cons_succ, List.getElem_cons_zero, Act.put, List.setIfInBounds_toArray, List.set_cons_zero, List.set_cons_succ]
                                refine wpAnyH_take (i := 26) (v := ?_) rfl (by kernel_rfl) (by kernel_rfl) (by kernel_rfl) (fun _ _ _ h => h) (Or.inl ⟨by rfl, ?_⟩) (by assumption) ?_
                                rotate_left
                                · (intro w hSw; have hcw := hSw.2.1; go_simp; try with_reducible rfl)
                                try simp only [List.getElem_toArray, List.getElem_cons_succ, List.getElem_cons_zero, Act.put, List.setIfInBounds_toArray, List.set_cons_zero, List.set_cons_succ]
                                refine wpAnyH_take (i := 27) (v := ?_) rfl (by kernel_rfl) (by kernel_rfl) (by kernel_rfl) (fun _ _ _ h => h) (Or.inl ⟨by rfl, ?_⟩) (by assumption) ?_
                                rotate_left
                                · (intro w hSw; have hcw := hSw.2.1; go_simp; try with_reducible rfl)
                                try simp only [List.getElem_toArray, List.getElem_cons_succ, List.getElem_cons_zero, Act.put, List.setIfInBounds_toArray, List.set_cons_zero, List.set_cons_succ]
                                refine wpAnyH_take (i := 28) (v := ?_) rfl (by kernel_rfl) (by kernel_rfl) (by kernel_rfl) (fun _ _ _ h => h) (Or.inl ⟨by rfl, ?_⟩) (by assumption) ?_
                                rotate_left
                                · (intro w hSw; have hcw := hSw.2.1; go_simp; try with_reducible rfl)
                                try simp only [List.getElem_toArray, List.getElem_cons_succ, List.getElem_cons_zero, Act.put, List.setIfInBounds_toArray, List.set_cons_zero, List.set_cons_succ]
                                refine wpAnyH_take (i := 29) (v := ?_) rfl (by kernel_rfl) (by kernel_rfl) (by kernel_rfl) (fun _ _ _ h => h) (Or.inl ⟨by rfl, ?_⟩) (by assumption) ?_
                                rotate_left
                                · (intro w hSw; have hcw := hSw.2.1; go_simp; try with_reducible rfl)
                                try simp only [List.getElem_toArray, List.getElem_cons_succ, List.getElem_cons_zero, Act.put, List.setIfInBounds_toArray, List.set_cons_zero, List.set_cons_succ]
                                refine wpAnyH_take (i := 30) (v := ?_) rfl (by kernel_rfl) (by kernel_rfl) (by kernel_rfl) (fun _ _ _ h => h) (Or.inl ⟨by rfl, ?_⟩) (by assumption) ?_
                                rotate_left
                                · (intro w hSw; have hcw := hSw.2.1; go_simp; try with_reducible rfl)
                                try simp only [List.getElem_toArray, List.getElem_cons_succ, List.getElem_cons_zero, Act.put, List.setIfInBounds_toArray, List.set_cons_zero, List.set_cons_succ]
                                refine wpAnyH_take (i := 31) (v := ?_) rfl (by kernel_rfl) (by kernel_rfl) (by kernel_rfl) (fun _ _ _ h => h) (Or.inl ⟨by rfl, ?_⟩) (by assumption) ?_
                                rotate_left
                                · (intro w hSw; have hcw := hSw.2.1; go_simp; try with_reducible rfl)
                                try simp only [List.getElem_toArray, List.getElem_cons_succ, List.getElem_cons_zero, Act.put, List.setIfInBounds_toArray, List.set_cons_zero, List.set_cons_succ]
                                refine wpAnyH_take (i := 32) (v := ?_) rfl (by kernel_rfl) (by kernel_rfl) (by kernel_rfl) (fun _ _ _ h => h) (Or.inl ⟨by rfl, ?_⟩) (by assumption) ?_
                                rotate_left
                                · (intro w hSw; have hcw := hSw.2.1; go_simp; try with_reducible rfl)
                                try simp only [List.getElem_toArray, List.getElem_cons_succ, List.getElem_cons_zero, Act.put, List.setIfInBounds_toArray, List.set_cons_zero, List.set_cons_succ]
                                refine wpAnyH_take (i := 33) (v := ?_) rfl (by kernel_rfl) (by kernel_rfl) (by kernel_rfl) (fun _ _ _ h => h) (Or.inl ⟨by rfl, ?_⟩) (by assumption) ?_
                                rotate_left
                                · (intro w hSw; have hcw := hSw.2.1; go_simp; try with_reducible rfl)
                                try simp only [List.getElem_toArray, List.getElem_cons_succ, List.getElem_cons_zero, Act.put, List.setIfInBounds_toArray, List.set_cons_zero, List.set_cons_succ]
                                refine wpAnyH_take (i := 34) (v := ?_) rfl (by kernel_rfl) (by kernel_rfl) (by kernel_rfl) (fun _ _ _ h => h) (Or.inl ⟨by rfl, ?_⟩) (by assumption) ?_
                                rotate_left
                                · (intro w hSw; have hcw := hSw.2.1; go_simp; try with_reducible rfl)
                                try simp only [List.getElem_toArray, List.getElem_cons_succ, List.getElem_cons_zero, Act.put, List.setIfInBounds_toArray, List.set_cons_zero, List.set_cons_succ]
                                refine wpAnyH_take (i := 35) (v := ?_) rfl (by kernel_rfl) (by kernel_rfl) (by kernel_rfl) (fun _ _ _ h => h) (Or.inl ⟨by rfl, ?_⟩) (by assumption) ?_
                                rotate_left
                                · (intro w hSw; have hcw := hSw.2.1; go_simp; try with_reducible rfl)
                                try simp only [List.getElem_toArray, List.getElem_cons_succ, List.getElem_cons_zero, Act.put, List.setIfInBounds_toArray, List.set_cons_zero, List.set_cons_succ]
                                refine wpAnyH_take (i := 36) (v := ?_) rfl (by kernel_rfl) (by kernel_rfl) (by kernel_rfl) (fun _ _ _ h => h) (Or.inl ⟨by rfl, ?_⟩) (by assumption) ?_
                                rotate_left
                                · (intro w hSw; have hcw := hSw.2.1; go_simp; try with_reducible rfl)
                                try simp only [List.getElem_toArray, List.getElem_cons_succ, List.getElem_cons_zero, Act.put, List.setIfInBounds_toArray, List.set_cons_zero, List.set_cons_succ]
                                refine wpAnyH_take (i := 37) (v := ?_) rfl (by kernel_rfl) (by kernel_rfl) (by kernel_rfl) (fun _ _ _ h => h) (Or.inl ⟨by rfl, ?_⟩) (by assumption) ?_
                                rotate_left
                                · (intro w hSw; have hcw := hSw.2.1; go_simp; try with_reducible rfl)
                                try simp only [List.getElem_toArray, List.getElem_cons_succ, List.getElem_cons_zero, Act.put, List.setIfInBounds_toArray, List.set_cons_zero, List.set_cons_succ]
                                refine wpAnyH_take (i := 38) (v := ?_) rfl (by kernel_rfl) (by kernel_rfl) (by kernel_rfl) (fun _ _ _ h => h) (Or.inl ⟨by rfl, ?_⟩) (by assumption) ?_
                                rotate_left
                                · (intro w hSw; have hcw := hSw.2.1; go_simp; try with_reducible rfl)
                                try simp only [List.getElem_toArray, List.getElem_cons_succ, List.getElem_cons_zero, Act.put, List.setIfInBounds_toArray, List.set_cons_zero, List.set_cons_succ]
                                refine wpAnyH_take (i := 39) (v := ?_) rfl (by kernel_rfl) (by kernel_rfl) (by kernel_rfl) (fun _ _ _ h => h) (Or.inl ⟨by rfl, ?_⟩) (by assumption) ?_
                                rotate_left
                                · (intro w hSw; have hcw := hSw.2.1; go_simp; try with_reducible rfl)
                                try simp only [List.getElem_toArray, List.getElem_cons_succ, List.getElem_cons_zero, Act.put, List.setIfInBounds_toArray, List.set_cons_zero, List.set_cons_succ]
                                refine wpAnyH_take (i := 40) (v := ?_) rfl (by kernel_rfl) (by kernel_rfl) (by kernel_rfl) (fun _ _ _ h => h) (Or.inl ⟨by rfl, ?_⟩) (by assumption) ?_
                                rotate_left
                                · (intro w hSw; have hcw := hSw.2.1; go_simp; try with_reducible rfl)
                                try simp only [List.getElem_toArray, List.getElem_cons_succ, List.getElem_cons_zero, Act.put, List.setIfInBounds_toArray, List.set_cons_zero, List.set_cons_succ]
                                refine wpAnyH_take (i := 41) (v := ?_) rfl (by kernel_rfl) (by kernel_rfl) (by kernel_rfl) (fun _ _ _ h => h) (Or.inl ⟨by rfl, ?_⟩) (by assumption) ?_
                                rotate_left
                                · (intro w hSw; have hcw := hSw.2.1; go_simp; try with_reducible rfl)
                                try simp only [List.getElem_toArray, List.getElem_cons_succ, List.getElem_cons_zero, Act.put, List.setIfInBounds_toArray, List.set_cons_zero, List.set_cons_succ]
                                refine wpAnyH_take (i := 42) (v := ?_) rfl (by kernel_rfl) (by kernel_rfl) (by kernel_rfl) (fun _ _ _ h => h) (Or.inl ⟨by rfl, ?_⟩) (by assumption) ?_
                                rotate_left
                                · (intro w hSw; have hcw := hSw.2.1; go_simp; try with_reducible rfl)
                                try simp only [List.getElem_toArray, List.getElem_cons_succ, List.getElem_cons_zero, Act.put, List.setIfInBounds_toArray, List.set_cons_zero, List.set_cons_succ]
                                refine wpAnyH_take (i := 43) (v := ?_) rfl (by kernel_rfl) (by kernel_rfl) (by kernel_rfl) (fun _ _ _ h => h) (Or.inl ⟨by rfl, ?_⟩) (by assumption) ?_
                                rotate_left
                                · (intro w hSw; have hcw := hSw.2.1; go_simp; try with_reducible rfl)
                                try simp only [List.getElem_toArray, List.getElem_cons_succ, List.getElem_cons_zero, Act.put, List.setIfInBounds_toArray, List.set_cons_zero, List.set_cons_succ]
                                refine wpAnyH_ready (rs := [44]) (by kernel_rfl) (by simp) ?_
                                refine AllReadyH.cons rfl (fun K hK => ?_) AllReadyH.nil
                                go_simp
                                have hten := ten_cells wA (.string (tx L)) (.string (tx (mid L 0 a))) (.string (tx (mid L a (a + b)))) (.string (tx (mid L (a + b) (a + b + c)))) (.string (tx (mid L (a + b + c) (a + b + c + d)))) (.string (tx (mid L (a + b + c + d) (a + b + c + d + 1)))) (.string (tx (mid L (a + b + c + d + 1) (a + b + c + d + 2)))) (.string (tx (mid L (a + b + c + d + 2) (a + b + c + d + 2 + 0)))) (.string ⟨#[]⟩) (.string ⟨#[]⟩)
                                have hB2 : SanW L w (wA.alloc (.cells #[.string (tx L), .string (tx (mid L 0 a)), .string (tx (mid L a (a + b))), .string (tx (mid L (a + b) (a + b + c))), .string (tx (mid L (a + b + c) (a + b + c + d))), .string (tx (mid L (a + b + c + d) (a + b + c + d + 1))), .string (tx (mid L (a + b + c + d + 1) (a + b + c + d + 2))), .string (tx (mid L (a + b + c + d + 2) (a + b + c + d + 2 + 0))), .string ⟨#[]⟩, .string ⟨#[]⟩] 9)) := hHeld.below ((Below.refl _ _).alloc (Nat.le_refl _) _)
                                refine hK.out _ _ hB2 (fun hHeld2 => ?_)
                                clear hK K
                                try simp only [List.getElem_toArray, List.getElem_cons_succ, List.getElem_cons_zero, Act.put, List.setIfInBounds_toArray, List.set_cons_zero, List.set_cons_succ]
                                refine wpAnyH_take (i := 45) (v := ?_) rfl (by kernel_rfl) (by kernel_rfl) (by kernel_rfl) (fun _ _ _ h => h) (Or.inl ⟨by rfl, ?_⟩) (by assumption) ?_
                                rotate_left
                                · (intro w hSw; go_simp; try with_reducible rfl)
                                try simp only [List.getElem_toArray, List.getElem_cons_succ, List.getElem_cons_zero, Act.put, List.setIfInBounds_toArray, List.set_cons_zero, List.set_cons_succ]
                                refine wpAnyH_done (by kernel_rfl) ?_ _
                                replace hten := Lib.hid hten
                                replace hB2 := Lib.hid hB2
                                clear hHeld2 s1 s2 s3 s4 s5 s6 s7 e1 e2 e3 e4 e5
                                go_wp2_with (fail)
                                go_ret
                                refine ⟨.inl ⟨partsOf L a b c d 0, wA.heap.size, .inl ⟨a, b, c, d, 0, hit, rfl⟩, rfl, rfl, by simp, Nat.le_of_lt hHeld.1, fun i hi => ?_⟩, hB2.out.2.2⟩
                                rw [hten.out (i + 1) (by omega)]
                                have : i = 0 ∨ i = 1 ∨ i = 2 ∨ i = 3 ∨ i = 4 ∨ i = 5 ∨ i = 6 ∨ i = 7 := by omega
                                rcases this with rfl | rfl | rfl | rfl | rfl | rfl | rfl | rfl <;> rfl
                            · have hfin := Lib.hid (show ∀ d' p : Nat, (d : Int) - 1 < (d' : Int) → ¬ Hit L a b c d' p from fun d' p h hh => by
                                by_cases e : d' = d
                                · subst e; exact hno5 p (by omega) hh
                                · exact hno4.out d' p (by omega) hh)
                              clear hno5
                              go_wp2_with (fail)
                              exact ⟨⟨(d : Int) - 1, by omega, by omega, rfl, hfin.out, hw⟩, by simp [intOf]⟩
                · obtain rfl : v = -1 := by omega
                  have hfin := Lib.hid (show ∀ c' d p : Nat, (c : Int) - 1 < (c' : Int) → ¬ Hit L a b c' d p from fun c' d p h => by
                    by_cases e : c' = c
                    · subst e; exact hno4 d p (by omega)
                    · exact hno3.out c' d p (by omega))
                  clear hno4
                  go_wp2_with (fail)
                  exact ⟨⟨(c : Int) - 1, by omega, by omega, rfl, hfin.out, hw⟩, by simp [intOf]⟩
            · obtain rfl : z = -1 := by omega
              have hfin := Lib.hid (show ∀ b' c d p : Nat, (b : Int) - 1 < (b' : Int) → ¬ Hit L a b' c d p from fun b' c d p h => by
                by_cases e : b' = b
                · subst e; exact hno3 c d p (by omega)
                · exact hno2.out b' c d p (by omega))
              clear hno3
              go_wp2_with (fail)
              exact ⟨⟨(b : Int) - 1, by omega, by omega, rfl, hfin.out, hw⟩, by simp [intOf]⟩
        · obtain rfl : y = -1 := by omega
          have hfin := Lib.hid (show ∀ a' b c d p : Nat, (a : Int) - 1 < (a' : Int) → ¬ Hit L  a' b c d p from fun a' b c d p h => by
            by_cases e : a' = a
            · subst e; exact hno2 b c d p (by omega)
            · exact hno1.out a' b c d p (by omega))
          clear hno2
          go_wp2_with (fail)
          exact ⟨⟨(a : Int) - 1, by omega, by omega, rfl, hfin.out, hw⟩, by simp [intOf]⟩
    · obtain rfl : x = -1 := by omega
      have hfin := Lib.hid (show noHit L from fun a b c d p => hno1 a b c d p (by omega))
      clear hno1
      go_wp2_with (fail)
      have hC := castW_new hw
      unfold castA castO at hC
      change CastW L wr.heap.size w (wr.alloc (.cells #[.string ⟨#[79, 45, 79, 45, 79]⟩, .string ⟨#[79, 45, 79]⟩] 9)) at hC
      change Code.wp _ _ _ _ (wr.alloc (.cells #[.string ⟨#[79, 45, 79, 45, 79]⟩, .string ⟨#[79, 45, 79]⟩] 9))
      generalize (wr.alloc (.cells #[.string ⟨#[79, 45, 79, 45, 79]⟩, .string ⟨#[79, 45, 79]⟩] 9)) = wC at *
      generalize wr.heap.size = gC at *
      clear hw
      go_loopw [134, 12] (fun k _ wr => ∃ j : Nat, j ≤ 2 ∧ k = .int .i64 j ∧ (1 ≤ j → castB L castA = false) ∧ (2 ≤ j → castB L castO = false) ∧ CastW L gC w wr) (fun k _ _ => 2 - (intOf k).toNat)
      case atStart => exact ⟨0, by omega, rfl, fun h => by omega, fun h => by omega, hC⟩
      case round =>
        clear hC
        obtain ⟨j, hj, rfl, hA, hO, hC⟩ := hrel
        have hcw := hC.1.2.1
        have hj' : j = 0 ∨ j = 1 ∨ j = 2 := by omega
        rcases hj' with rfl | rfl | rfl
        · have ck0 := hC.2.2 0 (by omega)
          have ck : wr.cell? ⟨gC, 0, none⟩ = some (.string (tx [79, 45, 79, 45, 79])) := ck0
          clear ck0
          have hdef : castB L castA = (decide (5 ≤ L.length) && (L.take 5 == [79, 45, 79, 45, 79]) && tailB L 5) := rfl
          replace hC := Lib.hid hC
          by_cases hl : 5 ≤ L.length
          · have hd : decide ((5 : Int) ≤ (L.length : Int)) = true := decide_eq_true (by omega)
            have hsl := slice_to L 5 5 rfl hl
            rw [show mid L 0 5 = L.take 5 from rfl] at hsl
            rw [decide_eq_true hl, Bool.true_and] at hdef
            cases ht : (L.take 5 == [79, 45, 79, 45, 79])
            · rw [ht, Bool.false_and] at hdef
              have hc := hdef
              have hnext := Lib.hid (show (1 ≤ 0 + 1 → castB L castA = false) ∧ (2 ≤ 0 + 1 → castB L castO = false) from ⟨fun _ => hc, fun h => by omega⟩)
              clear hA hO hdef hc
              generalize L.take 5 = x at *
              go_wp2_with (fail)
              exact ⟨⟨0 + 1, by omega, rfl, hnext.out.1, hnext.out.2, hC.out⟩, by simp [intOf]⟩
            · rw [ht, Bool.true_and] at hdef
              cases htl : tailB L 5
              · rw [htl] at hdef
                have hc := hdef
                have hnext := Lib.hid (show (1 ≤ 0 + 1 → castB L castA = false) ∧ (2 ≤ 0 + 1 → castB L castO = false) from ⟨fun _ => hc, fun h => by omega⟩)
                clear hA hO hdef hc
                generalize L.take 5 = x at *
                go_wp2_with (fail)
                refine (tail_at L hL1 _ 5 rfl (by omega) _).mono ?_
                rintro e w9 ⟨rfl, rfl⟩
                rw [htl]
                go_wp2_with (fail)
                exact ⟨⟨0 + 1, by omega, rfl, hnext.out.1, hnext.out.2, hC.out⟩, by simp [intOf]⟩
              · rw [htl] at hdef
                have hc := hdef
                have hr := Lib.hid (show SanR L (some [[], [], [], [], [], [], [], castA]) from .inr (.inl ⟨hfin.out, hc, rfl⟩))
                clear hA hO hdef hc
                generalize L.take 5 = x at *
                go_wp2_with (fail)
                refine (tail_at L hL1 _ 5 rfl (by omega) _).mono ?_
                rintro e w9 ⟨rfl, rfl⟩
                rw [htl]
                have hten := Lib.hid (fun wA => ten_cells wA (.string (tx L)) (.string ⟨#[]⟩) (.string ⟨#[]⟩) (.string ⟨#[]⟩) (.string ⟨#[]⟩) (.string ⟨#[]⟩) (.string ⟨#[]⟩) (.string ⟨#[]⟩) (.string (tx [79, 45, 79, 45, 79])) (.string ⟨#[]⟩))
                have hBl := Lib.hid (fun X => (hC.out.1.below ((Below.refl _ _).alloc (Nat.le_refl _) X)).2.2)
                go_wp2_with (fail)
                go_ret
                refine ⟨.inl ⟨_, _, hr.out, rfl, rfl, by simp, Nat.le_of_lt hC.out.1.1, fun i hi => ?_⟩, hBl.out _⟩
                rw [hten.out _ (i + 1) (by omega)]
                have : i = 0 ∨ i = 1 ∨ i = 2 ∨ i = 3 ∨ i = 4 ∨ i = 5 ∨ i = 6 ∨ i = 7 := by omega
                rcases this with rfl | rfl | rfl | rfl | rfl | rfl | rfl | rfl <;> rfl
          · have hd : decide ((5 : Int) ≤ (L.length : Int)) = false := decide_eq_false (by omega)
            rw [decide_eq_false hl, Bool.false_and, Bool.false_and] at hdef
            have hc := hdef
            have hnext := Lib.hid (show (1 ≤ 0 + 1 → castB L castA = false) ∧ (2 ≤ 0 + 1 → castB L castO = false) from ⟨fun _ => hc, fun h => by omega⟩)
            clear hA hO hdef hc
            go_wp2_with (fail)
            exact ⟨⟨0 + 1, by omega, rfl, hnext.out.1, hnext.out.2, hC.out⟩, by simp [intOf]⟩
        · have ck0 := hC.2.2 1 (by omega)
          have ck : wr.cell? ⟨gC, 1, none⟩ = some (.string (tx [79, 45, 79])) := ck0
          clear ck0
          have hdef : castB L castO = (decide (3 ≤ L.length) && (L.take 3 == [79, 45, 79]) && tailB L 3) := rfl
          replace hC := Lib.hid hC
          by_cases hl : 3 ≤ L.length
          · have hd : decide ((3 : Int) ≤ (L.length : Int)) = true := decide_eq_true (by omega)
            have hsl := slice_to L 3 3 rfl hl
            rw [show mid L 0 3 = L.take 3 from rfl] at hsl
            rw [decide_eq_true hl, Bool.true_and] at hdef
            cases ht : (L.take 3 == [79, 45, 79])
            · rw [ht, Bool.false_and] at hdef
              have hc := hdef
              have hnext := Lib.hid (show (1 ≤ 1 + 1 → castB L castA = false) ∧ (2 ≤ 1 + 1 → castB L castO = false) from ⟨fun _ => hA (by omega), fun _ => hc⟩)
              clear hA hO hdef hc
              generalize L.take 3 = x at *
              go_wp2_with (fail)
              exact ⟨⟨1 + 1, by omega, rfl, hnext.out.1, hnext.out.2, hC.out⟩, by simp [intOf]⟩
            · rw [ht, Bool.true_and] at hdef
              cases htl : tailB L 3
              · rw [htl] at hdef
                have hc := hdef
                have hnext := Lib.hid (show (1 ≤ 1 + 1 → castB L castA = false) ∧ (2 ≤ 1 + 1 → castB L castO = false) from ⟨fun _ => hA (by omega), fun _ => hc⟩)
                clear hA hO hdef hc
                generalize L.take 3 = x at *
                go_wp2_with (fail)
                refine (tail_at L hL1 _ 3 rfl (by omega) _).mono ?_
                rintro e w9 ⟨rfl, rfl⟩
                rw [htl]
                go_wp2_with (fail)
                exact ⟨⟨1 + 1, by omega, rfl, hnext.out.1, hnext.out.2, hC.out⟩, by simp [intOf]⟩
              · rw [htl] at hdef
                have hc := hdef
                have hr := Lib.hid (show SanR L (some [[], [], [], [], [], [], [], castO]) from .inr (.inr ⟨hfin.out, hA (by omega), hc, rfl⟩))
                clear hA hO hdef hc
                generalize L.take 3 = x at *
                go_wp2_with (fail)
                refine (tail_at L hL1 _ 3 rfl (by omega) _).mono ?_
                rintro e w9 ⟨rfl, rfl⟩
                rw [htl]
                have hten := Lib.hid (fun wA => ten_cells wA (.string (tx L)) (.string ⟨#[]⟩) (.string ⟨#[]⟩) (.string ⟨#[]⟩) (.string ⟨#[]⟩) (.string ⟨#[]⟩) (.string ⟨#[]⟩) (.string ⟨#[]⟩) (.string (tx [79, 45, 79])) (.string ⟨#[]⟩))
                have hBl := Lib.hid (fun X => (hC.out.1.below ((Below.refl _ _).alloc (Nat.le_refl _) X)).2.2)
                go_wp2_with (fail)
                go_ret
                refine ⟨.inl ⟨_, _, hr.out, rfl, rfl, by simp, Nat.le_of_lt hC.out.1.1, fun i hi => ?_⟩, hBl.out _⟩
                rw [hten.out _ (i + 1) (by omega)]
                have : i = 0 ∨ i = 1 ∨ i = 2 ∨ i = 3 ∨ i = 4 ∨ i = 5 ∨ i = 6 ∨ i = 7 := by omega
                rcases this with rfl | rfl | rfl | rfl | rfl | rfl | rfl | rfl <;> rfl
          · have hd : decide ((3 : Int) ≤ (L.length : Int)) = false := decide_eq_false (by omega)
            rw [decide_eq_false hl, Bool.false_and, Bool.false_and] at hdef
            have hc := hdef
            have hnext := Lib.hid (show (1 ≤ 1 + 1 → castB L castA = false) ∧ (2 ≤ 1 + 1 → castB L castO = false) from ⟨fun _ => hA (by omega), fun _ => hc⟩)
            clear hA hO hdef hc
            go_wp2_with (fail)
            exact ⟨⟨1 + 1, by omega, rfl, hnext.out.1, hnext.out.2, hC.out⟩, by simp [intOf]⟩
        · have hr : SanR L none := ⟨hfin.out, hA (by omega), hO (by omega)⟩
          have hBl := Lib.hid hC.1.2.2
          replace hr := Lib.hid hr
          clear hA hO hC hcw
          go_wp2_with (fail)
          go_ret
          exact ⟨.inr ⟨hr.out, rfl⟩, hBl.out⟩
end Go.Proofs.YtkbbncobgmepbaaDoor
