/- A book's entries: how bytes tell them; the law's reading of them. -/
import Derived.Test.YtpoomblloahahaaGreatDoorCells
import Derived.Lib.Endian
import Derived.Deep.Cut
import Derived.Deep.CutRange
namespace Go.Proofs.YtpoomblloahahaaGreatDoor
open Go.ChangeShapes Go.WideShapes Go.ChangeAt Go.RowKit Go.PlainAid
set_option maxHeartbeats 1000000
set_option linter.unusedVariables false
set_option linter.unusedSimpArgs false

/-- An entry: key, move, weight, learn. -/
abbrev En := Int × Int × Int × Int
def encE (x : En) : List Value := [.int .u64 x.1, .int .u16 x.2.1, .int .u16 x.2.2.1, .int .u32 x.2.2.2]
def enF (x : En) : Nat → Value
  | 0 => .int .u64 x.1 | 1 => .int .u16 x.2.1 | 2 => .int .u16 x.2.2.1 | _ => .int .u32 x.2.2.2
def ents (l : List En) : List Value := l.flatMap encE
theorem ents_app (l : List En) (x : En) : ents (l ++ [x]) = ents l ++ encE x := by simp [ents]
theorem ents_len (l : List En) : (ents l).length = l.length * 4 := by
  induction l with
  | nil => rfl
  | cons x r ih => simp [ents, encE] at ih ⊢; omega
def byI (L : List UInt8) (k : Nat) : Int := ((L.getD k 0).toNat : Int)
theorem byI_range (L : List UInt8) (k : Nat) : 0 ≤ byI L k ∧ byI L k < 256 := by
  unfold byI; have := (L.getD k 0).toNat_lt; omega
def beN (L : List UInt8) (i n : Nat) : Nat := Lib.beNat ((L.drop i).take n)
def beI (L : List UInt8) (i n : Nat) : Int := (beN L i n : Int)
theorem beFrom_snoc (b : UInt8) : ∀ (l : List UInt8) (a : Nat), Lib.beFrom a (l ++ [b]) = Lib.beFrom a l * 256 + b.toNat
  | [], a => rfl
  | x :: r, a => beFrom_snoc b r _
theorem beN_succ (L : List UInt8) (i n : Nat) (h : i + n < L.length) : beN L i (n + 1) = beN L i n * 256 + (L.getD (i + n) 0).toNat := by
  unfold beN Lib.beNat
  have : (L.drop i).take (n + 1) = (L.drop i).take n ++ [L.getD (i + n) 0] := by
    rw [List.take_add_one, List.getElem?_drop, List.getElem?_eq_getElem h, List.getD_eq_getElem?_getD, List.getElem?_eq_getElem h]; rfl
  rw [this, beFrom_snoc]
theorem beN_lt (L : List UInt8) (i : Nat) : ∀ n, i + n ≤ L.length → beN L i n < 256 ^ n
  | 0, _ => by simp [beN, Lib.beNat, Lib.beFrom]
  | n + 1, h => by
    have h1 := beN_lt L i n (by omega)
    have h2 := (L.getD (i + n) 0).toNat_lt
    rw [beN_succ L i n (by omega), Nat.pow_succ]
    omega
theorem beI_succ (L : List UInt8) (i n : Nat) (h : i + n < L.length) : beI L i (n + 1) = beI L i n * 256 + byI L (i + n) := by
  unfold beI byI; rw [beN_succ L i n h]; omega
theorem beI_rng (L : List UInt8) (i n k : Nat) (h : i + n ≤ L.length) (hk : n ≤ k) : 0 ≤ beI L i n ∧ beI L i n < (256 ^ k : Nat) := by
  have h1 := beN_lt L i n h
  have h2 : 256 ^ n ≤ 256 ^ k := Nat.pow_le_pow_right (by omega) hk
  unfold beI
  omega
def enAt (L : List UInt8) (k : Nat) : En := (beI L (16 * k) 8, beI L (16 * k + 8) 2, beI L (16 * k + 10) 2, beI L (16 * k + 12) 4)
def readL (L : List UInt8) (k : Nat) : List En := (List.range k).map (enAt L)
theorem readL_len (L : List UInt8) (k : Nat) : (readL L k).length = k := by simp [readL]
theorem readL_succ (L : List UInt8) (k : Nat) : readL L (k + 1) = readL L k ++ [enAt L k] := by simp [readL, List.range_succ]
/-- A slice of bytes, for reading. -/
def DataAt (W : World) (v : Value) (L : List UInt8) : Prop :=
  ∃ a c, v = .slice a L.length c ∧ L.length ≤ c ∧ (0 < L.length → ∃ g o, a = some ⟨g, o, none⟩ ∧ g < W.heap.size ∧ ∀ i, i < L.length → W.cell? ⟨g, o + i, none⟩ = some (.int .u8 (byI L i)))
theorem DataAt.below {W W' : World} {v : Value} {L : List UInt8} (h : DataAt W v L) (hb : Below W.heap.size W W') : DataAt W' v L := by
  obtain ⟨a, c, rfl, hcap, h⟩ := h
  refine ⟨a, c, rfl, hcap, fun h0 => ?_⟩
  obtain ⟨g, o, rfl, hg, hc⟩ := h h0
  exact ⟨g, o, rfl, Nat.lt_of_lt_of_le hg hb.size, fun i hi => by rw [hb.cell (show (⟨g, o + i, none⟩ : Addr).block < W.heap.size from hg)]; exact hc i hi⟩
theorem own_below {B t k n : Nat} {v : Value} {xs : List Value} {w w' : World} (h : w.ownsRow B t k v n xs) (hb : Below w.heap.size w w') : w'.ownsRow B t k v n xs := by
  obtain ⟨h0, h | ⟨g, cap, cur, hv, hB, hg, hr⟩⟩ := h
  · exact ⟨h0, .inl h⟩
  · have hlt : g < w.heap.size := by
      rcases Nat.lt_or_ge g w.heap.size with h | h
      · exact h
      · rw [Array.getElem?_eq_none h] at hg; cases hg
    exact ⟨h0, .inr ⟨g, cap, cur, hv, hB, (hb.block g hlt).trans hg, hr⟩⟩
theorem or_byte (k : IntKind) (a b : Int) : True := trivial
theorem or64 (a b : Int) (ha0 : 0 ≤ a) (ha : a * 256 + 255 < 18446744073709551616) (hb0 : 0 ≤ b) (hb : b < 256) : bits .or .u64 (a * 256) b = a * 256 + b := by
  rw [u64_or (a * 256) b (by omega) (by omega) hb0 (by omega), nat_join 8 (a * 256).toNat b.toNat (by omega) (by omega)]; omega
theorem or32 (a b : Int) (ha0 : 0 ≤ a) (ha : a * 256 + 255 < 4294967296) (hb0 : 0 ≤ b) (hb : b < 256) : bits .or .u32 (a * 256) b = a * 256 + b := by
  rw [u32_or (a * 256) b (by omega) (by omega) hb0 (by omega), nat_join 8 (a * 256).toNat b.toNat (by omega) (by omega)]; omega
theorem or16 (a b : Int) (ha0 : 0 ≤ a) (ha : a * 256 + 255 < 65536) (hb0 : 0 ≤ b) (hb : b < 256) : bits .or .u16 (a * 256) b = a * 256 + b := by
  rw [u16_or (a * 256) b (by omega) (by omega) hb0 (by omega), nat_join 8 (a * 256).toNat b.toNat (by omega) (by omega)]; omega
/-- One field of an entry's block is stored. -/
theorem en_put {w : World} {g : Nat} {x y : En} {j : Nat} {v : Value} (h : w.rowIs g 30 4 (enF x)) (hy : ∀ i, i < 4 → (if i = j then v else enF x i) = enF y i) : ((w.setCell ⟨g, j, none⟩ v).drew).rowIs g 30 4 (enF y) :=
  ((h.set j v).congr hy).of_block rfl
theorem below_put {w0 w : World} {B g j : Nat} (h : Below B w0 w) (hg : B ≤ g) (v : Value) : Below B w0 ((w.setCell ⟨g, j, none⟩ v).drew) :=
  (h.setCell (p := ⟨g, j, none⟩) hg v).trans ⟨rfl, rfl, rfl, Nat.le_refl _, fun _ _ => rfl⟩
theorem four {p : Nat → Prop} (h0 : p 0) (h1 : p 1) (h2 : p 2) (h3 : p 3) : ∀ i, i < 4 → p i := fun i hi => by
  (have : i = 0 ∨ i = 1 ∨ i = 2 ∨ i = 3 := (by omega)); rcases this with rfl | rfl | rfl | rfl <;> assumption
theorem infoEn : (Tryz.prog.info? 30).map (fun i => (i.zero, i.size, i.bytes)) = some (some (.agg #[.int .u64 0, .int .u16 0, .int .u16 0, .int .u32 0]), 4, 16) := by kernel_rfl
set_option maxRecDepth 100000 in
theorem poRead_any (v : Value) (L : List UInt8) (W : World) (hD : DataAt W v L) (hL : L.length ≤ 2147483647) :
    Calls Tryz.prog 4 #[v] W fun e w' => ∃ u, e = .returned u ∧ w'.ownsRow W.heap.size 30 4 u (L.length / 16) (ents (readL L (L.length / 16))) ∧ Below W.heap.size W w' := by
  obtain ⟨a, c, rfl, _, hD⟩ := hD
  go_enter Tryz.func4, Tryz.ntmps4
  go_wp2
  go_loopw [3, 4] (fun u i wr => ∃ k q : Nat, q = 16 * k ∧ q ≤ L.length ∧ i = .int .i64 (q : Int) ∧ wr.ownsRow W.heap.size 30 4 u k (ents (readL L k)) ∧ Below W.heap.size W wr) (fun _ i _ => L.length + 16 - (intOf i).toNat)
  case atStart => exact ⟨0, 0, rfl, by omega, rfl, World.ownsRow_nil _ _ _ _, Below.refl _ _⟩
  case round =>
    obtain ⟨k, q, hq, hqL, rfl, hown, hb⟩ := hrel
    by_cases hlt : q + 16 ≤ L.length
    · obtain ⟨g, o, rfl, hg, hc⟩ := hD (by omega)
      clear hD
      have hdl : decide ((q : Int) + 16 ≤ (L.length : Int)) = true := by simp; omega
      have k0 := row_lit wr #[.int .u64 0, .int .u16 0, .int .u16 0, .int .u32 0] 30
      have kB : Below wr.heap.size wr (wr.alloc (.cells #[.int .u64 0, .int .u16 0, .int .u16 0, .int .u32 0] 30)) := (Below.refl _ _).alloc (Nat.le_refl _) _
      replace hown := Lib.hid hown
      replace hq := Lib.hid hq
      replace hc := Lib.hid hc
      go_upto_region 6 with (fail)
      generalize hw1 : (wr.alloc (.cells #[.int .u64 0, .int .u16 0, .int .u16 0, .int .u32 0] 30)) = w1 at *
      clear hw1
      have hcw : ∀ (wx : World), Below wr.heap.size wr wx → ∀ i, i < L.length → wx.cell? ⟨g, o + i, none⟩ = some (.int .u8 (byI L i)) := fun wx hx i hi => by
        rw [(hb.trans (hx.mono hb.size)).cell (show (⟨g, o + i, none⟩ : Addr).block < W.heap.size from hg)]; exact hc.out i hi
      replace hcw := Lib.hid hcw
      clear hc hdl
      have hg0 : ∀ i, i < 4 → (#[.int .u64 0, .int .u16 0, .int .u16 0, .int .u32 0] : Array Value).getD i undef = enF (beI L q 0, 0, 0, 0) i := fun i hi => by
        (have : i = 0 ∨ i = 1 ∨ i = 2 ∨ i = 3 := (by omega)); rcases this with rfl | rfl | rfl | rfl <;> rfl
      have k1 : w1.rowIs wr.heap.size 30 4 (enF (beI L q 0, 0, 0, 0)) := k0.congr hg0
      clear k0 hg0
      go_wp2_with (fail)
      generalize wr = wo at *
      go_loopw [6] (fun j wy => ∃ m : Nat, m ≤ 8 ∧ j = .int .i64 (m : Int) ∧ wy.rowIs wo.heap.size 30 4 (enF (beI L q m, 0, 0, 0)) ∧ Below wo.heap.size wo wy) (fun j _ => 8 - (intOf j).toNat)
      case atStart => exact ⟨0, by omega, rfl, k1, kB⟩
      case round =>
        clear k1 kB
        obtain ⟨m, hm, rfl, k1, kB⟩ := hrel
        by_cases hm8 : m < 8
        · have xk : wr.cell? ⟨wo.heap.size, 0, none⟩ = some (.int .u64 (beI L q m)) := k1.cell (i := 0) (by omega)
          have xf := k1.frozen 0
          have xc := hcw.out _ kB (q + m) (by omega)
          have r1 := beI_rng L q m 7 (by omega) (by omega)
          have r2 := byI_range L (q + m)
          have hs := Lib.hid (beI_succ L q m (by omega))
          have hrow := Lib.hid (en_put (y := (beI L q m * 256 + byI L (q + m), 0, 0, 0)) (j := 0) (v := .int .u64 (beI L q m * 256 + byI L (q + m))) k1 (four rfl rfl rfl rfl))
          have hwb := Lib.hid (below_put (g := wo.heap.size) (j := 0) kB (Nat.le_refl _) (.int .u64 (beI L q m * 256 + byI L (q + m))))
          have hor := or64 (beI L q m) (byI L (q + m)) r1.1 (by omega) r2.1 r2.2
          have hix : (q : Int) + (m : Int) < (L.length : Int) := by omega
          clear k1 kB
          generalize beI L q m = A at *
          generalize byI L (q + m) = b at *
          go_wp2_with (fail)
          go_region
          go_wp2_with (fail)
          exact ⟨⟨m + 1, by omega, by go_num, by rw [hs.out]; exact hrow.out, hwb.out⟩, by simp [intOf]; omega⟩
        · obtain rfl : m = 8 := by omega
          clear hm hm8
          have i8 : (q : Int) + 8 < (L.length : Int) := by omega
          have i9 : (q : Int) + 9 < (L.length : Int) := by omega
          have i10 : (q : Int) + 10 < (L.length : Int) := by omega
          have i11 : (q : Int) + 11 < (L.length : Int) := by omega
          have xk1 := k1.cell (i := 1) (by omega)
          have xf1 := k1.frozen 1
          have xa1 := hcw.out _ kB (q + 8) (by omega)
          have xb1 := hcw.out _ kB (q + 9) (by omega)
          have ra1 := byI_range L (q + 8)
          have rb1 := byI_range L (q + 9)
          have hor1 := or16 (byI L (q + 8)) (byI L (q + 9)) ra1.1 (by omega) rb1.1 rb1.2
          have hrow := Lib.hid (en_put (y := (beI L q 8, byI L (q + 8) * 256 + byI L (q + 9), 0, 0)) (j := 1) (v := .int .u16 (byI L (q + 8) * 256 + byI L (q + 9))) k1 (four rfl rfl rfl rfl))
          have hwb := Lib.hid (below_put (g := wo.heap.size) (j := 1) kB (Nat.le_refl _) (.int .u16 (byI L (q + 8) * 256 + byI L (q + 9))))
          clear k1 kB
          go_wp2_with (fail)
          go_region
          generalize (World.setCell wr _ _).drew = wr at *
          have k1 := hrow.out
          have kB := hwb.out
          clear hrow hwb xk1 xf1 xa1 xb1 hor1
          have xk2 := k1.cell (i := 2) (by omega)
          have xf2 := k1.frozen 2
          have xa2 := hcw.out _ kB (q + 10) (by omega)
          have xb2 := hcw.out _ kB (q + 11) (by omega)
          have ra2 := byI_range L (q + 10)
          have rb2 := byI_range L (q + 11)
          have hor2 := or16 (byI L (q + 10)) (byI L (q + 11)) ra2.1 (by omega) rb2.1 rb2.2
          have hrow := Lib.hid (en_put (y := (beI L q 8, byI L (q + 8) * 256 + byI L (q + 9), byI L (q + 10) * 256 + byI L (q + 11), 0)) (j := 2) (v := .int .u16 (byI L (q + 10) * 256 + byI L (q + 11))) k1 (four rfl rfl rfl rfl))
          have hwb := Lib.hid (below_put (g := wo.heap.size) (j := 2) kB (Nat.le_refl _) (.int .u16 (byI L (q + 10) * 256 + byI L (q + 11))))
          clear k1 kB
          go_wp2_with (fail)
          go_region
          generalize (World.setCell wr _ _).drew = wr at *
          have k1 := hrow.out
          have kB := hwb.out
          clear hrow hwb xk2 xf2 xa2 xb2 hor2
          have e2 : beI L (q + 8) 2 = byI L (q + 8) * 256 + byI L (q + 9) := by
            rw [beI_succ L (q + 8) 1 (by omega), beI_succ L (q + 8) 0 (by omega)]
            rw [show beI L (q + 8) 0 = 0 from rfl]; simp
          have e3 : beI L (q + 10) 2 = byI L (q + 10) * 256 + byI L (q + 11) := by
            rw [beI_succ L (q + 10) 1 (by omega), beI_succ L (q + 10) 0 (by omega)]
            rw [show beI L (q + 10) 0 = 0 from rfl]; simp
          rw [← e2, ← e3] at k1
          clear e2 e3 ra1 rb1 ra2 rb2 i8 i9 i10 i11
          go_wp2_with (fail)
          go_loopw [7] (fun j wy => ∃ m : Nat, m ≤ 4 ∧ j = .int .i64 ((12 + m : Nat) : Int) ∧ wy.rowIs wo.heap.size 30 4 (enF (beI L q 8, beI L (q + 8) 2, beI L (q + 10) 2, beI L (q + 12) m)) ∧ Below wo.heap.size wo wy) (fun j _ => 16 - (intOf j).toNat)
          case atStart => exact ⟨0, by omega, rfl, k1, kB⟩
          case round =>
            clear k1 kB
            obtain ⟨m, hm, rfl, k1, kB⟩ := hrel
            by_cases hm4 : m < 4
            · have xk : wr.cell? ⟨wo.heap.size, 3, none⟩ = some (.int .u32 (beI L (q + 12) m)) := k1.cell (i := 3) (by omega)
              have xf := k1.frozen 3
              have xc := hcw.out _ kB (q + 12 + m) (by omega)
              have r1 := beI_rng L (q + 12) m 3 (by omega) (by omega)
              have r2 := byI_range L (q + 12 + m)
              have hs := Lib.hid (beI_succ L (q + 12) m (by omega))
              have hrow := Lib.hid (en_put (y := (beI L q 8, beI L (q + 8) 2, beI L (q + 10) 2, beI L (q + 12) m * 256 + byI L (q + 12 + m))) (j := 3) (v := .int .u32 (beI L (q + 12) m * 256 + byI L (q + 12 + m))) k1 (four rfl rfl rfl rfl))
              have hwb := Lib.hid (below_put (g := wo.heap.size) (j := 3) kB (Nat.le_refl _) (.int .u32 (beI L (q + 12) m * 256 + byI L (q + 12 + m))))
              have hor := or32 (beI L (q + 12) m) (byI L (q + 12 + m)) r1.1 (by omega) r2.1 r2.2
              clear k1 kB
              generalize hA : beI L (q + 12) m = A at *
              generalize hB : byI L (q + 12 + m) = b at *
              clear hA hB
              generalize hp : 12 + m = p at *
              rw [Nat.add_assoc, hp] at xc
              have hix : (q : Int) + (p : Int) < (L.length : Int) := by omega
              have hp16 : p < 16 := by omega
              go_wp2_with (fail)
              go_region
              go_wp2_with (fail)
              exact ⟨⟨m + 1, by omega, by rw [← hp]; go_num, by rw [hs.out]; exact hrow.out, hwb.out⟩, by simp [intOf]; omega⟩
            · obtain rfl : m = 4 := by omega
              clear hm hm4
              have c0 : wr.cell? ⟨wo.heap.size, 0, none⟩ = some (.int .u64 (beI L q 8)) := k1.cell (i := 0) (by omega)
              have c1 : wr.cell? ⟨wo.heap.size, 1, none⟩ = some (.int .u16 (beI L (q + 8) 2)) := k1.cell (i := 1) (by omega)
              have c2 : wr.cell? ⟨wo.heap.size, 2, none⟩ = some (.int .u16 (beI L (q + 10) 2)) := k1.cell (i := 2) (by omega)
              have c3 : wr.cell? ⟨wo.heap.size, 3, none⟩ = some (.int .u32 (beI L (q + 12) 4)) := k1.cell (i := 3) (by omega)
              have ho := own_below hown.out kB
              have hbo := hb.trans (kB.mono hb.size)
              have hk : k < 1000000000 := by have := hq.out; omega
              have hx : ∀ (v : Value) (w2 : World), w2.ownsRow W.heap.size 30 4 v (k + 1) (ents (readL L k) ++ [.int .u64 (beI L q 8), .int .u16 (beI L (q + 8) 2), .int .u16 (beI L (q + 10) 2), .int .u32 (beI L (q + 12) 4)]) → w2.ownsRow W.heap.size 30 4 v (k + 1) (ents (readL L (k + 1))) := fun v w2 h => by
                rw [readL_succ, ents_app, show encE (enAt L k) = [.int .u64 (beI L q 8), .int .u16 (beI L (q + 8) 2), .int .u16 (beI L (q + 10) 2), .int .u32 (beI L (q + 12) 4)] by rw [hq.out]; rfl]
                exact h
              replace hx := Lib.hid hx
              have hone : ∀ u ∈ ([.int .u64 (beI L q 8), .int .u16 (beI L (q + 8) 2), .int .u16 (beI L (q + 10) 2), .int .u32 (beI L (q + 12) 4)] : List Value), u.oneCell' = true := by
                intro u hu
                simp only [List.mem_cons, List.not_mem_nil, or_false] at hu
                rcases hu with rfl | rfl | rfl | rfl <;> rfl
              clear k1 kB
              go_wp2_with (at_builtin; refine wpList_app rfl _ _ 24 rfl W.heap.size 30 (.agg #[.int .u64 0, .int .u16 0, .int .u16 0, .int .u32 0]) 4 16 Tryz.underlying24 infoEn rfl (by decide) _ k (ents (readL L k)) rfl ho hbo (Nat.le_refl _) [.int .u64 (beI L q 8), .int .u16 (beI L (q + 8) 2), .int .u16 (beI L (q + 10) 2), .int .u32 (beI L (q + 12) 4)] hone rfl _ rfl rfl hk (by decide) ?_; intro v' w2 hown2 hb2 hnil; have hown3 := Lib.hid (hx.out _ _ hown2); clear hown2 hnil ho hbo hx hone)
              exact ⟨⟨k + 1, q + 16, by have := hq.out; omega, by omega, by go_num, hown3.out, hb2⟩, by simp [intOf]; omega⟩
    · obtain rfl : k = L.length / 16 := by omega
      have hdl : decide ((q : Int) + 16 ≤ (L.length : Int)) = false := by simp; omega
      clear hD
      replace hown := Lib.hid hown
      go_wp2
      go_ret
      exact ⟨_, rfl, hown.out, hb⟩
end Go.Proofs.YtpoomblloahahaaGreatDoor
