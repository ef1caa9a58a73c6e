/- A book's move as a move: the text of its squares, and its reading. -/
import Derived.Test.YtpoomblloahahaaGreatDoorPoB
import Derived.Lib.ConvBytes
import Derived.Laws.IdiomStrings
namespace Go.Proofs.YtpoomblloahahaaGreatDoor
open Go.ChangeShapes Go.WideShapes Go.ChangeAt Go.RowKit Go.PlainAid
set_option maxHeartbeats 1000000
set_option linter.unusedVariables false
set_option linter.unusedSimpArgs false
attribute [local go_sem] tx_list tx_size bt_tx

/-- A byte out of a small number. -/
def byt (n : Int) : UInt8 := UInt8.ofNat n.toNat
theorem byt_nat (n : Int) (h0 : 0 ≤ n) (h1 : n < 256) : ((byt n).toNat : Int) = n := by
  unfold byt; rw [UInt8.toNat_ofNat']; omega
def letP (p : Int) : Int := if p = 1 then 110 else if p = 2 then 98 else if p = 3 then 114 else 113
def kindP (p : Int) : Int := if p = 0 then 0 else 6 - p
def text4 (a b c d : Int) : List UInt8 := [byt (97 + a), byt (49 + b), byt (97 + c), byt (49 + d)]
def text5 (a b c d p : Int) : List UInt8 := [byt (97 + a), byt (49 + b), byt (97 + c), byt (49 + d), byt (letP p)]
theorem slice4 (g : Nat) (W : World) : (Instr.sliceAt 110 (.pointer (some ⟨g, 0, none⟩)) none (some (.int .i64 4)) none).run Tryz.prog W = .ok (.slice (some ⟨g, 0, none⟩) 4 5) W := by
  have hl : Tryz.prog.arrayLen 110 = 5 := by kernel_rfl
  have he : Tryz.prog.elem 110 = 5 := by kernel_rfl
  have ht : Tryz.prog.underlying 110 = some (.array (Tryz.prog.arrayLen 110) (Tryz.prog.elem 110)) := by kernel_rfl
  have hs : (sizeOf 5).run Tryz.prog W = .ok 1 W := by kernel_rfl
  rw [run_sliceAt_array_h W 110 _ ht .i64 4 (by omega) (by rw [hl]; omega), he, hs]
  simp only [Result.andThen, hl, slicedAt]
  rfl
theorem slice5 (g : Nat) (W : World) : (Instr.sliceAt 110 (.pointer (some ⟨g, 0, none⟩)) none (some (.int .i64 5)) none).run Tryz.prog W = .ok (.slice (some ⟨g, 0, none⟩) 5 5) W := by
  have hl : Tryz.prog.arrayLen 110 = 5 := by kernel_rfl
  have he : Tryz.prog.elem 110 = 5 := by kernel_rfl
  have ht : Tryz.prog.underlying 110 = some (.array (Tryz.prog.arrayLen 110) (Tryz.prog.elem 110)) := by kernel_rfl
  have hs : (sizeOf 5).run Tryz.prog W = .ok 1 W := by kernel_rfl
  rw [run_sliceAt_array_h W 110 _ ht .i64 5 (by omega) (by rw [hl]; omega), he, hs]
  simp only [Result.andThen, hl, slicedAt]
  rfl
theorem cells_conv (g cp : Nat) (l : List UInt8) (W : World) (h : ∀ j, j < l.length → W.cell? ⟨g, j, none⟩ = some (.int .u8 ((l.getD j 0).toNat : Int))) :
    (convert 22 9 (.slice (some ⟨g, 0, none⟩) l.length cp)).run Tryz.prog W = .ok (.string (tx l)) W := by
  exact run_convert_bytes_back (P := Tryz.prog) W 22 9 5 ⟨g, 0, none⟩ cp l Tryz.underlying22 Tryz.underlying5 Tryz.underlying9 (fun j hj => by
    have ha : (⟨g, 0, none⟩ : Addr).add j = ⟨g, j, none⟩ := by unfold Addr.add; split <;> simp_all
    rw [ha, h j hj, List.getD_eq_getElem?_getD, List.getElem?_eq_getElem hj]; rfl)
theorem conv4 (g : Nat) (a b c d : Int) (ha : 0 ≤ a ∧ a < 8) (hb : 0 ≤ b ∧ b < 8) (hc : 0 ≤ c ∧ c < 8) (hd : 0 ≤ d ∧ d < 8) (W : World)
    (h0 : W.cell? ⟨g, 0, none⟩ = some (.int .u8 (97 + a))) (h1 : W.cell? ⟨g, 1, none⟩ = some (.int .u8 (49 + b))) (h2 : W.cell? ⟨g, 2, none⟩ = some (.int .u8 (97 + c))) (h3 : W.cell? ⟨g, 3, none⟩ = some (.int .u8 (49 + d))) :
    (convert 22 9 (.slice (some ⟨g, 0, none⟩) 4 5)).run Tryz.prog W = .ok (.string (tx (text4 a b c d))) W := by
  refine cells_conv g 5 (text4 a b c d) W fun j hj => ?_
  have hj : j < 4 := hj
  have : j = 0 ∨ j = 1 ∨ j = 2 ∨ j = 3 := by omega
  rcases this with rfl | rfl | rfl | rfl
  · rw [h0]; show _ = some (Value.int .u8 ((byt (97 + a)).toNat : Int)); rw [byt_nat _ (by omega) (by omega)]
  · rw [h1]; show _ = some (Value.int .u8 ((byt (49 + b)).toNat : Int)); rw [byt_nat _ (by omega) (by omega)]
  · rw [h2]; show _ = some (Value.int .u8 ((byt (97 + c)).toNat : Int)); rw [byt_nat _ (by omega) (by omega)]
  · rw [h3]; show _ = some (Value.int .u8 ((byt (49 + d)).toNat : Int)); rw [byt_nat _ (by omega) (by omega)]
theorem letP_range (p : Int) : 0 ≤ letP p ∧ letP p < 256 := by unfold letP; repeat' split <;> omega
theorem conv5 (g : Nat) (a b c d p : Int) (ha : 0 ≤ a ∧ a < 8) (hb : 0 ≤ b ∧ b < 8) (hc : 0 ≤ c ∧ c < 8) (hd : 0 ≤ d ∧ d < 8) (W : World)
    (h0 : W.cell? ⟨g, 0, none⟩ = some (.int .u8 (97 + a))) (h1 : W.cell? ⟨g, 1, none⟩ = some (.int .u8 (49 + b))) (h2 : W.cell? ⟨g, 2, none⟩ = some (.int .u8 (97 + c))) (h3 : W.cell? ⟨g, 3, none⟩ = some (.int .u8 (49 + d)))
    (h4 : W.cell? ⟨g, 4, none⟩ = some (.int .u8 (letP p))) :
    (convert 22 9 (.slice (some ⟨g, 0, none⟩) 5 5)).run Tryz.prog W = .ok (.string (tx (text5 a b c d p))) W := by
  refine cells_conv g 5 (text5 a b c d p) W fun j hj => ?_
  have hj : j < 5 := hj
  have hp := letP_range p
  have : j = 0 ∨ j = 1 ∨ j = 2 ∨ j = 3 ∨ j = 4 := by omega
  rcases this with rfl | rfl | rfl | rfl | rfl
  · rw [h0]; show _ = some (Value.int .u8 ((byt (97 + a)).toNat : Int)); rw [byt_nat _ (by omega) (by omega)]
  · rw [h1]; show _ = some (Value.int .u8 ((byt (49 + b)).toNat : Int)); rw [byt_nat _ (by omega) (by omega)]
  · rw [h2]; show _ = some (Value.int .u8 ((byt (97 + c)).toNat : Int)); rw [byt_nat _ (by omega) (by omega)]
  · rw [h3]; show _ = some (Value.int .u8 ((byt (49 + d)).toNat : Int)); rw [byt_nat _ (by omega) (by omega)]
  · rw [h4]; show _ = some (Value.int .u8 ((byt (letP p)).toNat : Int)); rw [byt_nat _ hp.1 hp.2]
theorem wrap_small (n : Int) (h0 : 0 ≤ n) (h1 : n < 128) : IntKind.i8.wrap n = n := by
  have : IntKind.i8.wrap n = (n + 128) % 256 - 128 := by
    simp only [IntKind.wrap, IntKind.bits, IntKind.signed]
    simp
    split <;> omega
  rw [this]; omega
theorem t4_b (a b c d p : Int) (ha : 0 ≤ a ∧ a < 8) (hb : 0 ≤ b ∧ b < 8) (hc : 0 ≤ c ∧ c < 8) (hd : 0 ≤ d ∧ d < 8) :
    bi (text4 a b c d) 0 = 97 + a ∧ bi (text4 a b c d) 1 = 49 + b ∧ bi (text4 a b c d) 2 = 97 + c ∧ bi (text4 a b c d) 3 = 49 + d :=
  ⟨byt_nat _ (by omega) (by omega), byt_nat _ (by omega) (by omega), byt_nat _ (by omega) (by omega), byt_nat _ (by omega) (by omega)⟩
theorem t4_sq (a b c d p : Int) (ha : 0 ≤ a ∧ a < 8) (hb : 0 ≤ b ∧ b < 8) (hc : 0 ≤ c ∧ c < 8) (hd : 0 ≤ d ∧ d < 8) :
    sq1 (text4 a b c d) = a + 8 * b ∧ sq2 (text4 a b c d) = c + 8 * d := by
  obtain ⟨h0, h1, h2, h3⟩ := t4_b a b c d p ha hb hc hd
  unfold sq1 sq2
  rw [h0, h1, h2, h3]
  refine ⟨by omega, ?_⟩
  rw [show (97 + c - 97 + (49 + d - 49) % 256 * 8) % 256 = c + 8 * d by omega, wrap_small _ (by omega) (by omega)]
theorem t5_b (a b c d p : Int) (ha : 0 ≤ a ∧ a < 8) (hb : 0 ≤ b ∧ b < 8) (hc : 0 ≤ c ∧ c < 8) (hd : 0 ≤ d ∧ d < 8) :
    bi (text5 a b c d p) 0 = 97 + a ∧ bi (text5 a b c d p) 1 = 49 + b ∧ bi (text5 a b c d p) 2 = 97 + c ∧ bi (text5 a b c d p) 3 = 49 + d :=
  ⟨byt_nat _ (by omega) (by omega), byt_nat _ (by omega) (by omega), byt_nat _ (by omega) (by omega), byt_nat _ (by omega) (by omega)⟩
theorem t5_sq (a b c d p : Int) (ha : 0 ≤ a ∧ a < 8) (hb : 0 ≤ b ∧ b < 8) (hc : 0 ≤ c ∧ c < 8) (hd : 0 ≤ d ∧ d < 8) :
    sq1 (text5 a b c d p) = a + 8 * b ∧ sq2 (text5 a b c d p) = c + 8 * d := by
  obtain ⟨h0, h1, h2, h3⟩ := t5_b a b c d p ha hb hc hd
  unfold sq1 sq2
  rw [h0, h1, h2, h3]
  refine ⟨by omega, ?_⟩
  rw [show (97 + c - 97 + (49 + d - 49) % 256 * 8) % 256 = c + 8 * d by omega, wrap_small _ (by omega) (by omega)]
def MvNew (a b p : Int) (w : World) (e : Ending) (w' : World) : Prop :=
  ∃ g, w.heap.size ≤ g ∧ e = .returned (.tuple #[.pointer (some ⟨g, 0, none⟩), .nilIface]) ∧ w'.rowIs g 57 11 (mvF a b p 0) ∧ Below w.heap.size w w'
theorem decode_t4 (a b c d : Int) (ha : 0 ≤ a ∧ a < 8) (hb : 0 ≤ b ∧ b < 8) (hc : 0 ≤ c ∧ c < 8) (hd : 0 ≤ d ∧ d < 8) (w : World) :
    Calls Tryz.prog 40 #[.agg #[], .pointer none, .string (tx (text4 a b c d))] w fun e w' => MvNew (a + 8 * b) (c + 8 * d) 0 w e w' := by
  obtain ⟨h0, h1, h2, h3⟩ := t4_b a b c d 0 ha hb hc hd
  obtain ⟨s1, s2⟩ := t4_sq a b c d 0 ha hb hc hd
  refine (decode_four (text4 a b c d) (Nat.le_refl 4) (show 4 ≤ 5 by omega) (by omega) (by omega) (by omega) (by omega) (by omega) rfl w).mono fun e w' h => ?_
  unfold UGood at h
  rw [s1, s2] at h
  exact h
theorem decode_t5 (a b c d p q : Int) (ha : 0 ≤ a ∧ a < 8) (hb : 0 ≤ b ∧ b < 8) (hc : 0 ≤ c ∧ c < 8) (hd : 0 ≤ d ∧ d < 8) (hp : 1 ≤ p ∧ p ≤ 4) (hq : 6 - p = q) (w : World) :
    Calls Tryz.prog 40 #[.agg #[], .pointer none, .string (tx (text5 a b c d p))] w fun e w' => MvNew (a + 8 * b) (c + 8 * d) q w e w' := by
  obtain ⟨h0, h1, h2, h3⟩ := t5_b a b c d p ha hb hc hd
  obtain ⟨s1, s2⟩ := t5_sq a b c d p ha hb hc hd
  have h4 : bi (text5 a b c d p) 4 = letP p := byt_nat _ (letP_range p).1 (letP_range p).2
  have hpm : pmap (letP p) = 6 - p := by
    have : p = 1 ∨ p = 2 ∨ p = 3 ∨ p = 4 := by omega
    rcases this with rfl | rfl | rfl | rfl <;> rfl
  refine (decode_five (text5 a b c d p) (show 4 ≤ 5 by omega) (Nat.le_refl 5) (by omega) (by omega) (by omega) (by omega) (by omega) rfl (by rw [h4, hpm]; omega) w).mono fun e w' h => ?_
  unfold UGood at h
  rw [s1, s2, h4, hpm, hq] at h
  exact h
def mvV (a b p : Int) : Value := .agg (rowArr 11 (mvF a b p 0))
theorem infoMove : (Tryz.prog.info? 57).map (·.size) = some 11 := by kernel_rfl
theorem mv_one (a b p t : Int) : (rowArr 11 (mvF a b p t)).all (·.oneCell') = true := by
  have : rowArr 11 (mvF a b p t) = #[Value.pointer none, Value.pointer none, Value.string ⟨#[]⟩, Value.string ⟨#[]⟩, Value.map none, Value.slice none 0 0, Value.int .u64 0, Value.int .u16 t, Value.int .i8 a, Value.int .i8 b, Value.int .i8 p] := rfl
  rw [this]
  simp [Value.oneCell']
theorem mv_row (w : World) (a b p : Int) : (w.alloc (.cells #[Value.pointer none, Value.pointer none, Value.string ⟨#[]⟩, Value.string ⟨#[]⟩, Value.map none, Value.slice none 0 0, Value.int .u64 0, Value.int .u16 0, Value.int .i8 a, Value.int .i8 b, Value.int .i8 p] 57)).rowIs w.heap.size 57 11 (mvF a b p 0) :=
  (row_lit w _ _).congr fun j hj => mv_lit _ _ _ j hj
theorem mv_stored {w : World} {b : Nat} {F : Nat → Value} (h : w.rowIs b 57 11 F) (x y p t : Int) : (w.setCells b 0 (rowArr 11 (mvF x y p t)).toList).rowIs b 57 11 (mvF x y p t) :=
  (row_store h (rowArr 11 (mvF x y p t)) (rowArr_size _ _)).congr fun j hj => by
    rw [Array.getD_eq_getD_getElem?, rowArr_get 11 _ j hj]; rfl
set_option maxRecDepth 100000 in
theorem toMove_0 (a b c d : Int) (ha : 0 ≤ a ∧ a < 8) (hb : 0 ≤ b ∧ b < 8) (hc : 0 ≤ c ∧ c < 8) (hd : 0 ≤ d ∧ d < 8) (w : World) :
    Calls Tryz.prog 22 #[polyV a b c d 0 false] w fun e w' => e = .returned (mvV (a + 8 * b) (c + 8 * d) 0) ∧ Below w.heap.size w w' := by
  have hdec := Lib.hid (decode_t4 a b c d ha hb hc hd)
  have hsl := slice4
  have hcv := fun g W => conv4 g a b c d ha hb hc hd W
  skip
  have hgi : ∀ h, ((((({ data := #[32, 110, 98, 114, 113] } : ByteArray)[0]'h).toNat : Nat)) : Int) = 32 := fun _ => rfl
  have k0 := row_lit w #[.int .i64 a, .int .i64 b, .int .i64 c, .int .i64 d, .int .i64 0, .bool false] 76
  have k0b : Below w.heap.size w (w.alloc (.cells #[.int .i64 a, .int .i64 b, .int .i64 c, .int .i64 d, .int .i64 0, .bool false] 76)) := (Below.refl _ _).alloc (Nat.le_refl _) _
  have k1 := mv_row (w.alloc (.cells #[.int .i64 a, .int .i64 b, .int .i64 c, .int .i64 d, .int .i64 0, .bool false] 76)) 0 0 0
  rw [World.size_alloc] at k1
  unfold polyV
  go_enter Tryz.func22, Tryz.ntmps22
  go_upto_region 13 with (fail)
  have k2 := (k0.alloc (.cells #[Value.pointer none, Value.pointer none, Value.string ⟨#[]⟩, Value.string ⟨#[]⟩, Value.map none, Value.slice none 0 0, Value.int .u64 0, Value.int .u16 0, Value.int .i8 0, Value.int .i8 0, Value.int .i8 0] 57)).alloc (.cells #[Value.int .u8 (97 + a), Value.int .u8 (49 + b), Value.int .u8 (97 + c), Value.int .u8 (49 + d), Value.int .u8 0] 110)
  have k3 := k1.alloc (.cells #[Value.int .u8 (97 + a), Value.int .u8 (49 + b), Value.int .u8 (97 + c), Value.int .u8 (49 + d), Value.int .u8 0] 110)
  have k4 := (k0b.alloc (by simp) (.cells #[Value.pointer none, Value.pointer none, Value.string ⟨#[]⟩, Value.string ⟨#[]⟩, Value.map none, Value.slice none 0 0, Value.int .u64 0, Value.int .u16 0, Value.int .i8 0, Value.int .i8 0, Value.int .i8 0] 57)).alloc (by simp; omega) (.cells #[Value.int .u8 (97 + a), Value.int .u8 (49 + b), Value.int .u8 (97 + c), Value.int .u8 (49 + d), Value.int .u8 0] 110)
  clear k0 k1 k0b hcv hsl
  generalize ((w.alloc (.cells #[.int .i64 a, .int .i64 b, .int .i64 c, .int .i64 d, .int .i64 0, .bool false] 76)).alloc (.cells #[Value.pointer none, Value.pointer none, Value.string ⟨#[]⟩, Value.string ⟨#[]⟩, Value.map none, Value.slice none 0 0, Value.int .u64 0, Value.int .u16 0, Value.int .i8 0, Value.int .i8 0, Value.int .i8 0] 57)).alloc (.cells #[Value.int .u8 (97 + a), Value.int .u8 (49 + b), Value.int .u8 (97 + c), Value.int .u8 (49 + d), Value.int .u8 0] 110) = w1 at *
  go_wp2_with (fail)
  refine (hdec.out _).mono ?_
  rintro e w2 ⟨g, hg, rfl, hm, hb2⟩
  have q2 := rowIs_below k2 hb2 k2.lt
  have q3 := rowIs_below k3 hb2 k3.lt
  have q4 := k4.trans (hb2.mono k4.size)
  have c5 : w2.cell? ⟨w.heap.size, 5, none⟩ = some (.bool false) := q2.cell (i := 5) (by simp)
  clear k2 k3 k4 hb2 q2
  replace q4 := Lib.hid q4
  go_wp2_with (first
    | (refine wpList_store_mid rfl 57 _ _ rfl (w.heap.size + 1) 0 (rowArr 11 (mvF (a + 8 * b) (c + 8 * d) 0 0)) rfl rfl (by rw [rowArr_size]; exact rowIs_there q3) (by rw [infoMove, rowArr_size]) (mv_one _ _ _ _) ?_)
    | (refine wpList_load_row rfl 57 _ rfl g rfl _ _ (0, 0) _ (rowIs_block hm) Tryz.underlying57 rfl (by rw [infoMove, rowArr_size]) ?_))
  have q5 := mv_stored q3 (a + 8 * b) (c + 8 * d) 0 0
  have hB := below_setCells (show w.heap.size ≤ w.heap.size + 1 by omega) (rowArr 11 (mvF (a + 8 * b) (c + 8 * d) 0 0)).toList 0 _ q4.out
  have d0 := q5.cell (i := 0) (by omega)
  have d1 := q5.cell (i := 1) (by omega)
  have d2 := q5.cell (i := 2) (by omega)
  have d3 := q5.cell (i := 3) (by omega)
  have d4 := q5.cell (i := 4) (by omega)
  have d5 := q5.cell (i := 5) (by omega)
  have d6 := q5.cell (i := 6) (by omega)
  have d7 := q5.cell (i := 7) (by omega)
  have d8 := q5.cell (i := 8) (by omega)
  have d9 := q5.cell (i := 9) (by omega)
  have d10 := q5.cell (i := 10) (by omega)
  clear q5 q3
  exact bodyPost_ret (v := mvV (a + 8 * b) (c + 8 * d) 0) (by simp [results, Tryz.results22, go_sem, d0, d1, d2, d3, d4, d5, d6, d7, d8, d9, d10]; rfl) rfl ⟨rfl, hB⟩
set_option maxRecDepth 100000 in
theorem toMove_1 (a b c d : Int) (ha : 0 ≤ a ∧ a < 8) (hb : 0 ≤ b ∧ b < 8) (hc : 0 ≤ c ∧ c < 8) (hd : 0 ≤ d ∧ d < 8) (w : World) :
    Calls Tryz.prog 22 #[polyV a b c d 1 false] w fun e w' => e = .returned (mvV (a + 8 * b) (c + 8 * d) 5) ∧ Below w.heap.size w w' := by
  have hdec := Lib.hid (decode_t5 a b c d 1 5 ha hb hc hd (by omega) (by omega))
  have hsl := slice5
  have hcv := fun g W => conv5 g a b c d 1 ha hb hc hd W
  simp only [show letP 1 = 110 from rfl] at hcv
  have hgi : ∀ h, ((((({ data := #[32, 110, 98, 114, 113] } : ByteArray)[1]'h).toNat : Nat)) : Int) = 110 := fun _ => rfl
  have k0 := row_lit w #[.int .i64 a, .int .i64 b, .int .i64 c, .int .i64 d, .int .i64 1, .bool false] 76
  have k0b : Below w.heap.size w (w.alloc (.cells #[.int .i64 a, .int .i64 b, .int .i64 c, .int .i64 d, .int .i64 1, .bool false] 76)) := (Below.refl _ _).alloc (Nat.le_refl _) _
  have k1 := mv_row (w.alloc (.cells #[.int .i64 a, .int .i64 b, .int .i64 c, .int .i64 d, .int .i64 1, .bool false] 76)) 0 0 0
  rw [World.size_alloc] at k1
  unfold polyV
  go_enter Tryz.func22, Tryz.ntmps22
  go_upto_region 13 with (fail)
  have k2 := (k0.alloc (.cells #[Value.pointer none, Value.pointer none, Value.string ⟨#[]⟩, Value.string ⟨#[]⟩, Value.map none, Value.slice none 0 0, Value.int .u64 0, Value.int .u16 0, Value.int .i8 0, Value.int .i8 0, Value.int .i8 0] 57)).alloc (.cells #[Value.int .u8 (97 + a), Value.int .u8 (49 + b), Value.int .u8 (97 + c), Value.int .u8 (49 + d), Value.int .u8 110] 110)
  have k3 := k1.alloc (.cells #[Value.int .u8 (97 + a), Value.int .u8 (49 + b), Value.int .u8 (97 + c), Value.int .u8 (49 + d), Value.int .u8 110] 110)
  have k4 := (k0b.alloc (by simp) (.cells #[Value.pointer none, Value.pointer none, Value.string ⟨#[]⟩, Value.string ⟨#[]⟩, Value.map none, Value.slice none 0 0, Value.int .u64 0, Value.int .u16 0, Value.int .i8 0, Value.int .i8 0, Value.int .i8 0] 57)).alloc (by simp; omega) (.cells #[Value.int .u8 (97 + a), Value.int .u8 (49 + b), Value.int .u8 (97 + c), Value.int .u8 (49 + d), Value.int .u8 110] 110)
  clear k0 k1 k0b hcv hsl
  generalize ((w.alloc (.cells #[.int .i64 a, .int .i64 b, .int .i64 c, .int .i64 d, .int .i64 1, .bool false] 76)).alloc (.cells #[Value.pointer none, Value.pointer none, Value.string ⟨#[]⟩, Value.string ⟨#[]⟩, Value.map none, Value.slice none 0 0, Value.int .u64 0, Value.int .u16 0, Value.int .i8 0, Value.int .i8 0, Value.int .i8 0] 57)).alloc (.cells #[Value.int .u8 (97 + a), Value.int .u8 (49 + b), Value.int .u8 (97 + c), Value.int .u8 (49 + d), Value.int .u8 110] 110) = w1 at *
  go_wp2_with (fail)
  refine (hdec.out _).mono ?_
  rintro e w2 ⟨g, hg, rfl, hm, hb2⟩
  have q2 := rowIs_below k2 hb2 k2.lt
  have q3 := rowIs_below k3 hb2 k3.lt
  have q4 := k4.trans (hb2.mono k4.size)
  have c5 : w2.cell? ⟨w.heap.size, 5, none⟩ = some (.bool false) := q2.cell (i := 5) (by simp)
  clear k2 k3 k4 hb2 q2
  replace q4 := Lib.hid q4
  go_wp2_with (first
    | (refine wpList_store_mid rfl 57 _ _ rfl (w.heap.size + 1) 0 (rowArr 11 (mvF (a + 8 * b) (c + 8 * d) 5 0)) rfl rfl (by rw [rowArr_size]; exact rowIs_there q3) (by rw [infoMove, rowArr_size]) (mv_one _ _ _ _) ?_)
    | (refine wpList_load_row rfl 57 _ rfl g rfl _ _ (0, 0) _ (rowIs_block hm) Tryz.underlying57 rfl (by rw [infoMove, rowArr_size]) ?_))
  have q5 := mv_stored q3 (a + 8 * b) (c + 8 * d) 5 0
  have hB := below_setCells (show w.heap.size ≤ w.heap.size + 1 by omega) (rowArr 11 (mvF (a + 8 * b) (c + 8 * d) 5 0)).toList 0 _ q4.out
  have d0 := q5.cell (i := 0) (by omega)
  have d1 := q5.cell (i := 1) (by omega)
  have d2 := q5.cell (i := 2) (by omega)
  have d3 := q5.cell (i := 3) (by omega)
  have d4 := q5.cell (i := 4) (by omega)
  have d5 := q5.cell (i := 5) (by omega)
  have d6 := q5.cell (i := 6) (by omega)
  have d7 := q5.cell (i := 7) (by omega)
  have d8 := q5.cell (i := 8) (by omega)
  have d9 := q5.cell (i := 9) (by omega)
  have d10 := q5.cell (i := 10) (by omega)
  clear q5 q3
  exact bodyPost_ret (v := mvV (a + 8 * b) (c + 8 * d) 5) (by simp [results, Tryz.results22, go_sem, d0, d1, d2, d3, d4, d5, d6, d7, d8, d9, d10]; rfl) rfl ⟨rfl, hB⟩
set_option maxRecDepth 100000 in
theorem toMove_2 (a b c d : Int) (ha : 0 ≤ a ∧ a < 8) (hb : 0 ≤ b ∧ b < 8) (hc : 0 ≤ c ∧ c < 8) (hd : 0 ≤ d ∧ d < 8) (w : World) :
    Calls Tryz.prog 22 #[polyV a b c d 2 false] w fun e w' => e = .returned (mvV (a + 8 * b) (c + 8 * d) 4) ∧ Below w.heap.size w w' := by
  have hdec := Lib.hid (decode_t5 a b c d 2 4 ha hb hc hd (by omega) (by omega))
  have hsl := slice5
  have hcv := fun g W => conv5 g a b c d 2 ha hb hc hd W
  simp only [show letP 2 = 98 from rfl] at hcv
  have hgi : ∀ h, ((((({ data := #[32, 110, 98, 114, 113] } : ByteArray)[2]'h).toNat : Nat)) : Int) = 98 := fun _ => rfl
  have k0 := row_lit w #[.int .i64 a, .int .i64 b, .int .i64 c, .int .i64 d, .int .i64 2, .bool false] 76
  have k0b : Below w.heap.size w (w.alloc (.cells #[.int .i64 a, .int .i64 b, .int .i64 c, .int .i64 d, .int .i64 2, .bool false] 76)) := (Below.refl _ _).alloc (Nat.le_refl _) _
  have k1 := mv_row (w.alloc (.cells #[.int .i64 a, .int .i64 b, .int .i64 c, .int .i64 d, .int .i64 2, .bool false] 76)) 0 0 0
  rw [World.size_alloc] at k1
  unfold polyV
  go_enter Tryz.func22, Tryz.ntmps22
  go_upto_region 13 with (fail)
  have k2 := (k0.alloc (.cells #[Value.pointer none, Value.pointer none, Value.string ⟨#[]⟩, Value.string ⟨#[]⟩, Value.map none, Value.slice none 0 0, Value.int .u64 0, Value.int .u16 0, Value.int .i8 0, Value.int .i8 0, Value.int .i8 0] 57)).alloc (.cells #[Value.int .u8 (97 + a), Value.int .u8 (49 + b), Value.int .u8 (97 + c), Value.int .u8 (49 + d), Value.int .u8 98] 110)
  have k3 := k1.alloc (.cells #[Value.int .u8 (97 + a), Value.int .u8 (49 + b), Value.int .u8 (97 + c), Value.int .u8 (49 + d), Value.int .u8 98] 110)
  have k4 := (k0b.alloc (by simp) (.cells #[Value.pointer none, Value.pointer none, Value.string ⟨#[]⟩, Value.string ⟨#[]⟩, Value.map none, Value.slice none 0 0, Value.int .u64 0, Value.int .u16 0, Value.int .i8 0, Value.int .i8 0, Value.int .i8 0] 57)).alloc (by simp; omega) (.cells #[Value.int .u8 (97 + a), Value.int .u8 (49 + b), Value.int .u8 (97 + c), Value.int .u8 (49 + d), Value.int .u8 98] 110)
  clear k0 k1 k0b hcv hsl
  generalize ((w.alloc (.cells #[.int .i64 a, .int .i64 b, .int .i64 c, .int .i64 d, .int .i64 2, .bool false] 76)).alloc (.cells #[Value.pointer none, Value.pointer none, Value.string ⟨#[]⟩, Value.string ⟨#[]⟩, Value.map none, Value.slice none 0 0, Value.int .u64 0, Value.int .u16 0, Value.int .i8 0, Value.int .i8 0, Value.int .i8 0] 57)).alloc (.cells #[Value.int .u8 (97 + a), Value.int .u8 (49 + b), Value.int .u8 (97 + c), Value.int .u8 (49 + d), Value.int .u8 98] 110) = w1 at *
  go_wp2_with (fail)
  refine (hdec.out _).mono ?_
  rintro e w2 ⟨g, hg, rfl, hm, hb2⟩
  have q2 := rowIs_below k2 hb2 k2.lt
  have q3 := rowIs_below k3 hb2 k3.lt
  have q4 := k4.trans (hb2.mono k4.size)
  have c5 : w2.cell? ⟨w.heap.size, 5, none⟩ = some (.bool false) := q2.cell (i := 5) (by simp)
  clear k2 k3 k4 hb2 q2
  replace q4 := Lib.hid q4
  go_wp2_with (first
    | (refine wpList_store_mid rfl 57 _ _ rfl (w.heap.size + 1) 0 (rowArr 11 (mvF (a + 8 * b) (c + 8 * d) 4 0)) rfl rfl (by rw [rowArr_size]; exact rowIs_there q3) (by rw [infoMove, rowArr_size]) (mv_one _ _ _ _) ?_)
    | (refine wpList_load_row rfl 57 _ rfl g rfl _ _ (0, 0) _ (rowIs_block hm) Tryz.underlying57 rfl (by rw [infoMove, rowArr_size]) ?_))
  have q5 := mv_stored q3 (a + 8 * b) (c + 8 * d) 4 0
  have hB := below_setCells (show w.heap.size ≤ w.heap.size + 1 by omega) (rowArr 11 (mvF (a + 8 * b) (c + 8 * d) 4 0)).toList 0 _ q4.out
  have d0 := q5.cell (i := 0) (by omega)
  have d1 := q5.cell (i := 1) (by omega)
  have d2 := q5.cell (i := 2) (by omega)
  have d3 := q5.cell (i := 3) (by omega)
  have d4 := q5.cell (i := 4) (by omega)
  have d5 := q5.cell (i := 5) (by omega)
  have d6 := q5.cell (i := 6) (by omega)
  have d7 := q5.cell (i := 7) (by omega)
  have d8 := q5.cell (i := 8) (by omega)
  have d9 := q5.cell (i := 9) (by omega)
  have d10 := q5.cell (i := 10) (by omega)
  clear q5 q3
  exact bodyPost_ret (v := mvV (a + 8 * b) (c + 8 * d) 4) (by simp [results, Tryz.results22, go_sem, d0, d1, d2, d3, d4, d5, d6, d7, d8, d9, d10]; rfl) rfl ⟨rfl, hB⟩
set_option maxRecDepth 100000 in
theorem toMove_3 (a b c d : Int) (ha : 0 ≤ a ∧ a < 8) (hb : 0 ≤ b ∧ b < 8) (hc : 0 ≤ c ∧ c < 8) (hd : 0 ≤ d ∧ d < 8) (w : World) :
    Calls Tryz.prog 22 #[polyV a b c d 3 false] w fun e w' => e = .returned (mvV (a + 8 * b) (c + 8 * d) 3) ∧ Below w.heap.size w w' := by
  have hdec := Lib.hid (decode_t5 a b c d 3 3 ha hb hc hd (by omega) (by omega))
  have hsl := slice5
  have hcv := fun g W => conv5 g a b c d 3 ha hb hc hd W
  simp only [show letP 3 = 114 from rfl] at hcv
  have hgi : ∀ h, ((((({ data := #[32, 110, 98, 114, 113] } : ByteArray)[3]'h).toNat : Nat)) : Int) = 114 := fun _ => rfl
  have k0 := row_lit w #[.int .i64 a, .int .i64 b, .int .i64 c, .int .i64 d, .int .i64 3, .bool false] 76
  have k0b : Below w.heap.size w (w.alloc (.cells #[.int .i64 a, .int .i64 b, .int .i64 c, .int .i64 d, .int .i64 3, .bool false] 76)) := (Below.refl _ _).alloc (Nat.le_refl _) _
  have k1 := mv_row (w.alloc (.cells #[.int .i64 a, .int .i64 b, .int .i64 c, .int .i64 d, .int .i64 3, .bool false] 76)) 0 0 0
  rw [World.size_alloc] at k1
  unfold polyV
  go_enter Tryz.func22, Tryz.ntmps22
  go_upto_region 13 with (fail)
  have k2 := (k0.alloc (.cells #[Value.pointer none, Value.pointer none, Value.string ⟨#[]⟩, Value.string ⟨#[]⟩, Value.map none, Value.slice none 0 0, Value.int .u64 0, Value.int .u16 0, Value.int .i8 0, Value.int .i8 0, Value.int .i8 0] 57)).alloc (.cells #[Value.int .u8 (97 + a), Value.int .u8 (49 + b), Value.int .u8 (97 + c), Value.int .u8 (49 + d), Value.int .u8 114] 110)
  have k3 := k1.alloc (.cells #[Value.int .u8 (97 + a), Value.int .u8 (49 + b), Value.int .u8 (97 + c), Value.int .u8 (49 + d), Value.int .u8 114] 110)
  have k4 := (k0b.alloc (by simp) (.cells #[Value.pointer none, Value.pointer none, Value.string ⟨#[]⟩, Value.string ⟨#[]⟩, Value.map none, Value.slice none 0 0, Value.int .u64 0, Value.int .u16 0, Value.int .i8 0, Value.int .i8 0, Value.int .i8 0] 57)).alloc (by simp; omega) (.cells #[Value.int .u8 (97 + a), Value.int .u8 (49 + b), Value.int .u8 (97 + c), Value.int .u8 (49 + d), Value.int .u8 114] 110)
  clear k0 k1 k0b hcv hsl
  generalize ((w.alloc (.cells #[.int .i64 a, .int .i64 b, .int .i64 c, .int .i64 d, .int .i64 3, .bool false] 76)).alloc (.cells #[Value.pointer none, Value.pointer none, Value.string ⟨#[]⟩, Value.string ⟨#[]⟩, Value.map none, Value.slice none 0 0, Value.int .u64 0, Value.int .u16 0, Value.int .i8 0, Value.int .i8 0, Value.int .i8 0] 57)).alloc (.cells #[Value.int .u8 (97 + a), Value.int .u8 (49 + b), Value.int .u8 (97 + c), Value.int .u8 (49 + d), Value.int .u8 114] 110) = w1 at *
  go_wp2_with (fail)
  refine (hdec.out _).mono ?_
  rintro e w2 ⟨g, hg, rfl, hm, hb2⟩
  have q2 := rowIs_below k2 hb2 k2.lt
  have q3 := rowIs_below k3 hb2 k3.lt
  have q4 := k4.trans (hb2.mono k4.size)
  have c5 : w2.cell? ⟨w.heap.size, 5, none⟩ = some (.bool false) := q2.cell (i := 5) (by simp)
  clear k2 k3 k4 hb2 q2
  replace q4 := Lib.hid q4
  go_wp2_with (first
    | (refine wpList_store_mid rfl 57 _ _ rfl (w.heap.size + 1) 0 (rowArr 11 (mvF (a + 8 * b) (c + 8 * d) 3 0)) rfl rfl (by rw [rowArr_size]; exact rowIs_there q3) (by rw [infoMove, rowArr_size]) (mv_one _ _ _ _) ?_)
    | (refine wpList_load_row rfl 57 _ rfl g rfl _ _ (0, 0) _ (rowIs_block hm) Tryz.underlying57 rfl (by rw [infoMove, rowArr_size]) ?_))
  have q5 := mv_stored q3 (a + 8 * b) (c + 8 * d) 3 0
  have hB := below_setCells (show w.heap.size ≤ w.heap.size + 1 by omega) (rowArr 11 (mvF (a + 8 * b) (c + 8 * d) 3 0)).toList 0 _ q4.out
  have d0 := q5.cell (i := 0) (by omega)
  have d1 := q5.cell (i := 1) (by omega)
  have d2 := q5.cell (i := 2) (by omega)
  have d3 := q5.cell (i := 3) (by omega)
  have d4 := q5.cell (i := 4) (by omega)
  have d5 := q5.cell (i := 5) (by omega)
  have d6 := q5.cell (i := 6) (by omega)
  have d7 := q5.cell (i := 7) (by omega)
  have d8 := q5.cell (i := 8) (by omega)
  have d9 := q5.cell (i := 9) (by omega)
  have d10 := q5.cell (i := 10) (by omega)
  clear q5 q3
  exact bodyPost_ret (v := mvV (a + 8 * b) (c + 8 * d) 3) (by simp [results, Tryz.results22, go_sem, d0, d1, d2, d3, d4, d5, d6, d7, d8, d9, d10]; rfl) rfl ⟨rfl, hB⟩
set_option maxRecDepth 100000 in
theorem toMove_4 (a b c d : Int) (ha : 0 ≤ a ∧ a < 8) (hb : 0 ≤ b ∧ b < 8) (hc : 0 ≤ c ∧ c < 8) (hd : 0 ≤ d ∧ d < 8) (w : World) :
    Calls Tryz.prog 22 #[polyV a b c d 4 false] w fun e w' => e = .returned (mvV (a + 8 * b) (c + 8 * d) 2) ∧ Below w.heap.size w w' := by
  have hdec := Lib.hid (decode_t5 a b c d 4 2 ha hb hc hd (by omega) (by omega))
  have hsl := slice5
  have hcv := fun g W => conv5 g a b c d 4 ha hb hc hd W
  simp only [show letP 4 = 113 from rfl] at hcv
  have hgi : ∀ h, ((((({ data := #[32, 110, 98, 114, 113] } : ByteArray)[4]'h).toNat : Nat)) : Int) = 113 := fun _ => rfl
  have k0 := row_lit w #[.int .i64 a, .int .i64 b, .int .i64 c, .int .i64 d, .int .i64 4, .bool false] 76
  have k0b : Below w.heap.size w (w.alloc (.cells #[.int .i64 a, .int .i64 b, .int .i64 c, .int .i64 d, .int .i64 4, .bool false] 76)) := (Below.refl _ _).alloc (Nat.le_refl _) _
  have k1 := mv_row (w.alloc (.cells #[.int .i64 a, .int .i64 b, .int .i64 c, .int .i64 d, .int .i64 4, .bool false] 76)) 0 0 0
  rw [World.size_alloc] at k1
  unfold polyV
  go_enter Tryz.func22, Tryz.ntmps22
  go_upto_region 13 with (fail)
  have k2 := (k0.alloc (.cells #[Value.pointer none, Value.pointer none, Value.string ⟨#[]⟩, Value.string ⟨#[]⟩, Value.map none, Value.slice none 0 0, Value.int .u64 0, Value.int .u16 0, Value.int .i8 0, Value.int .i8 0, Value.int .i8 0] 57)).alloc (.cells #[Value.int .u8 (97 + a), Value.int .u8 (49 + b), Value.int .u8 (97 + c), Value.int .u8 (49 + d), Value.int .u8 113] 110)
  have k3 := k1.alloc (.cells #[Value.int .u8 (97 + a), Value.int .u8 (49 + b), Value.int .u8 (97 + c), Value.int .u8 (49 + d), Value.int .u8 113] 110)
  have k4 := (k0b.alloc (by simp) (.cells #[Value.pointer none, Value.pointer none, Value.string ⟨#[]⟩, Value.string ⟨#[]⟩, Value.map none, Value.slice none 0 0, Value.int .u64 0, Value.int .u16 0, Value.int .i8 0, Value.int .i8 0, Value.int .i8 0] 57)).alloc (by simp; omega) (.cells #[Value.int .u8 (97 + a), Value.int .u8 (49 + b), Value.int .u8 (97 + c), Value.int .u8 (49 + d), Value.int .u8 113] 110)
  clear k0 k1 k0b hcv hsl
  generalize ((w.alloc (.cells #[.int .i64 a, .int .i64 b, .int .i64 c, .int .i64 d, .int .i64 4, .bool false] 76)).alloc (.cells #[Value.pointer none, Value.pointer none, Value.string ⟨#[]⟩, Value.string ⟨#[]⟩, Value.map none, Value.slice none 0 0, Value.int .u64 0, Value.int .u16 0, Value.int .i8 0, Value.int .i8 0, Value.int .i8 0] 57)).alloc (.cells #[Value.int .u8 (97 + a), Value.int .u8 (49 + b), Value.int .u8 (97 + c), Value.int .u8 (49 + d), Value.int .u8 113] 110) = w1 at *
  go_wp2_with (fail)
  refine (hdec.out _).mono ?_
  rintro e w2 ⟨g, hg, rfl, hm, hb2⟩
  have q2 := rowIs_below k2 hb2 k2.lt
  have q3 := rowIs_below k3 hb2 k3.lt
  have q4 := k4.trans (hb2.mono k4.size)
  have c5 : w2.cell? ⟨w.heap.size, 5, none⟩ = some (.bool false) := q2.cell (i := 5) (by simp)
  clear k2 k3 k4 hb2 q2
  replace q4 := Lib.hid q4
  go_wp2_with (first
    | (refine wpList_store_mid rfl 57 _ _ rfl (w.heap.size + 1) 0 (rowArr 11 (mvF (a + 8 * b) (c + 8 * d) 2 0)) rfl rfl (by rw [rowArr_size]; exact rowIs_there q3) (by rw [infoMove, rowArr_size]) (mv_one _ _ _ _) ?_)
    | (refine wpList_load_row rfl 57 _ rfl g rfl _ _ (0, 0) _ (rowIs_block hm) Tryz.underlying57 rfl (by rw [infoMove, rowArr_size]) ?_))
  have q5 := mv_stored q3 (a + 8 * b) (c + 8 * d) 2 0
  have hB := below_setCells (show w.heap.size ≤ w.heap.size + 1 by omega) (rowArr 11 (mvF (a + 8 * b) (c + 8 * d) 2 0)).toList 0 _ q4.out
  have d0 := q5.cell (i := 0) (by omega)
  have d1 := q5.cell (i := 1) (by omega)
  have d2 := q5.cell (i := 2) (by omega)
  have d3 := q5.cell (i := 3) (by omega)
  have d4 := q5.cell (i := 4) (by omega)
  have d5 := q5.cell (i := 5) (by omega)
  have d6 := q5.cell (i := 6) (by omega)
  have d7 := q5.cell (i := 7) (by omega)
  have d8 := q5.cell (i := 8) (by omega)
  have d9 := q5.cell (i := 9) (by omega)
  have d10 := q5.cell (i := 10) (by omega)
  clear q5 q3
  exact bodyPost_ret (v := mvV (a + 8 * b) (c + 8 * d) 2) (by simp [results, Tryz.results22, go_sem, d0, d1, d2, d3, d4, d5, d6, d7, d8, d9, d10]; rfl) rfl ⟨rfl, hB⟩
end Go.Proofs.YtpoomblloahahaaGreatDoor
