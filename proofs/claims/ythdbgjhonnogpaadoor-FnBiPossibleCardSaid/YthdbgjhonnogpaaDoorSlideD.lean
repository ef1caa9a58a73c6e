/- Plain facts on numbers of 64 bits and sliding pieces: what the program's subtraction along a line gives is what is met along both ways of the line. No program in sight. -/
namespace Go.Proofs.YthdbgjhonnogpaaDoor.Plain

def B64 : Nat := 18446744073709551616

/-- The bit of a square: a1 the greatest. -/
def bit (s : Nat) : Nat := 2 ^ (63 - s)
def occ (o s : Nat) : Bool := o.testBit (63 - s)
def orBits : List Nat → Nat
  | [] => 0
  | s :: l => bit s ||| orBits l

/-- The squares along a way, the nearest first. -/
def rayGo : Nat → Int → Int → Int → Int → List Nat
  | 0, _, _, _, _ => []
  | n + 1, f, r, df, dr =>
    if 0 ≤ f + df ∧ f + df ≤ 7 ∧ 0 ≤ r + dr ∧ r + dr ≤ 7 then (8 * (r + dr) + (f + df)).toNat :: rayGo n (f + df) (r + dr) df dr else []
def ray (s : Nat) (df dr : Int) : List Nat := rayGo 7 ((s % 8 : Nat) : Int) ((s / 8 : Nat) : Int) df dr
/-- Up to the first taken square, with it. -/
def upTo (occ : Nat → Bool) : List Nat → List Nat
  | [] => []
  | s :: l => s :: if occ s then [] else upTo occ l

def rev64 (x : Nat) : Nat :=
  let x := (x >>> 1 &&& 6148914691236517205) ||| ((x &&& 6148914691236517205) <<< 1) % 18446744073709551616
  let x := (x >>> 2 &&& 3689348814741910323) ||| ((x &&& 3689348814741910323) <<< 2) % 18446744073709551616
  let x := (x >>> 4 &&& 1085102592571150095) ||| ((x &&& 1085102592571150095) <<< 4) % 18446744073709551616
  let x := (x >>> 8 &&& 71777214294589695) ||| ((x &&& 71777214294589695) <<< 8) % 18446744073709551616
  let x := (x >>> 16 &&& 281470681808895) ||| ((x &&& 281470681808895) <<< 16) % 18446744073709551616
  (x >>> 32) ||| ((x <<< 32) % 18446744073709551616)

def sub64 (a b : Nat) : Nat := (18446744073709551616 - b + a) % 18446744073709551616
/-- linearAttack. -/
def lin (o pos mask : Nat) : Nat := (sub64 (o &&& mask) (2 * pos % 18446744073709551616) ^^^ rev64 (sub64 (rev64 (o &&& mask)) (2 * rev64 pos % 18446744073709551616))) &&& mask

/-! The same on 64 bits. -/
def revBytesB (x : BitVec 64) : BitVec 64 :=
  let x := (x >>> 8 &&& 71777214294589695#64) ||| ((x &&& 71777214294589695#64) <<< 8)
  let x := (x >>> 16 &&& 281470681808895#64) ||| ((x &&& 281470681808895#64) <<< 16)
  (x >>> 32) ||| (x <<< 32)
def revB (x : BitVec 64) : BitVec 64 :=
  let x := (x >>> 1 &&& 6148914691236517205#64) ||| ((x &&& 6148914691236517205#64) <<< 1)
  let x := (x >>> 2 &&& 3689348814741910323#64) ||| ((x &&& 3689348814741910323#64) <<< 2)
  let x := (x >>> 4 &&& 1085102592571150095#64) ||| ((x &&& 1085102592571150095#64) <<< 4)
  revBytesB x
def linB (o pos mask : BitVec 64) : BitVec 64 := ((o &&& mask) - 2#64 * pos ^^^ revB (revB (o &&& mask) - 2#64 * revB pos)) &&& mask

theorem revB_toNat (x : BitVec 64) : (revB x).toNat = rev64 x.toNat := by
  simp only [revB, revBytesB, rev64, BitVec.toNat_or, BitVec.toNat_and, BitVec.toNat_ushiftRight, BitVec.toNat_shiftLeft]
  rfl
theorem linB_toNat (o pos mask : BitVec 64) : (linB o pos mask).toNat = lin o.toNat pos.toNat mask.toNat := by
  simp only [linB, lin, sub64, BitVec.toNat_xor, BitVec.toNat_and, revB_toNat, BitVec.toNat_sub, BitVec.toNat_mul]
  rfl

/-! Laying the bits of k at some places, and taking them. -/
def dep : List Nat → Nat → Nat
  | [], _ => 0
  | p :: L, k => (if k % 2 = 1 then 2 ^ p else 0) ||| dep L (k / 2)
def ext : List Nat → Nat → Nat
  | [], _ => 0
  | p :: L, o => (if o.testBit p then 1 else 0) + 2 * ext L o
def maskOf : List Nat → Nat
  | [] => 0
  | p :: L => 2 ^ p ||| maskOf L

theorem ext_lt (L : List Nat) (o : Nat) : ext L o < 2 ^ L.length := by
  induction L with
  | nil => simp [ext]
  | cons p L ih => simp only [ext, List.length_cons, Nat.pow_succ]; split <;> omega

theorem and_pow (o p : Nat) : o &&& 2 ^ p = if o.testBit p then 2 ^ p else 0 := by
  apply Nat.eq_of_testBit_eq
  intro i
  rw [Nat.testBit_and, Nat.testBit_two_pow]
  by_cases h : p = i
  · subst h; by_cases hb : o.testBit p <;> simp [hb, Nat.testBit_two_pow_self]
  · by_cases hb : o.testBit p <;> simp [hb, h]

theorem dep_ext (L : List Nat) (o : Nat) : dep L (ext L o) = o &&& maskOf L := by
  induction L with
  | nil => simp [dep, maskOf]
  | cons p L ih =>
    have h2 : ext (p :: L) o / 2 = ext L o := by simp only [ext]; split <;> omega
    have h1 : ext (p :: L) o % 2 = 1 ↔ o.testBit p = true := by simp only [ext]; split <;> simp_all <;> omega
    simp only [dep, maskOf, h2, ih, Nat.and_or_distrib_left, and_pow]
    congr 1
    by_cases hb : o.testBit p = true
    · rw [if_pos (h1.2 hb), if_pos hb]
    · rw [if_neg (fun h => hb (h1.1 h)), if_neg hb]

theorem maskOf_testBit (L : List Nat) (i : Nat) : (maskOf L).testBit i = decide (i ∈ L) := by
  induction L with
  | nil => simp [maskOf]
  | cons p L ih =>
    rw [maskOf, Nat.testBit_or, ih, Nat.testBit_two_pow]
    by_cases h : p = i
    · simp [h]
    · have h' : ¬ i = p := fun e => h e.symm
      simp [h, h']

theorem orBits_append (a b : List Nat) : orBits (a ++ b) = orBits a ||| orBits b := by
  induction a with
  | nil => simp [orBits]
  | cons s a ih => simp [orBits, ih, Nat.or_assoc]

theorem upTo_congr {f g : Nat → Bool} : ∀ {l : List Nat}, (∀ s ∈ l, f s = g s) → upTo f l = upTo g l
  | [], _ => rfl
  | s :: l, h => by
    simp only [upTo]
    rw [h s (by simp), upTo_congr (l := l) fun t ht => h t (by simp [ht])]

theorem lin_mask (o pos mask : Nat) : lin o pos mask = lin (o &&& mask) pos mask := by
  simp [lin, Nat.and_assoc, Nat.and_self]

/-- f holds below n. -/
def allBelow : Nat → (Nat → Bool) → Bool
  | 0, _ => true
  | n + 1, f => f n && allBelow n f
theorem allBelow_of {f : Nat → Bool} : ∀ {n : Nat}, allBelow n f = true → ∀ k, k < n → f k = true
  | 0, _, k, hk => by omega
  | n + 1, h, k, hk => by
    simp only [allBelow, Bool.and_eq_true] at h
    by_cases e : k = n
    · subst e; exact h.1
    · exact allBelow_of h.2 k (by omega)

/-- One line of a square: two ways, and the mask. -/
def lineOk (s : Nat) (a b : Int × Int) (mask : Nat) : Bool :=
  let r1 := ray s a.1 a.2
  let r2 := ray s b.1 b.2
  let L := (s :: (r1 ++ r2)).map (63 - ·)
  maskOf L == mask && allBelow (2 ^ L.length) fun k =>
    let y := dep L k
    lin y (bit s) mask == orBits (upTo (occ y) r1) ||| orBits (upTo (occ y) r2)

theorem lin_of_lineOk {s : Nat} {a b : Int × Int} {mask : Nat} (h : lineOk s a b mask = true) (o : Nat) :
    lin o (bit s) mask = orBits (upTo (occ o) (ray s a.1 a.2)) ||| orBits (upTo (occ o) (ray s b.1 b.2)) := by
  simp only [lineOk, Bool.and_eq_true, beq_iff_eq] at h
  obtain ⟨hm, h⟩ := h
  have hk := allBelow_of h _ (ext_lt _ o)
  simp only [beq_iff_eq, dep_ext, hm] at hk
  rw [lin_mask, hk]
  have hin : ∀ t ∈ ray s a.1 a.2 ++ ray s b.1 b.2, occ (o &&& mask) t = occ o t := by
    intro t ht
    have : (maskOf ((s :: (ray s a.1 a.2 ++ ray s b.1 b.2)).map (63 - ·))).testBit (63 - t) = true := by
      rw [maskOf_testBit]
      simp only [decide_eq_true_eq, List.mem_map]
      exact ⟨t, by simp only [List.mem_cons]; exact Or.inr ht, rfl⟩
    rw [hm] at this
    simp [occ, Nat.testBit_and, this]
  rw [upTo_congr (l := ray s a.1 a.2) fun t ht => hin t (by simp [ht]), upTo_congr (l := ray s b.1 b.2) fun t ht => hin t (by simp [ht])]

def files : List Nat := [9259542123273814144, 4629771061636907072, 2314885530818453536, 1157442765409226768, 578721382704613384, 289360691352306692, 144680345676153346, 72340172838076673]
def ranks : List Nat := [18374686479671623680, 71776119061217280, 280375465082880, 1095216660480, 4278190080, 16711680, 65280, 255]
def diagonals : List Nat := [9241421688590303745, 4620710844295151872, 2310355422147575808, 1155177711073755136, 577588855528488960, 288794425616760832, 144396663052566528, 72057594037927936, 36099303471055874, 9241421688590303745, 4620710844295151872, 2310355422147575808, 1155177711073755136, 577588855528488960, 288794425616760832, 144396663052566528, 141012904183812, 36099303471055874, 9241421688590303745, 4620710844295151872, 2310355422147575808, 1155177711073755136, 577588855528488960, 288794425616760832, 550831656968, 141012904183812, 36099303471055874, 9241421688590303745, 4620710844295151872, 2310355422147575808, 1155177711073755136, 577588855528488960, 2151686160, 550831656968, 141012904183812, 36099303471055874, 9241421688590303745, 4620710844295151872, 2310355422147575808, 1155177711073755136, 8405024, 2151686160, 550831656968, 141012904183812, 36099303471055874, 9241421688590303745, 4620710844295151872, 2310355422147575808, 32832, 8405024, 2151686160, 550831656968, 141012904183812, 36099303471055874, 9241421688590303745, 4620710844295151872, 128, 32832, 8405024, 2151686160, 550831656968, 141012904183812, 36099303471055874, 9241421688590303745]
def antiDiagonals : List Nat := [9223372036854775808, 4647714815446351872, 2323998145211531264, 1161999622361579520, 580999813328273408, 290499906672525312, 145249953336295424, 72624976668147840, 4647714815446351872, 2323998145211531264, 1161999622361579520, 580999813328273408, 290499906672525312, 145249953336295424, 72624976668147840, 283691315109952, 2323998145211531264, 1161999622361579520, 580999813328273408, 290499906672525312, 145249953336295424, 72624976668147840, 283691315109952, 1108169199648, 1161999622361579520, 580999813328273408, 290499906672525312, 145249953336295424, 72624976668147840, 283691315109952, 1108169199648, 4328785936, 580999813328273408, 290499906672525312, 145249953336295424, 72624976668147840, 283691315109952, 1108169199648, 4328785936, 16909320, 290499906672525312, 145249953336295424, 72624976668147840, 283691315109952, 1108169199648, 4328785936, 16909320, 66052, 145249953336295424, 72624976668147840, 283691315109952, 1108169199648, 4328785936, 16909320, 66052, 258, 72624976668147840, 283691315109952, 1108169199648, 4328785936, 16909320, 66052, 258, 1]

end Go.Proofs.YthdbgjhonnogpaaDoor.Plain
