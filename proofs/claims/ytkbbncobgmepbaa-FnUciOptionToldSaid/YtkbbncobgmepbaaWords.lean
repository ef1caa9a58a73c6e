/- Words between blanks: the plain law of cutting at blanks, and the contracts of both cutters. -/
import Derived.Test.YtkbbncobgmepbaaRowsK
import Derived.Lib.Join
import Derived.PlainAid
namespace Go.Proofs.Ytkbbncobgmepbaa
open Go.ChangeShapes Go.WideShapes Go.ChangeAt Go.RowKit Go.PlainAid
set_option maxHeartbeats 1000000
set_option linter.unusedVariables false
set_option linter.unusedSimpArgs false

/-- The text of some bytes. -/
def tx (l : List UInt8) : ByteArray := ⟨l.toArray⟩
theorem tx_toList (s : ByteArray) : tx s.data.toList = s := rfl
theorem toList_tx (l : List UInt8) : (tx l).data.toList = l := rfl
theorem tx_size (l : List UInt8) : (tx l).size = l.length := rfl
theorem tx_inj {a b : List UInt8} (h : tx a = tx b) : a = b := by
  have := congrArg (fun s => s.data.toList) h
  exact this
theorem bt_tx (l : List UInt8) (k : Nat) : bt (tx l) k = ((l.getD k 0).toNat : Int) := by
  unfold bt
  by_cases h : k < l.length
  · rw [dif_pos (show k < (tx l).size from h)]
    rw [List.getD_eq_getElem?_getD, List.getElem?_eq_getElem h, Option.getD_some]
    rfl
  · rw [dif_neg (show ¬ k < (tx l).size from h)]
    simp [List.getD_eq_getElem?_getD, List.getElem?_eq_none (Nat.le_of_not_lt h)]
theorem tx_extract (l : List UInt8) (a b : Nat) : (tx l).extract a b = tx ((l.take b).drop a) := by
  apply ByteArray.ext
  rw [ByteArray.data_extract]
  show l.toArray.extract a b = ((l.take b).drop a).toArray
  rw [List.extract_toArray, List.extract_eq_drop_take', List.drop_take]
  
theorem tx_list (l : List UInt8) : (tx l).toList = l := ByteArray.toList_eq _
attribute [local go_sem] tx_list tx_size
/-- The words of a text: what stands between its blanks. -/
def splitB : List UInt8 → List (List UInt8)
  | [] => [[]]
  | c :: t => if c = 32 then [] :: splitB t else match splitB t with
    | [] => [[c]]
    | x :: r => (c :: x) :: r
def NoB (a : List UInt8) : Prop := ∀ x ∈ a, x ≠ 32
theorem splitB_ne : ∀ l, ∃ x r, splitB l = x :: r
  | [] => ⟨[], [], rfl⟩
  | c :: t => by
    obtain ⟨x, r, h⟩ := splitB_ne t
    unfold splitB
    split
    · exact ⟨_, _, rfl⟩
    · rw [h]; exact ⟨_, _, rfl⟩
theorem splitB_app : ∀ (a b : List UInt8), NoB a → splitB (a ++ 32 :: b) = a :: splitB b
  | [], b, _ => by simp [splitB]
  | c :: a, b, h => by
    have ih := splitB_app a b fun x hx => h x (by simp [hx])
    have hc : c ≠ 32 := h c (by simp)
    rw [List.cons_append]
    conv => lhs; unfold splitB
    rw [if_neg hc, ih]
theorem splitB_last : ∀ (a : List UInt8), NoB a → splitB a = [a]
  | [], _ => rfl
  | c :: a, h => by
    have ih := splitB_last a fun x hx => h x (by simp [hx])
    have hc : c ≠ 32 := h c (by simp)
    unfold splitB
    rw [if_neg hc, ih]
theorem splitB_len : ∀ l, (splitB l).length ≤ l.length + 1
  | [] => by simp [splitB]
  | c :: t => by
    have ih := splitB_len t
    obtain ⟨x, r, h⟩ := splitB_ne t
    unfold splitB
    split
    · simp; omega
    · rw [h] at ih ⊢; simp at ih ⊢; omega
theorem join_splitB : ∀ l, Lib.join (splitB l) [32] = l
  | [] => rfl
  | c :: t => by
    have ih := join_splitB t
    obtain ⟨x, r, h⟩ := splitB_ne t
    unfold splitB
    rw [h] at ih ⊢
    rw [Lib.join_cons] at ih
    split
    · rename_i hc
      subst hc
      rw [Lib.join_cons]
      simp only [Lib.joinTail, List.map_cons, List.flatten_cons, List.nil_append] at ih ⊢
      rw [List.append_assoc, ih]; rfl
    · rw [Lib.join_cons, List.cons_append, ih]
/-- Where the first blank is. -/
def noBlank (l : List UInt8) : Bool := l.all fun x => x != 32
theorem noBlank_iff (l : List UInt8) : noBlank l = true ↔ NoB l := by simp [noBlank, NoB]
theorem first_blank {l : List UInt8} {k : Nat} (hk : k < l.length) (h : NoB (l.take k)) (hc : l.getD k 0 = 32) : l = l.take k ++ 32 :: l.drop (k + 1) := by
  have e : l[k] = 32 := by simpa [List.getD_eq_getElem?_getD, List.getElem?_eq_getElem hk] using hc
  rw [← e, ← List.drop_eq_getElem_cons hk, List.take_append_drop]
theorem noB_succ {l : List UInt8} {k : Nat} (hk : k < l.length) (h : NoB (l.take k)) (hc : l.getD k 0 ≠ 32) : NoB (l.take (k + 1)) := by
  have e : l[k] ≠ 32 := by simpa [List.getD_eq_getElem?_getD, List.getElem?_eq_getElem hk] using hc
  rw [List.take_add_one, List.getElem?_eq_getElem hk]
  intro x hx
  rcases List.mem_append.1 hx with hx | hx
  · exact h x hx
  · simp at hx; subst hx; exact e

theorem one_eq {l : List UInt8} {k : Nat} (hk : k < l.length) : (tx l).extract k (k + 1) = tx [l.getD k 0] := by
  rw [tx_extract]
  have : (l.take (k + 1)).drop k = [l.getD k 0] := by
    rw [List.take_add_one, List.getElem?_eq_getElem hk, List.drop_append_of_le_length (by rw [List.length_take]; omega), List.drop_eq_nil_of_le (by rw [List.length_take]; omega)]
    simp [List.getD_eq_getElem?_getD, List.getElem?_eq_getElem hk]
  rw [this]
/-- The index of the first blank, -1 without one. -/
def IdxPost (l : List UInt8) (e : Ending) : Prop :=
  (NoB l ∧ e = .returned (.int .i64 (-1))) ∨ ∃ k, k < l.length ∧ NoB (l.take k) ∧ l.getD k 0 = 32 ∧ e = .returned (.int .i64 k)
theorem zzIndex_any (l : List UInt8) (hl : l.length ≤ 1000000) (w : World) :
    Calls Try.prog 22 #[.string (tx l), .string ⟨#[32]⟩] w fun e w' => IdxPost l e ∧ w' = w := by
  have hsz : (tx l).size = l.length := rfl
  go_enter Try.func22, Try.ntmps22
  go_wp2
  go_loopw [5] (fun i wr => ∃ k : Nat, k ≤ l.length ∧ i = .int .i64 k ∧ NoB (l.take k) ∧ w = wr) (fun i _ => l.length - (intOf i).toNat)
  case atStart => exact ⟨0, by omega, rfl, by simp [NoB], rfl⟩
  case round =>
    obtain ⟨k, hk, rfl, hn, rfl⟩ := hrel
    by_cases hlt : k < l.length
    · have h1 := one_eq hlt
      have hsl : ∀ w, (Instr.slice 9 (.string (tx l)) (some (.int .i64 (k : Int))) (some (.int .i64 ((k : Int) + 1))) none).run Try.prog w = .ok (.string (tx [l.getD k 0])) w := fun w => by
        rw [run_slice_string w _ _ _ _ _ _ Try.underlying9 (by omega) (by omega) (by rw [hsz]; omega), ← h1]
        rfl
      clear h1
      by_cases hc : l.getD k 0 = 32
      · have hce : (l.getD k 0 == 32) = true := by simpa using hc
        have hfin : IdxPost l (.returned (.int .i64 k)) := .inr ⟨k, hlt, hn, hc, rfl⟩
        replace hfin := Lib.hid hfin
        clear hc
        generalize l.getD k 0 = c at *
        go_wp2
        go_ret
        exact ⟨hfin.out, rfl⟩
      · have hce : (l.getD k 0 == 32) = false := by simpa using hc
        have hn' := Lib.hid (noB_succ hlt hn hc)
        clear hc hn
        generalize l.getD k 0 = c at *
        go_wp2
        exact ⟨⟨k + 1, by omega, by go_num, hn'.out, trivial⟩, by simp [intOf]; omega⟩
    · obtain rfl : k = l.length := by omega
      rw [List.take_length] at hn
      go_wp2
      go_ret
      exact ⟨.inl ⟨hn, rfl⟩, rfl⟩
theorem infoStr : (Try.prog.info? 9).map (fun i => (i.zero, i.size, i.bytes)) = some (some (.string ByteArray.empty), 1, 16) := by kernel_rfl
def strs (l : List (List UInt8)) : List Value := l.map fun x => .string (tx x)
theorem one_str (x : ByteArray) : ∀ u ∈ [Value.string x], u.oneCell' = true := by simp [Value.oneCell']
theorem app_strs {w : World} {B : Nat} {v : Value} {l : List (List UInt8)} {x : List UInt8} (h : w.ownsRow B 9 1 v (l.length + 1) (strs l ++ [.string (tx x)])) : w.ownsRow B 9 1 v (l ++ [x]).length (strs (l ++ [x])) := by
  simpa [strs] using h
/-- A text's words lie in a slice of the call's own. -/
def WordsPost (L : List UInt8) (w : World) (e : Ending) (w' : World) : Prop :=
  (∃ v, e = .returned v ∧ w'.ownsRow w.heap.size 9 1 v (splitB L).length (strs (splitB L))) ∧ Below w.heap.size w w'
theorem take_blank {l : List UInt8} {k : Nat} (hk : k < l.length) (h : NoB (l.take k)) (hc : l.getD k 0 = 32) : splitB l = l.take k :: splitB (l.drop (k + 1)) := by
  conv => lhs; rw [first_blank hk h hc]
  exact splitB_app _ _ h
theorem extract_take (l : List UInt8) (k : Nat) : (tx l).extract 0 k = tx (l.take k) := by rw [tx_extract]; rfl
theorem extract_drop (l : List UInt8) (k : Nat) : (tx l).extract k (tx l).size = tx (l.drop k) := by rw [tx_extract, tx_size, List.take_length]
theorem slice_to (R : List UInt8) (k : Nat) (hk : k ≤ R.length) (w : World) : (Instr.slice 9 (.string (tx R)) none (some (.int .i64 (k : Int))) none).run Try.prog w = .ok (.string (tx (R.take k))) w := by
  rw [run_slice_string_to_if w _ _ _ _ Try.underlying9, if_pos ⟨by omega, by rw [tx_size]; omega⟩, Int.toNat_natCast, extract_take]
theorem slice_from (R : List UInt8) (k : Nat) (i : Int) (hi : i = k) (hk : k ≤ R.length) (w : World) : (Instr.slice 9 (.string (tx R)) (some (.int .i64 i)) none none).run Try.prog w = .ok (.string (tx (R.drop k))) w := by
  subst hi
  rw [run_slice_string_from_if w _ _ _ _ Try.underlying9, if_pos ⟨by omega, by rw [tx_size]; omega⟩, Int.toNat_natCast, extract_drop]
theorem zzSplit_any (L : List UInt8) (hL : L.length ≤ 1000000) (w : World) :
    Calls Try.prog 18 #[.string (tx L), .string ⟨#[32]⟩] w fun e w' => WordsPost L w e w' := by
  go_enter Try.func18, Try.ntmps18
  go_wp2
  go_loopw [0, 5, 8] (fun s out _ wr => ∃ (R : List UInt8) (Q : List (List UInt8)), s = .string (tx R) ∧ splitB L = Q ++ splitB R ∧ Q.length + R.length ≤ L.length ∧ wr.ownsRow w.heap.size 9 1 out Q.length (strs Q) ∧ Below w.heap.size w wr) (fun s _ _ _ => match s with | .string b => b.size | _ => 0)
  case atStart => exact ⟨L, [], rfl, rfl, by simp, World.ownsRow_nil _ _ _ _, Below.refl _ _⟩
  case round =>
    obtain ⟨R, Q, rfl, hspl, hlen, hown, hb⟩ := hrel
    have hRL : R.length ≤ 1000000 := by omega
    by_cases hn : noBlank R = true
    · have hn' := (noBlank_iff R).1 hn
      have hix : ∀ w, Calls Try.prog 22 #[.string (tx R), .string ⟨#[32]⟩] w fun e w' => e = .returned (.int .i64 (-1)) ∧ w' = w := fun w => (zzIndex_any R hRL w).mono fun e w' h => ⟨h.1.elim (fun h => h.2) (fun ⟨k, hk, hnk, hc, _⟩ => absurd hc (by
        rw [List.getD_eq_getElem?_getD, List.getElem?_eq_getElem hk, Option.getD_some]
        exact hn' _ (List.getElem_mem hk))), h.2⟩
      have hfin : splitB L = Q ++ [R] := by rw [hspl, splitB_last R hn']
      replace hix := Lib.hid hix
      replace hfin := Lib.hid hfin
      clear hspl hn hn'
      go_wp2_with (first
        | (go_at_call 22; refine (hix.out _).mono ?_; rintro e w' ⟨rfl, rfl⟩)
        | (at_builtin; refine wpList_app rfl _ _ 22 rfl w.heap.size 9 (.string ByteArray.empty) 1 16 Try.underlying22 infoStr rfl (by decide) _ _ _ rfl hown hb (Nat.le_refl _) [.string (tx R)] (one_str _) rfl _ rfl rfl (by omega) (by decide) ?_; intro v' w2 hown2 hbo3 hnil; have hown3 := app_strs hown2; clear hown2 hnil hown hb))
      go_ret
      exact ⟨⟨_, rfl, by rw [hfin.out]; exact hown3⟩, hbo3⟩
    · have hix : ∀ w, Calls Try.prog 22 #[.string (tx R), .string ⟨#[32]⟩] w fun e w' => (∃ k, k < R.length ∧ NoB (R.take k) ∧ R.getD k 0 = 32 ∧ e = .returned (.int .i64 k)) ∧ w' = w := fun w => (zzIndex_any R hRL w).mono fun e w' h => ⟨h.1.elim (fun h => absurd ((noBlank_iff R).2 h.1) hn) (fun h => h), h.2⟩
      replace hix := Lib.hid hix
      replace hspl := Lib.hid hspl
      clear hn
      go_wp2_with (first
        | (go_at_call 22; go_loud (refine (hix.out _).mono ?_; rintro e w' ⟨⟨k, hk, hnk, hc, rfl⟩, rfl⟩; have hsA := slice_to R k (Nat.le_of_lt hk); have hsB := slice_from R (k + 1) ((k : Int) + 1) rfl hk; replace hc := Lib.hid hc; replace hnk := Lib.hid hnk))
        | (at_builtin; refine wpList_app rfl _ _ 22 rfl w.heap.size 9 (.string ByteArray.empty) 1 16 Try.underlying22 infoStr rfl (by decide) _ _ _ rfl hown hb (Nat.le_refl _) [.string (tx (R.take k))] (one_str _) rfl _ rfl rfl (by omega) (by decide) ?_; intro v' w2 hown2 hbo3 hnil; have hown3 := app_strs hown2; clear hown2 hnil hown hb))
      exact ⟨⟨R.drop (k + 1), Q ++ [R.take k], rfl, by rw [hspl.out, take_blank hk hnk.out hc.out]; simp, by simp; omega, hown3, hbo3⟩, by show (tx _).size < (tx _).size; rw [tx_size, tx_size, List.length_drop]; omega⟩
/-- What the reference's cutter knows behind k bytes. -/
def CutAt (L : List UInt8) (k fr : Nat) (Q : List (List UInt8)) : Prop :=
  (k ≤ L.length ∧ fr ≤ k ∧ splitB L = Q ++ splitB (L.drop fr) ∧ NoB ((L.drop fr).take (k - fr)) ∧ Q.length ≤ fr) ∨ (k = L.length + 1 ∧ Q = splitB L)
theorem slice_mid (R : List UInt8) (a k : Nat) (ha : a ≤ k) (hk : k ≤ R.length) (w : World) : (Instr.slice 9 (.string (tx R)) (some (.int .i64 (a : Int))) (some (.int .i64 (k : Int))) none).run Try.prog w = .ok (.string (tx ((R.drop a).take (k - a)))) w := by
  rw [run_slice_string w _ _ _ _ _ _ Try.underlying9 (by omega) (by omega) (by rw [tx_size]; omega), Int.toNat_natCast, Int.toNat_natCast, tx_extract, List.drop_take]
theorem uciWords_any (L : List UInt8) (hL : L.length ≤ 1000000) (w : World) :
    Calls Try.prog 15 #[.string (tx L)] w fun e w' => WordsPost L w e w' := by
  have hget := get_bt (tx L)
  go_enter Try.func15, Try.ntmps15
  go_wp2
  go_loopw [3, 4, 5] (fun out fr i wr => ∃ (k f : Nat) (Q : List (List UInt8)), k ≤ L.length + 1 ∧ i = .int .i64 k ∧ fr = .int .i64 f ∧ CutAt L k f Q ∧ wr.ownsRow w.heap.size 9 1 out Q.length (strs Q) ∧ Below w.heap.size w wr) (fun _ _ i _ => L.length + 1 - (intOf i).toNat)
  case atStart => exact ⟨0, 0, [], by omega, rfl, rfl, .inl ⟨by omega, by omega, rfl, by simp [NoB], by simp⟩, World.ownsRow_nil _ _ _ _, Below.refl _ _⟩
  case round =>
    obtain ⟨k, f, Q, hk, rfl, rfl, hcut, hown, hb⟩ := hrel
    rcases hcut with ⟨hkl, hfk, hspl, hn, hQ⟩ | ⟨rfl, rfl⟩
    · have hsl := slice_mid L f k hfk hkl
      have hf1 : (f : Int) + 0 = f := by omega
      by_cases hlt : k < L.length
      · have hke : (((k : Nat) : Int) == (L.length : Int)) = false := by simp; omega
        have hgk := hget k hlt
        rw [bt_tx] at hgk
        have hR : (L.drop f).getD (k - f) 0 = L.getD k 0 := by
          simp only [List.getD_eq_getElem?_getD, List.getElem?_drop]
          rw [show f + (k - f) = k by omega]
        have hRl : k - f < (L.drop f).length := by rw [List.length_drop]; omega
        have hrd : (L.drop f).drop (k - f + 1) = L.drop (k + 1) := by rw [List.drop_drop]; congr 1; omega
        clear hget
        by_cases hc : L.getD k 0 = 32
        · have hce : ((((L.getD k 0).toNat : Nat) : Int) == 32) = true := by rw [hc]; rfl
          have hcut' := Lib.hid (show CutAt L (k + 1) (k + 1) (Q ++ [(L.drop f).take (k - f)]) from .inl ⟨by omega, by omega, by rw [hspl, take_blank hRl hn (by rw [hR]; exact hc), hrd]; simp, by simp [NoB], by simp; omega⟩)
          clear hc hspl hn hR hRl hrd
          generalize (((L.getD k 0).toNat : Nat) : Int) = c at *
          generalize (L.drop f).take (k - f) = x at *
          go_wp2_with (at_builtin; refine wpList_app rfl _ _ 22 rfl w.heap.size 9 (.string ByteArray.empty) 1 16 Try.underlying22 infoStr rfl (by decide) _ _ _ rfl hown hb (Nat.le_refl _) [.string (tx x)] (one_str _) rfl _ rfl rfl (by omega) (by decide) ?_; intro v' w2 hown2 hbo3 hnil; have hown3 := app_strs hown2; clear hown2 hnil hown hb)
          go_roundw
          case rel => exact ⟨k + 1, k + 1, _, by omega, by go_num, by go_num, hcut'.out, hown3, hbo3⟩
          case measure => simp [intOf]; omega
        · have hce : ((((L.getD k 0).toNat : Nat) : Int) == 32) = false := by
            simp only [beq_eq_false_iff_ne]
            intro h
            apply hc
            apply UInt8.toNat_inj.1
            show (L.getD k 0).toNat = 32
            omega
          have hcut' := Lib.hid (show CutAt L (k + 1) f Q from .inl ⟨by omega, by omega, hspl, by rw [show k + 1 - f = k - f + 1 by omega]; exact noB_succ hRl hn (by rw [hR]; exact hc), hQ⟩)
          clear hc hspl hn hR hRl hrd
          generalize (((L.getD k 0).toNat : Nat) : Int) = c at *
          go_wp2
          go_roundw
          case rel => exact ⟨k + 1, f, _, by omega, by go_num, rfl, hcut'.out, hown, hb⟩
          case measure => simp [intOf]; omega
      · obtain rfl : k = L.length := by omega
        have hx : (L.drop f).take (L.length - f) = L.drop f := List.take_of_length_le (by rw [List.length_drop]; omega)
        rw [hx] at hn hsl
        have hcut' := Lib.hid (show CutAt L (L.length + 1) (L.length + 1) (Q ++ [L.drop f]) from .inr ⟨rfl, by rw [hspl, splitB_last _ hn]⟩)
        clear hspl hn hx hget
        generalize L.drop f = x at *
        go_wp2_with (at_builtin; refine wpList_app rfl _ _ 22 rfl w.heap.size 9 (.string ByteArray.empty) 1 16 Try.underlying22 infoStr rfl (by decide) _ _ _ rfl hown hb (Nat.le_refl _) [.string (tx x)] (one_str _) rfl _ rfl rfl (by omega) (by decide) ?_; intro v' w2 hown2 hbo3 hnil; have hown3 := app_strs hown2; clear hown2 hnil hown hb)
        go_roundw
        case rel => exact ⟨L.length + 1, L.length + 1, _, by omega, by go_num, by go_num, hcut'.out, hown3, hbo3⟩
        case measure => simp [intOf]
    · go_wp2
      go_ret
      exact ⟨⟨_, rfl, hown⟩, hb⟩
end Go.Proofs.Ytkbbncobgmepbaa
