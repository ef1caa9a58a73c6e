/- Texts out of their bytes: how the walk reads them. -/
import Derived.Test.YtlcdhahnngfjhaaDoorRowsK
import Derived.PlainAid
namespace Go.Proofs.YtlcdhahnngfjhaaDoor
open Go.ChangeShapes Go.WideShapes Go.ChangeAt Go.RowKit Go.PlainAid
def tx (l : List UInt8) : ByteArray := ⟨l.toArray⟩
theorem tx_toList (s : ByteArray) : tx s.data.toList = s := rfl
theorem tx_size (l : List UInt8) : (tx l).size = l.length := rfl
theorem tx_list (l : List UInt8) : (tx l).toList = l := ByteArray.toList_eq _
theorem tx_inj {a b : List UInt8} (h : tx a = tx b) : a = b := by
  have := congrArg (fun s => s.data.toList) h
  exact this
theorem bt_tx (l : List UInt8) (k : Nat) : bt (tx l) k = ((l.getD k 0).toNat : Int) := by
  unfold bt
  by_cases h : k < l.length
  · rw [dif_pos (show k < (tx l).size from h)]
    rw [List.getD_eq_getElem?_getD, List.getElem?_eq_getElem h, Option.getD_some]
    rfl
  · rw [dif_neg (show ¬ k < (tx l).size from h)]
    simp [List.getD_eq_getElem?_getD, List.getElem?_eq_none (Nat.le_of_not_lt h)]
theorem tx_extract (l : List UInt8) (a b : Nat) : (tx l).extract a b = tx ((l.take b).drop a) := by
  apply ByteArray.ext
  rw [ByteArray.data_extract]
  show l.toArray.extract a b = ((l.take b).drop a).toArray
  rw [List.extract_toArray, List.extract_eq_drop_take', List.drop_take]
theorem tx_app (a b : List UInt8) : tx a ++ tx b = tx (a ++ b) := by
  apply ByteArray.ext
  show (tx a ++ tx b).data = (a ++ b).toArray
  rw [ByteArray.data_append]
  simp [tx]
/-- The bytes from a place on to another one. -/
def mid (l : List UInt8) (a b : Nat) : List UInt8 := (l.take b).drop a
theorem slice_mid (R : List UInt8) (a k : Nat) (ha : a ≤ k) (hk : k ≤ R.length) (w : World) : (Instr.slice 9 (.string (tx R)) (some (.int .i64 (a : Int))) (some (.int .i64 (k : Int))) none).run Tryd.prog w = .ok (.string (tx (mid R a k))) w := by
  rw [run_slice_string w _ _ _ _ _ _ Tryd.underlying9 (by omega) (by omega) (by rw [tx_size]; omega), Int.toNat_natCast, Int.toNat_natCast, tx_extract]; rfl
end Go.Proofs.YtlcdhahnngfjhaaDoor
