import Derived.Test.Qxb6601931aBase
namespace Go.Proofs.Qxb6601931a
open Go.RowKit

theorem piece_l (x s y : ByteArray) : (x ++ s ++ y).extract 0 x.size = x := by
  rw [ByteArray.append_assoc]
  exact ByteArray.extract_append_eq_left rfl
theorem piece_m (x s y : ByteArray) : (x ++ s ++ y).extract x.size (x.size + s.size) = s := by
  rw [ByteArray.append_assoc, ByteArray.extract_append]
  rw [show x.size - x.size = 0 by omega, show x.size + s.size - x.size = s.size by omega, ByteArray.extract_append_eq_left rfl]
  rw [ByteArray.extract_eq_empty_iff.2 (by omega)]
  simp
theorem piece_r (x s y : ByteArray) (n : Nat) (h : n = (x ++ s ++ y).size) : (x ++ s ++ y).extract (x.size + s.size) n = y := by
  refine ByteArray.extract_append_eq_right (by simp) (by simp [h])
theorem bytes_eq {a b : ByteArray} (h : a.toList = b.toList) : a = b := by
  rw [ByteArray.toList_eq, ByteArray.toList_eq] at h
  exact Go.WideShapes.bytes_inj h

theorem ws_inj {a b : ByteArray} (h : ws a = ws b) : a = b := by
  have hs : a.size = b.size := by have := congrArg ByteArray.size h; rw [ws_size, ws_size] at this; omega
  have ea := piece_m preS a sufS
  have eb := piece_m preS b sufS
  rw [← ea, ← eb, hs]
  exact congrArg (fun r : ByteArray => r.extract preS.size (preS.size + b.size)) h

theorem ws_beq (a b : ByteArray) : ((ws a).toList == (ws b).toList) = (a.toList == b.toList) := by
  rw [Bool.eq_iff_iff]
  simp only [beq_iff_eq]
  exact ⟨fun h => by rw [ws_inj (bytes_eq h)], fun h => by rw [bytes_eq h]⟩

end Go.Proofs.Qxb6601931a
