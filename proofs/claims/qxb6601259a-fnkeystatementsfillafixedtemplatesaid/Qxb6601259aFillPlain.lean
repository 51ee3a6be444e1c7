/-
  PLAIN FACTS for 'FnKeyStatementsFillAFixedTemplate': no Go in sight.
-/
import Derived.Test.Qxb6601259aPlain
namespace Go.Proofs.Qxb6601259a
def E : ByteArray := ⟨#[]⟩
def A : ByteArray := ⟨#[97]⟩
def B : ByteArray := ⟨#[98]⟩

theorem lock_pre : (lockOf A).data.toList.take 97 = (lockOf B).data.toList.take 97 := by decide +kernel
theorem lock_ne : (lockOf A).data.toList[97]? ≠ (lockOf B).data.toList[97]? := by decide +kernel
theorem read_pre : (readOf A E).data.toList.take 80 = (readOf B E).data.toList.take 80 := by decide +kernel
theorem read_ne : (readOf A E).data.toList[80]? ≠ (readOf B E).data.toList[80]? := by decide +kernel
theorem req_pre : (readOf E A).data.toList.take 17 = (readOf E B).data.toList.take 17 := by decide +kernel
theorem req_ne : (readOf E A).data.toList[17]? ≠ (readOf E B).data.toList[17]? := by decide +kernel
theorem lock96 : (lockOf E).data.toList[96]? = some 40 := by decide +kernel
theorem lock97 : (lockOf E).data.toList[97]? = some 41 := by decide +kernel
theorem read79 : (readOf E E).data.toList[79]? = some 40 := by decide +kernel
theorem read80 : (readOf E E).data.toList[80]? = some 41 := by decide +kernel
theorem at_of {s : ByteArray} {k : Nat} {x : UInt8} (h : s.data.toList[k]? = some x) (hk : k < s.size) : s[k] = x := by
  rw [at_toList s k hk] at h; exact Option.some.inj h
theorem cutL1 : (lockOf E).extract 0 97 = L1 := by decide +kernel
theorem cutL2 : (lockOf E).extract 97 113 = L2 := by decide +kernel
theorem cutR1 : (readOf E E).extract 0 17 = R1 := by decide +kernel
theorem cutR2 : (readOf E E).extract 17 80 = R2 := by decide +kernel
theorem cutR3 : (readOf E E).extract 80 106 = R3 := by decide +kernel
theorem fill_lock (c : ByteArray) : (lockOf E).extract 0 97 ++ c ++ (lockOf E).extract 97 113 = lockOf c := by
  rw [cutL1, cutL2]; rfl
theorem fill_read (c r : ByteArray) : (readOf E E).extract 0 17 ++ r ++ (readOf E E).extract 17 80 ++ c ++ (readOf E E).extract 80 106 = readOf c r := by
  rw [cutR1, cutR2, cutR3]; rfl
end Go.Proofs.Qxb6601259a
