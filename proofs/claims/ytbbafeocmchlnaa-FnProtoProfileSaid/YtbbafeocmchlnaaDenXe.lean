/- The library: contracts of functions over denoted values (X). -/
import Derived.Test.YtbbafeocmchlnaaDenXd
set_option linter.unusedVariables false
set_option linter.unusedSimpArgs false
set_option linter.unusedSectionVars false
set_option linter.unnecessarySimpa false
namespace Go.Den
open Go

/-- A text of these bytes. -/
def txt (l : List UInt8) : ByteArray := ⟨l.toArray⟩
@[simp] theorem txt_size (l : List UInt8) : (txt l).size = l.length := by simp [txt]
theorem txt_inj {a b : List UInt8} : txt a = txt b ↔ a = b := by simp [txt]
@[simp] theorem txt_eq (a b : List UInt8) : (txt a = txt b) = (a = b) := propext txt_inj
theorem txt_of (s : ByteArray) : s = txt s.data.toList := by cases s; simp [txt]
@[simp] theorem txt_eq_mk (a : List UInt8) (x : Array UInt8) : (txt a = ByteArray.mk x) = (a = x.toList) := by
  simp only [txt, eq_iff_iff]
  constructor
  · intro h
    have := congrArg (fun s : ByteArray => s.data.toList) h
    simpa using this
  · rintro rfl; simp
@[simp] theorem txt_extract (l : List UInt8) (a b : Nat) : (txt l).extract a b = txt ((l.take b).drop a) := by
  have h : ∀ {x y : ByteArray}, x.data.toList = y.data.toList → x = y := fun {x y} h => by cases x; cases y; simp at h; rw [h]
  apply h
  simp [txt, List.extract_eq_take_drop, List.drop_take]
@[simp] theorem txt_append (a b : List UInt8) : txt a ++ txt b = txt (a ++ b) := by
  have h : ∀ {x y : ByteArray}, x.data.toList = y.data.toList → x = y := fun {x y} h => by cases x; cases y; simp at h; rw [h]
  apply h
  simp [txt]
theorem mk_txt (x : Array UInt8) : ByteArray.mk x = txt x.toList := by simp [txt]

theorem txt_nil : txt [] = ⟨#[]⟩ := rfl
@[simp] theorem mk_append_txt (x : Array UInt8) (b : List UInt8) : ByteArray.mk x ++ txt b = txt (x.toList ++ b) := by rw [mk_txt, txt_append]
@[simp] theorem txt_append_mk (a : List UInt8) (x : Array UInt8) : txt a ++ ByteArray.mk x = txt (a ++ x.toList) := by rw [mk_txt, txt_append]
@[simp] theorem txt_data (l : List UInt8) : (txt l).data = l.toArray := rfl


end Go.Den
