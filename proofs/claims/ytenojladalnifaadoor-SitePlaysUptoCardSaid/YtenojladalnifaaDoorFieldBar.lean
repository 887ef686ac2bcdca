/- What field.barred and the reference's barred compute. No conditions. -/
import Derived.Test.YtenojladalnifaaDoorFieldMap
namespace Go.Proofs.YtenojladalnifaaDoor.Field
open Go.RowKit Go.Proofs.YtenojladalnifaaDoor.Arr

def fV (f : Fd) : Value := .agg #[.string f.name, .string f.value, .bool f.never]

theorem barred_eq (f : Fd) : barredB f = ((f.name.toList == [99, 111, 110, 110, 101, 99, 116, 105, 111, 110] || f.name.toList == [107, 101, 101, 112, 45, 97, 108, 105, 118, 101] || f.name.toList == [112, 114, 111, 120, 121, 45, 99, 111, 110, 110, 101, 99, 116, 105, 111, 110] || f.name.toList == [116, 114, 97, 110, 115, 102, 101, 114, 45, 101, 110, 99, 111, 100, 105, 110, 103] || f.name.toList == [117, 112, 103, 114, 97, 100, 101]) || (f.name.toList == [116, 101] && !(f.value.toList == [116, 114, 97, 105, 108, 101, 114, 115]))) := by
  rw [ByteArray.toList_eq, ByteArray.toList_eq]
  unfold barredB barNames
  simp only [List.contains_cons, List.contains_nil, Bool.or_false, Bool.or_assoc]


end Go.Proofs.YtenojladalnifaaDoor.Field
