import Derived.Test.Qxb6602560aScalerT
import Derived.Test.Qxb6602560aScalerP
import Derived.Test.Qxb6602560aTileMain
namespace Go.Proofs.Qxb6602560a
open Go.ChangeShapes Go.WideShapes Go.ChangeAt Go.RowKit

theorem scaler_said : ScalerSaid := by
  intro n h dw dh o st ap lp cp w hn1 hn hh1 hh hdw hdh sw sh hs
  rcases hs with ⟨ht, rfl, rfl⟩ | ⟨ht, rfl, rfl⟩
  · exact scaler_t n h _ _ o st ap lp cp w hn1 hn hh1 hh hdw hdh ht
  · exact scaler_p n h _ _ o st ap lp cp w hn1 hn hh1 hh hdw hdh ht
end Go.Proofs.Qxb6602560a
