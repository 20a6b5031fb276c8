/-
  LawS4660AOrder: the law, cut.
-/
import Derived.Test.YbulkcrmgFin
namespace Go.Proofs.Ybulkcrmg
open Go.RowKit
namespace Order
open Kit
noncomputable def law5 : Code := (Yba.f3.body.bind (fromR 5)).getD .skip
noncomputable def law9 : Code := (Yba.f3.body.bind (fromR 9)).getD .skip
noncomputable def law15 : Code := (Yba.f3.body.bind (fromR 15)).getD .skip
noncomputable def law21 : Code := (Yba.f3.body.bind (fromR 21)).getD .skip
noncomputable def law26 : Code := (Yba.f3.body.bind (fromR 26)).getD .skip
noncomputable def law29 : Code := (Yba.f3.body.bind (fromR 29)).getD .skip
noncomputable def law38 : Code := (Yba.f3.body.bind (fromR 38)).getD .skip
noncomputable def law46 : Code := (Yba.f3.body.bind (fromR 46)).getD .skip
noncomputable def law50 : Code := (Yba.f3.body.bind (fromR 50)).getD .skip
noncomputable def law56 : Code := (Yba.f3.body.bind (fromR 56)).getD .skip
noncomputable def law58 : Code := (Yba.f3.body.bind (fromR 58)).getD .skip
noncomputable def law62 : Code := (Yba.f3.body.bind (fromR 62)).getD .skip
noncomputable def law68 : Code := (Yba.f3.body.bind (fromR 68)).getD .skip
noncomputable def law70 : Code := (Yba.f3.body.bind (fromR 70)).getD .skip
noncomputable def law75 : Code := (Yba.f3.body.bind (fromR 75)).getD .skip
noncomputable def law80 : Code := (Yba.f3.body.bind (fromR 80)).getD .skip
noncomputable def law84 : Code := (Yba.f3.body.bind (fromR 84)).getD .skip
noncomputable def law105 : Code := (Yba.f3.body.bind (fromR 105)).getD .skip
noncomputable def law109 : Code := (Yba.f3.body.bind (fromR 109)).getD .skip
end Order
end Go.Proofs.Ybulkcrmg
