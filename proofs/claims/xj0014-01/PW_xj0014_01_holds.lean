import PyProof.Rows.All
import Wide.All
import OpenK.AllK
import Wide.FinOn
import Lean
import PySem.Challenge.RW_xj0014_01
open PySem PySem.W PyProof.Rows
set_option Elab.async false
set_option maxRecDepth 100000
set_option maxHeartbeats 8000000
set_option linter.unusedVariables false
namespace Mine
section
local macro_rules | `(tactic| o_head $_f) => `(tactic| refine (fun (_ : True) h => h) ?hw ?_)
local macro_rules | `(tactic| w_witness2) => `(tactic| trivial)
open_top hd for PySem.Challenge.rw_xj0014_01
end
noncomputable def cO2 (P : Params) : Obj := by
  refine (?f : ∀ o : Obj, (hd.heap_39 P)[0]? = some (2, o) → Obj) _ rfl
  exact fun o _ => o
noncomputable def cO3 (P : Params) : Obj := by
  refine (?f : ∀ o : Obj, (hd.heap_39 P)[1]? = some (3, o) → Obj) _ rfl
  exact fun o _ => o
noncomputable def cO15 (P : Params) : Obj := by
  refine (?f : ∀ o : Obj, (hd.heap_39 P)[2]? = some (15, o) → Obj) _ rfl
  exact fun o _ => o
noncomputable def cO17 (P : Params) : Obj := by
  refine (?f : ∀ o : Obj, (hd.heap_39 P)[3]? = some (17, o) → Obj) _ rfl
  exact fun o _ => o
noncomputable def cO18 (P : Params) : Obj := by
  refine (?f : ∀ o : Obj, (hd.heap_39 P)[4]? = some (18, o) → Obj) _ rfl
  exact fun o _ => o
noncomputable def cO20 (P : Params) : Obj := by
  refine (?f : ∀ o : Obj, (hd.heap_39 P)[5]? = some (20, o) → Obj) _ rfl
  exact fun o _ => o
noncomputable def cO21 (P : Params) : Obj := by
  refine (?f : ∀ o : Obj, (hd.heap_39 P)[6]? = some (21, o) → Obj) _ rfl
  exact fun o _ => o
noncomputable def cO22 (P : Params) : Obj := by
  refine (?f : ∀ o : Obj, (hd.heap_39 P)[7]? = some (22, o) → Obj) _ rfl
  exact fun o _ => o
noncomputable def cO24 (P : Params) : Obj := by
  refine (?f : ∀ o : Obj, (hd.heap_39 P)[8]? = some (24, o) → Obj) _ rfl
  exact fun o _ => o
noncomputable def cO25 (P : Params) : Obj := by
  refine (?f : ∀ o : Obj, (hd.heap_39 P)[9]? = some (25, o) → Obj) _ rfl
  exact fun o _ => o
noncomputable def cO27 (P : Params) : Obj := by
  refine (?f : ∀ o : Obj, (hd.heap_39 P)[10]? = some (27, o) → Obj) _ rfl
  exact fun o _ => o
noncomputable def cO28 (P : Params) : Obj := by
  refine (?f : ∀ o : Obj, (hd.heap_39 P)[11]? = some (28, o) → Obj) _ rfl
  exact fun o _ => o
noncomputable def cO29 (P : Params) : Obj := by
  refine (?f : ∀ o : Obj, (hd.heap_39 P)[12]? = some (29, o) → Obj) _ rfl
  exact fun o _ => o
noncomputable def cO31 (P : Params) : Obj := by
  refine (?f : ∀ o : Obj, (hd.heap_39 P)[13]? = some (31, o) → Obj) _ rfl
  exact fun o _ => o
noncomputable def cO32 (P : Params) : Obj := by
  refine (?f : ∀ o : Obj, (hd.heap_39 P)[14]? = some (32, o) → Obj) _ rfl
  exact fun o _ => o
noncomputable def cO34 (P : Params) : Obj := by
  refine (?f : ∀ o : Obj, (hd.heap_39 P)[15]? = some (34, o) → Obj) _ rfl
  exact fun o _ => o
noncomputable def cO35 (P : Params) : Obj := by
  refine (?f : ∀ o : Obj, (hd.heap_39 P)[16]? = some (35, o) → Obj) _ rfl
  exact fun o _ => o
noncomputable def cO36 (P : Params) : Obj := by
  refine (?f : ∀ o : Obj, (hd.heap_39 P)[17]? = some (36, o) → Obj) _ rfl
  exact fun o _ => o
noncomputable def cO39 (P : Params) : Obj := by
  refine (?f : ∀ o : Obj, (hd.heap_39 P)[18]? = some (39, o) → Obj) _ rfl
  exact fun o _ => o
noncomputable def cO44 (P : Params) : Obj := by
  refine (?f : ∀ o : Obj, (hd.heap_39 P)[19]? = some (44, o) → Obj) _ rfl
  exact fun o _ => o
noncomputable def cO45 (P : Params) : Obj := by
  refine (?f : ∀ o : Obj, (hd.heap_39 P)[20]? = some (45, o) → Obj) _ rfl
  exact fun o _ => o
noncomputable def cO46 (P : Params) : Obj := by
  refine (?f : ∀ o : Obj, (hd.heap_39 P)[21]? = some (46, o) → Obj) _ rfl
  exact fun o _ => o
noncomputable def cO48 (P : Params) : Obj := by
  refine (?f : ∀ o : Obj, (hd.heap_39 P)[22]? = some (48, o) → Obj) _ rfl
  exact fun o _ => o
noncomputable def cO49 (P : Params) : Obj := by
  refine (?f : ∀ o : Obj, (hd.heap_39 P)[23]? = some (49, o) → Obj) _ rfl
  exact fun o _ => o
noncomputable def cO51 (P : Params) : Obj := by
  refine (?f : ∀ o : Obj, (hd.heap_39 P)[24]? = some (51, o) → Obj) _ rfl
  exact fun o _ => o
noncomputable def cO52 (P : Params) : Obj := by
  refine (?f : ∀ o : Obj, (hd.heap_39 P)[25]? = some (52, o) → Obj) _ rfl
  exact fun o _ => o
noncomputable def cO53 (P : Params) : Obj := by
  refine (?f : ∀ o : Obj, (hd.heap_39 P)[26]? = some (53, o) → Obj) _ rfl
  exact fun o _ => o
noncomputable def cO55 (P : Params) : Obj := by
  refine (?f : ∀ o : Obj, (hd.heap_39 P)[27]? = some (55, o) → Obj) _ rfl
  exact fun o _ => o
noncomputable def cO56 (P : Params) : Obj := by
  refine (?f : ∀ o : Obj, (hd.heap_39 P)[28]? = some (56, o) → Obj) _ rfl
  exact fun o _ => o
noncomputable def cO58 (P : Params) : Obj := by
  refine (?f : ∀ o : Obj, (hd.heap_39 P)[29]? = some (58, o) → Obj) _ rfl
  exact fun o _ => o
noncomputable def cO59 (P : Params) : Obj := by
  refine (?f : ∀ o : Obj, (hd.heap_39 P)[30]? = some (59, o) → Obj) _ rfl
  exact fun o _ => o
noncomputable def cO60 (P : Params) : Obj := by
  refine (?f : ∀ o : Obj, (hd.heap_39 P)[31]? = some (60, o) → Obj) _ rfl
  exact fun o _ => o
noncomputable def cO61 (P : Params) : Obj := by
  refine (?f : ∀ o : Obj, (hd.heap_39 P)[32]? = some (61, o) → Obj) _ rfl
  exact fun o _ => o
noncomputable def cO63 (P : Params) : Obj := by
  refine (?f : ∀ o : Obj, (hd.heap_39 P)[33]? = some (63, o) → Obj) _ rfl
  exact fun o _ => o
noncomputable def cO64 (P : Params) : Obj := by
  refine (?f : ∀ o : Obj, (hd.heap_39 P)[34]? = some (64, o) → Obj) _ rfl
  exact fun o _ => o
noncomputable def cO66 (P : Params) : Obj := by
  refine (?f : ∀ o : Obj, (hd.heap_39 P)[35]? = some (66, o) → Obj) _ rfl
  exact fun o _ => o
noncomputable def cO67 (P : Params) : Obj := by
  refine (?f : ∀ o : Obj, (hd.heap_39 P)[36]? = some (67, o) → Obj) _ rfl
  exact fun o _ => o
noncomputable def cO68 (P : Params) : Obj := by
  refine (?f : ∀ o : Obj, (hd.heap_39 P)[37]? = some (68, o) → Obj) _ rfl
  exact fun o _ => o
noncomputable def cO69 (P : Params) : Obj := by
  refine (?f : ∀ o : Obj, (hd.heap_39 P)[38]? = some (69, o) → Obj) _ rfl
  exact fun o _ => o
noncomputable def cO71 (P : Params) : Obj := by
  refine (?f : ∀ o : Obj, (hd.heap_39 P)[39]? = some (71, o) → Obj) _ rfl
  exact fun o _ => o
noncomputable def cO72 (P : Params) : Obj := by
  refine (?f : ∀ o : Obj, (hd.heap_39 P)[40]? = some (72, o) → Obj) _ rfl
  exact fun o _ => o
noncomputable def cO74 (P : Params) : Obj := by
  refine (?f : ∀ o : Obj, (hd.heap_39 P)[41]? = some (74, o) → Obj) _ rfl
  exact fun o _ => o
noncomputable def cO75 (P : Params) : Obj := by
  refine (?f : ∀ o : Obj, (hd.heap_39 P)[42]? = some (75, o) → Obj) _ rfl
  exact fun o _ => o
noncomputable def cO76 (P : Params) : Obj := by
  refine (?f : ∀ o : Obj, (hd.heap_39 P)[43]? = some (76, o) → Obj) _ rfl
  exact fun o _ => o
noncomputable def cO78 (P : Params) : Obj := by
  refine (?f : ∀ o : Obj, (hd.heap_39 P)[44]? = some (78, o) → Obj) _ rfl
  exact fun o _ => o
noncomputable def cO79 (P : Params) : Obj := by
  refine (?f : ∀ o : Obj, (hd.heap_39 P)[45]? = some (79, o) → Obj) _ rfl
  exact fun o _ => o
noncomputable def cO81 (P : Params) : Obj := by
  refine (?f : ∀ o : Obj, (hd.heap_39 P)[46]? = some (81, o) → Obj) _ rfl
  exact fun o _ => o
noncomputable def cO82 (P : Params) : Obj := by
  refine (?f : ∀ o : Obj, (hd.heap_39 P)[47]? = some (82, o) → Obj) _ rfl
  exact fun o _ => o
noncomputable def cO83 (P : Params) : Obj := by
  refine (?f : ∀ o : Obj, (hd.heap_39 P)[48]? = some (83, o) → Obj) _ rfl
  exact fun o _ => o
noncomputable def cO85 (P : Params) : Obj := by
  refine (?f : ∀ o : Obj, (hd.heap_39 P)[49]? = some (85, o) → Obj) _ rfl
  exact fun o _ => o
noncomputable def cO86 (P : Params) : Obj := by
  refine (?f : ∀ o : Obj, (hd.heap_39 P)[50]? = some (86, o) → Obj) _ rfl
  exact fun o _ => o
noncomputable def cO88 (P : Params) : Obj := by
  refine (?f : ∀ o : Obj, (hd.heap_39 P)[51]? = some (88, o) → Obj) _ rfl
  exact fun o _ => o
noncomputable def cO89 (P : Params) : Obj := by
  refine (?f : ∀ o : Obj, (hd.heap_39 P)[52]? = some (89, o) → Obj) _ rfl
  exact fun o _ => o
noncomputable def cO90 (P : Params) : Obj := by
  refine (?f : ∀ o : Obj, (hd.heap_39 P)[53]? = some (90, o) → Obj) _ rfl
  exact fun o _ => o
noncomputable def cO91 (P : Params) : Obj := by
  refine (?f : ∀ o : Obj, (hd.heap_39 P)[54]? = some (91, o) → Obj) _ rfl
  exact fun o _ => o
noncomputable def cO93 (P : Params) : Obj := by
  refine (?f : ∀ o : Obj, (hd.heap_39 P)[55]? = some (93, o) → Obj) _ rfl
  exact fun o _ => o
noncomputable def cO94 (P : Params) : Obj := by
  refine (?f : ∀ o : Obj, (hd.heap_39 P)[56]? = some (94, o) → Obj) _ rfl
  exact fun o _ => o
noncomputable def cO96 (P : Params) : Obj := by
  refine (?f : ∀ o : Obj, (hd.heap_39 P)[57]? = some (96, o) → Obj) _ rfl
  exact fun o _ => o
noncomputable def cO97 (P : Params) : Obj := by
  refine (?f : ∀ o : Obj, (hd.heap_39 P)[58]? = some (97, o) → Obj) _ rfl
  exact fun o _ => o
noncomputable def cO98 (P : Params) : Obj := by
  refine (?f : ∀ o : Obj, (hd.heap_39 P)[59]? = some (98, o) → Obj) _ rfl
  exact fun o _ => o
noncomputable def cO100 (P : Params) : Obj := by
  refine (?f : ∀ o : Obj, (hd.heap_39 P)[60]? = some (100, o) → Obj) _ rfl
  exact fun o _ => o
noncomputable def cO101 (P : Params) : Obj := by
  refine (?f : ∀ o : Obj, (hd.heap_39 P)[61]? = some (101, o) → Obj) _ rfl
  exact fun o _ => o
noncomputable def cO103 (P : Params) : Obj := by
  refine (?f : ∀ o : Obj, (hd.heap_39 P)[62]? = some (103, o) → Obj) _ rfl
  exact fun o _ => o
noncomputable def cO104 (P : Params) : Obj := by
  refine (?f : ∀ o : Obj, (hd.heap_39 P)[63]? = some (104, o) → Obj) _ rfl
  exact fun o _ => o
noncomputable def cO105 (P : Params) : Obj := by
  refine (?f : ∀ o : Obj, (hd.heap_39 P)[64]? = some (105, o) → Obj) _ rfl
  exact fun o _ => o
noncomputable def cO106 (P : Params) : Obj := by
  refine (?f : ∀ o : Obj, (hd.heap_39 P)[65]? = some (106, o) → Obj) _ rfl
  exact fun o _ => o
noncomputable def cO108 (P : Params) : Obj := by
  refine (?f : ∀ o : Obj, (hd.heap_39 P)[66]? = some (108, o) → Obj) _ rfl
  exact fun o _ => o
noncomputable def cO109 (P : Params) : Obj := by
  refine (?f : ∀ o : Obj, (hd.heap_39 P)[67]? = some (109, o) → Obj) _ rfl
  exact fun o _ => o
noncomputable def cO111 (P : Params) : Obj := by
  refine (?f : ∀ o : Obj, (hd.heap_39 P)[68]? = some (111, o) → Obj) _ rfl
  exact fun o _ => o
noncomputable def cO112 (P : Params) : Obj := by
  refine (?f : ∀ o : Obj, (hd.heap_39 P)[69]? = some (112, o) → Obj) _ rfl
  exact fun o _ => o
noncomputable def cO113 (P : Params) : Obj := by
  refine (?f : ∀ o : Obj, (hd.heap_39 P)[70]? = some (113, o) → Obj) _ rfl
  exact fun o _ => o
noncomputable def cO114 (P : Params) : Obj := by
  refine (?f : ∀ o : Obj, (hd.heap_39 P)[71]? = some (114, o) → Obj) _ rfl
  exact fun o _ => o
noncomputable def cO115 (P : Params) : Obj := by
  refine (?f : ∀ o : Obj, (hd.heap_39 P)[72]? = some (115, o) → Obj) _ rfl
  exact fun o _ => o
noncomputable def cO116 (P : Params) : Obj := by
  refine (?f : ∀ o : Obj, (hd.heap_39 P)[73]? = some (116, o) → Obj) _ rfl
  exact fun o _ => o
noncomputable def cO117 (P : Params) : Obj := by
  refine (?f : ∀ o : Obj, (hd.heap_39 P)[74]? = some (117, o) → Obj) _ rfl
  exact fun o _ => o
noncomputable def cO120 (P : Params) : Obj := by
  refine (?f : ∀ o : Obj, (hd.heap_39 P)[75]? = some (120, o) → Obj) _ rfl
  exact fun o _ => o
noncomputable def cO122 (P : Params) : Obj := by
  refine (?f : ∀ o : Obj, (hd.heap_39 P)[76]? = some (122, o) → Obj) _ rfl
  exact fun o _ => o
noncomputable def cO123 (P : Params) : Obj := by
  refine (?f : ∀ o : Obj, (hd.heap_39 P)[77]? = some (123, o) → Obj) _ rfl
  exact fun o _ => o
noncomputable def cO125 (P : Params) : Obj := by
  refine (?f : ∀ o : Obj, (hd.heap_39 P)[78]? = some (125, o) → Obj) _ rfl
  exact fun o _ => o
noncomputable def cO126 (P : Params) : Obj := by
  refine (?f : ∀ o : Obj, (hd.heap_39 P)[79]? = some (126, o) → Obj) _ rfl
  exact fun o _ => o
noncomputable def cO127 (P : Params) : Obj := by
  refine (?f : ∀ o : Obj, (hd.heap_39 P)[80]? = some (127, o) → Obj) _ rfl
  exact fun o _ => o
noncomputable def cO129 (P : Params) : Obj := by
  refine (?f : ∀ o : Obj, (hd.heap_39 P)[81]? = some (129, o) → Obj) _ rfl
  exact fun o _ => o
noncomputable def cO130 (P : Params) : Obj := by
  refine (?f : ∀ o : Obj, (hd.heap_39 P)[82]? = some (130, o) → Obj) _ rfl
  exact fun o _ => o
noncomputable def cO132 (P : Params) : Obj := by
  refine (?f : ∀ o : Obj, (hd.heap_39 P)[83]? = some (132, o) → Obj) _ rfl
  exact fun o _ => o
noncomputable def cO133 (P : Params) : Obj := by
  refine (?f : ∀ o : Obj, (hd.heap_39 P)[84]? = some (133, o) → Obj) _ rfl
  exact fun o _ => o
noncomputable def cO134 (P : Params) : Obj := by
  refine (?f : ∀ o : Obj, (hd.heap_39 P)[85]? = some (134, o) → Obj) _ rfl
  exact fun o _ => o
noncomputable def cO137 (P : Params) : Obj := by
  refine (?f : ∀ o : Obj, (hd.heap_39 P)[86]? = some (137, o) → Obj) _ rfl
  exact fun o _ => o
noncomputable def cO138 (P : Params) : Obj := by
  refine (?f : ∀ o : Obj, (hd.heap_39 P)[87]? = some (138, o) → Obj) _ rfl
  exact fun o _ => o
noncomputable def cO139 (P : Params) : Obj := by
  refine (?f : ∀ o : Obj, (hd.heap_39 P)[88]? = some (139, o) → Obj) _ rfl
  exact fun o _ => o
noncomputable def cO141 (P : Params) : Obj := by
  refine (?f : ∀ o : Obj, (hd.heap_39 P)[89]? = some (141, o) → Obj) _ rfl
  exact fun o _ => o
noncomputable def cO142 (P : Params) : Obj := by
  refine (?f : ∀ o : Obj, (hd.heap_39 P)[90]? = some (142, o) → Obj) _ rfl
  exact fun o _ => o
noncomputable def cO144 (P : Params) : Obj := by
  refine (?f : ∀ o : Obj, (hd.heap_39 P)[91]? = some (144, o) → Obj) _ rfl
  exact fun o _ => o
noncomputable def cO145 (P : Params) : Obj := by
  refine (?f : ∀ o : Obj, (hd.heap_39 P)[92]? = some (145, o) → Obj) _ rfl
  exact fun o _ => o
noncomputable def cO146 (P : Params) : Obj := by
  refine (?f : ∀ o : Obj, (hd.heap_39 P)[93]? = some (146, o) → Obj) _ rfl
  exact fun o _ => o
noncomputable def cO148 (P : Params) : Obj := by
  refine (?f : ∀ o : Obj, (hd.heap_39 P)[94]? = some (148, o) → Obj) _ rfl
  exact fun o _ => o
noncomputable def cO149 (P : Params) : Obj := by
  refine (?f : ∀ o : Obj, (hd.heap_39 P)[95]? = some (149, o) → Obj) _ rfl
  exact fun o _ => o
noncomputable def cO151 (P : Params) : Obj := by
  refine (?f : ∀ o : Obj, (hd.heap_39 P)[96]? = some (151, o) → Obj) _ rfl
  exact fun o _ => o
noncomputable def cO152 (P : Params) : Obj := by
  refine (?f : ∀ o : Obj, (hd.heap_39 P)[97]? = some (152, o) → Obj) _ rfl
  exact fun o _ => o
noncomputable def cO153 (P : Params) : Obj := by
  refine (?f : ∀ o : Obj, (hd.heap_39 P)[98]? = some (153, o) → Obj) _ rfl
  exact fun o _ => o
noncomputable def cO156 (P : Params) : Obj := by
  refine (?f : ∀ o : Obj, (hd.heap_39 P)[99]? = some (156, o) → Obj) _ rfl
  exact fun o _ => o
noncomputable def cO157 (P : Params) : Obj := by
  refine (?f : ∀ o : Obj, (hd.heap_39 P)[100]? = some (157, o) → Obj) _ rfl
  exact fun o _ => o
noncomputable def cK0 (P : Params) : Frag := [(2, cO2 P), (3, cO3 P), (15, cO15 P), (17, cO17 P), (18, cO18 P), (20, cO20 P), (21, cO21 P), (22, cO22 P), (24, cO24 P), (25, cO25 P)]
noncomputable def cK1 (P : Params) : Frag := [(27, cO27 P), (28, cO28 P), (29, cO29 P), (31, cO31 P), (32, cO32 P), (34, cO34 P), (35, cO35 P), (36, cO36 P), (39, cO39 P), (44, cO44 P)]
noncomputable def cK2 (P : Params) : Frag := [(45, cO45 P), (46, cO46 P), (48, cO48 P), (49, cO49 P), (51, cO51 P), (52, cO52 P), (53, cO53 P), (55, cO55 P), (56, cO56 P), (58, cO58 P)]
noncomputable def cK3 (P : Params) : Frag := [(59, cO59 P), (60, cO60 P), (61, cO61 P), (63, cO63 P), (64, cO64 P), (66, cO66 P), (67, cO67 P), (68, cO68 P), (69, cO69 P), (71, cO71 P)]
noncomputable def cK4 (P : Params) : Frag := [(72, cO72 P), (74, cO74 P), (75, cO75 P), (76, cO76 P), (78, cO78 P), (79, cO79 P), (81, cO81 P), (82, cO82 P), (83, cO83 P), (85, cO85 P)]
noncomputable def cK5 (P : Params) : Frag := [(86, cO86 P), (88, cO88 P), (89, cO89 P), (90, cO90 P), (91, cO91 P), (93, cO93 P), (94, cO94 P), (96, cO96 P), (97, cO97 P), (98, cO98 P)]
noncomputable def cK6 (P : Params) : Frag := [(100, cO100 P), (101, cO101 P), (103, cO103 P), (104, cO104 P), (105, cO105 P), (106, cO106 P), (108, cO108 P), (109, cO109 P), (111, cO111 P), (112, cO112 P)]
noncomputable def cK7 (P : Params) : Frag := [(113, cO113 P), (114, cO114 P), (115, cO115 P), (116, cO116 P), (117, cO117 P), (120, cO120 P), (122, cO122 P), (123, cO123 P), (125, cO125 P), (126, cO126 P)]
noncomputable def cK8 (P : Params) : Frag := [(127, cO127 P), (129, cO129 P), (130, cO130 P), (132, cO132 P), (133, cO133 P), (134, cO134 P), (137, cO137 P), (138, cO138 P), (139, cO139 P), (141, cO141 P)]
noncomputable def cK9 (P : Params) : Frag := [(142, cO142 P), (144, cO144 P), (145, cO145 P), (146, cO146 P), (148, cO148 P), (149, cO149 P), (151, cO151 P), (152, cO152 P), (153, cO153 P), (156, cO156 P)]
noncomputable def cK10 (P : Params) : Frag := [(157, cO157 P)]
noncomputable def Kc (P : Params) : Frag := (77, tabObj #[]) :: (84, tabObj #[]) :: ((cK0 P).append ((cK1 P).append ((cK2 P).append ((cK3 P).append ((cK4 P).append ((cK5 P).append ((cK6 P).append ((cK7 P).append ((cK8 P).append ((cK9 P).append ((cK10 P))))))))))))
noncomputable def K2 (P : Params) : Frag := (77, tabObj #[]) :: (84, tabObj #[]) :: hd.heap_39 P
theorem Kc_eq (P : Params) : Kc P = K2 P := by kernel_rfl
section
local macro_rules | `(tactic| o_head ($_f $_k $a $_p)) => `(tactic| o_head kHook Kc (77 :: 84 :: $a) (fun _ => by kernel_rfl))
open_top hdB for PySem.Challenge.rw_xj0014_01
end
theorem quiet : True := by
  w_top off
  trivial

section
open PySem PySem.W PyProof.Rows
/-- a contract of a def of the text's own: `k` frames of room are asked -/
noncomputable abbrev Cl (k : Nat) (w : World) (mean : ExcName → Option Value) (mg mb : Str → Option Value) (f : Addr) (news : List (Addr × Obj)) (pre : Prop) (vs : List Value) (R : Tok → Value) : Prop :=
  ∀ (dp un : Nat) (gd : Option (List Code)) (cn : Str) (cs : Scope) (a : Addr) (ccd : Value) (cl : List (Str × Addr)) (outer : List Env) (A₀ : Around) (base h₀ : Heap) (L : Addr) (m : Str → Option Value) (s : Shared) (Q E : Value → Shared → Prop),
    Below A₀ base outer h₀ → Fr h₀ L s.heap m → (hd.heap_39 w.params).In h₀ → News h₀ L s.heap news → Top hdB.view_39 (looseW hdB.view_39 [Str.ofString "_Accumulator"]) mean mg mb h₀ → cs.kind = .function →
    pre → dp + k < recursionLimit → un + 10 * k < cLine → (∀ (t : Tok) (h' : Heap) (tk' : Nat), Fr h₀ L h' m → News h₀ L h' news → Q (R t) { s with heap := h', toks := tk' }) →
      wpAny (model Challenge.rw_xj0014_01.row.prog w) (ktrTop dp un gd cn cs L a ccd cl outer) (call (.ref f) vs) Q E s

noncomputable def sgn (a b : Int) : Int := if b < a then 1 else if a < b then -1 else 0

/-- a def of the written part, its block and its scope -/
noncomputable def AtFn (K : Frag) (f : Addr) (body : List Stmt) (scope : Scope) (qual : Str) (cdv : Value) : Prop :=
  ∃ (oc : Value) (od : Option Addr) (name : Str) (params : Arguments) (dV kV doc pm : Value) (an : Option Addr) (ct : Value) (osl : Array (Option Value)),
    K.lookup f = some ⟨oc, od, .func (fnOf name qual params body scope dV kV doc pm an cdv ct), osl⟩
theorem AtFn.mk {K : Frag} {f : Addr} {body : List Stmt} {scope : Scope} {qual : Str} {cdv oc : Value} {od : Option Addr} {name : Str} {params : Arguments} {dV kV doc pm : Value} {an : Option Addr} {ct : Value} {osl : Array (Option Value)}
    (h : K.lookup f = some ⟨oc, od, .func (fnOf name qual params body scope dV kV doc pm an cdv ct), osl⟩) : AtFn K f body scope qual cdv := ⟨_, _, _, _, _, _, _, _, _, _, _, h⟩
theorem AtFn.elim {K : Frag} {f : Addr} {body body' : List Stmt} {scope scope' : Scope} {qual qual' : Str} {cdv cdv' oc : Value} {od : Option Addr} {name : Str} {params : Arguments} {dV kV doc pm : Value} {an : Option Addr} {ct : Value} {osl : Array (Option Value)} {P : Prop}
    (x : AtFn K f body scope qual cdv) (h : K.lookup f = some ⟨oc, od, .func (fnOf name qual' params body' scope' dV kV doc pm an cdv' ct), osl⟩)
    (k : body = body' → scope = scope' → qual = qual' → cdv = cdv' → P) : P := by
  obtain ⟨_, _, _, _, _, _, _, _, _, _, _, h'⟩ := x
  have e := h'.symm.trans h
  simp only [Option.some.injEq, Obj.mk.injEq, Data.func.injEq, FuncData.mk.injEq, FuncBody.stmts.injEq] at e
  exact k e.2.2.1.2.2.2.1 e.2.2.1.2.2.2.2.1 e.2.2.1.2.1 e.2.2.1.2.2.2.2.2.2.2.2.2.2.2.2.1
end
section
open PySem PySem.W PyProof.Rows StrLaws
/-- a text by its signs' numbers -/
noncomputable def T (l : List Nat) : Str := ⟨l.toArray⟩
theorem T_len (l : List Nat) : (T l).length = l.length := by simp [T, Str.length]
theorem T_cps (l : List Nat) : (T l).cps.toList = l := by simp [T]
theorem T_inj {a b : List Nat} : T a = T b ↔ a = b := by
  constructor
  · intro h; have := congrArg (fun s => s.cps.toList) h; simpa [T] using this
  · rintro rfl; rfl
theorem T_beq (a b : List Nat) : (T a == T b) = decide (a = b) := by
  by_cases h : a = b
  · subst h; simp
  · have : T a ≠ T b := fun e => h (T_inj.mp e)
    simp [h, this]
theorem slice_eq (x : Str) (l u : Option Int) : Txt.slice x l u = sliceText x l u := rfl
theorem T_slice_ss (l : List Nat) {i j : Int} (h0 : 0 ≤ i) (h1 : i ≤ j) (h2 : j ≤ l.length) : Txt.slice (T l) (some i) (some j) = T ((l.drop i.toNat).take (j - i).toNat) := by
  rw [slice_eq, sliceText_plain ⟨h0, h1, by rw [T_cps]; exact h2⟩, T_cps]; rfl
theorem T_slice_sn (l : List Nat) {i : Int} (h0 : 0 ≤ i) (h2 : i ≤ l.length) : Txt.slice (T l) (some i) none = T (l.drop i.toNat) := by
  rw [slice_eq, sliceText_from ⟨h0, by rw [T_cps]; exact h2⟩, T_cps]
  unfold T
  rw [List.take_of_length_le (by rw [List.length_drop]; omega)]
theorem T_slice_ns (l : List Nat) {j : Int} (h0 : 0 ≤ j) (h2 : j ≤ l.length) : Txt.slice (T l) none (some j) = T (l.take j.toNat) := by
  rw [slice_eq, sliceText_to ⟨h0, by rw [T_cps]; exact h2⟩, T_cps]
  simp [T]
theorem T_slice_nn (l : List Nat) : Txt.slice (T l) none none = T l := by
  rw [slice_eq]; unfold sliceText; rw [sliceIdx_none_lo, sliceIdx_none_hi]
  have := sliceText_nat (T l) (a := 0) (b := (T l).length) (Nat.zero_le _) (Nat.le_refl _)
  unfold sliceText at this
  simp only [Int.natCast_zero] at this
  rw [this, T_cps, List.drop_zero, Nat.sub_zero, T_len, List.take_length]; rfl
theorem T_slice_nneg (l : List Nat) {j : Int} (h0 : j < 0) (h1 : -(l.length : Int) ≤ j) : Txt.slice (T l) none (some j) = T (l.take (l.length - (-j).toNat)) := by
  rw [slice_eq, sliceText_neg_hi (T l) none h0 (by rw [T_len]; exact h1), ← slice_eq, T_len, T_slice_ns l (by omega) (by omega)]
  congr 2
  omega
theorem T_item (l : List Nat) {i : Int} (h0 : 0 ≤ i) (h1 : i < l.length) : Txt.item (T l) i = T [l.getD i.toNat 0] := by
  unfold Txt.item Txt.charAt
  rw [StrLaws.seqIndex_nonneg h0 (by rw [T_len]; exact h1)]
  simp [T]
theorem T_item_neg (l : List Nat) {i : Int} (h0 : i < 0) (h1 : -(l.length : Int) ≤ i) : Txt.item (T l) i = T [l.getD (i + l.length).toNat 0] := by
  unfold Txt.item Txt.charAt
  rw [StrLaws.seqIndex_neg h0 (by rw [T_len]; exact h1), T_len]
  simp [T]

/-- how many blanks stand ahead, `amt` at most (all where it is below nought) -/
noncomputable def lead : List Nat → Int → Nat
  | [], _ => 0
  | c :: r, amt => if amt = 0 then 0 else if c = 32 then lead r (amt - 1) + 1 else 0
noncomputable def stripL (l : List Nat) (amt : Int) : List Nat :=
  (l.drop (lead l amt)).take (l.length - lead l.reverse (amt - lead l amt) - lead l amt)

theorem lead_zero (l : List Nat) : lead l 0 = 0 := by cases l <;> simp [lead]
theorem lead_le (l : List Nat) : ∀ amt, lead l amt ≤ l.length := by
  induction l with
  | nil => intro _; simp [lead]
  | cons c r ih => intro amt; unfold lead; split; simp; split; (have := ih (amt - 1); simp; omega); simp
theorem lead_step {l : List Nat} {k : Nat} {amt : Int} {c : Nat} (hc : l[k]? = some c) :
    lead (l.drop k) amt = if amt = 0 then 0 else if c = 32 then lead (l.drop (k + 1)) (amt - 1) + 1 else 0 := by
  obtain ⟨hk, rfl⟩ := List.getElem?_eq_some_iff.mp hc
  rw [List.drop_eq_getElem_cons hk]
  rfl
theorem lit_sp : Str.ofString " " = T [32] := by decide +kernel
theorem lit_a : Str.ofString "a" = T [97] := by decide +kernel
theorem lit_A : Str.ofString "A" = T [65] := by decide +kernel
theorem lit_nil : Str.ofString "" = T [] := by decide +kernel
theorem lead_all {l : List Nat} {b : Int} {k : Nat} (hk : k < l.length) (h0 : b = 0 ∨ l.getD k 0 ≠ 32) : lead (l.drop k) b = 0 := by
  rw [lead_step (c := l.getD k 0) (by simp [List.getD, hk])]
  rcases h0 with h | h
  · rw [if_pos h]
  · rw [if_neg h]; simp
theorem lead_one {l : List Nat} {b : Int} {k : Nat} (hk : k < l.length) (h0 : b ≠ 0) (h1 : l.getD k 0 = 32) : lead (l.drop k) b = lead (l.drop (k + 1)) (b - 1) + 1 := by
  rw [lead_step (c := l.getD k 0) (by simp [List.getD, hk]), if_neg h0, if_pos h1]
theorem some_left {l : List Nat} {k : Nat} (h : ∀ c ∈ l.take k, c = 32) (he : ∃ c ∈ l, c ≠ 32) (hk : k ≤ l.length) : k < l.length := by
  rcases Nat.lt_or_ge k l.length with h1 | h1
  · exact h1
  · exfalso
    obtain ⟨c, hc, hn⟩ := he
    rw [List.take_of_length_le h1] at h
    exact hn (h c hc)
theorem take_more {l : List Nat} {k : Nat} (h : ∀ c ∈ l.take k, c = 32) (hk : k < l.length) (h1 : l.getD k 0 = 32) : ∀ c ∈ l.take (k + 1), c = 32 := by
  intro c hc
  rw [List.take_add_one] at hc
  rcases List.mem_append.mp hc with h2 | h2
  · exact h c h2
  · have e : l.getD k 0 = l[k] := by simp [List.getD, hk]
    rw [e] at h1
    simp [hk] at h2
    rw [h2, h1]
theorem lead_stop : ∀ (l : List Nat) (b : Int), lead l b < l.length → b - lead l b = 0 ∨ l.getD (lead l b) 0 ≠ 32
  | [], _, h => absurd h (Nat.lt_irrefl _)
  | c :: r, b, h => by
    unfold lead at h ⊢
    by_cases h0 : b = 0
    · simp [h0]
    · by_cases h1 : c = 32
      · simp only [if_neg h0, if_pos h1] at h ⊢
        have := lead_stop r (b - 1) (by simpa using h)
        rcases this with h2 | h2
        · left; omega
        · right; simpa using h2
      · simp [h0, h1]
theorem lead_bound : ∀ (l : List Nat) (b : Int) (j : Nat), j < l.length → l.getD j 0 ≠ 32 → lead l b ≤ j
  | [], _, _, h, _ => absurd h (Nat.not_lt_zero _)
  | c :: r, b, j, h, hn => by
    unfold lead
    by_cases h0 : b = 0
    · simp [h0]
    · by_cases h1 : c = 32
      · simp only [if_neg h0, if_pos h1]
        cases j with
        | zero => exact absurd h1 (by simpa using hn)
        | succ j =>
          have := lead_bound r (b - 1) j (by simpa using h) (by simpa using hn)
          omega
      · simp [h0, h1]
theorem lead_fits {l : List Nat} {b : Int} (h : lead l b < l.length) : lead l b + lead l.reverse (b - lead l b) ≤ l.length := by
  rcases lead_stop l b h with h1 | h1
  · rw [h1, lead_zero]; omega
  · have := lead_bound l.reverse (b - lead l b) (l.length - 1 - lead l b) (by rw [List.length_reverse]; omega) (by
      rw [List.getD_eq_getElem?_getD, List.getElem?_reverse (by omega)]
      rw [List.getD_eq_getElem?_getD] at h1
      have e : l.length - 1 - (l.length - 1 - lead l b) = lead l b := by omega
      rw [e]; exact h1)
    omega
theorem rev_getD {l : List Nat} {k : Nat} (h : k < l.length) : l.reverse.getD k 0 = l.getD (l.length - 1 - k) 0 := by
  rw [List.getD_eq_getElem?_getD, List.getElem?_reverse h, List.getD_eq_getElem?_getD]
end
section
open PySem PySem.W PyProof.Rows
theorem Fr.as {h₀ h : Heap} {L : Addr} {m m' : Str → Option Value} (F : Fr h₀ L h m) (e : ∀ y, m y = m' y) : Fr h₀ L h m' := (funext e : m = m') ▸ F
theorem lookup_if {y k : Str} {v : Value} {r : List (Str × Value)} : List.lookup y ((k, v) :: r) = if y = k then some v else List.lookup y r := by
  rw [List.lookup_cons]
  by_cases h : y = k
  · subst h; simp
  · have : (y == k) = false := by simpa using h
    rw [this, if_neg h]

noncomputable def AtI (m : Str → Option Value) (x : Str) (n : Int) : Prop := ∃ t, m x = some (.int n t)
noncomputable def AtS (m : Str → Option Value) (x : Str) (v : Str) : Prop := ∃ t, m x = some (.str v t)
theorem AtI.mk {m : Str → Option Value} {x : Str} {n n' : Int} {t : Tok} (h : m x = some (.int n t)) (e : n = n') : AtI m x n' := ⟨t, e ▸ h⟩
theorem AtS.mk {m : Str → Option Value} {x : Str} {n n' : Str} {t : Tok} (h : m x = some (.str n t)) (e : n = n') : AtS m x n' := ⟨t, e ▸ h⟩
theorem map1 {m m₀ : Str → Option Value} {x1 : Str} {v1 : Value} (e1 : m x1 = some v1) (h : ∀ y, y ≠ x1 → m y = m₀ y) :
    ∀ y, m y = if y = x1 then some v1 else m₀ y := fun y => by
  by_cases h1 : y = x1
  · rw [if_pos h1, h1, e1]
  · rw [if_neg h1, h y h1]
theorem map2 {m m₀ : Str → Option Value} {x1 x2 : Str} {v1 v2 : Value} (e1 : m x1 = some v1) (e2 : m x2 = some v2) (h : ∀ y, y ≠ x1 → y ≠ x2 → m y = m₀ y) :
    ∀ y, m y = if y = x1 then some v1 else if y = x2 then some v2 else m₀ y :=
  map1 e1 fun y h1 => by
    by_cases h2 : y = x2
    · rw [if_pos h2, h2, e2]
    · rw [if_neg h2, h y h1 h2]
theorem map3 {m m₀ : Str → Option Value} {x1 x2 x3 : Str} {v1 v2 v3 : Value} (e1 : m x1 = some v1) (e2 : m x2 = some v2) (e3 : m x3 = some v3) (h : ∀ y, y ≠ x1 → y ≠ x2 → y ≠ x3 → m y = m₀ y) :
    ∀ y, m y = if y = x1 then some v1 else if y = x2 then some v2 else if y = x3 then some v3 else m₀ y :=
  map1 e1 fun y h1 => by
    by_cases h2 : y = x2
    · rw [if_pos h2, h2, e2]
    · rw [if_neg h2]
      by_cases h3 : y = x3
      · rw [if_pos h3, h3, e3]
      · rw [if_neg h3, h y h1 h2 h3]
theorem map4 {m m₀ : Str → Option Value} {x1 x2 x3 x4 : Str} {v1 v2 v3 v4 : Value} (e1 : m x1 = some v1) (e2 : m x2 = some v2) (e3 : m x3 = some v3) (e4 : m x4 = some v4) (h : ∀ y, y ≠ x1 → y ≠ x2 → y ≠ x3 → y ≠ x4 → m y = m₀ y) :
    ∀ y, m y = if y = x1 then some v1 else if y = x2 then some v2 else if y = x3 then some v3 else if y = x4 then some v4 else m₀ y :=
  map1 e1 fun y h1 => by
    by_cases h2 : y = x2
    · rw [if_pos h2, h2, e2]
    · rw [if_neg h2]
      by_cases h3 : y = x3
      · rw [if_pos h3, h3, e3]
      · rw [if_neg h3]
        by_cases h4 : y = x4
        · rw [if_pos h4, h4, e4]
        · rw [if_neg h4, h y h1 h2 h3 h4]
theorem mapL_nil {m : Str → Option Value} : ∀ y, m y = m y := fun _ => rfl
theorem mapL_cons {m M : Str → Option Value} {x : Str} {v : Value} (h : m x = some v) (r : ∀ y, m y = M y) : ∀ y, m y = if y = x then some v else M y := fun y => by
  by_cases h1 : y = x
  · rw [if_pos h1, h1]; exact h
  · rw [if_neg h1]; exact r y
/-- where a loop ends -/
noncomputable def Out (h₀ : Heap) (L : Addr) (s : Shared) (K : (Str → Option Value) → List (Addr × Obj) → Prop) (f : Flow) (s' : Shared) : Prop :=
  f = .next ∧ ∃ (h' : Heap) (tk' : Nat) (m' : Str → Option Value) (nx : List (Addr × Obj)), s' = { s with heap := h', toks := tk' } ∧ Fr h₀ L h' m' ∧ News h₀ L h' nx ∧ K m' nx
theorem Out.mk {h₀ h' : Heap} {L : Addr} {s : Shared} {tk' : Nat} {K : (Str → Option Value) → List (Addr × Obj) → Prop} {m' : Str → Option Value} {nx : List (Addr × Obj)}
    (F : Fr h₀ L h' m') (N : News h₀ L h' nx) (k : K m' nx) : Out h₀ L s K .next { s with heap := h', toks := tk' } := ⟨rfl, h', tk', m', nx, rfl, F, N, k⟩

section
variable {prog : Program} {w : World} {A : Around} {E : Value → Shared → Prop} {Q : Flow → Shared → Prop} {s : Shared} {env : Env} {h₀ : Heap} {L : Addr}
theorem While_cut {test : PySem.Expr} {body : List Stmt} {pos : Pos} {m : Str → Option Value} {news : List (Addr × Obj)} (J : Nat → (Str → Option Value) → List (Addr × Obj) → Prop) (K : (Str → Option Value) → List (Addr × Obj) → Prop) {n₀ : Nat}
    (F : Fr h₀ L s.heap m) (N : News h₀ L s.heap news) (hJ : J n₀ m news)
    (turn : ∀ n m₁ news₁ h₁ tk₁, J n m₁ news₁ → Fr h₀ L h₁ m₁ → News h₀ L h₁ news₁ →
      wpAny (model prog w) A (isTrue test env (eval test env)) (fun b s₂ =>
        if b = true then wpAny (model prog w) A (execs body env) (WhileStep2 h₀ L s J (Out h₀ L s K) n) E s₂ else Out h₀ L s K .next s₂) E { s with heap := h₁, toks := tk₁ })
    (done : ∀ h' tk' m' nx, K m' nx → Fr h₀ L h' m' → News h₀ L h' nx → Q .next { s with heap := h', toks := tk' })
    (hE : PassesOwn (model prog w) A env E := by passes_own) :
    wpAny (model prog w) A (exec (.While test body [] pos) env) Q E s := by
  refine wpAny_mono (While_inv2 (Q := Out h₀ L s K) J F N hJ (fun n m₁ news₁ h₁ tk₁ F₁ N₁ j => turn n m₁ news₁ h₁ tk₁ j F₁ N₁) hE) (fun f s' h => ?_) fun _ _ h => h
  obtain ⟨rfl, h', tk', m', nx, rfl, F', N', k⟩ := h
  exact done h' tk' m' nx k F' N'

noncomputable def Turn (h₀ : Heap) (L : Addr) (own : List (Addr × Obj)) (J : (Str → Option Value) → List (Addr × Obj) → Prop) (s : Shared) (Q : Flow → Shared → Prop) (f : Flow) (s₂ : Shared) : Prop :=
  match f with
  | .ret v => Q (.ret v) s₂
  | .brk => Q .next s₂
  | _ => ∃ (h' : Heap) (tk : Nat) (m' : Str → Option Value) (nx : List (Addr × Obj)), s₂ = { s with heap := h', toks := tk } ∧ Fr h₀ L h' m' ∧ News h₀ L h' (nx ++ own) ∧ OwnOff own (nx.map (·.1)) ∧ J m' nx
theorem Turn.mk {h' : Heap} {own : List (Addr × Obj)} {tk' : Nat} {J : (Str → Option Value) → List (Addr × Obj) → Prop} {m' : Str → Option Value} {nx : List (Addr × Obj)}
    (F : Fr h₀ L h' m') (N : News h₀ L h' (nx ++ own)) (o : OwnOff own (nx.map (·.1))) (k : J m' nx) : Turn h₀ L own J s Q .next { s with heap := h', toks := tk' } := ⟨h', tk', m', nx, rfl, F, N, o, k⟩

theorem loop_cut {x : Str} {body : List Stmt} {I : Addr} {n : Nat} {P : Nat → Value → Prop} {St : Nat → Heap → Prop} {m₀ : Str → Option Value} {news : List (Addr × Obj)} {wr fp : List Addr} (J : Nat → (Str → Option Value) → List (Addr × Obj) → Prop)
    (W : Walks prog w A I fp wr n P St) (hLf : env.locals ∉ fp) (hwr : ∀ b ∈ wr, h₀.get? b = none) (hnw : ∀ p ∈ news, p.1 ∉ wr) (hlive : ∀ i h, St i h → ∀ b ∈ wr, ∃ o, h.get? b = some o) (hfp : ∀ b ∈ fp, h₀.get? b = none → b ∈ wr)
    (hst : St 0 s.heap) (F : Fr h₀ env.locals s.heap m₀) (N : News h₀ env.locals s.heap news) (hj : J 0 m₀ news)
    (turn : ∀ i v m₁ nx h tk own, i < n → P i v → J i m₁ nx → OwnOff own (nx.map (·.1)) → Fr h₀ env.locals h (fun y => if y = x then some v else m₁ y) → News h₀ env.locals h (nx ++ own) →
      wpAny (model prog w) A (execs body env) (Turn h₀ env.locals own (J (i + 1)) s Q) E { s with heap := h, toks := tk })
    (done : ∀ h tk m₁ nx, J n m₁ nx → Fr h₀ env.locals h m₁ → News h₀ env.locals h nx → Q .next { s with heap := h, toks := tk }) :
    LoopAtV prog w A h₀ env x body Q E (.ref I) s := by
  refine ⟨I, fp, wr, n, P, St, m₀, news, J, rfl, W, hLf, hwr, hnw, hst, F, N, hj, ?_, fun h' tk m' news' F' N' _ hJ => done h' tk m' news' hJ F' N'⟩
  rintro i v m₁ news₁ s₁ own ⟨hh', tk', rfl⟩ hin hP hJ hoff hown hget hall hst₁ F₁ N₁
  have hsep : OwnOff own (news₁.map (·.1)) := by
    intro p hp b hb e
    obtain ⟨q, hq, rfl⟩ := List.mem_map.mp hb
    have hn : h₀.get? p.1 = none := (N₁ p (List.mem_append_left _ hp)).2.2
    exact hoff q hq (by rw [← e]; exact hfp p.1 (hown p hp) hn)
  have N₂ : News h₀ env.locals hh' (news₁ ++ own) := fun p hp => N₁ p ((List.mem_append.mp hp).elim (fun h => List.mem_append.mpr (.inr h)) fun h => List.mem_append.mpr (.inl h))
  refine wpAny_mono (turn i v m₁ news₁ hh' tk' own hin hP hJ hsep F₁ N₂) (fun f s₂ p => ?_) fun _ _ e => e
  have fin : (∃ (h' : Heap) (tk : Nat) (m' : Str → Option Value) (nx : List (Addr × Obj)), s₂ = { s with heap := h', toks := tk } ∧ Fr h₀ env.locals h' m' ∧ News h₀ env.locals h' (nx ++ own) ∧ OwnOff own (nx.map (·.1)) ∧ J (i + 1) m' nx) → LoopStepU h₀ env.locals wr own (J (i + 1)) { s with heap := hh', toks := tk' } .next s₂ := by
    rintro ⟨h', tk, m', nx, e, F', N', ho, hm⟩
    refine ⟨rfl, h', tk, m', nx, e, F', fun p hp => N' p ((List.mem_append.mp hp).elim (List.mem_append_right _) (List.mem_append_left _)), fun p hp hq => ?_, hm⟩
    obtain ⟨o, hob⟩ := hlive _ _ hst₁ p.1 hq
    have h1 := hall p.1 (W.sub _ hq) (hwr _ hq) o hob
    exact ho _ h1 p.1 (List.mem_map.mpr ⟨p, hp, rfl⟩) rfl
  cases f with
  | ret v => exact .ret p
  | brk => exact .brk p
  | next => exact .next (fin p)
  | cont => exact .cont (fin p)

theorem small0 {k : Int} (h0 : 0 ≤ k) (h : k ≤ 1000000) : Builtin.Range.small 0 k 1 = true := small_one (by omega) (by omega) (by omega) (by omega)
theorem size0 {k : Nat} : Builtin.Range.rangeSize 0 (k : Int) 1 = (k : Int) := by
  rw [rangeSize_one]; split <;> omega
theorem range0_cut {x : Str} {body : List Stmt} {r : Addr} {b₀ : Int} {t₀ u₀ v₀ : Tok} {n : Nat} {m₀ : Str → Option Value} {news : List (Addr × Obj)} (J : Nat → (Str → Option Value) → List (Addr × Obj) → Prop)
    (hh : A.handled = none) (hr : IsRange s.heap r 0 b₀ 1 t₀ u₀ v₀) (hb : b₀ = (n : Int)) (hn : n ≤ 1000000) (F : Fr h₀ env.locals s.heap m₀) (N : News h₀ env.locals s.heap news) (hj : J 0 m₀ news)
    (turn : ∀ i t m₁ nx h tk own, i < n → J i m₁ nx → OwnOff own (nx.map (·.1)) → Fr h₀ env.locals h (fun y => if y = x then some (.int (i : Nat) t) else m₁ y) → News h₀ env.locals h (nx ++ own) →
      wpAny (model prog w) A (execs body env) (Turn h₀ env.locals own (J (i + 1)) s Q) E { s with heap := h, toks := tk })
    (done : ∀ h tk m₁ nx, J n m₁ nx → Fr h₀ env.locals h m₁ → News h₀ env.locals h nx → Q .next { s with heap := h, toks := tk }) :
    wpAny (model prog w) A (pyIter (.ref r)) (fun it s₂ => LoopAtV prog w A h₀ env x body Q E it s₂) E s := by
  subst hb
  refine wpAny_pyIter_range hr (small0 (by omega) (by omega)) ?_
  refine loop_cut J (Walks.range hh s.heap.objs.size 0 1 n).bound (fun q => Nat.ne_of_lt F.ns.lt (List.mem_singleton.mp q)) (fun b q => List.mem_singleton.mp q ▸ next_is_new F)
    (fun p hp q => Nat.ne_of_lt (Heap.lt_size (N p hp).1) (List.mem_singleton.mp q)) (fun i h st b q => ⟨_, List.mem_singleton.mp q ▸ st⟩) (fun b q _ => q) ?_ (F.push _) (fun p hp => ⟨Heap.get?_push_of_some _ (N p hp).1, (N p hp).2⟩) hj ?_ done
  · rw [size0]
    simpa using Heap.get?_push_size s.heap rfl
  · rintro i v m₁ nx h tk own hi ⟨_, t, rfl⟩ hJ ho F₁ N₁
    rw [Int.mul_one, Int.zero_add] at F₁
    exact turn i t m₁ nx h tk own hi hJ ho F₁ N₁
end
end
section

/-- how many signs two texts begin with alike -/
noncomputable def cpl : List Nat → List Nat → Nat
  | a :: as, b :: bs => if a = b then cpl as bs + 1 else 0
  | _, _ => 0
theorem cpl_nil_left (b : List Nat) : cpl [] b = 0 := by cases b <;> rfl
theorem cpl_nil_right (a : List Nat) : cpl a [] = 0 := by cases a <;> rfl
theorem cpl_le_left : ∀ (a b : List Nat), cpl a b ≤ a.length
  | [], b => by rw [cpl_nil_left]; exact Nat.zero_le _
  | a :: as, [] => by rw [cpl_nil_right]; exact Nat.zero_le _
  | a :: as, b :: bs => by
    unfold cpl; split
    · have := cpl_le_left as bs; simp; omega
    · simp
theorem cpl_comm : ∀ (a b : List Nat), cpl a b = cpl b a
  | [], b => by rw [cpl_nil_left, cpl_nil_right]
  | a :: as, [] => by rw [cpl_nil_left, cpl_nil_right]
  | a :: as, b :: bs => by
    unfold cpl
    by_cases h : a = b
    · subst h; simp [cpl_comm as bs]
    · rw [if_neg h, if_neg (fun e => h e.symm)]
theorem cpl_le_right (a b : List Nat) : cpl a b ≤ b.length := cpl_comm a b ▸ cpl_le_left b a
theorem cpl_drop {a b : List Nat} {k : Nat} (ha : k < a.length) (hb : k < b.length) : cpl (a.drop k) (b.drop k) = if a.getD k 0 = b.getD k 0 then cpl (a.drop (k + 1)) (b.drop (k + 1)) + 1 else 0 := by
  rw [List.drop_eq_getElem_cons ha, List.drop_eq_getElem_cons hb]
  simp [cpl, ha, hb]

/-- the three signs that the law's texts are made of -/
noncomputable def OkC (c : Nat) : Prop := c = 97 ∨ c = 65 ∨ c = 32
noncomputable def cost (a b : Nat) : Int := if a = b then 0 else if a = 32 then 2 else if b = 32 then 2 else 1

/-- a cell: the least of a step from the left, from above, and from above to the left -/
noncomputable def cell (res r sub : Int) : Int := if sub < (if r < res then r else res) + 2 then sub else (if r < res then r else res) + 2
/-- one row of the table: `cs` the letters of a, `row` the row above; `d` the cell above to the left, `res` the cell to the left, `mn` the least so far -/
noncomputable def inner (bc : Nat) : List Nat → List Int → Int → Int → Int → List Int × Int × Int
  | c :: cs, r :: rs, d, res, mn =>
    let res' := cell res r (d + cost bc c)
    let mn' := if res' < mn then res' else mn
    let o := inner bc cs rs r res' mn'
    (res' :: o.1, o.2)
  | _, _, _, res, mn => ([], res, mn)
noncomputable def outerL (a : List Nat) (mc : Int) : List Nat → Int → List Int → Int → Int
  | [], _, _, res => res
  | bc :: bs, k, row, _ =>
    let o := inner bc a row (2 * k) (2 * k) 9223372036854775807
    if mc < o.2.2 then mc + 1 else outerL a mc bs (k + 1) o.1 o.2.1
noncomputable def row0 : Nat → Int → List Int
  | 0, _ => []
  | n + 1, k => k :: row0 n (k + 2)
noncomputable def levB (a b : List Nat) (mc : Int) : Int :=
  if mc < ((b.length : Int) - a.length) * 2 then mc + 1 else outerL a mc b 0 (row0 a.length 2) 0
noncomputable def levS (a b : List Nat) (mc : Int) : Int := if b.length < a.length then levB b a mc else levB a b mc
noncomputable def cutTail (a b : List Nat) : List Nat := a.take (a.length - cpl a.reverse b.reverse)
noncomputable def levC (a b : List Nat) (mc : Int) : Int :=
  if a = [] ∨ b = [] then 2 * ((a.length : Int) + b.length) else levS a b mc
noncomputable def levM (a b : List Nat) (mc : Int) : Int := levC (cutTail a b) (cutTail b a) mc
noncomputable def lev (a b : List Nat) (mc : Int) : Int :=
  if a = b then 0 else levM (a.drop (cpl a b)) (b.drop (cpl a b)) mc
theorem cpl_end_a {a b : List Nat} {k : Nat} (h : a.length ≤ k) : cpl (a.drop k) (b.drop k) = 0 := by
  rw [List.drop_of_length_le h, cpl_nil_left]
theorem cpl_end_b {a b : List Nat} {k : Nat} (h : b.length ≤ k) : cpl (a.drop k) (b.drop k) = 0 := by
  rw [List.drop_of_length_le h, cpl_nil_right]
theorem okc_drop {a : List Nat} (h : ∀ c ∈ a, OkC c) (k : Nat) : ∀ c ∈ a.drop k, OkC c := fun c hc => h c (List.mem_of_mem_drop hc)
theorem okc_take {a : List Nat} (h : ∀ c ∈ a, OkC c) (k : Nat) : ∀ c ∈ a.take k, OkC c := fun c hc => h c (List.mem_of_mem_take hc)
theorem inner_step {bc : Nat} {cs : List Nat} {rs : List Int} {j : Nat} {d res mn : Int} (hc : j < cs.length) (hr : j < rs.length) :
    inner bc (cs.drop j) (rs.drop j) d res mn =
      let res' := cell res (rs.getD j 0) (d + cost bc (cs.getD j 0))
      let mn' := if res' < mn then res' else mn
      let o := inner bc (cs.drop (j + 1)) (rs.drop (j + 1)) (rs.getD j 0) res' mn'
      (res' :: o.1, o.2) := by
  rw [List.drop_eq_getElem_cons hc, List.drop_eq_getElem_cons hr]
  simp [inner, hc, hr]
theorem inner_nil {bc : Nat} {rs : List Int} {d res mn : Int} : inner bc [] rs d res mn = ([], res, mn) := by
  cases rs <;> rfl
theorem inner_len {bc : Nat} : ∀ {cs : List Nat} {rs : List Int} {d res mn : Int}, cs.length = rs.length → (inner bc cs rs d res mn).1.length = rs.length
  | [], [], _, _, _, _ => rfl
  | [], _ :: _, _, _, _, h => by simp at h
  | _ :: _, [], _, _, _, h => by simp at h
  | c :: cs, r :: rs, d, res, mn, h => by
    simp only [inner, List.length_cons]
    rw [inner_len (by simpa using h)]
theorem row0_len : ∀ (n : Nat) (k : Int), (row0 n k).length = n
  | 0, _ => rfl
  | n + 1, k => by simp [row0, row0_len n]
theorem outer_step {a : List Nat} {mc : Int} {b : List Nat} {i : Nat} {row : List Int} {res : Int} (h : i < b.length) :
    outerL a mc (b.drop i) i row res =
      let o := inner (b.getD i 0) a row (2 * i) (2 * i) 9223372036854775807
      if mc < o.2.2 then mc + 1 else outerL a mc (b.drop (i + 1)) ((i : Int) + 1) o.1 o.2.1 := by
  rw [List.drop_eq_getElem_cons h]
  simp [outerL, h]
theorem set_mid {dn row : List Int} {j : Nat} {v : Int} (h : dn.length = j) (hj : j < row.length) : (dn ++ row.drop j).set j v = (dn ++ [v]) ++ row.drop (j + 1) := by
  rw [List.drop_eq_getElem_cons hj]
  subst h
  rw [List.set_append_right _ _ (Nat.le_refl _), Nat.sub_self, List.set_cons_zero]
  simp
theorem get_mid {dn row : List Int} {j : Nat} (h : dn.length = j) (hj : j < row.length) : (dn ++ row.drop j).getD j 0 = row.getD j 0 := by
  rw [List.drop_eq_getElem_cons hj, List.getD_eq_getElem?_getD, List.getD_eq_getElem?_getD]
  subst h
  rw [List.getElem?_append_right (Nat.le_refl _), Nat.sub_self]
  simp [hj]
theorem inner_turn {bc : Nat} {a : List Nat} {row dn : List Int} {j : Nat} {d res mn d0 r0 m0 v mn' : Int} (ha : j < a.length) (hr : j < row.length)
    (h : inner bc a row d0 r0 m0 = (dn ++ (inner bc (a.drop j) (row.drop j) d res mn).1, (inner bc (a.drop j) (row.drop j) d res mn).2))
    (hv : v = cell res (row.getD j 0) (d + cost bc (a.getD j 0))) (hm : mn' = if v < mn then v else mn) :
    inner bc a row d0 r0 m0 = ((dn ++ [v]) ++ (inner bc (a.drop (j + 1)) (row.drop (j + 1)) (row.getD j 0) v mn').1, (inner bc (a.drop (j + 1)) (row.drop (j + 1)) (row.getD j 0) v mn').2) := by
  rw [h, inner_step ha hr]
  subst hv hm
  simp
theorem levC_swap {a b : List Nat} {mc : Int} (ha : a.length ≠ 0) (hb : b.length ≠ 0) (h : b.length < a.length) : levC a b mc = levB b a mc := by
  unfold levC levS
  rw [if_neg (by rintro (rfl | rfl) <;> simp at *), if_pos h]
theorem levC_same {a b : List Nat} {mc : Int} (ha : a.length ≠ 0) (hb : b.length ≠ 0) (h : ¬ b.length < a.length) : levC a b mc = levB a b mc := by
  unfold levC levS
  rw [if_neg (by rintro (rfl | rfl) <;> simp at *), if_neg h]
theorem levC_nil {a b : List Nat} {mc : Int} (h : a.length = 0 ∨ b.length = 0) : levC a b mc = 2 * ((a.length : Int) + b.length) := by
  unfold levC
  rw [if_pos (h.imp List.length_eq_zero_iff.mp List.length_eq_zero_iff.mp)]
end
section
open PySem PySem.W PyProof.Rows
theorem row0_range : ∀ (n : Nat) (k : Int), row0 n k = rangeInts k 2 n
  | 0, _ => rfl
  | n + 1, k => by
    unfold row0
    rw [row0_range n (k + 2)]
    unfold rangeInts
    rw [List.range_succ_eq_map, List.map_cons, List.map_map]
    simp only [Int.natCast_zero, Int.zero_mul, Int.add_zero, List.cons.injEq, true_and]
    apply List.map_congr_left
    intro i _
    simp only [Function.comp]
    push_cast
    omega
theorem size2 (n : Nat) (h : n ≤ 1000000) : Builtin.Range.small 2 (2 * ((n : Int) + 1)) 2 = true ∧ Builtin.Range.rangeSize 2 (2 * ((n : Int) + 1)) 2 = (n : Int) := by
  have h2 : Builtin.Range.rangeSize 2 (2 * ((n : Int) + 1)) 2 = (n : Int) := by
    unfold Builtin.Range.rangeSize
    simp
    split <;> omega
  refine ⟨?_, h2⟩
  unfold Builtin.Range.small
  rw [h2]
  have q : ∀ k : Int, -(2 ^ 62) ≤ k → k < 2 ^ 62 → Builtin.Range.rangeFitsLong k = true := fun k h1 h2 => by
    unfold Builtin.Range.rangeFitsLong
    simp only [Bool.and_eq_true, decide_eq_true_eq]
    omega
  simp only [Bool.and_eq_true, Bool.or_eq_true]
  refine ⟨⟨⟨⟨q _ (by omega) (by omega), q _ (by omega) (by omega)⟩, q _ (by omega) (by omega)⟩, q _ (by omega) (by omega)⟩, .inr ?_⟩
  rw [if_pos (by decide)]
  exact q _ (by omega) (by omega)
section
variable {prog : Program} {w : World} {A : Around} {E : Value → Shared → Prop} {s : Shared} {h₀ : Heap} {L : Addr} {m : Str → Option Value}
theorem list_rangeK {r : Addr} {a b c : Int} {t u v : Tok} {n : Nat} {news : List (Addr × Obj)} {Q : Value → Shared → Prop} (hh : A.handled = none) (Fh : Fr h₀ L s.heap m) (N : News h₀ L s.heap news)
    (hr : IsRange s.heap r a b c t u v) (hsmall : Builtin.Range.small a b c = true) (hn : Builtin.Range.rangeSize a b c = (n : Int)) (hlen : n ≤ 2 ^ 24)
    (hQ : ∀ D h' tk (ys : List Value) (k : Nat), Fr h₀ L h' m → News h₀ L h' ((D, W.listOf ys.toArray k) :: news) → (∀ p ∈ news, p.1 < D) → IntsAre ys (rangeInts a c n) → Q (.ref D) { s with heap := h', toks := tk }) :
    wpAny (model prog w) A (call (.type "list") [.ref r]) Q E s := by
  refine list_rangeD hh Fh N hr hsmall hn hlen fun h' tk ys F' N' hk h0 hl hp hc => ?_
  obtain ⟨⟨k, hD⟩, hne⟩ := hp
  refine hQ _ h' tk ys k F' (fun p hp => ?_) (fun p hp => Heap.lt_size (N p hp).1) (ints_of_carried hc)
  rcases List.mem_cons.mp hp with rfl | hp
  · exact ⟨hD, fun e => absurd Fh.ns.lt (e ▸ Nat.lt_irrefl _), h0⟩
  · exact N' p hp
end
section
variable {prog : Program} {w : World} {A : Around} {E : Value → Shared → Prop} {Q : Flow → Shared → Prop} {s : Shared} {env : Env} {h₀ : Heap}
theorem list_cut {x : Str} {body : List Stmt} {l : Addr} {vs : List Value} {ns : List Int} {nn : Nat} {m₀ : Str → Option Value} {news : List (Addr × Obj)} (J : Nat → (Str → Option Value) → List (Addr × Obj) → Prop)
    (hh : A.handled = none) (hl : (l, W.listOf vs.toArray nn) ∈ news) (hi : IntsAre vs ns) (F : Fr h₀ env.locals s.heap m₀) (N : News h₀ env.locals s.heap news) (hj : J 0 m₀ news)
    (turn : ∀ i n t m₁ nx h tk own, ns[i]? = some n → J i m₁ nx → (l, W.listOf vs.toArray nn) ∈ nx → OwnOff own (nx.map (·.1)) → Fr h₀ env.locals h (fun y => if y = x then some (.int n t) else m₁ y) → News h₀ env.locals h (nx ++ own) →
      wpAny (model prog w) A (execs body env) (Turn h₀ env.locals own (fun m nx' => (l, W.listOf vs.toArray nn) ∈ nx' ∧ J (i + 1) m nx') s Q) E { s with heap := h, toks := tk })
    (done : ∀ h tk m₁ nx, J ns.length m₁ nx → (l, W.listOf vs.toArray nn) ∈ nx → Fr h₀ env.locals h m₁ → News h₀ env.locals h nx → Q .next { s with heap := h, toks := tk }) :
    wpAny (model prog w) A (pyIter (.ref l)) (fun it s₂ => LoopAtV prog w A h₀ env x body Q E it s₂) E s := by
  have hls : s.heap.IsList l vs.toArray := ⟨_, (N _ hl).1, rfl, nn, rfl⟩
  have hlL : l ≠ env.locals := (N _ hl).2.1
  have hl0 : h₀.get? l = none := (N _ hl).2.2
  have hne : l ≠ s.heap.objs.size := Nat.ne_of_lt (Heap.lt_size (N _ hl).1)
  refine wpAny_pyIter_list hls ?_
  have W9 := Walks.list (prog := prog) (w := w) hh s.heap.objs.size l hne vs.toArray
  have hlen : vs.toArray.size = ns.length := by simp [hi.length]
  rw [hlen] at W9
  refine ⟨_, _, _, ns.length, _, _, m₀, news, (fun i m nx => (l, W.listOf vs.toArray nn) ∈ nx ∧ J i m nx), rfl, W9, ?_, ?_, ?_, ⟨⟨_, Heap.get?_push_size _ rfl, rfl, rfl⟩, hls.at fun o e => Heap.get?_push_of_some _ e⟩, F.push _, (fun p hp => ⟨Heap.get?_push_of_some _ (N p hp).1, (N p hp).2⟩), ⟨hl, hj⟩, ?_, ?_⟩
  · intro hm
    rcases List.mem_cons.mp hm with e | hm
    · exact absurd F.ns.lt (e ▸ Nat.lt_irrefl _)
    · exact hlL (List.mem_singleton.mp hm).symm
  · intro b hb
    rw [List.mem_singleton.mp hb]
    exact next_is_new F
  · intro p hp hI
    exact absurd (Heap.lt_size (N p hp).1) ((List.mem_singleton.mp hI) ▸ Nat.lt_irrefl _)
  · rintro i v m₁ news₁ s₁ own ⟨hh', tk', rfl⟩ hin hP ⟨hml, hJ⟩ hoff hown hget hall hst₁ F₁ N₁
    have hlt' : i < ns.length := hin
    obtain ⟨t, hx⟩ := hi.get i ns[i] (by simp [hlt'])
    have hv : v = .int ns[i] t := by
      have hP' : vs[i]? = some v := by simpa using hP
      rw [hx] at hP'; exact (Option.some.inj hP').symm
    subst hv
    have hsep : OwnOff (own.filter fun p => p.1 == s.heap.objs.size) (news₁.map (·.1)) := by
      intro p hp b hb e
      obtain ⟨q, hq, rfl⟩ := List.mem_map.mp hb
      have := (List.mem_filter.mp hp).2
      exact hoff q hq (by rw [← e]; exact List.mem_singleton.mpr (by simpa using this))
    have N₂ : News h₀ env.locals hh' (news₁ ++ own.filter fun p => p.1 == s.heap.objs.size) := fun p hp => N₁ p ((List.mem_append.mp hp).elim (List.mem_append_right _) fun h => List.mem_append_left _ (List.mem_filter.mp h).1)
    have hgl : hh'.get? l = some (W.listOf vs.toArray nn) := (N₁ _ (List.mem_append_right _ hml)).1
    refine wpAny_mono (turn i ns[i] t m₁ news₁ hh' tk' _ (by simp [hlt']) hJ hml hsep F₁ N₂) (fun f s₂ p => ?_) fun _ _ e => e
    have fin : (∃ (h' : Heap) (tk : Nat) (m' : Str → Option Value) (nx : List (Addr × Obj)), s₂ = { s with heap := h', toks := tk } ∧ Fr h₀ env.locals h' m' ∧ News h₀ env.locals h' (nx ++ own.filter fun p => p.1 == s.heap.objs.size) ∧ OwnOff (own.filter fun p => p.1 == s.heap.objs.size) (nx.map (·.1)) ∧ (l, W.listOf vs.toArray nn) ∈ nx ∧ J (i + 1) m' nx) →
        LoopStepU h₀ env.locals [s.heap.objs.size] own (fun m nx => (l, W.listOf vs.toArray nn) ∈ nx ∧ J (i + 1) m nx) { s with heap := hh', toks := tk' } .next s₂ := by
      rintro ⟨h', tk, m', nx, e, F', N', ho, hml', hm⟩
      refine ⟨rfl, h', tk, m', nx, e, F', fun p hp => ?_, fun p hp hq => ?_, hml', hm⟩
      · rcases List.mem_append.mp hp with h1 | h1
        · rcases List.mem_cons.mp (hown p h1) with h2 | h2
          · exact N' p (List.mem_append_right _ (List.mem_filter.mpr ⟨h1, by simpa using h2⟩))
          · have h3 := List.mem_singleton.mp h2
            have h4 := hget p h1
            rw [h3] at h4
            have h5 : p.2 = W.listOf vs.toArray nn := (Option.some.inj (h4.symm.trans hgl))
            have h6 : p = (l, W.listOf vs.toArray nn) := Prod.ext h3 h5
            rw [h6]
            exact N' _ (List.mem_append_left _ hml')
        · exact N' p (List.mem_append_left _ h1)
      · have hp1 := List.mem_singleton.mp hq
        obtain ⟨o, ho1, _⟩ := hst₁.1
        have h1 := hall s.heap.objs.size (by simp) (next_is_new F) o ho1
        exact ho _ (List.mem_filter.mpr ⟨h1, by simp⟩) p.1 (List.mem_map.mpr ⟨p, hp, rfl⟩) hp1.symm
    cases f with
    | ret v => exact .ret p
    | brk => exact .brk p
    | next => exact .next (fin p)
    | cont => exact .cont (fin p)
  · rintro h' tk m' news' F' N' _ ⟨hml, hJ⟩
    exact done h' tk m' news' hJ hml F' N'
end
section
variable {prog : Program} {w : World} {A : Around} {E : Value → Shared → Prop} {Q : Flow → Shared → Prop} {s : Shared} {env : Env} {h₀ : Heap}
inductive FlInv (h₀ : Heap) (L : Addr) (s : Shared) (l : Addr) (vs : List Value) (nn : Nat) (J : Nat → (Str → Option Value) → List (Addr × Obj) → Prop) (k : Nat) (s' : Shared) : Prop
  | mk (h' : Heap) (tk : Nat) (m' : Str → Option Value) (nx : List (Addr × Obj)) (i : Nat) (e : s' = { s with heap := h', toks := tk }) (hit : h'.IsListIter s.heap.objs.size l i) (F' : Fr h₀ L h' m') (N' : News h₀ L h' nx)
      (hne : ∀ p ∈ nx, p.1 ≠ s.heap.objs.size) (hml : (l, W.listOf vs.toArray nn) ∈ nx) (hJ : J i m' nx) (hi : i ≤ vs.length) (hk : k = vs.length + 1 - i) : FlInv h₀ L s l vs nn J k s'
/-- a for over a list of the ledger, whatever its target is -/
theorem forList_cut {target iter : PySem.Expr} {body : List Stmt} {pos : Pos} {l : Addr} {vs : List Value} {nn : Nat} {m₀ : Str → Option Value} {news : List (Addr × Obj)} (J : Nat → (Str → Option Value) → List (Addr × Obj) → Prop)
    (hh : A.handled = none) (hev : ∀ Q' : Value → Shared → Prop, Q' (.ref l) s → wpAny (model prog w) A (eval iter env) Q' E s)
    (hl : (l, W.listOf vs.toArray nn) ∈ news) (F : Fr h₀ env.locals s.heap m₀) (N : News h₀ env.locals s.heap news) (hj : J 0 m₀ news)
    (turn : ∀ i v m₁ nx h tk own, vs[i]? = some v → J i m₁ nx → (l, W.listOf vs.toArray nn) ∈ nx → OwnOff own (nx.map (·.1)) → Fr h₀ env.locals h m₁ → News h₀ env.locals h (nx ++ own) →
      wpAny (model prog w) A (assign target env v) (fun _ s₂ => wpAny (model prog w) A (execs body env) (Turn h₀ env.locals own (fun m nx' => (l, W.listOf vs.toArray nn) ∈ nx' ∧ J (i + 1) m nx') s Q) E s₂) E { s with heap := h, toks := tk })
    (done : ∀ h tk m₁ nx, J vs.length m₁ nx → (l, W.listOf vs.toArray nn) ∈ nx → Fr h₀ env.locals h m₁ → News h₀ env.locals h nx → Q .next { s with heap := h, toks := tk })
    (hs : ∀ x, foldedSetIterable iter env x = pure x := by intro _; rfl) (hlo : ∀ I v, letOwnedTupleGo target (.ref I) v = pure () := by intro _ _; rfl)
    (hE : PassesOwn (model prog w) A env E := by passes_own) :
    wpAny (model prog w) A (exec (.For target iter body [] pos) env) Q E s := by
  refine wpAny_For (hev _ ?_) hs
  have hls : s.heap.IsList l vs.toArray := ⟨_, (N _ hl).1, rfl, nn, rfl⟩
  refine wpAny_pyIter_list hls ?_
  have hlt : ∀ b o, s.heap.get? b = some o → b ≠ s.heap.objs.size := fun b o e => Nat.ne_of_lt (Heap.lt_size e)
  have hIL : s.heap.objs.size ≠ env.locals := fun e => absurd F.ns.lt (e ▸ Nat.lt_irrefl _)
  have hI0 : h₀.get? s.heap.objs.size = none := next_is_new F
  refine codeAny_forLoop (R := fun r s' => match r with | .ok f => Q f s' | .error e => cameBackBy (model prog w) A env E e s')
    (FlInv h₀ env.locals s l vs nn J) ?_ (vs.length + 1)
    ⟨_, s.toks, m₀, news, 0, rfl, ⟨_, Heap.get?_push_size _ rfl, rfl, rfl⟩, F.push _, (fun p hp => ⟨Heap.get?_push_of_some _ (N p hp).1, (N p hp).2⟩), (fun p hp => hlt _ _ (N p hp).1), hl, hj, Nat.zero_le _, rfl⟩ (hlo _)
  rintro k s' ⟨h', tk, m', nx, i, rfl, hit, F', N', hne, hml, hJ, hi, rfl⟩
  have hl' : h'.IsList l vs.toArray := ⟨_, (N' _ hml).1, rfl, nn, rfl⟩
  have keep : ∀ h₁ : Heap, (∀ b o, b ≠ s.heap.objs.size → h'.get? b = some o → h₁.get? b = some o) → Fr h₀ env.locals h₁ m' ∧ News h₀ env.locals h₁ nx := fun h₁ hk =>
    ⟨⟨F'.ns.at' fun o e => hk _ o (Ne.symm hIL) e, fun b o e => hk b o (fun q => by rw [q, hI0] at e; cases e) (F'.keep b o e), F'.above⟩, fun p hp => ⟨hk _ _ (hne p hp) (N' p hp).1, (N' p hp).2⟩⟩
  cases hv : vs[i]? with
  | none =>
    have hsz : i = vs.length := Nat.le_antisymm hi (by simpa using hv)
    refine wpAny_pyNext_list_end hh hit hl' (by simpa using hv) fun h₁ he₁ => wpAny_execs_nil ?_
    obtain ⟨F₁, N₁⟩ := keep h₁ fun b o hb e => he₁ b o hb e
    exact done h₁ tk m' nx (hsz ▸ hJ) hml F₁ N₁
  | some v =>
    have hlt' : i < vs.length := (List.getElem?_eq_some_iff.mp hv).1
    refine wpAny_pyNext_list_item hit hl' (by simpa using hv) fun h₁ hit₁ hs₁ => ?_
    obtain ⟨F₁, N₁⟩ := keep h₁ fun b o hb e => hs₁.extBut b o hb e
    obtain ⟨oI, hoI, hoI2⟩ := id hit₁
    have N₂ : News h₀ env.locals h₁ (nx ++ [(s.heap.objs.size, oI)]) := fun p hp => by
      rcases List.mem_append.mp hp with h | h
      · exact N₁ p h
      · rw [List.mem_singleton.mp h]; exact ⟨hoI, hIL, hI0⟩
    have hoff : OwnOff [(s.heap.objs.size, oI)] (nx.map (·.1)) := by
      intro p hp b hb e
      obtain ⟨q, hq, rfl⟩ := List.mem_map.mp hb
      rw [List.mem_singleton.mp hp] at e
      exact hne q hq e.symm
    refine wpAny_passesOwn hE (wpAny_mono (turn i v m' nx h₁ tk _ hv hJ hml hoff F₁ N₂) (fun _ s₂ h₂ => wpAny_passesOwn hE (wpAny_mono h₂ (fun f s₃ h₃ => ?_) fun _ _ e => e)) fun _ _ e => e)
    have fin : (∃ (h' : Heap) (tk : Nat) (m' : Str → Option Value) (nx : List (Addr × Obj)), s₃ = { s with heap := h', toks := tk } ∧ Fr h₀ env.locals h' m' ∧ News h₀ env.locals h' (nx ++ [(s.heap.objs.size, oI)]) ∧ OwnOff [(s.heap.objs.size, oI)] (nx.map (·.1)) ∧ (l, W.listOf vs.toArray nn) ∈ nx ∧ J (i + 1) m' nx) →
        ∃ m, m < vs.length + 1 - i ∧ FlInv h₀ env.locals s l vs nn J m s₃ := by
      rintro ⟨h2, tk2, m2, nx2, e, F2, N2, ho, hml2, hJ2⟩
      exact ⟨vs.length + 1 - (i + 1), by omega, h2, tk2, m2, nx2, i + 1, e, ⟨oI, (N2 _ (List.mem_append_right _ (.head _))).1, hoI2⟩, F2, (fun p hp => N2 p (List.mem_append_left _ hp)), (fun p hp e => ho _ (.head _) p.1 (List.mem_map.mpr ⟨p, hp, rfl⟩) e.symm), hml2, hJ2, hlt', rfl⟩
    cases f with
    | ret v => exact h₃
    | brk => exact h₃
    | next => exact fin h₃
    | cont => exact fin h₃
end
end
section
open PySem PySem.W PyProof.Rows PyProof.Rows.LCg
section
variable {prog : Program} {w : World} {A : Around} {E : Value → Shared → Prop} {s : Shared} {h₀ : Heap} {L : Addr} {m : Str → Option Value} {env : Env}

noncomputable def ElemZ (prog : Program) (w : World) (A : Around) (h₀ : Heap) (L : Addr) (m : Str → Option Value) (env : Env) (elt : PySem.Expr) (x x₂ : Str) (scope : Scope) (cl : List (Str × Addr)) (g : Int → Int → Int) (news : List (Addr × Obj)) (s : Shared) : Prop :=
  ∀ (a b : Int) (ta tb : Tok) I oI C oC D oD m₂ h tk (Q' E' : Value → Shared → Prop), NsObj oC m₂ → m₂ x = some (.int a ta) → m₂ x₂ = some (.int b tb) → Fr h₀ L h m → News h₀ L h ((I, oI) :: (C, oC) :: (D, oD) :: news) →
    (∀ tk t, Q' (.int (g a b) t) { s with heap := h, toks := tk }) → wpAny (model prog w) A (eval elt (compEnvC scope cl C env)) Q' E' { s with heap := h, toks := tk }

noncomputable def SrcZ (prog : Program) (w : World) (A : Around) (h₀ : Heap) (L : Addr) (m : Str → Option Value) (env : Env) (elt : PySem.Expr) (x x₂ y : Str) (scope : Scope) (cl : List (Str × Addr)) (g : Int → Int → Int) (Q : Flow → Shared → Prop) (xv : Value) (s₁ : Shared) : Prop :=
  ∃ (z TI TO i1 i2 l1 l2 : Addr) (xs ys : List Value) (c1 c2 : Nat) (as bs : List Int) (news : List (Addr × Obj)), xv = .ref z ∧ A.handled = none ∧ ZipApart z TI TO i1 i2 l1 l2 ∧ IsZip s₁.heap z TI TO .none ∧ IsPair s₁.heap TI (.ref i1) (.ref i2) ∧ (∃ a b, IsPair s₁.heap TO a b) ∧
    s₁.heap.IsListIter i1 l1 0 ∧ s₁.heap.IsListIter i2 l2 0 ∧ (l1, W.listOf xs.toArray c1) ∈ news ∧ (l2, W.listOf ys.toArray c2) ∈ news ∧ IntsAre xs as ∧ IntsAre ys bs ∧ as.length ≤ 1000 ∧ Fr h₀ L s₁.heap m ∧ News h₀ L s₁.heap news ∧
    (∀ q ∈ [z, TO, i1, i2], L ≠ q ∧ h₀.get? q = none ∧ ∀ p ∈ news, p.1 ≠ q) ∧ ElemZ prog w A h₀ L m env elt x x₂ scope cl g news s₁ ∧
    ∀ D (zs : List Value) c h' tk, IntsAre zs (List.zipWith g as bs) → Fr h₀ L h' (fun v => if v = y then some (.ref D) else m v) → News h₀ L h' ((D, W.listOf zs.toArray c) :: news) → (∀ p ∈ news, p.1 < D) → Q .next { s₁ with heap := h', toks := tk }

theorem IntsAre.snoc {vs : List Value} {ns : List Int} (h : IntsAre vs ns) (n : Int) (t : Tok) : IntsAre (vs ++ [.int n t]) (ns ++ [n]) := by
  induction h with
  | nil => exact .cons _ _ .nil
  | cons a b _ ih => exact .cons a b ih

noncomputable def ZSt (z TI TO i1 i2 l1 l2 : Addr) (xs ys : Array Value) (h : Heap) (i : Nat) : Prop :=
  IsZip h z TI TO .none ∧ IsPair h TI (.ref i1) (.ref i2) ∧ (∃ a b, IsPair h TO a b) ∧ h.IsListIter i1 l1 i ∧ h.IsListIter i2 l2 i ∧ h.IsList l1 xs ∧ h.IsList l2 ys
inductive ZInv (h₀ : Heap) (L : Addr) (m : Str → Option Value) (s₁ : Shared) (D C z TI TO i1 i2 l1 l2 : Addr) (xs ys : Array Value) (zw : List Int) (news : List (Addr × Obj)) (k : Nat) (s' : Shared) : Prop
  | mk (h' : Heap) (tk i : Nat) (zs : List Value) (m' : Str → Option Value) (e : s' = { s₁ with heap := h', toks := tk }) (hi : i ≤ zw.length) (hk : k = zw.length + 1 - i) (hyl : zs.length = i) (hzs : IntsAre zs (zw.take i))
      (hst : ZSt z TI TO i1 i2 l1 l2 xs ys h' i) (F' : Fr h₀ L h' m) (hn' : h'.Ns C m') (N' : News h₀ L h' ((D, lst zs) :: news)) : ZInv h₀ L m s₁ D C z TI TO i1 i2 l1 l2 xs ys zw news k s'
theorem Assign_zip {elt iter : PySem.Expr} {x x₂ y : Str} {px px₂ tp py : Pos} {kk} {scope : Scope} {cl : List (Str × Addr)} {pos spos : Pos} {g : Int → Int → Int} {Q : Flow → Shared → Prop} (_F₀ : Fr h₀ L s.heap m) (hLe : env.locals = L)
    (hsw : swapsWith (.ListComp elt [⟨.Tuple [.Name x px, .Name x₂ px₂] kk tp, iter, [], 0⟩] scope pos) (some (.Name y py)) spos.line env = pure true)
    (hclos : closureFor scope env = pure cl) (hcell : ∀ z ∈ scope.names, z.2 ≠ .cell) (hkind : scope.kind = .function)
    (hnames : ∀ z ∈ scope.names, z.2 = .local → scope.names.lookup z.1 = some .local) (hx : scope.names.lookup x = some .local) (hx₂ : scope.names.lookup x₂ = some .local) (hxx : ¬ x = x₂)
    (hy : env.kindOf y = some .local) (hp : (env.scope.kind == .class || (env.scope.kind == .module && env.locals != env.globals)) = false)
    (h : wpAny (model prog w) A (eval iter env) (SrcZ prog w A h₀ L m env elt x x₂ y scope cl g Q) E s)
    (hs : ∀ x, foldedSetIterable iter env x = pure x := by intro _; rfl) :
    wpAny (model prog w) A (exec (.Assign [.Name y py] (.ListComp elt [⟨.Tuple [.Name x px, .Name x₂ px₂] kk tp, iter, [], 0⟩] scope pos) spos) env) Q E s := by
  clear _F₀
  subst hLe
  rw [exec_Assign_Name_used _ _ _ _ hsw]
  refine wpAny_bind (wpAny_standAt (wpAny_bind ?_))
  show wpAny _ A (do let _ ← comprehension (.ListComp elt [⟨.Tuple [.Name x px, .Name x₂ px₂] kk tp, iter, [], 0⟩] scope pos) scope env _ (newList []) false (eval iter env) (some (assign (.Name y py) env))) _ _ s
  refine wpAny_bind (wpAny_mono (wpAny_comprehension_free (use := some (assign (.Name y py) env)) (Q := fun _ s' => Q .next s') rfl hs hclos hkind hnames
    (wpAny_mono h (fun xv s₁ h₁ => ?_) fun _ _ e => e)) (fun _ s' hq => wpAny_pure (wpAny_pure hq)) fun _ _ e => e)
  obtain ⟨z, TI, TO, i1, i2, l1, l2, xs, ys, c1, c2, as, bs, news, rfl, hh, ZA, hz, hTI, hTO, hi1, hi2, hm1, hm2, hxs, hys, hlen, F, N, hnew, elem, fin⟩ := h₁
  refine wpAny_pyIter_zip hz ?_
  have W := WalksT.zip2 (prog := prog) (w := w) hh z TI TO i1 i2 l1 l2 ZA xs.toArray ys.toArray
  have hn : min xs.toArray.size ys.toArray.size = (List.zipWith g as bs).length := by simp [hxs.length, hys.length]
  rw [hn] at W
  have hnl : (List.zipWith g as bs).length ≤ 1000 := Nat.le_trans (by simp; omega) hlen
  have hL1 : s₁.heap.IsList l1 xs.toArray := ⟨_, (N _ hm1).1, rfl, c1, rfl⟩
  have hL2 : s₁.heap.IsList l2 ys.toArray := ⟨_, (N _ hm2).1, rfl, c2, rfl⟩
  refine wpAny_newObj_type (wpAny_newFunctionEnv hcell (by intro y hy; simp at hy) (fun h₁ hns₁ hsb₁ => ?_) hkind)
  dsimp only at hns₁ hsb₁ ⊢
  generalize hH2 : s₁.heap.push { cls := .type "list", dict := none, data := .seq ([] : List Value).toArray } = H2 at hns₁ hsb₁ ⊢
  have hC : H2.objs.size = s₁.heap.objs.size + 1 := by rw [← hH2, Heap.size_push]
  have hDC : s₁.heap.objs.size ≠ H2.objs.size := by rw [hC]; exact Nat.ne_of_lt (Nat.lt_succ_self _)
  have below : ∀ b, b < s₁.heap.objs.size → b ≠ H2.objs.size ∧ b ≠ s₁.heap.objs.size := fun b hb => ⟨by rw [hC]; exact Nat.ne_of_lt (Nat.lt_succ_of_lt hb), Nat.ne_of_lt hb⟩
  have old : ∀ b o, s₁.heap.get? b = some o → h₁.get? b = some o := fun b o e => hsb₁.extBut b o (below b (Heap.lt_size e)).1 (Heap.get?_push_of_some _ (hH2 ▸ Heap.get?_push_of_some _ e))
  have hacc : h₁.get? s₁.heap.objs.size = some (lst []) := hsb₁.extBut _ _ hDC (Heap.get?_push_of_some _ (hH2 ▸ Heap.get?_push_size _ rfl))
  have fresh : ∀ a, s₁.heap.objs.size ≤ a → s₁.heap.get? a = none := fun a ha => by
    cases e : s₁.heap.get? a with
    | none => rfl
    | some o' => exact absurd (Heap.lt_size e) (Nat.not_lt.mpr ha)
  have fresh₀ : ∀ a, s₁.heap.objs.size ≤ a → h₀.get? a = none := fun a ha => by
    cases e : h₀.get? a with
    | none => rfl
    | some o' => have := F.keep a o' e; rw [fresh a ha] at this; cases this
  have hD₀ : h₀.get? s₁.heap.objs.size = none := fresh₀ _ (Nat.le_refl _)
  have hC₀ : h₀.get? H2.objs.size = none := fresh₀ _ (by rw [hC]; exact Nat.le_succ _)
  have hLlt : env.locals < s₁.heap.objs.size := F.ns.lt
  have hDL : s₁.heap.objs.size ≠ env.locals := Ne.symm (below _ hLlt).2
  have hCL : H2.objs.size ≠ env.locals := Ne.symm (below _ hLlt).1
  have hfp : ∀ b ∈ [z, TI, TO, i1, i2, l1, l2], b < s₁.heap.objs.size := by
    obtain ⟨_, _, hTO⟩ := hTO
    obtain ⟨_, hi1, _⟩ := hi1
    obtain ⟨_, hi2, _⟩ := hi2
    intro b hb
    simp only [List.mem_cons, List.not_mem_nil, or_false] at hb
    rcases hb with rfl | rfl | rfl | rfl | rfl | rfl | rfl
    · exact Heap.lt_size hz
    · exact Heap.lt_size hTI
    · exact Heap.lt_size hTO
    · exact Heap.lt_size hi1
    · exact Heap.lt_size hi2
    · exact Heap.lt_size (N _ hm1).1
    · exact Heap.lt_size (N _ hm2).1
  have hoffC : ∀ p ∈ news, p.1 ≠ H2.objs.size := fun p hp => (below _ (Heap.lt_size (N p hp).1)).1
  have hltD : ∀ p ∈ news, p.1 < s₁.heap.objs.size := fun p hp => Heap.lt_size (N p hp).1
  have hoffD : ∀ p ∈ news, p.1 ≠ s₁.heap.objs.size := fun p hp => (below _ (Heap.lt_size (N p hp).1)).2
  have hwr : ∀ b ∈ [z, TO, i1, i2], b ≠ H2.objs.size ∧ b ≠ s₁.heap.objs.size := fun b hb => below b (hfp b (by simp only [List.mem_cons, List.not_mem_nil, or_false] at hb ⊢; rcases hb with rfl | rfl | rfl | rfl <;> simp))
  have keepF : ∀ {h h' : Heap}, (∀ b o, b ∉ [z, TO, i1, i2] → h.get? b = some o → h'.get? b = some o) → Fr h₀ env.locals h m → Fr h₀ env.locals h' m := fun hk F' =>
    ⟨F'.ns.at' fun o e => hk _ o (fun hm => (hnew _ hm).1 rfl) e, fun b o e => hk b o (fun hm => by rw [(hnew _ hm).2.1] at e; cases e) (F'.keep b o e), F'.above⟩
  have keepN : ∀ {h h' : Heap} {zs : List Value}, (∀ b o, b ∉ [z, TO, i1, i2] → h.get? b = some o → h'.get? b = some o) → News h₀ env.locals h ((s₁.heap.objs.size, lst zs) :: news) → News h₀ env.locals h' ((s₁.heap.objs.size, lst zs) :: news) := fun hk N' p hp =>
    ⟨hk _ _ (fun hm => by
      rcases List.mem_cons.mp hp with rfl | hp
      · exact (hwr _ hm).2 rfl
      · exact (hnew _ hm).2.2 p hp rfl) (N' p hp).1, (N' p hp).2⟩
  have loop : ∀ s₃ : Shared, s₃ = { s₁ with heap := h₁, toks := s₁.toks + ([] : List (Str × Value)).length } →
      codeAny (model prog w) A (.compLoop (.ListComp elt [⟨.Tuple [.Name x px, .Name x₂ px₂] kk tp, iter, [], 0⟩] scope pos) 0 (.ref z) (.ref s₁.heap.objs.size) (compEnvC scope cl H2.objs.size env))
        (compPost (model prog w) A E (some (assign (.Name y py) env)) (fun _ s' => Q .next s') (.ref s₁.heap.objs.size) H2.objs.size) s₃ := by
    rintro s₃ rfl
    refine kcp_loop
      (ZInv h₀ env.locals m s₁ s₁.heap.objs.size H2.objs.size z TI TO i1 i2 l1 l2 xs.toArray ys.toArray (List.zipWith g as bs) news) ?_ ((List.zipWith g as bs).length + 1)
      ⟨h₁, _, 0, [], _, rfl, Nat.zero_le _, rfl, rfl, .nil, W.frame 0 _ _ ⟨hz, hTI, hTO, hi1, hi2, hL1, hL2⟩ (fun b _ o e => old b o e), F.keeps old, hns₁, fun p hp => ?_⟩
    · rintro k s' ⟨h', tk, i, zs, m', rfl, hi, rfl, hyl, hzs, hst, F', hn', N'⟩
      by_cases hlt : i < (List.zipWith g as bs).length
      · refine W.item i _ _ _ hlt hst fun T vals h₂ tk₂ hP hTs hT hMd hk₂ => ?_
        obtain ⟨xv, yv, hxv, hyv, rfl⟩ := hP
        refine W.go _ kk tp i T _ _ _ hMd fun h₃ hst₃ hk₃ => ?_
        have up₃ : ∀ c o, c ∉ [z, TO, i1, i2] → h'.get? c = some o → h₃.get? c = some o := fun c o hc e => hk₃ c o hc (hk₂ c o hc e)
        have hCw : H2.objs.size ∉ [z, TO, i1, i2] := fun hm => (hwr _ hm).1 rfl
        have hDw : s₁.heap.objs.size ∉ [z, TO, i1, i2] := fun hm => (hwr _ hm).2 rfl
        have hT₃ : h₃.IsTuple T #[xv, yv] := by
          obtain ⟨o, e, r⟩ := hT
          exact ⟨o, hk₃ T o (W.apart _ _ _ hMd) e, r⟩
        refine kcp_assign (env := compEnvC scope cl H2.objs.size env) hh hT₃ (lookup_relabel_local hx) (lookup_relabel_local hx₂) (by simp [compEnvC, relabel, hkind]) (hn'.at' fun o e => up₃ _ o hCw e) fun h₄ tk₄ hn₄ hs₄ => ?_
        obtain ⟨oC, heC, hoC⟩ := ns_obj hn₄
        have F₄ : Fr h₀ env.locals h₄ m := by
          have F₃ := keepF up₃ F'
          exact ⟨F₃.ns.at' fun o e => hs₄ _ o (Ne.symm hCL) e, fun c o e => hs₄ c o (fun q => by rw [show c = H2.objs.size from q, hC₀] at e; cases e) (F₃.keep c o e), F₃.above⟩
        have N₄ : News h₀ env.locals h₄ ((s₁.heap.objs.size, lst zs) :: news) := fun p hp => by
          have z := keepN up₃ N' p hp
          refine ⟨hs₄ _ _ ?_ z.1, z.2⟩
          rcases List.mem_cons.mp hp with rfl | hp
          · exact hDC
          · exact hoffC p hp
        have hi1' : i < as.length := by simp at hlt; omega
        have hi2' : i < bs.length := by simp at hlt; omega
        obtain ⟨ta, hxa⟩ := hxs.get i as[i] (by simp [hi1'])
        obtain ⟨tb, hyb⟩ := hys.get i bs[i] (by simp [hi2'])
        obtain rfl : xv = .int as[i] ta := by rw [List.getElem?_toArray, hxa] at hxv; exact (Option.some.inj hxv).symm
        obtain rfl : yv = .int bs[i] tb := by rw [List.getElem?_toArray, hyb] at hyv; exact (Option.some.inj hyv).symm
        have zD := (N₄ _ List.mem_cons_self).1
        refine elem as[i] bs[i] ta tb s₁.heap.objs.size (lst zs) H2.objs.size oC s₁.heap.objs.size (lst zs) _ h₄ _ _ _ hoC (by simp [hxx]) (by simp) F₄ (fun p hp => ?_) fun tk₅ t => ?_
        · rcases List.mem_cons.mp hp with rfl | hp
          · exact N₄ _ List.mem_cons_self
          · rcases List.mem_cons.mp hp with rfl | hp
            · exact ⟨heC, hCL, hC₀⟩
            · exact N₄ p hp
        have hst₄ : ZSt z TI TO i1 i2 l1 l2 xs.toArray ys.toArray h₄ (i + 1) :=
          W.frame (i + 1) _ _ hst₃ fun b hb o e => hs₄ b o (below b (hfp b hb)).1 e
        refine append_at (hsz := by show zs.toArray.size ≤ sizeLine; rw [List.size_toArray, hyl]; exact Nat.le_trans (Nat.le_trans hi hnl) (by decide)) zD fun h₆ hs₆ hD₆ => ?_
        refine ⟨(List.zipWith g as bs).length + 1 - (i + 1), by omega, h₆, tk₅, i + 1, zs ++ [.int (g as[i] bs[i]) t], _, rfl, hlt, rfl, by rw [List.length_append, List.length_singleton, hyl], ?_, W.frame (i + 1) _ _ hst₄ fun b hb o e => hs₆.extBut b o (below b (hfp b hb)).2 e, F₄.change hs₆ hDL hD₀,
          (hoC.ns heC).sameBut hs₆ (Ne.symm hDC), fun q hq => ?_⟩
        · rw [List.take_succ, List.getElem?_eq_getElem hlt]
          simp only [List.getElem_zipWith, Option.toList]
          exact IntsAre.snoc hzs _ _
        · rcases List.mem_cons.mp hq with rfl | hq
          · exact ⟨hD₆.trans (congrArg some (lst_snoc zs _)), hDL, hD₀⟩
          · exact ⟨hs₆.extBut _ _ (hoffD q hq) (N₄ q (List.mem_cons_of_mem _ hq)).1, (N₄ q (List.mem_cons_of_mem _ hq)).2⟩
      · have hin : i = (List.zipWith g as bs).length := Nat.le_antisymm hi (Nat.not_lt.mp hlt)
        subst hin
        refine W.done _ _ _ hst fun h₂ tk₂ hk₂ => ?_
        have F₂ := keepF hk₂ F'
        have N₂ := keepN hk₂ N'
        have hCw : H2.objs.size ∉ [z, TO, i1, i2] := fun hm => (hwr _ hm).1 rfl
        have hn₂ := hn'.at' fun o e => hk₂ _ o hCw e
        show wpAny _ A (assign (.Name y py) env (.ref s₁.heap.objs.size)) _ _ _
        refine wpAny_assign_Name (wpAny_storeName_local hy F₂.ns (fun h₃ hn₃ hs₃ => ?_) hp)
        have hL₀ : h₀.get? env.locals = none := Heap.get?_none_of_le F'.above
        have F₃ : Fr h₀ env.locals h₃ (fun v => if v = y then some (.ref s₁.heap.objs.size) else m v) := ⟨hn₃, fun b o e => hs₃.extBut b o (fun q => by rw [q, hL₀] at e; cases e) (F₂.keep b o e), F₂.above⟩
        rw [List.take_length] at hzs
        refine ⟨m', hn₂.sameBut hs₃ hCL, fun h'' hs'' => fin s₁.heap.objs.size zs zs.length h'' _ hzs (F₃.change hs'' hCL hC₀) (fun p hp => ?_) hltD⟩
        have hz3 : h₃.get? p.1 = some p.2 := hs₃.extBut _ _ (N₂ p hp).2.1 (N₂ p hp).1
        refine ⟨hs''.extBut _ _ ?_ hz3, (N₂ p hp).2⟩
        rcases List.mem_cons.mp hp with rfl | hp
        · exact hDC
        · exact hoffC p hp
    · rcases List.mem_cons.mp hp with rfl | hp
      · exact ⟨hacc, hDL, hD₀⟩
      · exact ⟨old _ _ (N p hp).1, (N p hp).2⟩
  exact codeAny_compStart_list (loop _ rfl) (W.self 0 _ _ _ (W.frame 0 s₁.heap h₁ ⟨hz, hTI, hTO, hi1, hi2, hL1, hL2⟩ (fun b _ o e => old b o e)) (loop _ rfl))

theorem srcZ_call {elt : PySem.Expr} {x x₂ y : Str} {scope : Scope} {cl : List (Str × Addr)} {g : Int → Int → Int} {Q : Flow → Shared → Prop} {l1 l2 : Addr} {xs ys : List Value} {c1 c2 : Nat} {as bs : List Int} {news : List (Addr × Obj)}
    (hh : A.handled = none) (hm1 : (l1, W.listOf xs.toArray c1) ∈ news) (hm2 : (l2, W.listOf ys.toArray c2) ∈ news) (hxs : IntsAre xs as) (hys : IntsAre ys bs) (hlen : as.length ≤ 1000) (F : Fr h₀ L s.heap m) (N : News h₀ L s.heap news)
    (elem : ElemZ prog w A h₀ L m env elt x x₂ scope cl g news s)
    (fin : ∀ D (zs : List Value) c h' tk, IntsAre zs (List.zipWith g as bs) → Fr h₀ L h' (fun v => if v = y then some (.ref D) else m v) → News h₀ L h' ((D, W.listOf zs.toArray c) :: news) → (∀ p ∈ news, p.1 < D) → Q .next { s with heap := h', toks := tk }) :
    wpAny (model prog w) A (call (.type "zip") [.ref l1, .ref l2]) (SrcZ prog w A h₀ L m env elt x x₂ y scope cl g Q) E s := by
  have hlt1 : l1 < s.heap.objs.size := Heap.lt_size (N _ hm1).1
  have hlt2 : l2 < s.heap.objs.size := Heap.lt_size (N _ hm2).1
  have hLlt : L < s.heap.objs.size := F.ns.lt
  refine call_zip_2 ⟨_, (N _ hm1).1, rfl, c1, rfl⟩ ⟨_, (N _ hm2).1, rfl, c2, rfl⟩ fun h' a1 a2 a3 a4 a5 a6 hk => ?_
  have fresh₀ : ∀ a, s.heap.objs.size ≤ a → h₀.get? a = none := fun a ha => by
    cases e : h₀.get? a with
    | none => rfl
    | some o' => exact absurd (Heap.lt_size (F.keep a o' e)) (Nat.not_lt.mpr ha)
  have hnew : ∀ q, s.heap.objs.size ≤ q → L ≠ q ∧ h₀.get? q = none ∧ ∀ p ∈ news, p.1 ≠ q := fun q hq =>
    ⟨fun e => absurd hLlt (by rw [e]; exact Nat.not_lt.mpr hq), fresh₀ q hq, fun p hp e => absurd (Heap.lt_size (N p hp).1) (by rw [e]; exact Nat.not_lt.mpr hq)⟩
  refine ⟨_, _, _, _, _, l1, l2, xs, ys, c1, c2, as, bs, news, rfl, hh, ?_, a1, a2, ⟨_, _, a3⟩, a4, a5, hm1, hm2, hxs, hys, hlen, F.keeps fun b o e => hk b o e, fun p hp => ⟨hk _ _ (N p hp).1, (N p hp).2⟩, ?_, ?_, ?_⟩
  · have q1 : @LT.lt Nat _ l1 s.heap.objs.size := hlt1
    have q2 : @LT.lt Nat _ l2 s.heap.objs.size := hlt2
    constructor <;> first | exact Nat.ne_of_lt (by omega) | exact Nat.ne_of_gt (by omega)
  · intro q hq
    apply hnew
    unfold Addr at *
    simp only [List.mem_cons, List.not_mem_nil, or_false] at hq
    omega
  · intro a b ta tb I oI C oC D oD m₂ h tk Q' E'
    exact elem a b ta tb I oI C oC D oD m₂ h tk Q' E'
  · exact fun D zs c h' tk => fin D zs c h' tk
end
end
section
open PySem PySem.W PyProof.Rows PyProof.Rows.LCg
section
variable {prog : Program} {w : World} {A : Around} {E : Value → Shared → Prop} {s : Shared} {h₀ : Heap} {L : Addr} {m : Str → Option Value} {env : Env}
/-- the test of a comprehension, on one int -/
noncomputable def TestF (prog : Program) (w : World) (A : Around) (h₀ : Heap) (L : Addr) (m : Str → Option Value) (env : Env) (test : PySem.Expr) (x : Str) (scope : Scope) (cl : List (Str × Addr)) (p : Int → Bool) (news : List (Addr × Obj)) (s : Shared) : Prop :=
  ∀ (a : Int) (ta : Tok) I oI C oC D oD m₂ h tk (Q' : Bool → Shared → Prop) (E' : Value → Shared → Prop), NsObj oC m₂ → m₂ x = some (.int a ta) → Fr h₀ L h m → News h₀ L h ((I, oI) :: (C, oC) :: (D, oD) :: news) →
    (∀ tk, Q' (p a) { s with heap := h, toks := tk }) → wpAny (model prog w) A (isTrue test (compEnvC scope cl C env) (eval test (compEnvC scope cl C env))) Q' E' { s with heap := h, toks := tk }

inductive FInv (h₀ : Heap) (L : Addr) (m : Str → Option Value) (s₁ : Shared) (D C I l : Addr) (ys : Array Value) (as : List Int) (p : Int → Bool) (news : List (Addr × Obj)) (k : Nat) (s' : Shared) : Prop
  | mk (h' : Heap) (tk i : Nat) (zs : List Value) (m' : Str → Option Value) (e : s' = { s₁ with heap := h', toks := tk }) (hi : i ≤ as.length) (hk : k = as.length + 1 - i) (hzl : zs.length ≤ i) (hzs : IntsAre zs ((as.take i).filter p))
      (hst : h'.IsListIter I l i ∧ h'.IsList l ys) (F' : Fr h₀ L h' m) (hn' : h'.Ns C m') (N' : News h₀ L h' ((D, lst zs) :: news)) : FInv h₀ L m s₁ D C I l ys as p news k s'
theorem ListComp_filter {iter test : PySem.Expr} {x : Str} {px px' : Pos} {scope : Scope} {cl : List (Str × Addr)} {pos : Pos} {p : Int → Bool} {Q : Value → Shared → Prop} {l : Addr} {ys : List Value} {c : Nat} {as : List Int} {news : List (Addr × Obj)} (F : Fr h₀ L s.heap m) (N : News h₀ L s.heap news) (hm : (l, W.listOf ys.toArray c) ∈ news) (hys : IntsAre ys as) (hlen : as.length ≤ 1000)
    (hh : A.handled = none) (hclos : closureFor scope env = pure cl) (hcell : ∀ z ∈ scope.names, z.2 ≠ .cell) (hkind : scope.kind = .function)
    (hnames : ∀ z ∈ scope.names, z.2 = .local → scope.names.lookup z.1 = some .local) (hx : scope.names.lookup x = some .local) (hdb : (x == ("__debug__" : Str)) = false)
    (hev : ∀ Q' : Value → Shared → Prop, Q' (.ref l) s → wpAny (model prog w) A (eval iter env) Q' E s) (elem : TestF prog w A h₀ L m env test x scope cl p news s)
    (fin : ∀ D (zs : List Value) c h' tk, IntsAre zs (as.filter p) → Fr h₀ L h' m → News h₀ L h' ((D, W.listOf zs.toArray c) :: news) → (∀ p ∈ news, p.1 < D) → Q (.ref D) { s with heap := h', toks := tk })
    (hs : ∀ x, foldedSetIterable iter env x = pure x := by intro _; rfl) :
    wpAny (model prog w) A (eval (.ListComp (.Name x px) [⟨.Name x px', iter, [test], 0⟩] scope pos) env) Q E s := by
  rw [eval_ListComp]
  refine wpAny_comprehension_free (use := none) rfl hs hclos hkind hnames (hev _ ?_)
  have hll : s.heap.IsList l ys.toArray := ⟨_, (N _ hm).1, rfl, c, rfl⟩
  have hlt : l < s.heap.objs.size := Heap.lt_size (N _ hm).1
  have hsz : ys.toArray.size = as.length := by simp [hys.length]
  refine wpAny_pyIter_list hll ?_
  have up0 : ∀ b o, s.heap.get? b = some o → (s.heap.push { cls := .type "list_iterator", data := .fields #[.ref l, .int 0 0] }).get? b = some o := fun b o e => Heap.get?_push_of_some _ e
  have WK := Walks.list (prog := prog) (w := w) hh s.heap.objs.size l (Nat.ne_of_lt hlt) ys.toArray
  rw [hsz] at WK
  obtain ⟨s₁, hs₁⟩ : ∃ s₁ : Shared, s₁ = { s with heap := s.heap.push { cls := .type "list_iterator", data := .fields #[.ref l, .int 0 0] } } := ⟨_, rfl⟩
  have F1 : Fr h₀ L s₁.heap m := by rw [hs₁]; exact F.keeps up0
  have N1 : News h₀ L s₁.heap news := by rw [hs₁]; exact fun q hq => ⟨up0 _ _ (N q hq).1, (N q hq).2⟩
  have hst0 : s₁.heap.IsListIter s.heap.objs.size l 0 ∧ s₁.heap.IsList l ys.toArray := by rw [hs₁]; exact ⟨⟨_, Heap.get?_push_size _ rfl, rfl, rfl⟩, hll.push _⟩
  have hI0 : h₀.get? s.heap.objs.size = none := next_is_new F
  have hIL : s.heap.objs.size ≠ L := fun e => absurd F.ns.lt (e ▸ Nat.lt_irrefl _)
  have hIn : ∀ q ∈ news, q.1 ≠ s.heap.objs.size := fun q hq => Nat.ne_of_lt (Heap.lt_size (N q hq).1)
  have hIlt : s.heap.objs.size < s₁.heap.objs.size := by rw [hs₁]; show _ < (s.heap.push _).objs.size; rw [Heap.size_push]; exact Nat.lt_succ_self _
  have elem1 : TestF prog w A h₀ L m env test x scope cl p news s₁ := by rw [hs₁]; exact elem
  have fin1 : ∀ D (zs : List Value) c h' tk, IntsAre zs (as.filter p) → Fr h₀ L h' m → News h₀ L h' ((D, W.listOf zs.toArray c) :: news) → (∀ p ∈ news, p.1 < D) → Q (.ref D) { s₁ with heap := h', toks := tk } := by rw [hs₁]; exact fin
  show wpAny _ _ (newList []) _ _ _
  rw [← hs₁]
  generalize s.heap.objs.size = I at *
  refine wpAny_newObj_type (wpAny_newFunctionEnv hcell (by intro y hy; simp at hy) (fun h₁ hns₁ hsb₁ => ?_) hkind)
  dsimp only at hns₁ hsb₁ ⊢
  generalize hH2 : s₁.heap.push { cls := .type "list", dict := none, data := .seq ([] : List Value).toArray } = H2 at hns₁ hsb₁ ⊢
  have hC : H2.objs.size = s₁.heap.objs.size + 1 := by rw [← hH2, Heap.size_push]
  have hDC : s₁.heap.objs.size ≠ H2.objs.size := by rw [hC]; exact Nat.ne_of_lt (Nat.lt_succ_self _)
  have below : ∀ b, b < s₁.heap.objs.size → b ≠ H2.objs.size ∧ b ≠ s₁.heap.objs.size := fun b hb => ⟨by rw [hC]; exact Nat.ne_of_lt (Nat.lt_succ_of_lt hb), Nat.ne_of_lt hb⟩
  have old : ∀ b o, s₁.heap.get? b = some o → h₁.get? b = some o := fun b o e => hsb₁.extBut b o (below b (Heap.lt_size e)).1 (Heap.get?_push_of_some _ (hH2 ▸ Heap.get?_push_of_some _ e))
  have hacc : h₁.get? s₁.heap.objs.size = some (lst []) := hsb₁.extBut _ _ hDC (Heap.get?_push_of_some _ (hH2 ▸ Heap.get?_push_size _ rfl))
  have fresh₀ : ∀ a, s₁.heap.objs.size ≤ a → h₀.get? a = none := fun a ha => by
    cases e : h₀.get? a with
    | none => rfl
    | some o' => exact absurd (Heap.lt_size (F1.keep a o' e)) (Nat.not_lt.mpr ha)
  have hD₀ : h₀.get? s₁.heap.objs.size = none := fresh₀ _ (Nat.le_refl _)
  have hC₀ : h₀.get? H2.objs.size = none := fresh₀ _ (by rw [hC]; exact Nat.le_succ _)
  have hDL : s₁.heap.objs.size ≠ L := Ne.symm (below _ F1.ns.lt).2
  have hCL : H2.objs.size ≠ L := Ne.symm (below _ F1.ns.lt).1
  have hIC := below _ hIlt
  have hltD : ∀ q ∈ news, q.1 < s₁.heap.objs.size := fun q hq => Heap.lt_size (N1 q hq).1
  have hoffC : ∀ q ∈ news, q.1 ≠ H2.objs.size := fun q hq => (below _ (hltD q hq)).1
  have hoffD : ∀ q ∈ news, q.1 ≠ s₁.heap.objs.size := fun q hq => (below _ (hltD q hq)).2
  have hl1 : l < s₁.heap.objs.size := hltD _ hm
  have keepF : ∀ {h h' : Heap}, (∀ b o, b ∉ [I] → h.get? b = some o → h'.get? b = some o) → Fr h₀ L h m → Fr h₀ L h' m := fun hk F' => fr_but F' hk (Ne.symm hIL) hI0
  have keepN : ∀ {h h' : Heap} {zs : List Value}, (∀ b o, b ∉ [I] → h.get? b = some o → h'.get? b = some o) → News h₀ L h ((s₁.heap.objs.size, lst zs) :: news) → News h₀ L h' ((s₁.heap.objs.size, lst zs) :: news) := fun hk N' => news_but N' hk fun q hq => by
    rcases List.mem_cons.mp hq with rfl | hq
    · exact Ne.symm hIC.2
    · exact hIn q hq
  have loop : ∀ s₃ : Shared, s₃ = { s₁ with heap := h₁, toks := s₁.toks + ([] : List (Str × Value)).length } →
      codeAny (model prog w) A (.compLoop (.ListComp (.Name x px) [⟨.Name x px', iter, [test], 0⟩] scope pos) 0 (.ref I) (.ref s₁.heap.objs.size) (compEnvC scope cl H2.objs.size env))
        (compPost (model prog w) A E none Q (.ref s₁.heap.objs.size) H2.objs.size) s₃ := by
    rintro s₃ rfl
    refine codeAny_compLoop_tests
      (FInv h₀ L m s₁ s₁.heap.objs.size H2.objs.size I l ys.toArray as p news) ?_ (as.length + 1)
      ⟨h₁, _, 0, [], _, rfl, Nat.zero_le _, rfl, Nat.le_refl _, .nil, ⟨hst0.1.at fun o e => old _ o e, hst0.2.at fun o e => old _ o e⟩, F1.keeps old, hns₁, fun q hq => ?_⟩
    · rintro k s' ⟨h', tk, i, zs, m', rfl, hi, rfl, hzl, hzs, hst, F', hn', N'⟩
      by_cases hlt' : i < as.length
      · refine WK.item i _ _ _ hlt' hst fun v h₂ tk₂ hP hst₂ hk₂ => ?_
        obtain ⟨ta, hxa⟩ := hys.get i as[i] (by simp [hlt'])
        obtain rfl : v = .int as[i] ta := by rw [List.getElem?_toArray, hxa] at hP; exact (Option.some.inj hP).symm
        have hCw : H2.objs.size ∉ [I] := fun hm => hIC.1 (List.mem_singleton.mp hm).symm
        have F₂ := keepF hk₂ F'
        have N₂ := keepN hk₂ N'
        refine wpAny_assign_Name (wpAny_storeName_local (lookup_relabel_local hx) (hn'.at' fun o e => hk₂ _ o hCw e) (fun h₄ hn₄ hs₄ => ?_) (by simp [compEnvC, relabel, hkind]))
        obtain ⟨oC, heC, hoC⟩ := ns_obj hn₄
        obtain ⟨oI, heI, hcI⟩ := hst₂.1
        have heI4 : h₄.get? I = some oI := hs₄.extBut _ _ hIC.1 heI
        have F₄ := F₂.change hs₄ hCL hC₀
        have N₄ : News h₀ L h₄ ((s₁.heap.objs.size, lst zs) :: news) := fun q hq => by
          refine ⟨hs₄.extBut _ _ ?_ (N₂ q hq).1, (N₂ q hq).2⟩
          rcases List.mem_cons.mp hq with rfl | hq
          · exact hDC
          · exact hoffC q hq
        have hst₄ : h₄.IsListIter I l (i + 1) ∧ h₄.IsList l ys.toArray := ⟨hst₂.1.extBut hs₄.extBut hIC.1, hst₂.2.extBut hs₄.extBut (below _ hl1).1⟩
        refine wpAny_tests_one (elem1 as[i] ta I oI H2.objs.size oC s₁.heap.objs.size (lst zs) _ h₄ _ _ _ hoC (by simp) F₄ (fun q hq => ?_) fun tk₅ => ?_)
        · rcases List.mem_cons.mp hq with rfl | hq
          · exact ⟨heI4, hIL, hI0⟩
          · rcases List.mem_cons.mp hq with rfl | hq
            · exact ⟨heC, hCL, hC₀⟩
            · exact N₄ q hq
        have htake : (as.take (i + 1)).filter p = (as.take i).filter p ++ (if p as[i] = true then [as[i]] else []) := by
          rw [List.take_add_one, List.getElem?_eq_getElem hlt', List.filter_append]
          simp [List.filter_cons]
        by_cases hp : p as[i] = true
        · rw [if_pos hp]
          refine wpAny_Name (wpAny_loadName_local (by simp [compEnvC, relabel, hkind]) (lookup_relabel_local hx) (show Heap.Ns h₄ H2.objs.size _ from hn₄) (if_pos rfl) ?_) hdb
          refine append_at (hsz := by show zs.toArray.size ≤ sizeLine; rw [List.size_toArray]; exact Nat.le_trans (Nat.le_trans hzl hi) (Nat.le_trans hlen (by decide))) (N₄ _ List.mem_cons_self).1 fun h₆ hs₆ hD₆ => ?_
          refine ⟨as.length + 1 - (i + 1), by omega, h₆, tk₅, i + 1, zs ++ [.int as[i] ta], _, rfl, hlt', rfl, by rw [List.length_append, List.length_singleton]; omega, ?_, ⟨hst₄.1.extBut hs₆.extBut hIC.2, hst₄.2.extBut hs₆.extBut (below _ hl1).2⟩, F₄.change hs₆ hDL hD₀, (hoC.ns heC).sameBut hs₆ (Ne.symm hDC), fun q hq => ?_⟩
          · rw [htake, if_pos hp]
            exact IntsAre.snoc hzs _ _
          · rcases List.mem_cons.mp hq with rfl | hq
            · exact ⟨hD₆.trans (congrArg some (lst_snoc zs _)), hDL, hD₀⟩
            · exact ⟨hs₆.extBut _ _ (hoffD q hq) (N₄ q (.tail _ hq)).1, (N₄ q (.tail _ hq)).2⟩
        · rw [if_neg hp]
          refine ⟨as.length + 1 - (i + 1), by omega, h₄, tk₅, i + 1, zs, _, rfl, hlt', rfl, by omega, ?_, hst₄, F₄, hoC.ns heC, N₄⟩
          rw [htake, if_neg hp, List.append_nil]
          exact hzs
      · have hin : i = as.length := Nat.le_antisymm hi (Nat.not_lt.mp hlt')
        subst hin
        refine WK.done _ _ _ hst fun h₂ tk₂ hk₂ => ?_
        have F₂ := keepF hk₂ F'
        have N₂ := keepN hk₂ N'
        have hCw : H2.objs.size ∉ [I] := fun hm => hIC.1 (List.mem_singleton.mp hm).symm
        rw [List.take_length] at hzs
        refine ⟨m', hn'.at' fun o e => hk₂ _ o hCw e, fun h'' hs'' => fin1 s₁.heap.objs.size zs zs.length h'' _ hzs (F₂.change hs'' hCL hC₀) (fun q hq => ?_) hltD⟩
        refine ⟨hs''.extBut _ _ ?_ (N₂ q hq).1, (N₂ q hq).2⟩
        rcases List.mem_cons.mp hq with rfl | hq
        · exact hDC
        · exact hoffC q hq
    · rcases List.mem_cons.mp hq with rfl | hq
      · exact ⟨hacc, hDL, hD₀⟩
      · exact ⟨old _ _ (N1 q hq).1, (N1 q hq).2⟩
  exact codeAny_compStart_list (loop _ rfl) (WK.self 0 _ _ _ ⟨hst0.1.at fun o e => old _ o e, hst0.2.at fun o e => old _ o e⟩ (loop _ rfl))
end
end
section
open PySem PySem.W PyProof.Rows
theorem strcoll_claim (w : World) (mean : ExcName → Option Value) (mg mb : Str → Option Value) (news : List (Addr × Obj)) (a : Int) (ta : Tok) (b : Int) (tb : Tok) :
    Cl 1 w mean mg mb 126 news True [.int a ta, .int b tb] (fun t => .int (sgn a b) t) := by
  unfold Cl
  k_fill
  intros
  rename_i hret
  refine wpAny_call ?_
  k_dflt cell_enter
  k_steps
  refine cb_retI hret ?_ (by assumption) (by assumption)
  unfold sgn b2i
  by_cases h1 : b < a <;> by_cases h2 : a < b <;> simp [h1, h2] <;> omega

theorem low_a : Txt.lower (T [97]) = T [97] := by decide +kernel
theorem low_A : Txt.lower (T [65]) = T [97] := by decide +kernel
theorem low_s : Txt.lower (T [32]) = T [32] := by decide +kernel
theorem cost_is {a b : Nat} (ha : OkC a) (hb : OkC b) : cost a b = if (T [a] == T [b]) = true then 0 else if (Txt.lower (T [a]) == Txt.lower (T [b])) = true then 1 else 2 := by
  rcases ha with rfl | rfl | rfl <;> rcases hb with rfl | rfl | rfl <;> simp only [low_a, low_A, low_s, T_beq] <;> decide
theorem subst_claim (w : World) (mean : ExcName → Option Value) (mg mb : Str → Option Value) (news : List (Addr × Obj)) (a : Nat) (ta : Tok) (b : Nat) (tb : Tok) :
    Cl 1 w mean mg mb 28 news (OkC a ∧ OkC b) [.str (T [a]) ta, .str (T [b]) tb] (fun t => .int (cost a b) t) := by
  unfold Cl
  k_fill
  intro dp un gd cn cs a' cccd cl outer A₀ base h₀ L m s Q E hB hF hK hN hT hk hpre hd hu hret
  obtain ⟨hp1, hp2⟩ := hpre
  have hl1 : (T [a]).length = 1 := T_len _
  have hl2 : (T [b]).length = 1 := T_len _
  refine wpAny_call ?_
  k_dflt cell_enter
  k_steps
  all_goals refine cb_retI hret ?_ (by assumption) (by assumption)
  all_goals rw [cost_is hp1 hp2]
  · rw [if_pos (by assumption)]
  · rw [if_neg (by simp_all), if_pos (by assumption)]
  · rw [if_neg (by simp_all), if_neg (by simp_all)]
theorem subst_claim2 (w : World) (mean : ExcName → Option Value) (mg mb : Str → Option Value) (news : List (Addr × Obj)) (x : Str) (ta : Tok) (y : Str) (tb : Tok) (a b : Nat) :
    Cl 1 w mean mg mb 28 news (x = T [a] ∧ y = T [b] ∧ OkC a ∧ OkC b) [.str x ta, .str y tb] (fun t => .int (cost a b) t) := by
  intro dp un gd cn cs a' cccd cl outer A₀ base h₀ L m s Q E hB hF hK hN hT hk hpre hd hu hret
  obtain ⟨rfl, rfl, ho⟩ := hpre
  exact subst_claim w mean mg mb news a ta b tb dp un gd cn cs a' cccd cl outer A₀ base h₀ L m s Q E hB hF hK hN hT hk ho hd hu hret
end
section
open PySem PySem.W PyProof.Rows
noncomputable def turnF (k c : Nat) : Nat := if k % 2 = 1 then (if c = 32 then 32 else if c = 65 then 97 else 65) else c
noncomputable def turnL : Nat → List Nat → List Nat
  | _, [] => []
  | k, c :: r => turnF k c :: turnL (k + 1) r

theorem turnL_len : ∀ (l : List Nat) (k : Nat), (turnL k l).length = l.length
  | [], _ => rfl
  | _ :: r, k => by simp [turnL, turnL_len r]
theorem turnL_get : ∀ (l : List Nat) (k i : Nat), i < l.length → (turnL k l)[i]? = some (turnF (k + i) (l.getD i 0))
  | [], _, _, h => absurd h (Nat.not_lt_zero _)
  | c :: r, k, 0, _ => by simp [turnL]
  | c :: r, k, i + 1, h => by
    have := turnL_get r (k + 1) i (by simpa using h)
    simp [turnL] at this ⊢
    rw [this]; congr 2; (first | lia | omega)
theorem turnL_take {l : List Nat} {i : Nat} (h : i < l.length) : (turnL 0 l).take (i + 1) = (turnL 0 l).take i ++ [turnF i (l.getD i 0)] := by
  rw [List.take_add_one, turnL_get l 0 i h]; simp
theorem T_app (a b : List Nat) : T a ++ T b = T (a ++ b) := by
  apply Str.ext'
  show (T a).cps ++ (T b).cps = _
  simp [T]

theorem turned_claim (w : World) (mean : ExcName → Option Value) (mg mb : Str → Option Value) (news : List (Addr × Obj)) (a : List Nat) (ta : Tok) :
    Cl 1 w mean mg mb 145 news (a.length ≤ 1000) [.str (T a) ta] (fun t => .str (T (turnL 0 a)) t) := by
  unfold Cl
  k_fill
  intro dp un gd cn cs a' cccd cl outer A₀ base h₀ L m s Q E hB hF hK hN hT hk hpre hd hu hret
  have hTl : (T a).length = a.length := T_len a
  refine wpAny_call ?_
  k_dflt cell_enter
  rename_i g L1 h1 FG F0 N0 B1 X1 T1
  replace F0 := Fr.as F0 (m' := fun y => if y = Str.ofString "line" then some (.str (T a) ta) else none) (fun y => by
    show List.lookup y [(Str.ofString "line", Value.str (T a) ta)] = _
    simp only [lookup_if]
    rfl)
  (repeat' ((fail_if_success (with_reducible show wpAny _ _ (exec (Stmt.While _ _ _ _) _) _ _ _)); (fail_if_success (with_reducible show wpAny _ _ (pyIter _) _ _ _)); (first | (k_unfold; (try dsimp only)) | (k_end; wrow_close) | walk1 | (dsimp only; walk1) | (leave1; walk_say "STEP leave1"; try dsimp only) | fail "no step")))
  rename Fr _ _ _ _ => F2
  rename News _ _ _ _ => N2
  rename IsRange _ _ _ _ _ _ _ _ => R2
  refine range0_cut (n := a.length) (fun i m nx => nx = news ∧ AtS m (Str.ofString "told") (T ((turnL 0 a).take i)) ∧ ∀ y, y ≠ Str.ofString "told" → y ≠ Str.ofString "k" → y ≠ Str.ofString "other" → m y = if y = Str.ofString "line" then some (.str (T a) ta) else none)
    rfl R2 (by rw [hTl]) (by omega) F2 N2 ?_ ?_ ?_
  · exact ⟨rfl, .mk rfl (by simpa using lit_nil), fun y h1 h2 h3 => by simp only [if_neg h1]⟩
  · clear F2 N2 R2
    rintro i t m₁ nx h tk own hi ⟨rfl, ⟨t1, e1⟩, hm⟩ hown F1 N1
    have e2 : m₁ (Str.ofString "line") = some (.str (T a) ta) := by rw [hm _ (by decide) (by decide) (by decide)]; rfl
    replace F1 := Fr.as F1 (map3 (x1 := Str.ofString "k") (x2 := Str.ofString "told") (x3 := Str.ofString "line") (m₀ := m₁) (by simp only [if_true]; rfl) (by rw [if_neg (by decide)]; exact e1) (by rw [if_neg (by decide)]; exact e2) (fun y h1 h2 h3 => by simp only [if_neg h1]))
    have htl : (T (List.take i (turnL 0 a))).length ≤ 1000 := by rw [T_len, List.length_take, turnL_len]; (first | lia | omega)
    have hit : Txt.item (T a) (i : Int) = T [a.getD i 0] := by rw [T_item a (by omega) (by omega)]; rfl
    (repeat' ((fail_if_success (with_reducible show wpAny _ _ (exec (Stmt.While _ _ _ _) _) _ _ _)); (fail_if_success (with_reducible show wpAny _ _ (pyIter _) _ _ _)); (first | (k_unfold; (try dsimp only)) | (k_end; wrow_close) | walk1 | (dsimp only; walk1) | (leave1; walk_say "STEP leave1"; try dsimp only) | fail "no step")))
    all_goals (
      rename Fr _ _ _ _ => F2
      rename News _ _ _ _ => N2
      refine Turn.mk F2 N2 hown ⟨rfl, AtS.mk rfl ?_, fun y h1 h2 h3 => by simp only [if_neg h1, if_neg h2, if_neg h3]; rw [hm y h1 h2 h3]; split <;> simp_all⟩
      rw [turnL_take hi, ← T_app]
      congr 1
      generalize a.getD i 0 = c at hit
      have h2 : ((i : Int).fmod 2 = 1) ↔ i % 2 = 1 := by rw [Int.fmod_eq_emod_of_nonneg _ (by decide)]; (first | lia | omega)
      unfold turnF
      simp only [hit, lit_sp, lit_a, lit_A, T_beq, h2, decide_eq_true_eq, decide_eq_false_iff_not, List.cons.injEq, and_true, ne_eq] at *
      simp [*])
  · clear F2 N2 R2
    rintro h tk m₁ nx ⟨rfl, ⟨t1, e1⟩, hm⟩ F1 N1
    rw [List.take_of_length_le (by rw [turnL_len]; exact Nat.le_refl _)] at e1
    replace F1 := Fr.as F1 (map1 (m₀ := m₁) e1 fun _ _ => rfl)
    (repeat' ((fail_if_success (with_reducible show wpAny _ _ (exec (Stmt.While _ _ _ _) _) _ _ _)); (fail_if_success (with_reducible show wpAny _ _ (pyIter _) _ _ _)); (first | (k_unfold; (try dsimp only)) | (k_end; wrow_close) | walk1 | (dsimp only; walk1) | (leave1; walk_say "STEP leave1"; try dsimp only) | fail "no step")))
    exact cb_retS hret rfl (by assumption) (by assumption)
end
section
local macro_rules | `(tactic| omega) => `(tactic| first | lia | omega (config := {}))
section
open PySem PySem.W PyProof.Rows
inductive SPre (news : List (Addr × Obj)) (a : List Nat) (b : Int) (ta : Tok) (n : Nat) (m : Str → Option Value) (nx : List (Addr × Obj)) : Prop
  | mk (h0 : nx = news) (k : Nat) (h1 : k ≤ a.length) (h2 : n = a.length - k) (h3 : lead a b = k + lead (a.drop k) (b - k)) (h4 : ∀ c ∈ a.take k, c = 32)
      (e1 : AtI m (Str.ofString "lpos") k) (e2 : AtI m (Str.ofString "amount") (b - k)) (hm : ∀ y, y ≠ Str.ofString "lpos" → y ≠ Str.ofString "amount" → m y = if y = Str.ofString "s" then some (.str (T a) ta) else none) : SPre news a b ta n m nx
inductive SPreX (news : List (Addr × Obj)) (a : List Nat) (b : Int) (ta : Tok) (m : Str → Option Value) (nx : List (Addr × Obj)) : Prop
  | mk (h0 : nx = news) (h1 : lead a b < a.length) (e1 : AtI m (Str.ofString "lpos") (lead a b)) (e2 : AtI m (Str.ofString "amount") (b - lead a b)) (hm : ∀ y, y ≠ Str.ofString "lpos" → y ≠ Str.ofString "amount" → m y = if y = Str.ofString "s" then some (.str (T a) ta) else none) : SPreX news a b ta m nx
inductive SPost (nx : List (Addr × Obj)) (a : List Nat) (b : Int) (t1 ta : Tok) (n : Nat) (m : Str → Option Value) (nx' : List (Addr × Obj)) : Prop
  | mk (h0 : nx' = nx) (k : Nat) (h1 : k ≤ a.length) (h2 : n = a.length - k) (h3 : lead a.reverse (b - lead a b) = k + lead (a.reverse.drop k) (b - lead a b - k)) (h4 : ∀ c ∈ a.reverse.take k, c = 32)
      (e1 : AtI m (Str.ofString "rpos") ((a.length : Int) - 1 - k)) (e2 : AtI m (Str.ofString "amount") (b - lead a b - k)) (hm : ∀ y, y ≠ Str.ofString "rpos" → y ≠ Str.ofString "amount" → m y = if y = Str.ofString "lpos" then some (.int (lead a b) t1) else if y = Str.ofString "s" then some (.str (T a) ta) else none) : SPost nx a b t1 ta n m nx'
inductive SPostX (nx : List (Addr × Obj)) (a : List Nat) (b : Int) (t1 ta : Tok) (m : Str → Option Value) (nx' : List (Addr × Obj)) : Prop
  | mk (h0 : nx' = nx) (e1 : AtI m (Str.ofString "rpos") ((a.length : Int) - 1 - lead a.reverse (b - lead a b))) (hm : ∀ y, y ≠ Str.ofString "rpos" → y ≠ Str.ofString "amount" → m y = if y = Str.ofString "lpos" then some (.int (lead a b) t1) else if y = Str.ofString "s" then some (.str (T a) ta) else none) : SPostX nx a b t1 ta m nx'
theorem strip_claim (w : World) (mean : ExcName → Option Value) (mg mb : Str → Option Value) (news : List (Addr × Obj)) (a : List Nat) (ta : Tok) (b : Int) (tb : Tok) :
    Cl 1 w mean mg mb 133 news (a.length ≤ 1000 ∧ ∃ c ∈ a, c ≠ 32) [.str (T a) ta, .int b tb] (fun t => .str (T (stripL a b)) t) := by
  unfold Cl
  k_fill
  intro dp un gd cn cs a' cccd cl outer A₀ base h₀ L m s Q E hB hF hK hN hT hk hpre hd hu hret
  obtain ⟨hp1, hp2⟩ := hpre
  have hTl : (T a).length = a.length := T_len a
  refine wpAny_call ?_
  k_dflt cell_enter
  rename_i g L1 h1 FG F0 N0 B1 X1 T1
  replace F0 := Fr.as F0 (m' := fun y => if y = Str.ofString "amount" then some (.int b tb) else if y = Str.ofString "s" then some (.str (T a) ta) else none) (fun y => by
    show List.lookup y [(Str.ofString "amount", Value.int b tb), (Str.ofString "s", Value.str (T a) ta)] = _
    simp only [lookup_if]
    rfl)
  (repeat' ((fail_if_success (with_reducible show wpAny _ _ (exec (Stmt.While _ _ _ _) _) _ _ _)); (first | (k_unfold; (try dsimp only)) | (k_end; wrow_close) | walk1 | (dsimp only; walk1) | (leave1; walk_say "STEP leave1"; try dsimp only) | fail "no step")))
  rename Fr _ _ _ _ => F2
  rename News _ _ _ _ => N2
  refine While_cut (SPre news a b ta)
     (SPreX news a b ta)
     (n₀ := a.length) F2 N2 ?_ ?_ ?_
  · exact ⟨rfl, 0, Nat.zero_le _, rfl, by simp, by simp, ⟨_, rfl⟩, .mk rfl (by simp), fun y h1 h2 => by simp only [if_neg h1, if_neg h2]⟩
  · clear F2 N2
    rintro n m₁ nx h tk ⟨rfl, k, hk, rfl, hlead, hbl, ⟨t1, e1⟩, ⟨t2, e2⟩, hm⟩ F1 N1
    have hkl := some_left hbl hp2 hk
    replace F1 := Fr.as F1 (map2 e1 e2 hm)
    clear e1 e2 hm
    (repeat' ((fail_if_success (with_reducible show wpAny _ _ (exec (Stmt.While _ _ _ _) _) _ _ _)); (first | (k_unfold; (try dsimp only)) | (k_end; wrow_close) | walk1 | (dsimp only; walk1) | (leave1; walk_say "STEP leave1"; try dsimp only) | fail "no step")))
    · rename ((Txt.item _ _ == _) = true) => hit
      rename Fr _ _ _ _ => F2
      rename News _ _ _ _ => N2
      rw [T_item a (by omega) (by omega), lit_sp, T_beq] at hit
      simp only [Int.toNat_natCast, decide_eq_true_eq, List.cons.injEq, and_true] at hit
      have hb1 : b - ((k + 1 : Nat) : Int) = b - k - 1 := by omega
      refine ⟨_, _, _, _, _, rfl, F2, N2, ?_, rfl, k + 1, hkl, rfl, ?_, take_more hbl hkl hit, .mk rfl (by simp), .mk rfl hb1.symm, fun y h1 h2 => by simp only [if_neg h1, if_neg h2]⟩
      · omega
      · rw [hlead, lead_one hkl (by assumption) hit, hb1]; omega
    · rename ((Txt.item _ _ == _) = false) => hit
      rename Fr _ _ _ _ => F2
      rename News _ _ _ _ => N2
      rw [T_item a (by omega) (by omega), lit_sp, T_beq] at hit
      simp only [Int.toNat_natCast, decide_eq_false_iff_not, List.cons.injEq, and_true] at hit
      have hl : lead a b = k := by rw [hlead, lead_all hkl (.inr hit)]; rfl
      exact Out.mk F2 N2 ⟨rfl, by omega, by rw [hl]; exact ⟨_, rfl⟩, by rw [hl]; exact ⟨_, rfl⟩, fun y h1 h2 => by simp only [if_neg h1, if_neg h2]⟩
    · rename Fr _ _ _ _ => F2
      rename News _ _ _ _ => N2
      have hl : lead a b = k := by rw [hlead, lead_all hkl (.inl (by assumption))]; rfl
      exact Out.mk F2 N2 ⟨rfl, by omega, by rw [hl]; exact ⟨_, rfl⟩, by rw [hl]; exact ⟨_, rfl⟩, fun y h1 h2 => by simp only [if_neg h1, if_neg h2]⟩
  · clear F2 N2
    rintro h' tk' m' nx ⟨rfl, hbl, ⟨t1, e1⟩, ⟨t2, e2⟩, hm⟩ F1 N1
    replace F1 := Fr.as F1 (map2 e1 e2 hm)
    clear e1 e2 hm
    (repeat' ((fail_if_success (with_reducible show wpAny _ _ (exec (Stmt.While _ _ _ _) _) _ _ _)); (first | (k_unfold; (try dsimp only)) | (k_end; wrow_close) | walk1 | (dsimp only; walk1) | (leave1; walk_say "STEP leave1"; try dsimp only) | fail "no step")))
    rename Fr _ _ _ _ => F2
    rename News _ _ _ _ => N2
    have hp3 : ∃ c ∈ a.reverse, c ≠ 32 := by obtain ⟨c, h1, h2⟩ := hp2; exact ⟨c, by simpa using h1, h2⟩
    have hfit := lead_fits hbl
    refine While_cut (SPost nx a b t1 ta)
      (SPostX nx a b t1 ta)
      (n₀ := a.length) F2 N2 ?_ ?_ ?_
    · exact ⟨rfl, 0, Nat.zero_le _, rfl, by simp, by simp, .mk rfl (by rw [hTl]; simp), .mk rfl (by simp), fun y h1 h2 => by simp only [if_neg h1, if_neg h2]⟩
    · clear F2 N2
      rintro n m₁ nx' h tk ⟨rfl, k, hk, rfl, hlead, hbl', ⟨t3, e1⟩, ⟨t4, e2⟩, hm⟩ F1 N1
      have hkl := some_left hbl' hp3 (by rw [List.length_reverse]; exact hk)
      rw [List.length_reverse] at hkl
      replace F1 := Fr.as F1 (map2 e1 e2 hm)
      clear e1 e2 hm
      (repeat' ((fail_if_success (with_reducible show wpAny _ _ (exec (Stmt.While _ _ _ _) _) _ _ _)); (first | (k_unfold; (try dsimp only)) | (k_end; wrow_close) | walk1 | (dsimp only; walk1) | (leave1; walk_say "STEP leave1"; try dsimp only) | fail "no step")))
      · rename ((Txt.item _ _ == _) = true) => hit
        rename Fr _ _ _ _ => F2
        rename News _ _ _ _ => N2
        rw [T_item a (by omega) (by omega), lit_sp, T_beq] at hit
        simp only [decide_eq_true_eq, List.cons.injEq, and_true] at hit
        have e : ((a.length : Int) - 1 - k).toNat = a.length - 1 - k := by omega
        rw [e, ← rev_getD hkl] at hit
        have hb1 : b - lead a b - ((k + 1 : Nat) : Int) = b - lead a b - k - 1 := by omega
        have hb2 : (a.length : Int) - 1 - ((k + 1 : Nat) : Int) = a.length - 1 - k - 1 := by omega
        have hkl' : k < a.reverse.length := by rw [List.length_reverse]; exact hkl
        refine ⟨_, _, _, _, _, rfl, F2, N2, ?_, rfl, k + 1, hkl, rfl, ?_, take_more hbl' hkl' hit, .mk rfl hb2.symm, .mk rfl hb1.symm, fun y h1 h2 => by simp only [if_neg h1, if_neg h2]⟩
        · omega
        · rw [hlead, lead_one hkl' (by assumption) hit, hb1]; omega
      · rename ((Txt.item _ _ == _) = false) => hit
        rename Fr _ _ _ _ => F2
        rename News _ _ _ _ => N2
        rw [T_item a (by omega) (by omega), lit_sp, T_beq] at hit
        simp only [decide_eq_false_iff_not, List.cons.injEq, and_true] at hit
        have e : ((a.length : Int) - 1 - k).toNat = a.length - 1 - k := by omega
        rw [e, ← rev_getD hkl] at hit
        have hl : lead a.reverse (b - lead a b) = k := by rw [hlead, lead_all (by rw [List.length_reverse]; exact hkl) (.inr hit)]; rfl
        exact Out.mk F2 N2 ⟨rfl, by rw [hl]; exact ⟨_, rfl⟩, fun y h1 h2 => by simp only [if_neg h1, if_neg h2]⟩
      · rename Fr _ _ _ _ => F2
        rename News _ _ _ _ => N2
        have hl : lead a.reverse (b - lead a b) = k := by rw [hlead, lead_all (by rw [List.length_reverse]; exact hkl) (.inl (by assumption))]; rfl
        exact Out.mk F2 N2 ⟨rfl, by rw [hl]; exact ⟨_, rfl⟩, fun y h1 h2 => by simp only [if_neg h1, if_neg h2]⟩
    · clear F2 N2
      rintro h' tk' m' nx' ⟨rfl, ⟨t3, e1⟩, hm⟩ F1 N1
      have e2 : m' (Str.ofString "lpos") = some (.int (lead a b) t1) := by rw [hm _ (by decide) (by decide)]; rfl
      have e3 : m' (Str.ofString "s") = some (.str (T a) ta) := by rw [hm _ (by decide) (by decide)]; rfl
      replace F1 := Fr.as F1 (map3 (m₀ := m') e1 e2 e3 fun _ _ _ _ => rfl)
      clear e1 e2 e3 hm
      (repeat' ((fail_if_success (with_reducible show wpAny _ _ (exec (Stmt.While _ _ _ _) _) _ _ _)); (first | (k_unfold; (try dsimp only)) | (k_end; wrow_close) | walk1 | (dsimp only; walk1) | (leave1; walk_say "STEP leave1"; try dsimp only) | fail "no step")))
      rw [T_slice_ss a (by omega) (by omega) (by omega)]
      refine cb_retS hret ?_ (by assumption) (by assumption)
      unfold stripL
      congr 2
      omega
end
section
open PySem PySem.W PyProof.Rows
local macro_rules | `(tactic| k_all) => `(tactic| assumption)

inductive LevOut (D : Addr) (k : Nat) (nx : List (Addr × Obj)) (a b : List Nat) (mc : Int) (i : Nat) (m : Str → Option Value) (nx' : List (Addr × Obj)) : Prop
  | mk (vs : List Value) (row : List Int) (res : Int) (h1 : nx' = (D, W.listOf vs.toArray k) :: nx) (h2 : IntsAre vs row) (h3 : row.length = a.length)
      (e1 : AtI m (Str.ofString "result") res) (e2 : AtI m (Str.ofString "max_cost") mc) (e3 : AtS m (Str.ofString "a") (T a)) (e4 : AtS m (Str.ofString "b") (T b)) (e5 : m (Str.ofString "row") = some (.ref D))
      (h4 : outerL a mc b 0 (row0 a.length 2) 0 = outerL a mc (b.drop i) i row res) : LevOut D k nx a b mc i m nx'
inductive LevIn (D : Addr) (k : Nat) (nz : List (Addr × Obj)) (a b : List Nat) (row : List Int) (bc : Nat) (mc i2 : Int) (j : Nat) (m : Str → Option Value) (nx' : List (Addr × Obj)) : Prop
  | mk (vs' : List Value) (row' done : List Int) (d res' mn : Int) (h1 : nx' = (D, W.listOf vs'.toArray k) :: nz) (h2 : IntsAre vs' row') (h3 : row' = done ++ row.drop j) (h4 : done.length = j)
      (e1 : AtI m (Str.ofString "distance") d) (e2 : AtI m (Str.ofString "result") res') (e3 : AtI m (Str.ofString "minimum") mn) (e4 : AtI m (Str.ofString "max_cost") mc)
      (e5 : AtS m (Str.ofString "a") (T a)) (e6 : AtS m (Str.ofString "b") (T b)) (e7 : AtS m (Str.ofString "bchar") (T [bc])) (e8 : m (Str.ofString "row") = some (.ref D))
      (h5 : inner bc a row i2 i2 9223372036854775807 = (done ++ (inner bc (a.drop j) (row.drop j) d res' mn).1, (inner bc (a.drop j) (row.drop j) d res' mn).2)) : LevIn D k nz a b row bc mc i2 j m nx'
theorem lev_loop {w : World} {mean : ExcName → Option Value} {mg mb : Str → Option Value} {dp un : Nat} {gd : Option (List Code)} {cn : Str} {cs : Scope} {a' : Addr} {cccd : Value} {cl : List (Str × Addr)} {outer : List Env} {base g : Heap} {L L1 : Addr}
    {m : Str → Option Value} {s : Shared} {Q : Flow → Shared → Prop} {E' : Value → Shared → Prop} {nx : List (Addr × Obj)} {a b : List Nat} {mc : Int} {body : List Stmt} {scope : Scope} {qual : Str} {cdv : Value} {s1 s2 s3 s4 s5 s6 s7 s8 s9 s10 s11 s12 : Stmt} {REST : List Stmt}
    (hat : AtFn (hd.heap_39 w.params) 35 body scope qual cdv) (hb : body = s1 :: s2 :: s3 :: s4 :: s5 :: s6 :: s7 :: s8 :: s9 :: s10 :: s11 :: s12 :: REST)
    (hB : Below (ktrTop dp un gd cn cs L a' cccd cl outer) base (envX cn cs L a' cccd cl :: outer) g) (hX : (hd.heap_39 w.params).In g) (hT : Top hdB.view_39 (looseW hdB.view_39 [Str.ofString "_Accumulator"]) mean mg mb g)
    (hd : dp + 3 < recursionLimit) (hu : un + 10 * 3 < cLine)
    (F : Fr g L1 s.heap m) (N : News g L1 s.heap nx) (e1 : AtS m (Str.ofString "a") (T a)) (e2 : AtS m (Str.ofString "b") (T b)) (e3 : AtI m (Str.ofString "max_cost") mc)
    (hla : a.length ≤ 20) (hlb : b.length ≤ 20) (hoa : ∀ c ∈ a, OkC c) (hob : ∀ c ∈ b, OkC c) (hm1 : -100 ≤ mc) (hm2 : mc ≤ 100) (hna : a ≠ []) (hab : a.length ≤ b.length)
    (hQ : ∀ t h' tk' m', Fr g L1 h' m' → News g L1 h' nx → Q (.ret (.int (levB a b mc) t)) { s with heap := h', toks := tk' }) :
    wpAny (model Challenge.rw_xj0014_01.row.prog w) ((ktrTop dp un gd cn cs L a' cccd cl outer).deeper (envOf qual scope L1 35 cdv)) (execs REST (envOf qual scope L1 35 cdv)) Q
      (fun e s' => wpAny (model Challenge.rw_xj0014_01.row.prog w) ((ktrTop dp un gd cn cs L a' cccd cl outer).deeper (envOf qual scope L1 35 cdv)) (leaving (envOf qual scope L1 35 cdv) e) (fun _ s'' => E' e s'') (fun e' s'' => E' e' s'') s') s := by
  revert hX; k_fill; intro hX
  refine' hat.elim ?h ?_
  case h => k_is
  intro h1 h2 h3 h4
  subst h1 h2 h3 h4
  simp only [List.cons.injEq] at hb
  obtain ⟨rfl, rfl, rfl, rfl, rfl, rfl, rfl, rfl, rfl, rfl, rfl, rfl, rfl⟩ := hb
  clear hat
  have hTa : (T a).length = a.length := T_len a
  have hTb : (T b).length = b.length := T_len b
  obtain ⟨ta, e1⟩ := e1
  obtain ⟨tb, e2⟩ := e2
  obtain ⟨tc, e3⟩ := e3
  replace F := Fr.as F (map3 (m₀ := m) e1 e2 e3 (fun _ _ _ _ => rfl))
  clear e1 e2 e3

  (repeat' ((fail_if_success (with_reducible show wpAny _ _ (exec (Stmt.While _ _ _ _) _) _ _ _)); (fail_if_success (with_reducible show wpAny _ _ (pyIter _) _ _ _)); (first | ((with_reducible show wpAny _ _ (call (Value.ref _) [Value.str _ _, Value.str _ _]) _ _ _); refine' subst_claim2 _ _ _ _ _ _ _ _ _ _ _ _ _ _ _ _ _ _ _ _ _ _ _ _ _ _ _ _ ?k1 ?k2 ?k3 ?k4 ?k5 ?kK ?kp ?kd ?ku ?kR; (case k1 => k_asm); (case k2 => k_asm); (case k3 => k_asm); (case k4 => k_asm); (case k5 => k_asm); (case kK => exact rfl); (case kp => exact ⟨by first | assumption | rfl, by first | assumption | rfl, by assumption⟩); (case kd => ktr_room); (case ku => ktr_units); intro _ _ _ _ _; (try dsimp only); walk_say "MY sub") | (k_unfold; (try dsimp only)) | (k_end; wrow_close) | walk1 | (dsimp only; walk1) | (leave1; walk_say "STEP leave1"; try dsimp only) | fail "no step")))
  · unfold levB at hQ
    rw [if_pos (by omega)] at hQ
    exact hQ _ _ _ _ (by assumption) (by assumption)
  rename IsRange _ _ _ _ _ _ _ _ => R2
  rename Fr _ _ _ _ => F2
  rename News _ _ _ _ => N2
  rw [hTa] at R2
  refine list_rangeK rfl F2 N2 R2 (size2 _ (by omega)).1 (size2 _ (by omega)).2 (by omega) ?_
  intro D h' tk ys k F3 N3 hD hys
  clear F2 N2 R2
  rw [← row0_range] at hys
  have hDn : ∀ p ∈ nx, p.1 ≠ D := fun p hp e => absurd (hD p hp) (by rw [e]; exact Nat.lt_irrefl _)
  have hlev : levB a b mc = outerL a mc b 0 (row0 a.length 2) 0 := by unfold levB; rw [if_neg (by omega)]
  rw [hlev] at hQ
  (repeat' ((fail_if_success (with_reducible show wpAny _ _ (exec (Stmt.While _ _ _ _) _) _ _ _)); (fail_if_success (with_reducible show wpAny _ _ (pyIter _) _ _ _)); (first | ((with_reducible show wpAny _ _ (call (Value.ref _) [Value.str _ _, Value.str _ _]) _ _ _); refine' subst_claim2 _ _ _ _ _ _ _ _ _ _ _ _ _ _ _ _ _ _ _ _ _ _ _ _ _ _ _ _ ?k1 ?k2 ?k3 ?k4 ?k5 ?kK ?kp ?kd ?ku ?kR; (case k1 => k_asm); (case k2 => k_asm); (case k3 => k_asm); (case k4 => k_asm); (case k5 => k_asm); (case kK => exact rfl); (case kp => exact ⟨by first | assumption | rfl, by first | assumption | rfl, by assumption⟩); (case kd => ktr_room); (case ku => ktr_units); intro _ _ _ _ _; (try dsimp only); walk_say "MY sub") | (k_unfold; (try dsimp only)) | (k_end; wrow_close) | walk1 | (dsimp only; walk1) | (leave1; walk_say "STEP leave1"; try dsimp only) | fail "no step")))
  rename IsRange _ _ _ _ _ _ _ _ => R2
  rename Fr _ _ _ _ => F2
  rename News _ _ _ _ => N2
  refine range0_cut (n := b.length) (LevOut D k nx a b mc)
    rfl R2 (by rw [hTb]) (by omega) F2 N2 ?_ ?_ ?_
  · exact ⟨ys, _, 0, rfl, hys, row0_len _ _, ⟨_, rfl⟩, ⟨_, rfl⟩, ⟨_, rfl⟩, ⟨_, rfl⟩, rfl, by simp⟩
  · clear F2 N2 R2
    rintro i t m₁ nx' h tk' own hi ⟨vs, row, res, rfl, hvs, hlen, ⟨t1, e1⟩, ⟨t2, e2⟩, ⟨t3, e3⟩, ⟨t4, e4⟩, e5, hout⟩ hown F1 N1
    replace F1 := Fr.as F1 (mapL_cons (x := Str.ofString "bindex") (v := .int i t) rfl (mapL_cons (x := Str.ofString "max_cost") (v := .int mc t2) (by rw [if_neg (by decide)]; exact e2)
      (mapL_cons (x := Str.ofString "a") (v := .str (T a) t3) (by rw [if_neg (by decide)]; exact e3) (mapL_cons (x := Str.ofString "b") (v := .str (T b) t4) (by rw [if_neg (by decide)]; exact e4) (mapL_cons (x := Str.ofString "row") (v := .ref D) (by rw [if_neg (by decide)]; exact e5) mapL_nil)))))
    clear e1 e2 e3 e4 e5
    have hzD : ∀ p ∈ nx ++ own, p.1 ≠ D := fun p hp => (List.mem_append.mp hp).elim (hDn p) fun h e => hown p h D (by simp) e
    replace N1 : News _ _ _ ((D, W.listOf vs.toArray k) :: (nx ++ own)) := N1
    rw [outer_step hi] at hout
    have hoc : OkC (b.getD i 0) := by rw [List.getD_eq_getElem?_getD, List.getElem?_eq_getElem hi]; exact hob _ (List.getElem_mem hi)
    have hit : Txt.item (T b) (i : Int) = T [b.getD i 0] := by rw [T_item b (by omega) (by omega)]; rfl
    (with_reducible show wpAny _ _ _ _ _ _); k_fold
    (repeat' ((fail_if_success (with_reducible show wpAny _ _ (exec (Stmt.While _ _ _ _) _) _ _ _)); (fail_if_success (with_reducible show wpAny _ _ (pyIter _) _ _ _)); (first | ((with_reducible show wpAny _ _ (call (Value.ref _) [Value.str _ _, Value.str _ _]) _ _ _); refine' subst_claim2 _ _ _ _ _ _ _ _ _ _ _ _ _ _ _ _ _ _ _ _ _ _ _ _ _ _ _ _ ?k1 ?k2 ?k3 ?k4 ?k5 ?kK ?kp ?kd ?ku ?kR; (case k1 => k_asm); (case k2 => k_asm); (case k3 => k_asm); (case k4 => k_asm); (case k5 => k_asm); (case kK => exact rfl); (case kp => exact ⟨by first | assumption | rfl, by first | assumption | rfl, by assumption⟩); (case kd => ktr_room); (case ku => ktr_units); intro _ _ _ _ _; (try dsimp only); walk_say "MY sub") | (k_unfold; (try dsimp only)) | (k_end; wrow_close) | walk1 | (dsimp only; walk1) | (leave1; walk_say "STEP leave1"; try dsimp only) | fail "no step")))
    rename IsRange _ _ _ _ _ _ _ _ => R2
    rename Fr _ _ _ _ => F2
    rename News _ _ _ _ => N2
    rw [hit] at F2
    generalize b.getD i 0 = bc at *
    generalize hnz : nx ++ own = nz at *
    refine range0_cut (n := a.length) (LevIn D k nz a b row bc mc (2 * i))
      rfl R2 (by rw [hTa]) (by omega) F2 N2 ?_ ?_ ?_
    · exact ⟨vs, row, [], 2 * i, 2 * i, _, rfl, hvs, by simp, rfl, .mk rfl (by omega), .mk rfl (by omega), ⟨_, rfl⟩, ⟨_, rfl⟩, ⟨_, rfl⟩, ⟨_, rfl⟩, ⟨_, rfl⟩, rfl, by simp⟩
    · clear F2 N2 R2
      rintro j tj m₂ nx2 h2 tk2 own2 hj ⟨vs', row', dn, d, res', mn, rfl, hvs', hrow, hdn, ⟨q1, e1⟩, ⟨q2, e2⟩, ⟨q3, e3⟩, ⟨q4, e4⟩, ⟨q5, e5⟩, ⟨q6, e6⟩, ⟨q7, e7⟩, e8, hin⟩ hown2 F1 N1
      replace F1 := Fr.as F1 (mapL_cons (x := Str.ofString "index") (v := .int j tj) rfl (mapL_cons (x := Str.ofString "distance") (v := .int d q1) (by rw [if_neg (by decide)]; exact e1)
        (mapL_cons (x := Str.ofString "result") (v := .int res' q2) (by rw [if_neg (by decide)]; exact e2) (mapL_cons (x := Str.ofString "minimum") (v := .int mn q3) (by rw [if_neg (by decide)]; exact e3)
        (mapL_cons (x := Str.ofString "max_cost") (v := .int mc q4) (by rw [if_neg (by decide)]; exact e4) (mapL_cons (x := Str.ofString "a") (v := .str (T a) q5) (by rw [if_neg (by decide)]; exact e5)
        (mapL_cons (x := Str.ofString "b") (v := .str (T b) q6) (by rw [if_neg (by decide)]; exact e6) (mapL_cons (x := Str.ofString "bchar") (v := .str (T [bc]) q7) (by rw [if_neg (by decide)]; exact e7) (mapL_cons (x := Str.ofString "row") (v := .ref D) (by rw [if_neg (by decide)]; exact e8) mapL_nil)))))))))
      clear e1 e2 e3 e4 e5 e6 e7 e8
      have hzD2 : ∀ p ∈ nz ++ own2, p.1 ≠ D := fun p hp => (List.mem_append.mp hp).elim (hzD p) fun h e => hown2 p h D (by simp) e
      replace N1 : News _ _ _ ((D, W.listOf vs'.toArray k) :: (nz ++ own2)) := N1
      have hlen' : row'.length = a.length := by rw [hrow, List.length_append, hdn, List.length_drop, hlen]; omega
      have hita : Txt.item (T a) (j : Int) = T [a.getD j 0] := by rw [T_item a (by omega) (by omega)]; rfl
      have hoa1 : OkC (a.getD j 0) := by rw [List.getD_eq_getElem?_getD, List.getElem?_eq_getElem hj]; exact hoa _ (List.getElem_mem hj)
      have hoo : OkC bc ∧ OkC (a.getD j 0) := ⟨hoc, hoa1⟩
      (with_reducible show wpAny _ _ _ _ _ _); k_fold
      (repeat' ((fail_if_success (with_reducible show wpAny _ _ (exec (Stmt.While _ _ _ _) _) _ _ _)); (fail_if_success (with_reducible show wpAny _ _ (pyIter _) _ _ _)); (first | ((with_reducible show wpAny _ _ (call (Value.ref _) [Value.str _ _, Value.str _ _]) _ _ _); refine' subst_claim2 _ _ _ _ _ _ _ _ _ _ _ _ _ _ _ _ _ _ _ _ _ _ _ _ _ _ _ _ ?k1 ?k2 ?k3 ?k4 ?k5 ?kK ?kp ?kd ?ku ?kR; (case k1 => k_asm); (case k2 => k_asm); (case k3 => k_asm); (case k4 => k_asm); (case k5 => k_asm); (case kK => exact rfl); (case kp => exact ⟨by first | assumption | rfl, by first | assumption | rfl, by assumption⟩); (case kd => ktr_room); (case ku => ktr_units); intro _ _ _ _ _; (try dsimp only); walk_say "MY sub") | (k_unfold; (try dsimp only)) | (k_end; wrow_close) | walk1 | (dsimp only; walk1) | (leave1; walk_say "STEP leave1"; try dsimp only) | fail "no step")))
      all_goals (
        rename Fr _ _ _ _ => F2
        rename News _ _ _ _ => N2
        have hjr : j < row.length := by omega
        rename IntsAre (List.set _ _ _) _ => hset
        simp only [Int.toNat_natCast] at hset F2 N2
        subst hrow
        rw [get_mid hdn hjr, set_mid hdn hjr] at hset
        rw [get_mid hdn hjr] at F2 N2)
      · refine Turn.mk (nx := (D, W.listOf _ k) :: nz) F2 N2 hown2 ⟨_, _, _, _, _, _, rfl, hset, rfl, by simp [hdn], ⟨_, rfl⟩, ⟨_, rfl⟩, ⟨_, rfl⟩, ⟨_, rfl⟩, ⟨_, rfl⟩, ⟨_, rfl⟩, ⟨_, rfl⟩, rfl, ?_⟩
        refine inner_turn hj hjr hin rfl ?_
        rename (_ < mn) => hlt
        simp only [Int.toNat_natCast] at hlt
        rw [get_mid hdn hjr] at hlt
        rw [if_pos hlt]
      · refine Turn.mk (nx := (D, W.listOf _ k) :: nz) F2 N2 hown2 ⟨_, _, _, _, _, _, rfl, hset, rfl, by simp [hdn], ⟨_, rfl⟩, ⟨_, rfl⟩, ⟨_, rfl⟩, ⟨_, rfl⟩, ⟨_, rfl⟩, ⟨_, rfl⟩, ⟨_, rfl⟩, rfl, ?_⟩
        refine inner_turn hj hjr hin rfl ?_
        rename (¬ (_ < mn)) => hlt
        simp only [Int.toNat_natCast] at hlt
        rw [get_mid hdn hjr] at hlt
        rw [if_neg hlt]
    · clear F2 N2 R2
      rintro h2 tk2 m₂ nx2 ⟨vs', row', dn, d, res', mn, rfl, hvs', hrow, hdn, ⟨q1, e1⟩, ⟨q2, e2⟩, ⟨q3, e3⟩, ⟨q4, e4⟩, ⟨q5, e5⟩, ⟨q6, e6⟩, ⟨q7, e7⟩, e8, hin⟩ F1 N1
      rw [List.drop_of_length_le (Nat.le_refl _), inner_nil, List.append_nil] at hin
      rw [List.drop_of_length_le (by omega), List.append_nil] at hrow
      subst hrow
      rw [hin] at hout
      replace F1 := Fr.as F1 (mapL_cons (x := Str.ofString "result") (v := .int res' q2) e2 (mapL_cons (x := Str.ofString "minimum") (v := .int mn q3) e3
        (mapL_cons (x := Str.ofString "max_cost") (v := .int mc q4) e4 (mapL_cons (x := Str.ofString "a") (v := .str (T a) q5) e5
        (mapL_cons (x := Str.ofString "b") (v := .str (T b) q6) e6 (mapL_cons (x := Str.ofString "row") (v := .ref D) e8 mapL_nil))))))
      clear e1 e2 e3 e4 e5 e6 e7 e8
      (repeat' ((fail_if_success (with_reducible show wpAny _ _ (exec (Stmt.While _ _ _ _) _) _ _ _)); (fail_if_success (with_reducible show wpAny _ _ (pyIter _) _ _ _)); (first | ((with_reducible show wpAny _ _ (call (Value.ref _) [Value.str _ _, Value.str _ _]) _ _ _); refine' subst_claim2 _ _ _ _ _ _ _ _ _ _ _ _ _ _ _ _ _ _ _ _ _ _ _ _ _ _ _ _ ?k1 ?k2 ?k3 ?k4 ?k5 ?kK ?kp ?kd ?ku ?kR; (case k1 => k_asm); (case k2 => k_asm); (case k3 => k_asm); (case k4 => k_asm); (case k5 => k_asm); (case kK => exact rfl); (case kp => exact ⟨by first | assumption | rfl, by first | assumption | rfl, by assumption⟩); (case kd => ktr_room); (case ku => ktr_units); intro _ _ _ _ _; (try dsimp only); walk_say "MY sub") | (k_unfold; (try dsimp only)) | (k_end; wrow_close) | walk1 | (dsimp only; walk1) | (leave1; walk_say "STEP leave1"; try dsimp only) | fail "no step")))
      · rename Fr _ _ _ _ => F2
        rename News _ _ _ _ => N2
        have hr : outerL a mc b 0 (row0 a.length 2) 0 = mc + 1 := by rw [hout]; exact if_pos (by assumption)
        rw [hr] at hQ
        exact hQ _ _ _ _ F2 (fun p hp => N2 p (.tail _ (by rw [← hnz]; exact List.mem_append_left _ hp)))
      · rename Fr _ _ _ _ => F2
        rename News _ _ _ _ => N2
        have hr : outerL a mc b 0 (row0 a.length 2) 0 = outerL a mc (b.drop (i + 1)) ((i : Int) + 1) row' res' := by rw [hout]; exact if_neg (by assumption)
        refine Turn.mk (nx := (D, W.listOf vs'.toArray k) :: nx) F2 (by rw [← hnz] at N2; exact N2) hown ⟨vs', row', res', rfl, hvs', hdn, ⟨_, rfl⟩, ⟨_, rfl⟩, ⟨_, rfl⟩, ⟨_, rfl⟩, rfl, ?_⟩
        rw [hr]
        push_cast
        rfl
  · clear F2 N2 R2
    rintro h2 tk2 m₂ nx2 ⟨vs', row', res', rfl, hvs', hlen, ⟨q1, e1⟩, ⟨q2, e2⟩, ⟨q3, e3⟩, ⟨q4, e4⟩, e5, hout⟩ F1 N1
    rw [List.drop_of_length_le (Nat.le_refl _)] at hout
    have hr : outerL a mc b 0 (row0 a.length 2) 0 = res' := hout
    rw [hr] at hQ
    replace F1 := Fr.as F1 (mapL_cons (x := Str.ofString "result") (v := .int res' q1) e1 mapL_nil)
    (repeat' ((fail_if_success (with_reducible show wpAny _ _ (exec (Stmt.While _ _ _ _) _) _ _ _)); (fail_if_success (with_reducible show wpAny _ _ (pyIter _) _ _ _)); (first | ((with_reducible show wpAny _ _ (call (Value.ref _) [Value.str _ _, Value.str _ _]) _ _ _); refine' subst_claim2 _ _ _ _ _ _ _ _ _ _ _ _ _ _ _ _ _ _ _ _ _ _ _ _ _ _ _ _ ?k1 ?k2 ?k3 ?k4 ?k5 ?kK ?kp ?kd ?ku ?kR; (case k1 => k_asm); (case k2 => k_asm); (case k3 => k_asm); (case k4 => k_asm); (case k5 => k_asm); (case kK => exact rfl); (case kp => exact ⟨by first | assumption | rfl, by first | assumption | rfl, by assumption⟩); (case kd => ktr_room); (case ku => ktr_units); intro _ _ _ _ _; (try dsimp only); walk_say "MY sub") | (k_unfold; (try dsimp only)) | (k_end; wrow_close) | walk1 | (dsimp only; walk1) | (leave1; walk_say "STEP leave1"; try dsimp only) | fail "no step")))
    rename Fr _ _ _ _ => F2
    rename News _ _ _ _ => N2
    exact hQ _ _ _ _ F2 (fun p hp => N2 p (.tail _ hp))
end
section
open PySem PySem.W PyProof.Rows
open PySem.Spec PySem.Builtin
noncomputable def PV (v : Int) (pv : Value) : Prop := (v = 0 ∧ pv = .none) ∨ (v ≠ 0 ∧ ∃ t, pv = .int v t)
noncomputable def cutAt (x : Str) (v : Int) : Str := if v = 0 then Txt.slice x none none else Txt.slice x none (some v)
section
variable {prog : Program} {w : World} {A : Around} {E : Value → Shared → Prop} {s : Shared} {value slice : PySem.Expr} {x : Str} {t : Tok} {h₀ : Heap} {L : Addr} {m : Str → Option Value} {news : List (Addr × Obj)} {Q : Value → Shared → Prop} {env : Env}
theorem or_none {e : PySem.Expr} {v : Int} {k} {p1 p2 : Pos} (hn : ∀ Q' : Value → Shared → Prop, Q' (.int v t) s → wpAny (model prog w) A (eval e env) Q' E s) (h : ∀ pv, PV v pv → Q pv s) :
    wpAny (model prog w) A (eval (.BoolOp .Or [e, .Constant .none k p1] p2) env) Q E s := by
  refine BoolOp_or (hn _ (PyProof.Rows.truthy_int ?_))
  by_cases h0 : v = 0
  · rw [if_neg (by simp [h0])]
    exact BoolOp_one (wpAny_Constant_none (h _ (.inl ⟨h0, rfl⟩)))
  · rw [if_pos (by simp [h0])]
    exact h _ (.inr ⟨h0, t, rfl⟩)
theorem slice_pv {v : Int} {pv : Value} (hp : PV v pv) (hF : Fr h₀ L s.heap m) (hN : News h₀ L s.heap news) (h : ∀ h' t' k, Fr h₀ L h' m → News h₀ L h' news → Q (.str (cutAt x v) t') { s with heap := h', toks := k })
    (hs : subscripted slice false (.str x t) (.ref s.heap.objs.size) = operate [.ref s.heap.objs.size, .str x t] (getItem (.str x t) (.ref s.heap.objs.size)) := by with_unfolding_all rfl)
    (ht : ∀ r, letTemporaryGo value (.str x t) r = pure () := by intro _; with_unfolding_all rfl) (hsz : x.length ≤ sizeLine := by size_fits) :
    wpAny (model prog w) A (subscriptTail value slice (.str x t) (.ref s.heap.objs.size)) Q E { s with heap := s.heap.push { cls := .type "slice", data := .fields #[.none, pv, .none] } } := by
  unfold cutAt at h
  rcases hp with ⟨h0, rfl⟩ | ⟨h0, u, rfl⟩
  · rw [if_pos h0] at h
    exact slice_strN_nn hF hN h hs ht hsz
  · rw [if_neg h0] at h
    exact slice_strN_ns hF hN h hs ht hsz
end
theorem cutAt_T {l : List Nat} {k : Nat} {v : Int} (hv : v = -(k : Int)) (hk : k ≤ l.length) : cutAt (T l) v = T (l.take (l.length - k)) := by
  subst hv
  unfold cutAt
  rcases Nat.eq_zero_or_pos k with rfl | h
  · rw [if_pos (by simp), T_slice_nn, Nat.sub_zero, List.take_length]
  · rw [if_neg (by omega), T_slice_nneg l (by omega) (by omega)]
    congr 2
    omega
theorem cutAt_len {l : List Nat} {k : Nat} {v : Int} (hv : v = -(k : Int)) (hk : k ≤ l.length) : (cutAt (T l) v).length = l.length - k := by
  rw [cutAt_T hv hk, T_len, List.length_take]
  omega
inductive LPre (news : List (Addr × Obj)) (a b : List Nat) (mc : Int) (tc tb ta : Tok) (n : Nat) (m : Str → Option Value) (nx : List (Addr × Obj)) : Prop
  | mk (h0 : nx = news) (k : Nat) (h1 : k ≤ a.length) (h2 : k ≤ b.length) (h3 : n = a.length - k) (h4 : cpl a b = k + cpl (a.drop k) (b.drop k)) (e1 : AtI m (Str.ofString "pre") k)
      (hm : ∀ y, y ≠ Str.ofString "pre" → m y = if y = Str.ofString "max_cost" then some (.int mc tc) else if y = Str.ofString "b" then some (.str (T b) tb) else if y = Str.ofString "a" then some (.str (T a) ta) else none) : LPre news a b mc tc tb ta n m nx
inductive LPreX (news : List (Addr × Obj)) (a b : List Nat) (mc : Int) (tc tb ta : Tok) (m : Str → Option Value) (nx : List (Addr × Obj)) : Prop
  | mk (h0 : nx = news) (e1 : AtI m (Str.ofString "pre") (cpl a b)) (hm : ∀ y, y ≠ Str.ofString "pre" → m y = if y = Str.ofString "max_cost" then some (.int mc tc) else if y = Str.ofString "b" then some (.str (T b) tb) else if y = Str.ofString "a" then some (.str (T a) ta) else none) : LPreX news a b mc tc tb ta m nx
inductive LPost (nx : List (Addr × Obj)) (a1 b1 : List Nat) (mc : Int) (n : Nat) (m : Str → Option Value) (nx' : List (Addr × Obj)) : Prop
  | mk (h0 : nx' = nx) (k : Nat) (h1 : k ≤ a1.length) (h2 : k ≤ b1.length) (h3 : n = a1.length - k) (h4 : cpl a1.reverse b1.reverse = k + cpl (a1.reverse.drop k) (b1.reverse.drop k))
      (e1 : AtI m (Str.ofString "post") (-(k : Int))) (e2 : AtI m (Str.ofString "max_cost") mc) (e3 : AtS m (Str.ofString "b") (T b1)) (e4 : AtS m (Str.ofString "a") (T a1)) : LPost nx a1 b1 mc n m nx'
inductive LPostX (nx : List (Addr × Obj)) (a1 b1 : List Nat) (mc : Int) (m : Str → Option Value) (nx' : List (Addr × Obj)) : Prop
  | mk (h0 : nx' = nx) (e1 : AtI m (Str.ofString "post") (-(cpl a1.reverse b1.reverse : Int))) (e2 : AtI m (Str.ofString "max_cost") mc) (e3 : AtS m (Str.ofString "b") (T b1)) (e4 : AtS m (Str.ofString "a") (T a1)) : LPostX nx a1 b1 mc m nx'
theorem lev_claim (w : World) (mean : ExcName → Option Value) (mg mb : Str → Option Value) (news : List (Addr × Obj)) (a : List Nat) (ta : Tok) (b : List Nat) (tb : Tok) (mc : Int) (tc : Tok) :
    Cl 3 w mean mg mb 35 news (a.length ≤ 20 ∧ b.length ≤ 20 ∧ (∀ c ∈ a, OkC c) ∧ (∀ c ∈ b, OkC c) ∧ -100 ≤ mc ∧ mc ≤ 100) [.str (T a) ta, .str (T b) tb, .int mc tc] (fun t => .int (lev a b mc) t) := by
  unfold Cl
  k_fill
  intro dp un gd cn cs a' cccd cl outer A₀ base h₀ L m s Q E hB hF hK hN hT hk hpre hd hu hret
  obtain ⟨hla, hlb, hoa, hob, hm1, hm2⟩ := hpre
  have hTa : (T a).length = a.length := T_len a
  have hTb : (T b).length = b.length := T_len b
  refine wpAny_call ?_
  k_dflt cell_enter
  rename_i g L1 h1 FG F0 N0 B1 X1 T1
  replace F0 := Fr.as F0 (m' := fun y => if y = Str.ofString "max_cost" then some (.int mc tc) else if y = Str.ofString "b" then some (.str (T b) tb) else if y = Str.ofString "a" then some (.str (T a) ta) else none) (fun y => by
    show List.lookup y [(Str.ofString "max_cost", Value.int mc tc), (Str.ofString "b", Value.str (T b) tb), (Str.ofString "a", Value.str (T a) ta)] = _
    simp only [lookup_if]
    rfl)
  (repeat' ((fail_if_success (with_reducible show wpAny _ _ (exec (Stmt.While _ _ _ _) _) _ _ _)); (fail_if_success (with_reducible show wpAny _ _ (pyIter _) _ _ _)); (first | ((with_reducible show wpAny _ _ (eval (PySem.Expr.BoolOp PySem.BoolOp.Or [PySem.Expr.Name _ _, PySem.Expr.Constant PySem.Const.none _ _] _) _) _ _ _); apply or_none; (focus (intro Q' hq <;> (walk1; exact hq))); intro _ _; walk_say "MY or") | ((with_reducible show wpAny _ _ (subscriptTail _ _ (Value.str _ _) (Value.ref _)) _ _ _); (refine slice_pv (hsz := ?hsz) (s := ⟨_, _, _, _, _⟩) (by assumption) (by assumption) (by assumption) ?_); (case hsz => size_fits); intro _ _ _ _ _) | (k_unfold; (try dsimp only)) | (k_end; wrow_close) | walk1 | (dsimp only; walk1) | (leave1; walk_say "STEP leave1"; try dsimp only) | fail "no step")))
  · rename ((T a == T b) = true) => hab
    rw [T_beq] at hab
    refine cb_retI hret ?_ (by assumption) (by assumption)
    unfold lev; rw [if_pos (by simpa using hab)]
  rename ((T a == T b) = false) => hab
  rw [T_beq] at hab
  rename Fr _ _ _ _ => F2
  rename News _ _ _ _ => N2
  refine While_cut (LPre news a b mc tc tb ta)
     (LPreX news a b mc tc tb ta)
     (n₀ := a.length) F2 N2 ?_ ?_ ?_
  · exact ⟨rfl, 0, Nat.zero_le _, Nat.zero_le _, rfl, by simp, ⟨_, rfl⟩, fun y h1 => by simp only [if_neg h1]⟩
  · clear F2 N2
    rintro n m₁ nx h tk ⟨rfl, k, hka, hkb, rfl, hcp, ⟨t1, e1⟩, hm⟩ F1 N1
    replace F1 := Fr.as F1 (map1 e1 hm)
    clear e1 hm
    (with_reducible show wpAny _ _ _ _ _ _); k_fold
    (repeat' ((fail_if_success (with_reducible show wpAny _ _ (exec (Stmt.While _ _ _ _) _) _ _ _)); (fail_if_success (with_reducible show wpAny _ _ (pyIter _) _ _ _)); (first | ((with_reducible show wpAny _ _ (eval (PySem.Expr.BoolOp PySem.BoolOp.Or [PySem.Expr.Name _ _, PySem.Expr.Constant PySem.Const.none _ _] _) _) _ _ _); apply or_none; (focus (intro Q' hq <;> (walk1; exact hq))); intro _ _; walk_say "MY or") | ((with_reducible show wpAny _ _ (subscriptTail _ _ (Value.str _ _) (Value.ref _)) _ _ _); (refine slice_pv (hsz := ?hsz) (s := ⟨_, _, _, _, _⟩) (by assumption) (by assumption) (by assumption) ?_); (case hsz => size_fits); intro _ _ _ _ _) | (k_unfold; (try dsimp only)) | (k_end; wrow_close) | walk1 | (dsimp only; walk1) | (leave1; walk_say "STEP leave1"; try dsimp only) | fail "no step")))
    · rename ((Txt.item _ _ == Txt.item _ _) = true) => hit
      rename Fr _ _ _ _ => F2
      rename News _ _ _ _ => N2
      have hka' : k < a.length := by omega
      have hkb' : k < b.length := by omega
      rw [T_item a (by omega) (by omega), T_item b (by omega) (by omega), T_beq] at hit
      simp only [Int.toNat_natCast, decide_eq_true_eq, List.cons.injEq, and_true] at hit
      refine ⟨_, _, _, _, _, rfl, F2, N2, ?_, rfl, k + 1, hka', hkb', rfl, ?_, .mk rfl (by simp), fun y h1 => by simp only [if_neg h1]⟩
      · omega
      · rw [hcp, cpl_drop hka' hkb', if_pos hit]; omega
    · rename ((Txt.item _ _ == Txt.item _ _) = false) => hit
      rename Fr _ _ _ _ => F2
      rename News _ _ _ _ => N2
      have hka' : k < a.length := by omega
      have hkb' : k < b.length := by omega
      rw [T_item a (by omega) (by omega), T_item b (by omega) (by omega), T_beq] at hit
      simp only [Int.toNat_natCast, decide_eq_false_iff_not, List.cons.injEq, and_true] at hit
      have hl : cpl a b = k := by rw [hcp, cpl_drop hka' hkb', if_neg hit]; rfl
      exact Out.mk F2 N2 ⟨rfl, by rw [hl]; exact ⟨_, rfl⟩, fun y h1 => by simp only [if_neg h1]⟩
    · rename Fr _ _ _ _ => F2
      rename News _ _ _ _ => N2
      have hl : cpl a b = k := by rw [hcp, cpl_end_b (by omega)]; rfl
      exact Out.mk F2 N2 ⟨rfl, by rw [hl]; exact ⟨_, rfl⟩, fun y h1 => by simp only [if_neg h1]⟩
    · rename Fr _ _ _ _ => F2
      rename News _ _ _ _ => N2
      have hl : cpl a b = k := by rw [hcp, cpl_end_a (by omega)]; rfl
      exact Out.mk F2 N2 ⟨rfl, by rw [hl]; exact ⟨_, rfl⟩, fun y h1 => by simp only [if_neg h1]⟩
  clear F2 N2
  rintro h' tk' m' nx ⟨rfl, ⟨t1, e1⟩, hm⟩ F1 N1
  replace F1 := Fr.as F1 (map1 e1 hm)
  clear e1 hm
  have hpa := cpl_le_left a b
  have hpb := cpl_le_right a b
  (repeat' ((fail_if_success (with_reducible show wpAny _ _ (exec (Stmt.While _ _ _ _) _) _ _ _)); (fail_if_success (with_reducible show wpAny _ _ (pyIter _) _ _ _)); (first | ((with_reducible show wpAny _ _ (eval (PySem.Expr.BoolOp PySem.BoolOp.Or [PySem.Expr.Name _ _, PySem.Expr.Constant PySem.Const.none _ _] _) _) _ _ _); apply or_none; (focus (intro Q' hq <;> (walk1; exact hq))); intro _ _; walk_say "MY or") | ((with_reducible show wpAny _ _ (subscriptTail _ _ (Value.str _ _) (Value.ref _)) _ _ _); (refine slice_pv (hsz := ?hsz) (s := ⟨_, _, _, _, _⟩) (by assumption) (by assumption) (by assumption) ?_); (case hsz => size_fits); intro _ _ _ _ _) | (k_unfold; (try dsimp only)) | (k_end; wrow_close) | walk1 | (dsimp only; walk1) | (leave1; walk_say "STEP leave1"; try dsimp only) | fail "no step")))
  rename Fr _ _ _ _ => F2
  rename News _ _ _ _ => N2
  rw [T_slice_sn a (by omega) (by omega), T_slice_sn b (by omega) (by omega)] at F2
  simp only [Int.toNat_natCast] at F2
  have hlev : lev a b mc = levM (a.drop (cpl a b)) (b.drop (cpl a b)) mc := by unfold lev; rw [if_neg (by simpa using hab)]
  rw [hlev] at hret
  have hoa1 := okc_drop hoa (cpl a b)
  have hob1 := okc_drop hob (cpl a b)
  have hla1 : (a.drop (cpl a b)).length ≤ 20 := by rw [List.length_drop]; omega
  have hlb1 : (b.drop (cpl a b)).length ≤ 20 := by rw [List.length_drop]; omega
  clear hlev hab hpa hpb hTa hTb hoa hob hla hlb
  generalize a.drop (cpl a b) = a1 at *
  generalize b.drop (cpl a b) = b1 at *
  have hTa : (T a1).length = a1.length := T_len a1
  have hTb : (T b1).length = b1.length := T_len b1
  refine While_cut (LPost nx a1 b1 mc)
     (LPostX nx a1 b1 mc)
     (n₀ := a1.length) F2 N2 ?_ ?_ ?_
  · exact ⟨rfl, 0, Nat.zero_le _, Nat.zero_le _, rfl, by simp, ⟨_, rfl⟩, ⟨_, rfl⟩, ⟨_, rfl⟩, ⟨_, rfl⟩⟩
  · clear F2 N2
    rintro n m₁ nx h tk ⟨rfl, k, hka, hkb, rfl, hcp, ⟨t2, e1⟩, ⟨t3, e2⟩, ⟨t4, e3⟩, ⟨t5, e4⟩⟩ F1 N1
    replace F1 := Fr.as F1 (map4 (m₀ := m₁) e1 e2 e3 e4 (fun _ _ _ _ _ => rfl))
    clear e1 e2 e3 e4
    (with_reducible show wpAny _ _ _ _ _ _); k_fold
    obtain ⟨v, hv⟩ : ∃ v : Int, v = -(k : Int) := ⟨_, rfl⟩
    rw [← hv] at F1
    have hsa := cutAt_len hv hka
    have hsb := cutAt_len hv hkb
    all_goals (
      (repeat' ((fail_if_success (with_reducible show wpAny _ _ (exec (Stmt.While _ _ _ _) _) _ _ _)); (fail_if_success (with_reducible show wpAny _ _ (pyIter _) _ _ _)); (first | ((with_reducible show wpAny _ _ (eval (PySem.Expr.BoolOp PySem.BoolOp.Or [PySem.Expr.Name _ _, PySem.Expr.Constant PySem.Const.none _ _] _) _) _ _ _); apply or_none; (focus (intro Q' hq <;> (walk1; exact hq))); intro _ _; walk_say "MY or") | ((with_reducible show wpAny _ _ (subscriptTail _ _ (Value.str _ _) (Value.ref _)) _ _ _); (refine slice_pv (hsz := ?hsz) (s := ⟨_, _, _, _, _⟩) (by assumption) (by assumption) (by assumption) ?_); (case hsz => size_fits); intro _ _ _ _ _) | (k_unfold; (try dsimp only)) | (k_end; wrow_close) | walk1 | (dsimp only; walk1) | (leave1; walk_say "STEP leave1"; try dsimp only) | fail "no step")))
      all_goals first
        | (rename ((Txt.item _ _ == Txt.item _ _) = true) => hit
           rename Fr _ _ _ _ => F2
           rename News _ _ _ _ => N2
           have hka' : k < a1.length := by omega
           have hkb' : k < b1.length := by omega
           rw [T_item_neg a1 (by omega) (by omega), T_item_neg b1 (by omega) (by omega), T_beq] at hit
           simp only [decide_eq_true_eq, List.cons.injEq, and_true] at hit
           have q1 : (v - 1 + a1.length).toNat = a1.length - 1 - k := by omega
           have q2 : (v - 1 + b1.length).toNat = b1.length - 1 - k := by omega
           rw [q1, q2, ← rev_getD hka', ← rev_getD hkb'] at hit
           refine ⟨_, _, _, _, _, rfl, F2, N2, ?_, rfl, k + 1, hka', hkb', rfl, ?_, .mk rfl (by omega), ⟨_, rfl⟩, ⟨_, rfl⟩, ⟨_, rfl⟩⟩
           · omega
           · rw [hcp, cpl_drop (by rw [List.length_reverse]; exact hka') (by rw [List.length_reverse]; exact hkb'), if_pos hit]; omega)
        | (rename ((Txt.item _ _ == Txt.item _ _) = false) => hit
           rename Fr _ _ _ _ => F2
           rename News _ _ _ _ => N2
           have hka' : k < a1.length := by omega
           have hkb' : k < b1.length := by omega
           rw [T_item_neg a1 (by omega) (by omega), T_item_neg b1 (by omega) (by omega), T_beq] at hit
           simp only [decide_eq_false_iff_not, List.cons.injEq, and_true] at hit
           have q1 : (v - 1 + a1.length).toNat = a1.length - 1 - k := by omega
           have q2 : (v - 1 + b1.length).toNat = b1.length - 1 - k := by omega
           rw [q1, q2, ← rev_getD hka', ← rev_getD hkb'] at hit
           have hl : cpl a1.reverse b1.reverse = k := by rw [hcp, cpl_drop (by rw [List.length_reverse]; exact hka') (by rw [List.length_reverse]; exact hkb'), if_neg hit]; rfl
           exact Out.mk F2 N2 ⟨rfl, .mk rfl (by omega), ⟨_, rfl⟩, ⟨_, rfl⟩, ⟨_, rfl⟩⟩)
        | (rename Fr _ _ _ _ => F2
           rename News _ _ _ _ => N2
           have hl : cpl a1.reverse b1.reverse = k := by rw [hcp]; first | (rw [cpl_end_b (by rw [List.length_reverse]; omega)]; rfl) | (rw [cpl_end_a (by rw [List.length_reverse]; omega)]; rfl)
           exact Out.mk F2 N2 ⟨rfl, .mk rfl (by omega), ⟨_, rfl⟩, ⟨_, rfl⟩, ⟨_, rfl⟩⟩))
  clear F2 N2
  rintro h' tk' m' nx ⟨rfl, ⟨t2, e1⟩, ⟨t3, e2⟩, ⟨t4, e3⟩, ⟨t5, e4⟩⟩ F1 N1
  have hca := cpl_le_left a1.reverse b1.reverse
  have hcb := cpl_le_right a1.reverse b1.reverse
  rw [List.length_reverse] at hca hcb
  have hlc : levM a1 b1 mc = levC (cutTail a1 b1) (cutTail b1 a1) mc := rfl
  have hca1 : cutTail a1 b1 = a1.take (a1.length - cpl a1.reverse b1.reverse) := rfl
  have hcb1 : cutTail b1 a1 = b1.take (b1.length - cpl a1.reverse b1.reverse) := by unfold cutTail; rw [cpl_comm]
  rw [hlc] at hret
  have hla2 : (cutTail a1 b1).length ≤ 20 := by rw [hca1, List.length_take]; omega
  have hlb2 : (cutTail b1 a1).length ≤ 20 := by rw [hcb1, List.length_take]; omega
  have hoa2 : ∀ c ∈ cutTail a1 b1, OkC c := by rw [hca1]; exact okc_take hoa1 _
  have hob2 : ∀ c ∈ cutTail b1 a1, OkC c := by rw [hcb1]; exact okc_take hob1 _
  obtain ⟨v, hv⟩ : ∃ v : Int, v = -(cpl a1.reverse b1.reverse : Int) := ⟨_, rfl⟩
  rw [← hv] at e1
  have hA1 : cutAt (T a1) v = T (cutTail a1 b1) := by rw [cutAt_T hv hca, hca1]
  have hB1 : cutAt (T b1) v = T (cutTail b1 a1) := by rw [cutAt_T hv hcb, hcb1]
  clear hv hca hcb hlc hca1 hcb1
  generalize cutTail a1 b1 = a2 at *
  generalize cutTail b1 a1 = b2 at *
  have hTa2 : (T a2).length = a2.length := T_len a2
  have hTb2 : (T b2).length = b2.length := T_len b2
  replace F1 := Fr.as F1 (map4 (m₀ := m') e1 e2 e3 e4 (fun _ _ _ _ _ => rfl))
  clear e1 e2 e3 e4
  have hsa : (cutAt (T a1) v).length = a2.length := by rw [hA1, hTa2]
  have hsb : (cutAt (T b1) v).length = b2.length := by rw [hB1, hTb2]
  (repeat' ((fail_if_success (with_reducible show wpAny _ _ (execs [_, _, _, _, _] _) _ _ _)); (first | ((with_reducible show wpAny _ _ (eval (PySem.Expr.BoolOp PySem.BoolOp.Or [PySem.Expr.Name _ _, PySem.Expr.Constant PySem.Const.none _ _] _) _) _ _ _); apply or_none; (focus (intro Q' hq <;> (walk1; exact hq))); intro _ _; walk_say "MY or") | ((with_reducible show wpAny _ _ (subscriptTail _ _ (Value.str _ _) (Value.ref _)) _ _ _); (refine slice_pv (hsz := ?hsz) (s := ⟨_, _, _, _, _⟩) (by assumption) (by assumption) (by assumption) ?_); (case hsz => size_fits); intro _ _ _ _ _) | (k_unfold; (try dsimp only)) | (k_end; wrow_close) | walk1 | (dsimp only; walk1) | (leave1; walk_say "STEP leave1"; try dsimp only) | fail "no step")))
  all_goals first | (exfalso; omega) | skip
  · rename Fr _ _ _ _ => F2
    rename News _ _ _ _ => N2
    simp only [hA1, hB1, hTa2, hTb2] at *
    refine' lev_loop (AtFn.mk (by k_is)) rfl B1 X1 T1 hd hu F2 (fun p hp => N2 p (.tail _ hp)) ⟨_, rfl⟩ ⟨_, rfl⟩ ⟨_, rfl⟩ hlb2 hla2 hob2 hoa2 hm1 hm2 ?_ ?_ ?_
    · rintro rfl; simp at *
    · omega
    · intro t h2 tk2 m2 F3 N3
      exact leaveK_ F3 N3 fun kF kN => cb_retI hret (levC_swap (by omega) (by omega) (by omega)).symm kF kN
  · rename Fr _ _ _ _ => F2
    rename News _ _ _ _ => N2
    simp only [hA1, hB1, hTa2, hTb2] at *
    refine' lev_loop (AtFn.mk (by k_is)) rfl B1 X1 T1 hd hu F2 N2 ⟨_, rfl⟩ ⟨_, rfl⟩ ⟨_, rfl⟩ hla2 hlb2 hoa2 hob2 hm1 hm2 ?_ ?_ ?_
    · rintro rfl; simp at *
    · omega
    · intro t h2 tk2 m2 F3 N3
      exact leaveK_ F3 N3 fun kF kN => cb_retI hret (levC_same (by omega) (by omega) (by omega)).symm kF kN
  all_goals (
    simp only [hA1, hB1, hTa2, hTb2] at *
    exact cb_retI hret (levC_nil (by omega)).symm (by assumption) (by assumption))
end
end
section
open PySem PySem.W PyProof.Rows
/-- one factor more: the row of the figures of a product -/
noncomputable def stepF (n : Int) (row : List Int) : List Int := List.zipWith (fun low high => n * low + high) (row ++ [0]) (0 :: row)
noncomputable def figs (ns : List Int) : List Int := ns.foldl (fun row n => stepF n row) [1]
theorem stepF_len (n : Int) (row : List Int) : (stepF n row).length = row.length + 1 := by simp [stepF]

theorem foldF_len (ns : List Int) (row : List Int) : (ns.foldl (fun row n => stepF n row) row).length = row.length + ns.length := by
  induction ns generalizing row with
  | nil => rfl
  | cons n ns ih => rw [List.foldl_cons, ih, stepF_len]; simp; (first | lia | omega)
theorem figs_le (ns : List Int) : (figs ns).length ≤ ns.length + 1 := by unfold figs; rw [foldF_len]; simp; (first | lia | omega)

/-- a contract whose argument is a list of the caller's own ledger, whose answer is a new list of ints -/
noncomputable abbrev ClL (k : Nat) (w : World) (mean : ExcName → Option Value) (mg mb : Str → Option Value) (f : Addr) (news : List (Addr × Obj)) (pre : Prop) (vs : List Value) (R : List Int) : Prop :=
  ∀ (dp un : Nat) (gd : Option (List Code)) (cn : Str) (cs : Scope) (a : Addr) (ccd : Value) (cl : List (Str × Addr)) (outer : List Env) (A₀ : Around) (base h₀ : Heap) (L : Addr) (m : Str → Option Value) (s : Shared) (Q E : Value → Shared → Prop),
    Below A₀ base outer h₀ → Fr h₀ L s.heap m → (hd.heap_39 w.params).In h₀ → News h₀ L s.heap news → Top hdB.view_39 (looseW hdB.view_39 [Str.ofString "_Accumulator"]) mean mg mb h₀ → cs.kind = .function →
    pre → dp + k < recursionLimit → un + 10 * k < cLine → (∀ (D : Addr) (ys : List Value) (c : Nat) (h' : Heap) (tk' : Nat), Fr h₀ L h' m → News h₀ L h' ((D, W.listOf ys.toArray c) :: news) → (∀ p ∈ news, p.1 < D) → IntsAre ys R → Q (.ref D) { s with heap := h', toks := tk' }) →
      wpAny (model Challenge.rw_xj0014_01.row.prog w) (ktrTop dp un gd cn cs L a ccd cl outer) (call (.ref f) vs) Q E s



local macro_rules | `(tactic| k_all) => `(tactic| assumption)

inductive FigInv (L1 l : Addr) (news : List (Addr × Obj)) (ns : List Int) (i : Nat) (m : Str → Option Value) (nx : List (Addr × Obj)) : Prop
  | mk (R : Addr) (ys : List Value) (c : Nat) (o : Obj) (v₀ : Option Value) (h0 : nx = (R, W.listOf ys.toArray c) :: (L1 + 1, o) :: news) (ho : o.data = .cell v₀) (hR : L1 + 1 < R) (hRn : ∀ p ∈ news, p.1 < R)
      (hys : IntsAre ys (figs (ns.take i))) (e1 : m (Str.ofString "row") = some (.ref R)) (e2 : m (Str.ofString "numbers") = some (.ref l)) : FigInv L1 l news ns i m nx
theorem figures_claim (w : World) (mean : ExcName → Option Value) (mg mb : Str → Option Value) (news : List (Addr × Obj)) (l : Addr) (vs : List Value) (nn : Nat) (ns : List Int) :
    ClL 1 w mean mg mb 138 news ((l, W.listOf vs.toArray nn) ∈ news ∧ IntsAre vs ns ∧ ns.length ≤ 20 ∧ ∀ n ∈ ns, -3 ≤ n ∧ n ≤ 3) [.ref l] (figs ns) := by
  unfold ClL
  k_fill
  intro dp un gd cn cs a' cccd cl outer A₀ base h₀ L m s Q E hB hF hK hN hT hk hpre hd hu hret
  obtain ⟨hml, hvs, hlen, h33⟩ := hpre
  refine wpAny_call ?_
  k_dflt (refine' code_defC ?k1 ?k2 ?k3 ?k4 ?k5 ?kA ?kF ?kK ?k6 ?k7 ?k8 ?k9 ?kB ?kD ?_ ?c2 ?c3 ?c4; (case kA => exact rfl); (case kF => exact rfl); (case kK => assumption); (case k1 => k_asm); (case k2 => k_asm); (case k3 => k_asm); (case k4 => k_asm); (case k5 => k_asm); (case k6 => k_is); (case k7 => k_is); (case k8 => ktr_room); (case k9 => exact BindsTo.of_eq rfl); (case kB => exact rfl); (case kD => decide +kernel); (case c2 => exact rfl); (case c3 => exact rfl); (case c4 => exact rfl); k_whole; intro g L1 h1 tk1 cells' FG F0 N0 Y' B1 X1 T1 hlt0; k_cells Y'; (try simp only [List.cons_append, List.nil_append] at N0); (try dsimp only); (try k_fold))
  rename (_ = Data.cell _) => hc0
  rename_i oc
  replace F0 := Fr.as F0 (m' := fun y => if y = Str.ofString "numbers" then some (.ref l) else none) (fun y => rfl)
  replace hc0 : oc.data = .cell none := hc0
  have hC : ∀ p ∈ news, p.1 ≠ L1 + 1 := fun p hp e => absurd (hlt0 p hp) (by rw [e]; exact Nat.not_lt.mpr (Nat.le_succ _))
  (repeat' ((fail_if_success (with_reducible show wpAny _ _ (exec (Stmt.While _ _ _ _) _) _ _ _)); (fail_if_success (with_reducible show wpAny _ _ (pyIter _) _ _ _)); (first | (k_unfold; (try dsimp only)) | (k_end; wrow_close) | walk1 | (dsimp only; walk1) | (leave1; walk_say "STEP leave1"; try dsimp only) | fail "no step")))
  rename Fr _ _ _ _ => F2
  rename News _ _ _ _ => N2
  rename (L1 + 1 < _ ∧ _) => hR0
  have hR1 := fun p (hp : p ∈ news) => Nat.lt_trans (hlt0 p hp) (Nat.lt_of_succ_lt hR0.1)
  refine forList_cut (l := l) (vs := vs) (nn := nn) (FigInv L1 l news ns) rfl
    (fun Q' hq => by exact nameX_L F2 rfl hq rfl rfl) (.tail _ (.tail _ hml)) F2 N2 ?_ ?_ ?_
  · exact ⟨_, [.int 1 _], 0, oc, none, rfl, hc0, hR0.1, hR1, .cons _ _ .nil, rfl, rfl⟩
  · clear F2 N2
    rintro i v m₁ nx h tk own hv ⟨R, ys, c, o, v₀, rfl, ho, hR, hRn, hys, e1, e2⟩ hml2 hown F1 N1
    obtain ⟨n, t, hn, rfl⟩ : ∃ n t, ns[i]? = some n ∧ v = .int n t := by
      have hi : i < ns.length := by rw [← hvs.length]; exact (List.getElem?_eq_some_iff.mp hv).1
      obtain ⟨t, hx⟩ := hvs.get i ns[i] (by simp [hi])
      rw [hx] at hv
      exact ⟨ns[i], t, by simp [hi], (Option.some.inj hv).symm⟩
    replace F1 := Fr.as F1 (mapL_cons (x := Str.ofString "row") (v := .ref R) e1 (mapL_cons (x := Str.ofString "numbers") (v := .ref l) e2 mapL_nil))
    clear e1 e2
    obtain ⟨hn1, hn2⟩ := h33 n (List.mem_of_getElem? hn)
    have hCn : ∀ p ∈ news ++ own, p.1 ≠ L1 + 1 := fun p hp => (List.mem_append.mp hp).elim (hC p) fun h e => hown p h (L1 + 1) (by simp) e
    replace N1 : News _ _ _ ((R, W.listOf ys.toArray c) :: (L1 + 1, o) :: (news ++ own)) := N1
    have hlenF : (figs (ns.take i)).length ≤ 100 := Nat.le_trans (figs_le _) (by rw [List.length_take]; (first | lia | omega))
    (with_reducible show wpAny _ _ _ _ _ _); k_fold
    (repeat' ((fail_if_success (with_reducible show wpAny _ _ (exec (Stmt.While _ _ _ _) _) _ _ _)); (fail_if_success (with_reducible show wpAny _ _ (pyIter _) _ _ _)); (first | (k_unfold; (try dsimp only)) | (k_end; wrow_close) | walk1 | (dsimp only; walk1) | (leave1; walk_say "STEP leave1"; try dsimp only) | fail "no step")))
    refine storeX_C F1 N1 rfl (UpdF.tail (fun e => absurd hR (by rw [show R = L1 + 1 from e]; exact Nat.lt_irrefl _)) (UpdF.head hCn)) ho ?_
    intro h3 o3 F3 N3 ho3
    clear F1 N1
    try dsimp only at N3
    (with_reducible show wpAny _ _ _ _ _ _)
    ((first | (k_unfold; (try dsimp only)) | (k_end; wrow_close) | walk1 | (dsimp only; walk1) | (leave1; walk_say "STEP leave1"; try dsimp only) | fail "no step"))
    ((first | (k_unfold; (try dsimp only)) | (k_end; wrow_close) | walk1 | (dsimp only; walk1) | (leave1; walk_say "STEP leave1"; try dsimp only) | fail "no step"))
    k_dflt (refine Assign_zip (g := fun low high => n * low + high) F3 rfl (by rfl) (by with_unfolding_all rfl) (by decide) (by rfl) (by decide) (by rfl) (by rfl) (by decide +kernel) (by rfl) (by rfl) ?_)
    (repeat' ((fail_if_success (with_reducible show wpAny _ _ (call (Value.type _) _) _ _ _)); (((first | (k_unfold; (try dsimp only)) | (k_end; wrow_close) | walk1 | (dsimp only; walk1) | (leave1; walk_say "STEP leave1"; try dsimp only) | fail "no step")))))
    rename IntsAre _ (figs _ ++ [0]) => hw1
    rename IntsAre _ ([0] ++ figs _) => hw2
    rename Fr _ _ _ _ => F4
    rename News _ _ _ _ => N4
    refine srcZ_call rfl (by k_mem) (by k_mem) hw1 hw2 (by simp; (first | lia | omega)) F4 N4 ?_ ?_
    · intro a b ta tb I oI C oC D oD m₂ h tk Q' E' hCo ha hb F' N' hq
      clear F4 N4
      (repeat' ((fail_if_success (with_reducible show wpAny _ _ (exec (Stmt.While _ _ _ _) _) _ _ _)); (fail_if_success (with_reducible show wpAny _ _ (pyIter _) _ _ _)); (first | (k_unfold; (try dsimp only)) | (k_end; wrow_close) | walk1 | (dsimp only; walk1) | (leave1; walk_say "STEP leave1"; try dsimp only) | fail "no step")))
      exact hq _ _
    · intro D zs c h' tk hz F5 N5 hoff
      clear F4 N4
      (repeat' ((fail_if_success (with_reducible show wpAny _ _ (exec (Stmt.While _ _ _ _) _) _ _ _)); (fail_if_success (with_reducible show wpAny _ _ (pyIter _) _ _ _)); (first | (k_unfold; (try dsimp only)) | (k_end; wrow_close) | walk1 | (dsimp only; walk1) | (leave1; walk_say "STEP leave1"; try dsimp only) | fail "no step")))
      rename Fr _ _ _ _ => F6
      rename News _ _ _ _ => N6
      have hlt : ∀ p ∈ (L1 + 1, o3) :: (news ++ own), p.1 < D := fun p hp => hoff p (by simp only [List.mem_cons] at hp ⊢; simp only [hp, or_true])
      refine Turn.mk (nx := (D, W.listOf zs.toArray c) :: (L1 + 1, o3) :: news) F6 (fun p hp => N6 p ?_) (fun p hp b hb => ?_) ⟨.tail _ (.tail _ hml), D, zs, c, o3, _, rfl, ho3, hlt _ List.mem_cons_self, fun p hp => hlt p (.tail _ (List.mem_append_left _ hp)), ?_, rfl, rfl⟩
      · simp only [List.cons_append, List.mem_cons] at hp ⊢
        rcases hp with h | h | h <;> simp only [h, true_or, or_true]
      · rcases List.mem_cons.mp hb with rfl | hb
        · exact Nat.ne_of_lt (hlt p (.tail _ (List.mem_append_right _ hp)))
        · exact hown p hp b (.tail _ hb)
      · rw [List.take_add_one, hn]
        simp only [Option.toList, figs, List.foldl_append, List.foldl_cons, List.foldl_nil]
        exact hz
  · clear F2 N2
    rintro h tk m₁ nx ⟨R, ys, c, o, v₀, rfl, ho, hR, hRn, hys, e1, e2⟩ hml2 F1 N1
    rw [List.take_of_length_le (Nat.le_of_eq hvs.length.symm)] at hys
    replace F1 := Fr.as F1 (mapL_cons (x := Str.ofString "row") (v := .ref R) e1 (mapL_cons (x := Str.ofString "numbers") (v := .ref l) e2 mapL_nil))
    (repeat' ((fail_if_success (with_reducible show wpAny _ _ (exec (Stmt.While _ _ _ _) _) _ _ _)); (fail_if_success (with_reducible show wpAny _ _ (pyIter _) _ _ _)); (first | (k_unfold; (try dsimp only)) | (k_end; wrow_close) | walk1 | (dsimp only; walk1) | (leave1; walk_say "STEP leave1"; try dsimp only) | fail "no step")))
    rename News h₀ _ _ _ => kN2
    exact hret R ys c _ _ (by assumption) (fun p hp => kN2 p (by simp only [List.mem_cons] at hp ⊢; rcases hp with h | h <;> simp only [h, true_or, or_true])) hRn hys
end
section
open PySem PySem.W PySem.Calls PyProof.Rows Builtin Builtin.List
abbrev pileObj (C dx : Addr) (its : Array Value) (n : Nat) : Obj := { cls := .ref C, dict := some dx, data := .seq its n }
/-- the object of a class that stands straight over list and is made by list's maker -/
noncomputable def overList (K : Frag) (C : Addr) : Bool := (clsIn K C).any fun cd => cd.mro == [.ref C, .type "list", .type "object"]
noncomputable def madeList (K : Frag) (C : Addr) : Bool := (K.lookup C).any fun o => o.slots[4]? == some (some (.builtin "list.__new__"))
section
variable {K : Frag} {C x : Addr} {M : Model} {h : Heap}
theorem over_mro (hp : overList K C = true) : ∃ cd, clsIn K C = some cd ∧ cd.mro = [.ref C, .type "list", .type "object"] := by
  cases e : clsIn K C with
  | none => rw [overList, e] at hp; cases hp
  | some cd => exact ⟨cd, rfl, by rw [overList, e] at hp; exact eq_of_beq hp⟩
theorem over_looks (X : K.In h) (hp : overList K C = true) : Looks M h (mroOf (.ref C)) [.ref C, .type "list", .type "object"] := by
  obtain ⟨cd, hc, ho⟩ := over_mro hp
  exact ho ▸ Looks.andThen (looks_clsIn X hc) .now
theorem over_sub {T : Value} (X : K.In h) (hp : overList K C = true) (hT : ([.ref C, .type "list", .type "object"] : List Value).contains T = true) : Looks M h (isSubtype (.ref C) T) true := by
  obtain ⟨cd, hc, ho⟩ := over_mro hp
  exact looks_mroIn X (by rw [mroIn, hc, Option.bind_some, ho, hT]; rfl)
theorem over_inst {ox : Obj} {od : Option Obj} {T : Value} (X : K.In h) (I : InstAt h x ox C od) (hp : overList K C = true) (hT : ([.ref C, .type "list", .type "object"] : List Value).contains T = true) : Looks M h (isInstance (.ref x) T) true :=
  I.type.andThen (over_sub X hp hT)
theorem over_made (X : K.In h) (hp : overList K C = true) (hl : madeList K C = true) : Looks M h (Bind.madeBy (.ref C)) (some "list.__new__") := by
  obtain ⟨o, ho, e⟩ := any_some hl
  rw [beq_iff_eq] at e
  refine (over_looks X hp).andThen ?_
  rw [List.forIn_cons]
  have slot : Looks M h (slotAt C 4) (some (.builtin "list.__new__")) := by
    refine (Looks.ld (X _ _ ho)).andThen ?_
    rw [e]
    exact .now
  exact Looks.andThen (a := (some (some "list.__new__"), Value.ref C)) (Looks.andThen (a := .done (some (some "list.__new__"), Value.ref C)) (slot.andThen .now) .now) .now
theorem over_base (X : K.In h) (hp : overList K C = true) (hl : madeList K C = true) : Looks M h (Bind.staticBase (.ref C)) (.ref C) := by
  refine (over_looks X hp).andThen ?_
  rw [List.forIn_cons]
  exact Looks.andThen (a := (some (Value.ref C), Value.ref C)) (Looks.andThen (a := .done (some (Value.ref C), Value.ref C)) ((over_made X hp hl).andThen .now) .now) .now
end
section
variable {prog : Program} {w : World} {A : Around} {K : Frag} {C : Addr} {R : Result → Shared → Prop} {h : Heap} {g : Array GenState} {d : Drawn} {t : Nat} {os : OsState}
theorem ln_kind : builtinKind "list.__new__" = some .builtinFn := by decide +kernel
theorem ln_split : splitId "list.__new__" = some ("list", "__new__") := by decide +kernel
theorem ln_args (C : Addr) : argsOk "list.__new__" ⟨[.ref C], []⟩ := by unfold argsOk; kernel_rfl
theorem check_of {i : String} {a : Args} (h : argsOk i a) : (match Manifest.signature? i with | none => pure () | some sig => Bind.checkArgs i sig a) = pure () := by
  unfold argsOk at h
  cases e : Manifest.signature? i with
  | none => rfl
  | some sig => rw [e] at h; exact h


/-- what is read of the class when it is called -/
noncomputable def callsIn (K : Frag) (C : Addr) : Bool := overList K C && madeList K C && (K.lookup C).any (fun o => match o.data with | .cls cd => !cd.hasDel | _ => false) && specialIn K (.ref C) "__call__" == some (some (.builtin "type.__call__")) && instIn K (.ref C) (.type "type") == some true
theorem new_L (X : K.In h) (hc : callsIn K C = true)
    (hq : R (.ok (.ret (.ref (h.objs.size + 1)))) ⟨(h.push emptyDict).push (pileObj C h.objs.size #[] 0), g, d, t, os⟩) :
    codeAny (model prog w) A (.call (.builtin "list.__new__") ⟨[.ref C], []⟩) R ⟨h, g, d, t, os⟩ := by
  simp only [callsIn, Bool.and_eq_true, beq_iff_eq] at hc
  obtain ⟨⟨⟨⟨hp, hl⟩, hd⟩, -⟩, -⟩ := hc
  obtain ⟨⟨oc, od, dat, sl⟩, ho, hd⟩ := any_some hd
  have hC := X _ _ ho
  obtain ⟨cd, rfl, hf⟩ : ∃ cd, dat = .cls cd ∧ cd.hasDel = false := by
    cases dat <;> first | cases hd; done | exact ⟨_, rfl, by simpa using hd⟩
  have ity : Looks (model prog w) h (isType (.ref C)) true := (Looks.ld hC).andThen .now
  have lm := over_looks (M := model prog w) X hp
  have made := over_made (M := model prog w) X hp hl
  have base := over_base (M := model prog w) X hp hl
  have self := over_sub (M := model prog w) (T := .ref C) X hp (by simp)
  have top := over_sub (M := model prog w) (T := .type "list") X hp (by simp)
  have args := check_of (ln_args C)
  refine codeAny_call_builtin_code (Code.quiet_builtin _ (by decide +kernel)) ?_
  simp only [checkBuiltinCall, ln_kind, ln_split]
  repeat (first | simp only [bne_self_eq_false, Bool.false_eq_true, if_false, Bool.not_true] | lk)
  refine codeAny_builtin_stack PySem.F.entry_list_new rfl fun p st => ?_
  have hown := owner_list_new
  simp only [hown]
  repeat (first | simp only [bne_self_eq_false, Bool.false_eq_true, if_false, Bool.not_true] | lk)
  refine nd_load (Heap.get?_push_of_some _ (Heap.get?_push_of_some _ hC)) ?_
  repeat (first | rw [hf] | lk)
  rw [Heap.size_push]
  exact hq
theorem make_L {h₀ : Heap} {L fI : Addr} {m : Str → Option Value} {news : List (Addr × Obj)} (F : Fr h₀ L h m) (N : News h₀ L h news) (X : K.In h) (hc : callsIn K C = true)
    (hi : findIn K (.ref C) "__init__" = some (some (.ref fI))) (hf : typeIn K (.ref fI) = some (.type "function"))
    (hq : ∀ x dx h', Fr h₀ L h' m → News h₀ L h' ((x, pileObj C dx #[] 0) :: (dx, emptyDict) :: news) → (∀ p ∈ news, p.1 < dx) → dx < x →
      codeAny (model prog w) (A.under (.builtin "type.__call__" ⟨[.ref C], []⟩)) (.call (.ref fI) ⟨[.ref x], []⟩) (InitBack x R) ⟨h', g, d, t, os⟩) :
    codeAny (model prog w) A (.call (.ref C) ⟨[], []⟩) R ⟨h, g, d, t, os⟩ := by
  have NN := (N.push F emptyDict).push (F.push _) (pileObj C h.objs.size #[] 0)
  rw [Heap.size_push] at NN
  have FF := (F.push emptyDict).push (pileObj C h.objs.size #[] 0)
  have X2 : K.In ((h.push emptyDict).push (pileObj C h.objs.size #[] 0)) := X.keeps fun _ _ e => Heap.get?_push_of_some _ (Heap.get?_push_of_some _ e)
  have hc' := hc
  simp only [callsIn, Bool.and_eq_true, beq_iff_eq] at hc'
  obtain ⟨⟨⟨⟨hp, hl⟩, hd⟩, hcall⟩, htyp⟩ := hc'
  obtain ⟨⟨oc, od, dat, sl⟩, ho, hd⟩ := any_some hd
  have hC := X _ _ ho
  obtain ⟨cd, rfl⟩ : ∃ cd, dat = .cls cd := by cases dat <;> first | cases hd; done | exact ⟨_, rfl⟩
  have call := looks_specialIn (M := model prog w) X hcall
  have bnd : Looks (model prog w) h (bindSpecial (.builtin "type.__call__") (.ref C)) (.builtin "type.__call__", [.ref C]) := Looks.of_pure (tc_bind _)
  have lm := over_looks (M := model prog w) X hp
  have made := over_made (M := model prog w) X hp hl
  have I2 : InstAt ((h.push emptyDict).push (pileObj C h.objs.size #[] 0)) (h.objs.size + 1) (pileObj C h.objs.size #[] 0) C (some emptyDict) := ⟨(NN _ (.head _)).1, rfl, rfl, (NN _ (.tail _ (.head _))).1⟩
  have inst := over_inst (M := model prog w) (T := .ref C) X2 I2 hp (by simp)
  have ty := I2.type (M := model prog w)
  have ini := looks_findIn (M := model prog w) X2 hi
  have bnd2 := bind_fn (M := model prog w) X2 (.ref (h.objs.size + 1)) hf
  refine codeAny_of_tree ?_
  show wpAny _ _ (callAny (.ref C) _) _ _ _
  unfold callAny
  repeat lk
  show _ ∧ codeAny _ _ (.call (.builtin "type.__call__") ⟨[.ref C], []⟩) _ _
  refine ⟨rfl, codeAny_call_builtin_at (Code.quiet_builtin _ (by decide +kernel)) entry_typeCall (@check_slot (model prog w) _ _ _ "type.__call__" "type" "__call__" (.ref C) [] [] _ tc_kind tc_split (looks_instIn X htyp) (tc_args _ _ _) ?_)⟩
  unfold Builtin.«type.__call__»
  have stop : ∀ A' E' Q', Q' (.ref (h.objs.size + 1)) ⟨(h.push emptyDict).push (pileObj C h.objs.size #[] 0), g, d, t, os⟩ → wpAny (model prog w) A' (PySem.call (.builtin "list.__new__") [.ref C] []) Q' E' ⟨h, g, d, t, os⟩ := fun A' E' Q' q => wpAny_call (new_L X hc q)
  repeat (first | (with_reducible refine stop _ _ _ ?_) | (with_reducible refine wpAny_call ?_) | lk)
  refine codeAny_mono (hq _ _ _ FF NN (fun p hp => Heap.lt_size (N p hp).1) (Nat.lt_succ_self _)) fun r s' z => ?_
  cases r with
  | error e => exact z
  | ok f =>
    cases f with
    | ret v =>
      obtain ⟨e, z⟩ := z
      rw [e]
      exact wpAny_pure (wpAny_pure z)
    | _ => exact z
end
theorem pile_over (w : World) : overList (hd.heap_39 w.params) 115 = true := by kernel_rfl
theorem pile_calls (w : World) : callsIn (hd.heap_39 w.params) 115 = true := by kernel_rfl
end
section
open PySem PySem.W PySem.Calls PyProof.Rows Builtin Builtin.List Builtin.ObjectAttr
theorem refuse_list (self : Value) : refuseLoop self "__setattr__" [.type "list", .type "object"] = pure () := by kernel_rfl
theorem pile_init (w : World) : findIn (hd.heap_39 w.params) (.ref 115) "__init__" = some (some (.ref 52)) := by kernel_rfl
theorem pile_52 (w : World) : typeIn (hd.heap_39 w.params) (.ref 52) = some (.type "function") := by kernel_rfl
theorem pile_sa (w : World) : findIn (hd.heap_39 w.params) (.ref 115) "__setattr__" = some (some (.builtin "object.__setattr__")) := by kernel_rfl
theorem pile_ga (w : World) : findIn (hd.heap_39 w.params) (.ref 115) "__getattribute__" = some (some (.builtin "list.__getattribute__")) := by kernel_rfl
theorem pile_gb (w : World) : findIn (hd.heap_39 w.params) (.ref 115) "__getattr__" = some none := by kernel_rfl
theorem pile_size (w : World) : findIn (hd.heap_39 w.params) (.ref 115) "_initial_size" = some none := by kernel_rfl
theorem pile_dict (w : World) : (clsIn (hd.heap_39 w.params) 115).any (·.hasDict) = true := by kernel_rfl

section
variable {prog : Program} {w : World} {A : Around} {K : Frag} {C x : Addr} {s : Shared} {h₀ : Heap} {L : Addr} {m : Str → Option Value} {news : List (Addr × Obj)} {R : Result → Shared → Prop}
theorem over_refuse {M : Model} {h : Heap} {ox : Obj} {od : Option Obj} (X : K.In h) (I : InstAt h x ox C od) (hp : overList K C = true) : Looks M h (refuseIfOverridden (.ref x) "__setattr__") () := by
  rw [refuse_eq]
  refine I.type.andThen ((over_looks X hp).andThen (Looks.of_pure ?_))
  rw [refuseLoop_ref, refuse_list]
theorem size_stored {es : Array DictEntry} {od' : Obj} {dx : Addr} {name : Str} {tk : Tok} {v : Value} {n : Nat} (F : Fr h₀ L s.heap m) (N : News h₀ L s.heap ((x, pileObj C dx #[] 0) :: (dx, emptyDict) :: news)) (X : K.In s.heap) (hne : x ≠ dx) (hnews : ∀ p ∈ news, p.1 ≠ dx)
    (hp : overList K C = true) (ht : findIn K (.ref C) name = some none) (hh : (clsIn K C).any (·.hasDict) = true)
    (e : Obj.putName name (PyData.keyHash w.params name) (.str name s.toks) v emptyDict = od') (e' : od'.data = .dict es n) (hz : es.size ≤ 1000)
    (h : ∀ h', Fr h₀ L h' m → News h₀ L h' ((x, pileObj C dx #[] 0) :: (dx, od') :: news) → R (.ok (.ret .none)) { s with heap := h', toks := s.toks + 1 }) :
    codeAny (model prog w) A (.call (.builtin "object.__setattr__") ⟨[.ref x, .str name tk, v], []⟩) R s := by
  have hx := (N _ (.head _)).1
  have hdx := (N _ (.tail _ (.head _))).1
  have I : InstAt s.heap x (pileObj C dx #[] 0) C (some emptyDict) := ⟨hx, rfl, rfl, hdx⟩
  have l1 := looks_findIn (M := model prog w) X ht
  obtain ⟨hh', g, d, t, os⟩ := s
  have l3 := over_refuse (M := model prog w) X I hp
  have l4 := I.type (M := model prog w)
  refine codeAny_call_builtin PySem.F.store_object.slot.plain PySem.F.store_object.entry (@check_slot (model prog w) _ _ _ "object.__setattr__" "object" "__setattr__" (.ref x) [.str name tk, v] [] _ PySem.F.store_object.kind PySem.F.store_object.split (over_inst X I hp (by simp)) (PySem.F.store_object.args _ _ _) ?_)
  obtain ⟨cd, hc, hd⟩ := any_some hh
  have l5 := looks_clsIn (M := model prog w) X hc
  obtain ⟨F1, N1⟩ := news_upd (pre := [(x, pileObj C dx #[] 0)]) (f := Obj.putName name (PyData.keyHash w.params name) (.str name t) v) F N (by simpa using hne) hnews e (by obtain ⟨_, _, dd, _⟩ := od'; cases e'; rfl)
  rw [osa_eq]
  repeat (first | rw [hd] | lk)
  exact wpAny_updatePart hdx (wpAny_bind (wpAny_lookBehind (N1 _ (.tail _ (.head _))).1 (by rw [e']; exact pastItsLine_dict (by rw [sizeLine_eq]; omega)) (wpAny_pure (h _ F1 N1))))
end
end
section
open PySem PySem.W PySem.Calls PyProof.Rows Builtin Builtin.List Builtin.ObjectAttr
section
variable {prog : Program} {w : World} {A : Around} {E : Value → Shared → Prop} {K : Frag} {C x : Addr} {s : Shared} {h₀ : Heap} {L : Addr} {m : Str → Option Value} {news : List (Addr × Obj)}
theorem getL_value {ox : Obj} {od : Option Obj} {name : Str} {v : Value} {expr : Bool} {Q : Value → Shared → Prop} (X : K.In s.heap) (I : InstAt s.heap x ox C od) (hp : overList K C = true) (hga : findIn K (.ref C) "__getattribute__" = some (some (.builtin "list.__getattribute__")))
    (hgb : findIn K (.ref C) "__getattr__" = some none) (hf : findObj K C od name = some (.value v)) (hh : handedIn v = true) (h : Q v { s with toks := s.toks + 1 }) : wpAny (model prog w) A (getAttr (.ref x) name expr) Q E s := by
  have hi := over_inst (M := model prog w) (T := .type "list") X I hp (by simp)
  obtain ⟨hh', g, d, t, os⟩ := s
  have L0 := I.type (M := model prog w)
  have L1 := looks_findIn (M := model prog w) X hga
  have L2 := looks_findIn (M := model prog w) X hgb
  have L3 := looks_find (M := model prog w) X I hf
  have canon : (Value.builtin "list.__getattribute__" == Value.builtin "object.__getattribute__") = false := by decide +kernel
  unfold getAttr getAttrBy
  refine wpAny_bind (wpAny_mkText (wpAny_holding (wpAny_bind (L0.at (wpAny_bind (L1.at ?_))))))
  dsimp only
  rw [canon, Bool.and_false, if_neg (by decide)]
  unfold getAttrByItsOwn hookBefore
  refine wpAny_bind ?_
  rw [if_pos (show onTheHeap (.ref C) = true from rfl)]
  refine L2.at (wpAny_bind (wpAny_attempt (wpAny_holding ?_)))
  unfold callGetattribute
  rw [show (expr && onTheHeap (Value.builtin "list.__getattribute__")) = false from Bool.and_false _, if_neg (by decide)]
  unfold boundAndCalled
  rw [PySem.F.slot_list_getattribute.bind]
  refine wpAny_bind (wpAny_pure ?_)
  show wpAny _ _ (call (.builtin "list.__getattribute__") [.ref x, .str name t]) _ _ _
  refine wpAny_call (codeAny_call_builtin PySem.F.slot_list_getattribute.plain PySem.F.entry_list_ga ?_)
  refine @check_slot (model prog w) _ _ ⟨hh', g, d, t + 1, os⟩ "list.__getattribute__" "list" "__getattribute__" (.ref x) [.str name t] [] _ (by decide +kernel) (by decide +kernel) hi (PySem.F.args_list_getattribute_2 _ _) ?_
  refine wpAny_bind (wpAny_pure (wpAny_bind (wpAny_pure (wpAny_bind (L0.at (wpAny_bind (L3.at ?_)))))))
  refine wpAny_pure ?_
  show wpAny _ _ (handedOut v) _ _ _
  rw [handedOut_of hh]
  exact wpAny_pure h
/-- a name that stands in the class, seen as a method of an object of a subclass of list -/
theorem seen_method {M : Model} {h : Heap} {its : Array Value} {n : Nat} {od : Obj} {dx : Addr} {name : Str} {fv tv : Value} {pl : Sem Bool} (X : K.In h) (I : InstAt h x (pileObj C dx its n) C (some od))
    (hga : findIn K (.ref C) "__getattribute__" = some (some (.builtin "list.__getattribute__"))) (hgb : findIn K (.ref C) "__getattr__" = some none) (hf : findIn K (.ref C) name = some (some fv))
    (ht : Looks M h (typeOf fv) tv) (hb : (tv != .type "function" && tv != .type "method_descriptor" && tv != .type "wrapper_descriptor") = false) (hs : shadowIn (some od) name = some false) : Looks M h (getMethod (.ref x) name pl) (fv, [.ref x]) := by
  have l1 : Looks M h (specialOf (.ref x) "__getattribute__") (some (.builtin "list.__getattribute__")) := I.type.andThen (looks_findIn X hga)
  have l2 : Looks M h (specialOf (.ref x) "__getattr__") none := I.type.andThen (looks_findIn X hgb)
  have l3 : Looks M h (specialOf (.ref x) name) (some fv) := I.type.andThen (looks_findIn X hf)
  have ho : lookIn name od = some none := by
    obtain ⟨r, a, b⟩ := Option.map_eq_some_iff.mp hs
    cases r with
    | none => exact a
    | some _ => cases b
  have l4 : Looks M h (nsGet dx name) none := Looks.andThen (Looks.ld I.dict) (Looks.of_pure (nsLook_of ho))
  refine l1.andThen ?_
  dsimp only
  rw [canon_list_getattribute]
  refine l2.andThen (l3.andThen (ht.andThen ?_))
  rw [hb]
  exact (Looks.ld I.at_).andThen (l4.andThen (.tag .now))
theorem methodL_fn {its : Array Value} {n : Nat} {od : Obj} {dx : Addr} {name : Str} {f : Addr} {pl : Sem Bool} {Q : Value × List Value → Shared → Prop} (X : K.In s.heap) (I : InstAt s.heap x (pileObj C dx its n) C (some od)) (hga : findIn K (.ref C) "__getattribute__" = some (some (.builtin "list.__getattribute__")))
    (hgb : findIn K (.ref C) "__getattr__" = some none) (hf : findIn K (.ref C) name = some (some (.ref f))) (ht : typeIn K (.ref f) = some (.type "function")) (hs : shadowIn (some od) name = some false) (h : Q (.ref f, [.ref x]) s) :
    wpAny (model prog w) A (getMethod (.ref x) name pl) Q E s := (seen_method X I hga hgb hf (looks_typeIn X ht) (by decide +kernel) hs).here h
theorem methodL_append {its : Array Value} {n : Nat} {od : Obj} {dx : Addr} {pl : Sem Bool} {Q : Value × List Value → Shared → Prop} (X : K.In s.heap) (I : InstAt s.heap x (pileObj C dx its n) C (some od)) (hga : findIn K (.ref C) "__getattribute__" = some (some (.builtin "list.__getattribute__")))
    (hgb : findIn K (.ref C) "__getattr__" = some none) (hf : findIn K (.ref C) "append" = some (some (.builtin "list.append"))) (hs : shadowIn (some od) "append" = some false) (h : Q (.builtin "list.append", [.ref x]) s) :
    wpAny (model prog w) A (getMethod (.ref x) "append" pl) Q E s := (seen_method X I hga hgb hf (Looks.of_pure PySem.F.type_list_append) (by decide +kernel) hs).here h
theorem pile_append (w : World) : findIn (hd.heap_39 w.params) (.ref 115) "append" = some (some (.builtin "list.append")) := by kernel_rfl
theorem pile_push (w : World) : findIn (hd.heap_39 w.params) (.ref 115) "push" = some (some (.ref 59)) := by kernel_rfl
theorem pile_pop (w : World) : findIn (hd.heap_39 w.params) (.ref 115) "pop" = some (some (.ref 75)) := by kernel_rfl
theorem pile_count (w : World) : findIn (hd.heap_39 w.params) (.ref 115) "part_count" = some (some (.ref 112)) := by kernel_rfl
theorem pile_len (w : World) : findIn (hd.heap_39 w.params) (.ref 115) "__len__" = some (some (.ref 82)) := by kernel_rfl
theorem pile_str (w : World) : findIn (hd.heap_39 w.params) (.ref 115) "__str__" = some (some (.ref 89)) := by kernel_rfl
theorem pile_iter (w : World) : findIn (hd.heap_39 w.params) (.ref 115) "__iter__" = some (some (.builtin "list.__iter__")) := by kernel_rfl

/-- a call of a built-in method of list upon an object of a subclass -/
theorem call_listM {i owner n : String} {b : Builtin} {rest : List Value} {Q : Value → Shared → Prop} (hk : builtinKind i = some .slot ∨ builtinKind i = some .method) (hs : splitId i = some (owner, n)) (hp : plainId i = true)
    (hi : Looks (model prog w) s.heap (isInstance (.ref x) (.type owner)) true) (ha : argsOk i ⟨.ref x :: rest, []⟩) (hb : entryFor table i = some b)
    (hc : wpAny (model prog w) A.in1 (b ⟨.ref x :: rest, []⟩) (fun fin s' => ∃ v, fin = .done (.ret v) ∧ Q v s') E s) :
    wpAny (model prog w) A (call (.builtin i) (.ref x :: rest)) Q E s := by
  have hc' : wpAny (model prog w) A.in1 (b ⟨.ref x :: rest, []⟩) (fun fin s' => match fin with | .done f => wants Q E (.ok f) s' | .again c' => c'.quiet = true ∧ codeAny (model prog w) A c' (wants Q E) s') (fun e s' => wants Q E (.error e) s') s :=
    wpAny_mono hc (fun fin s' h' => by obtain ⟨v, rfl, hv⟩ := h'; exact hv) fun _ _ h' => h'
  refine wpAny_call (codeAny_mono (codeAny_call_builtin (R := wants Q E) hp hb ?_) fun r s' z => ?_)
  · rcases hk with hk | hk
    · exact check_slot hk hs hi ha hc'
    · simp only [checkBuiltinCall, hk, hs]
      refine wpAny_bind (hi.here ?_)
      simp only [Bool.not_true, Bool.false_eq_true, if_false]
      have h2 := check_of ha
      cases hsig : Manifest.signature? i with
      | none => exact wpAny_pure hc'
      | some sig =>
        rw [hsig] at h2
        have h2 : Bind.checkArgs i sig ⟨.ref x :: rest, []⟩ = pure () := h2
        show wpAny _ _ (Bind.checkArgs i sig ⟨.ref x :: rest, []⟩) _ _ _
        rw [h2]
        exact wpAny_pure hc'
  · rcases r with e | (v | _ | _ | _) <;> exact z
end
end
section
open PySem PySem.W PySem.Calls PyProof.Rows Builtin Builtin.List Builtin.ObjectAttr
theorem slot_wd_get : Slot "wrapper_descriptor" "__get__" "wrapper_descriptor.__get__" := .of (owner := "wrapper_descriptor") (n := "__get__") (by rw [typeLookup_type, builtinLookup_eq_fast]; kernel_rfl) (by decide +kernel) (by decide +kernel) (by decide +kernel)
  (by first | exact .inl (by decide +kernel) | exact .inr (by decide +kernel)) (by rw [isSubtype_type]; kernel_rfl)
theorem entry_wd_get : entryFor table "wrapper_descriptor.__get__" = some Builtin.«wrapper_descriptor.__get__» := entryFor_of_tree (by kernel_rfl)
theorem args_wd_get (a b c : Value) : argsOk "wrapper_descriptor.__get__" ⟨[a, b, c], []⟩ := by unfold argsOk; kernel_rfl
theorem slot_md_get : Slot "method_descriptor" "__get__" "method_descriptor.__get__" := .of (owner := "method_descriptor") (n := "__get__") (by rw [typeLookup_type, builtinLookup_eq_fast]; kernel_rfl) (by decide +kernel) (by decide +kernel) (by decide +kernel)
  (by first | exact .inl (by decide +kernel) | exact .inr (by decide +kernel)) (by rw [isSubtype_type]; kernel_rfl)
theorem entry_md_get : entryFor table "method_descriptor.__get__" = some Builtin.«method_descriptor.__get__» := entryFor_of_tree (by kernel_rfl)
theorem args_md_get (a b c : Value) : argsOk "method_descriptor.__get__" ⟨[a, b, c], []⟩ := by unfold argsOk; kernel_rfl
theorem type_list_len : typeOf (.builtin "list.__len__") = pure (.type "wrapper_descriptor") := by kernel_rfl
theorem type_list_init : typeOf (.builtin "list.__init__") = pure (.type "wrapper_descriptor") := by kernel_rfl
abbrev boundObj (T i : String) (x : Addr) : Obj := { cls := .type T, dict := none, data := .fields #[.builtin i, .ref x], slots := #[] }
section
variable {prog : Program} {w : World} {A : Around} {E : Value → Shared → Prop} {K : Frag} {C x : Addr} {s : Shared} {h₀ : Heap} {L : Addr} {m : Str → Option Value} {news : List (Addr × Obj)}
theorem get_len {ox : Obj} {od : Option Obj} {Q : Value → Shared → Prop} (X : K.In s.heap) (I : InstAt s.heap x ox C od) (hp : overList K C = true) (h : Q (.ref s.heap.objs.size) { s with heap := s.heap.push (boundObj "method-wrapper" "list.__len__" x) }) :
    wpAny (model prog w) A (call (.builtin "wrapper_descriptor.__get__") [.builtin "list.__len__", .ref x, .ref C]) Q E s := by
  have hT : s.TypeIs (.builtin "list.__len__") "wrapper_descriptor" := type_list_len
  refine wpAny_call_entry slot_wd_get (T := "wrapper_descriptor") hT entry_wd_get ?_ (args_wd_get _ _ _)
  have ec : ".".intercalate (("list.__len__".cutAt '.').dropLast) = "list" := by decide +kernel
  have hs : Looks (model prog w) s.heap (isSubtype (.ref C) (.type (".".intercalate (("list.__len__".cutAt '.').dropLast)))) true := by rw [ec]; exact over_sub X hp (by simp)
  have L0 := I.type (M := model prog w)
  obtain ⟨hh, g, d, t, os⟩ := s
  unfold Builtin.«wrapper_descriptor.__get__»
  repeat (first | exact ⟨_, rfl, h⟩ | lk)
theorem get_init {ox : Obj} {od : Option Obj} {Q : Value → Shared → Prop} (X : K.In s.heap) (I : InstAt s.heap x ox C od) (hp : overList K C = true) (h : Q (.ref s.heap.objs.size) { s with heap := s.heap.push (boundObj "method-wrapper" "list.__init__" x) }) :
    wpAny (model prog w) A (call (.builtin "wrapper_descriptor.__get__") [.builtin "list.__init__", .ref x, .ref C]) Q E s := by
  have hT : s.TypeIs (.builtin "list.__init__") "wrapper_descriptor" := type_list_init
  refine wpAny_call_entry slot_wd_get (T := "wrapper_descriptor") hT entry_wd_get ?_ (args_wd_get _ _ _)
  have ec : ".".intercalate (("list.__init__".cutAt '.').dropLast) = "list" := by decide +kernel
  have hs : Looks (model prog w) s.heap (isSubtype (.ref C) (.type (".".intercalate (("list.__init__".cutAt '.').dropLast)))) true := by rw [ec]; exact over_sub X hp (by simp)
  have L0 := I.type (M := model prog w)
  obtain ⟨hh, g, d, t, os⟩ := s
  unfold Builtin.«wrapper_descriptor.__get__»
  repeat (first | exact ⟨_, rfl, h⟩ | lk)
theorem get_pop {ox : Obj} {od : Option Obj} {Q : Value → Shared → Prop} (X : K.In s.heap) (I : InstAt s.heap x ox C od) (hp : overList K C = true) (h : Q (.ref s.heap.objs.size) { s with heap := s.heap.push (boundObj "builtin_function_or_method" "list.pop" x) }) :
    wpAny (model prog w) A (call (.builtin "method_descriptor.__get__") [.builtin "list.pop", .ref x, .ref C]) Q E s := by
  have hT : s.TypeIs (.builtin "list.pop") "method_descriptor" := PySem.F.type_list_pop
  refine wpAny_call_entry slot_md_get (T := "method_descriptor") hT entry_md_get ?_ (args_md_get _ _ _)
  have ec : ".".intercalate (("list.pop".cutAt '.').dropLast) = "list" := by decide +kernel
  have hs : Looks (model prog w) s.heap (isSubtype (.ref C) (.type (".".intercalate (("list.pop".cutAt '.').dropLast)))) true := by rw [ec]; exact over_sub X hp (by simp)
  have L0 := I.type (M := model prog w)
  obtain ⟨hh, g, d, t, os⟩ := s
  unfold Builtin.«method_descriptor.__get__»
  repeat (first | exact ⟨_, rfl, h⟩ | lk)
end
section
variable {prog : Program} {w : World} {A : Around} {E : Value → Shared → Prop} {h : Heap} {g : Array GenState} {d : Drawn} {t : Nat} {os : OsState}
theorem super_found {so x C : Addr} {name : Str} {tk : Tok} {i T getId : String} {o' : Obj} {Q : Fin → Shared → Prop}
    (hso : h.get? so = some (ks_superObj C x C)) (hno : Looks (model prog w) h (opaqueClassAbove (.ref C)) none) (hm : Looks (model prog w) h (mroOf (.ref C)) [.ref C, .type "list", .type "object"])
    (hown : Looks (model prog w) h (classOwn (.type "list") name) (some (.builtin i))) (hty : Looks (model prog w) h (typeOf (.builtin i)) (.type T)) (hlk : Looks (model prog w) h (typeLookup (.type T) "__get__") (some (.builtin getId)))
    (hxC : x ≠ C) (hn : (name == ("__class__" : Str)) = false)
    (hg : ∀ (A : Around) (E : Value → Shared → Prop) (Q : Value → Shared → Prop), Q (.ref h.objs.size) ⟨h.push o', g, d, t, os⟩ → wpAny (model prog w) A (call (.builtin getId) [.builtin i, .ref x, .ref C]) Q E ⟨h, g, d, t, os⟩)
    (hq : Q (.done (.ret (.ref h.objs.size))) ⟨h.push o', g, d, t, os⟩) :
    wpAny (model prog w) A (Builtin.«super.__getattribute__» ⟨[.ref so, .str name tk], []⟩) Q E ⟨h, g, d, t, os⟩ := by
  unfold Builtin.«super.__getattribute__»
  have ne : (Value.ref x == Value.ref C) = false := by simp [hxC]
  have rest : (([.ref C, .type "list", .type "object"] : List Value).dropWhile (· != .ref C)).drop 1 = [.type "list", .type "object"] := by simp
  repeat lk
  simp only [List.getElem_toArray, List.getElem_cons_succ, List.getElem_cons_zero, hn]
  repeat (first | rw [rest, List.forIn_cons] | rw [ne] | (refine hg _ _ _ ?_) | lk)
  exact hq
theorem super_method {so x C : Addr} {name : Str} {pl : Sem Bool} {i T getId : String} {o' : Obj} {Q : Value × List Value → Shared → Prop}
    (hso : h.get? so = some (ks_superObj C x C)) (hno : Looks (model prog w) h (opaqueClassAbove (.ref C)) none) (hm : Looks (model prog w) h (mroOf (.ref C)) [.ref C, .type "list", .type "object"])
    (hown : Looks (model prog w) h (classOwn (.type "list") name) (some (.builtin i))) (hty : Looks (model prog w) h (typeOf (.builtin i)) (.type T)) (hlk : Looks (model prog w) h (typeLookup (.type T) "__get__") (some (.builtin getId)))
    (hxC : x ≠ C) (hn : (name == ("__class__" : Str)) = false)
    (hg : ∀ (A : Around) (E : Value → Shared → Prop) (Q : Value → Shared → Prop), Q (.ref h.objs.size) ⟨h.push o', g, d, t + 1, os⟩ → wpAny (model prog w) A (call (.builtin getId) [.builtin i, .ref x, .ref C]) Q E ⟨h, g, d, t + 1, os⟩)
    (hq : Q (.ref h.objs.size, []) ⟨h.push o', g, d, t + 1, os⟩) :
    wpAny (model prog w) A (getMethod (.ref so) name pl) Q E ⟨h, g, d, t, os⟩ := by
  have S := PySem.F.ks_slot_super_ga
  have l0 : Looks (model prog w) h (typeOf (.ref so)) (.type "super") := (Looks.ld hso).andThen .now
  have l1 : Looks (model prog w) h (typeLookup (.type "super") "__getattribute__") (some (.builtin "super.__getattribute__")) := Looks.of_pure S.lookup
  have l2 : Looks (model prog w) h (hookBefore (.type "super")) none := .now
  have l3 : Looks (model prog w) h (bindSpecial (.builtin "super.__getattribute__") (.ref so)) (.builtin "super.__getattribute__", [.ref so]) := Looks.of_pure (S.bind _)
  unfold getMethod specialOf
  repeat (first | rw [PySem.F.ks_canon_super_ga] | (with_reducible refine wpAny_attempt ?_) | ((with_reducible show wpAny _ _ (call _ _) _ _ _); refine wpAny_call_entry (rest := [.str name t]) S ⟨_, hso, rfl⟩ PySem.F.ks_entry_super_ga (super_found hso hno hm hown hty hlk hxC hn hg ⟨_, rfl, ?_⟩) (PySem.F.ks_gaArgs_super _ _)) | lk)
  exact hq
end
section
variable {prog : Program} {w : World} {A : Around} {E : Value → Shared → Prop} {K : Frag} {C so x : Addr} {s : Shared} {h₀ : Heap} {L : Addr} {m : Str → Option Value} {news : List (Addr × Obj)}
theorem superL_K {name : Str} {pl : Sem Bool} {i T getId BT : String} {ox : Obj} {odx : Option Obj} {Q : Value × List Value → Shared → Prop} (F : Fr h₀ L s.heap m) (X₀ : K.In h₀) (N : News h₀ L s.heap news) (hso : (so, ks_superObj C x C) ∈ news) (I : InstAt s.heap x ox C odx) (ho : nsIn K cStatics "thirdparty.any" = some none)
    (hp : overList K C = true) (hown : ownIn K name (.type "list") = some (some (.builtin i))) (hty : typeOf (.builtin i) = pure (.type T)) (hlk : typeLookup (.type T) "__get__" = pure (some (.builtin getId))) (hn : (name == ("__class__" : Str)) = false)
    (hg : ∀ (s : Shared) (A : Around) (E : Value → Shared → Prop) (Q : Value → Shared → Prop), K.In s.heap → InstAt s.heap x ox C odx → Q (.ref s.heap.objs.size) { s with heap := s.heap.push (boundObj BT i x) } → wpAny (model prog w) A (call (.builtin getId) [.builtin i, .ref x, .ref C]) Q E s)
    (h : ∀ q h', Fr h₀ L h' m → News h₀ L h' ((q, boundObj BT i x) :: news) → (∀ p ∈ news, p.1 < q) → Q (.ref q, []) { s with heap := h', toks := s.toks + 1 }) : wpAny (model prog w) A (getMethod (.ref so) name pl) Q E s := by
  have X : K.In s.heap := X₀.keeps F.keep
  obtain ⟨cd, hc, -⟩ := over_mro hp
  have P := ks_newsPush (o := boundObj BT i x) F N rfl (Heap.get?_push_at rfl rfl) fun _ _ e => Heap.get?_push_of_some _ e
  obtain ⟨hh, g, d, t, os⟩ := s
  exact super_method (N _ hso).1 (looks_opaque X ho) (over_looks X hp) (looks_ownIn X hown) (Looks.of_pure hty) (Looks.of_pure hlk) (ks_ne X I hc) hn (fun A E Q => hg ⟨hh, g, d, t + 1, os⟩ A E Q X I) (h _ _ P.1 P.2.1 P.2.2)
theorem superL_len {ox : Obj} {odx : Option Obj} {pl : Sem Bool} {Q : Value × List Value → Shared → Prop} (F : Fr h₀ L s.heap m) (X₀ : K.In h₀) (N : News h₀ L s.heap news) (hso : (so, ks_superObj C x C) ∈ news) (I : InstAt s.heap x ox C odx) (ho : nsIn K cStatics "thirdparty.any" = some none)
    (hp : overList K C = true) (hm : ownIn K "__len__" (.type "list") = some (some (.builtin "list.__len__")))
    (h : ∀ q h', Fr h₀ L h' m → News h₀ L h' ((q, boundObj "method-wrapper" "list.__len__" x) :: news) → (∀ p ∈ news, p.1 < q) → Q (.ref q, []) { s with heap := h', toks := s.toks + 1 }) : wpAny (model prog w) A (getMethod (.ref so) "__len__" pl) Q E s :=
  superL_K F X₀ N hso I ho hp hm type_list_len slot_wd_get.lookup (by decide) (fun _ _ _ _ X I hq => get_len X I hp hq) h
theorem superL_init {ox : Obj} {odx : Option Obj} {pl : Sem Bool} {Q : Value × List Value → Shared → Prop} (F : Fr h₀ L s.heap m) (X₀ : K.In h₀) (N : News h₀ L s.heap news) (hso : (so, ks_superObj C x C) ∈ news) (I : InstAt s.heap x ox C odx) (ho : nsIn K cStatics "thirdparty.any" = some none)
    (hp : overList K C = true) (hm : ownIn K "__init__" (.type "list") = some (some (.builtin "list.__init__")))
    (h : ∀ q h', Fr h₀ L h' m → News h₀ L h' ((q, boundObj "method-wrapper" "list.__init__" x) :: news) → (∀ p ∈ news, p.1 < q) → Q (.ref q, []) { s with heap := h', toks := s.toks + 1 }) : wpAny (model prog w) A (getMethod (.ref so) "__init__" pl) Q E s :=
  superL_K F X₀ N hso I ho hp hm type_list_init slot_wd_get.lookup (by decide) (fun _ _ _ _ X I hq => get_init X I hp hq) h
theorem superL_pop {ox : Obj} {odx : Option Obj} {pl : Sem Bool} {Q : Value × List Value → Shared → Prop} (F : Fr h₀ L s.heap m) (X₀ : K.In h₀) (N : News h₀ L s.heap news) (hso : (so, ks_superObj C x C) ∈ news) (I : InstAt s.heap x ox C odx) (ho : nsIn K cStatics "thirdparty.any" = some none)
    (hp : overList K C = true) (hm : ownIn K "pop" (.type "list") = some (some (.builtin "list.pop")))
    (h : ∀ q h', Fr h₀ L h' m → News h₀ L h' ((q, boundObj "builtin_function_or_method" "list.pop" x) :: news) → (∀ p ∈ news, p.1 < q) → Q (.ref q, []) { s with heap := h', toks := s.toks + 1 }) : wpAny (model prog w) A (getMethod (.ref so) "pop" pl) Q E s :=
  superL_K F X₀ N hso I ho hp hm PySem.F.type_list_pop slot_md_get.lookup (by decide) (fun _ _ _ _ X I hq => get_pop X I hp hq) h
theorem pile_s_len (w : World) : ownIn (hd.heap_39 w.params) "__len__" (.type "list") = some (some (.builtin "list.__len__")) := by kernel_rfl
theorem pile_s_init (w : World) : ownIn (hd.heap_39 w.params) "__init__" (.type "list") = some (some (.builtin "list.__init__")) := by kernel_rfl
theorem pile_s_pop (w : World) : ownIn (hd.heap_39 w.params) "pop" (.type "list") = some (some (.builtin "list.pop")) := by kernel_rfl
theorem pile_any (w : World) : nsIn (hd.heap_39 w.params) cStatics "thirdparty.any" = some none := by kernel_rfl
end
end
section
open PySem PySem.W PySem.Calls PyProof.Rows Builtin Builtin.List Builtin.ObjectAttr
section
variable {prog : Program} {w : World} {A : Around} {E : Value → Shared → Prop} {K : Frag} {C D so x q : Addr} {s : Shared} {h₀ : Heap} {L : Addr} {m : Str → Option Value} {news : List (Addr × Obj)}
theorem call_bound {i T : String} {b : Builtin} {Q : Value → Shared → Prop} (hq : s.heap.get? q = some (boundObj T i x)) (hT : (T == "method" || T == "builtin_function_or_method" || T == "method-wrapper") = true) (hM : (T != "method") = true)
    (hp : plainId i = true) (hb : entryFor table i = some b)
    (hk : wpAny (model prog w) A.in1 (checkBoundCall i ⟨[.ref x], []⟩) (fun _ s' => wpAny (model prog w) A.in1 (b ⟨[.ref x], []⟩) (fun fin s' => ∃ v, fin = .done (.ret v) ∧ Q v s') E s') E s) :
    wpAny (model prog w) A (call (.ref q) []) Q E s := by
  refine wpAny_call (codeAny_of_tree ?_)
  show wpAny _ A.in1 (callAny (.ref q) _) _ _ _
  unfold callAny
  refine wpAny_bind (wpAny_load hq ?_)
  have e1 : ((boundObj T i x).cls == .type "method" || (boundObj T i x).cls == .type "builtin_function_or_method" || (boundObj T i x).cls == .type "method-wrapper") = true := by
    simpa using hT
  have e2 : ((boundObj T i x).cls != .type "method") = true := by simpa using hM
  dsimp only
  rw [if_pos e1]
  show wpAny _ _ (if (Value.type T != Value.type "method") = true then _ else _) _ _ _
  have e3 : (Value.type T != Value.type "method") = true := e2
  rw [if_pos e3]
  refine wpAny_bind (wpAny_mono hk (fun _ s' h' => ?_) fun _ _ z => z)
  refine wpAny_pure (a := Fin.again (.builtin i ⟨[.ref x], []⟩)) ⟨plainId_quiet hp _, codeAny_builtin hb ?_⟩
  rw [Around.under_plainId hp _]
  exact wpAny_mono h' (fun fin s'' z => by obtain ⟨v, rfl, hv⟩ := z; exact hv) fun _ _ z => z

theorem chk_len {Q : Unit → Shared → Prop} (h : Q () s) : wpAny (model prog w) A (checkBoundCall "list.__len__" ⟨[.ref x], []⟩) Q E s := by
  have : checkBoundCall "list.__len__" ⟨[.ref x], []⟩ = pure () := by kernel_rfl
  rw [this]; exact wpAny_pure h
theorem chk_init {Q : Unit → Shared → Prop} (h : Q () s) : wpAny (model prog w) A (checkBoundCall "list.__init__" ⟨[.ref x], []⟩) Q E s := by
  have : checkBoundCall "list.__init__" ⟨[.ref x], []⟩ = pure () := by kernel_rfl
  rw [this]; exact wpAny_pure h
theorem chk_pop {ox : Obj} {od : Option Obj} {Q : Unit → Shared → Prop} (X : K.In s.heap) (I : InstAt s.heap x ox C od) (hp : overList K C = true) (ht : typeIn K (.ref C) = some (.type "type")) (hn : (clsIn K C).map (·.qualname) = some (Str.ofString "_Accumulator")) (h : Q () s) : wpAny (model prog w) A (checkBoundCall "list.pop" ⟨[.ref x], []⟩) Q E s := by
  have L0 := I.type (M := model prog w)
  obtain ⟨cd, hc, ho⟩ := any_some hp
  have ho := beq_iff_eq.mp ho
  have ne : cd.mro.isEmpty = false := by rw [ho]; rfl
  have hqn : cd.qualname = Str.ofString "_Accumulator" := by rw [hc] at hn; exact Option.some.inj hn
  have L1 : Looks (model prog w) s.heap (isSubtype (.ref C) (.type "module")) false := looks_mroIn X (by unfold mroIn; rw [hc, Option.bind_some, if_neg (by rw [ne]; decide), ho]; simp)
  have L2 : Looks (model prog w) s.heap (classData C) cd := looks_clsIn X hc
  have L3 : Looks (model prog w) s.heap (typeOf (.ref C)) (.type "type") := looks_typeIn X ht
  have hno := I.no
  have hx := I.at_
  have L4 : Looks (model prog w) s.heap (isType (.ref x)) false := by
    obtain ⟨oc, odi, oda, osl⟩ := ox
    unfold notCls at hno
    refine (Looks.ld hx).andThen ?_
    cases oda <;> first | exact .now | cases hno
  obtain ⟨hh, g, d, t, os⟩ := s
  unfold checkBoundCall
  repeat (first | exact h | rw [hqn] | lk)
theorem run_len {its : Array Value} {n : Nat} {dx : Addr} {Q : Value → Shared → Prop} (hx : s.heap.get? x = some (pileObj C dx its n)) (h : Q (.int its.size s.toks) { s with toks := s.toks + 1 }) :
    wpAny (model prog w) A (Builtin.«list.__len__» ⟨[.ref x], []⟩) (fun fin s' => ∃ v, fin = .done (.ret v) ∧ Q v s') E s := by
  obtain ⟨hh, g, d, t, os⟩ := s
  unfold Builtin.«list.__len__»
  repeat (first | exact ⟨_, rfl, h⟩ | lk)
theorem isFreed_pile (C dx : Addr) (its : Array Value) (n : Nat) : (pileObj C dx its n).isFreed = false := rfl
theorem upd_pile {its : Array Value} {n : Nat} {dx : Addr} {f : Array Value → Array Value} {Q : Unit → Shared → Prop} (hx : s.heap.get? x = some (pileObj C dx its n)) (hz : its.size ≤ 1000) (hz' : (f its).size ≤ 1001)
    (h : ∀ h' n', h'.get? x = some (pileObj C dx (f its) n') → Heap.SameBut x s.heap h' → Q () { s with heap := h' }) : wpAny (model prog w) A (updateSeq x f) Q E s := by
  obtain ⟨n', e⟩ : ∃ n', Obj.mapSeq f (pileObj C dx its n) = pileObj C dx (f its) n' := ⟨_, rfl⟩
  refine wpAny_updateSeq hx rfl (h _ n' ?_ (Heap.SameBut.update ..)) (by rw [sizeLine_eq]; (first | lia | omega)) (by rw [sizeLine_eq]; (first | lia | omega))
  rw [Heap.get?_update_self _ hx (by rw [e]; rfl), e]
theorem run_init {dx : Addr} {n : Nat} {Q : Value → Shared → Prop} (hx : s.heap.get? x = some (pileObj C dx #[] n)) (h : ∀ h' n', h'.get? x = some (pileObj C dx #[] n') → Heap.SameBut x s.heap h' → Q .none { s with heap := h' }) :
    wpAny (model prog w) A (Builtin.«list.__init__» ⟨[.ref x], []⟩) (fun fin s' => ∃ v, fin = .done (.ret v) ∧ Q v s') E s := by
  obtain ⟨hh, g, d, t, os⟩ := s
  unfold Builtin.«list.__init__»
  repeat (first | exact ⟨_, rfl, h⟩ | (with_reducible refine upd_pile hx (by decide) (by decide) fun h' n' e1 e2 => ?_) | lk)
  exact ⟨_, rfl, h h' n' e1 e2⟩
theorem run_append {its : Array Value} {n : Nat} {dx : Addr} {v : Value} {Q : Value → Shared → Prop} (hx : s.heap.get? x = some (pileObj C dx its n)) (hz : its.size ≤ 1000) (h : ∀ h' n', h'.get? x = some (pileObj C dx (its.push v) n') → Heap.SameBut x s.heap h' → Q .none { s with heap := h' }) :
    wpAny (model prog w) A (Builtin.«list.append» ⟨[.ref x, v], []⟩) (fun fin s' => ∃ v, fin = .done (.ret v) ∧ Q v s') E s := by
  obtain ⟨hh, g, d, t, os⟩ := s
  unfold Builtin.«list.append»
  refine wpAny_bind (wpAny_pure ?_)
  refine wpAny_bind ?_
  refine upd_pile (f := fun a => a.push v) hx hz (by rw [Array.size_push]; (first | lia | omega)) fun h' n' e1 e2 => ?_
  exact wpAny_pure ⟨_, rfl, h h' n' e1 e2⟩
theorem run_pop {xs : List Value} {n : Nat} {dx : Addr} {v : Value} {Q : Value → Shared → Prop} (hx : s.heap.get? x = some (pileObj C dx (xs ++ [v]).toArray n)) (hz : xs.length ≤ 900) (h : ∀ h' n', h'.get? x = some (pileObj C dx xs.toArray n') → Heap.SameBut x s.heap h' → Q v { s with heap := h' }) :
    wpAny (model prog w) A (Builtin.«list.pop» ⟨[.ref x], []⟩) (fun fin s' => ∃ v, fin = .done (.ret v) ∧ Q v s') E s := by
  obtain ⟨hh, g, d, t, os⟩ := s
  unfold Builtin.«list.pop»
  have e1 : (xs ++ [v]).toArray.isEmpty = false := by simp
  have e2 : ((seqIndex? (-1) (xs ++ [v]).toArray.size).bind fun k => Option.map (fun x => (k, x)) (xs ++ [v]).toArray[k]?) = some (xs.length, v) := by
    have : seqIndex? (-1) (xs ++ [v]).toArray.size = some xs.length := by
      simp [seqIndex?]
      (first | lia | omega)
    rw [this]
    simp
  have e3 : (xs ++ [v]).toArray.eraseIdxIfInBounds xs.length = xs.toArray := by
    simp [Array.eraseIdxIfInBounds, List.eraseIdx_append_of_length_le]
  have fin : wpAny (model prog w) A (listUpdate (.ref x) (fun a => a.eraseIdxIfInBounds xs.length) >>= fun _ => ret v) (fun fin s' => ∃ v, fin = .done (.ret v) ∧ Q v s') E ⟨hh, g, d, t, os⟩ := by
    refine wpAny_bind ?_
    refine upd_pile hx (by simp; (first | lia | omega)) (by rw [e3]; simp; (first | lia | omega)) fun h' n' q1 q2 => ?_
    rw [e3] at q1
    exact wpAny_pure ⟨_, rfl, h h' n' q1 q2⟩
  repeat (first | (rw [e1, if_neg (by decide), e2]; exact fin) | lk)
end
end
section
open PySem PySem.W PyProof.Rows
/-- a contract whose answer may add to the ledger or change it -/
noncomputable abbrev ClG (k : Nat) (w : World) (mean : ExcName → Option Value) (mg mb : Str → Option Value) (f : Addr) (news : List (Addr × Obj)) (pre : Prop) (vs : List Value) (post : Value → List (Addr × Obj) → Prop) : Prop :=
  ∀ (dp un : Nat) (gd : Option (List Code)) (cn : Str) (cs : Scope) (a : Addr) (ccd : Value) (cl : List (Str × Addr)) (outer : List Env) (A₀ : Around) (base h₀ : Heap) (L : Addr) (m : Str → Option Value) (s : Shared) (Q E : Value → Shared → Prop),
    Below A₀ base outer h₀ → Fr h₀ L s.heap m → (hd.heap_39 w.params).In h₀ → News h₀ L s.heap news → Top hdB.view_39 (looseW hdB.view_39 [Str.ofString "_Accumulator"]) mean mg mb h₀ → cs.kind = .function →
    pre → dp + k < recursionLimit → un + 10 * k < cLine → (∀ (v : Value) (ns : List (Addr × Obj)) (h' : Heap) (tk' : Nat), Fr h₀ L h' m → News h₀ L h' ns → post v ns → Q v { s with heap := h', toks := tk' }) →
      wpAny (model Challenge.rw_xj0014_01.row.prog w) (ktrTop dp un gd cn cs L a ccd cl outer) (call (.ref f) vs) Q E s

noncomputable def iniObj (p : Params) (t u : Tok) : Obj := Obj.putName (Str.ofString "_initial_size") (PyData.keyHash p (Str.ofString "_initial_size")) (.str (Str.ofString "_initial_size") t) (.int 0 u) emptyDict

theorem ini_look (p : Params) (t u : Tok) : lookIn (Str.ofString "_initial_size") (iniObj p t u) = some (some (.int 0 u)) := by rfl
theorem ini_push (p : Params) (t u : Tok) : shadowIn (some (iniObj p t u)) (Str.ofString "push") = some false := by rfl
theorem callWith_bd {prog : Program} {w : World} {A : Around} {E : Value → Shared → Prop} {s : Shared} {env : Env} {pos : Pos} {u x : Addr} {T i : String} {Q : Value → Shared → Prop} (hu : s.heap.get? u = some (boundObj T i x)) (hM : (T != "method") = true) (hT : (T == "builtin_function_or_method" || T == "method-wrapper") = true)
    (h : wpAny (model prog w) A (call (.ref u) []) Q E s) : wpAny (model prog w) A (callWith pos (.ref u) [] (backTo pos (starEach [] env)) []) Q E s := by
  refine callWith_of (P := fun h => h.get? u = some (boundObj T i x)) rfl (fun h hh => ⟨.machine, .inr (.inl rfl), (Looks.ld (part := none) hh).andThen ?_⟩) (evalArgs_nil3 ⟨hu, h⟩)
  have e1 : (Value.type T != Value.type "method") = true := by simpa using hM
  have e2 : (Value.type T == Value.type "builtin_function_or_method" || Value.type T == Value.type "method-wrapper") = true := by simpa using hT
  show Looks _ _ (if (Value.type T != Value.type "method") = true then (pure (if (Value.type T == Value.type "builtin_function_or_method" || Value.type T == Value.type "method-wrapper") = true then Keeper.machine else Keeper.caller)) else _) _
  rw [if_pos e1, if_pos e2]
  exact .now
theorem count_claim (w : World) (mean : ExcName → Option Value) (mg mb : Str → Option Value) (news : List (Addr × Obj)) (x dx : Addr) (its : Array Value) (n : Nat) (od : Obj) :
    ClG 1 w mean mg mb 112 news ((x, pileObj 115 dx its n) ∈ news ∧ (dx, od) ∈ news) [.ref x] (fun v ns => ns = news ∧ ∃ t, v = .int its.size t) := by
  unfold ClG
  k_fill
  intro dp un gd cn cs a' cccd cl outer A₀ base h₀ L m s Q E hB hF hK hN hT hk hpre hd hu hret
  obtain ⟨hx, hdx⟩ := hpre
  refine wpAny_call ?_
  ((k_dflt (refine' ks_code_super ?k1 ?k2 ?k3 ?k4 ?k5 ?kA ?kF ?kK ?k6 ?k7 ?k8 ?k9 ?kB ?_ ?c1 ?c2 ?c3 ?c4; (case kA => exact rfl); (case kF => exact rfl); (case kK => assumption); (case k1 => k_asm); (case k2 => k_asm); (case k3 => k_asm); (case k4 => k_asm); (case k5 => k_asm); (case k6 => k_is); (case k7 => k_is); (case k8 => ktr_room); (case k9 => exact BindsTo.of_eq rfl); (case kB => exact locs rfl); (case c1 => decide); (case c2 => exact rfl); (case c3 => exact rfl); (case c4 => exact rfl); intro _ _ _ _ _ _ _ _ _ _; (try dsimp only))))
  rename Fr _ _ _ (fun y => List.lookup y _) => F0
  rename News _ _ _ news => N0
  rename Top _ _ _ _ _ _ => T0
  rename_i g L1 h1 FG B1 X1 l1
  replace F0 := Fr.as F0 (m' := fun y => if y = Str.ofString "self" then some (.ref x) else none) (fun y => by show List.lookup y [(Str.ofString "self", Value.ref x)] = _; simp only [lookup_if]; rfl)
  have I0 : InstAt h1 x (pileObj 115 dx its n) 115 (some od) := ⟨(N0 _ hx).1, rfl, rfl, (N0 _ hdx).1⟩
  refine ks_wpAt_execs_cons ?_
  refine ks_wpAt_Return_some ?_
  refine ks_wpAt_MethodCall ?_
  ((k_dflt (refine ks_node (by k_asm) (by k_asm) (by k_asm) (by k_asm) (by k_is) (by rfl) (by rfl) (by assumption) (by k_is) (by rfl) (by first | rfl | decide +kernel) (by k_is) (by k_is) (by k_is) (by k_is) (by decide) (by rfl) (by rfl) (by rfl) (by rfl) (by decide +kernel) (by first | boot_by_name | rfl | kernel_rfl) ?_; intro _ _ _ _ _)))
  rename Fr _ _ _ _ => F1
  rename News _ _ _ _ => N1
  have I1 := (⟨(N1 _ (.tail _ hx)).1, rfl, rfl, (N1 _ (.tail _ hdx)).1⟩ : InstAt _ x (pileObj 115 dx its n) 115 (some od))
  refine superL_len F1 X1 N1 (.head _) I1 (pile_any w) (pile_over w) (pile_s_len w) ?_
  intro q h2 F2 N2 l2
  clear F1 N1
  refine callWith_bd (N2 _ (.head _)).1 (by decide) (by decide) ?_
  refine call_bound (N2 _ (.head _)).1 (by decide) (by decide) (by decide +kernel) PySem.F.entry_list_len (chk_len (run_len (N2 _ (.tail _ (.tail _ hx))).1 ?_))
  exact leaveK_ F2 N2 fun kF kN => hret _ news _ _ kF (fun p hp => kN p (.tail _ (.tail _ hp))) ⟨rfl, _, rfl⟩
end
section
open PySem PySem.W PyProof.Rows
abbrev tup2 (a : Str) (ta : Tok) (b : Str) (tb : Tok) : Obj := { cls := .type "tuple", data := .seq #[.str a ta, .str b tb] }
theorem AllLt_mem {d : Nat} : ∀ {l : List (Addr × Obj)}, AllLt d l → ∀ p ∈ l, p.1 < d
  | [], _, _, h => nomatch h
  | _ :: _, x, p, h => by
    rcases List.mem_cons.mp h with rfl | h
    · exact x.1
    · exact AllLt_mem x.2 p h
theorem set_head {h₀ h h' : Heap} {L x : Addr} {m : Str → Option Value} {o o' : Obj} {rest : List (Addr × Obj)} (F : Fr h₀ L h m) (N : News h₀ L h ((x, o) :: rest)) (hoff : ∀ p ∈ rest, p.1 ≠ x) (e : h'.get? x = some o') (hs : Heap.SameBut x h h') :
    Fr h₀ L h' m ∧ News h₀ L h' ((x, o') :: rest) := by
  have hx := N _ List.mem_cons_self
  refine ⟨F.change hs hx.2.1 hx.2.2, fun p hp => ?_⟩
  rcases List.mem_cons.mp hp with rfl | hp'
  · exact ⟨e, hx.2⟩
  · exact ⟨hs.extBut _ _ (hoff p hp') (N p (.tail _ hp')).1, (N p (.tail _ hp')).2⟩

theorem push_claim (w : World) (mean : ExcName → Option Value) (mg mb : Str → Option Value) (rest : List (Addr × Obj)) (x dx : Addr) (its : Array Value) (n : Nat) (od : Obj) (a b : Str) (ta tb : Tok) :
    ClG 1 w mean mg mb 59 ((x, pileObj 115 dx its n) :: rest) ((dx, od) ∈ rest ∧ (∀ p ∈ rest, p.1 ≠ x) ∧ its.size ≤ 900 ∧ shadowIn (some od) (Str.ofString "append") = some false) [.ref x, .str a ta, .str b tb]
      (fun v ns => ∃ T n', v = .none ∧ ns = (x, pileObj 115 dx (its.push (.ref T)) n') :: (T, tup2 a ta b tb) :: rest ∧ x < T ∧ ∀ p ∈ rest, p.1 < T) := by
  unfold ClG
  k_fill
  intro dp un gd cn cs a' cccd cl outer A₀ base h₀ L m s Q E hB hF hK hN hT hk hpre hd hu hret
  obtain ⟨hdx, hoff, hsz, hsh⟩ := hpre
  refine wpAny_call ?_
  k_dflt cell_enter
  (repeat' ((fail_if_success (with_reducible show wpAny _ _ (getMethod (Value.ref _) _ _) _ _ _)); (fail_if_success (with_reducible show wpAny _ _ (call _ _) _ _ _)); (((first | (k_unfold; (try dsimp only)) | (k_end; wrow_close) | walk1 | (dsimp only; walk1) | (leave1; walk_say "STEP leave1"; try dsimp only) | fail "no step")))))
  rename Fr _ _ _ (fun y => List.lookup y _) => F0
  rename News _ _ _ ((x, _) :: _) => N0
  rename Top _ _ _ _ _ _ => T0
  rename_i g L1 h1 FG B1 X1
  replace F0 := Fr.as F0 (m' := fun y => if y = Str.ofString "string" then some (.str b tb) else if y = Str.ofString "fws" then some (.str a ta) else if y = Str.ofString "self" then some (.ref x) else none) (fun y => by show List.lookup y [(Str.ofString "string", Value.str b tb), (Str.ofString "fws", Value.str a ta), (Str.ofString "self", Value.ref x)] = _; simp only [lookup_if]; rfl)
  have I0 : InstAt h1 x (pileObj 115 dx its n) 115 (some od) := ⟨(N0 _ (.head _)).1, rfl, rfl, (N0 _ (.tail _ hdx)).1⟩
  refine methodL_append (X1.keeps F0.keep) I0 (pile_ga w) (pile_gb w) (pile_append w) hsh ?_
  (repeat' ((fail_if_success (with_reducible show wpAny _ _ (getMethod (Value.ref _) _ _) _ _ _)); (fail_if_success (with_reducible show wpAny _ _ (call _ _) _ _ _)); (((first | (k_unfold; (try dsimp only)) | (k_end; wrow_close) | walk1 | (dsimp only; walk1) | (leave1; walk_say "STEP leave1"; try dsimp only) | fail "no step")))))
  rename News _ _ _ _ => N2
  rename Fr _ _ _ _ => F2
  rename (x < _ ∧ AllLt _ rest) => lt
  rename_i T h2
  have ltr := AllLt_mem lt.2
  have N3 : News g L1 h2 ((x, pileObj 115 dx its n) :: (T, tup2 a ta b tb) :: rest) := fun p hp => N2 p (by simp only [List.mem_cons] at hp ⊢; rcases hp with h | h | h <;> simp only [h, true_or, or_true])
  have off2 : ∀ p ∈ (T, tup2 a ta b tb) :: rest, p.1 ≠ x := by
    intro p hp
    rcases List.mem_cons.mp hp with rfl | hp
    · exact Nat.ne_of_gt lt.1
    · exact hoff p hp
  have I2 : InstAt h2 x (pileObj 115 dx its n) 115 (some od) := ⟨(N3 _ (.head _)).1, rfl, rfl, (N3 _ (.tail _ (.tail _ hdx))).1⟩
  refine call_listM (i := "list.append") (owner := "list") (n := "append") (.inr (by decide +kernel)) (by decide +kernel) (by decide +kernel) (over_inst (X1.keeps F2.keep) I2 (pile_over w) (by simp)) (PySem.F.args_list_append_2 _ _) PySem.F.entry_list_append (run_append (N3 _ (.head _)).1 (Nat.le_trans hsz (by decide)) ?_)
  intro h3 n3 e3 hs3
  obtain ⟨F3, N4⟩ := set_head F2 N3 off2 e3 hs3
  clear F2 N2 N3
  (repeat' ((fail_if_success (with_reducible show wpAny _ _ (getMethod (Value.ref _) _ _) _ _ _)); (fail_if_success (with_reducible show wpAny _ _ (call _ _) _ _ _)); (((first | (k_unfold; (try dsimp only)) | (k_end; wrow_close) | walk1 | (dsimp only; walk1) | (leave1; walk_say "STEP leave1"; try dsimp only) | fail "no step")))))
  exact hret _ _ _ _ (by assumption) (by assumption) ⟨T, n3, rfl, rfl, lt.1, ltr⟩
end
section
open PySem PySem.W PyProof.Rows
/-- the last of a pile, or a pair of empty texts -/
theorem pop_claim (w : World) (mean : ExcName → Option Value) (mg mb : Str → Option Value) (rest : List (Addr × Obj)) (x dx : Addr) (xs : List Value) (n : Nat) (od : Obj) :
    ClG 2 w mean mg mb 75 ((x, pileObj 115 dx xs.toArray n) :: rest) ((dx, od) ∈ rest ∧ (∀ p ∈ rest, p.1 ≠ x) ∧ xs.length ≤ 900 ∧ shadowIn (some od) (Str.ofString "part_count") = some false) [.ref x]
      (fun v ns => (xs = [] ∧ ∃ T t1 t2, v = .ref T ∧ ns = (T, tup2 (Str.ofString "") t1 (Str.ofString "") t2) :: (x, pileObj 115 dx xs.toArray n) :: rest ∧ x < T ∧ ∀ p ∈ rest, p.1 < T) ∨
        (∃ ys n', xs = ys ++ [v] ∧ ns = (x, pileObj 115 dx ys.toArray n') :: rest)) := by
  unfold ClG
  k_fill
  intro dp un gd cn cs a' cccd cl outer A₀ base h₀ L m s Q E hB hF hK hN hT hk hpre hd hu hret
  obtain ⟨hdx, hoff, hsz, hsh⟩ := hpre
  refine wpAny_call ?_
  ((k_dflt (refine' ks_code_super ?k1 ?k2 ?k3 ?k4 ?k5 ?kA ?kF ?kK ?k6 ?k7 ?k8 ?k9 ?kB ?_ ?c1 ?c2 ?c3 ?c4; (case kA => exact rfl); (case kF => exact rfl); (case kK => assumption); (case k1 => k_asm); (case k2 => k_asm); (case k3 => k_asm); (case k4 => k_asm); (case k5 => k_asm); (case k6 => k_is); (case k7 => k_is); (case k8 => ktr_room); (case k9 => exact BindsTo.of_eq rfl); (case kB => exact locs rfl); (case c1 => decide); (case c2 => exact rfl); (case c3 => exact rfl); (case c4 => exact rfl); intro _ _ _ _ _ _ _ _ _ _; (try dsimp only))))
  rename Fr _ _ _ (fun y => List.lookup y _) => F0
  rename News _ _ _ (_ :: rest) => N0
  rename Top _ _ _ _ _ _ => T0
  rename_i g L1 h1 FG B1 X1 l1
  replace F0 := Fr.as F0 (m' := fun y => if y = Str.ofString "self" then some (.ref x) else none) (fun y => by show List.lookup y [(Str.ofString "self", Value.ref x)] = _; simp only [lookup_if]; rfl)
  have I0 : InstAt h1 x (pileObj 115 dx xs.toArray n) 115 (some od) := ⟨(N0 _ (.head _)).1, rfl, rfl, (N0 _ (.tail _ hdx)).1⟩
  refine ks_wpAt_execs_cons ?_
  refine ks_wpAt_If ?_
  refine wpAt_of_wpAny ?_
  (repeat' ((fail_if_success (with_reducible show wpAny _ _ (getMethod (Value.ref _) _ _) _ _ _)); (fail_if_success (with_reducible show wpAny _ _ (call _ _) _ _ _)); (((first | (k_unfold; (try dsimp only)) | (k_end; wrow_close) | walk1 | (dsimp only; walk1) | (leave1; walk_say "STEP leave1"; try dsimp only) | fail "no step")))))
  refine methodL_fn (X1.keeps F0.keep) I0 (pile_ga w) (pile_gb w) (pile_count w) (by k_is) hsh ?_
  (repeat' ((fail_if_success (with_reducible show wpAny _ _ (getMethod (Value.ref _) _ _) _ _ _)); (fail_if_success (with_reducible show wpAny _ _ (call _ _) _ _ _)); (((first | (k_unfold; (try dsimp only)) | (k_end; wrow_close) | walk1 | (dsimp only; walk1) | (leave1; walk_say "STEP leave1"; try dsimp only) | fail "no step")))))
  refine count_claim w mean mg mb _ x dx xs.toArray n od _ _ _ _ _ _ _ _ _ _ _ _ _ _ _ _ _ B1 F0 X1 N0 T0 rfl ⟨.head _, .tail _ hdx⟩ (by ktr_room) (by ktr_units) ?_
  rintro v ns h2 tk2 F2 N2 ⟨rfl, t, rfl⟩
  clear F0 N0 I0
  ((first | (k_unfold; (try dsimp only)) | (k_end; wrow_close) | walk1 | (dsimp only; walk1) | (leave1; walk_say "STEP leave1"; try dsimp only) | fail "no step"))
  ((first | (k_unfold; (try dsimp only)) | (k_end; wrow_close) | walk1 | (dsimp only; walk1) | (leave1; walk_say "STEP leave1"; try dsimp only) | fail "no step"))
  ((first | (k_unfold; (try dsimp only)) | (k_end; wrow_close) | walk1 | (dsimp only; walk1) | (leave1; walk_say "STEP leave1"; try dsimp only) | fail "no step"))
  ((first | (k_unfold; (try dsimp only)) | (k_end; wrow_close) | walk1 | (dsimp only; walk1) | (leave1; walk_say "STEP leave1"; try dsimp only) | fail "no step"))
  · refine wpAt_of_wpAny ?_
    (repeat' ((fail_if_success (with_reducible show wpAny _ _ (getMethod (Value.ref _) _ _) _ _ _)); (fail_if_success (with_reducible show wpAny _ _ (call _ _) _ _ _)); (((first | (k_unfold; (try dsimp only)) | (k_end; wrow_close) | walk1 | (dsimp only; walk1) | (leave1; walk_say "STEP leave1"; try dsimp only) | fail "no step")))))
    rename (_ = 0) => hz
    rename (x < _ ∧ AllLt _ rest) => lt
    refine hret _ _ _ _ (by assumption) (by assumption) (.inl ⟨?_, _, _, _, rfl, rfl, lt.1, AllLt_mem lt.2⟩)
    cases xs with
    | nil => rfl
    | cons a l => simp at hz; omega
  · refine wpAt_of_wpAny ?_
    ((first | (k_unfold; (try dsimp only)) | (k_end; wrow_close) | walk1 | (dsimp only; walk1) | (leave1; walk_say "STEP leave1"; try dsimp only) | fail "no step"))
    ((first | (k_unfold; (try dsimp only)) | (k_end; wrow_close) | walk1 | (dsimp only; walk1) | (leave1; walk_say "STEP leave1"; try dsimp only) | fail "no step"))
    refine ks_wpAt_execs_cons ?_
    refine ks_wpAt_Return_some ?_
    refine ks_wpAt_MethodCall ?_
    have I1 := (⟨(N2 _ (.head _)).1, rfl, rfl, (N2 _ (.tail _ hdx)).1⟩ : InstAt h2 x (pileObj 115 dx xs.toArray n) 115 (some od))
    ((k_dflt (refine ks_node (by k_asm) (by k_asm) (by k_asm) (by k_asm) (by k_is) (by rfl) (by rfl) (by assumption) (by k_is) (by rfl) (by first | rfl | decide +kernel) (by k_is) (by k_is) (by k_is) (by k_is) (by decide) (by rfl) (by rfl) (by rfl) (by rfl) (by decide +kernel) (by first | boot_by_name | rfl | kernel_rfl) ?_; intro _ _ _ _ _)))
    clear F2 N2
    rename Fr _ _ _ _ => F3
    rename News _ _ _ _ => N3
    rename (_ ≠ 0) => hz
    have I3 := (⟨(N3 _ (.tail _ (.head _))).1, rfl, rfl, (N3 _ (.tail _ (.tail _ hdx))).1⟩ : InstAt _ x (pileObj 115 dx xs.toArray n) 115 (some od))
    refine superL_pop F3 X1 N3 (.head _) I3 (pile_any w) (pile_over w) (pile_s_pop w) ?_
    intro q h4 F4 N4 l4
    clear F3 N3
    have I4 := (⟨(N4 _ (.tail _ (.tail _ (.head _)))).1, rfl, rfl, (N4 _ (.tail _ (.tail _ (.tail _ hdx)))).1⟩ : InstAt _ x (pileObj 115 dx xs.toArray n) 115 (some od))
    obtain ⟨ys, v, rfl⟩ : ∃ ys v, xs = ys ++ [v] := by
      rcases List.eq_nil_or_concat xs with rfl | ⟨ys, v, e⟩
      · exact absurd rfl hz
      · exact ⟨ys, v, by simpa using e⟩
    refine callWith_bd (N4 _ (.head _)).1 (by decide) (by decide) ?_
    refine call_bound (N4 _ (.head _)).1 (by decide) (by decide) (by decide +kernel) PySem.F.entry_list_pop (chk_pop (X1.keeps F4.keep) I4 (pile_over w) (by k_is) (by kernel_rfl) (run_pop (N4 _ (.tail _ (.tail _ (.head _)))).1 (by simp at hsz; omega) ?_))
    intro h5 n5 e5 hs5
    have N5 : News _ _ _ ((x, pileObj 115 dx (ys ++ [v]).toArray n) :: rest) := fun p hp => N4 p (.tail _ (.tail _ hp))
    obtain ⟨F6, N6⟩ := set_head F4 N5 hoff e5 hs5
    exact leaveK_ F6 N6 fun kF kN => hret _ _ _ _ kF kN (.inr ⟨ys, n5, rfl, rfl⟩)
end
section
open PySem PySem.W PyProof.Rows
theorem make_claim (w : World) (mean : ExcName → Option Value) (mg mb : Str → Option Value) (news : List (Addr × Obj)) :
    ClG 2 w mean mg mb 115 news True [] (fun v ns => ∃ x dx t u n, v = .ref x ∧ ns = (x, pileObj 115 dx #[] n) :: (dx, iniObj w.params t u) :: news ∧ dx < x ∧ ∀ p ∈ news, p.1 < dx) := by
  unfold ClG
  k_fill
  intro dp un gd cn cs a' cccd cl outer A₀ base h₀ L m s Q E hB hF hK hN hT hk hpre hd hu hret
  refine wpAny_call ?_
  refine make_L (K := Mine.hd.heap_39 w.params) hF hN (hK.keeps hF.keep) (pile_calls w) (pile_init w) (pile_52 w) ?_
  intro x dx h0 Fx Nx ltn ltx
  ((k_dflt (refine' ks_code_super ?k1 ?k2 ?k3 ?k4 ?k5 ?kA ?kF ?kK ?k6 ?k7 ?k8 ?k9 ?kB ?_ ?c1 ?c2 ?c3 ?c4; (case kA => exact rfl); (case kF => exact rfl); (case kK => assumption); (case k1 => k_asm); (case k2 => k_asm); (case k3 => k_asm); (case k4 => k_asm); (case k5 => k_asm); (case k6 => k_is); (case k7 => k_is); (case k8 => ktr_room); (case k9 => first | exact BindsTo.of_eq rfl | exact binds_K (by k_in) rfl (by k_is) rfl rfl rfl); (case kB => exact locs rfl); (case c1 => decide); (case c2 => exact rfl); (case c3 => exact rfl); (case c4 => exact rfl); intro _ _ _ _ _ _ _ _ _ _; (try dsimp only))))
  rename Fr _ _ _ (fun y => List.lookup y _) => F0
  rename_i g L1 h1 FG N0 B1 X1 T0 l1
  replace F0 := Fr.as F0 (m' := fun y => if y = Str.ofString "initial_size" then some (.int 0 246) else if y = Str.ofString "self" then some (.ref x) else none) (fun y => by show List.lookup y [(Str.ofString "initial_size", Value.int 0 246), (Str.ofString "self", Value.ref x)] = _; simp only [lookup_if]; rfl)
  have I0 : InstAt h1 x (pileObj 115 dx #[] 0) 115 (some emptyDict) := ⟨(N0 _ (.head _)).1, rfl, rfl, (N0 _ (.tail _ (.head _))).1⟩
  refine ks_wpAt_execs_cons ?_
  refine wpAt_of_wpAny ?_
  (repeat' ((fail_if_success (with_reducible show wpAny _ _ (getMethod (Value.ref _) _ _) _ _ _)); (fail_if_success (with_reducible show wpAny _ _ (call _ _) _ _ _)); (fail_if_success (with_reducible show wpAny _ _ (setAttr _ _ _) _ _ _)); (((first | (k_unfold; (try dsimp only)) | (k_end; wrow_close) | walk1 | (dsimp only; walk1) | (leave1; walk_say "STEP leave1"; try dsimp only) | fail "no step")))))
  refine set_plain (X1.keeps F0.keep) I0 (pile_sa w) ?_
  refine size_stored (od' := iniObj w.params _ 246) F0 N0 (X1.keeps F0.keep) (Nat.ne_of_gt ltx) (fun p hp => Nat.ne_of_lt (ltn p hp)) (pile_over w) (pile_size w) (pile_dict w) rfl rfl (Nat.le_of_ble_eq_true rfl) ?_
  intro h2 F2 N2
  clear F0 N0 I0
  replace N2 : News g L1 h2 ((x, pileObj 115 dx #[] 0) :: (dx, iniObj w.params _ 246) :: news) := N2
  refine ks_wpAt_execs_cons ?_
  refine ks_wpAt_Expr_any ?_
  refine ks_wpAt_MethodCall ?_
  have I2 := (⟨(N2 _ (.head _)).1, rfl, rfl, (N2 _ (.tail _ (.head _))).1⟩ : InstAt h2 x (pileObj 115 dx #[] 0) 115 (some (iniObj w.params _ 246)))
  ((k_dflt (refine ks_node (by k_asm) (by k_asm) (by k_asm) (by k_asm) (by k_is) (by rfl) (by rfl) (by assumption) (by k_is) (by rfl) (by first | rfl | decide +kernel) (by k_is) (by k_is) (by k_is) (by k_is) (by decide) (by rfl) (by rfl) (by rfl) (by rfl) (by decide +kernel) (by first | boot_by_name | rfl | kernel_rfl) ?_; intro _ _ _ _ _)))
  clear F2 N2 I2
  rename Fr g _ _ _ => F3
  rename News g _ _ _ => N3
  have I3 := (⟨(N3 _ (.tail _ (.head _))).1, rfl, rfl, (N3 _ (.tail _ (.tail _ (.head _)))).1⟩ : InstAt _ x (pileObj 115 dx #[] 0) 115 (some (iniObj w.params _ 246)))
  refine superL_init F3 X1 N3 (.head _) I3 (pile_any w) (pile_over w) (pile_s_init w) ?_
  intro q h4 F4 N4 l4
  clear F3 N3
  refine callWith_bd (N4 _ (.head _)).1 (by decide) (by decide) ?_
  refine call_bound (N4 _ (.head _)).1 (by decide) (by decide) (by decide +kernel) PySem.F.entry_list_init (chk_init (run_init (N4 _ (.tail _ (.tail _ (.head _)))).1 ?_))
  intro h5 n5 e5 hs5
  have N5 : News _ _ _ ((x, pileObj 115 dx #[] 0) :: (dx, iniObj w.params _ 246) :: news) := fun p hp => N4 p (.tail _ (.tail _ hp))
  obtain ⟨F6, N6⟩ := set_head F4 N5 (fun p hp => by
    rcases List.mem_cons.mp hp with rfl | hp
    · exact Nat.ne_of_lt ltx
    · exact Nat.ne_of_lt (Nat.lt_trans (ltn p hp) ltx)) e5 hs5
  refine wpAt_of_wpAny ?_
  ((first | (k_unfold; (try dsimp only)) | (k_end; wrow_close) | walk1 | (dsimp only; walk1) | (leave1; walk_say "STEP leave1"; try dsimp only) | fail "no step"))
  ((first | (k_unfold; (try dsimp only)) | (k_end; wrow_close) | walk1 | (dsimp only; walk1) | (leave1; walk_say "STEP leave1"; try dsimp only) | fail "no step"))
  exact leaveK_ F6 N6 fun kF kN => ⟨rfl, hret _ _ _ _ kF kN ⟨x, dx, _, 246, n5, rfl, rfl, ltx, ltn⟩⟩
end
section
open PySem PySem.W PySem.Calls PyProof.Rows Builtin Builtin.List
section
variable {prog : Program} {w : World} {A : Around} {E : Value → Shared → Prop} {K : Frag} {C dx x it : Addr} {s : Shared} {its : Array Value} {n : Nat} {h : Heap} {g : Array GenState} {d : Drawn} {t : Nat} {os : OsState}
theorem next_pile {i : Nat} {v : Value} {Q : Option Value → Shared → Prop} (hit : s.heap.IsListIter it x i) (hx : s.heap.get? x = some (pileObj C dx its n)) (hv : its[i]? = some v)
    (hQ : ∀ h', h'.IsListIter it x (i + 1) → Heap.SameBut it s.heap h' → Q (some v) { s with heap := h' }) : wpAny (model prog w) A (pyNext (.ref it)) Q E s := by
  obtain ⟨o, ho, hc, hd⟩ := id hit
  unfold pyNext
  refine wpAny_bind (wpAny_attempt (wpAny_callSpecial?_slot (name := Str.ofString "__next__") hit.typeIs slot_listiter_next (wpAny_call_entry slot_listiter_next hit.typeIs entry_listiter_next ?_ (args_listiter_next _))))
  refine wpAny_bind (wpAny_pure (wpAny_bind (wpAny_field ho hd (x := .ref x) rfl ?_)))
  have e : (Value.ref x == Value.none) = false := rfl
  rw [e, if_neg (by decide)]
  refine wpAny_bind (wpAny_field ho hd (x := .int i 0) rfl ?_)
  refine wpAny_bind (wpAny_seqItems hx rfl ?_)
  simp only [Int.toNat_natCast, hv]
  refine wpAny_bind (wpAny_setField ho hd (by simp) (wpAny_pure ⟨v, rfl, wpAny_pure (hQ _ ?_ (Heap.SameBut.update ..))⟩))
  exact ⟨_, Heap.get?_update_self _ ho (Obj.isFreed_of_fields (Obj.data_mapFields hd _)), (Obj.cls_mapFields ..).trans hc, by rw [Obj.data_mapFields hd]; simp [rawInt]⟩

theorem stop_made {Q : Value → Shared → Prop} (h1 : ∀ h' e o, h'.get? e = some o → o.cls = .type "StopIteration" → (∀ b p, h.get? b = some p → h'.get? b = some p) → Q (.ref e) ⟨h', g, d, t, os⟩) :
    wpAny (model prog w) A (newExc (.type "StopIteration") []) Q E ⟨h, g, d, t, os⟩ := by
  unfold newExc
  repeat lk
  exact h1 _ _ _ (Heap.get?_push_size _ rfl) rfl fun b p e => Heap.get?_push_of_some _ (Heap.get?_push_of_some _ e)
/-- the end of a walk over the pile -/
theorem end_pile {i : Nat} {Q : Option Value → Shared → Prop} (hh : A.handled = none) (hit : h.IsListIter it x i) (hx : h.get? x = some (pileObj C dx its n)) (hv : its[i]? = none)
    (hQ : ∀ h', Heap.ExtBut it h h' → Q none ⟨h', g, d, t, os⟩) : wpAny (model prog w) A (pyNext (.ref it)) Q E ⟨h, g, d, t, os⟩ := by
  obtain ⟨⟨oc, od, dat, sl⟩, ho, rfl, rfl⟩ := id hit
  have l1 : Looks (model prog w) h (specialOf (.ref it) "__next__") (some (.builtin "list_iterator.__next__")) := ((Looks.ld ho).andThen .now).andThen (Looks.of_pure slot_listiter_next.lookup)
  have l2 : Looks (model prog w) h (bindSpecial (.builtin "list_iterator.__next__") (.ref it)) (.builtin "list_iterator.__next__", [.ref it]) := Looks.of_pure (slot_listiter_next.bind _)
  have run : ∀ Q', wpAny (model prog w) A (call (.builtin "list_iterator.__next__") [.ref it]) Q' (fun e s' => ∃ h' o, s' = ⟨h', g, d, t, os⟩ ∧ (∃ a, e = .ref a ∧ h'.get? a = some o) ∧ o.cls = .type "StopIteration" ∧ Heap.ExtBut it h h') ⟨h, g, d, t, os⟩ := fun Q' => by
    refine wpAny_call_entry (rest := []) slot_listiter_next hit.typeIs entry_listiter_next ?_ (args_listiter_next _)
    refine wpAny_bind (wpAny_pure ?_)
    repeat lk
    rw [Int.toNat_natCast, hv]
    refine wpAny_bind (wpAny_rule (wpAny_bind (wpAny_setField ho rfl (by simp) ?_)))
    show wpAny _ _ (newExc (.type "StopIteration") [] >>= raiseNew) _ _ _
    refine wpAny_bind (stop_made fun h' e o he hc k => wpAny_raiseNew_none hh ⟨h', o, rfl, ⟨e, rfl, he⟩, hc, fun b p hb e' => k b p ?_⟩)
    exact (Heap.get?_update_ne _ _ _ _ hb).trans e'
  unfold pyNext callSpecial?
  refine wpAny_bind (wpAny_attempt (wpAny_bind (l1.at (wpAny_holding (wpAny_bind (l2.at (wpAny_bind (wpAny_mono (run fun _ _ => False) (fun _ _ z => z.elim) ?_))))))))
  rintro e s' ⟨h', o, rfl, ⟨a, rfl, ha⟩, hc, hb⟩
  exact wpAny_bind (wpAny_isInstance ⟨o, ha, hc⟩ isSubtype_stop (wpAny_pure (hQ h' hb)))
theorem iter_pile {od : Option Obj} {Q : Value → Shared → Prop} (X : K.In s.heap) (I : InstAt s.heap x (pileObj C dx its n) C od) (hp : overList K C = true) (hi : findIn K (.ref C) "__iter__" = some (some (.builtin "list.__iter__")))
    (hQ : Q (.ref s.heap.objs.size) { s with heap := s.heap.push { cls := .type "list_iterator", data := .fields #[.ref x, .int 0 0] } }) : wpAny (model prog w) A (pyIter (.ref x)) Q E s := by
  have L2 := over_inst (M := model prog w) (T := .type "list") X I hp (by simp)
  have L0 := I.type (M := model prog w)
  have L1 := looks_findIn (M := model prog w) X hi
  have step : ∀ (A' : Around) Q', Q' (.ref s.heap.objs.size) { s with heap := s.heap.push { cls := .type "list_iterator", data := .fields #[.ref x, .int 0 0] } } → wpAny (model prog w) A' (call (.builtin "list.__iter__") [.ref x]) Q' E s := fun A' Q' q =>
    call_listM (i := "list.__iter__") (owner := "list") (n := "__iter__") (.inl (by decide +kernel)) (by decide +kernel) (by decide +kernel) L2 (args_list_iter _) PySem.F.entry_list_iter (wpAny_bind (wpAny_pure (wpAny_bind (wpAny_newObj_type (wpAny_pure ⟨_, rfl, q⟩)))))
  unfold pyIter specialOf
  refine wpAny_bind (wpAny_bind (L0.here (L1.here ?_)))
  dsimp only
  refine wpAny_bind ?_
  simp only [callSpecialIfBoundUnlessNone?, bindSpecialIfBound?]
  refine wpAny_holding (wpAny_bind (wpAny_bind (wpAny_bind (L0.here (L1.here ?_)))))
  dsimp only
  simp only [PySem.F.slot_list_iter.bind]
  refine wpAny_bind (wpAny_askSetting (wpAny_ite ?_))
  have tail : wpAny (model prog w) A (specialOf (.ref s.heap.objs.size) "__next__") (fun r s' => (∃ f, r = some f) ∧ s' = { s with heap := s.heap.push { cls := .type "list_iterator", data := .fields #[.ref x, .int 0 0] } }) E { s with heap := s.heap.push { cls := .type "list_iterator", data := .fields #[.ref x, .int 0 0] } } :=
    wpAny_specialOf (T := "list_iterator") ⟨_, Heap.get?_push_size _ rfl, rfl⟩ slot_listiter_next.lookup ⟨⟨_, rfl⟩, rfl⟩
  split
  · refine wpAny_bind (wpAny_pure (wpAny_pure ?_))
    dsimp only
    rw [show (Value.builtin "list.__iter__" == Value.none) = false from rfl, if_neg (by decide)]
    refine wpAny_bind (step _ _ (wpAny_pure ?_))
    dsimp only
    refine wpAny_bind (wpAny_mono tail (fun r s' h => ?_) fun _ _ z => z)
    obtain ⟨⟨f, rfl⟩, rfl⟩ := h
    exact wpAny_pure hQ
  · refine wpAny_tryCatch (wpAny_bind (wpAny_pure (wpAny_pure ?_)))
    dsimp only
    rw [show (Value.builtin "list.__iter__" == Value.none) = false from rfl, if_neg (by decide)]
    refine wpAny_bind (step _ _ (wpAny_pure ?_))
    dsimp only
    refine wpAny_bind (wpAny_mono tail (fun r s' h => ?_) fun _ _ z => z)
    obtain ⟨⟨f, rfl⟩, rfl⟩ := h
    exact wpAny_pure hQ
end
end
section
open PySem PySem.W PySem.Calls PySem.Spec PyProof.Rows Builtin Builtin.List
/-- where a walk over the pile stands: its iterator, the pile, its pairs -/
structure PileAt (I x C dx : Addr) (n : Nat) (items : Array Value) (Ts : Nat → Addr) (vals : Nat → Array Value) (j : Nat) (h : Heap) : Prop where
  iter : h.IsListIter I x j
  pile : h.get? x = some (pileObj C dx items n)
  pair : ∀ k, k < items.size → h.IsTuple (Ts k) (vals k)
section
variable {I x C dx : Addr} {n j : Nat} {items : Array Value} {Ts : Nat → Addr} {vals : Nat → Array Value} {h h' : Heap}
theorem PileAt.kept (st : PileAt I x C dx n items Ts vals j h) (hk : ∀ b, b ∈ I :: x :: (List.range items.size).map Ts → ∀ o, h.get? b = some o → h'.get? b = some o) : PileAt I x C dx n items Ts vals j h' :=
  ⟨st.iter.at (hk I (.head _)), hk x (.tail _ (.head _)) _ st.pile, fun k q => (st.pair k q).at (hk (Ts k) (.tail _ (.tail _ (List.mem_map_of_mem (List.mem_range.mpr q)))))⟩
theorem PileAt.next (st : PileAt I x C dx n items Ts vals j h) (it : h'.IsListIter I x (j + 1)) (e : Heap.ExtBut I h h') (hx : x ≠ I) (hT : ∀ k, k < items.size → Ts k ≠ I) : PileAt I x C dx n items Ts vals (j + 1) h' :=
  ⟨it, e x _ hx st.pile, fun k q => (st.pair k q).extBut e (hT k q)⟩
end
theorem walks_pile {prog : Program} {w : World} {A : Around} (hh : A.handled = none) (I x C dx : Addr) (n : Nat) (hne : x ≠ I) (items : Array Value) (Ts : Nat → Addr) (vals : Nat → Array Value)
    (hit : ∀ j, j < items.size → items[j]? = some (.ref (Ts j))) (hTI : ∀ j, j < items.size → Ts j ≠ I) :
    WalksU prog w A I (I :: x :: (List.range items.size).map Ts) [I] items.size (fun j v => j < items.size ∧ v = vals j) (PileAt I x C dx n items Ts vals)
      (fun j T h => (j < items.size ∧ T = Ts j) ∧ PileAt I x C dx n items Ts vals (j + 1) h) := by
  have off : ∀ b, b ∉ [I] → b ≠ I := fun b hb e => hb (List.mem_singleton.mpr e)
  constructor
  case sub => exact fun b hb => List.mem_singleton.mp hb ▸ .head _
  case frame => exact fun _ _ _ st hk => st.kept hk
  case self => exact fun _ _ _ _ st => wpAny_pyIter_listiter st.iter
  case go => exact fun _ _ _ _ _ s Q _ st hQ => wpAny_letOwnedTupleGo_listiter st.2.iter (hQ s.heap st.2 fun _ _ _ => id)
  case apart => exact fun j T _ st hm => hTI j st.1.1 (st.1.2 ▸ List.mem_singleton.mp hm)
  case done => exact fun s Q E st hQ => end_pile hh st.iter st.pile (by simp) fun h' e => hQ h' s.toks fun b o hb => e b o (off b hb)
  case item =>
    intro i s Q E hi st hQ
    refine next_pile st.iter st.pile (hit i hi) fun h' it e => ?_
    have st' := st.next it e.extBut hne hTI
    exact hQ (Ts i) (vals i) h' s.toks ⟨hi, rfl⟩ (st'.pair i hi) ⟨⟨hi, rfl⟩, st'⟩ fun b o hb => e.extBut b o (off b hb)

theorem passing_all (n : Nat) : passing (fun _ => true) n 0 = List.range n := by
  unfold passing
  rw [List.drop_zero]
  exact List.filter_eq_self.mpr fun _ _ => rfl

section
variable {prog : Program} {w : World} {A : Around} {E : Value → Shared → Prop} {s₁ : Shared} {h₁ h₀ : Heap} {c P L : Addr} {ps : Array Value} {m : Str → Option Value} {K : Frag} {C dx x : Addr} {n : Nat} {items : Array Value}
theorem src_pile {env : Env} {elt : Expr} {xa xb : Str} {scope : Scope} {cl : List (Str × Addr)} {pos : Pos} {Q : Value → Shared → Prop} {od : Option Obj} {F : Nat → Value → Prop} {Ts : Nat → Addr} {va vb : Nat → Value}
    (B : Based h₁ h₀ c P ps) (X : K.In s₁.heap) (I : InstAt s₁.heap x (pileObj C dx items n) C od) (hp : overList K C = true) (hi : findIn K (.ref C) "__iter__" = some (some (.builtin "list.__iter__")))
    (hit : ∀ j, j < items.size → items[j]? = some (.ref (Ts j))) (hT : ∀ j, j < items.size → s₁.heap.IsTuple (Ts j) #[va j, vb j]) (F₁ : Fr h₀ L s₁.heap m) (G₁ : AllBare s₁.gens) (hlim : s₁.heap.NoLimit)
    (helt : ∀ (c' Cn : Addr) (A' : Around) E' i (t : Shared) m₂, A'.handled = none → A'.depth ≤ A.depth + 1 → A'.units ≤ A.units + 8 → i < items.size → Fr (regrown h₀ P (ps ++ #[rawInt pos.line, rawInt pos.col, .ref c'])) Cn t.heap m₂ → m₂ xa = some (va i) → m₂ xb = some (vb i) → L < Cn →
          wpAny (model prog w) A' (eval elt (genEnv scope cl Cn (.ref c') builtinsNs env)) (fun y s₃ => F i y ∧ Keeps t s₃) E' t)
    (hQ : ∀ (c' a Kb : Addr) (s₅ : Shared), Based h₁ (regrown h₀ P (ps ++ #[rawInt pos.line, rawInt pos.col, .ref c'])) c P (ps ++ #[rawInt pos.line, rawInt pos.col, .ref c']) →
          Fr (regrown h₀ P (ps ++ #[rawInt pos.line, rawInt pos.col, .ref c'])) L s₅.heap m → AllBare s₅.gens → s₅.os = s₁.os → (∀ b o, b ≠ P → s₁.heap.get? b = some o → s₅.heap.get? b = some o) → L ≤ Kb → (∀ b o, s₁.heap.get? b = some o → b ≤ Kb) →
          Gen prog w A Kb a items.size (fun j y => F j y) s₅ → Q (.ref a) s₅) :
    wpAny (model prog w) A (pyIter (.ref x)) (GenPostT prog w A h₁ h₀ c P ps L m env scope cl xa xb [] elt pos Q) E s₁ := by
  have hx := I.at_
  have hlt : x < s₁.heap.objs.size := Heap.lt_size hx
  have hLlt : L < s₁.heap.objs.size := F₁.ns.lt
  have hTl : ∀ j, j < items.size → Ts j < s₁.heap.objs.size := fun j hj => by obtain ⟨_, e, _⟩ := hT j hj; exact Heap.lt_size e
  obtain ⟨Kb, hKb⟩ : ∃ Kb, s₁.heap.objs.size = Kb + 1 := ⟨s₁.heap.objs.size - 1, by have : 0 < s₁.heap.objs.size := Nat.lt_of_le_of_lt (Nat.zero_le _) hlt; omega⟩
  have tab := (B.tabAt F₁).2
  have leK : ∀ b : Addr, b < s₁.heap.objs.size → b ≤ Kb := fun b hb => by rw [hKb] at hb; exact Nat.le_of_lt_succ hb
  refine iter_pile X I hp hi ?_
  unfold GenPostT
  refine ⟨F₁.keeps fun _ _ e => Heap.get?_push_of_some _ e, G₁, hlim.push _, Kb, s₁.heap.objs.size, _, [s₁.heap.objs.size], items.size, _, _, _, (fun _ => true), F, leK _ hLlt, ?_, rfl,
    (fun A' hA => walks_pile hA s₁.heap.objs.size x C dx n (Nat.ne_of_lt hlt) items Ts (fun j => #[va j, vb j]) hit fun j hj => Nat.ne_of_lt (hTl j hj)), (fun i vals hv => ⟨_, _, hv.2⟩), ⟨⟨_, Heap.get?_push_size _ rfl, rfl, rfl⟩, Heap.get?_push_of_some _ hx, fun k hk => (hT k hk).push _⟩, ?_, ?_, ?_, ?_, ?_, ?_⟩
  · rw [Heap.size_push, hKb]
    exact Nat.lt_succ_of_lt (Nat.lt_succ_self _)
  · intro b hb
    show b < (s₁.heap.push _).objs.size
    rw [Heap.size_push]
    rcases List.mem_cons.mp hb with rfl | hb
    · exact Nat.lt_succ_self _
    · rcases List.mem_cons.mp hb with rfl | hb
      · exact Nat.lt_succ_of_lt hlt
      · obtain ⟨k, hk, rfl⟩ := List.mem_map.mp hb
        exact Nat.lt_succ_of_lt (hTl k (List.mem_range.mp hk))
  · intro hb
    rcases List.mem_cons.mp hb with e | hb
    · exact absurd (e ▸ Heap.lt_size tab) (Nat.lt_irrefl _)
    · rcases List.mem_cons.mp hb with e | hb
      · rw [← e, tab] at hx
        cases hx
      · obtain ⟨k, hk, e⟩ := List.mem_map.mp hb
        obtain ⟨o, ho, hc, _⟩ := hT k (List.mem_range.mp hk)
        rw [e, tab] at ho
        cases ho
        cases hc
  · intro b hb
    rw [List.mem_singleton.mp hb, hKb]
    exact Nat.lt_succ_self _
  · intro c' Cn A' E' i v1 v2 t m₂ _ _ _ hP _ _ _ _ _
    rw [List.forIn_nil]
    exact wpAny_pure ⟨rfl, ⟨t.heap, t.toks, rfl, fun _ _ e => e⟩⟩
  · intro c' Cn A' E' i v1 v2 t m₂ hA hD hU hP _ hF hma hmb hLC hk
    obtain ⟨hi', e⟩ := hP
    have e' : v1 = va i ∧ v2 = vb i := by simpa using congrArg Array.toList e
    obtain ⟨rfl, rfl⟩ := e'
    exact helt c' Cn A' E' i t m₂ hA hD hU hi' hF hma hmb hLC
  · intro c' a s₅ B' F' G' hos hk XG
    refine hQ c' a Kb s₅ B' F' G' hos (fun b o hb e => hk b o hb (Heap.get?_push_of_some _ e)) (leK _ hLlt) (fun b o e => leK _ (Heap.lt_size e)) ?_
    rw [passing_all, List.length_range] at XG
    refine XG.imp fun j y hy => ?_
    obtain ⟨i, hij, hF⟩ := hy
    rw [List.getElem?_range] at hij
    · cases hij; exact hF
    · by_cases hj : j < items.size
      · exact hj
      · rw [List.getElem?_eq_none (by simpa using Nat.le_of_not_lt hj)] at hij; cases hij
end
end
section
open PySem PySem.W PySem.Calls PySem.Spec PyProof.Rows
theorem args_sum2 (a b : Value) : argsOk "sum" ⟨[a, b], []⟩ := by unfold argsOk; kernel_rfl
section
variable {prog : Program} {w : World} {A : Around} {E : Value → Shared → Prop} {s : Shared}
/-- the sum from nought over a generator whose yields are whole numbers -/
theorem sum_gen0 {h₀ : Heap} {L K a : Addr} {m : Str → Option Value} {n : Nat} {F : Nat → Value → Prop} {u : Tok} {Q : Value → Shared → Prop} (Fh : Fr h₀ L s.heap m) (G : AllBare s.gens) (X : Gen prog w A K a n F s) (hLK : L ≤ K) (val : Nat → Int) (hval : ∀ j v, F j v → ∃ t, v = .int (val j) t) (hfit : ∀ j, j < n → InLong (val j) ∧ InLong (preSum val (j + 1)))
    (hQ : ∀ s' t', Fr h₀ L s'.heap m → AllBare s'.gens → s'.os = s.os → (∀ b o, b ≤ K → s.heap.get? b = some o → s'.heap.get? b = some o) → Q (.int (preSum val n) t') s') : wpAny (model prog w) A (call (.builtin "sum") [.ref a, .int 0 u]) Q E s := by
  obtain ⟨fp, wr, g, St, W, hst, _, _, hfp, hwr⟩ := X
  have V := W.in4_1
  have q1 : Looks (model prog w) s.heap (isSubtype (.type "int") (.type "str")) false := Looks.of_pure PySem.sub_int_str
  have q2 : Looks (model prog w) s.heap (isSubtype (.type "int") (.type "bytes")) false := Looks.of_pure PySem.sub_int_bytes
  have q3 : Looks (model prog w) s.heap (isSubtype (.type "int") (.type "bytearray")) false := Looks.of_pure PySem.sub_int_bytearray
  refine call_function_tree PySem.F.kind_sum PySem.F.plain_sum PySem.F.entry_sum (args_sum2 _ _) ?_
  unfold Builtin.«sum»
  obtain ⟨h, gs, d, t, os⟩ := s
  repeat (first | (with_reducible refine V.self 0 _ _ _ hst ?_) | rw [List.forIn_cons] | rw [List.forIn_nil] | lk)
  refine ⟨plainId_quiet PySem.F.plain_sum_loop _, codeAny_sum_loopS V val hval hfit _ (fun q => Nat.lt_irrefl _ (hfp _ q)) n 0 _ t 0 rfl (Nat.zero_le _) (V.frame 0 _ _ _ hst (Nat.le_succ _) fun b _ o => Heap.get?_push_of_some _) (Heap.get?_push_size _ rfl) fun s' t' moved => ?_⟩
  replace moved := moved.drop_new (Nat.le_succ _)
  exact hQ s' t' (Fh.moved moved fun b hb => Nat.lt_of_le_of_lt hLK (hwr b hb)) (G.movedS moved) moved.os fun b o hb => moved.heap b o fun q => Nat.not_lt_of_le hb (hwr b q)
end
end
section
open PySem PySem.W PyProof.Rows

end
section
open PySem PySem.W PySem.Calls PyProof.Rows
section
variable {prog : Program} {w : World} {A₀ A : Around} {s : Shared} {base h₀ : Heap} {outer : List Env} {L : Addr} {m mg mb : Str → Option Value} {env : Env} {news : List (Addr × Obj)} {K : Frag} {p : Program} {loose : List Str} {mean : ExcName → Option Value}
  {R : Result → Shared → Prop} {name qual : Str} {params : Arguments} {body : List Stmt} {scope : Scope} {dV kV doc pm cdv ct oc : Value} {an od : Option Addr} {osl : Array (Option Value)} {f : Addr} {args : Args} {binds : List (Str × Value)}
/-- a def entered; what it leaves behind is shown by hand -/
theorem code_defX (B : Below A₀ base outer h₀) (F : Fr h₀ L s.heap m) (X₀ : K.In h₀) (N : News h₀ L s.heap news) (T : Top p loose mean mg mb h₀) (hA : A.frames = some (env :: outer)) (hf : env.frame = some L) (hke : env.scope.kind = .function)
    (ho : K.lookup f = some ⟨oc, od, .func (fnOf name qual params body scope dV kV doc pm an cdv ct), osl⟩) (hcd : codeIn K cdv qual = true) (hroom : A.depth < recursionLimit)
    (hbind : BindsTo s (fnOf name qual params body scope dV kV doc pm an cdv ct) args binds) (hloc : ∀ y ∈ binds, scope.names.lookup y.1 = some .local)
    (h : ∀ g L' h₁, Fr h₀ L g m → Fr g L' h₁ (fun y => binds.reverse.lookup y) → News g L' h₁ news → Below A base (env :: outer) g → K.In g → Top p loose mean mg mb g → (∀ b o, s.heap.get? b = some o → (∀ q ∈ news, q.1 ≠ b) → g.get? b = some o) → (∀ b o, s.heap.get? b = some o → h₁.get? b = some o) → (∀ b o, s.heap.get? b = some o → b < L') →
      wpAny (model prog w) (A.deeper (envOf qual scope L' f cdv)) (execs body (envOf qual scope L' f cdv))
        (fun fl s' => R (.ok (.ret (match fl with | .ret v => v | _ => .none))) s')
        (fun e s' => wpAny (model prog w) (A.deeper (envOf qual scope L' f cdv)) (leaving (envOf qual scope L' f cdv) e) (fun _ s'' => R (.error e) s'') (fun e' s'' => R (.error e') s'') s')
        { s with heap := h₁, toks := s.toks + binds.length })
    (hcell : ∀ x ∈ scope.names, x.2 ≠ .cell := by decide) (hco : scope.isCoroutine = false := by rfl) (hgen : scope.isGenerator = false := by rfl) (hk : scope.kind = .function := by rfl) : codeAny (model prog w) A (.call (.ref f) args) R s := by
  obtain ⟨FG, BG, st, lv⟩ := groundX (R := R) B F N hA hf hke
  refine codeAny_call_def (fd := fnOf name qual params body scope dV kV doc pm an cdv ct) (body := body) (binds := binds) hroom ((X₀.keeps F.keep) _ _ ho) rfl (T.nolimit.keeps F.keep) (codeRec_of (X₀.keeps F.keep) hcd) rfl hbind hcell hloc (fun h₁ hns hk₁ => ?_) hco hgen hk
  exact h _ s.heap.objs.size h₁ FG ⟨hns, fun b o e => hk₁ b o (of_hideAll _ e), Nat.le_of_eq (hideAll_size _ _)⟩
    (fun p hp => ⟨hk₁ _ _ (N p hp).1, Nat.ne_of_lt (Heap.lt_size (N p hp).1), hideAll_none _ (List.mem_map_of_mem hp)⟩) BG (X₀.keeps st) (T.keeps st)
    (fun b o e hn => hideAll_get _ e fun hm => by obtain ⟨q, hq, e⟩ := List.mem_map.mp hm; exact hn q hq e) hk₁ fun b o e => Heap.lt_size e
end
theorem based_K {K : Frag} {g : Heap} {c P : Addr} {cd : Option Addr} {vs : Array Value} {sl : Array (Option Value)} {file : Str} {tf tg tt : Tok} {flags text : Int} {inF : Bool} (X : K.In g) (tab : g.get? P = some (tabObj #[])) (hc : K.lookup c = some ⟨.type "code", cd, .fields vs, sl⟩)
    (e11 : vs.getD 11 .none = .ref P) (e18 : vs.getD 18 .none = .str file tf) (e7 : vs.getD 7 .none = .int flags tg) (e9 : vs.getD 9 .none = .bool inF) (e10 : vs.getD 10 .none = .int text tt) (e : vs[11]? = some (.ref P)) (hP : P ≠ cStatics) (hcP : c ≠ P) : Based g g c P #[] :=
  Based.start ⟨_, _, _, _, _, _, _, _, _, _, X _ _ hc, rfl, e11, e18, e7, e9, e10, tab, rfl, trivial, hcP⟩ ⟨⟨_, _, X _ _ hc, rfl, rfl, e⟩, tab⟩ hP
section
variable {M : Model} {A : Around} {E : Value → Shared → Prop} {s : Shared} {K : Frag} {h₀ : Heap} {Cn : Addr} {m mg mb : Str → Option Value} {p : Program} {loose : List Str} {x : Str} {pos : Pos} {v : Value} {Q : Value → Shared → Prop} {scope : Scope} {cl : List (Str × Addr)} {code : Value} {env : Env}
theorem gname_B (F : Fr h₀ Cn s.heap m) (X : K.In h₀) (T : TopRead p loose mg mb h₀) (e : nsIn K mainGlobals x = some none) (hv : bootBuiltins x = some v) (hn : x ≠ "__name__") (h : Q v s)
    (hg : env.globals = mainGlobals := by rfl) (hk : scope.kind = .function := by rfl) (hx : (genEnv scope cl Cn code builtinsNs env).kindOf x = some .globalImplicit := by rfl) (hd : (x == ("__debug__" : Str)) = false := by decide) : wpAny M A (eval (.Name x pos) (genEnv scope cl Cn code builtinsNs env)) Q E s :=
  Name_function_global hk hx (loadGlobal_builtin (env := genEnv scope cl Cn code builtinsNs env) (show s.heap.Ns env.globals mg from hg ▸ T.g.keeps F.keep) (mg_none_of X T.g e) (T.b.keeps F.keep) ((T.builtins x hn).trans hv) h) hd
theorem gname_K (F : Fr h₀ Cn s.heap m) (X : K.In h₀) (T : TopRead p loose mg mb h₀) (e : nsIn K mainGlobals x = some (some v)) (h : Q v s)
    (hg : env.globals = mainGlobals := by rfl) (hk : scope.kind = .function := by rfl) (hx : (genEnv scope cl Cn code builtinsNs env).kindOf x = some .globalImplicit := by rfl) (hd : (x == ("__debug__" : Str)) = false := by decide) : wpAny M A (eval (.Name x pos) (genEnv scope cl Cn code builtinsNs env)) Q E s := by
  refine Name_function_global hk hx ?_ hd
  unfold loadGlobal
  refine wpAny_bind (wpAny_nsGet (show s.heap.Ns env.globals mg from hg ▸ T.g.keeps F.keep) ?_)
  rw [mg_of X T.g e]
  exact wpAny_pure h
end
theorem Gen_tok {prog : Program} {w : World} {A : Around} {K a : Addr} {n : Nat} {F : Nat → Value → Prop} {s : Shared} (X : Gen prog w A K a n F s) : Gen prog w A K a n F { s with toks := s.toks + 1 } := by
  obtain ⟨fp, wr, g, St, W, hst, hT, ha, hfp, hwr⟩ := X
  exact ⟨fp, wr, g, St, W, W.frame 0 s s.heap _ hst (Nat.le_succ _) fun _ _ _ e => e, hT, ha, hfp, hwr⟩
theorem preSum_small {val : Nat → Int} {n : Nat} (h : ∀ k, k < n → 0 ≤ val k ∧ val k ≤ 2000) : ∀ k, k ≤ n → 0 ≤ preSum val k ∧ preSum val k ≤ 2000 * k
  | 0, _ => by simp [preSum]
  | k + 1, hk => by
    have a := preSum_small h k (Nat.le_of_succ_le hk)
    have b := h k hk
    rw [preSum]
    push_cast
    omega
theorem in_regrown {K : Frag} {g : Heap} {P : Addr} {ps : Array Value} (X : K.In g) (h : K.lookup P = none) : K.In (PyProof.Rows.regrown g P ps) := fun a o e => by
  have hne : P ≠ a := fun q => by rw [q, e] at h; cases h
  exact (Heap.get?_update_other _ _ hne).trans (X a o e)
theorem len_claim (w : World) (mean : ExcName → Option Value) (mg mb : Str → Option Value) (news : List (Addr × Obj)) (x dx : Addr) (its : Array Value) (n : Nat) (od : Obj) (u : Tok) (Ts : Nat → Addr) (fw pt : Nat → Str) (tf tp : Nat → Tok)
    {A A₀ : Around} {base h₀ : Heap} {L : Addr} {m : Str → Option Value} {s : Shared} {Q E : Value → Shared → Prop} {env : Env} {outer : List Env}
    (hB : Below A₀ base outer h₀) (hF : Fr h₀ L s.heap m) (hK : (hd.heap_39 w.params).In h₀) (hN : News h₀ L s.heap ((77, tabObj #[]) :: news)) (hT : Top hdB.view_39 (looseW hdB.view_39 [Str.ofString "_Accumulator"]) mean mg mb h₀)
    (hA : A.frames = some (env :: outer)) (hf : env.frame = some L) (hke : env.scope.kind = .function) (hh : A.handled = none) (hroom : A.depth < recursionLimit) (hroom2 : A.depth + 1 < recursionLimit)
    (hG : AllBare s.gens) (h77 : ∀ p ∈ news, p.1 ≠ 77) (hx : (x, pileObj 115 dx its n) ∈ news) (hdx : (dx, od) ∈ news) (hod : lookIn (Str.ofString "_initial_size") od = some (some (.int 0 u)))
    (hit : ∀ j, j < its.size → its[j]? = some (.ref (Ts j)) ∧ (Ts j, tup2 (fw j) (tf j) (pt j) (tp j)) ∈ news) (hb : ∀ j, j < its.size → (fw j).length ≤ 1000 ∧ (pt j).length ≤ 1000) (hsz : its.size ≤ 1000)
    (hQ : ∀ v t s' ps', Fr h₀ L s'.heap m → News h₀ L s'.heap ((77, tabObj ps') :: news) → AllBare s'.gens → s'.os = s.os → v = .int (preSum (fun j => ((fw j).length : Int) + ((pt j).length : Int)) its.size) t → Q v s') :
    wpAny (model Challenge.rw_xj0014_01.row.prog w) A (call (.ref 82) [.ref x]) Q E s := by
  revert hK; k_fill; intro hK
  have hN1 : News h₀ L s.heap news := fun p hp => hN p (.tail _ hp)
  refine wpAny_call ?_
  ((k_dflt (refine' code_defX ?k1 ?k2 ?k3 ?k4 ?k5 ?kA ?kF ?kK ?k6 ?k7 ?k8 ?k9 ?kB ?_ ?c1 ?c2 ?c3 ?c4; (case kA => assumption); (case kF => assumption); (case kK => assumption); (case k1 => assumption); (case k2 => assumption); (case k3 => assumption); (case k4 => assumption); (case k5 => assumption); (case k6 => k_is); (case k7 => k_is); (case k8 => assumption); (case k9 => exact BindsTo.of_eq rfl); (case kB => exact locs rfl); (case c1 => decide); (case c2 => exact rfl); (case c3 => exact rfl); (case c4 => exact rfl); intro _ _ _ _ _ _ _ _ _ _ _ _; (try dsimp only))))
  rename_i g L1 h1 FG F0 N0 B1 X1 T1 hg1 hk1 hlt1
  replace F0 := Fr.as F0 (m' := fun y => if y = Str.ofString "self" then some (.ref x) else none) (fun y => by show List.lookup y [(Str.ofString "self", Value.ref x)] = _; simp only [lookup_if]; rfl)
  have tab0 : g.get? 77 = some (tabObj #[]) := hg1 _ _ (hN _ (.head _)).1 h77
  obtain ⟨bm, ob, BM⟩ := bmod_of_top T1
  have BB : Based g g 81 77 #[] := by
    refine' based_K X1 tab0 ?k ?a ?b ?c ?d ?e ?f (by decide) (by decide)
    case k => k_dflt k_is
    case a => exact rfl
    case b => exact rfl
    case c => exact rfl
    case d => exact rfl
    case e => exact rfl
    case f => exact rfl
  (repeat' ((fail_if_success (with_reducible show wpAny _ _ (eval (PySem.Expr.GeneratorExp _ _ _ _) _) _ _ _)); (fail_if_success (with_reducible show wpAny _ _ (getAttr (Value.ref _) _ _) _ _ _)); (fail_if_success (with_reducible show wpAny _ _ (call _ _) _ _ _)); (((first | (k_unfold; (try dsimp only)) | (k_end; wrow_close) | walk1 | (dsimp only; walk1) | (leave1; walk_say "STEP leave1"; try dsimp only) | fail "no step")))))
  have hh1 : ∀ e, (A.deeper e).handled = none := fun e => hh
  have hr1 : ∀ e, (A.deeper e).depth < recursionLimit := fun e => hroom2
  refine GeneratorExp_rowsTP (L := L1) (m := fun y => if y = Str.ofString "self" then some (.ref x) else none) BB BM rfl rfl (hh1 _) rfl rfl (by decide) rfl rfl rfl (by decide +kernel) rfl (hr1 _) ?_ (fun _ => rfl)
  ((first | (k_unfold; (try dsimp only)) | (k_end; wrow_close) | walk1 | (dsimp only; walk1) | (leave1; walk_say "STEP leave1"; try dsimp only) | fail "no step"))
  have I0 : InstAt h1 x (pileObj 115 dx its n) 115 (some od) := ⟨(N0 _ hx).1, rfl, rfl, (N0 _ hdx).1⟩
  refine src_pile (F := fun j v => ∃ t, v = .int ((fw j).length + (pt j).length) t) BB (X1.keeps F0.keep) I0 (pile_over w) (pile_iter w) (fun j hj => (hit j hj).1) (fun j hj => ⟨_, (N0 _ (hit j hj).2).1, rfl, _, rfl⟩) F0 hG (T1.nolimit.keeps F0.keep) ?_ ?_
  · intro c' Cn A' E' i t m₂ hA' hD' hU' hi' F2 ha hb' hL2
    have TR := LGe.top_regrown F2 (topRead_of T1) BB
    have KR := in_regrown (ps := #[] ++ #[rawInt (72 : Nat), rawInt (19 : Nat), Value.ref c']) X1 (show (hd.heap_39 w.params).lookup 77 = none by kernel_rfl)
    (repeat' ((fail_if_success (with_reducible show wpAny _ _ (eval (PySem.Expr.Name _ _) (genEnv _ _ _ _ _ _)) _ _ _)); (((first | (k_unfold; (try dsimp only)) | (k_end; wrow_close) | walk1 | (dsimp only; walk1) | (leave1; walk_say "STEP leave1"; try dsimp only) | fail "no step")))))
    refine gname_B F2 KR TR (by kernel_rfl) (by boot_by_name) (by decide) ?_
    (repeat' ((fail_if_success (with_reducible show wpAny _ _ (eval (PySem.Expr.Name _ _) (genEnv _ _ _ _ _ _)) _ _ _)); (((first | (k_unfold; (try dsimp only)) | (k_end; wrow_close) | walk1 | (dsimp only; walk1) | (leave1; walk_say "STEP leave1"; try dsimp only) | fail "no step")))))
    refine ldVarG F2 ha ?_
    have l1 : (fw i).length ≤ 1000 := (hb i hi').1
    have l2 : (pt i).length ≤ 1000 := (hb i hi').2
    (repeat' ((fail_if_success (with_reducible show wpAny _ _ (eval (PySem.Expr.Name _ _) (genEnv _ _ _ _ _ _)) _ _ _)); (((first | (k_unfold; (try dsimp only)) | (k_end; wrow_close) | walk1 | (dsimp only; walk1) | (leave1; walk_say "STEP leave1"; try dsimp only) | fail "no step")))))
    refine gname_B F2 KR TR (by kernel_rfl) (by boot_by_name) (by decide) ?_
    (repeat' ((fail_if_success (with_reducible show wpAny _ _ (eval (PySem.Expr.Name _ _) (genEnv _ _ _ _ _ _)) _ _ _)); (((first | (k_unfold; (try dsimp only)) | (k_end; wrow_close) | walk1 | (dsimp only; walk1) | (leave1; walk_say "STEP leave1"; try dsimp only) | fail "no step")))))
    refine ldVarG F2 hb' ?_
    (repeat' ((fail_if_success (with_reducible show wpAny _ _ (eval (PySem.Expr.Name _ _) (genEnv _ _ _ _ _ _)) _ _ _)); (((first | (k_unfold; (try dsimp only)) | (k_end; wrow_close) | walk1 | (dsimp only; walk1) | (leave1; walk_say "STEP leave1"; try dsimp only) | fail "no step")))))
    exact ⟨_, _, rfl, fun _ _ e => e⟩
  · intro c' a Kb s5 B5 F5 G5 os5 keep5 hLK hltK XG
    have KR := in_regrown (ps := #[] ++ #[rawInt (72 : Nat), rawInt (19 : Nat), Value.ref c']) X1 (show (hd.heap_39 w.params).lookup 77 = none by kernel_rfl)
    have I5 : InstAt s5.heap x (pileObj 115 dx its n) 115 (some od) := ⟨keep5 _ _ (h77 _ hx) (N0 _ hx).1, rfl, rfl, keep5 _ _ (h77 _ hdx) (N0 _ hdx).1⟩
    (repeat' ((fail_if_success (with_reducible show wpAny _ _ (eval (PySem.Expr.GeneratorExp _ _ _ _) _) _ _ _)); (fail_if_success (with_reducible show wpAny _ _ (getAttr (Value.ref _) _ _) _ _ _)); (fail_if_success (with_reducible show wpAny _ _ (call _ _) _ _ _)); (((first | (k_unfold; (try dsimp only)) | (k_end; wrow_close) | walk1 | (dsimp only; walk1) | (leave1; walk_say "STEP leave1"; try dsimp only) | fail "no step")))))
    refine getL_value (KR.keeps F5.keep) I5 (pile_over w) (pile_ga w) (pile_gb w) (findObj_own (attr := none) (by kernel_rfl) (by kernel_rfl) (by kernel_rfl) hod) rfl ?_
    (repeat' ((fail_if_success (with_reducible show wpAny _ _ (eval (PySem.Expr.GeneratorExp _ _ _ _) _) _ _ _)); (fail_if_success (with_reducible show wpAny _ _ (getAttr (Value.ref _) _ _) _ _ _)); (fail_if_success (with_reducible show wpAny _ _ (call _ _) _ _ _)); (((first | (k_unfold; (try dsimp only)) | (k_end; wrow_close) | walk1 | (dsimp only; walk1) | (leave1; walk_say "STEP leave1"; try dsimp only) | fail "no step")))))
    refine sum_gen0 F5 G5 (Gen_tok XG) hLK (fun j => ((fw j).length : Int) + ((pt j).length : Int)) (fun j v hv => hv) (fun j hj => ?_) ?_
    · have hv : ∀ k, k < its.size → 0 ≤ ((fw k).length : Int) + ((pt k).length : Int) ∧ ((fw k).length : Int) + ((pt k).length : Int) ≤ 2000 := fun k hk => by have := hb k hk; omega
      have h1 := hv j hj
      have h2 := preSum_small (n := its.size) hv (j + 1) hj
      unfold InLong
      omega
    · intro s6 t6 F6 G6 os6 keep6
      have hup : ∀ b o, b ≠ 77 → g.get? b = some o → s6.heap.get? b = some o := fun b o hb e => F6.keep b o ((Heap.get?_update_other _ _ (Ne.symm hb)).trans e)
      have hL77 : L ≠ 77 := Ne.symm (hN _ (.head _)).2.1
      refine hQ _ t6 s6 (#[] ++ #[rawInt (72 : Nat), rawInt (19 : Nat), Value.ref c']) ⟨FG.ns.at' fun o e => hup L o hL77 e, fun b o e => hup b o (fun q => by rw [q, (hN _ (.head _)).2.2] at e; cases e) (FG.keep b o e), FG.above⟩ (fun p hp => ?_) G6 (os6.trans os5) rfl
      rcases List.mem_cons.mp hp with rfl | hp
      · exact ⟨F6.keep 77 _ B5.tab.2, (hN _ (.head _)).2⟩
      · exact ⟨keep6 _ _ (hltK _ _ (N0 p hp).1) (keep5 _ _ (h77 p hp) (N0 p hp).1), (hN1 p hp).2⟩
end
section
open PySem PySem.W PySem.Calls PyProof.Rows
theorem str_claim (w : World) (mean : ExcName → Option Value) (mg mb : Str → Option Value) (news : List (Addr × Obj)) (x dx : Addr) (its : Array Value) (n : Nat) (od : Obj) (Ts : Nat → Addr) (fw pt : Nat → Str) (tf tp : Nat → Tok)
    {A A₀ : Around} {base h₀ : Heap} {L : Addr} {m : Str → Option Value} {s : Shared} {Q E : Value → Shared → Prop} {env : Env} {outer : List Env}
    (hB : Below A₀ base outer h₀) (hF : Fr h₀ L s.heap m) (hK : (hd.heap_39 w.params).In h₀) (hN : News h₀ L s.heap ((84, tabObj #[]) :: news)) (hT : Top hdB.view_39 (looseW hdB.view_39 [Str.ofString "_Accumulator"]) mean mg mb h₀)
    (hA : A.frames = some (env :: outer)) (hf : env.frame = some L) (hke : env.scope.kind = .function) (hh : A.handled = none) (hroom : A.depth < recursionLimit) (hroom2 : A.depth + 1 < recursionLimit)
    (hG : AllBare s.gens) (h84 : ∀ p ∈ news, p.1 ≠ 84) (hx : (x, pileObj 115 dx its n) ∈ news) (hdx : (dx, od) ∈ news) 
    (hit : ∀ j, j < its.size → its[j]? = some (.ref (Ts j)) ∧ (Ts j, tup2 (fw j) (tf j) (pt j) (tp j)) ∈ news) (hb : ∀ j, j < its.size → (fw j).length ≤ 1000 ∧ (pt j).length ≤ 1000) (hsz : its.size ≤ 1000) (hjl : (((List.range its.size).map fun j => Txt.join (Str.ofString "") [fw j, pt j]).map (·.length)).sum ≤ 100000)
    (hQ : ∀ v t s' ps', Fr h₀ L s'.heap m → News h₀ L s'.heap ((84, tabObj ps') :: news) → AllBare s'.gens → s'.os = s.os → v = .str (Txt.join (Str.ofString "") ((List.range its.size).map fun j => Txt.join (Str.ofString "") [fw j, pt j])) t → Q v s') :
    wpAny (model Challenge.rw_xj0014_01.row.prog w) A (call (.ref 89) [.ref x]) Q E s := by
  revert hK; k_fill; intro hK
  have hN1 : News h₀ L s.heap news := fun p hp => hN p (.tail _ hp)
  refine wpAny_call ?_
  ((k_dflt (refine' code_defX ?k1 ?k2 ?k3 ?k4 ?k5 ?kA ?kF ?kK ?k6 ?k7 ?k8 ?k9 ?kB ?_ ?c1 ?c2 ?c3 ?c4; (case kA => assumption); (case kF => assumption); (case kK => assumption); (case k1 => assumption); (case k2 => assumption); (case k3 => assumption); (case k4 => assumption); (case k5 => assumption); (case k6 => k_is); (case k7 => k_is); (case k8 => assumption); (case k9 => exact BindsTo.of_eq rfl); (case kB => exact locs rfl); (case c1 => decide); (case c2 => exact rfl); (case c3 => exact rfl); (case c4 => exact rfl); intro _ _ _ _ _ _ _ _ _ _ _ _; (try dsimp only))))
  rename_i g L1 h1 FG F0 N0 B1 X1 T1 hg1 hk1 hlt1
  replace F0 := Fr.as F0 (m' := fun y => if y = Str.ofString "self" then some (.ref x) else none) (fun y => by show List.lookup y [(Str.ofString "self", Value.ref x)] = _; simp only [lookup_if]; rfl)
  have tab0 : g.get? 84 = some (tabObj #[]) := hg1 _ _ (hN _ (.head _)).1 h84
  obtain ⟨bm, ob, BM⟩ := bmod_of_top T1
  have BB : Based g g 88 84 #[] := by
    refine' based_K X1 tab0 ?k ?a ?b ?c ?d ?e ?f (by decide) (by decide)
    case k => k_dflt k_is
    case a => exact rfl
    case b => exact rfl
    case c => exact rfl
    case d => exact rfl
    case e => exact rfl
    case f => exact rfl
  (repeat' ((fail_if_success (with_reducible show wpAny _ _ (eval (PySem.Expr.GeneratorExp _ _ _ _) _) _ _ _)); (fail_if_success (with_reducible show wpAny _ _ (getAttr (Value.ref _) _ _) _ _ _)); (fail_if_success (with_reducible show wpAny _ _ (call _ _) _ _ _)); (((first | (k_unfold; (try dsimp only)) | (k_end; wrow_close) | walk1 | (dsimp only; walk1) | (leave1; walk_say "STEP leave1"; try dsimp only) | fail "no step")))))
  have hh1 : ∀ e, (A.deeper e).handled = none := fun e => hh
  have hr1 : ∀ e, (A.deeper e).depth < recursionLimit := fun e => hroom2
  refine GeneratorExp_rowsTP (L := L1) (m := fun y => if y = Str.ofString "self" then some (.ref x) else none) BB BM rfl rfl (hh1 _) rfl rfl (by decide) rfl rfl rfl (by decide +kernel) rfl (hr1 _) ?_ (fun _ => rfl)
  ((first | (k_unfold; (try dsimp only)) | (k_end; wrow_close) | walk1 | (dsimp only; walk1) | (leave1; walk_say "STEP leave1"; try dsimp only) | fail "no step"))
  have I0 : InstAt h1 x (pileObj 115 dx its n) 115 (some od) := ⟨(N0 _ hx).1, rfl, rfl, (N0 _ hdx).1⟩
  refine src_pile (F := fun j v => ∃ t, v = .str (Txt.join (Str.ofString "") [fw j, pt j]) t) BB (X1.keeps F0.keep) I0 (pile_over w) (pile_iter w) (fun j hj => (hit j hj).1) (fun j hj => ⟨_, (N0 _ (hit j hj).2).1, rfl, _, rfl⟩) F0 hG (T1.nolimit.keeps F0.keep) ?_ ?_
  · intro c' Cn A' E' i t m₂ hA' hD' hU' hi' F2 ha hb' hL2
    have TR := LGe.top_regrown F2 (topRead_of T1) BB
    have KR := in_regrown (ps := #[] ++ #[rawInt (75 : Nat), rawInt (32 : Nat), Value.ref c']) X1 (show (hd.heap_39 w.params).lookup 84 = none by kernel_rfl)
    (repeat' ((fail_if_success (with_reducible show wpAny _ _ (eval (PySem.Expr.Name _ _) (genEnv _ _ _ _ _ _)) _ _ _)); (((first | (k_unfold; (try dsimp only)) | (k_end; wrow_close) | walk1 | (dsimp only; walk1) | (leave1; walk_say "STEP leave1"; try dsimp only) | fail "no step")))))
    refine gname_K F2 KR TR (v := .str (Str.ofString "") 232) (by kernel_rfl) ?_
    (repeat' ((fail_if_success (with_reducible show wpAny _ _ (eval (PySem.Expr.Name _ _) (genEnv _ _ _ _ _ _)) _ _ _)); (((first | (k_unfold; (try dsimp only)) | (k_end; wrow_close) | walk1 | (dsimp only; walk1) | (leave1; walk_say "STEP leave1"; try dsimp only) | fail "no step")))))
    refine ldVarG F2 ha ?_
    (repeat' ((fail_if_success (with_reducible show wpAny _ _ (eval (PySem.Expr.Name _ _) (genEnv _ _ _ _ _ _)) _ _ _)); (((first | (k_unfold; (try dsimp only)) | (k_end; wrow_close) | walk1 | (dsimp only; walk1) | (leave1; walk_say "STEP leave1"; try dsimp only) | fail "no step")))))
    refine ldVarG F2 hb' ?_
    (repeat' ((fail_if_success (with_reducible show wpAny _ _ (eval (PySem.Expr.Name _ _) (genEnv _ _ _ _ _ _)) _ _ _)); (((first | (k_unfold; (try dsimp only)) | (k_end; wrow_close) | walk1 | (dsimp only; walk1) | (leave1; walk_say "STEP leave1"; try dsimp only) | fail "no step")))))
    refine wpAny_newTuple ?_
    (repeat' ((fail_if_success (with_reducible show wpAny _ _ (call _ _) _ _ _)); (((first | (k_unfold; (try dsimp only)) | (k_end; wrow_close) | walk1 | (dsimp only; walk1) | (leave1; walk_say "STEP leave1"; try dsimp only) | fail "no step")))))
    refine join_tupleC (ys := [fw i, pt i]) ⟨_, Heap.get?_push_size _ rfl, rfl, _, rfl⟩ (.cons _ _ (.cons _ _ .nil)) (by decide) (by have := hb i hi'; simp; omega) ?_
    exact fun t' k => ⟨⟨_, rfl⟩, _, _, rfl, fun _ _ e => Heap.get?_push_of_some _ e⟩
  · intro c' a Kb s5 B5 F5 G5 os5 keep5 hLK hltK XG
    (repeat' ((fail_if_success (with_reducible show wpAny _ _ (eval (PySem.Expr.GeneratorExp _ _ _ _) _) _ _ _)); (fail_if_success (with_reducible show wpAny _ _ (getAttr (Value.ref _) _ _) _ _ _)); (fail_if_success (with_reducible show wpAny _ _ (call _ _) _ _ _)); (((first | (k_unfold; (try dsimp only)) | (k_end; wrow_close) | walk1 | (dsimp only; walk1) | (leave1; walk_say "STEP leave1"; try dsimp only) | fail "no step")))))
    refine join_rowsK F5 G5 XG hLK (fun j => Txt.join (Str.ofString "") [fw j, pt j]) (fun j v hv => hv) (joinOk_of ?_) ?_ (Nat.le_trans hsz (by decide))
    · have e : (Str.ofString "").length = 0 := rfl
      rw [e]
      omega
    · intro s6 t6 F6 G6 os6 keep6
      have hup : ∀ b o, b ≠ 84 → g.get? b = some o → s6.heap.get? b = some o := fun b o hb e => F6.keep b o ((Heap.get?_update_other _ _ (Ne.symm hb)).trans e)
      have hL84 : L ≠ 84 := Ne.symm (hN _ (.head _)).2.1
      refine hQ _ t6 s6 (#[] ++ #[rawInt (75 : Nat), rawInt (32 : Nat), Value.ref c']) ⟨FG.ns.at' fun o e => hup L o hL84 e, fun b o e => hup b o (fun q => by rw [q, (hN _ (.head _)).2.2] at e; cases e) (FG.keep b o e), FG.above⟩ (fun p hp => ?_) G6 (os6.trans os5) rfl
      rcases List.mem_cons.mp hp with rfl | hp
      · exact ⟨F6.keep 84 _ B5.tab.2, (hN _ (.head _)).2⟩
      · exact ⟨keep6 _ _ (hltK _ _ (N0 p hp).1) (keep5 _ _ (h84 p hp) (N0 p hp).1), (hN1 p hp).2⟩
end
section
open PySem PySem.W PySem.Calls PyProof.Rows
noncomputable abbrev KK (w : World) : Frag := hd.heap_39 w.params
theorem kk_in {w : World} {h : Heap} (X : (K2 w.params).In h) : (KK w).In h := fun a o e => X a o (by
  have n1 : (KK w).lookup 77 = none := by kernel_rfl
  have n2 : (KK w).lookup 84 = none := by kernel_rfl
  show ((77, tabObj #[]) :: (84, tabObj #[]) :: KK w).lookup a = some o
  rw [List.lookup_cons, List.lookup_cons]
  split
  · rename_i q; rw [beq_iff_eq.mp q, n1] at e; cases e
  · split
    · rename_i q; rw [beq_iff_eq.mp q, n2] at e; cases e
    · exact e)
theorem t77 {w : World} {h : Heap} (X : (K2 w.params).In h) : h.get? 77 = some (tabObj #[]) := X 77 _ rfl
theorem t84 {w : World} {h : Heap} (X : (K2 w.params).In h) : h.get? 84 = some (tabObj #[]) := X 84 _ rfl
abbrev hid (h : Heap) : Heap := hideAll h [77, 84]
theorem hid_get {h : Heap} {b : Addr} {o : Obj} (e : h.get? b = some o) (h1 : b ≠ 77) (h2 : b ≠ 84) : (hid h).get? b = some o :=
  hideAll_get _ e (fun q => by
    rcases List.mem_cons.mp q with q | q
    · exact h1 q
    · exact h2 (List.mem_singleton.mp q))
theorem hid_dat {w : World} {h : Heap} (X : (K2 w.params).In h) {b : Addr} {o : Obj} (e : h.get? b = some o) (hd : o.data ≠ .fields #[]) : (hid h).get? b = some o := by
  refine hid_get e (fun q => ?_) (fun q => ?_)
  · rw [q, t77 X] at e; cases e; exact hd rfl
  · rw [q, t84 X] at e; cases e; exact hd rfl
theorem hid_ns {w : World} {h : Heap} (X : (K2 w.params).In h) {a : Addr} {m : Str → Option Value} (x : h.Ns a m) : (hid h).Ns a m := by
  obtain ⟨o, es, ep, e, d, r⟩ := x
  exact ⟨o, es, ep, hid_dat X e (by rw [d]; exact fun q => by cases q), d, r⟩
theorem hid_kk {w : World} {h : Heap} (X : (K2 w.params).In h) : (KK w).In (hid h) := fun a o e => by
  refine hid_get (kk_in X a o e) (fun q => ?_) (fun q => ?_)
  · have n1 : (KK w).lookup 77 = none := by kernel_rfl
    rw [q, n1] at e; cases e
  · have n2 : (KK w).lookup 84 = none := by kernel_rfl
    rw [q, n2] at e; cases e
/-- the tables of the nine defs are others -/
noncomputable def tabsOk (K : Frag) (p : Program) : Bool := (recsOf p).all fun d => (tabIn K d.name).any fun q => q.2 != 77 && q.2 != 84
theorem tabs_ok (w : World) : tabsOk (KK w) hdB.view_39 = true := by kernel_rfl
theorem tab_ne {w : World} {loose : List Str} {mean : ExcName → Option Value} {mg mb : Str → Option Value} {h : Heap} (X : (K2 w.params).In h) (T : Top hdB.view_39 loose mean mg mb h) {d : DefRec} (hd' : d ∈ recsOf hdB.view_39)
    {a : Addr} {o : Obj} {fd : FuncData} {c P : Addr} (h1 : mg d.name = some (.ref a)) (h2 : h.get? a = some o) (h3 : o.data = .func fd) (h4 : fd.code = .ref c) (h6 : h.TableAt c P #[]) : P ≠ 77 ∧ P ≠ 84 := by
  obtain ⟨⟨c', P'⟩, e, ok⟩ := any_some (List.all_eq_true.mp (tabs_ok w) d hd')
  have hcode := law_code (kk_in X) T.g e h1 h2 h3
  rw [h4] at hcode
  cases hcode
  obtain ⟨d', hf⟩ := Option.isSome_iff_exists.mp (List.find?_isSome (p := fun e : DefRec => e.name == d.name) |>.mpr ⟨d, hd', beq_self_eq_true d.name⟩)
  obtain ⟨o₁, vs, -, -, -, -, -, -, -, a1, -, a2, a3, -⟩ := (tab_of T (kk_in X) hf e).1
  obtain ⟨⟨o₂, vs₂, g1, -, g3, g4⟩, -⟩ := h6
  rw [a1] at g1
  cases g1
  rw [a2] at g3
  cases g3
  rw [a3] at g4
  cases g4
  simpa using ok
theorem hid_top {w : World} {loose : List Str} {mean : ExcName → Option Value} {mg mb : Str → Option Value} {h : Heap} (X : (K2 w.params).In h) (T : Top hdB.view_39 loose mean mg mb h) : Top hdB.view_39 loose mean mg mb (hid h) where
  g := hid_ns X T.g
  b := hid_ns X T.b
  nolimit := let ⟨mc, h1, h2⟩ := T.nolimit; ⟨mc, hid_ns X h1, h2⟩
  nodigits := let ⟨mc, h1, h2⟩ := T.nodigits; ⟨mc, hid_ns X h1, h2⟩
  fn := fun d hd => by
    obtain ⟨a, o, pm, code, doc, h1, h2, h3, ⟨c, oc, vs, t, e1, e2, e3, e4⟩⟩ := T.fn d hd
    exact ⟨a, o, pm, code, doc, h1, hid_dat X h2 (by rw [h3]; exact fun q => by cases q), h3, ⟨c, oc, vs, t, e1, hid_dat X e2 (by rw [e3]; intro q; cases q; cases e4), e3, e4⟩⟩
  own := fun o ho => by
    have e : ownsOf hdB.view_39 = [] := by kernel_rfl
    rw [e] at ho; cases ho
  const := T.const
  free := T.free
  builtins := T.builtins
  tab := fun d hd => by
    obtain ⟨a, o, fd, c, P, h1, h2, h3, h4, h5, h6⟩ := T.tab d hd
    obtain ⟨p1, p2⟩ := tab_ne X T hd h1 h2 h3 h4 h6
    obtain ⟨oc, vs, file, tf, flags, tg, inF, text, tt, op, r0, r1, r2, r3, r4, r5, r6, r7, r8, r9, r10⟩ := h5
    obtain ⟨⟨oc', vs', g1, g2, g3, g4⟩, g5⟩ := h6
    have hc : (hid h).get? c = some oc := hid_dat X r0 (by rw [r1]; intro q; cases q; cases r2)
    have hc' : oc' = oc := by rw [r0] at g1; exact (Option.some.inj g1).symm
    exact ⟨a, o, fd, c, P, h1, hid_dat X h2 (by rw [h3]; exact fun q => by cases q), h3, h4, ⟨oc, vs, file, tf, flags, tg, inF, text, tt, op, hc, r1, r2, r3, r4, r5, r6, hid_get r7 p1 p2, r8, r9, r10⟩,
      ⟨⟨oc', vs', by rw [hc']; exact hc, g2, g3, g4⟩, hid_get g5 p1 p2⟩⟩
  bmain := by
    obtain ⟨bm, ob, h1, h2, h3, h4, h5, h6⟩ := T.bmain
    exact ⟨bm, ob, h1, h2, hid_dat X h3 (by rw [h6]; exact fun q => by cases q), h4, h5, h6⟩
  seer := fun hi => by
    obtain ⟨⟨a1, a2, a3, a4⟩, ⟨b1, b2, b3⟩, ⟨c1, c2, c3⟩, ⟨mg', bm, ob, d1, d2, d3, d4, d5⟩⟩ := T.seer hi
    obtain ⟨bm', ob', h1, h2, h3, h4, h5, h6⟩ := T.bmain
    refine ⟨⟨a1, hid_ns X a2, a3, a4⟩, ⟨b1, hid_ns X b2, b3⟩, ⟨c1, hid_ns X c2, c3⟩, ⟨mg', bm, ob, hid_ns X d1, d2, ?_, d4, d5⟩⟩
    refine hid_get d3 (fun q => ?_) (fun q => ?_)
    · rw [q, t77 X] at d3; cases d3; cases d4
    · rw [q, t84 X] at d3; cases d3; cases d4
theorem hid_start {w : World} {h h' : Heap} {L : Addr} {m : Str → Option Value} {news : List (Addr × Obj)} (X : (K2 w.params).In h) (F : Fr h L h' m) (N : News h L h' news) :
    Fr (hid h) L h' m ∧ News (hid h) L h' ((77, tabObj #[]) :: (84, tabObj #[]) :: news) := by
  have hs : (hid h).objs.size = h.objs.size := hideAll_size _ _
  have ne : ∀ b o, h.get? b = some o → b ≠ L := fun b o e q => absurd (Heap.lt_size e) (by rw [q]; exact Nat.not_lt.mpr F.above)
  refine ⟨⟨F.ns, fun b o e => F.keep b o (of_hideAll _ e), by rw [hs]; exact F.above⟩, fun p hp => ?_⟩
  rcases List.mem_cons.mp hp with rfl | hp
  · exact ⟨F.keep _ _ (t77 X), ne _ _ (t77 X), hideAll_none _ (.head _)⟩
  · rcases List.mem_cons.mp hp with rfl | hp
    · exact ⟨F.keep _ _ (t84 X), ne _ _ (t84 X), hideAll_none _ (.tail _ (.head _))⟩
    · refine ⟨(N p hp).1, (N p hp).2.1, ?_⟩
      cases e : (hid h).get? p.1 with
      | none => rfl
      | some o => have := of_hideAll _ e; rw [(N p hp).2.2] at this; cases this
noncomputable def codeTabIn (K : Frag) (c P : Addr) : Bool := match K.lookup c with
  | some ⟨.type "code", _, .fields vs, _⟩ => (vs[11]? : Option Value) == some (Value.ref P)
  | _ => false
theorem codeTab_of {K : Frag} {h : Heap} (X : K.In h) {c P : Addr} (e : codeTabIn K c P = true) : isCodeTable h P := by
  unfold codeTabIn at e
  split at e
  · rename_i d vs sl ho
    exact ⟨c, _, vs, X _ _ ho, rfl, rfl, beq_iff_eq.mp e⟩
  · cases e
theorem hid_old {w : World} {h h' : Heap} {L : Addr} {m : Str → Option Value} {ps qs : Array Value} {news : List (Addr × Obj)} (X : (K2 w.params).In h) (F : Fr (hid h) L h' m) (N : News (hid h) L h' news)
    (h1 : (77, tabObj ps) ∈ news) (h2 : (84, tabObj qs) ∈ news) : OldK h h' := by
  have c1 : isCodeTable h 77 := codeTab_of (kk_in X) (c := 81) (by kernel_rfl)
  have c2 : isCodeTable h 84 := codeTab_of (kk_in X) (c := 88) (by kernel_rfl)
  have g1 := (N _ h1).1
  have g2 := (N _ h2).1
  refine ⟨fun b o e => ?_, fun b o e => ?_⟩
  · by_cases q1 : b = 77
    · subst q1
      rw [t77 X] at e
      cases e
      exact .inr (.inl ⟨c1, rfl, #[], ps, rfl, by rw [g1]; simp⟩)
    · by_cases q2 : b = 84
      · subst q2
        rw [t84 X] at e
        cases e
        exact .inr (.inl ⟨c2, rfl, #[], qs, rfl, by rw [g2]; simp⟩)
      · exact .inl (F.keep b o (hid_get e q1 q2))
  · by_cases q1 : b = 77
    · subst q1; exact ⟨_, g1⟩
    · by_cases q2 : b = 84
      · subst q2; exact ⟨_, g2⟩
      · exact ⟨o, F.keep b o (hid_get e q1 q2)⟩
end
section
open PySem PySem.W PyProof.Rows
theorem T_strike (a : List Nat) : Txt.replace (T a) (Str.ofString " ") (Str.ofString "") = T (a.filter (· != 32)) := by
  rw [lit_sp, lit_nil]
  apply Str.ext'
  apply Array.ext'
  show (Txt.replace (T a) ⟨#[32]⟩ ⟨#[]⟩).cps.toList = _
  rw [replace_strikes, T_cps, T_cps]
abbrev tup4 (a : Str) (ta : Tok) (b : Str) (tb : Tok) (c : Int) (tc : Tok) (d : Int) (td : Tok) : Obj := { cls := .type "tuple", data := .seq #[.str a ta, .str b tb, .int c tc, .int d td] }
inductive Asked (a : List Nat) (due wi le : Int) (news : List (Addr × Obj)) (v : Value) (ns : List (Addr × Obj)) : Prop
  | mk (ls : List Nat) (D a1 a2 a3 a4 : Addr) (u1 u2 u3 u4 u5 u6 u7 u8 u9 v1 v2 v3 v4 v5 v6 v7 : Tok) (hls : ls = a.filter (· != 32)) (hv : v = .ref D) (hns : ns = (D, W.listOf #[.ref a1, .ref a2, .ref a3, .ref a4] 0) ::
      (a4, tup4 (T ls) u1 (T a) u2 (2 * wi) u3 (2 * wi) u4) ::
      (a3, tup4 (T a) u5 (T ls) u6 (2 * wi - le) u7 (2 * wi) u8) ::
      (a2, tup4 (T (ls.drop 1)) u9 (T (ls.take (ls.length - 1))) v1 0 v2 (if due < 1 then due else 1) v3) ::
      (a1, tup4 (T (ls.drop 1)) v4 (T (ls.take (ls.length - 1))) v5 ((if due < 4 then due else 4) - le) v6 (if due < 4 then due else 4) v7) :: news)
      (q4 : a4 < D) (q3 : a3 < D) (q2 : a2 < D) (q1 : a1 < D) (p1 : ∀ p ∈ news, p.1 < a1) (p2 : ∀ p ∈ news, p.1 < a2) (p3 : ∀ p ∈ news, p.1 < a3) (p4 : ∀ p ∈ news, p.1 < a4) : Asked a due wi le news v ns
theorem askings_claim (w : World) (mean : ExcName → Option Value) (mg mb : Str → Option Value) (news : List (Addr × Obj)) (a : List Nat) (ta : Tok) (due wi le : Int) (t1 t2 t3 : Tok) :
    ClG 1 w mean mg mb 152 news (a.length ≤ 20 ∧ (∀ c ∈ a, OkC c) ∧ 0 ≤ due ∧ due ≤ 100 ∧ 0 ≤ wi ∧ wi ≤ 100 ∧ 0 ≤ le ∧ le ≤ 1 ∧ 1 ≤ (a.filter (· != 32)).length) [.str (T a) ta, .int due t1, .int wi t2, .int le t3] (fun v ns => Asked a due wi le news v ns) := by
  unfold ClG
  k_fill
  intro dp un gd cn cs a' cccd cl outer A₀ base h₀ L m s Q E hB hF hK hN hT hk hpre hd hu hret
  obtain ⟨hla, hoa, hd1, hd2, hw1, hw2, hl1, hl2, hls⟩ := hpre
  have hTa : (T a).length = a.length := T_len a
  refine wpAny_call ?_
  ((k_dflt (refine' code_def ?k1 ?k2 ?k3 ?k4 ?k5 ?kA ?kF ?kK ?k6 ?k7 ?k8 ?k9 ?kB ?_ ?c2 ?c3 ?c4 ?c5; (case kA => exact rfl); (case kF => exact rfl); (case kK => assumption); (case k1 => k_asm); (case k2 => k_asm); (case k3 => k_asm); (case k4 => k_asm); (case k5 => k_asm); (case k6 => k_is); (case k7 => k_is); (case k8 => ktr_room); (case k9 => exact BindsTo.of_eq rfl); (case c5 => decide); (case kB => exact locs rfl); (case c2 => exact rfl); (case c3 => exact rfl); (case c4 => exact rfl); intro _ _ _ _ _ _ _ _ _; (try dsimp only))))
  rename_i g L1 h1 FG F0 N0 B1 X1 T1
  replace F0 := Fr.as F0 (m' := fun y => if y = Str.ofString "less" then some (.int le t3) else if y = Str.ofString "within" then some (.int wi t2) else if y = Str.ofString "due" then some (.int due t1) else if y = Str.ofString "line" then some (.str (T a) ta) else none) (fun y => by
    show List.lookup y [(Str.ofString "less", Value.int le t3), (Str.ofString "within", Value.int wi t2), (Str.ofString "due", Value.int due t1), (Str.ofString "line", Value.str (T a) ta)] = _
    simp only [lookup_if]
    rfl)
  refine wpAny_execs_cons (wpAny_Assign_Name ?_)
  ((((repeat' ((with_reducible show wpAny _ _ (execs (_ :: _) _) _ _ _); (((first | (k_unfold; (try dsimp only)) | (k_end; wrow_close) | walk1 | (dsimp only; walk1) | (leave1; walk_say "STEP leave1"; try dsimp only) | fail "no step")))))); repeat' ((fail_if_success (with_reducible show wpAny _ _ (call (Value.type _) [Value.ref _]) _ _ _)); (fail_if_success (with_reducible show wpAny _ _ (execs (_ :: _) _) _ _ _)); (fail_if_success (with_reducible show wpAny _ _ (call (Value.ref _) _) _ _ _)); (((first | (k_unfold; (try dsimp only)) | (k_end; wrow_close) | walk1 | (dsimp only; walk1) | (leave1; walk_say "STEP leave1"; try dsimp only) | fail "no step"))))))
  rename Fr g _ _ _ => F2
  rw [T_strike] at F2
  have hlf : (a.filter (· != 32)).length ≤ a.length := List.length_filter_le _ _
  generalize hfil : a.filter (· != 32) = ls at *
  have hTl : (T ls).length = ls.length := T_len ls
  (repeat' ((fail_if_success (with_reducible show wpAny _ _ (execs (_ :: _) _) _ _ _)); (((first | (k_unfold; (try dsimp only)) | (k_end; wrow_close) | walk1 | (dsimp only; walk1) | (leave1; walk_say "STEP leave1"; try dsimp only) | fail "no step")))))
  ((((repeat' ((with_reducible show wpAny _ _ (execs (_ :: _) _) _ _ _); (((first | (k_unfold; (try dsimp only)) | (k_end; wrow_close) | walk1 | (dsimp only; walk1) | (leave1; walk_say "STEP leave1"; try dsimp only) | fail "no step")))))); ((repeat' ((fail_if_success (with_reducible show wpAny _ _ (execs (_ :: _) _) _ _ _)); (((first | (k_unfold; (try dsimp only)) | (k_end; wrow_close) | walk1 | (dsimp only; walk1) | (leave1; walk_say "STEP leave1"; try dsimp only) | fail "no step"))))))))
  rename (Fr h₀ L _ m) => F9
  rename (News h₀ L _ (_ :: _)) => N9
  rename (_ < _ ∧ _ < _ ∧ _ < _ ∧ _ < _ ∧ AllLt _ news) => q5
  rename (_ < _ ∧ _ < _ ∧ _ < _ ∧ AllLt _ news) => q4
  rename (_ < _ ∧ _ < _ ∧ AllLt _ news) => q3
  rename (_ < _ ∧ AllLt _ news) => q2
  rename (∀ p ∈ news, p.1 < _) => q1
  have es1 : Txt.slice (T ls) (some 1) none = T (ls.drop 1) := T_slice_sn ls (by omega) (by omega)
  have es2 : Txt.slice (T ls) none (some (-1)) = T (ls.take (ls.length - 1)) := by rw [T_slice_nneg ls (by omega) (by omega)]; rfl
  rw [es1, es2] at N9
  exact hret _ _ _ _ F9 N9 ⟨ls, _, _, _, _, _, _, _, _, _, _, _, _, _, _, _, _, _, _, _, _, _, hfil.symm, rfl, rfl, q5.1, q5.2.1, q5.2.2.1, q5.2.2.2.1, q1, AllLt_mem q2.2, AllLt_mem q3.2.2, AllLt_mem q4.2.2.2⟩
end
section
open PySem PySem.W PyProof.Rows
/-- the seven numbers of a script -/
noncomputable def mod4 (k : Int) : Int := if 0 ≤ k then k.fmod 4 else -(-k).fmod 4
noncomputable def nums (ns : List Int) : List Int := (ns.take 7).map mod4 ++ [2, -2, 0, 3, -3, 0, 0].drop (ns.take 7).length
theorem lawA1 (w : World) (mean : ExcName → Option Value) (mg mb : Str → Option Value) (g : Heap) (L fa : Addr) (cd : Value) (s : Shared) (l : Addr) (vs : List Value) (ns : List Int) (oc : Obj)
    (Q : Flow → Shared → Prop) (E : Value → Shared → Prop) {body REST : List Stmt} {scope : Scope} {qual : Str} {cdv : Value} {s1 : Stmt}
    (hat : AtFn (hd.heap_39 w.params) 157 body scope qual cdv) (hb : body = s1 :: REST)
    (hF : Fr g L s.heap (fun y => if y = Str.ofString "script" then some (.ref l) else none)) (hN : News g L s.heap [(77, tabObj #[]), (84, tabObj #[]), (L + 1, oc)]) (hl : g.IsList l vs.toArray) (hI : IntsAre vs ns)
    (hB : Below callerA g [] g) (hK : (hd.heap_39 w.params).In g) (hT : Top hdB.view_39 (looseW hdB.view_39 [Str.ofString "_Accumulator"]) mean mg mb g)
    (h77 : 84 < L) (hlen : ns.length ≤ 63)
    (hrest : ∀ (h : Heap) (D : Addr) (ys : List Value) (c : Nat) (tk : Nat), Fr g L h (fun y => if y = Str.ofString "numbers" then some (.ref D) else if y = Str.ofString "script" then some (.ref l) else none) → News g L h [(D, W.listOf ys.toArray c), (77, tabObj #[]), (84, tabObj #[]), (L + 1, oc)] → IntsAre ys ((ns.take 7).map mod4) → (77 ≠ D ∧ 84 ≠ D ∧ L + 1 ≠ D) →
      wpAny (model Challenge.rw_xj0014_01.row.prog w) (callerA.deeper (envOfC qual scope L fa cd)) (execs REST (envOfC qual scope L fa cd)) Q E { s with heap := h, toks := tk }) :
    wpAny (model Challenge.rw_xj0014_01.row.prog w) (callerA.deeper (envOfC qual scope L fa cd)) (execs body (envOfC qual scope L fa cd)) Q E s := by
  revert hK; k_fill; intro hK
  refine' hat.elim ?h ?_
  case h => k_is
  intro e1 e2 e3 e4
  subst e1 e2 e3 e4
  simp only [List.cons.injEq] at hb
  obtain ⟨rfl, rfl⟩ := hb
  ((first | (k_unfold; (try dsimp only)) | (k_end; wrow_close) | walk1 | (dsimp only; walk1) | (leave1; walk_say "STEP leave1"; try dsimp only) | fail "no step"))
  (repeat' ((fail_if_success (with_reducible show wpAny _ _ (execs (_ :: _) _) _ _ _)); (((first | (k_unfold; (try dsimp only)) | (k_end; wrow_close) | walk1 | (dsimp only; walk1) | (leave1; walk_say "STEP leave1"; try dsimp only) | fail "no step")))))
  rename Fr _ _ _ (fun z => if z = Str.ofString "numbers" then _ else _) => F2
  rename News _ _ _ ((_, LCg.lst _) :: _) => N2
  rename IntsAre _ (List.map _ _) => I2
  rename (_ ≠ _ ∧ 77 ≠ _ ∧ 84 ≠ _ ∧ L + 1 ≠ _) => lt2
  rename_i q1 q2 q3 q4 q5 q6 q7 q8 h' q10
  refine hrest h' q8 ys ys.length _ F2 (fun p hp => N2 p ?_) I2 lt2.2
  simp only [List.mem_cons] at hp ⊢
  rcases hp with h | h | h | h <;> simp only [h, true_or, or_true]
end
section
open PySem PySem.W PyProof.Rows
theorem lawA2 (w : World) (mean : ExcName → Option Value) (mg mb : Str → Option Value) (g : Heap) (L fa : Addr) (cd : Value) (s : Shared) (l : Addr) (vs : List Value) (ns : List Int) (oc : Obj)
    (Q : Flow → Shared → Prop) (E : Value → Shared → Prop) {body REST : List Stmt} {scope : Scope} {qual : Str} {cdv : Value} {s0 s1 : Stmt} (ys : List Value) (as : List Int) (D : Addr) (c : Nat)
    (hat : AtFn (hd.heap_39 w.params) 157 (s0 :: body) scope qual cdv) (hb : body = s1 :: REST)
    (hF : Fr g L s.heap (fun y => if y = Str.ofString "numbers" then some (.ref D) else if y = Str.ofString "script" then some (.ref l) else none)) (hN : News g L s.heap [(D, W.listOf ys.toArray c), (77, tabObj #[]), (84, tabObj #[]), (L + 1, oc)]) (hys : IntsAre ys as) (has : as.length ≤ 7) (hD : 77 ≠ D ∧ 84 ≠ D ∧ L + 1 ≠ D)
    (hB : Below callerA g [] g) (hK : (hd.heap_39 w.params).In g) (hT : Top hdB.view_39 (looseW hdB.view_39 [Str.ofString "_Accumulator"]) mean mg mb g)
    (h77 : 84 < L)
    (hrest : ∀ (h : Heap) (D : Addr) (ys : List Value) (c : Nat) (tk : Nat), Fr g L h (fun y => if y = Str.ofString "numbers" then some (.ref D) else if y = Str.ofString "script" then some (.ref l) else none) → News g L h [(D, W.listOf ys.toArray c), (77, tabObj #[]), (84, tabObj #[]), (L + 1, oc)] → IntsAre ys (as ++ [2, -2, 0, 3, -3, 0, 0].drop as.length) → L + 1 < D →
      wpAny (model Challenge.rw_xj0014_01.row.prog w) (callerA.deeper (envOfC qual scope L fa cd)) (execs REST (envOfC qual scope L fa cd)) Q E { s with heap := h, toks := tk }) :
    wpAny (model Challenge.rw_xj0014_01.row.prog w) (callerA.deeper (envOfC qual scope L fa cd)) (execs body (envOfC qual scope L fa cd)) Q E s := by
  revert hK; k_fill; intro hK
  refine' hat.elim ?h ?_
  case h => k_is
  intro e1 e2 e3 e4
  subst e2 e3 e4
  rw [hb] at e1
  simp only [List.cons.injEq] at e1
  obtain ⟨rfl, rfl, rfl⟩ := e1
  subst hb
  obtain ⟨hD1, hD2, hD3⟩ := hD
  ((first | (k_unfold; (try dsimp only)) | (k_end; wrow_close) | walk1 | (dsimp only; walk1) | (leave1; walk_say "STEP leave1"; try dsimp only) | fail "no step"))
  iterate 37 ((first | (k_unfold; (try dsimp only)) | (k_end; wrow_close) | walk1 | (dsimp only; walk1) | (leave1; walk_say "STEP leave1"; try dsimp only) | fail "no step"))
  k_dflt (refine' kmk_slice_ints ?zF ?zN ?zl ?zp ?zq ?zi ?zm ?zc ?_ ?zs ?zt ?zz; (case zF => k_asm); (case zN => k_asm); (case zl => kmk_list); (case zp => kmk_part); (case zq => kmk_part); (case zi => l_ints); (case zm => exact kmk_from (.cons _ _ (.cons _ _ (.cons _ _ (.cons _ _ (.cons _ _ (.cons _ _ (.cons _ _ .nil))))))) (Int.natCast_nonneg _)); (case zc => exact rfl); (case zs => with_unfolding_all rfl); (case zt => kmk_pure); (case zz => kmk_size))
  intro D2 ws2 h2 F2 N2 l2 hI2 hC2 hL2
  (repeat' ((fail_if_success (with_reducible show wpAny _ _ (execs (_ :: _) _) _ _ _)); (((first | (k_unfold; (try dsimp only)) | (k_end; wrow_close) | walk1 | (dsimp only; walk1) | (leave1; walk_say "STEP leave1"; try dsimp only) | fail "no step")))))
  rename Fr g _ _ _ => F3
  rename News g _ _ _ => N3
  rename IntsAre _ (as ++ _) => I3
  rename (D2 < _ ∧ _) => lt3
  rename_i D3 ws3 hX h3

  refine hrest h3 D3 ws3 0 _ (Fr.as F3 fun y => ?_) (fun p hp => N3 p ?_) I3 lt3.2.2.2.2.2
  · by_cases hy : y = Str.ofString "numbers"
    · simp only [if_pos hy]
    · simp only [if_neg hy]
  · simp only [List.mem_cons] at hp ⊢
    rcases hp with h | h | h | h | h <;> simp only [h, true_or, or_true]
end
section
open PySem PySem.W PyProof.Rows
theorem lawA3 (w : World) (mean : ExcName → Option Value) (mg mb : Str → Option Value) (g : Heap) (L fa : Addr) (cd : Value) (s : Shared) (l : Addr) (oc : Obj)
    (Q : Flow → Shared → Prop) (E : Value → Shared → Prop) {FULL : List Stmt} {scope : Scope} {qual : Str} {cdv : Value} (ys : List Value) (as : List Int) (D : Addr) (c : Nat)
    (hat : AtFn (hd.heap_39 w.params) 157 FULL scope qual cdv)
    (hF : Fr g L s.heap (fun y => if y = Str.ofString "numbers" then some (.ref D) else if y = Str.ofString "script" then some (.ref l) else none)) (hN : News g L s.heap [(D, W.listOf ys.toArray c), (77, tabObj #[]), (84, tabObj #[]), (L + 1, oc)]) (hys : IntsAre ys as) (has : as.length ≤ 7) (hD : L + 1 < D)
    (hB : Below callerA g [] g) (hK : (hd.heap_39 w.params).In g) (hT : Top hdB.view_39 (looseW hdB.view_39 [Str.ofString "_Accumulator"]) mean mg mb g)
    (h77 : 84 < L)
    (hrest : ∀ (h : Heap) (b a : Nat) (tk t1 t2 t3 : Nat), b = (as.filter fun a => decide (a < 0)).length → a = (as.filter fun a => decide (0 < a)).length →
      Fr g L h (fun y => if y = Str.ofString "noughts" then some (.int (7 - b - a) t1) else if y = Str.ofString "above" then some (.int a t2) else if y = Str.ofString "below" then some (.int b t3) else if y = Str.ofString "numbers" then some (.ref D) else if y = Str.ofString "script" then some (.ref l) else none) →
      News g L h [(D, W.listOf ys.toArray c), (77, tabObj #[]), (84, tabObj #[]), (L + 1, oc)] →
      wpAny (model Challenge.rw_xj0014_01.row.prog w) (callerA.deeper (envOfC qual scope L fa cd)) (execs (FULL.drop 5) (envOfC qual scope L fa cd)) Q E { s with heap := h, toks := tk }) :
    wpAny (model Challenge.rw_xj0014_01.row.prog w) (callerA.deeper (envOfC qual scope L fa cd)) (execs (FULL.drop 2) (envOfC qual scope L fa cd)) Q E s := by
  revert hK; k_fill; intro hK
  refine' hat.elim ?h ?_
  case h => k_is
  intro e1 e2 e3 e4
  subst e1 e2 e3 e4
  clear hat
  simp only [List.drop_succ_cons, List.drop_zero] at hrest ⊢
  ((first | (k_unfold; (try dsimp only)) | (k_end; wrow_close) | walk1 | (dsimp only; walk1) | (leave1; walk_say "STEP leave1"; try dsimp only) | fail "no step"))
  (repeat' ((fail_if_success (with_reducible show wpAny _ _ (execs (_ :: _) _) _ _ _)); (fail_if_success (with_reducible show wpAny _ _ (eval (PySem.Expr.ListComp _ _ _ _) _) _ _ _)); (((first | (k_unfold; (try dsimp only)) | (k_end; wrow_close) | walk1 | (dsimp only; walk1) | (leave1; walk_say "STEP leave1"; try dsimp only) | fail "no step")))))
  k_dflt (refine ListComp_filter (p := fun a => decide (a < 0)) hF hN (.head _) hys (by omega) rfl (by with_unfolding_all rfl) (by decide) (by rfl) (by decide) (by rfl) (by decide) ?_ ?_ ?_)
  · intro Q' hq
    refine nameX_L hF ?_ hq ?_ ?_
    all_goals rfl
  · intro a ta I oI C oC D' oD m₂ h tk Q' E' hCo ha F' N' hq
    clear hF hN
    iterate 5 ((first | (k_unfold; (try dsimp only)) | (k_end; wrow_close) | walk1 | (dsimp only; walk1) | (leave1; walk_say "STEP leave1"; try dsimp only) | fail "no step"))
    exact hq _
  · intro D1 zs c1 h1 tk hz F1 N1 lt1
    clear hF hN
    (repeat' ((fail_if_success (with_reducible show wpAny _ _ (execs (_ :: _) _) _ _ _)); (fail_if_success (with_reducible show wpAny _ _ (eval (PySem.Expr.ListComp _ _ _ _) _) _ _ _)); (((first | (k_unfold; (try dsimp only)) | (k_end; wrow_close) | walk1 | (dsimp only; walk1) | (leave1; walk_say "STEP leave1"; try dsimp only) | fail "no step")))))
    have hzl : zs.length ≤ 7 := by rw [hz.length]; exact Nat.le_trans (List.length_filter_le _ _) has
    refine KM.len_K (n := zs.length) N1 (.head _) (by simp) (Nat.lt_of_le_of_lt hzl (by decide)) ?_
    (repeat' ((fail_if_success (with_reducible show wpAny _ _ (execs (_ :: _) _) _ _ _)); (((first | (k_unfold; (try dsimp only)) | (k_end; wrow_close) | walk1 | (dsimp only; walk1) | (leave1; walk_say "STEP leave1"; try dsimp only) | fail "no step")))))
    rename Fr g _ _ _ => F2
    rename News g _ _ _ => N2
    have N3 : News g L _ [(D, W.listOf ys.toArray c), (77, tabObj #[]), (84, tabObj #[]), (L + 1, oc)] := fun p hp => N2 p (.tail _ hp)
    clear N2
    ((first | (k_unfold; (try dsimp only)) | (k_end; wrow_close) | walk1 | (dsimp only; walk1) | (leave1; walk_say "STEP leave1"; try dsimp only) | fail "no step"))
    (repeat' ((fail_if_success (with_reducible show wpAny _ _ (execs (_ :: _) _) _ _ _)); (fail_if_success (with_reducible show wpAny _ _ (eval (PySem.Expr.ListComp _ _ _ _) _) _ _ _)); (((first | (k_unfold; (try dsimp only)) | (k_end; wrow_close) | walk1 | (dsimp only; walk1) | (leave1; walk_say "STEP leave1"; try dsimp only) | fail "no step")))))
    k_dflt (refine ListComp_filter (p := fun a => decide (0 < a)) F2 N3 (.head _) hys (by omega) rfl (by with_unfolding_all rfl) (by decide) (by rfl) (by decide) (by rfl) (by decide) ?_ ?_ ?_)
    · intro Q' hq
      refine nameX_L F2 ?_ hq ?_ ?_
      all_goals rfl
    · intro a ta I oI C oC D' oD m₂ h tk Q' E' hCo ha F' N' hq
      clear F2 N3
      iterate 5 ((first | (k_unfold; (try dsimp only)) | (k_end; wrow_close) | walk1 | (dsimp only; walk1) | (leave1; walk_say "STEP leave1"; try dsimp only) | fail "no step"))
      exact hq _
    · intro D2 zs2 c2 h2 tk2 hz2 F4 N4 lt2
      clear F2 N3
      (repeat' ((fail_if_success (with_reducible show wpAny _ _ (execs (_ :: _) _) _ _ _)); (fail_if_success (with_reducible show wpAny _ _ (eval (PySem.Expr.ListComp _ _ _ _) _) _ _ _)); (((first | (k_unfold; (try dsimp only)) | (k_end; wrow_close) | walk1 | (dsimp only; walk1) | (leave1; walk_say "STEP leave1"; try dsimp only) | fail "no step")))))
      have hzl2 : zs2.length ≤ 7 := by rw [hz2.length]; exact Nat.le_trans (List.length_filter_le _ _) has
      refine KM.len_K (n := zs2.length) N4 (.head _) (by simp) (Nat.lt_of_le_of_lt hzl2 (by decide)) ?_
      (repeat' ((fail_if_success (with_reducible show wpAny _ _ (execs (_ :: _) _) _ _ _)); (((first | (k_unfold; (try dsimp only)) | (k_end; wrow_close) | walk1 | (dsimp only; walk1) | (leave1; walk_say "STEP leave1"; try dsimp only) | fail "no step")))))
      iterate 3 ((first | (k_unfold; (try dsimp only)) | (k_end; wrow_close) | walk1 | (dsimp only; walk1) | (leave1; walk_say "STEP leave1"; try dsimp only) | fail "no step"))
      (repeat' ((fail_if_success (with_reducible show wpAny _ _ (execs (_ :: _) _) _ _ _)); (((first | (k_unfold; (try dsimp only)) | (k_end; wrow_close) | walk1 | (dsimp only; walk1) | (leave1; walk_say "STEP leave1"; try dsimp only) | fail "no step")))))
      rename Fr g _ _ _ => F5
      rename News g _ _ _ => N5
      exact hrest _ zs.length zs2.length _ _ _ _ hz.length hz2.length F5 (fun p hp => N5 p (.tail _ hp))
end
section
open PySem PySem.W PyProof.Rows
theorem lawB (w : World) (mean : ExcName → Option Value) (mg mb : Str → Option Value) (g : Heap) (L fa : Addr) (cd : Value) (s : Shared)
    (Q : Flow → Shared → Prop) (E : Value → Shared → Prop) {FULL : List Stmt} {scope : Scope} {qual : Str} {cdv : Value}
    (hat : AtFn (hd.heap_39 w.params) 157 FULL scope qual cdv)
    {l D : Addr} {oc : Obj} {ys : List Value} {as : List Int} {c : Nat} {no ab be : Int} {t1 t2 t3 : Tok}
    (hF : Fr g L s.heap (fun y => if y = Str.ofString "noughts" then some (.int no t1) else if y = Str.ofString "above" then some (.int ab t2) else if y = Str.ofString "below" then some (.int be t3) else if y = Str.ofString "numbers" then some (.ref D) else if y = Str.ofString "script" then some (.ref l) else none))
    (hN : News g L s.heap [(D, W.listOf ys.toArray c), (77, tabObj #[]), (84, tabObj #[]), (L + 1, oc)]) (hys : IntsAre ys as) (has : as.length ≤ 7) (h33 : ∀ n ∈ as, -3 ≤ n ∧ n ≤ 3) (hD : L + 1 < D) (hno : 0 ≤ no ∧ no ≤ 7)
    (hB : Below callerA g [] g) (hK : (hd.heap_39 w.params).In g) (hT : Top hdB.view_39 (looseW hdB.view_39 [Str.ofString "_Accumulator"]) mean mg mb g)
    (h77 : 84 < L)
    (hrest : ∀ (h : Heap) (tk t4 : Nat) (FA : Addr) (zs : List Value) (c : Nat), IntsAre zs (figs as) → L + 1 < FA →
      Fr g L h (fun y => if y = Str.ofString "within" then some (.int ((figs as).count 0 - no) t4) else if y = Str.ofString "figures" then some (.ref FA) else if y = Str.ofString "noughts" then some (.int no t1) else if y = Str.ofString "above" then some (.int ab t2) else if y = Str.ofString "below" then some (.int be t3) else if y = Str.ofString "numbers" then some (.ref D) else if y = Str.ofString "script" then some (.ref l) else none) →
      News g L h [(FA, W.listOf zs.toArray c), (77, tabObj #[]), (84, tabObj #[]), (L + 1, oc)] →
      wpAny (model Challenge.rw_xj0014_01.row.prog w) (callerA.deeper (envOfC qual scope L fa cd)) (execs (FULL.drop 7) (envOfC qual scope L fa cd)) Q E { s with heap := h, toks := tk }) :
    wpAny (model Challenge.rw_xj0014_01.row.prog w) (callerA.deeper (envOfC qual scope L fa cd)) (execs (FULL.drop 5) (envOfC qual scope L fa cd)) Q E s := by
  revert hK; k_fill; intro hK
  refine' hat.elim ?h ?_
  case h => k_is
  intro e1 e2 e3 e4
  subst e1 e2 e3 e4
  clear hat
  simp only [List.drop_succ_cons, List.drop_zero] at hrest ⊢
  ((first | (k_unfold; (try dsimp only)) | (k_end; wrow_close) | walk1 | (dsimp only; walk1) | (leave1; walk_say "STEP leave1"; try dsimp only) | fail "no step"))
  (repeat' ((fail_if_success (with_reducible show wpAny _ _ (execs (_ :: _) _) _ _ _)); (fail_if_success (with_reducible show wpAny _ _ (eval (PySem.Expr.ListComp _ _ _ _) _) _ _ _)); (fail_if_success (with_reducible show wpAny _ _ (getMethod (Value.ref _) _ _) _ _ _)); (fail_if_success (with_reducible show wpAny _ _ (call (Value.ref _) _) _ _ _)); (fail_if_success (with_reducible show wpAny _ _ (pyIter _) _ _ _)); (((first | (k_unfold; (try dsimp only)) | (k_end; wrow_close) | walk1 | (dsimp only; walk1) | (leave1; walk_say "STEP leave1"; try dsimp only) | fail "no step")))))
  refine figures_claim w mean mg mb _ D ys c as _ _ _ _ _ _ _ _ _ _ _ _ _ _ _ _ _ hB hF hK hN hT rfl ⟨.head _, hys, by omega, h33⟩ (by ktr_room) (by ktr_units) ?_
  intro FA zs c1 h1 tk1 F1 N1 lt1 hz
  clear hF hN
  (repeat' ((fail_if_success (with_reducible show wpAny _ _ (execs (_ :: _) _) _ _ _)); (((first | (k_unfold; (try dsimp only)) | (k_end; wrow_close) | walk1 | (dsimp only; walk1) | (leave1; walk_say "STEP leave1"; try dsimp only) | fail "no step")))))
  ((first | (k_unfold; (try dsimp only)) | (k_end; wrow_close) | walk1 | (dsimp only; walk1) | (leave1; walk_say "STEP leave1"; try dsimp only) | fail "no step"))
  (repeat' ((fail_if_success (with_reducible show wpAny _ _ (execs (_ :: _) _) _ _ _)); (fail_if_success (with_reducible show wpAny _ _ (eval (PySem.Expr.ListComp _ _ _ _) _) _ _ _)); (fail_if_success (with_reducible show wpAny _ _ (getMethod (Value.ref _) _ _) _ _ _)); (fail_if_success (with_reducible show wpAny _ _ (call (Value.ref _) _) _ _ _)); (fail_if_success (with_reducible show wpAny _ _ (pyIter _) _ _ _)); (((first | (k_unfold; (try dsimp only)) | (k_end; wrow_close) | walk1 | (dsimp only; walk1) | (leave1; walk_say "STEP leave1"; try dsimp only) | fail "no step")))))
  ((first | (k_unfold; (try dsimp only)) | (k_end; wrow_close) | walk1 | (dsimp only; walk1) | (leave1; walk_say "STEP leave1"; try dsimp only) | fail "no step"))
  (repeat' ((fail_if_success (with_reducible show wpAny _ _ (execs (_ :: _) _) _ _ _)); (((first | (k_unfold; (try dsimp only)) | (k_end; wrow_close) | walk1 | (dsimp only; walk1) | (leave1; walk_say "STEP leave1"; try dsimp only) | fail "no step")))))
  rename Fr g _ _ _ => F2
  rename News g _ _ _ => N2
  refine hrest _ _ _ FA zs c1 hz (Nat.lt_trans hD (lt1 _ (.head _))) F2 (fun p hp => N2 p ?_)
  simp only [List.mem_cons] at hp ⊢
  rcases hp with h | h | h | h | h <;> simp only [h, true_or, or_true]
end
section
open PySem PySem.W PyProof.Rows
theorem lawC (w : World) (mean : ExcName → Option Value) (mg mb : Str → Option Value) (g : Heap) (L fa : Addr) (cd : Value) (s : Shared)
    (Q : Flow → Shared → Prop) (E : Value → Shared → Prop) {FULL : List Stmt} {scope : Scope} {qual : Str} {cdv : Value}
    (hat : AtFn (hd.heap_39 w.params) 157 FULL scope qual cdv)
    {l D FA : Addr} {oc : Obj} {zs : List Value} {c : Nat} {wi no ab be : Int} {t0 t1 t2 t3 : Tok}
    (hF : Fr g L s.heap (fun y => if y = Str.ofString "within" then some (.int wi t0) else if y = Str.ofString "figures" then some (.ref FA) else if y = Str.ofString "noughts" then some (.int no t1) else if y = Str.ofString "above" then some (.int ab t2) else if y = Str.ofString "below" then some (.int be t3) else if y = Str.ofString "numbers" then some (.ref D) else if y = Str.ofString "script" then some (.ref l) else none))
    (hN : News g L s.heap [(FA, W.listOf zs.toArray c), (77, tabObj #[]), (84, tabObj #[]), (L + 1, oc)]) (hFA : L + 1 < FA)
    (hB : Below callerA g [] g) (hK : (hd.heap_39 w.params).In g) (hT : Top hdB.view_39 (looseW hdB.view_39 [Str.ofString "_Accumulator"]) mean mg mb g)
    (h77 : 84 < L)
    (hrest : ∀ (h : Heap) (tk t4 t5 u5 n : Nat) (x dx DT : Addr),
      Fr g L h (fun y => if y = Str.ofString "told" then some (.ref DT) else if y = Str.ofString "blanks" then some (.str (T []) t4) else if y = Str.ofString "pile" then some (.ref x) else if y = Str.ofString "within" then some (.int wi t0) else if y = Str.ofString "figures" then some (.ref FA) else if y = Str.ofString "noughts" then some (.int no t1) else if y = Str.ofString "above" then some (.int ab t2) else if y = Str.ofString "below" then some (.int be t3) else if y = Str.ofString "numbers" then some (.ref D) else if y = Str.ofString "script" then some (.ref l) else none) →
      News g L h [(x, pileObj 115 dx #[] n), (DT, W.listOf #[] 0), (dx, iniObj w.params t5 u5), (FA, W.listOf zs.toArray c), (77, tabObj #[]), (84, tabObj #[]), (L + 1, oc)] → x < DT → dx < x → FA < dx →
      wpAny (model Challenge.rw_xj0014_01.row.prog w) (callerA.deeper (envOfC qual scope L fa cd)) (execs (FULL.drop 10) (envOfC qual scope L fa cd)) Q E { s with heap := h, toks := tk }) :
    wpAny (model Challenge.rw_xj0014_01.row.prog w) (callerA.deeper (envOfC qual scope L fa cd)) (execs (FULL.drop 7) (envOfC qual scope L fa cd)) Q E s := by
  revert hK; k_fill; intro hK
  refine' hat.elim ?h ?_
  case h => k_is
  intro e1 e2 e3 e4
  subst e1 e2 e3 e4
  clear hat
  simp only [List.drop_succ_cons, List.drop_zero] at hrest ⊢
  ((first | (k_unfold; (try dsimp only)) | (k_end; wrow_close) | walk1 | (dsimp only; walk1) | (leave1; walk_say "STEP leave1"; try dsimp only) | fail "no step"))
  (repeat' ((fail_if_success (with_reducible show wpAny _ _ (execs (_ :: _) _) _ _ _)); (fail_if_success (with_reducible show wpAny _ _ (eval (PySem.Expr.ListComp _ _ _ _) _) _ _ _)); (fail_if_success (with_reducible show wpAny _ _ (getMethod (Value.ref _) _ _) _ _ _)); (fail_if_success (with_reducible show wpAny _ _ (call (Value.ref _) _) _ _ _)); (fail_if_success (with_reducible show wpAny _ _ (pyIter _) _ _ _)); (((first | (k_unfold; (try dsimp only)) | (k_end; wrow_close) | walk1 | (dsimp only; walk1) | (leave1; walk_say "STEP leave1"; try dsimp only) | fail "no step")))))
  refine make_claim w mean mg mb _ _ _ _ _ _ _ _ _ _ _ _ _ _ _ _ _ _ hB hF hK hN hT rfl trivial (by ktr_room) (by ktr_units) ?_
  rintro v ns h1 tk1 F1 N1 ⟨x, dx, t5, u5, n, rfl, rfl, ltx, ltn⟩
  clear hF hN
  (repeat' ((fail_if_success (with_reducible show wpAny _ _ (execs (_ :: _) _) _ _ _)); (((first | (k_unfold; (try dsimp only)) | (k_end; wrow_close) | walk1 | (dsimp only; walk1) | (leave1; walk_say "STEP leave1"; try dsimp only) | fail "no step")))))
  ((first | (k_unfold; (try dsimp only)) | (k_end; wrow_close) | walk1 | (dsimp only; walk1) | (leave1; walk_say "STEP leave1"; try dsimp only) | fail "no step"))
  (repeat' ((fail_if_success (with_reducible show wpAny _ _ (execs (_ :: _) _) _ _ _)); (((first | (k_unfold; (try dsimp only)) | (k_end; wrow_close) | walk1 | (dsimp only; walk1) | (leave1; walk_say "STEP leave1"; try dsimp only) | fail "no step")))))
  ((first | (k_unfold; (try dsimp only)) | (k_end; wrow_close) | walk1 | (dsimp only; walk1) | (leave1; walk_say "STEP leave1"; try dsimp only) | fail "no step"))
  (repeat' ((fail_if_success (with_reducible show wpAny _ _ (execs (_ :: _) _) _ _ _)); (((first | (k_unfold; (try dsimp only)) | (k_end; wrow_close) | walk1 | (dsimp only; walk1) | (leave1; walk_say "STEP leave1"; try dsimp only) | fail "no step")))))
  rename Fr g _ _ _ => F2
  rename News g _ _ _ => N2
  rename (x < _ ∧ dx < _ ∧ _) => lt2
  rw [lit_nil] at F2
  refine hrest _ _ _ t5 u5 n x dx _ F2 (fun p hp => N2 p ?_) lt2.1 ltx (ltn _ (.head _))
  simp only [List.mem_cons] at hp ⊢
  rcases hp with h | h | h | h | h | h | h | h <;> simp only [h, true_or, or_true]
end
section
open PySem PySem.W PyProof.Rows
/-- the sign of a figure as a letter -/
noncomputable def lett (f : Int) : Nat := if 0 < f then 97 else if f < 0 then 65 else 32
/-- pieces: blanks ahead, letters -/
abbrev Pieces := List (List Nat × List Nat) × List Nat
noncomputable def stepP (st : Pieces) (c : Nat) : Pieces :=
  if c = 32 then (st.1, st.2 ++ [32])
  else match st.1.getLast? with
    | none => ([(st.2, [c])], [])
    | some p => if st.2 ++ [p.2.getD (p.2.length - 1) 0] = [c] then (st.1.dropLast ++ [(p.1, p.2 ++ [c])], []) else (st.1 ++ [(st.2, [c])], [])
noncomputable def runP (cs : List Nat) : Pieces := cs.foldl stepP ([], [])
noncomputable def okP (k : Nat) (st : Pieces) : Prop := st.1.length ≤ k ∧ st.2.length ≤ k ∧ ∀ p ∈ st.1, p.1.length ≤ k ∧ p.2.length ≤ k ∧ p.2 ≠ []
theorem stepP_sp (ps : List (List Nat × List Nat)) (bl : List Nat) : stepP (ps, bl) 32 = (ps, bl ++ [32]) := rfl
theorem stepP_nil {bl : List Nat} {c : Nat} (h : c ≠ 32) : stepP ([], bl) c = ([(bl, [c])], []) := by
  unfold stepP; rw [if_neg h]; rfl
theorem stepP_snoc {qs : List (List Nat × List Nat)} {l r bl : List Nat} {c : Nat} (h : c ≠ 32) :
    stepP (qs ++ [(l, r)], bl) c = if bl ++ [r.getD (r.length - 1) 0] = [c] then (qs ++ [(l, r ++ [c])], []) else (qs ++ [(l, r)] ++ [(bl, [c])], []) := by
  unfold stepP; rw [if_neg h]
  have e : (qs ++ [(l, r)]).getLast? = some (l, r) := by simp
  simp only [e, List.dropLast_concat]
theorem okP_step {k : Nat} {st : Pieces} {c : Nat} (h : okP k st) : okP (k + 1) (stepP st c) := by
  obtain ⟨ps, bl⟩ := st
  obtain ⟨h1, h2, h3⟩ := h
  have h3' : ∀ p ∈ ps, p.1.length ≤ k + 1 ∧ p.2.length ≤ k + 1 ∧ p.2 ≠ [] := fun p hp => ⟨Nat.le_succ_of_le (h3 p hp).1, Nat.le_succ_of_le (h3 p hp).2.1, (h3 p hp).2.2⟩
  dsimp only at h1 h2 h3
  by_cases hc : c = 32
  · subst hc
    rw [stepP_sp]
    exact ⟨Nat.le_succ_of_le h1, by simp; (first | lia | omega), h3'⟩
  · rcases List.eq_nil_or_concat ps with rfl | ⟨qs, p, e⟩
    · rw [stepP_nil hc]
      exact ⟨by simp, by simp, fun p hp => by simp at hp; subst hp; exact ⟨by dsimp only; (first | lia | omega), by simp, by simp⟩⟩
    · rw [List.concat_eq_append] at e
      subst e
      obtain ⟨l, r⟩ := p
      rw [stepP_snoc hc]
      split
      · refine ⟨by simp at h1 ⊢; (first | lia | omega), by simp, fun q hq => ?_⟩
        rcases List.mem_append.mp hq with hq | hq
        · exact h3' q (List.mem_append_left _ hq)
        · simp at hq; subst hq
          have := h3 (l, r) (by simp)
          dsimp only at this ⊢
          exact ⟨Nat.le_succ_of_le this.1, by simp; (first | lia | omega), by simp⟩
      · refine ⟨by simp at h1 ⊢; (first | lia | omega), by simp, fun q hq => ?_⟩
        rcases List.mem_append.mp hq with hq | hq
        · exact h3' q hq
        · simp at hq; subst hq
          exact ⟨by dsimp only; (first | lia | omega), by simp, by simp⟩
theorem okP_run : ∀ (cs : List Nat) (k : Nat) (st : Pieces), okP k st → okP (k + cs.length) (cs.foldl stepP st)
  | [], _, _, h => h
  | c :: cs, k, st, h => by
    have := okP_run cs (k + 1) (stepP st c) (okP_step h)
    rw [List.foldl_cons, List.length_cons]
    rwa [show k + (cs.length + 1) = k + 1 + cs.length by omega]
theorem runP_ok (cs : List Nat) : okP cs.length (runP cs) := by
  have := okP_run cs 0 ([], []) ⟨by simp, by simp, fun p hp => by simp at hp⟩
  rwa [Nat.zero_add] at this
theorem runP_snoc (cs : List Nat) (c : Nat) : runP (cs ++ [c]) = stepP (runP cs) c := by unfold runP; rw [List.foldl_append]; rfl
/-- the pile's items, as the ledger bears them -/
inductive Pcs (news : List (Addr × Obj)) : List Value → List (List Nat × List Nat) → Prop
  | nil : Pcs news [] []
  | snoc {vs : List Value} {ps : List (List Nat × List Nat)} {a : Addr} {l r : List Nat} {t u : Tok} : Pcs news vs ps → (a, tup2 (T l) t (T r) u) ∈ news → Pcs news (vs ++ [.ref a]) (ps ++ [(l, r)])
theorem Pcs.mono {n1 n2 : List (Addr × Obj)} {vs : List Value} {ps : List (List Nat × List Nat)} (h : Pcs n1 vs ps) (hs : ∀ p ∈ n1, p ∈ n2) : Pcs n2 vs ps := by
  induction h with
  | nil => exact .nil
  | snoc _ hm ih => exact .snoc ih (hs _ hm)
theorem Pcs.len {n1 : List (Addr × Obj)} {vs : List Value} {ps : List (List Nat × List Nat)} (h : Pcs n1 vs ps) : vs.length = ps.length := by
  induction h with
  | nil => rfl
  | snoc _ _ ih => simp [ih]
theorem Pcs.last {n1 : List (Addr × Obj)} {vs : List Value} {v : Value} {ps : List (List Nat × List Nat)} (h : Pcs n1 (vs ++ [v]) ps) :
    ∃ qs l r a t u, ps = qs ++ [(l, r)] ∧ v = .ref a ∧ (a, tup2 (T l) t (T r) u) ∈ n1 ∧ Pcs n1 vs qs := by
  generalize hw : vs ++ [v] = ws at h
  cases h with
  | nil => simp at hw
  | snoc h hm =>
    obtain ⟨rfl, e⟩ := List.append_inj' hw rfl
    simp at e
    exact ⟨_, _, _, _, _, _, rfl, e, hm, h⟩
theorem Pcs.get {n1 : List (Addr × Obj)} {vs : List Value} {ps : List (List Nat × List Nat)} (h : Pcs n1 vs ps) :
    ∀ j, j < vs.length → ∃ a t u, vs[j]? = some (.ref a) ∧ (a, tup2 (T (ps.getD j ([], [])).1) t (T (ps.getD j ([], [])).2) u) ∈ n1 := by
  induction h with
  | nil => exact fun j hj => absurd hj (Nat.not_lt_zero _)
  | @snoc vs ps a l r t u h hm ih =>
    intro j hj
    have hl := h.len
    by_cases hj2 : j < vs.length
    · obtain ⟨a', t', u', e1, e2⟩ := ih j hj2
      refine ⟨a', t', u', ?_, ?_⟩
      · rw [List.getElem?_append_left hj2]; exact e1
      · have : (ps ++ [(l, r)]).getD j ([], []) = ps.getD j ([], []) := by
          rw [List.getD_eq_getElem?_getD, List.getD_eq_getElem?_getD, List.getElem?_append_left (by omega)]
        rw [this]; exact e2
    · have hj3 : j = vs.length := by simp at hj; (first | lia | omega)
      subst hj3
      refine ⟨a, t, u, by simp, ?_⟩
      have : (ps ++ [(l, r)]).getD vs.length ([], []) = (l, r) := by
        rw [List.getD_eq_getElem?_getD, hl]; simp
      rw [this]; exact hm
end
section
local macro_rules | `(tactic| k_all) => `(tactic| assumption)
section
open PySem PySem.W PyProof.Rows
/-- the body of the loop that is the k-th statement -/
noncomputable def bodyAt (F : List Stmt) (k : Nat) : List Stmt := match F.drop k with
  | .For _ _ b _ _ :: _ => b
  | _ => []
noncomputable def targetAt (F : List Stmt) (k : Nat) : PySem.Expr := match F.drop k with
  | .For t _ _ _ _ :: _ => t
  | _ => .Tuple [] 0 ⟨0, 0, 0, 0⟩
theorem if_back {m : Str → Option Value} {x : Str} {v : Value} (e : m x = some v) (y : Str) : (if y = x then some v else m y) = m y := by
  by_cases h : y = x
  · rw [if_pos h, h, e]
  · rw [if_neg h]
theorem lawD1 (w : World) (mean : ExcName → Option Value) (mg mb : Str → Option Value) (g : Heap) (L fa : Addr) (cd : Value) (s : Shared)
    (Q : Flow → Shared → Prop) (E : Value → Shared → Prop) {FULL : List Stmt} {scope : Scope} {qual : Str} {cdv : Value}
    (hat : AtFn (hd.heap_39 w.params) 157 FULL scope qual cdv)
    {FA DT : Addr} {zs tv : List Value} {fs tn : List Int} {c c2 : Nat} {m : Str → Option Value} {news : List (Addr × Obj)} {i : Nat} {tp : Tok}
    (hF : Fr g L s.heap m) (e1 : m (Str.ofString "place") = some (.int i tp)) (e2 : m (Str.ofString "figures") = some (.ref FA)) (e3 : m (Str.ofString "told") = some (.ref DT))
    (hN : News g L s.heap ((DT, W.listOf tv.toArray c2) :: (FA, W.listOf zs.toArray c) :: news)) (hzs : IntsAre zs fs) (htv : IntsAre tv tn) (htn : tn.length ≤ 100) (hi : i < 8) (hfs : fs.length = 8) (hd1 : FA ≠ DT) (hd2 : ∀ p ∈ news, p.1 ≠ DT)
    (hB : Below callerA g [] g) (hK : (hd.heap_39 w.params).In g) (hT : Top hdB.view_39 (looseW hdB.view_39 [Str.ofString "_Accumulator"]) mean mg mb g)
    (h77 : 84 < L)
    (hrest : ∀ (h : Heap) (tk t c2 : Nat) (tv : List Value), IntsAre tv (tn ++ [sgn (fs.getD i 0) 0]) → Fr g L h (fun y => if y = Str.ofString "sign" then some (.int (sgn (fs.getD i 0) 0) t) else m y) →
      News g L h ((DT, W.listOf tv.toArray c2) :: (FA, W.listOf zs.toArray c) :: news) →
      wpAny (model Challenge.rw_xj0014_01.row.prog w) (callerA.deeper (envOfC qual scope L fa cd)) (execs ((bodyAt FULL 10).drop 2) (envOfC qual scope L fa cd)) Q E { s with heap := h, toks := tk }) :
    wpAny (model Challenge.rw_xj0014_01.row.prog w) (callerA.deeper (envOfC qual scope L fa cd)) (execs (bodyAt FULL 10) (envOfC qual scope L fa cd)) Q E s := by
  revert hK; k_fill; intro hK
  refine' hat.elim ?h ?_
  case h => k_is
  intro e1 e2 e3 e4
  subst e1 e2 e3 e4
  clear hat
  try simp only [List.drop_succ_cons, List.drop_zero] at hrest ⊢
  dsimp only [bodyAt, List.drop] at hrest ⊢
  replace hF := Fr.as hF (mapL_cons e1 (mapL_cons e2 (mapL_cons e3 mapL_nil)))
  ((first | (k_unfold; (try dsimp only)) | (k_end; wrow_close) | walk1 | (dsimp only; walk1) | (leave1; walk_say "STEP leave1"; try dsimp only) | fail "no step"))
  (repeat' ((fail_if_success (with_reducible show wpAny _ _ (execs (_ :: _) _) _ _ _)); (fail_if_success (with_reducible show wpAny _ _ (eval (PySem.Expr.ListComp _ _ _ _) _) _ _ _)); (fail_if_success (with_reducible show wpAny _ _ (getMethod (Value.ref _) _ _) _ _ _)); (fail_if_success (with_reducible show wpAny _ _ (call (Value.ref _) _) _ _ _)); (fail_if_success (with_reducible show wpAny _ _ (pyIter _) _ _ _)); (((first | (k_unfold; (try dsimp only)) | (k_end; wrow_close) | walk1 | (dsimp only; walk1) | (leave1; walk_say "STEP leave1"; try dsimp only) | fail "no step")))))
  all_goals
    refine strcoll_claim w mean mg mb _ _ _ _ _ _ _ _ _ _ _ _ _ _ _ _ _ _ _ _ _ _ hB hF hK hN hT rfl trivial (by ktr_room) (by ktr_units) ?_
    intro t h1 tk1 F1 N1
    clear hF hN
  rotate_left
  all_goals
    try rw [show sgn 0 (-fs.getD (i : Int).toNat 0) = sgn (fs.getD i 0) 0 by rw [Int.toNat_natCast]; unfold sgn; generalize fs.getD i 0 = f; split <;> split <;> (try split) <;> (first | lia | omega)]
    try rw [Int.toNat_natCast]
  all_goals
    (repeat' ((fail_if_success (with_reducible show wpAny _ _ (execs (_ :: _) _) _ _ _)); (fail_if_success (with_reducible show wpAny _ _ (eval (PySem.Expr.ListComp _ _ _ _) _) _ _ _)); (fail_if_success (with_reducible show wpAny _ _ (getMethod (Value.ref _) _ _) _ _ _)); (fail_if_success (with_reducible show wpAny _ _ (call (Value.ref _) _) _ _ _)); (fail_if_success (with_reducible show wpAny _ _ (pyIter _) _ _ _)); (((first | (k_unfold; (try dsimp only)) | (k_end; wrow_close) | walk1 | (dsimp only; walk1) | (leave1; walk_say "STEP leave1"; try dsimp only) | fail "no step")))))
    ((first | (k_unfold; (try dsimp only)) | (k_end; wrow_close) | walk1 | (dsimp only; walk1) | (leave1; walk_say "STEP leave1"; try dsimp only) | fail "no step"))
    (repeat' ((fail_if_success (with_reducible show wpAny _ _ (execs (_ :: _) _) _ _ _)); (fail_if_success (with_reducible show wpAny _ _ (eval (PySem.Expr.ListComp _ _ _ _) _) _ _ _)); (fail_if_success (with_reducible show wpAny _ _ (getMethod (Value.ref _) _ _) _ _ _)); (fail_if_success (with_reducible show wpAny _ _ (call (Value.ref _) _) _ _ _)); (fail_if_success (with_reducible show wpAny _ _ (pyIter _) _ _ _)); (((first | (k_unfold; (try dsimp only)) | (k_end; wrow_close) | walk1 | (dsimp only; walk1) | (leave1; walk_say "STEP leave1"; try dsimp only) | fail "no step")))))
    ((first | (k_unfold; (try dsimp only)) | (k_end; wrow_close) | walk1 | (dsimp only; walk1) | (leave1; walk_say "STEP leave1"; try dsimp only) | fail "no step"))
    (repeat' ((fail_if_success (with_reducible show wpAny _ _ (execs (_ :: _) _) _ _ _)); (((first | (k_unfold; (try dsimp only)) | (k_end; wrow_close) | walk1 | (dsimp only; walk1) | (leave1; walk_say "STEP leave1"; try dsimp only) | fail "no step")))))
  all_goals
    rename Fr g _ _ _ => F2
    rename News g _ _ _ => N2
    rw [List.push_toArray] at N2
    exact hrest _ _ t _ _ (IntsAre.snoc htv _ _) (Fr.as F2 fun y => by rw [if_back e3, if_back e2, if_back e1]) N2
end
section
open PySem PySem.W PyProof.Rows
noncomputable def elseAt (F : List Stmt) (k : Nat) : List Stmt := match F.drop k with
  | .If _ _ o _ :: _ => o
  | _ => []
theorem lawD4 (w : World) (mean : ExcName → Option Value) (mg mb : Str → Option Value) (g : Heap) (L fa : Addr) (cd : Value) (s : Shared)
    (Q : Flow → Shared → Prop) (E : Value → Shared → Prop) {FULL : List Stmt} {scope : Scope} {qual : Str} {cdv : Value}
    (hat : AtFn (hd.heap_39 w.params) 157 FULL scope qual cdv)
    {x dx : Addr} {od : Obj} {vs : List Value} {n : Nat} {qs : List (List Nat × List Nat)} {l r : List Nat} {m : Str → Option Value} {rest : List (Addr × Obj)} {c : Nat} {t1 t2 t3 : Tok}
    (hF : Fr g L s.heap m) (e1 : m (Str.ofString "letter") = some (.str (T [c]) t1)) (e2 : m (Str.ofString "lead") = some (.str (T l) t2)) (e4 : m (Str.ofString "run") = some (.str (T r) t3)) (e3 : m (Str.ofString "pile") = some (.ref x))
    (hN : News g L s.heap ((x, pileObj 115 dx vs.toArray n) :: rest)) (hdx : (dx, od) ∈ rest) (hoff : ∀ p ∈ rest, p.1 ≠ x) (hod1 : shadowIn (some od) (Str.ofString "append") = some false) (hod2 : shadowIn (some od) (Str.ofString "push") = some false)
    (hP : Pcs rest vs qs) (hl : r.length ≤ 100) (hvs : vs.length ≤ 200)
    (hB : Below callerA g [] g) (hK : (hd.heap_39 w.params).In g) (hT : Top hdB.view_39 (looseW hdB.view_39 [Str.ofString "_Accumulator"]) mean mg mb g)
    (h77 : 84 < L)
    (hrest : ∀ (h : Heap) (tk n t : Nat) (a : Addr) (u1 u2 : Tok), Fr g L h (fun y => if y = Str.ofString "blanks" then some (.str (T []) t) else m y) →
      News g L h ((x, pileObj 115 dx (vs ++ [Value.ref a]).toArray n) :: (a, tup2 (T l) u1 (T (r ++ [c])) u2) :: rest) → x < a → (∀ q ∈ rest, q.1 < a) → Q .next { s with heap := h, toks := tk }) :
    wpAny (model Challenge.rw_xj0014_01.row.prog w) (callerA.deeper (envOfC qual scope L fa cd)) (execs ((elseAt (bodyAt FULL 10) 2).drop 3) (envOfC qual scope L fa cd)) Q E s := by
  revert hK; k_fill; intro hK
  refine' hat.elim ?h ?_
  case h => k_is
  intro e1 e2 e3 e4
  subst e1 e2 e3 e4
  clear hat
  try simp only [List.drop_succ_cons, List.drop_zero] at hrest ⊢
  dsimp only [bodyAt, elseAt, List.drop] at hrest ⊢
  have hTr : (T r).length = r.length := T_len _
  have hTc : (T [c]).length = 1 := T_len _
  replace hF := Fr.as hF (mapL_cons e1 (mapL_cons e2 (mapL_cons e3 (mapL_cons e4 mapL_nil))))
  ((first | (k_unfold; (try dsimp only)) | (k_end; wrow_close) | walk1 | (dsimp only; walk1) | (leave1; walk_say "STEP leave1"; try dsimp only) | fail "no step"))
  (repeat' ((fail_if_success (with_reducible show wpAny _ _ (execs (_ :: _) _) _ _ _)); (fail_if_success (with_reducible show wpAny _ _ (eval (PySem.Expr.ListComp _ _ _ _) _) _ _ _)); (fail_if_success (with_reducible show wpAny _ _ (getMethod (Value.ref _) _ _) _ _ _)); (fail_if_success (with_reducible show wpAny _ _ (call (Value.ref _) _) _ _ _)); (fail_if_success (with_reducible show wpAny _ _ (pyIter _) _ _ _)); (((first | (k_unfold; (try dsimp only)) | (k_end; wrow_close) | walk1 | (dsimp only; walk1) | (leave1; walk_say "STEP leave1"; try dsimp only) | fail "no step")))))
  have I0 : InstAt s.heap x (pileObj 115 dx vs.toArray n) 115 (some od) := ⟨(hN _ (.head _)).1, rfl, rfl, (hN _ (.tail _ hdx)).1⟩
  refine methodL_fn (hK.keeps hF.keep) I0 (pile_ga w) (pile_gb w) (pile_push w) (by k_is) hod2 ?_
  (repeat' ((fail_if_success (with_reducible show wpAny _ _ (execs (_ :: _) _) _ _ _)); (fail_if_success (with_reducible show wpAny _ _ (eval (PySem.Expr.ListComp _ _ _ _) _) _ _ _)); (fail_if_success (with_reducible show wpAny _ _ (getMethod (Value.ref _) _ _) _ _ _)); (fail_if_success (with_reducible show wpAny _ _ (call (Value.ref _) _) _ _ _)); (fail_if_success (with_reducible show wpAny _ _ (pyIter _) _ _ _)); (((first | (k_unfold; (try dsimp only)) | (k_end; wrow_close) | walk1 | (dsimp only; walk1) | (leave1; walk_say "STEP leave1"; try dsimp only) | fail "no step")))))
  rename Fr g _ _ _ => F1
  rename News g _ _ _ => N1
  rw [T_app]
  refine push_claim w mean mg mb rest x dx vs.toArray n od _ _ _ _ _ _ _ _ _ _ _ _ _ _ _ _ _ _ _ _ _ hB F1 hK N1 hT rfl ⟨hdx, hoff, by simpa using Nat.le_trans hvs (by decide), hod1⟩ (by ktr_room) (by ktr_units) ?_
  rintro v ns h1 tk1 F2 N2 ⟨a, n', rfl, rfl, hxa, hla⟩
  clear I0 F1 N1
  rw [List.push_toArray] at N2
  (repeat' ((fail_if_success (with_reducible show wpAny _ _ (execs (_ :: _) _) _ _ _)); (fail_if_success (with_reducible show wpAny _ _ (eval (PySem.Expr.ListComp _ _ _ _) _) _ _ _)); (fail_if_success (with_reducible show wpAny _ _ (getMethod (Value.ref _) _ _) _ _ _)); (fail_if_success (with_reducible show wpAny _ _ (call (Value.ref _) _) _ _ _)); (fail_if_success (with_reducible show wpAny _ _ (pyIter _) _ _ _)); (((first | (k_unfold; (try dsimp only)) | (k_end; wrow_close) | walk1 | (dsimp only; walk1) | (leave1; walk_say "STEP leave1"; try dsimp only) | fail "no step")))))
  ((first | (k_unfold; (try dsimp only)) | (k_end; wrow_close) | walk1 | (dsimp only; walk1) | (leave1; walk_say "STEP leave1"; try dsimp only) | fail "no step"))
  (repeat' ((fail_if_success (with_reducible show wpAny _ _ (execs (_ :: _) _) _ _ _)); (fail_if_success (with_reducible show wpAny _ _ (eval (PySem.Expr.ListComp _ _ _ _) _) _ _ _)); (fail_if_success (with_reducible show wpAny _ _ (getMethod (Value.ref _) _ _) _ _ _)); (fail_if_success (with_reducible show wpAny _ _ (call (Value.ref _) _) _ _ _)); (fail_if_success (with_reducible show wpAny _ _ (pyIter _) _ _ _)); (((first | (k_unfold; (try dsimp only)) | (k_end; wrow_close) | walk1 | (dsimp only; walk1) | (leave1; walk_say "STEP leave1"; try dsimp only) | fail "no step")))))
  rename Fr g _ _ _ => F3
  rename News g _ _ _ => N3
  rw [lit_nil] at F3
  (repeat' ((fail_if_success (with_reducible show wpAny _ _ (execs (_ :: _) _) _ _ _)); (((first | (k_unfold; (try dsimp only)) | (k_end; wrow_close) | walk1 | (dsimp only; walk1) | (leave1; walk_say "STEP leave1"; try dsimp only) | fail "no step")))))
  exact hrest _ _ _ _ a _ _ (Fr.as F3 fun y => by rw [if_back e4, if_back e3, if_back e2, if_back e1]) N3 hxa hla
end
section
open PySem PySem.W PyProof.Rows
theorem lawD3 (w : World) (mean : ExcName → Option Value) (mg mb : Str → Option Value) (g : Heap) (L fa : Addr) (cd : Value) (s : Shared)
    (Q : Flow → Shared → Prop) (E : Value → Shared → Prop) {FULL : List Stmt} {scope : Scope} {qual : Str} {cdv : Value}
    (hat : AtFn (hd.heap_39 w.params) 157 FULL scope qual cdv)
    {x dx : Addr} {od : Obj} {vs : List Value} {n : Nat} {ps : List (List Nat × List Nat)} {bl : List Nat} {m : Str → Option Value} {rest sub : List (Addr × Obj)} {c : Nat} {tsg tb : Tok}
    (hF : Fr g L s.heap m) (e1 : m (Str.ofString "letter") = some (.str (T [c]) tsg)) (e2 : m (Str.ofString "blanks") = some (.str (T bl) tb)) (e3 : m (Str.ofString "pile") = some (.ref x))
    (hN : News g L s.heap ((x, pileObj 115 dx vs.toArray n) :: rest)) (hdx : (dx, od) ∈ rest) (hoff : ∀ p ∈ rest, p.1 ≠ x) (hod1 : shadowIn (some od) (Str.ofString "append") = some false) (hod2 : shadowIn (some od) (Str.ofString "push") = some false) (hod3 : shadowIn (some od) (Str.ofString "pop") = some false) (hod4 : shadowIn (some od) (Str.ofString "part_count") = some false)
    (hP : Pcs sub vs ps) (hsub : ∀ p ∈ sub, p ∈ rest) (hok : okP 100 (ps, bl)) (hc : c ≠ 32)
    (hB : Below callerA g [] g) (hK : (hd.heap_39 w.params).In g) (hT : Top hdB.view_39 (looseW hdB.view_39 [Str.ofString "_Accumulator"]) mean mg mb g)
    (h77 : 84 < L)
    (hrest : ∀ (h : Heap) (tk n : Nat) (vs : List Value) (add : List (Addr × Obj)) (m' : Str → Option Value), Fr g L h m' → AtS m' (Str.ofString "blanks") (T (stepP (ps, bl) c).2) →
      (∀ y, y ≠ Str.ofString "blanks" → y ≠ Str.ofString "letter" → y ≠ Str.ofString "lead" → y ≠ Str.ofString "run" → m' y = m y) →
      News g L h ((x, pileObj 115 dx vs.toArray n) :: (add ++ rest)) → (∀ p ∈ add, x < p.1 ∧ ∀ q ∈ rest, q.1 < p.1) → Pcs (add ++ sub) vs (stepP (ps, bl) c).1 → Q .next { s with heap := h, toks := tk }) :
    wpAny (model Challenge.rw_xj0014_01.row.prog w) (callerA.deeper (envOfC qual scope L fa cd)) (execs ((elseAt (bodyAt FULL 10) 2).drop 1) (envOfC qual scope L fa cd)) Q E s := by
  revert hK; k_fill; intro hK
  refine' hat.elim ?h ?_
  case h => k_is
  intro e1 e2 e3 e4
  subst e1 e2 e3 e4
  try simp only [List.drop_succ_cons, List.drop_zero] at hrest ⊢
  dsimp only [bodyAt, elseAt, List.drop] at hrest ⊢
  obtain ⟨hok1, hok2, hok3⟩ := hok
  dsimp only at hok1 hok2 hok3
  have hTb : (T bl).length = bl.length := T_len _
  replace hF := Fr.as hF (mapL_cons e1 (mapL_cons e2 (mapL_cons e3 mapL_nil)))
  ((first | (k_unfold; (try dsimp only)) | (k_end; wrow_close) | walk1 | (dsimp only; walk1) | (leave1; walk_say "STEP leave1"; try dsimp only) | fail "no step"))
  (repeat' ((fail_if_success (with_reducible show wpAny _ _ (execs (_ :: _) _) _ _ _)); (fail_if_success (with_reducible show wpAny _ _ (eval (PySem.Expr.ListComp _ _ _ _) _) _ _ _)); (fail_if_success (with_reducible show wpAny _ _ (getMethod (Value.ref _) _ _) _ _ _)); (fail_if_success (with_reducible show wpAny _ _ (call (Value.ref _) _) _ _ _)); (fail_if_success (with_reducible show wpAny _ _ (pyIter _) _ _ _)); (((first | (k_unfold; (try dsimp only)) | (k_end; wrow_close) | walk1 | (dsimp only; walk1) | (leave1; walk_say "STEP leave1"; try dsimp only) | fail "no step")))))
  have I0 : InstAt s.heap x (pileObj 115 dx vs.toArray n) 115 (some od) := ⟨(hN _ (.head _)).1, rfl, rfl, (hN _ (.tail _ hdx)).1⟩
  refine methodL_fn (hK.keeps hF.keep) I0 (pile_ga w) (pile_gb w) (pile_pop w) (by k_is) hod3 ?_
  (repeat' ((fail_if_success (with_reducible show wpAny _ _ (execs (_ :: _) _) _ _ _)); (fail_if_success (with_reducible show wpAny _ _ (eval (PySem.Expr.ListComp _ _ _ _) _) _ _ _)); (fail_if_success (with_reducible show wpAny _ _ (getMethod (Value.ref _) _ _) _ _ _)); (fail_if_success (with_reducible show wpAny _ _ (call (Value.ref _) _) _ _ _)); (fail_if_success (with_reducible show wpAny _ _ (pyIter _) _ _ _)); (((first | (k_unfold; (try dsimp only)) | (k_end; wrow_close) | walk1 | (dsimp only; walk1) | (leave1; walk_say "STEP leave1"; try dsimp only) | fail "no step")))))
  refine pop_claim w mean mg mb rest x dx vs n od _ _ _ _ _ _ _ _ _ _ _ _ _ _ _ _ _ hB hF hK hN hT rfl ⟨hdx, hoff, by have := hP.len; (first | lia | omega), hod4⟩ (by ktr_room) (by ktr_units) ?_
  rintro v ns h1 tk1 F1 N1 (⟨rfl, a, t1, t2, rfl, rfl, hxa, hla⟩ | ⟨ys, n', rfl, rfl⟩)
  · clear I0
    have hps : ps = [] := by have := hP.len; simpa using this.symm
    subst hps
    (repeat' ((fail_if_success (with_reducible show wpAny _ _ (execs (_ :: _) _) _ _ _)); (fail_if_success (with_reducible show wpAny _ _ (eval (PySem.Expr.ListComp _ _ _ _) _) _ _ _)); (fail_if_success (with_reducible show wpAny _ _ (getMethod (Value.ref _) _ _) _ _ _)); (fail_if_success (with_reducible show wpAny _ _ (call (Value.ref _) _) _ _ _)); (fail_if_success (with_reducible show wpAny _ _ (pyIter _) _ _ _)); (((first | (k_unfold; (try dsimp only)) | (k_end; wrow_close) | walk1 | (dsimp only; walk1) | (leave1; walk_say "STEP leave1"; try dsimp only) | fail "no step")))))
    ((first | (k_unfold; (try dsimp only)) | (k_end; wrow_close) | walk1 | (dsimp only; walk1) | (leave1; walk_say "STEP leave1"; try dsimp only) | fail "no step"))
    (repeat' ((fail_if_success (with_reducible show wpAny _ _ (execs (_ :: _) _) _ _ _)); (((first | (k_unfold; (try dsimp only)) | (k_end; wrow_close) | walk1 | (dsimp only; walk1) | (leave1; walk_say "STEP leave1"; try dsimp only) | fail "no step")))))
    ((first | (k_unfold; (try dsimp only)) | (k_end; wrow_close) | walk1 | (dsimp only; walk1) | (leave1; walk_say "STEP leave1"; try dsimp only) | fail "no step"))
    (repeat' ((fail_if_success (with_reducible show wpAny _ _ (execs (_ :: _) _) _ _ _)); (((first | (k_unfold; (try dsimp only)) | (k_end; wrow_close) | walk1 | (dsimp only; walk1) | (leave1; walk_say "STEP leave1"; try dsimp only) | fail "no step")))))
    ((first | (k_unfold; (try dsimp only)) | (k_end; wrow_close) | walk1 | (dsimp only; walk1) | (leave1; walk_say "STEP leave1"; try dsimp only) | fail "no step"))
    (repeat' ((fail_if_success (with_reducible show wpAny _ _ (execs (_ :: _) _) _ _ _)); (((first | (k_unfold; (try dsimp only)) | (k_end; wrow_close) | walk1 | (dsimp only; walk1) | (leave1; walk_say "STEP leave1"; try dsimp only) | fail "no step")))))
    rename Fr g _ _ _ => F3
    rename News g _ _ _ => N3
    rw [lit_nil] at F3
    refine lawD4 (dx := dx) (od := od) (vs := []) (qs := []) (l := bl) (r := []) (c := c) (rest := rest) w mean mg mb g L fa cd _ Q E hat (by exact F3) rfl rfl rfl rfl (by exact fun p hp => N3 p (.tail _ hp)) hdx hoff hod1 hod2 .nil (by simp) (by simp) hB hK hT h77 ?_
    intro h9 tk9 n9 t9 a9 u1 u2 F9 N9 hxa9 hla9
    refine hrest h9 _ n9 [Value.ref a9] [(a9, tup2 (T bl) u1 (T ([] ++ [c])) u2)] _ F9 ?_ ?_ ?_ ?_ ?_
    · rw [stepP_nil hc]; exact ⟨_, rfl⟩
    · intro y h1 h2 h3 h4
      simp only [if_neg h1, if_neg h2, if_neg h3, if_neg h4]
      rw [if_back e3]
    · exact N9
    · intro p hp
      rw [List.mem_singleton.mp hp]; exact ⟨hxa9, hla9⟩
    · rw [stepP_nil hc]
      exact Pcs.snoc (.nil) (List.mem_cons_self)
  · obtain ⟨qs, l, r, a, t, u, rfl, rfl, hm, hPq⟩ := hP.last
    clear I0
    have N2 : News g L h1 ((a, tup2 (T l) t (T r) u) :: (x, pileObj 115 dx ys.toArray n') :: rest) := fun p hp => by
      rcases List.mem_cons.mp hp with rfl | hp
      · exact N1 _ (.tail _ (hsub _ hm))
      · exact N1 _ hp
    clear N1
    have hr := hok3 (l, r) (by simp)
    dsimp only at hr
    have hTr : (T r).length = r.length := T_len _
    have hrl : 0 < r.length := List.length_pos_iff.mpr hr.2.2
    (repeat' ((fail_if_success (with_reducible show wpAny _ _ (execs (_ :: _) _) _ _ _)); (fail_if_success (with_reducible show wpAny _ _ (eval (PySem.Expr.ListComp _ _ _ _) _) _ _ _)); (fail_if_success (with_reducible show wpAny _ _ (getMethod (Value.ref _) _ _) _ _ _)); (fail_if_success (with_reducible show wpAny _ _ (call (Value.ref _) _) _ _ _)); (fail_if_success (with_reducible show wpAny _ _ (pyIter _) _ _ _)); (((first | (k_unfold; (try dsimp only)) | (k_end; wrow_close) | walk1 | (dsimp only; walk1) | (leave1; walk_say "STEP leave1"; try dsimp only) | fail "no step")))))
    ((first | (k_unfold; (try dsimp only)) | (k_end; wrow_close) | walk1 | (dsimp only; walk1) | (leave1; walk_say "STEP leave1"; try dsimp only) | fail "no step"))
    (repeat' ((fail_if_success (with_reducible show wpAny _ _ (execs (_ :: _) _) _ _ _)); (fail_if_success (with_reducible show wpAny _ _ (eval (PySem.Expr.ListComp _ _ _ _) _) _ _ _)); (fail_if_success (with_reducible show wpAny _ _ (getMethod (Value.ref _) _ _) _ _ _)); (fail_if_success (with_reducible show wpAny _ _ (call (Value.ref _) _) _ _ _)); (fail_if_success (with_reducible show wpAny _ _ (pyIter _) _ _ _)); (((first | (k_unfold; (try dsimp only)) | (k_end; wrow_close) | walk1 | (dsimp only; walk1) | (leave1; walk_say "STEP leave1"; try dsimp only) | fail "no step")))))
    · rename ((T r == _) = true) => hab
      rw [lit_nil, T_beq] at hab
      exact absurd (by simpa using hab) hr.2.2
    ((first | (k_unfold; (try dsimp only)) | (k_end; wrow_close) | walk1 | (dsimp only; walk1) | (leave1; walk_say "STEP leave1"; try dsimp only) | fail "no step"))
    (repeat' ((fail_if_success (with_reducible show wpAny _ _ (execs (_ :: _) _) _ _ _)); (fail_if_success (with_reducible show wpAny _ _ (eval (PySem.Expr.ListComp _ _ _ _) _) _ _ _)); (fail_if_success (with_reducible show wpAny _ _ (getMethod (Value.ref _) _ _) _ _ _)); (fail_if_success (with_reducible show wpAny _ _ (call (Value.ref _) _) _ _ _)); (fail_if_success (with_reducible show wpAny _ _ (pyIter _) _ _ _)); (((first | (k_unfold; (try dsimp only)) | (k_end; wrow_close) | walk1 | (dsimp only; walk1) | (leave1; walk_say "STEP leave1"; try dsimp only) | fail "no step")))))
    ((first | (k_unfold; (try dsimp only)) | (k_end; wrow_close) | walk1 | (dsimp only; walk1) | (leave1; walk_say "STEP leave1"; try dsimp only) | fail "no step"))
    (repeat' ((fail_if_success (with_reducible show wpAny _ _ (execs (_ :: _) _) _ _ _)); (fail_if_success (with_reducible show wpAny _ _ (eval (PySem.Expr.ListComp _ _ _ _) _) _ _ _)); (fail_if_success (with_reducible show wpAny _ _ (getMethod (Value.ref _) _ _) _ _ _)); (fail_if_success (with_reducible show wpAny _ _ (call (Value.ref _) _) _ _ _)); (fail_if_success (with_reducible show wpAny _ _ (pyIter _) _ _ _)); (((first | (k_unfold; (try dsimp only)) | (k_end; wrow_close) | walk1 | (dsimp only; walk1) | (leave1; walk_say "STEP leave1"; try dsimp only) | fail "no step")))))
    · rename Fr g _ _ _ => F3
      rename News g _ _ _ => N3
      rename ((_ != T [c]) = true) => hne
      rw [T_item_neg r (by omega) (by omega), T_app, bne, T_beq] at hne
      have hr1 : ((-1 : Int) + r.length).toNat = r.length - 1 := by omega
      rw [hr1] at hne
      ((first | (k_unfold; (try dsimp only)) | (k_end; wrow_close) | walk1 | (dsimp only; walk1) | (leave1; walk_say "STEP leave1"; try dsimp only) | fail "no step"))
      (repeat' ((fail_if_success (with_reducible show wpAny _ _ (execs (_ :: _) _) _ _ _)); (fail_if_success (with_reducible show wpAny _ _ (eval (PySem.Expr.ListComp _ _ _ _) _) _ _ _)); (fail_if_success (with_reducible show wpAny _ _ (getMethod (Value.ref _) _ _) _ _ _)); (fail_if_success (with_reducible show wpAny _ _ (call (Value.ref _) _) _ _ _)); (fail_if_success (with_reducible show wpAny _ _ (pyIter _) _ _ _)); (((first | (k_unfold; (try dsimp only)) | (k_end; wrow_close) | walk1 | (dsimp only; walk1) | (leave1; walk_say "STEP leave1"; try dsimp only) | fail "no step")))))
      have N4 : News g L _ ((x, pileObj 115 dx ys.toArray n') :: rest) := fun p hp => N3 p (.tail _ hp)
      rename_i h4
      have I0 : InstAt _ x (pileObj 115 dx ys.toArray n') 115 (some od) := ⟨(N4 _ (.head _)).1, rfl, rfl, (N4 _ (.tail _ hdx)).1⟩
      refine methodL_fn (hK.keeps F3.keep) I0 (pile_ga w) (pile_gb w) (pile_push w) (by k_is) hod2 ?_
      (repeat' ((fail_if_success (with_reducible show wpAny _ _ (execs (_ :: _) _) _ _ _)); (fail_if_success (with_reducible show wpAny _ _ (eval (PySem.Expr.ListComp _ _ _ _) _) _ _ _)); (fail_if_success (with_reducible show wpAny _ _ (getMethod (Value.ref _) _ _) _ _ _)); (fail_if_success (with_reducible show wpAny _ _ (call (Value.ref _) _) _ _ _)); (fail_if_success (with_reducible show wpAny _ _ (pyIter _) _ _ _)); (((first | (k_unfold; (try dsimp only)) | (k_end; wrow_close) | walk1 | (dsimp only; walk1) | (leave1; walk_say "STEP leave1"; try dsimp only) | fail "no step")))))
      refine push_claim w mean mg mb rest x dx ys.toArray n' od _ _ _ _ _ _ _ _ _ _ _ _ _ _ _ _ _ _ _ _ _ hB F3 hK N4 hT rfl ⟨hdx, hoff, by have := hPq.len; simp at hok1 ⊢; (first | lia | omega), hod1⟩ (by ktr_room) (by ktr_units) ?_
      rintro v ns h5 tk5 F5 N5 ⟨a5, n5, rfl, rfl, hxa, hla⟩
      clear I0 F3 N3
      rw [List.push_toArray] at N5
      (repeat' ((fail_if_success (with_reducible show wpAny _ _ (execs (_ :: _) _) _ _ _)); (((first | (k_unfold; (try dsimp only)) | (k_end; wrow_close) | walk1 | (dsimp only; walk1) | (leave1; walk_say "STEP leave1"; try dsimp only) | fail "no step")))))
      ((first | (k_unfold; (try dsimp only)) | (k_end; wrow_close) | walk1 | (dsimp only; walk1) | (leave1; walk_say "STEP leave1"; try dsimp only) | fail "no step"))
      (repeat' ((fail_if_success (with_reducible show wpAny _ _ (execs (_ :: _) _) _ _ _)); (((first | (k_unfold; (try dsimp only)) | (k_end; wrow_close) | walk1 | (dsimp only; walk1) | (leave1; walk_say "STEP leave1"; try dsimp only) | fail "no step")))))
      rename Fr g _ _ _ => F6
      rename News g _ _ _ => N6
      rw [lit_nil] at F6
      have hst : stepP (qs ++ [(l, r)], bl) c = (qs ++ [(l, r)] ++ [(bl, [c])], []) := by
        rw [stepP_snoc hc, if_neg (by simpa using hne)]
      have hoff2 : ∀ p ∈ (a5, tup2 (T l) t (T r) u) :: rest, p.1 ≠ x := fun p hp => by
        rcases List.mem_cons.mp hp with rfl | hp
        · exact Nat.ne_of_gt hxa
        · exact hoff p hp
      refine lawD4 (dx := dx) (od := od) (vs := ys ++ [Value.ref a5]) (qs := qs ++ [(l, r)]) (l := bl) (r := []) (c := c) (rest := (a5, tup2 (T l) t (T r) u) :: rest) w mean mg mb g L fa cd _ Q E hat (by exact F6) rfl rfl rfl rfl (by exact fun p hp => N6 p (.tail _ hp)) (.tail _ hdx) hoff2 hod1 hod2 (.snoc ((hPq.mono hsub).mono fun p hp => .tail _ hp) (.head _)) (by simp) (by have := hPq.len; simp at hok1 ⊢; (first | lia | omega)) hB hK hT h77 ?_
      intro h9 tk9 n9 t9 a9 u1 u2 F9 N9 hxa9 hla9
      refine hrest h9 _ n9 (ys ++ [Value.ref a5] ++ [Value.ref a9]) [(a9, tup2 (T bl) u1 (T ([] ++ [c])) u2), (a5, tup2 (T l) t (T r) u)] _ F9 ?_ ?_ ?_ ?_ ?_
      · rw [hst]; exact ⟨_, rfl⟩
      · intro y h1 h2 h3 h4
        simp only [if_neg h1, if_neg h2, if_neg h3, if_neg h4]
        rw [if_back e3]
      · exact N9
      · intro p hp
        rcases List.mem_cons.mp hp with rfl | hp
        · exact ⟨hxa9, fun q hq => hla9 q (.tail _ hq)⟩
        · rw [List.mem_singleton.mp hp]; exact ⟨hxa, hla⟩
      · rw [hst]
        exact Pcs.snoc (.snoc (hPq.mono fun p hp => .tail _ (.tail _ hp)) (.tail _ (.head _))) (.head _)
    · rename Fr g _ _ _ => F6
      rename News g _ _ _ => N6
      rename ((_ != T [c]) = false) => hne
      rw [T_item_neg r (by omega) (by omega), T_app, bne, T_beq] at hne
      have hr1 : ((-1 : Int) + r.length).toNat = r.length - 1 := by omega
      rw [hr1] at hne
      have hst : stepP (qs ++ [(l, r)], bl) c = (qs ++ [(l, r ++ [c])], []) := by
        rw [stepP_snoc hc, if_pos (by simpa using hne)]
      refine lawD4 (dx := dx) (od := od) (vs := ys) (qs := qs) (l := l) (r := r) (c := c) (rest := rest) w mean mg mb g L fa cd _ Q E hat (by exact F6) rfl rfl rfl rfl (by exact fun p hp => N6 p (.tail _ hp)) hdx hoff hod1 hod2 (hPq.mono hsub) hr.2.1 (by have := hPq.len; simp at hok1 ⊢; (first | lia | omega)) hB hK hT h77 ?_
      intro h9 tk9 n9 t9 a9 u1 u2 F9 N9 hxa9 hla9
      refine hrest h9 _ n9 (ys ++ [Value.ref a9]) [(a9, tup2 (T l) u1 (T (r ++ [c])) u2)] _ F9 ?_ ?_ ?_ ?_ ?_
      · rw [hst]; exact ⟨_, rfl⟩
      · intro y h1 h2 h3 h4
        simp only [if_neg h1, if_neg h2, if_neg h3, if_neg h4]
        rw [if_back e3]
      · exact N9
      · intro p hp
        rw [List.mem_singleton.mp hp]; exact ⟨hxa9, hla9⟩
      · rw [hst]
        exact Pcs.snoc (hPq.mono fun p hp => .tail _ hp) (.head _)
end
section
open PySem PySem.W PyProof.Rows
theorem lawD2 (w : World) (mean : ExcName → Option Value) (mg mb : Str → Option Value) (g : Heap) (L fa : Addr) (cd : Value) (s : Shared)
    (Q : Flow → Shared → Prop) (E : Value → Shared → Prop) {FULL : List Stmt} {scope : Scope} {qual : Str} {cdv : Value}
    (hat : AtFn (hd.heap_39 w.params) 157 FULL scope qual cdv)
    {x dx : Addr} {od : Obj} {vs : List Value} {n : Nat} {ps : List (List Nat × List Nat)} {bl : List Nat} {m : Str → Option Value} {rest sub : List (Addr × Obj)} {sg : Int} {tsg tb : Tok}
    (hF : Fr g L s.heap m) (e1 : m (Str.ofString "sign") = some (.int sg tsg)) (e2 : m (Str.ofString "blanks") = some (.str (T bl) tb)) (e3 : m (Str.ofString "pile") = some (.ref x))
    (hN : News g L s.heap ((x, pileObj 115 dx vs.toArray n) :: rest)) (hdx : (dx, od) ∈ rest) (hoff : ∀ p ∈ rest, p.1 ≠ x) (hod1 : shadowIn (some od) (Str.ofString "append") = some false) (hod2 : shadowIn (some od) (Str.ofString "push") = some false) (hod3 : shadowIn (some od) (Str.ofString "pop") = some false) (hod4 : shadowIn (some od) (Str.ofString "part_count") = some false)
    (hP : Pcs sub vs ps) (hsub : ∀ p ∈ sub, p ∈ rest) (hok : okP 100 (ps, bl)) (hsg : sg = 0 ∨ sg = 1 ∨ sg = -1)
    (hB : Below callerA g [] g) (hK : (hd.heap_39 w.params).In g) (hT : Top hdB.view_39 (looseW hdB.view_39 [Str.ofString "_Accumulator"]) mean mg mb g)
    (h77 : 84 < L)
    (hrest : ∀ (h : Heap) (tk n : Nat) (vs : List Value) (add : List (Addr × Obj)) (m' : Str → Option Value), Fr g L h m' → AtS m' (Str.ofString "blanks") (T (stepP (ps, bl) (lett sg)).2) →
      (∀ y, y ≠ Str.ofString "blanks" → y ≠ Str.ofString "letter" → y ≠ Str.ofString "lead" → y ≠ Str.ofString "run" → m' y = m y) →
      News g L h ((x, pileObj 115 dx vs.toArray n) :: (add ++ rest)) → (∀ p ∈ add, x < p.1 ∧ ∀ q ∈ rest, q.1 < p.1) → Pcs (add ++ sub) vs (stepP (ps, bl) (lett sg)).1 → Q .next { s with heap := h, toks := tk }) :
    wpAny (model Challenge.rw_xj0014_01.row.prog w) (callerA.deeper (envOfC qual scope L fa cd)) (execs ((bodyAt FULL 10).drop 2) (envOfC qual scope L fa cd)) Q E s := by
  revert hK; k_fill; intro hK
  refine' hat.elim ?h ?_
  case h => k_is
  intro e1 e2 e3 e4
  subst e1 e2 e3 e4
  try simp only [List.drop_succ_cons, List.drop_zero] at hrest ⊢
  dsimp only [bodyAt, List.drop] at hrest ⊢
  have hTb : (T bl).length = bl.length := T_len _
  have hbl : bl.length ≤ 100 := hok.2.1
  replace hF := Fr.as hF (mapL_cons e1 (mapL_cons e2 (mapL_cons e3 mapL_nil)))
  ((((repeat' ((with_reducible show wpAny _ _ (execs (_ :: _) _) _ _ _); (((first | (k_unfold; (try dsimp only)) | (k_end; wrow_close) | walk1 | (dsimp only; walk1) | (leave1; walk_say "STEP leave1"; try dsimp only) | fail "no step")))))); ((repeat' ((fail_if_success (with_reducible show wpAny _ _ (execs (_ :: _) _) _ _ _)); (fail_if_success (with_reducible show wpAny _ _ (eval (PySem.Expr.ListComp _ _ _ _) _) _ _ _)); (fail_if_success (with_reducible show wpAny _ _ (getMethod (Value.ref _) _ _) _ _ _)); (fail_if_success (with_reducible show wpAny _ _ (call (Value.ref _) _) _ _ _)); (fail_if_success (with_reducible show wpAny _ _ (pyIter _) _ _ _)); (((first | (k_unfold; (try dsimp only)) | (k_end; wrow_close) | walk1 | (dsimp only; walk1) | (leave1; walk_say "STEP leave1"; try dsimp only) | fail "no step"))))))))
  · ((((repeat' ((with_reducible show wpAny _ _ (execs (_ :: _) _) _ _ _); (((first | (k_unfold; (try dsimp only)) | (k_end; wrow_close) | walk1 | (dsimp only; walk1) | (leave1; walk_say "STEP leave1"; try dsimp only) | fail "no step")))))); ((repeat' ((fail_if_success (with_reducible show wpAny _ _ (execs (_ :: _) _) _ _ _)); (((first | (k_unfold; (try dsimp only)) | (k_end; wrow_close) | walk1 | (dsimp only; walk1) | (leave1; walk_say "STEP leave1"; try dsimp only) | fail "no step"))))))))
    rename Fr g _ _ _ => F6
    rename News g _ _ _ => N6
    rename (sg = 0) => h0
    rw [lit_sp, T_app] at F6
    have hl : lett sg = 32 := by rw [h0]; rfl
    refine hrest _ _ n vs [] _ F6 ?_ ?_ N6 (fun p hp => by cases hp) ?_
    · rw [hl, stepP_sp]; exact ⟨_, rfl⟩
    · intro y h1 h2 h3 h4
      simp only [if_neg h1]
      rw [if_back e3, if_back e1]
    · rw [hl, stepP_sp]; exact hP
  · ((((repeat' ((with_reducible show wpAny _ _ (execs (_ :: _) _) _ _ _); (((first | (k_unfold; (try dsimp only)) | (k_end; wrow_close) | walk1 | (dsimp only; walk1) | (leave1; walk_say "STEP leave1"; try dsimp only) | fail "no step")))))); ((repeat' ((fail_if_success (with_reducible show wpAny _ _ (execs (_ :: _) _) _ _ _)); (((first | (k_unfold; (try dsimp only)) | (k_end; wrow_close) | walk1 | (dsimp only; walk1) | (leave1; walk_say "STEP leave1"; try dsimp only) | fail "no step"))))))))
    · rename Fr g _ _ _ => F6
      rename News g _ _ _ => N6
      rename (sg = 1) => h1
      have hl : lett sg = 97 := by rw [h1]; rfl
      rw [lit_a] at F6
      dsimp only
      refine lawD3 (dx := dx) (od := od) (vs := vs) (ps := ps) (bl := bl) (c := 97) (rest := rest) w mean mg mb g L fa cd _ _ E hat (by exact F6) rfl rfl rfl (by exact N6) hdx hoff hod1 hod2 hod3 hod4 hP hsub hok (by decide) hB hK hT h77 ?_
      intro h9 tk9 n9 vs9 add9 m9 F9 b9 y9 N9 a9 P9
      clear F6 N6
      (repeat' ((fail_if_success (with_reducible show wpAny _ _ (execs (_ :: _) _) _ _ _)); (((first | (k_unfold; (try dsimp only)) | (k_end; wrow_close) | walk1 | (dsimp only; walk1) | (leave1; walk_say "STEP leave1"; try dsimp only) | fail "no step")))))
      refine hrest h9 tk9 n9 vs9 add9 m9 F9 (by rw [hl]; exact b9) (fun y h1 h2 h3 h4 => ?_) N9 a9 (by rw [hl]; exact P9)
      rw [y9 y h1 h2 h3 h4]
      simp only [if_neg h2]
      rw [if_back e3, if_back e2, if_back e1]
    · rename Fr g _ _ _ => F6
      rename News g _ _ _ => N6
      have hl : lett sg = 65 := by
        rcases hsg with h | h | h
        · exact absurd h (by assumption)
        · exact absurd h (by assumption)
        · rw [h]; rfl
      rw [lit_A] at F6
      dsimp only
      refine lawD3 (dx := dx) (od := od) (vs := vs) (ps := ps) (bl := bl) (c := 65) (rest := rest) w mean mg mb g L fa cd _ _ E hat (by exact F6) rfl rfl rfl (by exact N6) hdx hoff hod1 hod2 hod3 hod4 hP hsub hok (by decide) hB hK hT h77 ?_
      intro h9 tk9 n9 vs9 add9 m9 F9 b9 y9 N9 a9 P9
      clear F6 N6
      (repeat' ((fail_if_success (with_reducible show wpAny _ _ (execs (_ :: _) _) _ _ _)); (((first | (k_unfold; (try dsimp only)) | (k_end; wrow_close) | walk1 | (dsimp only; walk1) | (leave1; walk_say "STEP leave1"; try dsimp only) | fail "no step")))))
      refine hrest h9 tk9 n9 vs9 add9 m9 F9 (by rw [hl]; exact b9) (fun y h1 h2 h3 h4 => ?_) N9 a9 (by rw [hl]; exact P9)
      rw [y9 y h1 h2 h3 h4]
      simp only [if_neg h2]
      rw [if_back e3, if_back e2, if_back e1]
end
section
open PySem PySem.W PyProof.Rows
inductive PInv (x dx DT : Addr) (R5 : List (Addr × Obj)) (fs : List Int) (m : Str → Option Value) (i : Nat) (m₁ : Str → Option Value) (nx : List (Addr × Obj)) : Prop
  | mk (vs : List Value) (n : Nat) (tv : List Value) (c2 : Nat) (add : List (Addr × Obj)) (h0 : nx = (x, pileObj 115 dx vs.toArray n) :: (DT, W.listOf tv.toArray c2) :: (add ++ R5)) (hadd : ∀ p ∈ add, DT < p.1)
      (hP : Pcs add vs (runP ((fs.take i).map lett)).1) (htv : IntsAre tv ((fs.take i).map fun f => sgn f 0)) (eb : AtS m₁ (Str.ofString "blanks") (T (runP ((fs.take i).map lett)).2))
      (hm : ∀ y, y ≠ Str.ofString "place" → y ≠ Str.ofString "sign" → y ≠ Str.ofString "blanks" → y ≠ Str.ofString "letter" → y ≠ Str.ofString "lead" → y ≠ Str.ofString "run" → m₁ y = m y) : PInv x dx DT R5 fs m i m₁ nx
theorem pm1 {α : Type} {d f x p : α} {l r o : List α} (hf : f ∈ r) (h : p ∈ d :: f :: x :: (l ++ r ++ o)) : p ∈ x :: d :: (l ++ r) ++ o := by
  simp only [List.cons_append, List.mem_cons, List.mem_append] at *
  rcases h with h | h | h | h
  · exact .inr (.inl h)
  · exact .inr (.inr (.inl (.inr (h ▸ hf))))
  · exact .inl h
  · exact .inr (.inr h)
theorem pm2 {α : Type} {d f x p : α} {l : List α} (h : p ∈ x :: d :: l) : p ∈ d :: f :: x :: l := by
  simp only [List.mem_cons] at *
  rcases h with h | h | h
  · exact .inr (.inr (.inl h))
  · exact .inl h
  · exact .inr (.inr (.inr h))
theorem pm3 {α : Type} {d x p : α} {l3 l r o : List α} (h : p ∈ x :: d :: ((l3 ++ l) ++ r) ++ o) : p ∈ x :: (l3 ++ d :: (l ++ r ++ o)) := by
  simp only [List.cons_append, List.mem_cons, List.mem_append] at *
  rcases h with h | h | ((h | h) | h) | h
  · exact .inl h
  · exact .inr (.inr (.inl h))
  · exact .inr (.inl h)
  · exact .inr (.inr (.inr (.inl (.inl h))))
  · exact .inr (.inr (.inr (.inl (.inr h))))
  · exact .inr (.inr (.inr (.inr h)))
theorem sgn_three (f : Int) : sgn f 0 = 0 ∨ sgn f 0 = 1 ∨ sgn f 0 = -1 := by unfold sgn; split <;> (try split) <;> simp
theorem lett_sgn (f : Int) : lett (sgn f 0) = lett f := by
  unfold lett sgn
  by_cases h1 : 0 < f
  · rw [if_pos h1, if_pos h1]; rfl
  · rw [if_neg h1, if_neg h1]
    by_cases h2 : f < 0
    · rw [if_pos h2, if_pos h2]; rfl
    · rw [if_neg h2, if_neg h2]; rfl
theorem take_one {fs : List Int} {i : Nat} (hi : i < fs.length) : fs.take (i + 1) = fs.take i ++ [fs.getD i 0] := by
  rw [List.take_add_one, List.getD_eq_getElem?_getD, List.getElem?_eq_getElem hi]; rfl
theorem run_take {fs : List Int} {i : Nat} (hi : i < fs.length) : runP ((fs.take (i + 1)).map lett) = stepP (runP ((fs.take i).map lett)) (lett (sgn (fs.getD i 0) 0)) := by
  rw [take_one hi, List.map_append, List.map_singleton, runP_snoc, lett_sgn]
theorem okP_take {fs : List Int} {i : Nat} (hfs : fs.length = 8) : okP 100 (runP ((fs.take i).map lett)) := by
  have := runP_ok ((fs.take i).map lett)
  have hl : ((fs.take i).map lett).length ≤ 100 := by rw [List.length_map, List.length_take]; omega
  exact ⟨Nat.le_trans this.1 hl, Nat.le_trans this.2.1 hl, fun p hp => ⟨Nat.le_trans (this.2.2 p hp).1 hl, Nat.le_trans (this.2.2 p hp).2.1 hl, (this.2.2 p hp).2.2⟩⟩
theorem len_take {fs : List Int} {i : Nat} (hfs : fs.length = 8) : ((fs.take i).map fun f => sgn f 0).length ≤ 100 := by rw [List.length_map, List.length_take]; omega
theorem five_lt {x dx FA L : Nat} {o1 o2 o3 o4 o5 : Obj} (h77 : 84 < L) (hdx : dx < x) (hFd : FA < dx) (hFA : L + 1 < FA) : ∀ p ∈ ([(dx, o1), (FA, o2), (77, o3), (84, o4), (L + 1, o5)] : List (Addr × Obj)), p.1 < x := by
  simp only [List.mem_cons, List.not_mem_nil, or_false]
  rintro p (rfl | rfl | rfl | rfl | rfl)
  · exact hdx
  · exact Nat.lt_trans hFd hdx
  · exact Nat.lt_trans (Nat.lt_trans (show 77 < 84 by decide) h77) (Nat.lt_trans (Nat.lt_succ_self L) (Nat.lt_trans hFA (Nat.lt_trans hFd hdx)))
  · exact Nat.lt_trans h77 (Nat.lt_trans (Nat.lt_succ_self L) (Nat.lt_trans hFA (Nat.lt_trans hFd hdx)))
  · exact Nat.lt_trans hFA (Nat.lt_trans hFd hdx)
theorem lawD (w : World) (mean : ExcName → Option Value) (mg mb : Str → Option Value) (g : Heap) (L fa : Addr) (cd : Value) (s : Shared)
    (Q : Flow → Shared → Prop) (E : Value → Shared → Prop) {FULL : List Stmt} {scope : Scope} {qual : Str} {cdv : Value}
    (hat : AtFn (hd.heap_39 w.params) 157 FULL scope qual cdv)
    {FA x dx DT : Addr} {oc od : Obj} {zs : List Value} {fs : List Int} {c n : Nat} {t4 : Tok} {m : Str → Option Value}
    (hF : Fr g L s.heap m) (e1 : m (Str.ofString "told") = some (.ref DT)) (e2 : m (Str.ofString "blanks") = some (.str (T []) t4)) (e3 : m (Str.ofString "pile") = some (.ref x)) (e4 : m (Str.ofString "figures") = some (.ref FA))
    (hN : News g L s.heap [(x, pileObj 115 dx #[] n), (DT, W.listOf #[] 0), (dx, od), (FA, W.listOf zs.toArray c), (77, tabObj #[]), (84, tabObj #[]), (L + 1, oc)]) (hzs : IntsAre zs fs) (hfs : fs.length = 8) (hxD : x < DT) (hdx : dx < x) (hFd : FA < dx) (hFA : L + 1 < FA)
    (hod1 : shadowIn (some od) (Str.ofString "append") = some false) (hod2 : shadowIn (some od) (Str.ofString "push") = some false) (hod3 : shadowIn (some od) (Str.ofString "pop") = some false) (hod4 : shadowIn (some od) (Str.ofString "part_count") = some false)
    (hB : Below callerA g [] g) (hK : (hd.heap_39 w.params).In g) (hT : Top hdB.view_39 (looseW hdB.view_39 [Str.ofString "_Accumulator"]) mean mg mb g)
    (h77 : 84 < L) (hE : PassesOwn (model Challenge.rw_xj0014_01.row.prog w) (callerA.deeper (envOfC qual scope L fa cd)) (envOfC qual scope L fa cd) E)
    (hrest : ∀ (h : Heap) (tk c2 n : Nat) (tv vs : List Value) (add : List (Addr × Obj)) (m' : Str → Option Value), Fr g L h m' →
      (∀ y, y ≠ Str.ofString "place" → y ≠ Str.ofString "sign" → y ≠ Str.ofString "blanks" → y ≠ Str.ofString "letter" → y ≠ Str.ofString "lead" → y ≠ Str.ofString "run" → m' y = m y) →
      News g L h ((x, pileObj 115 dx vs.toArray n) :: (DT, W.listOf tv.toArray c2) :: (add ++ [(dx, od), (FA, W.listOf zs.toArray c), (77, tabObj #[]), (84, tabObj #[]), (L + 1, oc)])) → (∀ p ∈ add, DT < p.1) →
      Pcs add vs (runP (fs.map lett)).1 → IntsAre tv (fs.map fun f => sgn f 0) →
      wpAny (model Challenge.rw_xj0014_01.row.prog w) (callerA.deeper (envOfC qual scope L fa cd)) (execs (FULL.drop 11) (envOfC qual scope L fa cd)) Q E { s with heap := h, toks := tk }) :
    wpAny (model Challenge.rw_xj0014_01.row.prog w) (callerA.deeper (envOfC qual scope L fa cd)) (execs (FULL.drop 10) (envOfC qual scope L fa cd)) Q E s := by
  revert hK; k_fill; intro hK
  refine' hat.elim ?h ?_
  case h => k_is
  intro e1 e2 e3 e4
  subst e1 e2 e3 e4
  try simp only [List.drop_succ_cons, List.drop_zero] at hrest ⊢
  obtain ⟨R5, hR5, mdx, mFA, hx5⟩ : ∃ R5 : List (Addr × Obj), R5 = [(dx, od), (FA, W.listOf zs.toArray c), (77, tabObj #[]), (84, tabObj #[]), (L + 1, oc)] ∧ (dx, od) ∈ R5 ∧ (FA, W.listOf zs.toArray c) ∈ R5 ∧ ∀ p ∈ R5, p.1 < x :=
    ⟨_, rfl, .head _, .tail _ (.head _), five_lt h77 hdx hFd hFA⟩
  replace hN : News g L s.heap ((x, pileObj 115 dx #[] n) :: (DT, W.listOf #[] 0) :: R5) := by rw [hR5]; exact hN
  rw [← hR5] at hrest
  replace hF := Fr.as hF (mapL_cons e1 (mapL_cons e2 (mapL_cons e3 (mapL_cons e4 mapL_nil))))
  (repeat' ((with_reducible show wpAny _ _ (execs (_ :: _) _) _ _ _); (((first | (k_unfold; (try dsimp only)) | (k_end; wrow_close) | walk1 | (dsimp only; walk1) | (leave1; walk_say "STEP leave1"; try dsimp only) | fail "no step")))))
  with_unfolding_all refine' For_invVF hF ?k1 ?k2 ?_ (hE := hE)
  case k1 => exact rfl
  case k2 => exact rfl
  (repeat' ((fail_if_success (with_reducible show wpAny _ _ (execs (_ :: _) _) _ _ _)); (fail_if_success (with_reducible show wpAny _ _ (eval (PySem.Expr.ListComp _ _ _ _) _) _ _ _)); (fail_if_success (with_reducible show wpAny _ _ (getMethod (Value.ref _) _ _) _ _ _)); (fail_if_success (with_reducible show wpAny _ _ (call (Value.ref _) _) _ _ _)); (fail_if_success (with_reducible show wpAny _ _ (pyIter _) _ _ _)); (((first | (k_unfold; (try dsimp only)) | (k_end; wrow_close) | walk1 | (dsimp only; walk1) | (leave1; walk_say "STEP leave1"; try dsimp only) | fail "no step")))))
  rename IsRange _ _ _ _ _ _ _ _ => R2
  rename Fr g _ _ _ => F2
  rename News g _ _ _ => N2
  refine range0_cut (n := 8) (PInv x dx DT R5 fs m)
    rfl R2 rfl (by decide) F2 N2 ?_ ?_ ?_
  · refine ⟨[], n, [], 0, [], rfl, (fun p hp => by cases hp), .nil, .nil, ⟨_, rfl⟩, fun y _ _ h3 _ _ _ => ?_⟩
    rw [if_back e4, if_back e3, if_back e2, if_back e1]
  · clear F2 N2 R2
    rintro i t m₁ nx h tk own hi ⟨vs, n, tv, c2, add, rfl, hadd, hP, htv, ⟨tb, eb⟩, hm⟩ hown F1 N1
    have offX : ∀ p ∈ add ++ R5 ++ own, p.1 ≠ x := fun p hp => (List.mem_append.mp hp).elim (fun hp => (List.mem_append.mp hp).elim (fun h => Nat.ne_of_gt (Nat.lt_trans hxD (hadd p h))) (fun h => Nat.ne_of_lt (hx5 p h))) fun h => hown p h x (.head _)
    have offD : ∀ p ∈ (x, pileObj 115 dx vs.toArray n) :: (add ++ R5 ++ own), p.1 ≠ DT := fun p hp => by
      rcases List.mem_cons.mp hp with rfl | hp
      · exact Nat.ne_of_lt hxD
      · exact (List.mem_append.mp hp).elim (fun hp => (List.mem_append.mp hp).elim (fun h => Nat.ne_of_gt (hadd p h)) (fun h => Nat.ne_of_lt (Nat.lt_trans (hx5 p h) hxD))) fun h => hown p h DT (.tail _ (.head _))
    have hmi : ∀ (y : Str) (v : Value), y ≠ Str.ofString "place" → y ≠ Str.ofString "sign" → y ≠ Str.ofString "blanks" → y ≠ Str.ofString "letter" → y ≠ Str.ofString "lead" → y ≠ Str.ofString "run" → m y = some v → m₁ y = some v := fun y v h1 h2 h3 h4 h5 h6 e => (hm y h1 h2 h3 h4 h5 h6).trans e
    have g1 := hmi _ _ (by decide) (by decide) (by decide) (by decide) (by decide) (by decide) e1
    have g3 := hmi _ _ (by decide) (by decide) (by decide) (by decide) (by decide) (by decide) e3
    have g4 := hmi _ _ (by decide) (by decide) (by decide) (by decide) (by decide) (by decide) e4
    refine lawD1 (FA := FA) (DT := DT) (zs := zs) (tv := tv) (fs := fs) (tn := (fs.take i).map fun f => sgn f 0) (c := c) (c2 := c2) (i := i) (tp := t) (news := (x, pileObj 115 dx vs.toArray n) :: (add ++ R5 ++ own)) w mean mg mb g L fa cd _ _ E hat (by exact F1) (by rw [if_pos rfl]) (by rw [if_neg (by decide)]; exact g4) (by rw [if_neg (by decide)]; exact g1) (by exact fun p hp => N1 p (pm1 mFA hp)) hzs htv (len_take hfs) hi hfs (Nat.ne_of_lt (Nat.lt_trans hFd (Nat.lt_trans hdx hxD))) offD hB hK hT h77 ?_
    intro h2 tk2 ts c22 tv2 htv2 F2 N2
    have hok := okP_take (i := i) hfs
    refine lawD2 (x := x) (dx := dx) (od := od) (vs := vs) (n := n) (ps := (runP ((fs.take i).map lett)).1) (bl := (runP ((fs.take i).map lett)).2) (rest := (DT, W.listOf tv2.toArray c22) :: (add ++ R5 ++ own)) (sub := add) (sg := sgn (fs.getD i 0) 0) (tsg := ts) (tb := tb) w mean mg mb g L fa cd _ _ E hat (by exact F2) (by rw [if_pos rfl]) (by rw [if_neg (by decide), if_neg (by decide)]; exact eb) (by rw [if_neg (by decide), if_neg (by decide)]; exact g3) (by exact fun p hp => N2 p (pm2 hp)) (.tail _ (List.mem_append_left _ (List.mem_append_right _ mdx))) (fun p hp => by
      rcases List.mem_cons.mp hp with rfl | hp
      · exact Nat.ne_of_gt hxD
      · exact offX p hp) hod1 hod2 hod3 hod4 hP (fun p hp => .tail _ (List.mem_append_left _ (List.mem_append_left _ hp))) hok (sgn_three _) hB hK hT h77 ?_
    intro h3 tk3 n3 vs3 add3 m3 F3 b3 y3 N3 a3 P3
    have hfi := take_one (fs := fs) (i := i) (by omega)
    have hru := run_take (fs := fs) (i := i) (by omega)
    refine Turn.mk (nx := (x, pileObj 115 dx vs3.toArray n3) :: (DT, W.listOf tv2.toArray c22) :: ((add3 ++ add) ++ R5)) F3 (fun p hp => N3 p (pm3 hp)) ?_ ⟨vs3, n3, tv2, c22, add3 ++ add, rfl, ?_, ?_, ?_, ?_, ?_⟩
    · intro p hp b hb
      rcases List.mem_cons.mp hb with rfl | hb
      · exact hown p hp _ (.head _)
      rcases List.mem_cons.mp hb with rfl | hb
      · exact hown p hp _ (.tail _ (.head _))
      rw [List.append_assoc, List.map_append] at hb
      rcases List.mem_append.mp hb with hb | hb
      · obtain ⟨q, hq, rfl⟩ := List.mem_map.mp hb
        exact Nat.ne_of_lt ((a3 q hq).2 p (.tail _ (List.mem_append_right _ hp)))
      · exact hown p hp b (.tail _ (.tail _ hb))
    · intro p hp
      rcases List.mem_append.mp hp with hp | hp
      · exact (a3 p hp).2 _ (.head _)
      · exact hadd p hp
    · rw [hru]; exact P3
    · rw [hfi, List.map_append]; exact htv2
    · rw [hru]; exact b3
    · intro y q1 q2 q3 q4 q5 q6
      rw [y3 y q3 q4 q5 q6, if_neg q2, if_neg q1]
      exact hm y q1 q2 q3 q4 q5 q6
  · clear F2 N2 R2
    rintro h tk m₁ nx ⟨vs, n, tv, c2, add, rfl, hadd, hP, htv, ⟨tb, eb⟩, hm⟩ F1 N1
    rw [List.take_of_length_le (Nat.le_of_eq hfs)] at hP htv
    exact hrest h tk c2 n tv vs add m₁ F1 hm N1 hadd hP htv
end
section
open PySem PySem.W PyProof.Rows
theorem T_nil : T [] = ⟨#[]⟩ := rfl
theorem T_cat (a b : List Nat) : T a ++ T b = T (a ++ b) := by
  apply Str.ext'
  show (T a).cps ++ (T b).cps = _
  simp [T]
theorem join_T (l : List (List Nat)) : Txt.join (Str.ofString "") (l.map T) = T l.flatten := by
  rw [lit_nil, T_nil, beq_iff_eq.mp (join_plain_closes _ _)]
  induction l with
  | nil => rfl
  | cons a r ih =>
    show Str.join ⟨#[]⟩ (T a :: r.map T) = _
    rw [List.flatten_cons, ← T_cat, ← ih]
    cases r with
    | nil =>
      show T a = T a ++ T []
      rw [T_cat, List.append_nil]
    | cons b r =>
      show T a ++ ⟨#[]⟩ ++ Str.join ⟨#[]⟩ (T b :: r.map T) = T a ++ Str.join ⟨#[]⟩ (T b :: r.map T)
      rw [← T_nil, T_cat, List.append_nil]
noncomputable def flat (ps : List (List Nat × List Nat)) : List Nat := ps.flatMap fun p => p.1 ++ p.2
theorem pieces_list (ps : List (List Nat × List Nat)) (k : Nat) (hk : k = ps.length) :
    ((List.range k).map fun j => Txt.join (Str.ofString "") [T (ps.getD j ([], [])).1, T (ps.getD j ([], [])).2]) = (ps.map fun p => p.1 ++ p.2).map T := by
  subst hk
  have e1 : ∀ j, Txt.join (Str.ofString "") [T (ps.getD j ([], [])).1, T (ps.getD j ([], [])).2] = T ((ps.getD j ([], [])).1 ++ (ps.getD j ([], [])).2) := fun j => by
    have := join_T [(ps.getD j ([], [])).1, (ps.getD j ([], [])).2]
    simpa using this
  simp only [e1]
  apply List.ext_getElem
  · simp
  · intro i h1 h2
    simp at h1
    simp [h1]
theorem join_pieces (ps : List (List Nat × List Nat)) (k : Nat) (hk : k = ps.length) :
    Txt.join (Str.ofString "") ((List.range k).map fun j => Txt.join (Str.ofString "") [T (ps.getD j ([], [])).1, T (ps.getD j ([], [])).2]) = T (flat ps) := by
  rw [pieces_list ps k hk, join_T, flat, List.flatMap_def]
theorem len_pieces (ps : List (List Nat × List Nat)) (k : Nat) (hk : k = ps.length) :
    (((List.range k).map fun j => Txt.join (Str.ofString "") [T (ps.getD j ([], [])).1, T (ps.getD j ([], [])).2]).map (·.length)).sum = (flat ps).length := by
  rw [pieces_list ps k hk, flat, List.length_flatMap, List.map_map, List.map_map]
  congr 1
theorem sum_pieces (ps : List (List Nat × List Nat)) : ∀ k, k ≤ ps.length →
    preSum (fun j => ((T (ps.getD j ([], [])).1).length : Int) + ((T (ps.getD j ([], [])).2).length : Int)) k = ((flat (ps.take k)).length : Int) := by
  intro k
  induction k with
  | zero => intro _; rfl
  | succ k ih =>
    intro hk
    rw [preSum, ih (Nat.le_of_succ_le hk), List.take_add_one, List.getElem?_eq_getElem (by omega)]
    simp only [flat, Option.toList_some, List.flatMap_append, List.flatMap_cons, List.flatMap_nil, List.append_nil, List.length_append, T_len, List.getD_eq_getElem?_getD, List.getElem?_eq_getElem (show k < ps.length by omega), Option.getD_some]
    omega
theorem Pcs.fns {n1 : List (Addr × Obj)} {vs : List Value} {ps : List (List Nat × List Nat)} (h : Pcs n1 vs ps) :
    ∃ (Ts : Nat → Addr) (tf tp : Nat → Tok), ∀ j, j < vs.length → vs[j]? = some (.ref (Ts j)) ∧ (Ts j, tup2 (T (ps.getD j ([], [])).1) (tf j) (T (ps.getD j ([], [])).2) (tp j)) ∈ n1 := by
  have hg : ∀ j, ∃ q : Addr × Tok × Tok, j < vs.length → vs[j]? = some (.ref q.1) ∧ (q.1, tup2 (T (ps.getD j ([], [])).1) q.2.1 (T (ps.getD j ([], [])).2) q.2.2) ∈ n1 := fun j => by
    by_cases hj : j < vs.length
    · obtain ⟨a, t, u, e⟩ := h.get j hj
      exact ⟨(a, t, u), fun _ => e⟩
    · exact ⟨(0, 0, 0), fun x => absurd x hj⟩
  exact ⟨fun j => (Classical.choose (hg j)).1, fun j => (Classical.choose (hg j)).2.1, fun j => (Classical.choose (hg j)).2.2, fun j hj => Classical.choose_spec (hg j) hj⟩
end
section
open PySem PySem.W PyProof.Rows
theorem lawE (w : World) (mean : ExcName → Option Value) (mg mb : Str → Option Value) (g : Heap) (L fa : Addr) (cd : Value) (s : Shared)
    (Q : Flow → Shared → Prop) (E : Value → Shared → Prop) {FULL : List Stmt} {scope : Scope} {qual : Str} {cdv : Value}
    (hat : AtFn (hd.heap_39 w.params) 157 FULL scope qual cdv)
    {x dx : Addr} {od : Obj} {vs : List Value} {n : Nat} {ps : List (List Nat × List Nat)} {news : List (Addr × Obj)} {be : Int} {u tb : Tok} {m : Str → Option Value}
    (hF : Fr g L s.heap m) (e1 : m (Str.ofString "pile") = some (.ref x)) (e2 : m (Str.ofString "below") = some (.int be tb))
    (hN : News g L s.heap ((77, tabObj #[]) :: (84, tabObj #[]) :: news)) (hx : (x, pileObj 115 dx vs.toArray n) ∈ news) (hdx : (dx, od) ∈ news)
    (hoff : ∀ p ∈ news, p.1 ≠ 77 ∧ p.1 ≠ 84) (hod4 : shadowIn (some od) (Str.ofString "part_count") = some false) (hod5 : lookIn (Str.ofString "_initial_size") od = some (some (.int 0 u)))
    (hP : Pcs news vs ps) (hvs : vs.length ≤ 100) (hb : ∀ p ∈ ps, p.1.length ≤ 100 ∧ p.2.length ≤ 100)
    (hcount : (ps.length : Int) = 1 + be) (hlen : (flat ps).length = 8)
    (hB : Below callerA g [] g) (hK : (hd.heap_39 w.params).In g) (hT : Top hdB.view_39 (looseW hdB.view_39 [Str.ofString "_Accumulator"]) mean mg mb g)
    (h77 : 84 < L) (hG : AllBare s.gens)
    (hrest : ∀ (s' : Shared) (p1 p2 : Array Value) (t : Tok), Fr g L s'.heap (fun y => if y = Str.ofString "row" then some (.str (T (flat ps)) t) else m y) → News g L s'.heap ((77, tabObj p1) :: (84, tabObj p2) :: news) → AllBare s'.gens → s'.os = s.os →
      wpAny (model Challenge.rw_xj0014_01.row.prog w) (callerA.deeper (envOfC qual scope L fa cd)) (execs (FULL.drop 13) (envOfC qual scope L fa cd)) Q E s') :
    wpAny (model Challenge.rw_xj0014_01.row.prog w) (callerA.deeper (envOfC qual scope L fa cd)) (execs (FULL.drop 11) (envOfC qual scope L fa cd)) Q E s := by
  revert hK; k_fill; intro hK
  refine' hat.elim ?h ?_
  case h => k_is
  intro e1 e2 e3 e4
  subst e1 e2 e3 e4
  try simp only [List.drop_succ_cons, List.drop_zero] at hrest ⊢
  replace hF := Fr.as hF (mapL_cons e1 (mapL_cons e2 mapL_nil))
  ((((repeat' ((with_reducible show wpAny _ _ (execs (_ :: _) _) _ _ _); (((first | (k_unfold; (try dsimp only)) | (k_end; wrow_close) | walk1 | (dsimp only; walk1) | (leave1; walk_say "STEP leave1"; try dsimp only) | fail "no step")))))); ((repeat' ((fail_if_success (with_reducible show wpAny _ _ (execs (_ :: _) _) _ _ _)); (fail_if_success (with_reducible show wpAny _ _ (eval (PySem.Expr.ListComp _ _ _ _) _) _ _ _)); (fail_if_success (with_reducible show wpAny _ _ (getMethod (Value.ref _) _ _) _ _ _)); (fail_if_success (with_reducible show wpAny _ _ (call (Value.ref _) _) _ _ _)); (fail_if_success (with_reducible show wpAny _ _ (pyIter _) _ _ _)); (((first | (k_unfold; (try dsimp only)) | (k_end; wrow_close) | walk1 | (dsimp only; walk1) | (leave1; walk_say "STEP leave1"; try dsimp only) | fail "no step"))))))))
  have I0 : InstAt s.heap x (pileObj 115 dx vs.toArray n) 115 (some od) := ⟨(hN _ (.tail _ (.tail _ hx))).1, rfl, rfl, (hN _ (.tail _ (.tail _ hdx))).1⟩
  refine methodL_fn (hK.keeps hF.keep) I0 (pile_ga w) (pile_gb w) (pile_count w) (by k_is) hod4 ?_
  (repeat' ((fail_if_success (with_reducible show wpAny _ _ (execs (_ :: _) _) _ _ _)); (fail_if_success (with_reducible show wpAny _ _ (eval (PySem.Expr.ListComp _ _ _ _) _) _ _ _)); (fail_if_success (with_reducible show wpAny _ _ (getMethod (Value.ref _) _ _) _ _ _)); (fail_if_success (with_reducible show wpAny _ _ (call (Value.ref _) _) _ _ _)); (fail_if_success (with_reducible show wpAny _ _ (pyIter _) _ _ _)); (((first | (k_unfold; (try dsimp only)) | (k_end; wrow_close) | walk1 | (dsimp only; walk1) | (leave1; walk_say "STEP leave1"; try dsimp only) | fail "no step")))))
  refine count_claim w mean mg mb _ x dx vs.toArray n od _ _ _ _ _ _ _ _ _ _ _ _ _ _ _ _ _ hB hF hK hN hT rfl ⟨.tail _ (.tail _ hx), .tail _ (.tail _ hdx)⟩ (by ktr_room) (by ktr_units) ?_
  rintro v ns h1 tk1 F1 N1 ⟨rfl, t, rfl⟩
  clear I0
  (repeat' ((fail_if_success (with_reducible show wpAny _ _ (execs (_ :: _) _) _ _ _)); (fail_if_success (with_reducible show wpAny _ _ (eval (PySem.Expr.ListComp _ _ _ _) _) _ _ _)); (fail_if_success (with_reducible show wpAny _ _ (getMethod (Value.ref _) _ _) _ _ _)); (fail_if_success (with_reducible show wpAny _ _ (call (Value.ref _) _) _ _ _)); (fail_if_success (with_reducible show wpAny _ _ (pyIter _) _ _ _)); (((first | (k_unfold; (try dsimp only)) | (k_end; wrow_close) | walk1 | (dsimp only; walk1) | (leave1; walk_say "STEP leave1"; try dsimp only) | fail "no step")))))
  · exfalso
    have h1 := hP.len
    rename (_ ≠ _) => hne
    simp only [List.size_toArray] at hne
    (first | lia | omega)
  rename Fr g _ _ _ => F2
  rename News g _ _ _ => N2
  obtain ⟨Ts, tf, tp, hit⟩ := hP.fns
  have hpl := hP.len
  have hbd : ∀ j, j < vs.toArray.size → (T (ps.getD j ([], [])).1).length ≤ 1000 ∧ (T (ps.getD j ([], [])).2).length ≤ 1000 := fun j hj => by
    have hj' : j < ps.length := by simpa [hpl] using hj
    have := hb (ps.getD j ([], [])) (by rw [List.getD_eq_getElem?_getD, List.getElem?_eq_getElem hj']; exact List.getElem_mem hj')
    rw [T_len, T_len]; (first | lia | omega)
  have hit2 : ∀ (pre : List (Addr × Obj)) j, j < vs.toArray.size → vs.toArray[j]? = some (.ref (Ts j)) ∧ (Ts j, tup2 (T (ps.getD j ([], [])).1) (tf j) (T (ps.getD j ([], [])).2) (tp j)) ∈ pre ++ news := fun pre j hj => by
    have := hit j (by simpa using hj)
    exact ⟨by simpa using this.1, List.mem_append_right _ this.2⟩
  have I1 : InstAt _ x (pileObj 115 dx vs.toArray n) 115 (some od) := ⟨(N2 _ (.tail _ (.tail _ hx))).1, rfl, rfl, (N2 _ (.tail _ (.tail _ hdx))).1⟩
  refine PySem.W.len_K (K := Mine.hd.heap_39 w.params) F2 hK I1 (pile_len w) (by kernel_rfl) ?_
  refine len_claim w mean mg mb ((84, tabObj #[]) :: news) x dx vs.toArray n od u Ts (fun j => T (ps.getD j ([], [])).1) (fun j => T (ps.getD j ([], [])).2) tf tp hB F2 hK N2 hT rfl rfl rfl rfl (by ktr_room) (by ktr_room) hG (fun p hp => ?_) (.tail _ hx) (.tail _ hdx) hod5 (hit2 [(84, tabObj #[])]) hbd (by simp; (first | lia | omega)) ?_
  · rcases List.mem_cons.mp hp with rfl | hp
    · decide
    · exact (hoff p hp).1
  intro v t3 s3 p3 F3 N3 G3 os3 hv
  subst hv
  rw [List.size_toArray, hpl, sum_pieces ps _ (Nat.le_refl _), List.take_length, hlen]
  refine ⟨⟨by decide, by decide⟩, ?_⟩
  clear F2 N2 I1 hN hF
  dsimp only
  (repeat' ((fail_if_success (with_reducible show wpAny _ _ (execs (_ :: _) _) _ _ _)); (((first | (k_unfold; (try dsimp only)) | (k_end; wrow_close) | walk1 | (dsimp only; walk1) | (leave1; walk_say "STEP leave1"; try dsimp only) | fail "no step")))))
  ((((repeat' ((with_reducible show wpAny _ _ (execs (_ :: _) _) _ _ _); (((first | (k_unfold; (try dsimp only)) | (k_end; wrow_close) | walk1 | (dsimp only; walk1) | (leave1; walk_say "STEP leave1"; try dsimp only) | fail "no step")))))); repeat' ((fail_if_success (with_reducible show wpAny _ _ (call (Value.type _) [Value.ref _]) _ _ _)); (fail_if_success (with_reducible show wpAny _ _ (execs (_ :: _) _) _ _ _)); (fail_if_success (with_reducible show wpAny _ _ (call (Value.ref _) _) _ _ _)); (((first | (k_unfold; (try dsimp only)) | (k_end; wrow_close) | walk1 | (dsimp only; walk1) | (leave1; walk_say "STEP leave1"; try dsimp only) | fail "no step"))))))
  rename Fr g _ _ _ => F5
  rename News g _ _ _ => N5
  have I5 : InstAt _ x (pileObj 115 dx vs.toArray n) 115 (some od) := ⟨(N5 _ (.tail _ (.tail _ hx))).1, rfl, rfl, (N5 _ (.tail _ (.tail _ hdx))).1⟩
  refine kso_call (K := Mine.hd.heap_39 w.params) (by ktr_units) (hK.keeps F5.keep) I5 (pile_str w) (by kernel_rfl) ?_
  refine str_claim w mean mg mb ((77, tabObj p3) :: news) x dx vs.toArray n od Ts (fun j => T (ps.getD j ([], [])).1) (fun j => T (ps.getD j ([], [])).2) tf tp hB F5 hK (fun p hp => N5 p (by grind)) hT rfl rfl rfl rfl (by ktr_room) (by ktr_room) G3 (fun p hp => ?_) (.tail _ hx) (.tail _ hdx) (hit2 [(77, tabObj p3)]) hbd (by simp; (first | lia | omega)) ?_ ?_
  · rcases List.mem_cons.mp hp with rfl | hp
    · exact (by decide : (77 : Nat) ≠ 84)
    · exact (hoff p hp).2
  · rw [len_pieces ps _ (by simp [hpl]), hlen]; decide
  intro v t6 s6 p6 F6 N6 G6 os6 hv
  subst hv
  rw [join_pieces ps _ (by simp [hpl])]
  show StrBack _ (Value.str _ _) _
  dsimp only [StrBack]
  clear F5 N5 I5
  (repeat' ((fail_if_success (with_reducible show wpAny _ _ (execs (_ :: _) _) _ _ _)); (((first | (k_unfold; (try dsimp only)) | (k_end; wrow_close) | walk1 | (dsimp only; walk1) | (leave1; walk_say "STEP leave1"; try dsimp only) | fail "no step")))))
  rename Fr g _ _ _ => F7
  rename News g _ _ _ => N7
  refine hrest _ p3 p6 t6 (Fr.as F7 fun y => by rw [if_back e2, if_back e1]) (fun p hp => N7 p (by grind)) G6 ?_
  exact os6.trans os3
end
section
open PySem PySem.W PyProof.Rows
theorem T_rev (l : List Nat) (u : Tok) : Txt.sliceBy (T l) none none (-1, u) = T l.reverse := by
  apply Str.ext'
  apply Array.ext'
  rw [step_rev_list, T_cps]
  apply List.ext_getElem
  · rw [List.length_map, List.length_range, T_len, List.length_reverse]
  · intro i h1 h2
    rw [List.length_map, List.length_range, T_len] at h1
    rw [List.getElem_map, List.getElem_range, T_len, List.getElem_reverse]
    show (l.toArray).getD _ 0 = _
    rw [Array.getD_eq_getD_getElem?, List.getElem?_toArray, List.getElem?_eq_getElem (by omega)]
    rfl
end
section
open PySem PySem.W PyProof.Rows
theorem lawF (w : World) (mean : ExcName → Option Value) (mg mb : Str → Option Value) (g : Heap) (L fa : Addr) (cd : Value) (s : Shared)
    (Q : Flow → Shared → Prop) (E : Value → Shared → Prop) {FULL : List Stmt} {scope : Scope} {qual : Str} {cdv : Value}
    (hat : AtFn (hd.heap_39 w.params) 157 FULL scope qual cdv)
    {cs : List Nat} {news : List (Addr × Obj)} {be ab : Int} {t1 t2 t3 : Tok} {m : Str → Option Value}
    (hF : Fr g L s.heap m) (e1 : m (Str.ofString "row") = some (.str (T cs) t1)) (e2 : m (Str.ofString "below") = some (.int be t2)) (e3 : m (Str.ofString "above") = some (.int ab t3))
    (hN : News g L s.heap news) (hcs : cs.length = 8) (hne : ∃ c ∈ cs, c ≠ 32)
    (hbl : ((stripL cs (-1)).length : Int) = 1 + be + ab) (hba : (stripL cs (-1)).getD ((stripL cs (-1)).length - 1) 0 = 97) (hb0 : 0 < (stripL cs (-1)).length ∧ (stripL cs (-1)).length ≤ 8)
    (hB : Below callerA g [] g) (hK : (hd.heap_39 w.params).In g) (hT : Top hdB.view_39 (looseW hdB.view_39 [Str.ofString "_Accumulator"]) mean mg mb g)
    (h77 : 84 < L)
    (hrest : ∀ (h : Heap) (tk t4 t5 : Nat), Fr g L h (fun y => if y = Str.ofString "bare" then some (.str (T (stripL cs (-1))) t4) else if y = Str.ofString "both" then some (.str (T (cs ++ cs.reverse)) t5) else m y) → News g L h news →
      wpAny (model Challenge.rw_xj0014_01.row.prog w) (callerA.deeper (envOfC qual scope L fa cd)) (execs (FULL.drop 16) (envOfC qual scope L fa cd)) Q E { s with heap := h, toks := tk }) :
    wpAny (model Challenge.rw_xj0014_01.row.prog w) (callerA.deeper (envOfC qual scope L fa cd)) (execs (FULL.drop 13) (envOfC qual scope L fa cd)) Q E s := by
  revert hK; k_fill; intro hK
  refine' hat.elim ?h ?_
  case h => k_is
  intro e1 e2 e3 e4
  subst e1 e2 e3 e4
  try simp only [List.drop_succ_cons, List.drop_zero] at hrest ⊢
  have hTc : (T cs).length = cs.length := T_len _
  replace hF := Fr.as hF (mapL_cons e1 (mapL_cons e2 (mapL_cons e3 mapL_nil)))
  ((((repeat' ((with_reducible show wpAny _ _ (execs (_ :: _) _) _ _ _); (((first | (k_unfold; (try dsimp only)) | (k_end; wrow_close) | walk1 | (dsimp only; walk1) | (leave1; walk_say "STEP leave1"; try dsimp only) | fail "no step")))))); repeat' ((fail_if_success (with_reducible show wpAny _ _ (call (Value.type _) [Value.ref _]) _ _ _)); (fail_if_success (with_reducible show wpAny _ _ (execs (_ :: _) _) _ _ _)); (fail_if_success (with_reducible show wpAny _ _ (call (Value.ref _) _) _ _ _)); (((first | (k_unfold; (try dsimp only)) | (k_end; wrow_close) | walk1 | (dsimp only; walk1) | (leave1; walk_say "STEP leave1"; try dsimp only) | fail "no step"))))))
  rw [T_rev]
  have hTr : (T cs.reverse).length = cs.length := by rw [T_len, List.length_reverse]
  (repeat' ((fail_if_success (with_reducible show wpAny _ _ (execs (_ :: _) _) _ _ _)); (((first | (k_unfold; (try dsimp only)) | (k_end; wrow_close) | walk1 | (dsimp only; walk1) | (leave1; walk_say "STEP leave1"; try dsimp only) | fail "no step")))))
  ((((repeat' ((with_reducible show wpAny _ _ (execs (_ :: _) _) _ _ _); (((first | (k_unfold; (try dsimp only)) | (k_end; wrow_close) | walk1 | (dsimp only; walk1) | (leave1; walk_say "STEP leave1"; try dsimp only) | fail "no step")))))); repeat' ((fail_if_success (with_reducible show wpAny _ _ (call (Value.type _) [Value.ref _]) _ _ _)); (fail_if_success (with_reducible show wpAny _ _ (execs (_ :: _) _) _ _ _)); (fail_if_success (with_reducible show wpAny _ _ (call (Value.ref _) _) _ _ _)); (((first | (k_unfold; (try dsimp only)) | (k_end; wrow_close) | walk1 | (dsimp only; walk1) | (leave1; walk_say "STEP leave1"; try dsimp only) | fail "no step"))))))
  rename Fr g _ _ _ => F2
  rename News g _ _ _ => N2
  rw [T_app] at F2
  refine strip_claim w mean mg mb _ cs _ (-1) _ _ _ _ _ _ _ _ _ _ _ _ _ _ _ _ _ _ hB F2 hK N2 hT rfl ⟨by omega, hne⟩ (by ktr_room) (by ktr_units) ?_
  intro t4 h4 tk4 F4 N4
  clear hTr
  have hTs : (T (stripL cs (-1))).length = (stripL cs (-1)).length := T_len _
  generalize stripL cs (-1) = sb at *
  (repeat' ((fail_if_success (with_reducible show wpAny _ _ (execs (_ :: _) _) _ _ _)); (((first | (k_unfold; (try dsimp only)) | (k_end; wrow_close) | walk1 | (dsimp only; walk1) | (leave1; walk_say "STEP leave1"; try dsimp only) | fail "no step")))))
  ((((repeat' ((with_reducible show wpAny _ _ (execs (_ :: _) _) _ _ _); (((first | (k_unfold; (try dsimp only)) | (k_end; wrow_close) | walk1 | (dsimp only; walk1) | (leave1; walk_say "STEP leave1"; try dsimp only) | fail "no step")))))); ((repeat' ((fail_if_success (with_reducible show wpAny _ _ (execs (_ :: _) _) _ _ _)); (((first | (k_unfold; (try dsimp only)) | (k_end; wrow_close) | walk1 | (dsimp only; walk1) | (leave1; walk_say "STEP leave1"; try dsimp only) | fail "no step"))))))))
  · exfalso
    rename (_ ≠ 1 + be + ab) => hne2
    exact hne2 (by rw [hTs]; exact hbl)
  · exfalso
    rename ((_ != Str.ofString "a") = true) => hne2
    rw [T_item_neg sb (by omega) (by omega), bne, lit_a, T_beq, show ((-1 : Int) + sb.length).toNat = sb.length - 1 by omega, hba] at hne2
    simp at hne2
  · rename Fr g _ _ _ => F6
    rename News g _ _ _ => N6
    exact hrest _ _ t4 _ (Fr.as F6 fun y => by rw [if_back e3, if_back e2, if_back e1]) N6
end
section
open PySem PySem.W PyProof.Rows
theorem slA (no i : Nat) : (if (no : Int) < (i : Int) then (no : Int) else (i : Int)) = ((min i no : Nat) : Int) := by
  split
  · rw [Nat.min_eq_right (by omega)]
  · rw [Nat.min_eq_left (by omega)]
theorem slC (no i : Nat) : (if (i : Int) - (no : Int) > 0 then (i : Int) - (no : Int) else 0) = ((i - no : Nat) : Int) := by
  split <;> lia
theorem slB (no i : Nat) (hno : no ≤ 7) : (16 - if (no : Int) < if (i : Int) - (no : Int) > 0 then (i : Int) - (no : Int) else 0 then (no : Int) else if (i : Int) - (no : Int) > 0 then (i : Int) - (no : Int) else 0) = ((16 - min (i - no) no : Nat) : Int) := by
  rw [slC, slA]
  have := Nat.min_le_right (i - no) no
  generalize min (i - no) no = x at *
  omega
theorem slD (x y n : Nat) (hx : x ≤ n) (hy : y ≤ n) (hn : n ≤ 7) : x ≤ 16 - y :=
  Nat.le_sub_of_add_le (Nat.le_trans (Nat.add_le_add hx hy) (Nat.le_trans (Nat.add_le_add hn hn) (by decide)))
theorem T_slice_nat (l : List Nat) {i j : Nat} (h1 : i ≤ j) (h2 : j ≤ l.length) : Txt.slice (T l) (some (i : Int)) (some (j : Int)) = T ((l.drop i).take (j - i)) := by
  rw [T_slice_ss l (Int.natCast_nonneg _) (Int.ofNat_le.mpr h1) (Int.ofNat_le.mpr h2), ← Int.ofNat_sub h1, Int.toNat_natCast, Int.toNat_natCast]
theorem slice_part {bo : List Nat} {no i : Nat} (hbo : bo.length = 16) (hno : no ≤ 7) :
    Txt.slice (T bo) (some (if (no : Int) < (i : Int) then (no : Int) else (i : Int))) (some (16 - if (no : Int) < if (i : Int) - (no : Int) > 0 then (i : Int) - (no : Int) else 0 then (no : Int) else if (i : Int) - (no : Int) > 0 then (i : Int) - (no : Int) else 0)) =
      T ((bo.drop (min i no)).take ((16 - min (i - no) no) - min i no)) := by
  rw [slA, slB _ _ hno]
  exact T_slice_nat bo (slD _ _ no (Nat.min_le_right _ _) (Nat.min_le_right _ _) hno) (hbo ▸ Nat.sub_le _ _)
theorem lawG (w : World) (mean : ExcName → Option Value) (mg mb : Str → Option Value) (g : Heap) (L fa : Addr) (cd : Value) (s : Shared)
    (Q : Flow → Shared → Prop) (E : Value → Shared → Prop) {FULL : List Stmt} {scope : Scope} {qual : Str} {cdv : Value}
    (hat : AtFn (hd.heap_39 w.params) 157 FULL scope qual cdv)
    {bo : List Nat} {news : List (Addr × Obj)} {no : Nat} {t1 t2 : Tok} {m : Str → Option Value}
    (hF : Fr g L s.heap m) (e1 : m (Str.ofString "both") = some (.str (T bo) t1)) (e2 : m (Str.ofString "noughts") = some (.int no t2))
    (hN : News g L s.heap news) (hbo : bo.length = 16) (hne : ∃ c ∈ bo, c ≠ 32) (hno : no ≤ 7)
    (hst : ∀ p, p < 2 * no + 2 → stripL bo p = (bo.drop (min p no)).take ((16 - min (p - no) no) - min p no))
    (hB : Below callerA g [] g) (hK : (hd.heap_39 w.params).In g) (hT : Top hdB.view_39 (looseW hdB.view_39 [Str.ofString "_Accumulator"]) mean mg mb g)
    (h77 : 84 < L) (hE : PassesOwn (model Challenge.rw_xj0014_01.row.prog w) (callerA.deeper (envOfC qual scope L fa cd)) (envOfC qual scope L fa cd) E)
    (hrest : ∀ (h : Heap) (tk : Nat) (m' : Str → Option Value), Fr g L h m' → (∀ y, y ≠ Str.ofString "part" → m' y = m y) → News g L h news →
      wpAny (model Challenge.rw_xj0014_01.row.prog w) (callerA.deeper (envOfC qual scope L fa cd)) (execs (FULL.drop 17) (envOfC qual scope L fa cd)) Q E { s with heap := h, toks := tk }) :
    wpAny (model Challenge.rw_xj0014_01.row.prog w) (callerA.deeper (envOfC qual scope L fa cd)) (execs (FULL.drop 16) (envOfC qual scope L fa cd)) Q E s := by
  revert hK; k_fill; intro hK
  refine' hat.elim ?h ?_
  case h => k_is
  intro e1 e2 e3 e4
  subst e1 e2 e3 e4
  try simp only [List.drop_succ_cons, List.drop_zero] at hrest ⊢
  have hTb : (T bo).length = bo.length := T_len _
  have hF0 := hF
  replace hF := Fr.as hF (mapL_cons e1 (mapL_cons e2 mapL_nil))
  (repeat' ((with_reducible show wpAny _ _ (execs (_ :: _) _) _ _ _); (((first | (k_unfold; (try dsimp only)) | (k_end; wrow_close) | walk1 | (dsimp only; walk1) | (leave1; walk_say "STEP leave1"; try dsimp only) | fail "no step")))))
  with_unfolding_all refine' For_invVF hF ?k1 ?k2 ?_ (hE := hE)
  case k1 => exact rfl
  case k2 => exact rfl
  (repeat' ((fail_if_success (with_reducible show wpAny _ _ (execs (_ :: _) _) _ _ _)); (fail_if_success (with_reducible show wpAny _ _ (eval (PySem.Expr.ListComp _ _ _ _) _) _ _ _)); (fail_if_success (with_reducible show wpAny _ _ (getMethod (Value.ref _) _ _) _ _ _)); (fail_if_success (with_reducible show wpAny _ _ (call (Value.ref _) _) _ _ _)); (fail_if_success (with_reducible show wpAny _ _ (pyIter _) _ _ _)); (((first | (k_unfold; (try dsimp only)) | (k_end; wrow_close) | walk1 | (dsimp only; walk1) | (leave1; walk_say "STEP leave1"; try dsimp only) | fail "no step")))))
  rename IsRange _ _ _ _ _ _ _ _ => R2
  rename Fr g _ _ _ => F2
  rename News g _ _ _ => N2
  refine range0_cut (n := 2 * no + 2) (fun i m₁ nx => nx = news ∧ ∀ y, y ≠ Str.ofString "part" → m₁ y = m y)
    rfl R2 (by omega) (by omega) F2 N2 ?_ ?_ ?_
  · refine ⟨rfl, fun y h1 => ?_⟩
    rw [if_back e2, if_back e1]
  · clear F2 N2 R2
    rintro i t m₁ nx h tk own hi ⟨rfl, hm⟩ hown F1 N1
    have g1 := (hm _ (by decide)).trans e1
    have g2 := (hm _ (by decide)).trans e2
    replace F1 := Fr.as F1 (m' := fun y => if y = Str.ofString "part" then some (.int i t) else if y = Str.ofString "both" then some (.str (T bo) t1) else if y = Str.ofString "noughts" then some (.int no t2) else m₁ y) (fun y => by rw [if_back g2, if_back g1])
    ((((repeat' ((with_reducible show wpAny _ _ (execs (_ :: _) _) _ _ _); (((first | (k_unfold; (try dsimp only)) | (k_end; wrow_close) | walk1 | (dsimp only; walk1) | (leave1; walk_say "STEP leave1"; try dsimp only) | fail "no step")))))); ((repeat' ((fail_if_success (with_reducible show wpAny _ _ (execs (_ :: _) _) _ _ _)); (fail_if_success (with_reducible show wpAny _ _ (eval (PySem.Expr.ListComp _ _ _ _) _) _ _ _)); (fail_if_success (with_reducible show wpAny _ _ (getMethod (Value.ref _) _ _) _ _ _)); (fail_if_success (with_reducible show wpAny _ _ (call (Value.ref _) _) _ _ _)); (fail_if_success (with_reducible show wpAny _ _ (pyIter _) _ _ _)); (((first | (k_unfold; (try dsimp only)) | (k_end; wrow_close) | walk1 | (dsimp only; walk1) | (leave1; walk_say "STEP leave1"; try dsimp only) | fail "no step"))))))))
    refine strip_claim w mean mg mb _ bo _ i _ _ _ _ _ _ _ _ _ _ _ _ _ _ _ _ _ _ hB F1 hK N1 hT rfl ⟨by omega, hne⟩ (by ktr_room) (by ktr_units) ?_
    intro t4 h4 tk4 F4 N4
    (repeat' ((fail_if_success (with_reducible show wpAny _ _ (execs (_ :: _) _) _ _ _)); (((first | (k_unfold; (try dsimp only)) | (k_end; wrow_close) | walk1 | (dsimp only; walk1) | (leave1; walk_say "STEP leave1"; try dsimp only) | fail "no step")))))
    · exfalso
      rename ((T _ != _) = true) => hne2
      rw [slice_part hbo hno, hst i hi, bne_self_eq_false] at hne2
      cases hne2
    · rename Fr g _ _ _ => F6
      rename News g _ _ _ => N6
      refine Turn.mk F6 N6 hown ⟨rfl, fun y h1 => ?_⟩
      dsimp only
      rw [if_neg h1, if_back g2, if_back g1]
      exact hm y h1
  · clear F2 N2 R2
    rintro h tk m₁ nx ⟨rfl, hm⟩ F1 N1
    exact hrest h tk m₁ F1 hm N1
end
section
open PySem PySem.W PyProof.Rows
section
variable {prog : Program} {w : World} {A : Around} {E : Value → Shared → Prop} {Q : Flow → Shared → Prop} {s : Shared} {env : Env} {h₀ : Heap}
/-- a for whose target is a tuple: cut into a turn and an end -/
theorem turns_cut {target : PySem.Expr} {body : List Stmt} {I : Addr} {n : Nat} {P Md : Nat → Value → Heap → Prop} {St : Nat → Heap → Prop} {m₀ : Str → Option Value} {news : List (Addr × Obj)} {wr fp : List Addr} (J : Nat → (Str → Option Value) → List (Addr × Obj) → Prop)
    (W : KTurns prog w A target I fp wr n P Md St) (hLf : env.locals ∉ fp) (hwr : ∀ b ∈ wr, h₀.get? b = none) (hnf : ∀ p ∈ news, p.1 ∉ fp) (hlive : ∀ i h, St i h → ∀ b ∈ fp, ∃ o, h.get? b = some o)
    (hst : St 0 s.heap) (F : Fr h₀ env.locals s.heap m₀) (N : News h₀ env.locals s.heap news) (hj : J 0 m₀ news)
    (turn : ∀ i v m₁ nx h tk own, i < n → P i v h → J i m₁ nx → OwnOff own (nx.map (·.1)) → Fr h₀ env.locals h m₁ → News h₀ env.locals h (nx ++ own) → (∀ p ∈ own, h.get? p.1 = some p.2) →
      wpAny (model prog w) A (assign target env v) (fun _ s₂ => wpAny (model prog w) A (execs body env) (Turn h₀ env.locals own (J (i + 1)) s Q) E s₂) E { s with heap := h, toks := tk })
    (done : ∀ h tk m₁ nx, J n m₁ nx → Fr h₀ env.locals h m₁ → News h₀ env.locals h nx → Q .next { s with heap := h, toks := tk }) :
    TurnsAt prog w A h₀ env target body Q E (.ref I) s := by
  have hw : ∀ nx : List (Addr × Obj), (∀ p ∈ nx, ∀ b ∈ fp, h₀.get? b = none → p.1 ≠ b) → ∀ p ∈ nx, p.1 ∉ wr := fun nx hx p hp hq => hx p hp _ (W.sub _ hq) (hwr _ hq) rfl
  have h0 : ∀ p ∈ news, ∀ b ∈ fp, h₀.get? b = none → p.1 ≠ b := fun p hp b hb _ e => hnf p hp (by rw [e]; exact hb)
  refine ⟨I, fp, wr, n, P, Md, St, m₀, news, fun i m nx => J i m nx ∧ ∀ p ∈ nx, ∀ b ∈ fp, h₀.get? b = none → p.1 ≠ b, rfl, W, hLf, hwr, hw _ h0, hst, F, N, ⟨hj, h0⟩, ?_, fun h' tk m' news' F' N' _ hJ => done h' tk m' news' hJ.1 F' N'⟩
  rintro i v m₁ news₁ h₁ tk₁ own hin hP ⟨hJ, hJo⟩ hoff hown hget hall hst₁ F₁ N₁
  have hsep : OwnOff own (news₁.map (·.1)) := by
    intro p hp b hb e
    obtain ⟨q, hq, rfl⟩ := List.mem_map.mp hb
    exact hJo q hq p.1 (hown p hp) (N₁ p (List.mem_append_left _ hp)).2.2 e.symm
  have N₂ : News h₀ env.locals h₁ (news₁ ++ own) := fun p hp => N₁ p ((List.mem_append.mp hp).elim (fun h => List.mem_append.mpr (.inr h)) fun h => List.mem_append.mpr (.inl h))
  refine wpAny_mono (turn i v m₁ news₁ h₁ tk₁ own hin hP hJ hsep F₁ N₂ hget) (fun _ s₃ z => wpAny_mono z (fun f s₂ p => ?_) fun _ _ e => e) fun _ _ e => e
  have fin : (∃ (h' : Heap) (tk : Nat) (m' : Str → Option Value) (nx : List (Addr × Obj)), s₂ = { s with heap := h', toks := tk } ∧ Fr h₀ env.locals h' m' ∧ News h₀ env.locals h' (nx ++ own) ∧ OwnOff own (nx.map (·.1)) ∧ J (i + 1) m' nx) →
      LoopStepU h₀ env.locals wr own (fun m nx => J (i + 1) m nx ∧ ∀ p ∈ nx, ∀ b ∈ fp, h₀.get? b = none → p.1 ≠ b) { s with heap := h₁, toks := tk₁ } .next s₂ := by
    rintro ⟨h', tk, m', nx, e, F', N', ho, hm⟩
    have hx : ∀ p ∈ nx, ∀ b ∈ fp, h₀.get? b = none → p.1 ≠ b := fun p hp b hb hn e => by
      obtain ⟨o, hob⟩ := hlive _ _ hst₁ b hb
      exact ho _ (hall b hb hn o hob) p.1 (List.mem_map.mpr ⟨p, hp, rfl⟩) e.symm
    exact ⟨rfl, h', tk, m', nx, e, F', fun p hp => N' p ((List.mem_append.mp hp).elim (List.mem_append_right _) (List.mem_append_left _)), hw _ hx, hm, hx⟩
  cases f with
  | ret v => exact .ret p
  | brk => exact .brk p
  | next => exact .next (fin p)
  | cont => exact .cont (fin p)
theorem goTuple {elts : List PySem.Expr} {x1} {pos : Pos} {I l T : Addr} {i : Nat} {Q : Unit → Shared → Prop} (hit : s.heap.IsTupleIter I l i) (hQ : Q () s) :
    wpAny (model prog w) A (letOwnedTupleGo (.Tuple elts x1 pos) (.ref I) (.ref T)) Q E s := by
  obtain ⟨o, ho, hc, hd⟩ := hit
  unfold letOwnedTupleGo
  refine wpAny_bind (wpAny_load ho ?_)
  rw [hc, hd]
  show wpAny _ A (if (["enumerate", "zip", "dict_itemiterator", "dict_reverseitemiterator", "odict_iterator", "itertools.zip_longest", "itertools.pairwise"].contains "tuple_iterator" &&
      (#[.ref l, .int i 0] : Array Value)[0]? == some (rawInt T)) = true then _ else _) Q E s
  rw [if_neg (by
    intro h
    rw [show (["enumerate", "zip", "dict_itemiterator", "dict_reverseitemiterator", "odict_iterator", "itertools.zip_longest", "itertools.pairwise"].contains "tuple_iterator") = false from by decide, Bool.false_and] at h
    cases h)]
  exact wpAny_pure hQ
/-- a for over a tuple of the ledger, its items refs -/
theorem tupleTurns {elts : List PySem.Expr} {k : Nat} {pos : Pos} {body : List Stmt} {D : Addr} {Ts : List Addr} {nn : Nat} {m₀ : Str → Option Value} {news : List (Addr × Obj)} (J : Nat → (Str → Option Value) → List (Addr × Obj) → Prop)
    (hh : A.handled = none) (hD : s.heap.get? D = some { cls := .type "tuple", data := .seq (Ts.map Value.ref).toArray nn }) (hDL : D ≠ env.locals) (hDn : ∀ p ∈ news, p.1 ≠ D)
    (F : Fr h₀ env.locals s.heap m₀) (N : News h₀ env.locals s.heap news) (hj : J 0 m₀ news)
    (turn : ∀ i a m₁ nx h tk own, Ts[i]? = some a → J i m₁ nx → OwnOff own (nx.map (·.1)) → Fr h₀ env.locals h m₁ → News h₀ env.locals h (nx ++ own) →
      wpAny (model prog w) A (assign (.Tuple elts k pos) env (.ref a)) (fun _ s₂ => wpAny (model prog w) A (execs body env) (Turn h₀ env.locals own (J (i + 1)) s Q) E s₂) E { s with heap := h, toks := tk })
    (done : ∀ h tk m₁ nx, J Ts.length m₁ nx → Fr h₀ env.locals h m₁ → News h₀ env.locals h nx → Q .next { s with heap := h, toks := tk }) :
    wpAny (model prog w) A (pyIter (.ref D)) (fun it s₂ => TurnsAt prog w A h₀ env (.Tuple elts k pos) body Q E it s₂) E s := by
  have ht : s.heap.IsTuple D (Ts.map Value.ref).toArray := ⟨_, hD, rfl, nn, rfl⟩
  have hlt := Heap.lt_size hD
  have hIL : s.heap.objs.size ≠ env.locals := fun e => absurd F.ns.lt (e ▸ Nat.lt_irrefl _)
  refine wpAny_pyIter_tuple ht ?_
  have W0 := Walks.tuple (prog := prog) (w := w) hh s.heap.objs.size D (Nat.ne_of_lt hlt) (Ts.map Value.ref).toArray
  have W : Walks prog w A s.heap.objs.size [s.heap.objs.size, D] [s.heap.objs.size] (Ts.map Value.ref).toArray.size (fun i v => ∃ a, Ts[i]? = some a ∧ v = .ref a) (fun i h => h.IsTupleIter s.heap.objs.size D i ∧ h.IsTuple D (Ts.map Value.ref).toArray) :=
    { sub := W0.sub, frame := W0.frame, done := W0.done, self := W0.self,
      item := fun i s Q E hi st hQ => W0.item i s Q E hi st fun v h' tk hv st' hk => hQ v h' tk (by
        simp only [List.getElem?_toArray, List.getElem?_map] at hv
        obtain ⟨a, e1, e2⟩ := Option.map_eq_some_iff.mp hv
        exact ⟨a, e1, e2.symm⟩) st' hk }
  have K := KTurns.ofWalks (target := .Tuple elts k pos) W (fun i v s Q E st hQ => by
    cases v with
    | ref a => exact goTuple st.1 hQ
    | _ => exact wpAny_pure hQ)
  have e0 : (Ts.map Value.ref).toArray.size = Ts.length := by simp
  refine turns_cut J K ?_ ?_ ?_ ?_ ⟨⟨_, Heap.get?_push_size _ rfl, rfl, rfl⟩, ht.push _⟩ (F.push _) (fun p hp => ⟨Heap.get?_push_of_some _ (N p hp).1, (N p hp).2⟩) hj ?_ ?_
  · intro hm
    rcases List.mem_cons.mp hm with h | h
    · exact hIL h.symm
    · exact hDL (List.mem_singleton.mp h).symm
  · intro b hb
    rw [List.mem_singleton.mp hb]
    exact next_is_new F
  · intro p hp hm
    rcases List.mem_cons.mp hm with h | h
    · exact absurd (Heap.lt_size (N p hp).1) (by rw [h]; exact Nat.lt_irrefl _)
    · exact hDn p hp (List.mem_singleton.mp h)
  · intro i h st b hb
    rcases List.mem_cons.mp hb with e | e
    · obtain ⟨o, ho, _⟩ := st.1
      exact ⟨o, by rw [e]; exact ho⟩
    · obtain ⟨o, ho, _⟩ := st.2
      exact ⟨o, by rw [List.mem_singleton.mp e]; exact ho⟩
  · rintro i v m₁ nx h tk own hi ⟨a, e1, rfl⟩ hJ ho F₁ N₁ _
    exact turn i a m₁ nx h tk own e1 hJ ho F₁ N₁
  · intro h tk m₁ nx hJ F₁ N₁
    rw [e0] at hJ
    exact done h tk m₁ nx hJ F₁ N₁
/-- a for over a list of the ledger, its items refs, its target a tuple -/
theorem listTurns {elts : List PySem.Expr} {k : Nat} {pos : Pos} {body : List Stmt} {D : Addr} {Ts : List Addr} {nn : Nat} {m₀ : Str → Option Value} {news : List (Addr × Obj)} (J : Nat → (Str → Option Value) → List (Addr × Obj) → Prop)
    (hh : A.handled = none) (hD : s.heap.get? D = some (W.listOf (Ts.map Value.ref).toArray nn)) (hDL : D ≠ env.locals) (hDn : ∀ p ∈ news, p.1 ≠ D)
    (F : Fr h₀ env.locals s.heap m₀) (N : News h₀ env.locals s.heap news) (hj : J 0 m₀ news)
    (turn : ∀ i a m₁ nx h tk own, Ts[i]? = some a → J i m₁ nx → OwnOff own (nx.map (·.1)) → Fr h₀ env.locals h m₁ → News h₀ env.locals h (nx ++ own) →
      wpAny (model prog w) A (assign (.Tuple elts k pos) env (.ref a)) (fun _ s₂ => wpAny (model prog w) A (execs body env) (Turn h₀ env.locals own (J (i + 1)) s Q) E s₂) E { s with heap := h, toks := tk })
    (done : ∀ h tk m₁ nx, J Ts.length m₁ nx → Fr h₀ env.locals h m₁ → News h₀ env.locals h nx → Q .next { s with heap := h, toks := tk }) :
    wpAny (model prog w) A (pyIter (.ref D)) (fun it s₂ => TurnsAt prog w A h₀ env (.Tuple elts k pos) body Q E it s₂) E s := by
  have ht : s.heap.IsList D (Ts.map Value.ref).toArray := ⟨_, hD, rfl, nn, rfl⟩
  have hlt := Heap.lt_size hD
  have hIL : s.heap.objs.size ≠ env.locals := fun e => absurd F.ns.lt (e ▸ Nat.lt_irrefl _)
  refine wpAny_pyIter_list ht ?_
  have W0 := Walks.list (prog := prog) (w := w) hh s.heap.objs.size D (Nat.ne_of_lt hlt) (Ts.map Value.ref).toArray
  have W : Walks prog w A s.heap.objs.size [s.heap.objs.size, D] [s.heap.objs.size] (Ts.map Value.ref).toArray.size (fun i v => ∃ a, Ts[i]? = some a ∧ v = .ref a) (fun i h => h.IsListIter s.heap.objs.size D i ∧ h.IsList D (Ts.map Value.ref).toArray) :=
    { sub := W0.sub, frame := W0.frame, done := W0.done, self := W0.self,
      item := fun i s Q E hi st hQ => W0.item i s Q E hi st fun v h' tk hv st' hk => hQ v h' tk (by
        simp only [List.getElem?_toArray, List.getElem?_map] at hv
        obtain ⟨a, e1, e2⟩ := Option.map_eq_some_iff.mp hv
        exact ⟨a, e1, e2.symm⟩) st' hk }
  have K := KTurns.ofWalks (target := .Tuple elts k pos) W (fun i v s Q E st hQ => by
    cases v with
    | ref a => exact wpAny_letOwnedTupleGo_listiter st.1 hQ
    | _ => exact wpAny_pure hQ)
  have e0 : (Ts.map Value.ref).toArray.size = Ts.length := by simp
  refine turns_cut J K ?_ ?_ ?_ ?_ ⟨⟨_, Heap.get?_push_size _ rfl, rfl, rfl⟩, ht.push _⟩ (F.push _) (fun p hp => ⟨Heap.get?_push_of_some _ (N p hp).1, (N p hp).2⟩) hj ?_ ?_
  · intro hm
    rcases List.mem_cons.mp hm with h | h
    · exact hIL h.symm
    · exact hDL (List.mem_singleton.mp h).symm
  · intro b hb
    rw [List.mem_singleton.mp hb]
    exact next_is_new F
  · intro p hp hm
    rcases List.mem_cons.mp hm with h | h
    · exact absurd (Heap.lt_size (N p hp).1) (by rw [h]; exact Nat.lt_irrefl _)
    · exact hDn p hp (List.mem_singleton.mp h)
  · intro i h st b hb
    rcases List.mem_cons.mp hb with e | e
    · obtain ⟨o, ho, _⟩ := st.1
      exact ⟨o, by rw [e]; exact ho⟩
    · obtain ⟨o, ho, _⟩ := st.2
      exact ⟨o, by rw [List.mem_singleton.mp e]; exact ho⟩
  · rintro i v m₁ nx h tk own hi ⟨a, e1, rfl⟩ hJ ho F₁ N₁ _
    exact turn i a m₁ nx h tk own e1 hJ ho F₁ N₁
  · intro h tk m₁ nx hJ F₁ N₁
    rw [e0] at hJ
    exact done h tk m₁ nx hJ F₁ N₁
end
end
section
open PySem PySem.W PyProof.Rows
local macro_rules | `(tactic| omega) => `(tactic| first | lia | omega (config := {}))
theorem off1_mem {D : Addr} : ∀ {l : List (Addr × Obj)}, LCg.Off1 D l → ∀ p ∈ l, p.1 ≠ D
  | [], _, _, h => by cases h
  | q :: r, x, p, h => by
    rcases List.mem_cons.mp h with rfl | h
    · exact x.1
    · exact off1_mem x.2 p h
theorem costs_map (ln : List Nat) : ((rangeKs 1 (ln.length - 1)).map fun k => cost (ln.getD (k - 1).toNat 0) (ln.getD k.toNat 0)) = List.zipWith cost ln ln.tail := by
  apply List.ext_getElem
  · simp [rangeKs]
  · intro i h1 h2
    simp only [rangeKs, List.length_map, List.length_range, List.length_zipWith, List.length_tail] at h1 h2
    have e1 : ((1 : Int) + (i : Int) - 1).toNat = i := by omega
    have e2 : ((1 : Int) + (i : Int)).toNat = i + 1 := by omega
    simp only [rangeKs, List.getElem_map, List.getElem_range, List.getElem_zipWith, List.getElem_tail, e1, e2]
    rw [List.getD_eq_getElem?_getD, List.getD_eq_getElem?_getD, List.getElem?_eq_getElem (by omega), List.getElem?_eq_getElem (by omega)]
    rfl
theorem lawH1 (w : World) (mean : ExcName → Option Value) (mg mb : Str → Option Value) (g : Heap) (L fa : Addr) (cd : Value) (s : Shared)
    (Q : Flow → Shared → Prop) (E : Value → Shared → Prop) {FULL : List Stmt} {scope : Scope} {qual : Str} {cdv : Value}
    (hat : AtFn (hd.heap_39 w.params) 157 FULL scope qual cdv)
    {ln : List Nat} {news : List (Addr × Obj)} {t1 : Tok} {m : Str → Option Value} {oc : Obj}
    (hF : Fr g L s.heap m)
    (hN : News g L s.heap ((L + 1, oc) :: news)) (hoc : oc.data = .cell (some (.str (T ln) t1))) (hln : ln.length ≤ 8) (hok : ∀ c ∈ ln, OkC c)
    (hB : Below callerA g [] g) (hK : (hd.heap_39 w.params).In g) (hT : Top hdB.view_39 (looseW hdB.view_39 [Str.ofString "_Accumulator"]) mean mg mb g)
    (h77 : 84 < L) (hE : PassesOwn (model Challenge.rw_xj0014_01.row.prog w) (callerA.deeper (envOfC qual scope L fa cd)) (envOfC qual scope L fa cd) E)
    (hrest : ∀ (h : Heap) (tk c : Nat) (CD : Addr) (cv : List Value), Fr g L h (fun y => if y = Str.ofString "costs" then some (.ref CD) else m y) → News g L h ((CD, W.listOf cv.toArray c) :: (L + 1, oc) :: news) → (∀ p ∈ (L + 1, oc) :: news, p.1 ≠ CD) → IntsAre cv (List.zipWith cost ln ln.tail) →
      wpAny (model Challenge.rw_xj0014_01.row.prog w) (callerA.deeper (envOfC qual scope L fa cd)) (execs ((bodyAt FULL 17).drop 1) (envOfC qual scope L fa cd)) Q E { s with heap := h, toks := tk }) :
    wpAny (model Challenge.rw_xj0014_01.row.prog w) (callerA.deeper (envOfC qual scope L fa cd)) (execs (bodyAt FULL 17) (envOfC qual scope L fa cd)) Q E s := by
  revert hK; k_fill; intro hK
  refine' hat.elim ?h ?_
  case h => k_is
  intro e1 e2 e3 e4
  subst e1 e2 e3 e4
  try simp only [List.drop_succ_cons, List.drop_zero] at hrest ⊢
  dsimp only [bodyAt, List.drop] at hrest ⊢
  have hTb : (T ln).length = ln.length := T_len _
  (repeat' ((with_reducible show wpAny _ _ (execs (_ :: _) _) _ _ _); (((first | (k_unfold; (try dsimp only)) | (k_end; wrow_close) | walk1 | (dsimp only; walk1) | (leave1; walk_say "STEP leave1"; try dsimp only) | fail "no step")))))
  (repeat' ((fail_if_success (with_reducible show LCg.CompSrc _ _ _ _ _ _ _ _ _ _ _ _ _ _)); (((first | (k_unfold; (try dsimp only)) | (k_end; wrow_close) | walk1 | (dsimp only; walk1) | (leave1; walk_say "STEP leave1"; try dsimp only) | fail "no step")))))
  rename IsRange _ _ _ _ _ _ _ _ => R2
  rename Fr g _ _ _ => F2
  rename News g _ _ _ => N2
  have hRn : Builtin.Range.rangeSize 1 ((T ln).length : Int) 1 = ((ln.length - 1 : Nat) : Int) := by
    rw [hTb, rangeSize_one]; split <;> omega
  refine LCg.CompSrc.range rfl F2 N2 R2 (small_one (by omega) (by omega) (by omega) (by omega)) hRn (Nat.le_trans (show ln.length - 1 ≤ 1000 by omega) (by decide)) (fun g' => kcf_range (fun k => cost (ln.getD (k - 1).toNat 0) (ln.getD k.toNat 0)) (fun k t I oI C oC D m₂ ys h tk E' hk1 hk2 hC hx F3 N3 off ne _ => ?_) (fun ys hys => ?_))
  · have ha : Txt.item (T ln) (k - 1) = T [ln.getD (k - 1).toNat 0] := T_item ln (by omega) (by omega)
    have hb : Txt.item (T ln) k = T [ln.getD k.toNat 0] := T_item ln (by omega) (by omega)
    have hcl : ∀ j, j < ln.length → OkC (ln.getD j 0) := fun j hj => by
      rw [List.getD_eq_getElem?_getD, List.getElem?_eq_getElem hj]; exact hok _ (List.getElem_mem hj)
    (repeat' ((fail_if_success (with_reducible show wpAny _ _ (execs (_ :: _) _) _ _ _)); (fail_if_success (with_reducible show wpAny _ _ (eval (PySem.Expr.ListComp _ _ _ _) _) _ _ _)); (fail_if_success (with_reducible show wpAny _ _ (getMethod (Value.ref _) _ _) _ _ _)); (fail_if_success (with_reducible show wpAny _ _ (call (Value.ref _) _) _ _ _)); (fail_if_success (with_reducible show wpAny _ _ (pyIter _) _ _ _)); (((first | (k_unfold; (try dsimp only)) | (k_end; wrow_close) | walk1 | (dsimp only; walk1) | (leave1; walk_say "STEP leave1"; try dsimp only) | fail "no step")))))
    refine subst_claim2 w mean mg mb _ _ _ _ _ (ln.getD (k - 1).toNat 0) (ln.getD k.toNat 0) _ _ _ _ _ _ _ _ _ _ _ _ _ _ _ _ _ hB F3 hK N3 hT rfl ⟨ha, hb, hcl _ (by omega), hcl _ (by omega)⟩ (by ktr_room) (by ktr_units) ?_
    intro t5 h5 tk5 F5 N5
    exact ⟨h5, tk5, _, rfl, F5, N5, off, trivial, rfl, t5, rfl⟩
  · rw [costs_map] at hys
    intro D h tk F4 N4 o4
    exact hrest h tk _ D ys F4 N4 (off1_mem o4) hys
end
section
open PySem PySem.W PyProof.Rows
section
variable {prog : Program} {w : World} {A : Around} {E : Value → Shared → Prop} {s : Shared} {h₀ : Heap} {L : Addr} {m : Str → Option Value}
theorem iadd_lists {a b : Addr} {xs ys : List Value} {n k : Nat} {Q : Value → Shared → Prop} (ha : s.heap.get? a = some (W.listOf xs.toArray n)) (hb : s.heap.get? b = some (W.listOf ys.toArray k)) (hx : xs.length ≤ 1000) (hy : ys.length ≤ 1000)
    (hQ : ∀ h' n', h'.get? a = some (W.listOf (xs ++ ys).toArray n') → Heap.SameBut a s.heap h' → Q (.ref a) { s with heap := h' }) : wpAny (model prog w) A (inplaceOp .Add (.ref a) (.ref b)) Q E s := by
  have hta : s.TypeIs (.ref a) "list" := ⟨_, ha, rfl⟩
  have htb : s.TypeIs (.ref b) "list" := ⟨_, hb, rfl⟩
  have hl : typeLookup (.type "list") (dunderI "add") = pure (some (.builtin "list.__iadd__")) := PySem.F.slot_list_iadd.lookup
  have hsq : isSeqSlot (some (.builtin "list.__iadd__")) = true := by decide +kernel
  have hfi : fillsInplaceSlot (.type "list") "add" (Operator.Add == .Add) = pure false := by
    unfold fillsInplaceSlot
    show (typeLookup (.type "list") (dunderI "add") >>= fun fi => pure (fi.isSome && !isSeqSlot fi)) = pure false
    rw [hl, pure_bind, hsq]; rfl
  unfold inplaceOp
  refine wpAny_holding ?_
  refine wpAny_bind (wpAny_typeOf hta (wpAny_bind (wpAny_of_eq hfi ?_)))
  show wpAny _ A (if false = true then _ else _) Q E s
  rw [if_neg Bool.false_ne_true]
  refine wpAny_bind (wpAny_binaryOp1_none (nm := "add") hta htb noFill_list_add ?_)
  refine wpAny_bind (wpAny_of_eq (PySem.seqSlot_of hl hsq) ?_)
  refine wpAny_bind (wpAny_rule ?_)
  have hz1 : xs.toArray.size ≤ sizeLine := Nat.le_trans (by simpa using hx) (show 1000 ≤ sizeLine by decide)
  have hz2 : xs.toArray.size + ys.toArray.size ≤ sizeLine + 1 := Nat.le_trans (by simp; omega) (show 2000 ≤ sizeLine + 1 by decide)
  have hz3 : ¬(!xs.toArray.isEmpty && Builtin.List.listTooLong (xs.toArray.size + ys.toArray.size)) = true := by
    intro h
    have h2 := (Bool.and_eq_true_iff.mp h).2
    unfold Builtin.List.listTooLong at h2
    simp at h2
    have : 2000 ≤ sizeLine := by decide
    omega
  refine (call_meets PySem.F.slot_list_iadd hta PySem.F.entry_list_iadd (PySem.F.args_list_iadd_2 _ _) (AutoSeq1.list___iadd___list_list_0 a xs.toArray n b ys.toArray k hz3 hz1 hz2) ⟨ha, hb, ?_⟩)
  refine hQ _ (if (xs.toArray ++ ys.toArray).size == xs.toArray.size then n else n + 1) ?_ (Heap.SameBut.update _ _ _)
  rw [Heap.get?_update_self _ ha rfl]
  simp [Obj.mapSeq]
end
end
section
open PySem PySem.W PyProof.Rows
theorem lawH2 (w : World) (mean : ExcName → Option Value) (mg mb : Str → Option Value) (g : Heap) (L fa : Addr) (cd : Value) (s : Shared)
    (Q : Flow → Shared → Prop) (E : Value → Shared → Prop) {FULL : List Stmt} {scope : Scope} {qual : Str} {cdv : Value}
    (hat : AtFn (hd.heap_39 w.params) 157 FULL scope qual cdv)
    {cs tn : List Int} {news : List (Addr × Obj)} {d wi : Int} {t1 t2 : Tok} {m : Str → Option Value} {CD DT : Addr} {cv tv : List Value} {c c2 : Nat}
    (hF : Fr g L s.heap m) (e1 : m (Str.ofString "costs") = some (.ref CD)) (e2 : m (Str.ofString "due") = some (.int d t1)) (e3 : m (Str.ofString "within") = some (.int wi t2)) (e4 : m (Str.ofString "told") = some (.ref DT))
    (hN : News g L s.heap ((CD, W.listOf cv.toArray c) :: (DT, W.listOf tv.toArray c2) :: news)) (hcv : IntsAre cv cs) (htv : IntsAre tv tn) (hcs : cs.length ≤ 8) (htn : tn.length ≤ 100) (hb : ∀ a ∈ cs, 0 ≤ a ∧ a ≤ 2) (hsum : cs.sum = d + 3 * wi) (hCD : CD ≠ DT) (hoff : ∀ p ∈ news, p.1 ≠ DT)
    (hB : Below callerA g [] g) (hK : (hd.heap_39 w.params).In g) (hT : Top hdB.view_39 (looseW hdB.view_39 [Str.ofString "_Accumulator"]) mean mg mb g)
    (h77 : 84 < L)
    (hrest : ∀ (h : Heap) (tk c2 : Nat) (tv : List Value), Fr g L h m → News g L h ((CD, W.listOf cv.toArray c) :: (DT, W.listOf tv.toArray c2) :: news) → IntsAre tv (tn ++ cs) →
      wpAny (model Challenge.rw_xj0014_01.row.prog w) (callerA.deeper (envOfC qual scope L fa cd)) (execs ((bodyAt FULL 17).drop 3) (envOfC qual scope L fa cd)) Q E { s with heap := h, toks := tk }) :
    wpAny (model Challenge.rw_xj0014_01.row.prog w) (callerA.deeper (envOfC qual scope L fa cd)) (execs ((bodyAt FULL 17).drop 1) (envOfC qual scope L fa cd)) Q E s := by
  revert hK; k_fill; intro hK
  refine' hat.elim ?h ?_
  case h => k_is
  intro e1 e2 e3 e4
  subst e1 e2 e3 e4
  try simp only [List.drop_succ_cons, List.drop_zero] at hrest ⊢
  dsimp only [bodyAt, List.drop] at hrest ⊢
  have hF0 := hF
  replace hF := Fr.as hF (mapL_cons e1 (mapL_cons e2 (mapL_cons e3 (mapL_cons e4 mapL_nil))))
  have hcl := hcv.length
  ((((repeat' ((with_reducible show wpAny _ _ (execs (_ :: _) _) _ _ _); (((first | (k_unfold; (try dsimp only)) | (k_end; wrow_close) | walk1 | (dsimp only; walk1) | (leave1; walk_say "STEP leave1"; try dsimp only) | fail "no step")))))); ((repeat' ((fail_if_success (with_reducible show wpAny _ _ (execs (_ :: _) _) _ _ _)); (((first | (k_unfold; (try dsimp only)) | (k_end; wrow_close) | walk1 | (dsimp only; walk1) | (leave1; walk_say "STEP leave1"; try dsimp only) | fail "no step"))))))))
  · exact absurd hsum (by assumption)
  ((((repeat' ((with_reducible show wpAny _ _ (execs (_ :: _) _) _ _ _); (((first | (k_unfold; (try dsimp only)) | (k_end; wrow_close) | walk1 | (dsimp only; walk1) | (leave1; walk_say "STEP leave1"; try dsimp only) | fail "no step")))))); ((repeat' ((fail_if_success (with_reducible show wpAny _ _ (execs (_ :: _) _) _ _ _)); (((first | (k_unfold; (try dsimp only)) | (k_end; wrow_close) | walk1 | (dsimp only; walk1) | (leave1; walk_say "STEP leave1"; try dsimp only) | fail "no step"))))))))
  rename Fr g _ _ _ => F2
  rename News g _ _ _ => N2
  have htl := htv.length
  refine iadd_lists (xs := tv) (ys := cv) (n := c2) (k := c) (N2 _ (.tail _ (.head _))).1 (N2 _ (.head _)).1 (by omega) (by omega) ?_
  intro h3 n3 e9 hs3
  have N2' : News g L _ ((DT, W.listOf tv.toArray c2) :: (CD, W.listOf cv.toArray c) :: news) := fun p hp => N2 p (by grind)
  obtain ⟨F3, N3⟩ := set_head F2 N2' (fun p hp => by
    rcases List.mem_cons.mp hp with rfl | hp
    · exact hCD
    · exact hoff p hp) e9 hs3
  clear F2 N2 N2'
  ((((repeat' ((with_reducible show wpAny _ _ (execs (_ :: _) _) _ _ _); (((first | (k_unfold; (try dsimp only)) | (k_end; wrow_close) | walk1 | (dsimp only; walk1) | (leave1; walk_say "STEP leave1"; try dsimp only) | fail "no step")))))); ((repeat' ((fail_if_success (with_reducible show wpAny _ _ (execs (_ :: _) _) _ _ _)); (((first | (k_unfold; (try dsimp only)) | (k_end; wrow_close) | walk1 | (dsimp only; walk1) | (leave1; walk_say "STEP leave1"; try dsimp only) | fail "no step"))))))))
  rename Fr g _ _ _ => F4
  rename News g _ _ _ => N4
  refine hrest _ _ n3 (tv ++ cv) (Fr.as F4 fun y => ?_) (fun p hp => N4 p (by grind)) (htv.append hcv)
  by_cases h1 : y = Str.ofString "told"
  · rw [if_pos h1, h1, e4]
  · rw [if_neg h1, if_back e4, if_back e3, if_back e2, if_back e1]
end
section
open PySem PySem.W PyProof.Rows
theorem lawH4 (w : World) (mean : ExcName → Option Value) (mg mb : Str → Option Value) (g : Heap) (L fa : Addr) (cd : Value) (s : Shared)
    (Q : Flow → Shared → Prop) (E : Value → Shared → Prop) {FULL : List Stmt} {scope : Scope} {qual : Str} {cdv : Value}
    (hat : AtFn (hd.heap_39 w.params) 157 FULL scope qual cdv)
    {a b : List Nat} {tn : List Int} {news : List (Addr × Obj)} {bo fr : Int} {t1 t2 t3 t4 : Tok} {m : Str → Option Value} {DT : Addr} {tv : List Value} {c2 : Nat}
    (hF : Fr g L s.heap m) (e1 : m (Str.ofString "word") = some (.str (T a) t1)) (e2 : m (Str.ofString "other") = some (.str (T b) t2)) (e3 : m (Str.ofString "bound") = some (.int bo t3)) (e5 : m (Str.ofString "far") = some (.int fr t4)) (e4 : m (Str.ofString "told") = some (.ref DT))
    (hN : News g L s.heap ((DT, W.listOf tv.toArray c2) :: news)) (htv : IntsAre tv tn) (htn : tn.length ≤ 200) (hoff : ∀ p ∈ news, p.1 ≠ DT)
    (ha : a.length ≤ 20) (hb : b.length ≤ 20) (hoa : ∀ c ∈ a, OkC c) (hob : ∀ c ∈ b, OkC c) (hbo : -100 ≤ bo ∧ bo ≤ 100) (hlev : lev a b bo = fr) (hfr : 0 ≤ fr ∧ fr ≤ 100)
    (hB : Below callerA g [] g) (hK : (hd.heap_39 w.params).In g) (hT : Top hdB.view_39 (looseW hdB.view_39 [Str.ofString "_Accumulator"]) mean mg mb g)
    (h77 : 84 < L)
    (hrest : ∀ (h : Heap) (tk c2 : Nat) (tv : List Value), Fr g L h m → News g L h ((DT, W.listOf tv.toArray c2) :: news) → IntsAre tv (tn ++ [fr]) → Q .next { s with heap := h, toks := tk }) :
    wpAny (model Challenge.rw_xj0014_01.row.prog w) (callerA.deeper (envOfC qual scope L fa cd)) (execs (bodyAt (bodyAt FULL 17) 3) (envOfC qual scope L fa cd)) Q E s := by
  revert hK; k_fill; intro hK
  refine' hat.elim ?h ?_
  case h => k_is
  intro e1 e2 e3 e4
  subst e1 e2 e3 e4
  try simp only [List.drop_succ_cons, List.drop_zero] at hrest ⊢
  dsimp only [bodyAt, List.drop] at hrest ⊢
  have hF0 := hF
  have hTa : (T a).length = a.length := T_len _
  have hTb2 : (T b).length = b.length := T_len _
  replace hF := Fr.as hF (mapL_cons e1 (mapL_cons e2 (mapL_cons e3 (mapL_cons e4 (mapL_cons e5 mapL_nil)))))
  have htl := htv.length
  ((((repeat' ((with_reducible show wpAny _ _ (execs (_ :: _) _) _ _ _); (((first | (k_unfold; (try dsimp only)) | (k_end; wrow_close) | walk1 | (dsimp only; walk1) | (leave1; walk_say "STEP leave1"; try dsimp only) | fail "no step")))))); ((repeat' ((fail_if_success (with_reducible show wpAny _ _ (execs (_ :: _) _) _ _ _)); (fail_if_success (with_reducible show wpAny _ _ (eval (PySem.Expr.ListComp _ _ _ _) _) _ _ _)); (fail_if_success (with_reducible show wpAny _ _ (getMethod (Value.ref _) _ _) _ _ _)); (fail_if_success (with_reducible show wpAny _ _ (call (Value.ref _) _) _ _ _)); (fail_if_success (with_reducible show wpAny _ _ (pyIter _) _ _ _)); (((first | (k_unfold; (try dsimp only)) | (k_end; wrow_close) | walk1 | (dsimp only; walk1) | (leave1; walk_say "STEP leave1"; try dsimp only) | fail "no step"))))))))
  ((first | (k_unfold; (try dsimp only)) | (k_end; wrow_close) | walk1 | (dsimp only; walk1) | (leave1; walk_say "STEP leave1"; try dsimp only) | fail "no step"))
  (repeat' ((fail_if_success (with_reducible show wpAny _ _ (execs (_ :: _) _) _ _ _)); (fail_if_success (with_reducible show wpAny _ _ (eval (PySem.Expr.ListComp _ _ _ _) _) _ _ _)); (fail_if_success (with_reducible show wpAny _ _ (getMethod (Value.ref _) _ _) _ _ _)); (fail_if_success (with_reducible show wpAny _ _ (call (Value.ref _) _) _ _ _)); (fail_if_success (with_reducible show wpAny _ _ (pyIter _) _ _ _)); (((first | (k_unfold; (try dsimp only)) | (k_end; wrow_close) | walk1 | (dsimp only; walk1) | (leave1; walk_say "STEP leave1"; try dsimp only) | fail "no step")))))
  refine lev_claim w mean mg mb _ a _ b _ bo _ _ _ _ _ _ _ _ _ _ _ _ _ _ _ _ _ _ hB (by assumption) hK (by assumption) hT rfl ⟨ha, hb, hoa, hob, hbo.1, hbo.2⟩ (by ktr_room) (by ktr_units) ?_
  intro t5 h5 tk5 F5 N5
  rw [hlev]
  (repeat' ((fail_if_success (with_reducible show wpAny _ _ (execs (_ :: _) _) _ _ _)); (((first | (k_unfold; (try dsimp only)) | (k_end; wrow_close) | walk1 | (dsimp only; walk1) | (leave1; walk_say "STEP leave1"; try dsimp only) | fail "no step")))))
  (repeat' ((with_reducible show wpAny _ _ (execs (_ :: _) _) _ _ _); (((first | (k_unfold; (try dsimp only)) | (k_end; wrow_close) | walk1 | (dsimp only; walk1) | (leave1; walk_say "STEP leave1"; try dsimp only) | fail "no step")))))
  iterate 12 ((first | (k_unfold; (try dsimp only)) | (k_end; wrow_close) | walk1 | (dsimp only; walk1) | (leave1; walk_say "STEP leave1"; try dsimp only) | fail "no step"))
  rw [bne_self_eq_false, if_neg Bool.false_ne_true]
  (repeat' ((fail_if_success (with_reducible show wpAny _ _ (execs (_ :: _) _) _ _ _)); (((first | (k_unfold; (try dsimp only)) | (k_end; wrow_close) | walk1 | (dsimp only; walk1) | (leave1; walk_say "STEP leave1"; try dsimp only) | fail "no step")))))
  rename Fr g _ _ _ => F6
  rename News g _ _ _ => N6
  exact hrest _ _ _ _ (Fr.as F6 fun y => by rw [if_back e5, if_back e4, if_back e3, if_back e2, if_back e1]) N6 (IntsAre.snoc htv _ _)
end
section
open PySem PySem.W PyProof.Rows
theorem lawH3T (w : World) (mean : ExcName → Option Value) (mg mb : Str → Option Value) (g : Heap) (L fa : Addr) (cd : Value) (s : Shared)
    (Q : Flow → Shared → Prop) (E : Value → Shared → Prop) {FULL : List Stmt} {scope : Scope} {qual : Str} {cdv : Value}
    (hat : AtFn (hd.heap_39 w.params) 157 FULL scope qual cdv)
    {x y : List Nat} {tn : List Int} {rest : List (Addr × Obj)} {bo fr : Int} {t1 t2 t3 t4 : Tok} {m : Str → Option Value} {DT a : Addr} {tv : List Value} {c2 : Nat}
    (hF : Fr g L s.heap m) (e4 : m (Str.ofString "told") = some (.ref DT))
    (hN : News g L s.heap ((DT, W.listOf tv.toArray c2) :: rest)) (hmem : (a, tup4 (T x) t1 (T y) t2 bo t3 fr t4) ∈ rest) (htv : IntsAre tv tn) (htn : tn.length ≤ 200) (hoff : ∀ p ∈ rest, p.1 ≠ DT)
    (ha : x.length ≤ 20) (hb : y.length ≤ 20) (hoa : ∀ c ∈ x, OkC c) (hob : ∀ c ∈ y, OkC c) (hbo : -100 ≤ bo ∧ bo ≤ 100) (hlev : lev x y bo = fr) (hfr : 0 ≤ fr ∧ fr ≤ 100)
    (hB : Below callerA g [] g) (hK : (hd.heap_39 w.params).In g) (hT : Top hdB.view_39 (looseW hdB.view_39 [Str.ofString "_Accumulator"]) mean mg mb g)
    (h77 : 84 < L)
    (hrest : ∀ (h : Heap) (tk c2 : Nat) (tv : List Value) (m' : Str → Option Value), Fr g L h m' → (∀ y, y ≠ Str.ofString "word" → y ≠ Str.ofString "other" → y ≠ Str.ofString "bound" → y ≠ Str.ofString "far" → m' y = m y) → News g L h ((DT, W.listOf tv.toArray c2) :: rest) → IntsAre tv (tn ++ [fr]) → Q .next { s with heap := h, toks := tk }) :
    wpAny (model Challenge.rw_xj0014_01.row.prog w) (callerA.deeper (envOfC qual scope L fa cd)) (assign (targetAt (bodyAt FULL 17) 3) (envOfC qual scope L fa cd) (.ref a)) (fun _ s₂ => wpAny (model Challenge.rw_xj0014_01.row.prog w) (callerA.deeper (envOfC qual scope L fa cd)) (execs (bodyAt (bodyAt FULL 17) 3) (envOfC qual scope L fa cd)) Q E s₂) E s := by
  revert hK; k_fill; intro hK
  refine' hat.elim ?h ?_
  case h => k_is
  intro e1 e2 e3 e4
  subst e1 e2 e3 e4
  try simp only [List.drop_succ_cons, List.drop_zero] at hrest ⊢
  dsimp only [bodyAt, targetAt, List.drop]
  have N2 : News g L _ ((a, tup4 (T x) t1 (T y) t2 bo t3 fr t4) :: (DT, W.listOf tv.toArray c2) :: rest) := fun p hp => hN p (by grind)
  clear hN
  (repeat' ((fail_if_success (with_reducible show wpAny _ _ (execs (_ :: _) _) _ _ _)); (((first | (k_unfold; (try dsimp only)) | (k_end; wrow_close) | walk1 | (dsimp only; walk1) | (leave1; walk_say "STEP leave1"; try dsimp only) | fail "no step")))))
  rename Fr g _ _ _ => F3
  rename News g _ _ _ => N3
  refine lawH4 (a := x) (b := y) (tn := tn) (news := rest) (bo := bo) (fr := fr) (t1 := t1) (t2 := t2) (t3 := t3) (t4 := t4) (DT := DT) (tv := tv) (c2 := c2) w mean mg mb g L fa cd _ _ E hat (by exact F3) rfl rfl rfl rfl (by exact e4) (by exact fun p hp => N3 p (.tail _ hp)) htv htn hoff ha hb hoa hob hbo hlev hfr hB hK hT h77 ?_
  intro h4 tk4 c4 tv4 F4 N4 htv4
  refine hrest h4 tk4 c4 tv4 _ F4 (fun y h1 h2 h3 h4 => ?_) N4 htv4
  simp only [if_neg h1, if_neg h2, if_neg h3, if_neg h4]
end
section
open PySem PySem.W PyProof.Rows
theorem perm_mem {α : Type} {d t o a4 a3 a2 a1 : α} {ns : List α} {p : α} (h : p ∈ d :: t :: o :: a4 :: a3 :: a2 :: a1 :: ns) : p ∈ d :: a4 :: a3 :: a2 :: a1 :: t :: o :: ns := by
  simp only [List.mem_cons] at *
  grind
theorem keep_mem {α : Type} {t o : α} {ns ms : List α} (h : ∀ p ∈ ns, p ∈ ms) {p : α} (hp : p ∈ t :: o :: ns) : p ∈ t :: o :: ms := by
  rcases List.mem_cons.mp hp with rfl | hp
  · exact .head _
  rcases List.mem_cons.mp hp with rfl | hp
  · exact .tail _ (.head _)
  exact .tail _ (.tail _ (h p hp))
theorem len200 {l m : List Int} (h : l.length ≤ 150) (h2 : m.length ≤ 50) : (l ++ m).length ≤ 200 := by rw [List.length_append]; omega
theorem offs {DT a1 a2 a3 a4 : Nat} {o1 o2 o3 o4 : Obj} {q : Addr × Obj} {news Rs : List (Addr × Obj)} (h0 : ∀ p ∈ q :: news, p.1 ≠ DT) (h1 : DT < a1) (h2 : DT < a2) (h3 : DT < a3) (h4 : DT < a4)
    (hR : ∀ p ∈ Rs, p = (a4, o4) ∨ p = (a3, o3) ∨ p = (a2, o2) ∨ p = (a1, o1) ∨ p ∈ news) : ∀ p ∈ q :: Rs, p.1 ≠ DT := fun p hp => by
  rcases List.mem_cons.mp hp with rfl | hp
  · exact h0 _ (.head _)
  rcases hR p hp with rfl | rfl | rfl | rfl | h
  · exact Nat.ne_of_gt h4
  · exact Nat.ne_of_gt h3
  · exact Nat.ne_of_gt h2
  · exact Nat.ne_of_gt h1
  · exact h0 p (.tail _ h)
theorem offD {D a1 a2 a3 a4 : Nat} {o1 o2 o3 o4 : Obj} {q r : Addr × Obj} {news Rs : List (Addr × Obj)} (h0 : ∀ p ∈ r :: q :: news, p.1 < D) (h1 : a1 < D) (h2 : a2 < D) (h3 : a3 < D) (h4 : a4 < D)
    (hR : ∀ p ∈ Rs, p = (a4, o4) ∨ p = (a3, o3) ∨ p = (a2, o2) ∨ p = (a1, o1) ∨ p ∈ news) : ∀ p ∈ r :: q :: Rs, p.1 ≠ D := fun p hp => by
  rcases List.mem_cons.mp hp with rfl | hp
  · exact Nat.ne_of_lt (h0 _ (.head _))
  rcases List.mem_cons.mp hp with rfl | hp
  · exact Nat.ne_of_lt (h0 _ (.tail _ (.head _)))
  rcases hR p hp with rfl | rfl | rfl | rfl | h
  · exact Nat.ne_of_lt h4
  · exact Nat.ne_of_lt h3
  · exact Nat.ne_of_lt h2
  · exact Nat.ne_of_lt h1
  · exact Nat.ne_of_lt (h0 p (.tail _ (.tail _ h)))
theorem four_or {α : Type} {x1 x2 x3 x4 : α} {ns : List α} {p : α} (h : p ∈ x4 :: x3 :: x2 :: x1 :: ns) : p = x4 ∨ p = x3 ∨ p = x2 ∨ p = x1 ∨ p ∈ ns := by simpa only [List.mem_cons] using h
theorem clip0 {d k : Int} (hd : 0 ≤ d ∧ d ≤ 7) (hk : 0 ≤ k ∧ k ≤ 7) : 0 ≤ (if d < k then d else k) ∧ (if d < k then d else k) ≤ 7 := by
  split
  · exact hd
  · exact hk
theorem ask_bounds {d wi : Int} {le : Nat} (hd : 0 ≤ d ∧ d ≤ 7) (hw : 0 ≤ wi ∧ wi ≤ 8) (hl : le ≤ 1) :
    (-100 ≤ (if d < 4 then d else 4) - (le : Int) ∧ (if d < 4 then d else 4) - (le : Int) ≤ 100) ∧ (0 ≤ (if d < 4 then d else 4) ∧ (if d < 4 then d else 4) ≤ 100) ∧ (0 ≤ (if d < 1 then d else 1) ∧ (if d < 1 then d else 1) ≤ 100) ∧
    (-100 ≤ 2 * wi - (le : Int) ∧ 2 * wi - (le : Int) ≤ 100) ∧ (0 ≤ 2 * wi ∧ 2 * wi ≤ 100) ∧ (-100 ≤ 2 * wi ∧ 2 * wi ≤ 100) := by
  have h1 := clip0 hd (k := 4) (by decide)
  have h2 := clip0 hd (k := 1) (by decide)
  generalize (if d < 4 then d else 4) = x at *
  generalize (if d < 1 then d else 1) = y at *
  clear hd
  refine ⟨⟨?_, ?_⟩, ⟨h1.1, ?_⟩, ⟨h2.1, ?_⟩, ⟨?_, ?_⟩, ⟨?_, ?_⟩, ?_, ?_⟩ <;> omega
inductive Ask (Rs : List (Addr × Obj)) (a : Addr) (fr : Int) : Prop
  | mk (x y : List Nat) (bo : Int) (t1 t2 t3 t4 : Tok) (hm : (a, tup4 (T x) t1 (T y) t2 bo t3 fr t4) ∈ Rs) (ha : x.length ≤ 20) (hb : y.length ≤ 20) (hoa : ∀ c ∈ x, OkC c) (hob : ∀ c ∈ y, OkC c)
      (hbo : -100 ≤ bo ∧ bo ≤ 100) (hlev : lev x y bo = fr) (hfr : 0 ≤ fr ∧ fr ≤ 100) : Ask Rs a fr
theorem take_snoc {l frs : List Int} {i : Nat} {fr : Int} (h : frs[i]? = some fr) : l ++ frs.take (i + 1) = (l ++ frs.take i) ++ [fr] := by
  rw [List.take_add_one, h, List.append_assoc]; rfl
theorem lawH3B (w : World) (mean : ExcName → Option Value) (mg mb : Str → Option Value) (g : Heap) (L fa : Addr) (cd : Value) (s : Shared)
    (Q : Flow → Shared → Prop) (E : Value → Shared → Prop) {FULL : List Stmt} {scope : Scope} {qual : Str} {cdv : Value}
    (hat : AtFn (hd.heap_39 w.params) 157 FULL scope qual cdv)
    {tn frs : List Int} {as : List Addr} {Rs : List (Addr × Obj)} {m : Str → Option Value} {DT D : Addr} {nn : Nat} {tv : List Value} {c2 : Nat}
    (hF : Fr g L s.heap m) (e4 : m (Str.ofString "told") = some (.ref DT)) (hN : News g L s.heap ((DT, W.listOf tv.toArray c2) :: Rs))
    (hD : s.heap.get? D = some (W.listOf (as.map Value.ref).toArray nn)) (hDL : D ≠ L) (hDn : ∀ p ∈ (DT, W.listOf tv.toArray c2) :: Rs, p.1 ≠ D)
    (htv : IntsAre tv tn) (htn : tn.length ≤ 150) (hfl : frs.length ≤ 50) (has : as.length = frs.length) (hoff : ∀ p ∈ Rs, p.1 ≠ DT) (hA : ∀ (i : Nat) (a : Addr), as[i]? = some a → ∃ fr, frs[i]? = some fr ∧ Ask Rs a fr)
    (hB : Below callerA g [] g) (hK : (hd.heap_39 w.params).In g) (hT : Top hdB.view_39 (looseW hdB.view_39 [Str.ofString "_Accumulator"]) mean mg mb g)
    (h77 : 84 < L)
    (hrest : ∀ (h : Heap) (tk c2 : Nat) (tv : List Value) (m' : Str → Option Value), Fr g L h m' → (∀ y, y ≠ Str.ofString "word" → y ≠ Str.ofString "other" → y ≠ Str.ofString "bound" → y ≠ Str.ofString "far" → m' y = m y) →
      News g L h ((DT, W.listOf tv.toArray c2) :: Rs) → IntsAre tv (tn ++ frs) → Q .next { s with heap := h, toks := tk }) :
    wpAny (model Challenge.rw_xj0014_01.row.prog w) (callerA.deeper (envOfC qual scope L fa cd)) (pyIter (.ref D))
      (fun it s₂ => TurnsAt (Challenge.rw_xj0014_01.row.prog) w (callerA.deeper (envOfC qual scope L fa cd)) g (envOfC qual scope L fa cd) (targetAt (bodyAt FULL 17) 3) (bodyAt (bodyAt FULL 17) 3) Q E it s₂) E s := by
  revert hK; k_fill; intro hK
  obtain ⟨elts, kk, pos, htg⟩ : ∃ elts kk pos, targetAt (bodyAt FULL 17) 3 = .Tuple elts kk pos := by
    refine' hat.elim ?h ?_
    case h => k_is
    intro e1 e2 e3 e4
    subst e1
    exact ⟨_, _, _, rfl⟩
  rw [htg]
  refine listTurns (D := D) (Ts := as) (nn := nn) (news := (DT, W.listOf tv.toArray c2) :: Rs) (fun i m₁ nx => ∃ (tv : List Value) (c2 : Nat), nx = (DT, W.listOf tv.toArray c2) :: Rs ∧
      IntsAre tv (tn ++ frs.take i) ∧ ∀ y, y ≠ Str.ofString "word" → y ≠ Str.ofString "other" → y ≠ Str.ofString "bound" → y ≠ Str.ofString "far" → m₁ y = m y)
    rfl hD hDL hDn hF hN ⟨tv, c2, rfl, (List.append_nil tn).symm ▸ htv, fun _ _ _ _ _ => rfl⟩ ?_ ?_
  · rintro i a m₁ nx h tk own hia ⟨tv, c2, rfl, htv, hm⟩ hown F1 N1
    obtain ⟨fr, hfr, x, y, bo, t1, t2, t3, t4, hmem, ha, hb, hoa, hob, hbo, hlev, hf⟩ := hA i a hia
    have hoffO : ∀ p ∈ Rs ++ own, p.1 ≠ DT := fun p hp => (List.mem_append.mp hp).elim (hoff p) fun hp => hown p hp DT (List.mem_cons_self ..)
    rw [← htg]
    refine lawH3T (rest := Rs ++ own) (m := m₁) w mean mg mb g L fa cd _ _ E hat F1 ((hm _ (by decide) (by decide) (by decide) (by decide)).trans e4) N1 (List.mem_append_left _ hmem) htv (len200 htn (Nat.le_trans (List.length_take_le' _ _) hfl)) hoffO ha hb hoa hob hbo hlev hf hB hK hT h77 ?_
    intro h4 tk4 c4 tv4 m4 F4 hm4 N4 htv4
    exact Turn.mk (nx := (DT, W.listOf tv4.toArray c4) :: Rs) F4 N4 hown ⟨tv4, c4, rfl, take_snoc hfr ▸ htv4, fun y h1 h2 h3 h4 => (hm4 y h1 h2 h3 h4).trans (hm y h1 h2 h3 h4)⟩
  · rintro h tk m₁ nx ⟨tv, c2, rfl, htv, hm⟩ F1 N1
    rw [has, List.take_length] at htv
    exact hrest h tk c2 tv m₁ F1 hm N1 htv
theorem lawH3 (w : World) (mean : ExcName → Option Value) (mg mb : Str → Option Value) (g : Heap) (L fa : Addr) (cd : Value) (s : Shared)
    (Q : Flow → Shared → Prop) (E : Value → Shared → Prop) {FULL : List Stmt} {scope : Scope} {qual : Str} {cdv : Value}
    (hat : AtFn (hd.heap_39 w.params) 157 FULL scope qual cdv)
    {ln ls : List Nat} {tn : List Int} {news : List (Addr × Obj)} {d wi : Int} {ns : List Int} {vs : List Value} {t1 t2 t3 : Tok} {m : Str → Option Value} {DT l : Addr} {tv : List Value} {c2 : Nat} {oc : Obj}
    (hF : Fr g L s.heap m) (e2 : m (Str.ofString "due") = some (.int d t2)) (e3 : m (Str.ofString "within") = some (.int wi t3)) (e4 : m (Str.ofString "told") = some (.ref DT)) (e5 : m (Str.ofString "script") = some (.ref l))
    (hl : g.IsList l vs.toArray) (hI : IntsAre vs ns) (hlen : ns.length ≤ 63)
    (hN : News g L s.heap ((DT, W.listOf tv.toArray c2) :: (L + 1, oc) :: news)) (hoc : oc.data = .cell (some (.str (T ln) t1))) (htv : IntsAre tv tn) (htn : tn.length ≤ 150) (hoff : ∀ p ∈ (L + 1, oc) :: news, p.1 ≠ DT)
    (hln : ln.length ≤ 8) (hol : ∀ c ∈ ln, OkC c) (hls : ls = ln.filter (· != 32)) (hls1 : 1 ≤ ls.length) (hdu : 0 ≤ d ∧ d ≤ 7) (hwi : 0 ≤ wi ∧ wi ≤ 8)
    (hl1 : lev (ls.drop 1) (ls.take (ls.length - 1)) ((if d < 4 then d else 4) - (ns.length % 2 : Nat)) = if d < 4 then d else 4)
    (hl2 : lev (ls.drop 1) (ls.take (ls.length - 1)) 0 = if d < 1 then d else 1)
    (hl3 : lev ln ls (2 * wi - (ns.length % 2 : Nat)) = 2 * wi) (hl4 : lev ls ln (2 * wi) = 2 * wi)
    (hB : Below callerA g [] g) (hK : (hd.heap_39 w.params).In g) (hT : Top hdB.view_39 (looseW hdB.view_39 [Str.ofString "_Accumulator"]) mean mg mb g)
    (h77 : 84 < L) (hE : PassesOwn (model Challenge.rw_xj0014_01.row.prog w) (callerA.deeper (envOfC qual scope L fa cd)) (envOfC qual scope L fa cd) E)
    (hrest : ∀ (h : Heap) (tk c2 : Nat) (tv : List Value) (m' : Str → Option Value), Fr g L h m' → (∀ y, y ≠ Str.ofString "word" → y ≠ Str.ofString "other" → y ≠ Str.ofString "bound" → y ≠ Str.ofString "far" → m' y = m y) →
      News g L h ((DT, W.listOf tv.toArray c2) :: (L + 1, oc) :: news) → IntsAre tv (tn ++ [if d < 4 then d else 4, if d < 1 then d else 1, 2 * wi, 2 * wi]) → Q .next { s with heap := h, toks := tk }) :
    wpAny (model Challenge.rw_xj0014_01.row.prog w) (callerA.deeper (envOfC qual scope L fa cd)) (execs ((bodyAt FULL 17).drop 3) (envOfC qual scope L fa cd)) Q E s := by
  revert hK; k_fill; intro hK
  refine' hat.elim ?h ?_
  case h => k_is
  intro e1 e2 e3 e4
  subst e1 e2 e3 e4
  try simp only [List.drop_succ_cons, List.drop_zero] at hrest ⊢
  dsimp only [bodyAt, List.drop] at hrest ⊢
  have hF0 := hF
  replace hF := Fr.as hF (mapL_cons e2 (mapL_cons e3 (mapL_cons e4 (mapL_cons e5 mapL_nil))))
  (repeat' ((with_reducible show wpAny _ _ (execs (_ :: _) _) _ _ _); (((first | (k_unfold; (try dsimp only)) | (k_end; wrow_close) | walk1 | (dsimp only; walk1) | (leave1; walk_say "STEP leave1"; try dsimp only) | fail "no step")))))
  with_unfolding_all refine PySem.W.For_turns hF ?_ (hE := hE)
  (repeat' ((fail_if_success (with_reducible show wpAny _ _ (execs (_ :: _) _) _ _ _)); (fail_if_success (with_reducible show wpAny _ _ (eval (PySem.Expr.ListComp _ _ _ _) _) _ _ _)); (fail_if_success (with_reducible show wpAny _ _ (getMethod (Value.ref _) _ _) _ _ _)); (fail_if_success (with_reducible show wpAny _ _ (call (Value.ref _) _) _ _ _)); (fail_if_success (with_reducible show wpAny _ _ (pyIter _) _ _ _)); (((first | (k_unfold; (try dsimp only)) | (k_end; wrow_close) | walk1 | (dsimp only; walk1) | (leave1; walk_say "STEP leave1"; try dsimp only) | fail "no step")))))
  have hle : (ns.length : Int).fmod 2 = ((ns.length % 2 : Nat) : Int) := by rw [Int.fmod_eq_emod_of_nonneg _ (by decide)]; omega
  rw [hle]
  have hle2 : (ns.length % 2 : Nat) ≤ 1 := by omega
  generalize ns.length % 2 = le at *
  rename Fr g _ _ _ => F1
  rename News g _ _ _ => N1
  refine askings_claim w mean mg mb _ ln _ d wi le _ _ _ _ _ _ _ _ _ _ _ _ _ _ _ _ _ _ _ _ hB F1 hK N1 hT rfl ⟨by omega, hol, by omega, by omega, by omega, by omega, by omega, by omega, by rw [← hls]; exact hls1⟩ (by ktr_room) (by ktr_units) ?_
  rintro v ns2 h2 tk2 F2 N2 ⟨ls', D, a1, a2, a3, a4, u1, u2, u3, u4, u5, u6, u7, u8, u9, v1, v2, v3, v4, v5, v6, v7, hls', rfl, rfl, q4, q3, q2, q1, p1, p2, p3, p4⟩
  obtain rfl : ls = ls' := hls.trans hls'.symm
  clear F1 N1
  have hos : ∀ c ∈ ls, OkC c := fun c hc => hol c (by rw [hls] at hc; exact (List.mem_filter.mp hc).1)
  have hos1 : ∀ c ∈ ls.drop 1, OkC c := fun c hc => hos c (List.mem_of_mem_drop hc)
  have hos2 : ∀ c ∈ ls.take (ls.length - 1), OkC c := fun c hc => hos c (List.mem_of_mem_take hc)
  have hq3 : ln.length ≤ 20 := Nat.le_trans hln (by decide)
  have hq4 : ls.length ≤ 20 := by rw [hls]; exact Nat.le_trans (List.length_filter_le _ _) hq3
  have hq1 : (ls.drop 1).length ≤ 20 := Nat.le_trans (by rw [List.length_drop]; exact Nat.sub_le _ _) hq4
  have hq2 : (ls.take (ls.length - 1)).length ≤ 20 := Nat.le_trans (List.length_take_le' _ _) hq4
  have hbs := ask_bounds hdu hwi hle2
  have N3 : News g L h2 ((D, W.listOf #[.ref a1, .ref a2, .ref a3, .ref a4] 0) :: (DT, W.listOf tv.toArray c2) :: (L + 1, oc) :: _) := fun p hp => N2 p (perm_mem hp)
  clear N2
  refine lawH3B (as := [a1, a2, a3, a4]) (frs := [if d < 4 then d else 4, if d < 1 then d else 1, 2 * wi, 2 * wi]) (Rs := (L + 1, oc) :: _) w mean mg mb g L fa cd _ _ E hat F2 rfl (fun p hp => N3 p (.tail _ hp)) (N3 _ (.head _)).1 (N3 _ (.head _)).2.1
    (offD (fun p hp => Nat.lt_trans (p1 p hp) q1) q1 q2 q3 q4 (fun p hp => four_or hp)) htv htn (show 4 ≤ 50 by decide) rfl (offs hoff (p1 _ (.head _)) (p2 _ (.head _)) (p3 _ (.head _)) (p4 _ (.head _)) (fun p hp => four_or hp)) ?_ hB hK hT h77 ?_
  · clear N3 F2 hrest
    rintro (_ | _ | _ | _ | i) a h
    · exact ⟨_, rfl, Option.some.inj h ▸ ⟨_, _, _, _, _, _, _, .tail _ (.tail _ (.tail _ (.tail _ (.head _)))), hq1, hq2, hos1, hos2, hbs.1, hl1, hbs.2.1⟩⟩
    · exact ⟨_, rfl, Option.some.inj h ▸ ⟨_, _, _, _, _, _, _, .tail _ (.tail _ (.tail _ (.head _))), hq1, hq2, hos1, hos2, by decide, hl2, hbs.2.2.1⟩⟩
    · exact ⟨_, rfl, Option.some.inj h ▸ ⟨_, _, _, _, _, _, _, .tail _ (.tail _ (.head _)), hq3, hq4, hol, hos, hbs.2.2.2.1, hl3, hbs.2.2.2.2.1⟩⟩
    · exact ⟨_, rfl, Option.some.inj h ▸ ⟨_, _, _, _, _, _, _, .tail _ (.head _), hq4, hq3, hos, hol, hbs.2.2.2.2.2, hl4, hbs.2.2.2.2.1⟩⟩
    · cases h
  · intro h tk c2 tv m₁ F1 hm N1 htv
    (repeat' ((fail_if_success (with_reducible show wpAny _ _ (execs (_ :: _) _) _ _ _)); (((first | (k_unfold; (try dsimp only)) | (k_end; wrow_close) | walk1 | (dsimp only; walk1) | (leave1; walk_say "STEP leave1"; try dsimp only) | fail "no step")))))
    refine hrest h tk c2 tv m₁ F1 (fun y h1 h2 h3 h4 => (hm y h1 h2 h3 h4).trans (by rw [if_back e5, if_back e4, if_back e3, if_back e2])) (fun p hp => N1 p (keep_mem (fun p hp => .tail _ (.tail _ (.tail _ (.tail _ hp)))) hp)) htv
end
section
open PySem PySem.W PyProof.Rows
structure LineOk (ln : List Nat) (d wi : Int) (le : Nat) : Prop where
  len : ln.length ≤ 8
  ok : ∀ c ∈ ln, OkC c
  one : 1 ≤ (ln.filter (· != 32)).length
  d0 : 0 ≤ d ∧ d ≤ 7
  w0 : 0 ≤ wi ∧ wi ≤ 8
  sum : (List.zipWith cost ln ln.tail).sum = d + 3 * wi
  l1 : lev ((ln.filter (· != 32)).drop 1) ((ln.filter (· != 32)).take ((ln.filter (· != 32)).length - 1)) ((if d < 4 then d else 4) - (le : Nat)) = if d < 4 then d else 4
  l2 : lev ((ln.filter (· != 32)).drop 1) ((ln.filter (· != 32)).take ((ln.filter (· != 32)).length - 1)) 0 = if d < 1 then d else 1
  l3 : lev ln (ln.filter (· != 32)) (2 * wi - (le : Nat)) = 2 * wi
  l4 : lev (ln.filter (· != 32)) ln (2 * wi) = 2 * wi
noncomputable def outL (ln : List Nat) (d wi : Int) : List Int := List.zipWith cost ln ln.tail ++ [if d < 4 then d else 4, if d < 1 then d else 1, 2 * wi, 2 * wi]
theorem cost_02 (a b : Nat) : 0 ≤ cost a b ∧ cost a b ≤ 2 := by
  unfold cost; split
  · decide
  · split
    · decide
    · split <;> decide
theorem costs_02 : ∀ (x y : List Nat), ∀ a ∈ List.zipWith cost x y, 0 ≤ a ∧ a ≤ 2
  | [], _, a, h => by simp at h
  | _ :: _, [], a, h => by simp at h
  | p :: x, q :: y, a, h => by
    rw [List.zipWith_cons_cons] at h
    rcases List.mem_cons.mp h with rfl | h
    · exact cost_02 p q
    · exact costs_02 x y a h
theorem lawHT (w : World) (mean : ExcName → Option Value) (mg mb : Str → Option Value) (g : Heap) (L fa : Addr) (cd : Value) (s : Shared)
    (Q : Flow → Shared → Prop) (E : Value → Shared → Prop) {FULL : List Stmt} {scope : Scope} {qual : Str} {cdv : Value}
    (hat : AtFn (hd.heap_39 w.params) 157 FULL scope qual cdv)
    {ln : List Nat} {tn : List Int} {rest : List (Addr × Obj)} {d wi : Int} {ns : List Int} {vs : List Value} {t1 t2 t4 : Tok} {m : Str → Option Value} {DT l a : Addr} {tv : List Value} {c2 : Nat} {oc : Obj} {v₀ : Option Value}
    (hF : Fr g L s.heap m) (e6 : m (Str.ofString "within") = some (.int wi t4)) (e4 : m (Str.ofString "told") = some (.ref DT)) (e5 : m (Str.ofString "script") = some (.ref l))
    (hl : g.IsList l vs.toArray) (hI : IntsAre vs ns) (hlen : ns.length ≤ 63)
    (hN : News g L s.heap ((DT, W.listOf tv.toArray c2) :: (L + 1, oc) :: rest)) (ha : (a, ({ cls := .type "tuple", data := .seq #[.int d t2, .str (T ln) t1] } : Obj)) ∈ rest) (hoc : oc.data = .cell v₀) (htv : IntsAre tv tn) (htn : tn.length ≤ 60) (hoff : ∀ p ∈ rest, p.1 ≠ DT ∧ p.1 ≠ L + 1) (hDL1 : L + 1 ≠ DT)
    (ok1 : LineOk ln d wi (ns.length % 2))
    (hB : Below callerA g [] g) (hK : (hd.heap_39 w.params).In g) (hT : Top hdB.view_39 (looseW hdB.view_39 [Str.ofString "_Accumulator"]) mean mg mb g)
    (h77 : 84 < L) (hE : PassesOwn (model Challenge.rw_xj0014_01.row.prog w) (callerA.deeper (envOfC qual scope L fa cd)) (envOfC qual scope L fa cd) E)
    (hrest : ∀ (h : Heap) (tk c2 : Nat) (tv : List Value) (oc : Obj) (v₀ : Option Value) (m' : Str → Option Value), Fr g L h m' → (∀ y, y ≠ Str.ofString "due" → y ≠ Str.ofString "costs" → y ≠ Str.ofString "word" → y ≠ Str.ofString "other" → y ≠ Str.ofString "bound" → y ≠ Str.ofString "far" → m' y = m y) →
      News g L h ((DT, W.listOf tv.toArray c2) :: (L + 1, oc) :: rest) → oc.data = .cell v₀ → IntsAre tv (tn ++ outL ln d wi) → Q .next { s with heap := h, toks := tk }) :
    wpAny (model Challenge.rw_xj0014_01.row.prog w) (callerA.deeper (envOfC qual scope L fa cd)) (assign (targetAt FULL 17) (envOfC qual scope L fa cd) (.ref a)) (fun _ s₂ => wpAny (model Challenge.rw_xj0014_01.row.prog w) (callerA.deeper (envOfC qual scope L fa cd)) (execs (bodyAt FULL 17) (envOfC qual scope L fa cd)) Q E s₂) E s := by
  revert hK; k_fill; intro hK
  refine' hat.elim ?h ?_
  case h => k_is
  intro e1 e2 e3 e4
  subst e1 e2 e3 e4
  try simp only [List.drop_succ_cons, List.drop_zero] at hrest ⊢
  dsimp only [bodyAt, targetAt, List.drop] at hrest ⊢
  have N2 : News g L _ ((a, ({ cls := .type "tuple", data := .seq #[.int d t2, .str (T ln) t1] } : Obj)) :: (DT, W.listOf tv.toArray c2) :: (L + 1, oc) :: rest) := fun p hp => hN p (by grind)
  clear hN
  (repeat' ((fail_if_success (with_reducible show wpAny _ _ (execs (_ :: _) _) _ _ _)); (((first | (k_unfold; (try dsimp only)) | (k_end; wrow_close) | walk1 | (dsimp only; walk1) | (leave1; walk_say "STEP leave1"; try dsimp only) | fail "no step")))))
  rename Fr g _ _ _ => F1
  rename News g _ _ _ => N1
  have N1' : News g L _ ((L + 1, oc) :: (DT, W.listOf tv.toArray c2) :: rest) := fun p hp => N1 p (by grind)
  refine storeX_C F1 N1' rfl (UpdF.head (fun p hp => by
    rcases List.mem_cons.mp hp with rfl | hp
    · exact Ne.symm hDL1
    · exact (hoff p hp).2)) hoc ?_
  intro h3 o3 F3 N3 ho3
  clear F1 N1 N1'
  (repeat' ((fail_if_success (with_reducible show wpAny _ _ (execs (_ :: _) _) _ _ _)); (((first | (k_unfold; (try dsimp only)) | (k_end; wrow_close) | walk1 | (dsimp only; walk1) | (leave1; walk_say "STEP leave1"; try dsimp only) | fail "no step")))))
  have hos : ∀ c ∈ ln, OkC c := ok1.ok
  refine lawH1 (ln := ln) (news := (DT, W.listOf tv.toArray c2) :: rest) (oc := o3) (t1 := t1) w mean mg mb g L fa cd _ _ E hat (by exact F3) (by exact N3) ho3 ok1.len ok1.ok hB hK hT h77 hE ?_
  intro h4 tk4 c4 CD cv F4 N4 o4 hcv
  clear F3 N3
  refine lawH2 (cs := List.zipWith cost ln ln.tail) (tn := tn) (news := (L + 1, o3) :: rest) (d := d) (wi := wi) (t1 := t2) (t2 := t4) (CD := CD) (DT := DT) (cv := cv) (tv := tv) (c := c4) (c2 := c2) w mean mg mb g L fa cd _ _ E hat (by exact F4) rfl rfl (by exact e6) (by exact e4) (by exact fun p hp => N4 p (by grind)) hcv htv (by have := ok1.len; simp; omega) (by omega) (costs_02 _ _) ok1.sum (Ne.symm (o4 _ (.tail _ (.head _)))) (fun p hp => by
    rcases List.mem_cons.mp hp with rfl | hp
    · exact hDL1
    · exact (hoff p hp).1) hB hK hT h77 ?_
  intro h5 tk5 c5 tv5 F5 N5 htv5
  clear F4 N4
  refine lawH3 (ln := ln) (ls := ln.filter (· != 32)) (tn := tn ++ List.zipWith cost ln ln.tail) (news := rest) (d := d) (wi := wi) (ns := ns) (vs := vs) (t1 := t1) (t2 := t2) (t3 := t4) (DT := DT) (l := l) (tv := tv5) (c2 := c5) (oc := o3) w mean mg mb g L fa cd _ _ E hat (by exact F5) rfl (by exact e6) (by exact e4) (by exact e5) hl hI hlen (by exact fun p hp => N5 p (by grind)) ho3 htv5 (by have := ok1.len; simp; omega) (fun p hp => by
    rcases List.mem_cons.mp hp with rfl | hp
    · exact hDL1
    · exact (hoff p hp).1) ok1.len ok1.ok rfl ok1.one ok1.d0 ok1.w0 ok1.l1 ok1.l2 ok1.l3 ok1.l4 hB hK hT h77 hE ?_
  intro h6 tk6 c6 tv6 m6 F6 hm6 N6 htv6
  refine hrest h6 tk6 c6 tv6 o3 _ m6 F6 (fun y q1 q2 q3 q4 q5 q6 => ?_) N6 ho3 (by rw [outL, ← List.append_assoc]; exact htv6)
  rw [hm6 y q3 q4 q5 q6]
  simp only [if_neg q2, if_neg q1]
end
section
open PySem PySem.W PyProof.Rows
inductive HInv (L DT : Addr) (Rs : List (Addr × Obj)) (tn o1 o2 : List Int) (m : Str → Option Value) (i : Nat) (m₁ : Str → Option Value) (nx : List (Addr × Obj)) : Prop
  | mk (tv : List Value) (c2 : Nat) (oc : Obj) (v₀ : Option Value) (h0 : nx = (DT, W.listOf tv.toArray c2) :: (L + 1, oc) :: Rs) (hoc : oc.data = .cell v₀) (htv : IntsAre tv (tn ++ ([o1, o2].take i).flatten))
      (hm : ∀ y, y ≠ Str.ofString "due" → y ≠ Str.ofString "costs" → y ≠ Str.ofString "word" → y ≠ Str.ofString "other" → y ≠ Str.ofString "bound" → y ≠ Str.ofString "far" → m₁ y = m y) : HInv L DT Rs tn o1 o2 m i m₁ nx
theorem HInv.one {L DT : Addr} {Rs : List (Addr × Obj)} {tn o1 o2 : List Int} {m m₁ : Str → Option Value} {tv : List Value} {c2 : Nat} {oc : Obj} {v₀ : Option Value} (hoc : oc.data = .cell v₀) (htv : IntsAre tv (tn ++ o1))
    (hm : ∀ y, y ≠ Str.ofString "due" → y ≠ Str.ofString "costs" → y ≠ Str.ofString "word" → y ≠ Str.ofString "other" → y ≠ Str.ofString "bound" → y ≠ Str.ofString "far" → m₁ y = m y) : HInv L DT Rs tn o1 o2 m 1 m₁ ((DT, W.listOf tv.toArray c2) :: (L + 1, oc) :: Rs) :=
  ⟨tv, c2, oc, v₀, rfl, hoc, by simpa using htv, hm⟩
theorem HInv.two {L DT : Addr} {Rs : List (Addr × Obj)} {tn o1 o2 : List Int} {m m₁ : Str → Option Value} {tv : List Value} {c2 : Nat} {oc : Obj} {v₀ : Option Value} (hoc : oc.data = .cell v₀) (htv : IntsAre tv ((tn ++ o1) ++ o2))
    (hm : ∀ y, y ≠ Str.ofString "due" → y ≠ Str.ofString "costs" → y ≠ Str.ofString "word" → y ≠ Str.ofString "other" → y ≠ Str.ofString "bound" → y ≠ Str.ofString "far" → m₁ y = m y) : HInv L DT Rs tn o1 o2 m 2 m₁ ((DT, W.listOf tv.toArray c2) :: (L + 1, oc) :: Rs) :=
  ⟨tv, c2, oc, v₀, rfl, hoc, by simpa using htv, hm⟩
theorem hp1 {α : Type} {d o p : α} {rs ow : List α} (h : p ∈ d :: o :: (rs ++ ow)) : p ∈ d :: o :: rs ++ ow := h
theorem hp2 {α : Type} {D d o a b p : α} {ns : List α} (h : p ∈ d :: o :: b :: a :: ns) : p ∈ D :: b :: a :: d :: o :: ns := by
  simp only [List.mem_cons] at *
  grind
theorem flat0 {tv : List Value} {tn o1 o2 : List Int} (h : IntsAre tv (tn ++ ([o1, o2].take 0).flatten)) : IntsAre tv tn := by simpa using h
theorem flat1 {tv : List Value} {tn o1 o2 : List Int} (h : IntsAre tv (tn ++ ([o1, o2].take 1).flatten)) : IntsAre tv (tn ++ o1) := by simpa using h
theorem flat2 {tv : List Value} {tn o1 o2 : List Int} (h : IntsAre tv (tn ++ ([o1, o2].take 2).flatten)) : IntsAre tv (tn ++ (o1 ++ o2)) := by simpa using h
theorem lawH (w : World) (mean : ExcName → Option Value) (mg mb : Str → Option Value) (g : Heap) (L fa : Addr) (cd : Value) (s : Shared)
    (Q : Flow → Shared → Prop) (E : Value → Shared → Prop) {FULL : List Stmt} {scope : Scope} {qual : Str} {cdv : Value}
    (hat : AtFn (hd.heap_39 w.params) 157 FULL scope qual cdv)
    {sb : List Nat} {tn : List Int} {news : List (Addr × Obj)} {be ab wi : Int} {ns : List Int} {vs : List Value} {t1 t2 t3 t4 : Tok} {m : Str → Option Value} {DT l : Addr} {tv : List Value} {c2 : Nat} {oc : Obj} {v₀ : Option Value}
    (hF : Fr g L s.heap m) (e1 : m (Str.ofString "bare") = some (.str (T sb) t1)) (e2 : m (Str.ofString "below") = some (.int be t2)) (e3 : m (Str.ofString "above") = some (.int ab t3)) (e6 : m (Str.ofString "within") = some (.int wi t4)) (e4 : m (Str.ofString "told") = some (.ref DT)) (e5 : m (Str.ofString "script") = some (.ref l))
    (hl : g.IsList l vs.toArray) (hI : IntsAre vs ns) (hlen : ns.length ≤ 63)
    (hN : News g L s.heap ((DT, W.listOf tv.toArray c2) :: (L + 1, oc) :: news)) (hoc : oc.data = .cell v₀) (htv : IntsAre tv tn) (htn : tn.length ≤ 20) (hoff : ∀ p ∈ (L + 1, oc) :: news, p.1 ≠ DT) (hoffL : ∀ p ∈ news, p.1 ≠ L + 1)
    (ok1 : LineOk sb be wi (ns.length % 2)) (ok2 : LineOk (turnL 0 sb) ab wi (ns.length % 2))
    (hB : Below callerA g [] g) (hK : (hd.heap_39 w.params).In g) (hT : Top hdB.view_39 (looseW hdB.view_39 [Str.ofString "_Accumulator"]) mean mg mb g)
    (h77 : 84 < L) (hE : PassesOwn (model Challenge.rw_xj0014_01.row.prog w) (callerA.deeper (envOfC qual scope L fa cd)) (envOfC qual scope L fa cd) E)
    (hrest : ∀ (h : Heap) (tk c2 : Nat) (tv : List Value) (oc : Obj) (m' : Str → Option Value), Fr g L h m' → m' (Str.ofString "told") = some (.ref DT) →
      News g L h ((DT, W.listOf tv.toArray c2) :: (L + 1, oc) :: news) → IntsAre tv (tn ++ (outL sb be wi ++ outL (turnL 0 sb) ab wi)) →
      wpAny (model Challenge.rw_xj0014_01.row.prog w) (callerA.deeper (envOfC qual scope L fa cd)) (execs (FULL.drop 18) (envOfC qual scope L fa cd)) Q E { s with heap := h, toks := tk }) :
    wpAny (model Challenge.rw_xj0014_01.row.prog w) (callerA.deeper (envOfC qual scope L fa cd)) (execs (FULL.drop 17) (envOfC qual scope L fa cd)) Q E s := by
  revert hK; k_fill; intro hK
  refine' hat.elim ?h ?_
  case h => k_is
  intro e1 e2 e3 e4
  subst e1 e2 e3 e4
  try simp only [List.drop_succ_cons, List.drop_zero] at hrest ⊢
  have hTb : (T sb).length = sb.length := T_len _
  have hsb := ok1.len
  replace hF := Fr.as hF (mapL_cons e1 (mapL_cons e2 (mapL_cons e3 mapL_nil)))
  (repeat' ((with_reducible show wpAny _ _ (execs (_ :: _) _) _ _ _); (((first | (k_unfold; (try dsimp only)) | (k_end; wrow_close) | walk1 | (dsimp only; walk1) | (leave1; walk_say "STEP leave1"; try dsimp only) | fail "no step")))))
  with_unfolding_all refine PySem.W.For_turns hF ?_ (hE := hE)
  (repeat' ((fail_if_success (with_reducible show wpAny _ _ (execs (_ :: _) _) _ _ _)); (fail_if_success (with_reducible show wpAny _ _ (eval (PySem.Expr.ListComp _ _ _ _) _) _ _ _)); (fail_if_success (with_reducible show wpAny _ _ (getMethod (Value.ref _) _ _) _ _ _)); (fail_if_success (with_reducible show wpAny _ _ (call (Value.ref _) _) _ _ _)); (fail_if_success (with_reducible show wpAny _ _ (pyIter _) _ _ _)); (((first | (k_unfold; (try dsimp only)) | (k_end; wrow_close) | walk1 | (dsimp only; walk1) | (leave1; walk_say "STEP leave1"; try dsimp only) | fail "no step")))))
  refine turned_claim w mean mg mb _ sb _ _ _ _ _ _ _ _ _ _ _ _ _ _ _ _ _ _ hB (by assumption) hK (by assumption) hT rfl (by omega) (by ktr_room) (by ktr_units) ?_
  intro t5 h5 tk5 F5 N5
  have hTu : (T (turnL 0 sb)).length = sb.length := by rw [T_len, turnL_len]
  (repeat' ((fail_if_success (with_reducible show wpAny _ _ (execs (_ :: _) _) _ _ _)); (fail_if_success (with_reducible show wpAny _ _ (eval (PySem.Expr.ListComp _ _ _ _) _) _ _ _)); (fail_if_success (with_reducible show wpAny _ _ (getMethod (Value.ref _) _ _) _ _ _)); (fail_if_success (with_reducible show wpAny _ _ (call (Value.ref _) _) _ _ _)); (fail_if_success (with_reducible show wpAny _ _ (pyIter _) _ _ _)); (((first | (k_unfold; (try dsimp only)) | (k_end; wrow_close) | walk1 | (dsimp only; walk1) | (leave1; walk_say "STEP leave1"; try dsimp only) | fail "no step")))))
  rename Fr g _ _ _ => F6
  rename News g _ _ ((_, _) :: _) => N6
  rename (_ < _ ∧ _ < _ ∧ DT < _ ∧ L + 1 < _ ∧ AllLt _ news) => q3
  rename (_ < _ ∧ DT < _ ∧ L + 1 < _ ∧ AllLt _ news) => q2
  rename (DT < _ ∧ L + 1 < _ ∧ AllLt _ news) => q1
  rename_i b1 _ b2 _ D h6
  obtain ⟨Rs, hRs⟩ : ∃ Rs : List (Addr × Obj), Rs = (b2, { cls := .type "tuple", data := .seq #[.int ab t3, .str (T (turnL 0 sb)) t5] }) :: (b1, { cls := .type "tuple", data := .seq #[.int be t2, .str (T sb) t1] }) :: news := ⟨_, rfl⟩
  have hRm : ∀ p ∈ Rs, p ∈ news ∨ p.1 = b1 ∨ p.1 = b2 := fun p hp => by
    rw [hRs] at hp
    simp only [List.mem_cons] at hp
    rcases hp with h | h | h
    · simp [h]
    · simp [h]
    · exact .inl h
  have hoffR : ∀ p ∈ Rs, p.1 ≠ DT := fun p hp => by
    rcases hRm p hp with h | h | h
    · exact hoff p (.tail _ h)
    · rw [h]; exact Nat.ne_of_gt q1.1
    · rw [h]; exact Nat.ne_of_gt q2.2.1
  have hoffRL : ∀ p ∈ Rs, p.1 ≠ L + 1 := fun p hp => by
    rcases hRm p hp with h | h | h
    · exact hoffL p h
    · rw [h]; exact Nat.ne_of_gt q1.2.1
    · rw [h]; exact Nat.ne_of_gt q2.2.2.1
  have hDL1 : L + 1 ≠ DT := hoff _ (.head _)
  refine tupleTurns (D := D) (Ts := [b1, b2]) (nn := 0) (news := (DT, W.listOf tv.toArray c2) :: (L + 1, oc) :: Rs) (HInv L DT Rs tn (outL sb be wi) (outL (turnL 0 sb) ab wi) m)
    rfl (N6 _ (.head _)).1 (N6 _ (.head _)).2.1 (fun p hp => ?_) F6 (fun p hp => N6 p (by grind)) ⟨tv, c2, oc, v₀, rfl, hoc, (List.append_nil tn).symm ▸ htv, fun y _ _ _ _ _ _ => by rw [if_back e3, if_back e2, if_back e1]⟩ ?_ ?_
  · rcases List.mem_cons.mp hp with rfl | hp
    · exact Nat.ne_of_lt q3.2.2.1
    rcases List.mem_cons.mp hp with rfl | hp
    · exact Nat.ne_of_lt q3.2.2.2.1
    rcases hRm p hp with h | h | h
    · exact Nat.ne_of_lt (AllLt_mem q3.2.2.2.2 p h)
    · rw [h]; exact Nat.ne_of_lt q3.2.1
    · rw [h]; exact Nat.ne_of_lt q3.1
  · clear F6 N6
    rintro i a m₁ nx h tk own hia ⟨tv, c2, oc, v₀, rfl, hoc, htv, hm⟩ hown F1 N1
    have g4 := (hm _ (by decide) (by decide) (by decide) (by decide) (by decide) (by decide)).trans e4
    have g5 := (hm _ (by decide) (by decide) (by decide) (by decide) (by decide) (by decide)).trans e5
    have g6 := (hm _ (by decide) (by decide) (by decide) (by decide) (by decide) (by decide)).trans e6
    have hoffO : ∀ p ∈ Rs ++ own, p.1 ≠ DT ∧ p.1 ≠ L + 1 := fun p hp => by
      rcases List.mem_append.mp hp with hp | hp
      · exact ⟨hoffR p hp, hoffRL p hp⟩
      · exact ⟨hown p hp DT (by simp), hown p hp (L + 1) (by simp)⟩
    rcases i with _ | _ | i
    · obtain rfl : b1 = a := Option.some.inj hia
      have hlt60 : tn.length ≤ 60 := by omega
      replace htv := flat0 htv
      have hmem : (b1, ({ cls := .type "tuple", data := .seq #[.int be t2, .str (T (sb)) t1] } : Obj)) ∈ Rs ++ own := by rw [hRs]; simp
      refine lawHT (ln := sb) (tn := tn) (rest := Rs ++ own) (d := be) (wi := wi) (ns := ns) (vs := vs) (t1 := t1) (t2 := t2) (t4 := t4) (DT := DT) (l := l) (a := b1) (tv := tv) (c2 := c2) (oc := oc) (v₀ := v₀) w mean mg mb g L fa cd _ _ E hat (by exact F1) (by exact g6) (by exact g4) (by exact g5) hl hI hlen (by exact fun p hp => N1 p (by grind)) hmem hoc htv hlt60 hoffO hDL1 ok1 hB hK hT h77 hE ?_
      intro h9 tk9 c9 tv9 oc9 v9 m9 F9 hm9 N9 hoc9 htv9
      refine Turn.mk (nx := (DT, W.listOf tv9.toArray c9) :: (L + 1, oc9) :: Rs) F9 (fun p hp => N9 p (by grind)) (fun p hp => ?_) (.one hoc9 htv9 fun y q1 q2 q3 q4 q5 q6 => (hm9 y q1 q2 q3 q4 q5 q6).trans (hm y q1 q2 q3 q4 q5 q6))
      exact hown p hp
    · obtain rfl : b2 = a := Option.some.inj hia
      have hlt60 : (tn ++ outL sb be wi).length ≤ 60 := by simp [outL]; omega
      replace htv := flat1 htv
      have hmem : (b2, ({ cls := .type "tuple", data := .seq #[.int ab t3, .str (T (turnL 0 sb)) t5] } : Obj)) ∈ Rs ++ own := by rw [hRs]; simp
      refine lawHT (ln := turnL 0 sb) (tn := tn ++ outL sb be wi) (rest := Rs ++ own) (d := ab) (wi := wi) (ns := ns) (vs := vs) (t1 := t5) (t2 := t3) (t4 := t4) (DT := DT) (l := l) (a := b2) (tv := tv) (c2 := c2) (oc := oc) (v₀ := v₀) w mean mg mb g L fa cd _ _ E hat (by exact F1) (by exact g6) (by exact g4) (by exact g5) hl hI hlen (by exact fun p hp => N1 p (by grind)) hmem hoc htv hlt60 hoffO hDL1 ok2 hB hK hT h77 hE ?_
      intro h9 tk9 c9 tv9 oc9 v9 m9 F9 hm9 N9 hoc9 htv9
      refine Turn.mk (nx := (DT, W.listOf tv9.toArray c9) :: (L + 1, oc9) :: Rs) F9 (fun p hp => N9 p (by grind)) (fun p hp => ?_) (.two hoc9 htv9 fun y q1 q2 q3 q4 q5 q6 => (hm9 y q1 q2 q3 q4 q5 q6).trans (hm y q1 q2 q3 q4 q5 q6))
      exact hown p hp
    · cases hia
  · clear F6 N6
    rintro h tk m₁ nx ⟨tv, c2, oc, v₀, rfl, hoc, htv, hm⟩ F1 N1
    have g4 := (hm _ (by decide) (by decide) (by decide) (by decide) (by decide) (by decide)).trans e4
    refine hrest h tk c2 tv oc m₁ F1 g4 (fun p hp => N1 p ?_) (flat2 htv)
    rw [hRs]
    grind
end
section
open PySem PySem.W PyProof.Rows
theorem lawI (w : World) (mean : ExcName → Option Value) (mg mb : Str → Option Value) (g : Heap) (L fa : Addr) (cd : Value) (s : Shared)
    (Q : Flow → Shared → Prop) (E : Value → Shared → Prop) {FULL : List Stmt} {scope : Scope} {qual : Str} {cdv : Value}
    (hat : AtFn (hd.heap_39 w.params) 157 FULL scope qual cdv)
    {tn : List Int} {news : List (Addr × Obj)} {m : Str → Option Value} {DT : Addr} {tv : List Value} {c2 : Nat}
    (hF : Fr g L s.heap m) (e1 : m (Str.ofString "told") = some (.ref DT))
    (hN : News g L s.heap ((DT, W.listOf tv.toArray c2) :: news)) (htv : IntsAre tv tn) (htn : tn.length ≤ 60) (hge : ∀ a ∈ tn, -1 ≤ a)
    (hB : Below callerA g [] g) (hK : (hd.heap_39 w.params).In g) (hT : Top hdB.view_39 (looseW hdB.view_39 [Str.ofString "_Accumulator"]) mean mg mb g)
    (h77 : 84 < L) (hE : PassesOwn (model Challenge.rw_xj0014_01.row.prog w) (callerA.deeper (envOfC qual scope L fa cd)) (envOfC qual scope L fa cd) E)
    (hrest : ∀ (h : Heap) (tk : Nat), Fr g L h m → News g L h news → Q (.ret (.bool true)) { s with heap := h, toks := tk }) :
    wpAny (model Challenge.rw_xj0014_01.row.prog w) (callerA.deeper (envOfC qual scope L fa cd)) (execs (FULL.drop 18) (envOfC qual scope L fa cd)) Q E s := by
  revert hK; k_fill; intro hK
  refine' hat.elim ?h ?_
  case h => k_is
  intro e1 e2 e3 e4
  subst e1 e2 e3 e4
  try simp only [List.drop_succ_cons, List.drop_zero] at hrest ⊢
  have hF0 := hF
  replace hF := Fr.as hF (mapL_cons e1 mapL_nil)
  (repeat' ((with_reducible show wpAny _ _ (execs (_ :: _) _) _ _ _); (((first | (k_unfold; (try dsimp only)) | (k_end; wrow_close) | walk1 | (dsimp only; walk1) | (leave1; walk_say "STEP leave1"; try dsimp only) | fail "no step")))))
  (repeat' ((fail_if_success (with_reducible show wpAny _ _ (execs (_ :: _) _) _ _ _)); (fail_if_success (with_reducible show wpAny _ _ (eval (PySem.Expr.ListComp _ _ _ _) _) _ _ _)); (((first | (k_unfold; (try dsimp only)) | (k_end; wrow_close) | walk1 | (dsimp only; walk1) | (leave1; walk_say "STEP leave1"; try dsimp only) | fail "no step")))))
  k_dflt (refine ListComp_filter (p := fun a => decide (a < -1)) hF hN (.head _) htv (by omega) rfl (by with_unfolding_all rfl) (by decide) (by rfl) (by decide) (by rfl) (by decide) ?_ ?_ ?_)
  · intro Q' hq
    refine nameX_L hF ?_ hq ?_ ?_
    all_goals rfl
  · intro a ta I oI C oC D oD m₂ h tk Q' E' hCo ha F' N' hq
    clear hF hN hF0
    iterate 18 ((first | (k_unfold; (try dsimp only)) | (k_end; wrow_close) | walk1 | (dsimp only; walk1) | (leave1; walk_say "STEP leave1"; try dsimp only) | fail "no step"))
    repeat' (first | exact hq _ | ((first | (k_unfold; (try dsimp only)) | (k_end; wrow_close) | walk1 | (dsimp only; walk1) | (leave1; walk_say "STEP leave1"; try dsimp only) | fail "no step")))
    · have hp : decide (a < -1) = true := decide_eq_true (by omega)
      simp only [hp] at hq
      exact hq _
    · have hp : decide (a < -1) = false := decide_eq_false (by omega)
      simp only [hp] at hq
      exact hq _
  · intro D1 zs c1 h1 tk hz F1 N1 lt1
    have hnil : tn.filter (fun a => decide (a < -1)) = [] := List.filter_eq_nil_iff.mpr fun a ha => by have := hge a ha; simp; omega
    rw [hnil] at hz
    cases hz
    clear hF hN hF0
    iterate 4 ((first | (k_unfold; (try dsimp only)) | (k_end; wrow_close) | walk1 | (dsimp only; walk1) | (leave1; walk_say "STEP leave1"; try dsimp only) | fail "no step"))
    rename Fr g _ _ _ => F2
    rename News g _ _ _ => N2
    exact hrest _ _ (Fr.as F2 fun y => by rw [if_back e1]) (fun p hp => N2 p (by grind))
end
end
section
open PySem PySem.W PyProof.Rows
noncomputable def lineB (ln : List Nat) (d wi : Int) (le : Nat) : Bool :=
  let ls := ln.filter (· != 32)
  decide (ln.length ≤ 8) && ln.all (fun c => c == 97 || c == 65 || c == 32) && decide (1 ≤ ls.length) && decide (0 ≤ d ∧ d ≤ 7) && decide (0 ≤ wi ∧ wi ≤ 8) &&
  decide ((List.zipWith cost ln ln.tail).sum = d + 3 * wi) &&
  decide (lev (ls.drop 1) (ls.take (ls.length - 1)) ((if d < 4 then d else 4) - (le : Nat)) = if d < 4 then d else 4) &&
  decide (lev (ls.drop 1) (ls.take (ls.length - 1)) 0 = if d < 1 then d else 1) &&
  decide (lev ln ls (2 * wi - (le : Nat)) = 2 * wi) && decide (lev ls ln (2 * wi) = 2 * wi)
theorem lineB_ok {ln : List Nat} {d wi : Int} {le : Nat} (h : lineB ln d wi le = true) : LineOk ln d wi le := by
  simp only [lineB, Bool.and_eq_true, decide_eq_true_eq, List.all_eq_true, Bool.or_eq_true, beq_iff_eq] at h
  obtain ⟨⟨⟨⟨⟨⟨⟨⟨⟨h1, h2⟩, h3⟩, h4⟩, h5⟩, h6⟩, h7⟩, h8⟩, h9⟩, h10⟩ := h
  exact ⟨h1, fun c hc => by rcases h2 c hc with (h | h) | h <;> simp [OkC, h], h3, h4, h5, h6, h7, h8, h9, h10⟩
noncomputable def rowB (cs : List Nat) (b a : Nat) : Bool :=
  let no := 7 - b - a
  let wi : Int := (cs.count 32 : Int) - (no : Int)
  let sb := stripL cs (-1)
  let bo := cs ++ cs.reverse
  decide (b + a ≤ 7) && decide (cs.length = 8) && decide ((runP cs).1.length = 1 + b) && decide (flat (runP cs).1 = cs) && cs.any (· != 32) && decide (sb.length = 1 + b + a) && decide (sb.getD (sb.length - 1) 0 = 97) &&
  (List.range (2 * no + 2)).all (fun p => decide (stripL bo p = (bo.drop (min p no)).take ((16 - min (p - no) no) - min p no))) &&
  lineB sb b wi 0 && lineB sb b wi 1 && lineB (turnL 0 sb) a wi 0 && lineB (turnL 0 sb) a wi 1
structure RowOk (cs : List Nat) (b a no : Nat) (wi : Int) : Prop where
  sum : b + a ≤ 7
  len : cs.length = 8
  count : (runP cs).1.length = 1 + b
  flat : flat (runP cs).1 = cs
  some : ∃ c ∈ cs, c ≠ 32
  blen : (stripL cs (-1)).length = 1 + b + a
  last : (stripL cs (-1)).getD ((stripL cs (-1)).length - 1) 0 = 97
  strip : ∀ p, p < 2 * no + 2 → stripL (cs ++ cs.reverse) p = ((cs ++ cs.reverse).drop (min p no)).take ((16 - min (p - no) no) - min p no)
  line1 : ∀ le, le ≤ 1 → LineOk (stripL cs (-1)) b wi le
  line2 : ∀ le, le ≤ 1 → LineOk (turnL 0 (stripL cs (-1))) a wi le
theorem rowB_ok {cs : List Nat} {b a : Nat} (h : rowB cs b a = true) : RowOk cs b a (7 - b - a) ((cs.count 32 : Int) - ((7 - b - a : Nat) : Int)) := by
  simp only [rowB, Bool.and_eq_true, decide_eq_true_eq, List.all_eq_true, List.mem_range, List.any_eq_true, bne_iff_ne, ne_eq] at h
  obtain ⟨⟨⟨⟨⟨⟨⟨⟨⟨⟨⟨h1, h2⟩, h3⟩, h4⟩, h5⟩, h6⟩, h7⟩, h8⟩, h9⟩, h10⟩, h11⟩, h12⟩ := h
  refine ⟨h1, h2, h3, h4, h5, h6, h7, h8, fun le hle => ?_, fun le hle => ?_⟩
  · rcases Nat.le_one_iff_eq_zero_or_eq_one.mp hle with rfl | rfl
    · exact lineB_ok h9
    · exact lineB_ok h10
  · rcases Nat.le_one_iff_eq_zero_or_eq_one.mp hle with rfl | rfl
    · exact lineB_ok h11
    · exact lineB_ok h12
noncomputable def tb0 : List (List (List Nat)) := [[[32, 32, 32, 32, 32, 32, 32, 97]], [[32, 32, 32, 32, 32, 32, 97, 97]], [[32, 32, 32, 32, 32, 97, 97, 97]], [[32, 32, 32, 32, 97, 97, 97, 97]], [[32, 32, 32, 97, 97, 97, 97, 97]], [[32, 32, 97, 97, 97, 97, 97, 97]], [[32, 97, 97, 97, 97, 97, 97, 97]], [[97, 97, 97, 97, 97, 97, 97, 97]]]
noncomputable def tb1 : List (List (List Nat)) := [[[32, 32, 32, 32, 32, 32, 65, 97]], [[32, 32, 32, 32, 32, 65, 32, 97], [32, 32, 32, 32, 32, 65, 65, 97], [32, 32, 32, 32, 32, 65, 97, 97]], [[32, 32, 32, 32, 65, 65, 32, 97], [32, 32, 32, 32, 65, 65, 65, 97], [32, 32, 32, 32, 65, 32, 97, 97], [32, 32, 32, 32, 65, 65, 97, 97], [32, 32, 32, 32, 65, 97, 97, 97]], [[32, 32, 32, 65, 65, 65, 32, 97], [32, 32, 32, 65, 65, 32, 97, 97], [32, 32, 32, 65, 65, 65, 97, 97], [32, 32, 32, 65, 32, 97, 97, 97], [32, 32, 32, 65, 65, 97, 97, 97]], [[32, 32, 65, 65, 65, 32, 97, 97], [32, 32, 65, 65, 65, 65, 97, 97], [32, 32, 65, 65, 32, 97, 97, 97], [32, 32, 65, 65, 65, 97, 97, 97], [32, 32, 65, 65, 97, 97, 97, 97]], [[32, 65, 65, 65, 65, 32, 97, 97], [32, 65, 65, 65, 65, 65, 97, 97], [32, 65, 65, 65, 32, 97, 97, 97], [32, 65, 65, 65, 65, 97, 97, 97], [32, 65, 65, 32, 97, 97, 97, 97], [32, 65, 65, 65, 97, 97, 97, 97], [32, 65, 65, 97, 97, 97, 97, 97]], [[65, 65, 65, 65, 65, 65, 97, 97], [65, 65, 65, 65, 65, 97, 97, 97], [65, 65, 65, 65, 97, 97, 97, 97], [65, 65, 65, 97, 97, 97, 97, 97], [65, 65, 97, 97, 97, 97, 97, 97]]]
noncomputable def tb2 : List (List (List Nat)) := [[[32, 32, 32, 32, 32, 97, 65, 97]], [[32, 32, 32, 32, 97, 65, 32, 97], [32, 32, 32, 32, 97, 32, 65, 97], [32, 32, 32, 32, 97, 65, 65, 97], [32, 32, 32, 32, 97, 97, 65, 97], [32, 32, 32, 32, 97, 65, 97, 97]], [[32, 32, 32, 97, 32, 65, 32, 97], [32, 32, 32, 97, 65, 65, 32, 97], [32, 32, 32, 97, 97, 65, 32, 97], [32, 32, 32, 97, 97, 65, 65, 97], [32, 32, 32, 97, 65, 65, 97, 97]], [[32, 32, 97, 97, 65, 65, 32, 97], [32, 32, 97, 97, 65, 65, 65, 97], [32, 32, 97, 97, 97, 65, 65, 97], [32, 32, 97, 65, 65, 32, 97, 97], [32, 32, 97, 32, 65, 65, 97, 97], [32, 32, 97, 65, 65, 65, 97, 97], [32, 32, 97, 97, 65, 65, 97, 97], [32, 32, 97, 65, 65, 97, 97, 97]], [[32, 97, 97, 97, 65, 65, 32, 97], [32, 97, 97, 97, 65, 65, 65, 97], [32, 97, 97, 97, 97, 65, 65, 97], [32, 97, 97, 65, 65, 32, 97, 97], [32, 97, 97, 32, 65, 65, 97, 97], [32, 97, 97, 65, 65, 65, 97, 97], [32, 97, 97, 97, 65, 65, 97, 97], [32, 97, 32, 65, 65, 97, 97, 97], [32, 97, 65, 65, 65, 97, 97, 97], [32, 97, 97, 65, 65, 97, 97, 97], [32, 97, 65, 65, 97, 97, 97, 97]], [[97, 97, 97, 97, 65, 65, 32, 97], [97, 97, 97, 97, 65, 65, 65, 97], [97, 97, 97, 65, 65, 32, 97, 97], [97, 97, 97, 32, 65, 65, 97, 97], [97, 97, 65, 65, 65, 65, 97, 97], [97, 97, 97, 65, 65, 65, 97, 97], [97, 97, 97, 97, 65, 65, 97, 97], [97, 97, 32, 65, 65, 97, 97, 97], [97, 97, 65, 65, 65, 97, 97, 97], [97, 97, 97, 65, 65, 97, 97, 97], [97, 32, 65, 65, 97, 97, 97, 97], [97, 65, 65, 65, 97, 97, 97, 97], [97, 97, 65, 65, 97, 97, 97, 97]]]
noncomputable def tb3 : List (List (List Nat)) := [[[32, 32, 32, 32, 65, 97, 65, 97]], [[32, 32, 32, 65, 97, 65, 32, 97], [32, 32, 32, 65, 97, 32, 65, 97], [32, 32, 32, 65, 97, 65, 65, 97], [32, 32, 32, 65, 32, 97, 65, 97], [32, 32, 32, 65, 97, 97, 65, 97]], [[32, 32, 65, 97, 97, 65, 32, 97], [32, 32, 65, 65, 97, 32, 65, 97], [32, 32, 65, 32, 97, 65, 65, 97], [32, 32, 65, 65, 97, 65, 65, 97], [32, 32, 65, 97, 97, 65, 65, 97], [32, 32, 65, 65, 97, 97, 65, 97], [32, 32, 65, 97, 65, 65, 97, 97], [32, 32, 65, 97, 97, 65, 97, 97]], [[32, 65, 32, 97, 32, 65, 32, 97], [32, 65, 97, 97, 65, 65, 32, 97], [32, 65, 65, 97, 97, 65, 32, 97], [32, 65, 65, 97, 97, 32, 65, 97], [32, 65, 65, 97, 97, 65, 65, 97], [32, 65, 97, 97, 97, 65, 65, 97], [32, 65, 65, 65, 97, 97, 65, 97], [32, 65, 97, 97, 65, 32, 97, 97], [32, 65, 65, 97, 65, 65, 97, 97], [32, 65, 97, 97, 65, 65, 97, 97], [32, 65, 97, 65, 65, 97, 97, 97]], [[65, 65, 97, 97, 65, 65, 32, 97], [65, 65, 97, 97, 97, 65, 32, 97], [65, 65, 97, 97, 65, 65, 65, 97], [65, 65, 32, 97, 97, 65, 65, 97], [65, 65, 65, 97, 97, 65, 65, 97], [65, 65, 97, 97, 97, 65, 65, 97], [65, 97, 97, 65, 65, 32, 97, 97], [65, 97, 97, 32, 65, 65, 97, 97], [65, 97, 97, 65, 65, 65, 97, 97], [65, 32, 97, 97, 65, 65, 97, 97], [65, 65, 97, 97, 65, 65, 97, 97], [65, 97, 97, 97, 65, 65, 97, 97], [65, 97, 97, 65, 65, 97, 97, 97]]]
noncomputable def tb4 : List (List (List Nat)) := [[[32, 32, 32, 97, 65, 97, 65, 97]], [[32, 32, 97, 65, 97, 32, 65, 97], [32, 32, 97, 65, 97, 65, 65, 97], [32, 32, 97, 65, 32, 97, 65, 97], [32, 32, 97, 65, 65, 97, 65, 97], [32, 32, 97, 65, 97, 97, 65, 97]], [[32, 97, 65, 97, 97, 65, 32, 97], [32, 97, 65, 65, 97, 32, 65, 97], [32, 97, 65, 32, 97, 65, 65, 97], [32, 97, 65, 65, 97, 65, 65, 97], [32, 97, 65, 97, 97, 65, 65, 97], [32, 97, 97, 65, 65, 97, 65, 97], [32, 97, 32, 65, 97, 97, 65, 97], [32, 97, 65, 65, 97, 97, 65, 97], [32, 97, 97, 65, 97, 97, 65, 97], [32, 97, 65, 97, 65, 65, 97, 97], [32, 97, 65, 97, 97, 65, 97, 97]], [[97, 65, 65, 97, 65, 65, 32, 97], [97, 65, 65, 97, 97, 65, 32, 97], [97, 97, 65, 65, 97, 32, 65, 97], [97, 97, 65, 32, 97, 65, 65, 97], [97, 97, 65, 65, 97, 65, 65, 97], [97, 32, 65, 97, 97, 65, 65, 97], [97, 65, 65, 97, 97, 65, 65, 97], [97, 97, 65, 97, 97, 65, 65, 97], [97, 97, 65, 65, 97, 97, 65, 97], [97, 65, 32, 97, 65, 65, 97, 97], [97, 65, 65, 97, 65, 65, 97, 97], [97, 65, 97, 97, 65, 65, 97, 97], [97, 65, 65, 97, 97, 65, 97, 97]]]
noncomputable def tb5 : List (List (List Nat)) := [[[32, 32, 65, 97, 65, 97, 65, 97]], [[32, 65, 97, 65, 97, 32, 65, 97], [32, 65, 97, 65, 97, 65, 65, 97], [32, 65, 97, 65, 32, 97, 65, 97], [32, 65, 97, 32, 65, 97, 65, 97], [32, 65, 97, 65, 65, 97, 65, 97], [32, 65, 97, 97, 65, 97, 65, 97], [32, 65, 97, 65, 97, 97, 65, 97]], [[65, 97, 65, 97, 97, 65, 32, 97], [65, 97, 65, 65, 97, 32, 65, 97], [65, 97, 65, 32, 97, 65, 65, 97], [65, 97, 65, 65, 97, 65, 65, 97], [65, 97, 97, 65, 97, 65, 65, 97], [65, 97, 65, 97, 97, 65, 65, 97], [65, 32, 97, 65, 65, 97, 65, 97], [65, 65, 97, 65, 65, 97, 65, 97], [65, 97, 97, 65, 65, 97, 65, 97], [65, 97, 32, 65, 97, 97, 65, 97], [65, 97, 65, 65, 97, 97, 65, 97], [65, 97, 97, 65, 97, 97, 65, 97], [65, 97, 65, 97, 97, 65, 97, 97]]]
noncomputable def tb6 : List (List (List Nat)) := [[[32, 97, 65, 97, 65, 97, 65, 97]], [[97, 65, 97, 65, 97, 65, 65, 97], [97, 65, 97, 65, 65, 97, 65, 97], [97, 65, 65, 97, 65, 97, 65, 97], [97, 65, 97, 97, 65, 97, 65, 97], [97, 65, 97, 65, 97, 97, 65, 97]]]
noncomputable def tb7 : List (List (List Nat)) := [[[65, 97, 65, 97, 65, 97, 65, 97]]]
noncomputable def goB (b : Nat) : Nat → List (List (List Nat)) → Bool
  | _, [] => true
  | a, l :: ls => (l.all fun cs => rowB cs b a) && goB b (a + 1) ls
theorem goB_ok {b : Nat} {cs : List Nat} : ∀ (i a : Nat) (ls : List (List (List Nat))), goB b a ls = true → cs ∈ ls.getD i [] → rowB cs b (a + i) = true
  | _, _, [], _, h => by simp at h
  | 0, a, l :: ls, h, hc => List.all_eq_true.mp (Bool.and_eq_true_iff.mp h).1 cs hc
  | i + 1, a, l :: ls, h, hc => by
    have := goB_ok i (a + 1) ls (Bool.and_eq_true_iff.mp h).2 hc
    rwa [Nat.add_assoc, Nat.add_comm 1 i] at this
theorem tb0_ok : goB 0 0 tb0 = true := by decide +kernel
theorem tb1_ok : goB 1 0 tb1 = true := by decide +kernel
theorem tb2_ok : goB 2 0 tb2 = true := by decide +kernel
theorem tb3_ok : goB 3 0 tb3 = true := by decide +kernel
theorem tb4_ok : goB 4 0 tb4 = true := by decide +kernel
theorem tb5_ok : goB 5 0 tb5 = true := by decide +kernel
theorem tb6_ok : goB 6 0 tb6 = true := by decide +kernel
theorem tb7_ok : goB 7 0 tb7 = true := by decide +kernel
end
section
open PySem PySem.W PyProof.Rows
theorem stepF_getD (n : Int) (row : List Int) (i : Nat) : (stepF n row).getD i 0 = n * row.getD i 0 + (if i = 0 then 0 else row.getD (i - 1) 0) := by
  unfold stepF
  by_cases h : i < row.length + 1
  · rw [List.getD_eq_getElem?_getD, List.getElem?_eq_getElem (by simp; (first | lia | omega)), Option.getD_some, List.getElem_zipWith]
    congr 1
    · congr 1
      by_cases h2 : i < row.length
      · rw [List.getElem_append_left h2, List.getD_eq_getElem?_getD, List.getElem?_eq_getElem h2]; rfl
      · have : i = row.length := by omega
        subst this
        simp
    · cases i with
      | zero => rfl
      | succ i =>
        rw [if_neg (by omega), List.getElem_cons_succ, Nat.add_sub_cancel, List.getD_eq_getElem?_getD, List.getElem?_eq_getElem (by omega)]; rfl
  · have h0 : ∀ j, row.length ≤ j → row.getD j 0 = 0 := fun j hj => by rw [List.getD_eq_getElem?_getD, List.getElem?_eq_none hj]; rfl
    have h1 : (List.zipWith (fun low high => n * low + high) (row ++ [0]) (0 :: row)).getD i 0 = 0 := by
      rw [List.getD_eq_getElem?_getD, List.getElem?_eq_none (by simp; (first | lia | omega))]; rfl
    rw [h1, h0 i (by omega), if_neg (by omega), h0 (i - 1) (by omega)]
    (first | lia | omega)
theorem ext_getD {a b : List Int} (hl : a.length = b.length) (h : ∀ i, a.getD i 0 = b.getD i 0) : a = b := by
  apply List.ext_getElem hl
  intro i h1 h2
  have := h i
  rwa [List.getD_eq_getElem?_getD, List.getD_eq_getElem?_getD, List.getElem?_eq_getElem h1, List.getElem?_eq_getElem h2] at this
theorem stepF_comm (x y : Int) (row : List Int) : stepF x (stepF y row) = stepF y (stepF x row) := by
  apply ext_getD (by simp [stepF_len])
  intro i
  simp only [stepF_getD]
  by_cases h0 : i = 0
  · subst h0
    simp only [if_true, Int.add_zero]
    rw [← Int.mul_assoc, ← Int.mul_assoc, Int.mul_comm x y]
  · simp only [if_neg h0]
    rw [Int.mul_add, Int.mul_add, ← Int.mul_assoc, ← Int.mul_assoc, Int.mul_comm x y]
    (first | lia | omega)
theorem figs_perm {as bs : List Int} (p : as.Perm bs) : figs as = figs bs := by
  unfold figs
  exact p.foldl_eq' (fun x _ y _ z => stepF_comm _ _ _) _
noncomputable def negs (l : List Int) : Nat := (l.filter fun a => decide (a < 0)).length
noncomputable def poss (l : List Int) : Nat := (l.filter fun a => decide (0 < a)).length
theorem negs_app (x y : List Int) : negs (x ++ y) = negs x + negs y := by unfold negs; rw [List.filter_append, List.length_append]
theorem poss_app (x y : List Int) : poss (x ++ y) = poss x + poss y := by unfold poss; rw [List.filter_append, List.length_append]
noncomputable def cano : List Int → List Nat → List Int
  | v :: vs, c :: cs => List.replicate c v ++ cano vs cs
  | _, _ => []
noncomputable def spread (f : Nat → List Int → Nat → Nat → Bool) (v : Int) : Nat → List Int → Nat → Nat → Bool
  | 0, row, b, a => f 0 row b a
  | k + 1, row, b, a => f (k + 1) row b a && spread f v k (stepF v row) (b + if v < 0 then 1 else 0) (a + if 0 < v then 1 else 0)
noncomputable def beqL : List Nat → List Nat → Bool
  | [], [] => true
  | x :: xs, y :: ys => Nat.beq x y && beqL xs ys
  | _, _ => false
theorem beqL_ok : ∀ {xs ys : List Nat}, beqL xs ys = true → xs = ys
  | [], [], _ => rfl
  | [], _ :: _, h => absurd h Bool.false_ne_true
  | _ :: _, [], h => absurd h Bool.false_ne_true
  | x :: xs, y :: ys, h => by
    have e := Bool.and_eq_true_iff.mp h
    rw [Nat.eq_of_beq_eq_true e.1, beqL_ok e.2]
noncomputable def tabs : List (List (List (List Nat))) := [tb0, tb1, tb2, tb3, tb4, tb5, tb6, tb7]
noncomputable def testB (row : List Int) (b a : Nat) : Bool := ((tabs.getD b []).getD a []).any (beqL (row.map lett))
noncomputable def chk : List Int → Nat → List Int → Nat → Nat → Bool
  | [] => fun k row b a => if k = 0 then testB row b a else true
  | v :: vs => spread (chk vs) v
noncomputable def ng (v : Int) (b : Nat) : Nat := b + if v < 0 then 1 else 0
noncomputable def ps (v : Int) (a : Nat) : Nat := a + if 0 < v then 1 else 0
theorem chkA : chk [-1, 0, 1, 2, 3] 7 [1] 0 0 = true := by decide +kernel
theorem chkB : spread (chk [-1, 0, 1, 2, 3]) (-2) 6 (stepF (-2) [1]) (ng (-2) 0) (ps (-2) 0) = true := by decide +kernel
theorem chkC : chk [-2, -1, 0, 1, 2, 3] 6 (stepF (-3) [1]) (ng (-3) 0) (ps (-3) 0) = true := by decide +kernel
theorem chkD : spread (chk [-2, -1, 0, 1, 2, 3]) (-3) 5 (stepF (-3) (stepF (-3) [1])) (ng (-3) (ng (-3) 0)) (ps (-3) (ps (-3) 0)) = true := by decide +kernel
theorem spread_cut {f : Nat → List Int → Nat → Nat → Bool} {v : Int} {k : Nat} {row : List Int} {b a : Nat} (h1 : f (k + 1) row b a = true) (h2 : spread f v k (stepF v row) (ng v b) (ps v a) = true) :
    spread f v (k + 1) row b a = true := Bool.and_eq_true_iff.mpr ⟨h1, h2⟩
theorem chk_all : chk [-3, -2, -1, 0, 1, 2, 3] 7 [1] 0 0 = true :=
  spread_cut (f := chk [-2, -1, 0, 1, 2, 3]) (spread_cut (f := chk [-1, 0, 1, 2, 3]) chkA chkB) (spread_cut (f := chk [-2, -1, 0, 1, 2, 3]) chkC chkD)
theorem spread_ok {f : Nat → List Int → Nat → Nat → Bool} {v : Int} : ∀ (c k : Nat) (row : List Int) (b a : Nat), spread f v k row b a = true → c ≤ k →
    f (k - c) ((List.replicate c v).foldl (fun row n => stepF n row) row) (b + negs (List.replicate c v)) (a + poss (List.replicate c v)) = true
  | 0, 0, row, b, a, h, _ => h
  | 0, k + 1, row, b, a, h, _ => (Bool.and_eq_true_iff.mp h).1
  | c + 1, 0, _, _, _, _, h => absurd h (Nat.not_succ_le_zero c)
  | c + 1, k + 1, row, b, a, h, hc => by
    have := spread_ok c k _ _ _ (Bool.and_eq_true_iff.mp h).2 (Nat.le_of_succ_le_succ hc)
    rw [Nat.succ_sub_succ]
    have e1 : negs (List.replicate (c + 1) v) = (if v < 0 then 1 else 0) + negs (List.replicate c v) := by
      unfold negs; rw [List.replicate_succ, List.filter_cons]; split <;> simp_all <;> (first | lia | omega)
    have e2 : poss (List.replicate (c + 1) v) = (if 0 < v then 1 else 0) + poss (List.replicate c v) := by
      unfold poss; rw [List.replicate_succ, List.filter_cons]; split <;> simp_all <;> (first | lia | omega)
    rw [e1, e2, ← Nat.add_assoc, ← Nat.add_assoc, List.replicate_succ, List.foldl_cons]
    exact this
theorem chk_ok : ∀ (vs : List Int) (cts : List Nat) (k : Nat) (row : List Int) (b a : Nat), chk vs k row b a = true → cts.length = vs.length → cts.sum = k →
    testB ((cano vs cts).foldl (fun row n => stepF n row) row) (b + negs (cano vs cts)) (a + poss (cano vs cts)) = true
  | [], [], k, row, b, a, h, _, hk => by
    have : k = 0 := by simpa using hk.symm
    subst this
    exact h
  | [], _ :: _, _, _, _, _, _, h, _ => by simp at h
  | _ :: _, [], _, _, _, _, _, h, _ => by simp at h
  | v :: vs, c :: cts, k, row, b, a, h, hl, hk => by
    rw [List.sum_cons] at hk
    have h1 := spread_ok c k row b a h (by omega)
    have h2 := chk_ok vs cts (k - c) _ _ _ h1 (by simpa using hl) (by omega)
    have e0 : cano (v :: vs) (c :: cts) = List.replicate c v ++ cano vs cts := rfl
    rw [e0, negs_app, poss_app, ← Nat.add_assoc, ← Nat.add_assoc, List.foldl_append]
    exact h2
theorem cano_perm {as : List Int} (h : ∀ n ∈ as, -3 ≤ n ∧ n ≤ 3) :
    as.Perm (cano [-3, -2, -1, 0, 1, 2, 3] [as.count (-3), as.count (-2), as.count (-1), as.count 0, as.count 1, as.count 2, as.count 3]) := by
  rw [List.perm_iff_count]
  intro x
  simp only [cano, List.count_append, List.count_replicate, List.count_nil]
  by_cases hx : x ∈ as
  · obtain ⟨h1, h2⟩ := h x hx
    have : x = -3 ∨ x = -2 ∨ x = -1 ∨ x = 0 ∨ x = 1 ∨ x = 2 ∨ x = 3 := by omega
    rcases this with rfl | rfl | rfl | rfl | rfl | rfl | rfl <;> simp
  · rw [List.count_eq_zero.mpr hx]
    have e : ∀ v : Int, (if (v == x) = true then List.count v as else 0) = 0 := fun v => by
      by_cases hv : (v == x) = true
      · rw [if_pos hv, beq_iff_eq.mp hv]; exact List.count_eq_zero.mpr hx
      · rw [if_neg hv]
    simp only [e]
theorem tabs_row : ∀ b, goB b 0 (tabs.getD b []) = true
  | 0 => tb0_ok
  | 1 => tb1_ok
  | 2 => tb2_ok
  | 3 => tb3_ok
  | 4 => tb4_ok
  | 5 => tb5_ok
  | 6 => tb6_ok
  | 7 => tb7_ok
  | _ + 8 => rfl
theorem testB_ok {row : List Int} {b a : Nat} (h : testB row b a = true) : rowB (row.map lett) b a = true := by
  obtain ⟨cs, hc, e⟩ := List.any_eq_true.mp h
  rw [beqL_ok e]
  have := goB_ok a 0 _ (tabs_row b) hc
  rwa [Nat.zero_add] at this
theorem lett_count (l : List Int) : (l.map lett).count 32 = l.count 0 := by
  induction l with
  | nil => rfl
  | cons x l ih =>
    rw [List.map_cons, List.count_cons, List.count_cons, ih]
    congr 1
    unfold lett
    by_cases h1 : 0 < x
    · rw [if_pos h1, if_neg (by decide), if_neg (by simp; (first | lia | omega))]
    · rw [if_neg h1]
      by_cases h2 : x < 0
      · rw [if_pos h2, if_neg (by decide), if_neg (by simp; (first | lia | omega))]
      · rw [if_neg h2, if_pos (by decide), if_pos (by simp; (first | lia | omega))]
/-- the plain law -/
theorem row_ok {as : List Int} (h7 : as.length = 7) (h : ∀ n ∈ as, -3 ≤ n ∧ n ≤ 3) : RowOk ((figs as).map lett) (negs as) (poss as) (7 - negs as - poss as) (((figs as).count 0 : Int) - ((7 - negs as - poss as : Nat) : Int)) := by
  have p := cano_perm h
  have hs : ([as.count (-3), as.count (-2), as.count (-1), as.count 0, as.count 1, as.count 2, as.count 3] : List Nat).sum = 7 := by
    have := p.length_eq
    simp only [cano, List.length_append, List.length_replicate, List.length_nil] at this
    simp only [List.sum_cons, List.sum_nil]
    (first | lia | omega)
  have t := chk_ok _ _ 7 [1] 0 0 chk_all rfl hs
  have e1 : negs as = negs (cano [-3, -2, -1, 0, 1, 2, 3] [as.count (-3), as.count (-2), as.count (-1), as.count 0, as.count 1, as.count 2, as.count 3]) := (p.filter _).length_eq
  have e2 : poss as = poss (cano [-3, -2, -1, 0, 1, 2, 3] [as.count (-3), as.count (-2), as.count (-1), as.count 0, as.count 1, as.count 2, as.count 3]) := (p.filter _).length_eq
  rw [Nat.zero_add, Nat.zero_add, ← e1, ← e2] at t
  have e3 := figs_perm p
  unfold figs at e3
  rw [← e3] at t
  have := rowB_ok (testB_ok t)
  rw [lett_count] at this
  exact this
end
section
open PySem PySem.W PyProof.Rows
theorem mod4_33 (k : Int) : -3 ≤ mod4 k ∧ mod4 k ≤ 3 := by
  unfold mod4
  split
  · rw [Int.fmod_eq_emod_of_nonneg _ (by decide)]; (first | lia | omega)
  · rw [Int.fmod_eq_emod_of_nonneg _ (by decide)]; (first | lia | omega)
theorem outL_len (ln : List Nat) (d wi : Int) : (outL ln d wi).length ≤ ln.length + 4 := by
  unfold outL
  simp only [List.length_append, List.length_zipWith, List.length_cons, List.length_nil]
  (first | lia | omega)
theorem outL_ge {ln : List Nat} {d wi : Int} (hd : 0 ≤ d) (hw : 0 ≤ wi) : ∀ e ∈ outL ln d wi, 0 ≤ e := by
  intro e he
  unfold outL at he
  rcases List.mem_append.mp he with he | he
  · exact (costs_02 _ _ e he).1
  · simp only [List.mem_cons, List.not_mem_nil, or_false] at he
    rcases he with rfl | rfl | rfl | rfl
    · split <;> (first | lia | omega)
    · split <;> (first | lia | omega)
    · (first | lia | omega)
    · (first | lia | omega)
noncomputable def nums7 (ns : List Int) : List Int := (ns.take 7).map mod4 ++ [2, -2, 0, 3, -3, 0, 0].drop ((ns.take 7).map mod4).length
theorem nums7_len (ns : List Int) : (nums7 ns).length = 7 := by
  unfold nums7
  simp only [List.length_append, List.length_map, List.length_take, List.length_drop, List.length_cons, List.length_nil]
  (first | lia | omega)
theorem nums7_33 (ns : List Int) : ∀ n ∈ nums7 ns, -3 ≤ n ∧ n ≤ 3 := by
  intro n hn
  unfold nums7 at hn
  rcases List.mem_append.mp hn with h | h
  · obtain ⟨k, _, rfl⟩ := List.mem_map.mp h
    exact mod4_33 k
  · have := List.mem_of_mem_drop h
    simp only [List.mem_cons, List.not_mem_nil, or_false] at this
    (first | lia | omega)

theorem lawAll (w : World) (mean : ExcName → Option Value) (mg mb : Str → Option Value) (g : Heap) (L fa : Addr) (cd : Value) (s : Shared)
    (Q : Flow → Shared → Prop) (E : Value → Shared → Prop) {FULL : List Stmt} {scope : Scope} {qual : Str} {cdv : Value}
    (hat : AtFn (hd.heap_39 w.params) 157 FULL scope qual cdv)
    {l : Addr} {vs : List Value} {ns : List Int} {oc : Obj} {v₀ : Option Value}
    (hF : Fr g L s.heap (fun y => if y = Str.ofString "script" then some (.ref l) else none)) (hN : News g L s.heap [(77, tabObj #[]), (84, tabObj #[]), (L + 1, oc)]) (hoc : oc.data = .cell v₀) (hl : g.IsList l vs.toArray) (hI : IntsAre vs ns) (hlen : ns.length ≤ 63)
    (hB : Below callerA g [] g) (hK : (hd.heap_39 w.params).In g) (hT : Top hdB.view_39 (looseW hdB.view_39 [Str.ofString "_Accumulator"]) mean mg mb g)
    (h77 : 84 < L) (hE : PassesOwn (model Challenge.rw_xj0014_01.row.prog w) (callerA.deeper (envOfC qual scope L fa cd)) (envOfC qual scope L fa cd) E) (hG : AllBare s.gens)
    (hrest : ∀ (s' : Shared) (p1 p2 : Array Value) (m' : Str → Option Value) (news : List (Addr × Obj)), Fr g L s'.heap m' → News g L s'.heap ((77, tabObj p1) :: (84, tabObj p2) :: news) → AllBare s'.gens → s'.os = s.os → Q (.ret (.bool true)) s') :
    wpAny (model Challenge.rw_xj0014_01.row.prog w) (callerA.deeper (envOfC qual scope L fa cd)) (execs FULL (envOfC qual scope L fa cd)) Q E s := by
  revert hK; k_fill; intro hK
  refine' hat.elim ?h ?_
  case h => k_is
  intro e1 e2 e3 e4
  subst e1 e2 e3 e4
  try simp only [List.drop_succ_cons, List.drop_zero] at hrest ⊢
  refine lawA1 w mean mg mb g L fa cd s l vs ns oc Q E hat rfl hF hN hl hI hB hK hT h77 hlen ?_
  intro h1 D1 ys1 c1 tk1 F1 N1 I1 hD1
  refine lawA2 w mean mg mb g L fa cd _ l vs ns oc Q E ys1 ((ns.take 7).map mod4) D1 c1 hat rfl (by exact F1) (by exact N1) I1 (by simp; (first | lia | omega)) hD1 hB hK hT h77 ?_
  intro h2 D ys c tk2 F2 N2 I2 hD
  obtain ⟨as, has⟩ : ∃ as, as = nums7 ns := ⟨_, rfl⟩
  have I2' : IntsAre ys as := by rw [has]; exact I2
  have h7 : as.length = 7 := by rw [has]; exact nums7_len ns
  have h33 : ∀ n ∈ as, -3 ≤ n ∧ n ≤ 3 := by rw [has]; exact nums7_33 ns
  have R := row_ok h7 h33
  clear has I2
  refine lawA3 w mean mg mb g L fa cd _ l oc Q E ys as D c hat (by exact F2) (by exact N2) I2' (by omega) hD hB hK hT h77 ?_
  intro h3 b a tk3 t1 t2 t3 hb ha F3 N3
  have hb' : b = negs as := hb
  have ha' : a = poss as := ha
  rw [← hb', ← ha'] at R
  have hno : (7 : Int) - b - a = ((7 - b - a : Nat) : Int) := by have := R.sum; (first | lia | omega)
  rw [hno] at F3
  obtain ⟨no, hnoe⟩ : ∃ no, no = 7 - b - a := ⟨_, rfl⟩
  rw [← hnoe] at F3 R
  have hno7 : no ≤ 7 := by omega
  clear hno
  refine lawB w mean mg mb g L fa cd _ Q E hat (l := l) (D := D) (oc := oc) (ys := ys) (as := as) (c := c) (no := no) (ab := a) (be := b) (t1 := t1) (t2 := t2) (t3 := t3) (by exact F3) (by exact N3) I2' (by omega) h33 hD (by omega) hB hK hT h77 ?_
  intro h4 tk4 t4 FA zs c4 hzs hFA F4 N4
  have hfs : (figs as).length = 8 := by have := R.len; simpa using this
  generalize hwi : ((figs as).count 0 : Int) - (no : Int) = wi at F4 R
  generalize figs as = fs at *
  refine lawC w mean mg mb g L fa cd _ Q E hat (l := l) (D := D) (FA := FA) (oc := oc) (zs := zs) (c := c4) (wi := wi) (no := no) (ab := a) (be := b) (t0 := t4) (t1 := t1) (t2 := t2) (t3 := t3) (by exact F4) (by exact N4) hFA hB hK hT h77 ?_
  intro h5 tk5 t5 t6 u6 n5 x dx DT F5 N5 hxD hdx hFd
  refine lawD w mean mg mb g L fa cd _ Q E hat (FA := FA) (x := x) (dx := dx) (DT := DT) (oc := oc) (od := iniObj w.params t6 u6) (zs := zs) (fs := fs) (c := c4) (n := n5) (t4 := t5) (by exact F5) rfl rfl rfl rfl (by exact N5) hzs hfs hxD hdx hFd hFA rfl rfl rfl rfl hB hK hT h77 hE ?_
  intro h6 tk6 c6 n6 tv vs6 add m6 F6 hm6 N6 hadd hP htv
  have k1 : m6 (Str.ofString "pile") = some (.ref x) := hm6 _ (by decide) (by decide) (by decide) (by decide) (by decide) (by decide)
  have k2 : m6 (Str.ofString "below") = some (.int b t3) := hm6 _ (by decide) (by decide) (by decide) (by decide) (by decide) (by decide)
  have k3 : m6 (Str.ofString "above") = some (.int a t2) := hm6 _ (by decide) (by decide) (by decide) (by decide) (by decide) (by decide)
  have k4 : m6 (Str.ofString "within") = some (.int wi t4) := hm6 _ (by decide) (by decide) (by decide) (by decide) (by decide) (by decide)
  have k5 : m6 (Str.ofString "noughts") = some (.int no t1) := hm6 _ (by decide) (by decide) (by decide) (by decide) (by decide) (by decide)
  have k6 : m6 (Str.ofString "told") = some (.ref DT) := hm6 _ (by decide) (by decide) (by decide) (by decide) (by decide) (by decide)
  have k7 : m6 (Str.ofString "script") = some (.ref l) := hm6 _ (by decide) (by decide) (by decide) (by decide) (by decide) (by decide)
  clear hm6
  have hL1 : L < L + 1 := Nat.lt_succ_self L
  have hLF : L < FA := Nat.lt_trans hL1 hFA
  have hLd : L < dx := Nat.lt_trans hLF hFd
  have hLx : L < x := Nat.lt_trans hLd hdx
  have hLD : L < DT := Nat.lt_trans hLx hxD
  have h84 : ∀ q : Addr, L < q → q ≠ 77 ∧ q ≠ 84 := fun q hq => ⟨Nat.ne_of_gt (Nat.lt_trans (by decide) (Nat.lt_trans h77 hq)), Nat.ne_of_gt (Nat.lt_trans h77 hq)⟩
  generalize hod : iniObj w.params t6 u6 = od at N6
  have hod4 : shadowIn (some od) (Str.ofString "part_count") = some false := by rw [← hod]; rfl
  have hod5 : lookIn (Str.ofString "_initial_size") od = some (some (.int 0 u6)) := by rw [← hod]; exact ini_look _ _ _
  generalize hcs : fs.map lett = cs at R hP
  have hok := runP_ok cs
  obtain ⟨nw, hnw⟩ : ∃ nw : List (Addr × Obj), nw = add ++ [(dx, od), (FA, W.listOf zs.toArray c4)] := ⟨_, rfl⟩
  have hnwL : ∀ p ∈ nw, DT < p.1 ∨ p.1 = dx ∨ p.1 = FA := fun p hp => by
    rw [hnw] at hp
    simp only [List.mem_append, List.mem_cons, List.not_mem_nil, or_false] at hp
    rcases hp with h | h | h
    · exact .inl (hadd p h)
    · simp [h]
    · simp [h]
  have hnwL2 : ∀ p ∈ nw, L + 1 < p.1 := fun p hp => by
    rcases hnwL p hp with h | h | h
    · exact Nat.lt_trans (Nat.lt_trans hFA (Nat.lt_trans hFd (Nat.lt_trans hdx hxD))) h
    · rw [h]; exact Nat.lt_trans hFA hFd
    · rw [h]; exact hFA
  have hdxm : (dx, od) ∈ nw := by rw [hnw]; simp
  refine lawE w mean mg mb g L fa cd _ Q E hat (x := x) (dx := dx) (od := od) (vs := vs6) (n := n6) (ps := (runP cs).1) (news := (x, pileObj 115 dx vs6.toArray n6) :: (DT, W.listOf tv.toArray c6) :: (L + 1, oc) :: nw) (be := b) (u := u6) (tb := t3) (m := m6) (by exact F6) k1 k2 (by exact fun p hp => N6 p (by rw [hnw] at hp; grind)) (.head _) (.tail _ (.tail _ (.tail _ hdxm))) (fun p hp => ?_) hod4 hod5 (hP.mono fun p hp => by rw [hnw]; grind) (by have := hP.len; have := hok.1; have := R.len; (first | lia | omega)) (fun p hp => ?_) (by have := R.count; (first | lia | omega)) (by rw [R.flat]; exact R.len) hB hK hT h77 hG ?_
  · rcases List.mem_cons.mp hp with rfl | hp
    · exact h84 _ hLx
    rcases List.mem_cons.mp hp with rfl | hp
    · exact h84 _ hLD
    rcases List.mem_cons.mp hp with rfl | hp
    · exact h84 _ hL1
    · exact h84 _ (Nat.lt_trans hL1 (hnwL2 p hp))
  · have := hok.2.2 p hp
    have := R.len
    (first | lia | omega)
  intro s7 p1 p2 t7 F7 N7 G7 os7
  rw [R.flat] at F7
  have hcsl := R.len
  have hsl : (stripL cs (-1)).length ≤ 8 := by have := R.blen; have := R.sum; (first | lia | omega)
  refine lawF w mean mg mb g L fa cd _ Q E hat (cs := cs) (be := b) (ab := a) (t1 := t7) (t2 := t3) (t3 := t2) F7 rfl (by exact k2) (by exact k3) N7 hcsl R.some (by have := R.blen; (first | lia | omega)) R.last ⟨by have := R.blen; (first | lia | omega), hsl⟩ hB hK hT h77 ?_
  intro h8 tk8 t8 t9 F8 N8
  have hbo : (cs ++ cs.reverse).length = 16 := by simp; (first | lia | omega)
  refine lawG w mean mg mb g L fa cd _ Q E hat (bo := cs ++ cs.reverse) (no := no) (t1 := t9) (t2 := t1) (by exact F8) rfl (by exact k5) (by exact N8) hbo (by obtain ⟨c, h1, h2⟩ := R.some; exact ⟨c, List.mem_append_left _ h1, h2⟩) hno7 R.strip hB hK hT h77 hE ?_
  intro h9 tk9 m9 F9 hm9 N9
  have hn2 : ns.length % 2 ≤ 1 := by omega
  have ok1 := R.line1 _ hn2
  have ok2 := R.line2 _ hn2
  refine lawH w mean mg mb g L fa cd _ Q E hat (sb := stripL cs (-1)) (tn := fs.map fun f => sgn f 0) (news := (77, tabObj p1) :: (84, tabObj p2) :: (x, pileObj 115 dx vs6.toArray n6) :: nw) (be := b) (ab := a) (wi := wi) (ns := ns) (vs := vs) (t1 := t8) (t2 := t3) (t3 := t2) (t4 := t4) (DT := DT) (l := l) (tv := tv) (c2 := c6) (oc := oc) (v₀ := v₀) (by exact F9) ((hm9 _ (by decide)).trans rfl) ((hm9 _ (by decide)).trans k2) ((hm9 _ (by decide)).trans k3) ((hm9 _ (by decide)).trans k4) ((hm9 _ (by decide)).trans k6) ((hm9 _ (by decide)).trans k7) hl hI hlen (by exact fun p hp => N9 p (by grind)) hoc htv (by simp; (first | lia | omega)) (fun p hp => ?_) (fun p hp => ?_) ok1 ok2 hB hK hT h77 hE ?_
  · rcases List.mem_cons.mp hp with rfl | hp
    · exact Nat.ne_of_lt (Nat.lt_trans hFA (Nat.lt_trans hFd (Nat.lt_trans hdx hxD)))
    rcases List.mem_cons.mp hp with rfl | hp
    · exact Ne.symm (h84 DT hLD).1
    rcases List.mem_cons.mp hp with rfl | hp
    · exact Ne.symm (h84 DT hLD).2
    rcases List.mem_cons.mp hp with rfl | hp
    · exact Nat.ne_of_lt hxD
    rcases hnwL p hp with h | h | h
    · exact Nat.ne_of_gt h
    · rw [h]; exact Nat.ne_of_lt (Nat.lt_trans hdx hxD)
    · rw [h]; exact Nat.ne_of_lt (Nat.lt_trans hFd (Nat.lt_trans hdx hxD))
  · rcases List.mem_cons.mp hp with rfl | hp
    · exact Ne.symm (h84 (L + 1) hL1).1
    rcases List.mem_cons.mp hp with rfl | hp
    · exact Ne.symm (h84 (L + 1) hL1).2
    rcases List.mem_cons.mp hp with rfl | hp
    · exact Nat.ne_of_gt (Nat.lt_trans hFA (Nat.lt_trans hFd hdx))
    · exact Nat.ne_of_gt (hnwL2 p hp)
  intro h10 tk10 c10 tv10 oc10 m10 F10 k10 N10 htv10
  refine lawI w mean mg mb g L fa cd _ Q E hat (DT := DT) (tv := tv10) (c2 := c10) (by exact F10) k10 (by exact N10) htv10 (by rw [List.length_append, List.length_append]; have e1 := outL_len (stripL cs (-1)) b wi; have e2 := outL_len (turnL 0 (stripL cs (-1))) a wi; rw [turnL_len] at e2; simp; (first | lia | omega)) (fun e he => ?_) hB hK hT h77 hE ?_
  · rcases List.mem_append.mp he with he | he
    · obtain ⟨f, _, rfl⟩ := List.mem_map.mp he
      unfold sgn; split
      · decide
      · split <;> decide
    · rcases List.mem_append.mp he with he | he
      · exact Int.le_trans (by decide) (outL_ge ok1.d0.1 ok1.w0.1 e he)
      · exact Int.le_trans (by decide) (outL_ge ok2.d0.1 ok2.w0.1 e he)
  intro h11 tk11 F11 N11
  exact hrest _ p1 p2 m10 nw F11 (fun p hp => N11 p (by grind)) G7 os7
end
section
open PySem PySem.W PyProof.Rows
theorem lawTop (w : World) (mean : ExcName → Option Value) (mg mb : Str → Option Value) (h₀ : Heap) (L fa : Addr) (cd : Value) (s : Shared)
    (Q : Flow → Shared → Prop) (E : Value → Shared → Prop) {FULL : List Stmt} {scope : Scope} {qual : Str} {cdv : Value}
    (hat : AtFn (hd.heap_39 w.params) 157 FULL scope qual cdv)
    {l : Addr} {vs : List Value} {ns : List Int} {oc : Obj} {v₀ : Option Value} {m : Str → Option Value}
    (KX : (K2 w.params).In h₀) (T : Top hdB.view_39 (looseW hdB.view_39 [Str.ofString "_Accumulator"]) mean mg mb h₀) (F : Fr h₀ L s.heap m) (hm : ∀ y, m y = if y = Str.ofString "script" then some (.ref l) else none)
    (N : News h₀ L s.heap [(L + 1, oc)]) (hoc : oc.data = .cell v₀) (hl : h₀.IsList l vs.toArray) (hI : IntsAre vs ns) (hlen : ns.length ≤ 63)
    (hE : PassesOwn (model Challenge.rw_xj0014_01.row.prog w) (callerA.deeper (envOfC qual scope L fa cd)) (envOfC qual scope L fa cd) E) (hG : s.gens = #[])
    (hQ : ∀ s' : Shared, OldK h₀ s'.heap → s'.os = s.os → AllBare s'.gens → Q (.ret (.bool true)) s') :
    wpAny (model Challenge.rw_xj0014_01.row.prog w) (callerA.deeper (envOfC qual scope L fa cd)) (execs FULL (envOfC qual scope L fa cd)) Q E s := by
  have h84 : 84 < L := Nat.lt_of_lt_of_le (Heap.lt_size (t84 KX)) F.above
  obtain ⟨F1, N1⟩ := hid_start KX F N
  have hl' : (hid h₀).IsList l vs.toArray := by
    obtain ⟨o, e1, e2, n, e3⟩ := hl
    exact ⟨o, hid_dat KX e1 (by rw [e3]; exact fun q => by cases q), e2, n, e3⟩
  refine lawAll w mean mg mb (hid h₀) L fa cd s Q E hat (l := l) (vs := vs) (ns := ns) (oc := oc) (v₀ := v₀) (Fr.as F1 hm) N1 hoc hl' hI hlen (below_caller _) (hid_kk KX) (hid_top KX T) h84 hE (by rw [hG]; intro y hy; simp at hy) ?_
  intro s' p1 p2 m' news F2 N2 G2 os2
  exact hQ s' (hid_old KX F2 N2 (.head _) (.tail _ (.head _))) os2 G2
end
section
open PySem PySem.W PyProof.Rows
theorem post1 {args : List WData} : PySem.Challenge.rw_xj0014_01.row.claim.post args (.bool true) args = true := by kernel_rfl
theorem raises1 {args : List WData} {cls : ExcName} : PySem.Challenge.rw_xj0014_01.row.claim.raises args cls = false := by kernel_rfl
theorem good_end {s₀ s₁ s' : Shared} {args : List WData} (h1 : OldK s₁.heap s'.heap) (h2 : s'.os = s₁.os) (h3 : AllBare s'.gens) :
    GoodWG PySem.Challenge.rw_xj0014_01.row.claim (classAt s₀.heap) (ExcName.means s₀.heap) args s₁ (.ok (.ret (.bool true))) s' :=
  ⟨.inl ⟨.bool true, .bool true, [], rfl, fun _ => raises1, .bool true, post1, fun _ => ⟨.nil, fun a ha => by cases ha⟩⟩, h1, h2, h3⟩
end
end Mine
theorem PySem.Challenge.cw_xj0014_01_holds : PySem.Challenge.rw_xj0014_01.Holds := by
  refine Mine.hdB ?_
  lge_go0
  rename (Mine.Kc _).In _ => KX
  rename Top _ _ _ _ _ _ => TT
  rename Fr _ _ _ _ => FF
  rename News _ _ _ _ => NN
  rename Heap.IsList _ _ _ => LL
  rename IntsAre _ _ => II
  rename (_ = #[]) => GG
  rename (Obj.data _ = _) => OC
  rw [Mine.Kc_eq] at KX
  refine Mine.lawTop _ _ _ _ _ _ _ _ _ _ _ (Mine.AtFn.mk (by with_unfolding_all rfl)) KX TT FF (fun y => ?_) NN OC LL II (by omega) (by passes_own) GG (fun s' h1 h2 h3 => ?_)
  · rfl
  · exact Mine.good_end h1 h2 h3
