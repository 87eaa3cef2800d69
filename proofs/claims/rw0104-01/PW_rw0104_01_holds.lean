import PyProof.Rows.All
import Wide.All
import OpenK.AllK
import Wide.FinOn
import KE.KSortTup
import PySem.Challenge.RW_rw0104_01
set_option Elab.async false
section
open PySem PySem.W PySem.W.X PySem.W.ZRun PyProof.Rows
set_option Elab.async false
set_option maxRecDepth 100000
set_option maxHeartbeats 0
lay_quick PySem.Challenge.pw_rw0104_01
namespace Mine
/-! ## the program, and what its top leaves behind: printed by a program -/
noncomputable abbrev hdpq : Program := PySem.W.Fast.tw1004085515909646231
theorem hdpq_eq : PySem.Challenge.pw_rw0104_01 = hdpq := PySem.W.Fast.te1004085515909646231
noncomputable def nthS : List Stmt → Nat → Stmt
  | [], _ => .Pass default
  | s :: _, 0 => s
  | _ :: l, n + 1 => nthS l n
noncomputable def bodyC : Stmt → List Stmt
  | .ClassDef _ _ _ b _ _ _ _ _ _ _ => b
  | _ => []
noncomputable def fnP (i m j : Nat) : Stmt := match m with
  | 0 => nthS hdpq.main.body i
  | _ => nthS (bodyC (nthS hdpq.main.body i)) j
noncomputable def fnA : Stmt → Arguments
  | .FunctionDef _ a _ _ _ _ _ _ _ _ => a
  | _ => default
noncomputable def fnB : Stmt → List Stmt
  | .FunctionDef _ _ b _ _ _ _ _ _ _ => b
  | _ => []
noncomputable def fnS : Stmt → Scope
  | .FunctionDef _ _ _ _ _ _ s _ _ _ => s
  | _ => default
noncomputable def hN0 : Str := ⟨⟨[95, 95, 110, 97, 109, 101, 95, 95]⟩⟩
noncomputable def hN1 : Str := ⟨⟨[98, 117, 105, 108, 116, 105, 110, 115]⟩⟩
noncomputable def hN2 : Str := ⟨⟨[95, 95, 100, 111, 99, 95, 95]⟩⟩
noncomputable def hN3 : Str := ⟨⟨[95, 95, 112, 97, 99, 107, 97, 103, 101, 95, 95]⟩⟩
noncomputable def hN4 : Str := ⟨⟨[95, 95, 108, 111, 97, 100, 101, 114, 95, 95]⟩⟩
noncomputable def hN5 : Str := ⟨⟨[95, 95, 115, 112, 101, 99, 95, 95]⟩⟩
noncomputable def hN6 : Str := ⟨⟨[95, 95, 98, 117, 105, 108, 100, 95, 99, 108, 97, 115, 115, 95, 95]⟩⟩
noncomputable def hN7 : Str := ⟨⟨[95, 95, 105, 109, 112, 111, 114, 116, 95, 95]⟩⟩
noncomputable def hN8 : Str := ⟨⟨[97, 98, 115]⟩⟩
noncomputable def hN9 : Str := ⟨⟨[97, 108, 108]⟩⟩
noncomputable def hN10 : Str := ⟨⟨[97, 110, 121]⟩⟩
noncomputable def hN11 : Str := ⟨⟨[97, 115, 99, 105, 105]⟩⟩
noncomputable def hN12 : Str := ⟨⟨[98, 105, 110]⟩⟩
noncomputable def hN13 : Str := ⟨⟨[98, 114, 101, 97, 107, 112, 111, 105, 110, 116]⟩⟩
noncomputable def hN14 : Str := ⟨⟨[99, 97, 108, 108, 97, 98, 108, 101]⟩⟩
noncomputable def hN15 : Str := ⟨⟨[99, 104, 114]⟩⟩
noncomputable def hN16 : Str := ⟨⟨[99, 111, 109, 112, 105, 108, 101]⟩⟩
noncomputable def hN17 : Str := ⟨⟨[100, 101, 108, 97, 116, 116, 114]⟩⟩
noncomputable def hN18 : Str := ⟨⟨[100, 105, 114]⟩⟩
noncomputable def hN19 : Str := ⟨⟨[100, 105, 118, 109, 111, 100]⟩⟩
noncomputable def hN20 : Str := ⟨⟨[101, 118, 97, 108]⟩⟩
noncomputable def hN21 : Str := ⟨⟨[101, 120, 101, 99]⟩⟩
noncomputable def hN22 : Str := ⟨⟨[102, 111, 114, 109, 97, 116]⟩⟩
noncomputable def hN23 : Str := ⟨⟨[103, 101, 116, 97, 116, 116, 114]⟩⟩
noncomputable def hN24 : Str := ⟨⟨[103, 108, 111, 98, 97, 108, 115]⟩⟩
noncomputable def hN25 : Str := ⟨⟨[104, 97, 115, 97, 116, 116, 114]⟩⟩
noncomputable def hN26 : Str := ⟨⟨[104, 97, 115, 104]⟩⟩
noncomputable def hN27 : Str := ⟨⟨[104, 101, 120]⟩⟩
noncomputable def hN28 : Str := ⟨⟨[105, 100]⟩⟩
noncomputable def hN29 : Str := ⟨⟨[105, 110, 112, 117, 116]⟩⟩
noncomputable def hN30 : Str := ⟨⟨[105, 115, 105, 110, 115, 116, 97, 110, 99, 101]⟩⟩
noncomputable def hN31 : Str := ⟨⟨[105, 115, 115, 117, 98, 99, 108, 97, 115, 115]⟩⟩
noncomputable def hN32 : Str := ⟨⟨[105, 116, 101, 114]⟩⟩
noncomputable def hN33 : Str := ⟨⟨[97, 105, 116, 101, 114]⟩⟩
noncomputable def hN34 : Str := ⟨⟨[108, 101, 110]⟩⟩
noncomputable def hN35 : Str := ⟨⟨[108, 111, 99, 97, 108, 115]⟩⟩
noncomputable def hN36 : Str := ⟨⟨[109, 97, 120]⟩⟩
noncomputable def hN37 : Str := ⟨⟨[109, 105, 110]⟩⟩
noncomputable def hN38 : Str := ⟨⟨[110, 101, 120, 116]⟩⟩
noncomputable def hN39 : Str := ⟨⟨[97, 110, 101, 120, 116]⟩⟩
noncomputable def hN40 : Str := ⟨⟨[111, 99, 116]⟩⟩
noncomputable def hN41 : Str := ⟨⟨[111, 114, 100]⟩⟩
noncomputable def hN42 : Str := ⟨⟨[112, 111, 119]⟩⟩
noncomputable def hN43 : Str := ⟨⟨[112, 114, 105, 110, 116]⟩⟩
noncomputable def hN44 : Str := ⟨⟨[114, 101, 112, 114]⟩⟩
noncomputable def hN45 : Str := ⟨⟨[114, 111, 117, 110, 100]⟩⟩
noncomputable def hN46 : Str := ⟨⟨[115, 101, 116, 97, 116, 116, 114]⟩⟩
noncomputable def hN47 : Str := ⟨⟨[115, 111, 114, 116, 101, 100]⟩⟩
noncomputable def hN48 : Str := ⟨⟨[115, 117, 109]⟩⟩
noncomputable def hN49 : Str := ⟨⟨[118, 97, 114, 115]⟩⟩
noncomputable def hN50 : Str := ⟨⟨[78, 111, 110, 101]⟩⟩
noncomputable def hN51 : Str := ⟨⟨[69, 108, 108, 105, 112, 115, 105, 115]⟩⟩
noncomputable def hN52 : Str := ⟨⟨[78, 111, 116, 73, 109, 112, 108, 101, 109, 101, 110, 116, 101, 100]⟩⟩
noncomputable def hN53 : Str := ⟨⟨[70, 97, 108, 115, 101]⟩⟩
noncomputable def hN54 : Str := ⟨⟨[84, 114, 117, 101]⟩⟩
noncomputable def hN55 : Str := ⟨⟨[98, 111, 111, 108]⟩⟩
noncomputable def hN56 : Str := ⟨⟨[109, 101, 109, 111, 114, 121, 118, 105, 101, 119]⟩⟩
noncomputable def hN57 : Str := ⟨⟨[98, 121, 116, 101, 97, 114, 114, 97, 121]⟩⟩
noncomputable def hN58 : Str := ⟨⟨[98, 121, 116, 101, 115]⟩⟩
noncomputable def hN59 : Str := ⟨⟨[99, 108, 97, 115, 115, 109, 101, 116, 104, 111, 100]⟩⟩
noncomputable def hN60 : Str := ⟨⟨[99, 111, 109, 112, 108, 101, 120]⟩⟩
noncomputable def hN61 : Str := ⟨⟨[100, 105, 99, 116]⟩⟩
noncomputable def hN62 : Str := ⟨⟨[101, 110, 117, 109, 101, 114, 97, 116, 101]⟩⟩
noncomputable def hN63 : Str := ⟨⟨[102, 105, 108, 116, 101, 114]⟩⟩
noncomputable def hN64 : Str := ⟨⟨[102, 108, 111, 97, 116]⟩⟩
noncomputable def hN65 : Str := ⟨⟨[102, 114, 111, 122, 101, 110, 115, 101, 116]⟩⟩
noncomputable def hN66 : Str := ⟨⟨[112, 114, 111, 112, 101, 114, 116, 121]⟩⟩
noncomputable def hN67 : Str := ⟨⟨[105, 110, 116]⟩⟩
noncomputable def hN68 : Str := ⟨⟨[108, 105, 115, 116]⟩⟩
noncomputable def hN69 : Str := ⟨⟨[109, 97, 112]⟩⟩
noncomputable def hN70 : Str := ⟨⟨[111, 98, 106, 101, 99, 116]⟩⟩
noncomputable def hN71 : Str := ⟨⟨[114, 97, 110, 103, 101]⟩⟩
noncomputable def hN72 : Str := ⟨⟨[114, 101, 118, 101, 114, 115, 101, 100]⟩⟩
noncomputable def hN73 : Str := ⟨⟨[115, 101, 116]⟩⟩
noncomputable def hN74 : Str := ⟨⟨[115, 108, 105, 99, 101]⟩⟩
noncomputable def hN75 : Str := ⟨⟨[115, 116, 97, 116, 105, 99, 109, 101, 116, 104, 111, 100]⟩⟩
noncomputable def hN76 : Str := ⟨⟨[115, 116, 114]⟩⟩
noncomputable def hN77 : Str := ⟨⟨[115, 117, 112, 101, 114]⟩⟩
noncomputable def hN78 : Str := ⟨⟨[116, 117, 112, 108, 101]⟩⟩
noncomputable def hN79 : Str := ⟨⟨[116, 121, 112, 101]⟩⟩
noncomputable def hN80 : Str := ⟨⟨[122, 105, 112]⟩⟩
noncomputable def hN81 : Str := ⟨⟨[95, 95, 100, 101, 98, 117, 103, 95, 95]⟩⟩
noncomputable def hN82 : Str := ⟨⟨[66, 97, 115, 101, 69, 120, 99, 101, 112, 116, 105, 111, 110]⟩⟩
noncomputable def hN83 : Str := ⟨⟨[66, 97, 115, 101, 69, 120, 99, 101, 112, 116, 105, 111, 110, 71, 114, 111, 117, 112]⟩⟩
noncomputable def hN84 : Str := ⟨⟨[69, 120, 99, 101, 112, 116, 105, 111, 110]⟩⟩
noncomputable def hN85 : Str := ⟨⟨[71, 101, 110, 101, 114, 97, 116, 111, 114, 69, 120, 105, 116]⟩⟩
noncomputable def hN86 : Str := ⟨⟨[75, 101, 121, 98, 111, 97, 114, 100, 73, 110, 116, 101, 114, 114, 117, 112, 116]⟩⟩
noncomputable def hN87 : Str := ⟨⟨[83, 121, 115, 116, 101, 109, 69, 120, 105, 116]⟩⟩
noncomputable def hN88 : Str := ⟨⟨[65, 114, 105, 116, 104, 109, 101, 116, 105, 99, 69, 114, 114, 111, 114]⟩⟩
noncomputable def hN89 : Str := ⟨⟨[65, 115, 115, 101, 114, 116, 105, 111, 110, 69, 114, 114, 111, 114]⟩⟩
noncomputable def hN90 : Str := ⟨⟨[65, 116, 116, 114, 105, 98, 117, 116, 101, 69, 114, 114, 111, 114]⟩⟩
noncomputable def hN91 : Str := ⟨⟨[66, 117, 102, 102, 101, 114, 69, 114, 114, 111, 114]⟩⟩
noncomputable def hN92 : Str := ⟨⟨[69, 79, 70, 69, 114, 114, 111, 114]⟩⟩
noncomputable def hN93 : Str := ⟨⟨[73, 109, 112, 111, 114, 116, 69, 114, 114, 111, 114]⟩⟩
noncomputable def hN94 : Str := ⟨⟨[76, 111, 111, 107, 117, 112, 69, 114, 114, 111, 114]⟩⟩
noncomputable def hN95 : Str := ⟨⟨[77, 101, 109, 111, 114, 121, 69, 114, 114, 111, 114]⟩⟩
noncomputable def hN96 : Str := ⟨⟨[78, 97, 109, 101, 69, 114, 114, 111, 114]⟩⟩
noncomputable def hN97 : Str := ⟨⟨[79, 83, 69, 114, 114, 111, 114]⟩⟩
noncomputable def hN98 : Str := ⟨⟨[82, 101, 102, 101, 114, 101, 110, 99, 101, 69, 114, 114, 111, 114]⟩⟩
noncomputable def hN99 : Str := ⟨⟨[82, 117, 110, 116, 105, 109, 101, 69, 114, 114, 111, 114]⟩⟩
noncomputable def hN100 : Str := ⟨⟨[83, 116, 111, 112, 65, 115, 121, 110, 99, 73, 116, 101, 114, 97, 116, 105, 111, 110]⟩⟩
noncomputable def hN101 : Str := ⟨⟨[83, 116, 111, 112, 73, 116, 101, 114, 97, 116, 105, 111, 110]⟩⟩
noncomputable def hN102 : Str := ⟨⟨[83, 121, 110, 116, 97, 120, 69, 114, 114, 111, 114]⟩⟩
noncomputable def hN103 : Str := ⟨⟨[83, 121, 115, 116, 101, 109, 69, 114, 114, 111, 114]⟩⟩
noncomputable def hN104 : Str := ⟨⟨[84, 121, 112, 101, 69, 114, 114, 111, 114]⟩⟩
noncomputable def hN105 : Str := ⟨⟨[86, 97, 108, 117, 101, 69, 114, 114, 111, 114]⟩⟩
noncomputable def hN106 : Str := ⟨⟨[87, 97, 114, 110, 105, 110, 103]⟩⟩
noncomputable def hN107 : Str := ⟨⟨[70, 108, 111, 97, 116, 105, 110, 103, 80, 111, 105, 110, 116, 69, 114, 114, 111, 114]⟩⟩
noncomputable def hN108 : Str := ⟨⟨[79, 118, 101, 114, 102, 108, 111, 119, 69, 114, 114, 111, 114]⟩⟩
noncomputable def hN109 : Str := ⟨⟨[90, 101, 114, 111, 68, 105, 118, 105, 115, 105, 111, 110, 69, 114, 114, 111, 114]⟩⟩
noncomputable def hN110 : Str := ⟨⟨[66, 121, 116, 101, 115, 87, 97, 114, 110, 105, 110, 103]⟩⟩
noncomputable def hN111 : Str := ⟨⟨[68, 101, 112, 114, 101, 99, 97, 116, 105, 111, 110, 87, 97, 114, 110, 105, 110, 103]⟩⟩
noncomputable def hN112 : Str := ⟨⟨[69, 110, 99, 111, 100, 105, 110, 103, 87, 97, 114, 110, 105, 110, 103]⟩⟩
noncomputable def hN113 : Str := ⟨⟨[70, 117, 116, 117, 114, 101, 87, 97, 114, 110, 105, 110, 103]⟩⟩
noncomputable def hN114 : Str := ⟨⟨[73, 109, 112, 111, 114, 116, 87, 97, 114, 110, 105, 110, 103]⟩⟩
noncomputable def hN115 : Str := ⟨⟨[80, 101, 110, 100, 105, 110, 103, 68, 101, 112, 114, 101, 99, 97, 116, 105, 111, 110, 87, 97, 114, 110, 105, 110, 103]⟩⟩
noncomputable def hN116 : Str := ⟨⟨[82, 101, 115, 111, 117, 114, 99, 101, 87, 97, 114, 110, 105, 110, 103]⟩⟩
noncomputable def hN117 : Str := ⟨⟨[82, 117, 110, 116, 105, 109, 101, 87, 97, 114, 110, 105, 110, 103]⟩⟩
noncomputable def hN118 : Str := ⟨⟨[83, 121, 110, 116, 97, 120, 87, 97, 114, 110, 105, 110, 103]⟩⟩
noncomputable def hN119 : Str := ⟨⟨[85, 110, 105, 99, 111, 100, 101, 87, 97, 114, 110, 105, 110, 103]⟩⟩
noncomputable def hN120 : Str := ⟨⟨[85, 115, 101, 114, 87, 97, 114, 110, 105, 110, 103]⟩⟩
noncomputable def hN121 : Str := ⟨⟨[66, 108, 111, 99, 107, 105, 110, 103, 73, 79, 69, 114, 114, 111, 114]⟩⟩
noncomputable def hN122 : Str := ⟨⟨[67, 104, 105, 108, 100, 80, 114, 111, 99, 101, 115, 115, 69, 114, 114, 111, 114]⟩⟩
noncomputable def hN123 : Str := ⟨⟨[67, 111, 110, 110, 101, 99, 116, 105, 111, 110, 69, 114, 114, 111, 114]⟩⟩
noncomputable def hN124 : Str := ⟨⟨[70, 105, 108, 101, 69, 120, 105, 115, 116, 115, 69, 114, 114, 111, 114]⟩⟩
noncomputable def hN125 : Str := ⟨⟨[70, 105, 108, 101, 78, 111, 116, 70, 111, 117, 110, 100, 69, 114, 114, 111, 114]⟩⟩
noncomputable def hN126 : Str := ⟨⟨[73, 110, 116, 101, 114, 114, 117, 112, 116, 101, 100, 69, 114, 114, 111, 114]⟩⟩
noncomputable def hN127 : Str := ⟨⟨[73, 115, 65, 68, 105, 114, 101, 99, 116, 111, 114, 121, 69, 114, 114, 111, 114]⟩⟩
noncomputable def hN128 : Str := ⟨⟨[78, 111, 116, 65, 68, 105, 114, 101, 99, 116, 111, 114, 121, 69, 114, 114, 111, 114]⟩⟩
noncomputable def hN129 : Str := ⟨⟨[80, 101, 114, 109, 105, 115, 115, 105, 111, 110, 69, 114, 114, 111, 114]⟩⟩
noncomputable def hN130 : Str := ⟨⟨[80, 114, 111, 99, 101, 115, 115, 76, 111, 111, 107, 117, 112, 69, 114, 114, 111, 114]⟩⟩
noncomputable def hN131 : Str := ⟨⟨[84, 105, 109, 101, 111, 117, 116, 69, 114, 114, 111, 114]⟩⟩
noncomputable def hN132 : Str := ⟨⟨[73, 110, 100, 101, 110, 116, 97, 116, 105, 111, 110, 69, 114, 114, 111, 114]⟩⟩
noncomputable def hN133 : Str := ⟨⟨[95, 73, 110, 99, 111, 109, 112, 108, 101, 116, 101, 73, 110, 112, 117, 116, 69, 114, 114, 111, 114]⟩⟩
noncomputable def hN134 : Str := ⟨⟨[73, 110, 100, 101, 120, 69, 114, 114, 111, 114]⟩⟩
noncomputable def hN135 : Str := ⟨⟨[75, 101, 121, 69, 114, 114, 111, 114]⟩⟩
noncomputable def hN136 : Str := ⟨⟨[77, 111, 100, 117, 108, 101, 78, 111, 116, 70, 111, 117, 110, 100, 69, 114, 114, 111, 114]⟩⟩
noncomputable def hN137 : Str := ⟨⟨[78, 111, 116, 73, 109, 112, 108, 101, 109, 101, 110, 116, 101, 100, 69, 114, 114, 111, 114]⟩⟩
noncomputable def hN138 : Str := ⟨⟨[80, 121, 116, 104, 111, 110, 70, 105, 110, 97, 108, 105, 122, 97, 116, 105, 111, 110, 69, 114, 114, 111, 114]⟩⟩
noncomputable def hN139 : Str := ⟨⟨[82, 101, 99, 117, 114, 115, 105, 111, 110, 69, 114, 114, 111, 114]⟩⟩
noncomputable def hN140 : Str := ⟨⟨[85, 110, 98, 111, 117, 110, 100, 76, 111, 99, 97, 108, 69, 114, 114, 111, 114]⟩⟩
noncomputable def hN141 : Str := ⟨⟨[85, 110, 105, 99, 111, 100, 101, 69, 114, 114, 111, 114]⟩⟩
noncomputable def hN142 : Str := ⟨⟨[66, 114, 111, 107, 101, 110, 80, 105, 112, 101, 69, 114, 114, 111, 114]⟩⟩
noncomputable def hN143 : Str := ⟨⟨[67, 111, 110, 110, 101, 99, 116, 105, 111, 110, 65, 98, 111, 114, 116, 101, 100, 69, 114, 114, 111, 114]⟩⟩
noncomputable def hN144 : Str := ⟨⟨[67, 111, 110, 110, 101, 99, 116, 105, 111, 110, 82, 101, 102, 117, 115, 101, 100, 69, 114, 114, 111, 114]⟩⟩
noncomputable def hN145 : Str := ⟨⟨[67, 111, 110, 110, 101, 99, 116, 105, 111, 110, 82, 101, 115, 101, 116, 69, 114, 114, 111, 114]⟩⟩
noncomputable def hN146 : Str := ⟨⟨[84, 97, 98, 69, 114, 114, 111, 114]⟩⟩
noncomputable def hN147 : Str := ⟨⟨[85, 110, 105, 99, 111, 100, 101, 68, 101, 99, 111, 100, 101, 69, 114, 114, 111, 114]⟩⟩
noncomputable def hN148 : Str := ⟨⟨[85, 110, 105, 99, 111, 100, 101, 69, 110, 99, 111, 100, 101, 69, 114, 114, 111, 114]⟩⟩
noncomputable def hN149 : Str := ⟨⟨[85, 110, 105, 99, 111, 100, 101, 84, 114, 97, 110, 115, 108, 97, 116, 101, 69, 114, 114, 111, 114]⟩⟩
noncomputable def hN150 : Str := ⟨⟨[69, 120, 99, 101, 112, 116, 105, 111, 110, 71, 114, 111, 117, 112]⟩⟩
noncomputable def hN151 : Str := ⟨⟨[69, 110, 118, 105, 114, 111, 110, 109, 101, 110, 116, 69, 114, 114, 111, 114]⟩⟩
noncomputable def hN152 : Str := ⟨⟨[73, 79, 69, 114, 114, 111, 114]⟩⟩
noncomputable def hN153 : Str := ⟨⟨[111, 112, 101, 110]⟩⟩
noncomputable def hN154 : Str := ⟨⟨[113, 117, 105, 116]⟩⟩
noncomputable def hN155 : Str := ⟨⟨[101, 120, 105, 116]⟩⟩
noncomputable def hN156 : Str := ⟨⟨[99, 111, 112, 121, 114, 105, 103, 104, 116]⟩⟩
noncomputable def hN157 : Str := ⟨⟨[99, 114, 101, 100, 105, 116, 115]⟩⟩
noncomputable def hN158 : Str := ⟨⟨[108, 105, 99, 101, 110, 115, 101]⟩⟩
noncomputable def hN159 : Str := ⟨⟨[104, 101, 108, 112]⟩⟩
noncomputable def hN160 : Str := ⟨⟨[95, 95, 109, 97, 105, 110, 95, 95]⟩⟩
noncomputable def hN161 : Str := ⟨⟨[95, 115, 114, 101]⟩⟩
noncomputable def hN162 : Str := ⟨⟨[105, 109, 112, 111, 114, 116, 46, 108, 111, 97, 100, 101, 100, 46, 95, 115, 114, 101]⟩⟩
noncomputable def hN163 : Str := ⟨⟨[99, 108, 97, 115, 115, 46, 95, 102, 114, 111, 122, 101, 110, 95, 105, 109, 112, 111, 114, 116, 108, 105, 98, 46, 66, 117, 105, 108, 116, 105, 110, 73, 109, 112, 111, 114, 116, 101, 114]⟩⟩
noncomputable def hN164 : Str := ⟨⟨[119, 97, 116, 99, 104, 101, 100, 46, 105, 109, 112, 111, 114, 116]⟩⟩
noncomputable def hN165 : Str := ⟨⟨[99, 108, 97, 115, 115, 46, 95, 102, 114, 111, 122, 101, 110, 95, 105, 109, 112, 111, 114, 116, 108, 105, 98, 46, 77, 111, 100, 117, 108, 101, 83, 112, 101, 99]⟩⟩
noncomputable def hN166 : Str := ⟨⟨[115, 121, 115, 46, 109, 111, 100, 117, 108, 101, 115, 46, 98, 111, 111, 107, 101, 100, 45, 101, 112, 111, 99, 104]⟩⟩
noncomputable def hN167 : Str := ⟨⟨[105, 109, 112, 111, 114, 116, 46, 108, 97, 116, 101, 114, 45, 108, 97, 105, 100, 46, 95, 115, 114, 101]⟩⟩
noncomputable def hN168 : Str := ⟨⟨[119, 97, 116, 99, 104, 101, 100, 46, 108, 105, 98, 114, 97, 114, 121]⟩⟩
noncomputable def hN169 : Str := ⟨⟨[119, 97, 116, 99, 104, 101, 100, 46, 108, 105, 98, 114, 97, 114, 121, 45, 111, 98, 106, 101, 99, 116, 115]⟩⟩
noncomputable def hN170 : Str := ⟨⟨[12]⟩⟩
noncomputable def hN171 : Str := ⟨⟨[119, 97, 116, 99, 104, 101, 100, 46, 108, 105, 98, 114, 97, 114, 121, 45, 100, 101, 101, 112, 46, 95, 115, 114, 101]⟩⟩
noncomputable def hN172 : Str := ⟨⟨[4, 0, 0, 11, 4, 0, 0, 11, 4, 0, 0, 3, 4, 0, 0, 11, 8, 4, 100, 105, 99, 116, 2]⟩⟩
noncomputable def hN173 : Str := ⟨⟨[108, 97, 119, 95, 114, 119, 48, 49, 48, 52, 95, 48, 49]⟩⟩
noncomputable def hN174 : Str := ⟨⟨[95, 95, 97, 110, 110, 111, 116, 97, 116, 105, 111, 110, 115, 95, 95]⟩⟩
noncomputable def hN175 : Str := ⟨⟨[95, 95, 98, 117, 105, 108, 116, 105, 110, 115, 95, 95]⟩⟩
noncomputable def hN176 : Str := ⟨⟨[95, 95, 102, 105, 108, 101, 95, 95]⟩⟩
noncomputable def hN177 : Str := ⟨⟨[47, 99, 108, 97, 105, 109, 47, 99, 117, 116, 46, 112, 121]⟩⟩
noncomputable def hN178 : Str := ⟨⟨[95, 95, 99, 97, 99, 104, 101, 100, 95, 95]⟩⟩
noncomputable def hN179 : Str := ⟨⟨[95, 119, 97, 108, 108]⟩⟩
noncomputable def hN180 : Str := ⟨⟨[67, 79, 77, 80, 73, 76, 69, 82, 95, 70, 76, 65, 71, 95, 78, 65, 77, 69, 83]⟩⟩
noncomputable def hN181 : Str := ⟨⟨[112, 114, 101, 116, 116, 121, 95, 102, 108, 97, 103, 115]⟩⟩
noncomputable def hN182 : Str := ⟨⟨[95, 112, 97, 114, 115, 101, 95, 118, 97, 114, 105, 110, 116]⟩⟩
noncomputable def hN183 : Str := ⟨⟨[95, 110, 101, 116, 114, 99, 108, 101, 120]⟩⟩
noncomputable def hN184 : Str := ⟨⟨[95, 110, 97, 109, 101, 95, 100, 105, 115, 97, 108, 108, 111, 119, 101, 100, 95, 114, 101]⟩⟩
noncomputable def hN185 : Str := ⟨⟨[95, 118, 97, 108, 117, 101, 95, 100, 105, 115, 97, 108, 108, 111, 119, 101, 100, 95, 114, 101]⟩⟩
noncomputable def hN186 : Str := ⟨⟨[72, 101, 97, 100, 101, 114, 115]⟩⟩
noncomputable def hN187 : Str := ⟨⟨[95, 108, 97, 119, 95, 108, 101, 120, 101, 114]⟩⟩
noncomputable def hN188 : Str := ⟨⟨[95, 108, 97, 119, 95, 115, 112, 101, 108, 108, 101, 100]⟩⟩
noncomputable def hN189 : Str := ⟨⟨[95, 108, 97, 119, 95, 119, 111, 114, 100]⟩⟩
noncomputable def hN190 : Str := ⟨⟨[95, 108, 97, 119, 95, 110, 97, 109, 101]⟩⟩
noncomputable def hN191 : Str := ⟨⟨[95, 108, 97, 119, 95, 111, 114, 100, 101, 114]⟩⟩
noncomputable def hN192 : Str := ⟨⟨[95, 108, 97, 119, 95, 116, 101, 120, 116]⟩⟩
noncomputable def hN193 : Str := ⟨⟨[95, 108, 97, 119, 95, 110, 117, 109, 98, 101, 114]⟩⟩
noncomputable def hN194 : Str := ⟨⟨[95, 108, 97, 119, 95, 100, 111, 119, 110]⟩⟩
noncomputable def hN195 : Str := ⟨⟨[95, 108, 97, 119, 95, 119, 111, 110]⟩⟩
noncomputable def hN196 : Str := ⟨⟨[108, 97, 119]⟩⟩
noncomputable def hN197 : Str := ⟨⟨[60, 109, 111, 100, 117, 108, 101, 62]⟩⟩
noncomputable def hN198 : Str := ⟨⟨[]⟩⟩
noncomputable def hN199 : Str := ⟨⟨[116, 101, 109, 112, 108, 97, 116, 101]⟩⟩
noncomputable def hN200 : Str := ⟨⟨[103, 101, 116, 99, 111, 100, 101, 115, 105, 122, 101]⟩⟩
noncomputable def hN201 : Str := ⟨⟨[97, 115, 99, 105, 105, 95, 105, 115, 99, 97, 115, 101, 100]⟩⟩
noncomputable def hN202 : Str := ⟨⟨[117, 110, 105, 99, 111, 100, 101, 95, 105, 115, 99, 97, 115, 101, 100]⟩⟩
noncomputable def hN203 : Str := ⟨⟨[97, 115, 99, 105, 105, 95, 116, 111, 108, 111, 119, 101, 114]⟩⟩
noncomputable def hN204 : Str := ⟨⟨[117, 110, 105, 99, 111, 100, 101, 95, 116, 111, 108, 111, 119, 101, 114]⟩⟩
noncomputable def hN205 : Str := ⟨⟨[77, 65, 71, 73, 67]⟩⟩
noncomputable def hN206 : Str := ⟨⟨[67, 79, 68, 69, 83, 73, 90, 69]⟩⟩
noncomputable def hN207 : Str := ⟨⟨[77, 65, 88, 82, 69, 80, 69, 65, 84]⟩⟩
noncomputable def hN208 : Str := ⟨⟨[77, 65, 88, 71, 82, 79, 85, 80, 83]⟩⟩
noncomputable def hN209 : Str := ⟨⟨[32, 83, 82, 69, 32, 50, 46, 50, 46, 50, 32, 67, 111, 112, 121, 114, 105, 103, 104, 116, 32, 40, 99, 41, 32, 49, 57, 57, 55, 45, 50, 48, 48, 50, 32, 98, 121, 32, 83, 101, 99, 114, 101, 116, 32, 76, 97, 98, 115, 32, 65, 66, 32]⟩⟩
noncomputable def hN210 : Str := ⟨⟨[95, 95, 109, 111, 100, 117, 108, 101, 95, 95]⟩⟩
noncomputable def hN211 : Str := ⟨⟨[95, 102, 114, 111, 122, 101, 110, 95, 105, 109, 112, 111, 114, 116, 108, 105, 98]⟩⟩
noncomputable def hN212 : Str := ⟨⟨[95, 95, 102, 105, 114, 115, 116, 108, 105, 110, 101, 110, 111, 95, 95]⟩⟩
noncomputable def hN213 : Str := ⟨⟨[95, 79, 82, 73, 71, 73, 78]⟩⟩
noncomputable def hN214 : Str := ⟨⟨[98, 117, 105, 108, 116, 45, 105, 110]⟩⟩
noncomputable def hN215 : Str := ⟨⟨[102, 105, 110, 100, 95, 115, 112, 101, 99]⟩⟩
noncomputable def hN216 : Str := ⟨⟨[99, 114, 101, 97, 116, 101, 95, 109, 111, 100, 117, 108, 101]⟩⟩
noncomputable def hN217 : Str := ⟨⟨[101, 120, 101, 99, 95, 109, 111, 100, 117, 108, 101]⟩⟩
noncomputable def hN218 : Str := ⟨⟨[103, 101, 116, 95, 99, 111, 100, 101]⟩⟩
noncomputable def hN219 : Str := ⟨⟨[103, 101, 116, 95, 115, 111, 117, 114, 99, 101]⟩⟩
noncomputable def hN220 : Str := ⟨⟨[105, 115, 95, 112, 97, 99, 107, 97, 103, 101]⟩⟩
noncomputable def hN221 : Str := ⟨⟨[108, 111, 97, 100, 95, 109, 111, 100, 117, 108, 101]⟩⟩
noncomputable def hN222 : Str := ⟨⟨[95, 95, 115, 116, 97, 116, 105, 99, 95, 97, 116, 116, 114, 105, 98, 117, 116, 101, 115, 95, 95]⟩⟩
noncomputable def hN223 : Str := ⟨⟨[95, 95, 100, 105, 99, 116, 95, 95]⟩⟩
noncomputable def hN224 : Str := ⟨⟨[95, 95, 119, 101, 97, 107, 114, 101, 102, 95, 95]⟩⟩
noncomputable def hN225 : Str := ⟨⟨[66, 117, 105, 108, 116, 105, 110, 73, 109, 112, 111, 114, 116, 101, 114]⟩⟩
noncomputable def hN226 : Str := ⟨⟨[6, 189, 10, 95, 95, 109, 111, 100, 117, 108, 101, 95, 95, 6, 186, 17, 95, 102, 114, 111, 122, 101, 110, 95, 105, 109, 112, 111, 114, 116, 108, 105, 98, 6, 190, 15, 95, 95, 102, 105, 114, 115, 116, 108, 105, 110, 101, 110, 111, 95, 95, 4, 187, 0, 971, 6, 191, 7, 95, 95, 100, 111, 99, 95, 95, 9, 52, 95, 102, 114, 111, 122, 101, 110, 95, 105, 109, 112, 111, 114, 116, 108, 105, 98, 46, 66, 117, 105, 108, 116, 105, 110, 73, 109, 112, 111, 114, 116, 101, 114, 46, 95, 95, 100, 111, 99, 95, 95, 58, 115, 116, 114, 35, 111, 112, 97, 113, 117, 101, 6, 192, 7, 95, 79, 82, 73, 71, 73, 78, 6, 188, 8, 98, 117, 105, 108, 116, 45, 105, 110, 6, 193, 9, 102, 105, 110, 100, 95, 115, 112, 101, 99, 9, 50, 95, 102, 114, 111, 122, 101, 110, 95, 105, 109, 112, 111, 114, 116, 108, 105, 98, 46, 66, 117, 105, 108, 116, 105, 110, 73, 109, 112, 111, 114, 116, 101, 114, 46, 102, 105, 110, 100, 95, 115, 112, 101, 99, 35, 111, 112, 97, 113, 117, 101, 6, 194, 13, 99, 114, 101, 97, 116, 101, 95, 109, 111, 100, 117, 108, 101, 9, 54, 95, 102, 114, 111, 122, 101, 110, 95, 105, 109, 112, 111, 114, 116, 108, 105, 98, 46, 66, 117, 105, 108, 116, 105, 110, 73, 109, 112, 111, 114, 116, 101, 114, 46, 99, 114, 101, 97, 116, 101, 95, 109, 111, 100, 117, 108, 101, 35, 111, 112, 97, 113, 117, 101, 6, 195, 11, 101, 120, 101, 99, 95, 109, 111, 100, 117, 108, 101, 9, 52, 95, 102, 114, 111, 122, 101, 110, 95, 105, 109, 112, 111, 114, 116, 108, 105, 98, 46, 66, 117, 105, 108, 116, 105, 110, 73, 109, 112, 111, 114, 116, 101, 114, 46, 101, 120, 101, 99, 95, 109, 111, 100, 117, 108, 101, 35, 111, 112, 97, 113, 117, 101, 6, 196, 8, 103, 101, 116, 95, 99, 111, 100, 101, 9, 49, 95, 102, 114, 111, 122, 101, 110, 95, 105, 109, 112, 111, 114, 116, 108, 105, 98, 46, 66, 117, 105, 108, 116, 105, 110, 73, 109, 112, 111, 114, 116, 101, 114, 46, 103, 101, 116, 95, 99, 111, 100, 101, 35, 111, 112, 97, 113, 117, 101, 6, 197, 10, 103, 101, 116, 95, 115, 111, 117, 114, 99, 101, 9, 51, 95, 102, 114, 111, 122, 101, 110, 95, 105, 109, 112, 111, 114, 116, 108, 105, 98, 46, 66, 117, 105, 108, 116, 105, 110, 73, 109, 112, 111, 114, 116, 101, 114, 46, 103, 101, 116, 95, 115, 111, 117, 114, 99, 101, 35, 111, 112, 97, 113, 117, 101, 6, 198, 10, 105, 115, 95, 112, 97, 99, 107, 97, 103, 101, 9, 51, 95, 102, 114, 111, 122, 101, 110, 95, 105, 109, 112, 111, 114, 116, 108, 105, 98, 46, 66, 117, 105, 108, 116, 105, 110, 73, 109, 112, 111, 114, 116, 101, 114, 46, 105, 115, 95, 112, 97, 99, 107, 97, 103, 101, 35, 111, 112, 97, 113, 117, 101, 6, 199, 11, 108, 111, 97, 100, 95, 109, 111, 100, 117, 108, 101, 9, 52, 95, 102, 114, 111, 122, 101, 110, 95, 105, 109, 112, 111, 114, 116, 108, 105, 98, 46, 66, 117, 105, 108, 116, 105, 110, 73, 109, 112, 111, 114, 116, 101, 114, 46, 108, 111, 97, 100, 95, 109, 111, 100, 117, 108, 101, 35, 111, 112, 97, 113, 117, 101, 6, 200, 21, 95, 95, 115, 116, 97, 116, 105, 99, 95, 97, 116, 116, 114, 105, 98, 117, 116, 101, 115, 95, 95, 4, 0, 0, 15, 6, 202, 8, 95, 95, 100, 105, 99, 116, 95, 95, 4, 0, 0, 16, 6, 204, 11, 95, 95, 119, 101, 97, 107, 114, 101, 102, 95, 95, 4, 0, 0, 17]⟩⟩
noncomputable def hN227 : Str := ⟨⟨[6, 227, 10, 95, 95, 109, 111, 100, 117, 108, 101, 95, 95, 6, 217, 17, 95, 102, 114, 111, 122, 101, 110, 95, 105, 109, 112, 111, 114, 116, 108, 105, 98, 6, 228, 15, 95, 95, 102, 105, 114, 115, 116, 108, 105, 110, 101, 110, 111, 95, 95, 4, 218, 0, 562, 6, 229, 7, 95, 95, 100, 111, 99, 95, 95, 9, 47, 95, 102, 114, 111, 122, 101, 110, 95, 105, 109, 112, 111, 114, 116, 108, 105, 98, 46, 77, 111, 100, 117, 108, 101, 83, 112, 101, 99, 46, 95, 95, 100, 111, 99, 95, 95, 58, 115, 116, 114, 35, 111, 112, 97, 113, 117, 101, 6, 230, 8, 95, 95, 105, 110, 105, 116, 95, 95, 9, 44, 95, 102, 114, 111, 122, 101, 110, 95, 105, 109, 112, 111, 114, 116, 108, 105, 98, 46, 77, 111, 100, 117, 108, 101, 83, 112, 101, 99, 46, 95, 95, 105, 110, 105, 116, 95, 95, 35, 111, 112, 97, 113, 117, 101, 6, 231, 8, 95, 95, 114, 101, 112, 114, 95, 95, 9, 44, 95, 102, 114, 111, 122, 101, 110, 95, 105, 109, 112, 111, 114, 116, 108, 105, 98, 46, 77, 111, 100, 117, 108, 101, 83, 112, 101, 99, 46, 95, 95, 114, 101, 112, 114, 95, 95, 35, 111, 112, 97, 113, 117, 101, 6, 232, 6, 95, 95, 101, 113, 95, 95, 9, 42, 95, 102, 114, 111, 122, 101, 110, 95, 105, 109, 112, 111, 114, 116, 108, 105, 98, 46, 77, 111, 100, 117, 108, 101, 83, 112, 101, 99, 46, 95, 95, 101, 113, 95, 95, 35, 111, 112, 97, 113, 117, 101, 6, 233, 6, 99, 97, 99, 104, 101, 100, 9, 42, 95, 102, 114, 111, 122, 101, 110, 95, 105, 109, 112, 111, 114, 116, 108, 105, 98, 46, 77, 111, 100, 117, 108, 101, 83, 112, 101, 99, 46, 99, 97, 99, 104, 101, 100, 35, 111, 112, 97, 113, 117, 101, 6, 234, 6, 112, 97, 114, 101, 110, 116, 9, 42, 95, 102, 114, 111, 122, 101, 110, 95, 105, 109, 112, 111, 114, 116, 108, 105, 98, 46, 77, 111, 100, 117, 108, 101, 83, 112, 101, 99, 46, 112, 97, 114, 101, 110, 116, 35, 111, 112, 97, 113, 117, 101, 6, 235, 12, 104, 97, 115, 95, 108, 111, 99, 97, 116, 105, 111, 110, 9, 48, 95, 102, 114, 111, 122, 101, 110, 95, 105, 109, 112, 111, 114, 116, 108, 105, 98, 46, 77, 111, 100, 117, 108, 101, 83, 112, 101, 99, 46, 104, 97, 115, 95, 108, 111, 99, 97, 116, 105, 111, 110, 35, 111, 112, 97, 113, 117, 101, 6, 236, 21, 95, 95, 115, 116, 97, 116, 105, 99, 95, 97, 116, 116, 114, 105, 98, 117, 116, 101, 115, 95, 95, 4, 0, 0, 23, 6, 238, 8, 95, 95, 100, 105, 99, 116, 95, 95, 4, 0, 0, 24, 6, 240, 11, 95, 95, 119, 101, 97, 107, 114, 101, 102, 95, 95, 4, 0, 0, 25, 6, 241, 8, 95, 95, 104, 97, 115, 104, 95, 95, 0]⟩⟩
noncomputable def hN228 : Str := ⟨⟨[110, 97, 109, 101]⟩⟩
noncomputable def hN229 : Str := ⟨⟨[108, 111, 97, 100, 101, 114]⟩⟩
noncomputable def hN230 : Str := ⟨⟨[111, 114, 105, 103, 105, 110]⟩⟩
noncomputable def hN231 : Str := ⟨⟨[108, 111, 97, 100, 101, 114, 95, 115, 116, 97, 116, 101]⟩⟩
noncomputable def hN232 : Str := ⟨⟨[115, 117, 98, 109, 111, 100, 117, 108, 101, 95, 115, 101, 97, 114, 99, 104, 95, 108, 111, 99, 97, 116, 105, 111, 110, 115]⟩⟩
noncomputable def hN233 : Str := ⟨⟨[95, 117, 110, 105, 110, 105, 116, 105, 97, 108, 105, 122, 101, 100, 95, 115, 117, 98, 109, 111, 100, 117, 108, 101, 115]⟩⟩
noncomputable def hN234 : Str := ⟨⟨[95, 115, 101, 116, 95, 102, 105, 108, 101, 97, 116, 116, 114]⟩⟩
noncomputable def hN235 : Str := ⟨⟨[95, 99, 97, 99, 104, 101, 100]⟩⟩
noncomputable def hN236 : Str := ⟨⟨[95, 105, 110, 105, 116, 105, 97, 108, 105, 122, 105, 110, 103]⟩⟩
noncomputable def hN237 : Str := ⟨⟨[95, 95, 105, 110, 105, 116, 95, 95]⟩⟩
noncomputable def hN238 : Str := ⟨⟨[95, 95, 114, 101, 112, 114, 95, 95]⟩⟩
noncomputable def hN239 : Str := ⟨⟨[95, 95, 101, 113, 95, 95]⟩⟩
noncomputable def hN240 : Str := ⟨⟨[99, 97, 99, 104, 101, 100]⟩⟩
noncomputable def hN241 : Str := ⟨⟨[112, 97, 114, 101, 110, 116]⟩⟩
noncomputable def hN242 : Str := ⟨⟨[104, 97, 115, 95, 108, 111, 99, 97, 116, 105, 111, 110]⟩⟩
noncomputable def hN243 : Str := ⟨⟨[95, 95, 104, 97, 115, 104, 95, 95]⟩⟩
noncomputable def hN244 : Str := ⟨⟨[77, 111, 100, 117, 108, 101, 83, 112, 101, 99]⟩⟩
noncomputable def hN245 : Str := ⟨⟨[107]⟩⟩
noncomputable def hN246 : Str := ⟨⟨[79, 80, 84, 73, 77, 73, 90, 69, 68]⟩⟩
noncomputable def hN247 : Str := ⟨⟨[78, 69, 87, 76, 79, 67, 65, 76, 83]⟩⟩
noncomputable def hN248 : Str := ⟨⟨[86, 65, 82, 65, 82, 71, 83]⟩⟩
noncomputable def hN249 : Str := ⟨⟨[86, 65, 82, 75, 69, 89, 87, 79, 82, 68, 83]⟩⟩
noncomputable def hN250 : Str := ⟨⟨[78, 69, 83, 84, 69, 68]⟩⟩
noncomputable def hN251 : Str := ⟨⟨[71, 69, 78, 69, 82, 65, 84, 79, 82]⟩⟩
noncomputable def hN252 : Str := ⟨⟨[78, 79, 70, 82, 69, 69]⟩⟩
noncomputable def hN253 : Str := ⟨⟨[67, 79, 82, 79, 85, 84, 73, 78, 69]⟩⟩
noncomputable def hN254 : Str := ⟨⟨[73, 84, 69, 82, 65, 66, 76, 69, 95, 67, 79, 82, 79, 85, 84, 73, 78, 69]⟩⟩
noncomputable def hN255 : Str := ⟨⟨[65, 83, 89, 78, 67, 95, 71, 69, 78, 69, 82, 65, 84, 79, 82]⟩⟩
noncomputable def hN256 : Str := ⟨⟨[102, 108, 97, 103, 115]⟩⟩
noncomputable def hN257 : Str := ⟨⟨[110, 97, 109, 101, 115]⟩⟩
noncomputable def hN258 : Str := ⟨⟨[105]⟩⟩
noncomputable def hN259 : Str := ⟨⟨[102, 108, 97, 103]⟩⟩
noncomputable def hN260 : Str := ⟨⟨[99, 112, 121, 51, 49, 51, 46, 100, 105, 115]⟩⟩
noncomputable def hN261 : Str := ⟨⟨[105, 116, 101, 114, 97, 116, 111, 114]⟩⟩
noncomputable def hN262 : Str := ⟨⟨[98]⟩⟩
noncomputable def hN263 : Str := ⟨⟨[118, 97, 108]⟩⟩
noncomputable def hN264 : Str := ⟨⟨[99, 112, 121, 51, 49, 51, 46, 110, 101, 116, 114, 99]⟩⟩
noncomputable def hN265 : Str := ⟨⟨[95, 95, 113, 117, 97, 108, 110, 97, 109, 101, 95, 95]⟩⟩
noncomputable def hN266 : Str := ⟨⟨[95, 114, 101, 97, 100, 95, 99, 104, 97, 114]⟩⟩
noncomputable def hN267 : Str := ⟨⟨[103, 101, 116, 95, 116, 111, 107, 101, 110]⟩⟩
noncomputable def hN268 : Str := ⟨⟨[112, 117, 115, 104, 95, 116, 111, 107, 101, 110]⟩⟩
noncomputable def hN269 : Str := ⟨⟨[115, 101, 108, 102]⟩⟩
noncomputable def hN270 : Str := ⟨⟨[102, 112]⟩⟩
noncomputable def hN271 : Str := ⟨⟨[95, 110, 101, 116, 114, 99, 108, 101, 120, 46, 95, 95, 105, 110, 105, 116, 95, 95]⟩⟩
noncomputable def hN272 : Str := ⟨⟨[99, 104]⟩⟩
noncomputable def hN273 : Str := ⟨⟨[95, 110, 101, 116, 114, 99, 108, 101, 120, 46, 95, 114, 101, 97, 100, 95, 99, 104, 97, 114]⟩⟩
noncomputable def hN274 : Str := ⟨⟨[116, 111, 107, 101, 110]⟩⟩
noncomputable def hN275 : Str := ⟨⟨[102, 105, 116, 101, 114]⟩⟩
noncomputable def hN276 : Str := ⟨⟨[95, 110, 101, 116, 114, 99, 108, 101, 120, 46, 103, 101, 116, 95, 116, 111, 107, 101, 110]⟩⟩
noncomputable def hN277 : Str := ⟨⟨[95, 110, 101, 116, 114, 99, 108, 101, 120, 46, 112, 117, 115, 104, 95, 116, 111, 107, 101, 110]⟩⟩
noncomputable def hN278 : Str := ⟨⟨[105, 110, 115, 116, 114, 101, 97, 109]⟩⟩
noncomputable def hN279 : Str := ⟨⟨[108, 105, 110, 101, 110, 111]⟩⟩
noncomputable def hN280 : Str := ⟨⟨[112, 117, 115, 104, 98, 97, 99, 107]⟩⟩
noncomputable def hN281 : Str := ⟨⟨[119, 104, 105, 116, 101, 115, 112, 97, 99, 101]⟩⟩
noncomputable def hN282 : Str := ⟨⟨[91, 92, 120, 48, 48, 45, 92, 120, 49, 70, 92, 120, 55, 70, 93]⟩⟩
noncomputable def hN283 : Str := ⟨⟨[91, 92, 120, 48, 48, 45, 92, 120, 48, 56, 92, 120, 48, 65, 45, 92, 120, 49, 70, 92, 120, 55, 70, 93]⟩⟩
noncomputable def hN284 : Str := ⟨⟨[99, 112, 121, 51, 49, 51, 46, 119, 115, 103, 105, 114, 101, 102, 46, 104, 101, 97, 100, 101, 114, 115]⟩⟩
noncomputable def hN285 : Str := ⟨⟨[95, 99, 111, 110, 118, 101, 114, 116, 95, 115, 116, 114, 105, 110, 103, 95, 116, 121, 112, 101]⟩⟩
noncomputable def hN286 : Str := ⟨⟨[95, 95, 108, 101, 110, 95, 95]⟩⟩
noncomputable def hN287 : Str := ⟨⟨[95, 95, 115, 101, 116, 105, 116, 101, 109, 95, 95]⟩⟩
noncomputable def hN288 : Str := ⟨⟨[95, 95, 100, 101, 108, 105, 116, 101, 109, 95, 95]⟩⟩
noncomputable def hN289 : Str := ⟨⟨[95, 95, 103, 101, 116, 105, 116, 101, 109, 95, 95]⟩⟩
noncomputable def hN290 : Str := ⟨⟨[95, 95, 99, 111, 110, 116, 97, 105, 110, 115, 95, 95]⟩⟩
noncomputable def hN291 : Str := ⟨⟨[103, 101, 116, 95, 97, 108, 108]⟩⟩
noncomputable def hN292 : Str := ⟨⟨[103, 101, 116]⟩⟩
noncomputable def hN293 : Str := ⟨⟨[107, 101, 121, 115]⟩⟩
noncomputable def hN294 : Str := ⟨⟨[118, 97, 108, 117, 101, 115]⟩⟩
noncomputable def hN295 : Str := ⟨⟨[105, 116, 101, 109, 115]⟩⟩
noncomputable def hN296 : Str := ⟨⟨[95, 95, 115, 116, 114, 95, 95]⟩⟩
noncomputable def hN297 : Str := ⟨⟨[95, 95, 98, 121, 116, 101, 115, 95, 95]⟩⟩
noncomputable def hN298 : Str := ⟨⟨[115, 101, 116, 100, 101, 102, 97, 117, 108, 116]⟩⟩
noncomputable def hN299 : Str := ⟨⟨[97, 100, 100, 95, 104, 101, 97, 100, 101, 114]⟩⟩
noncomputable def hN300 : Str := ⟨⟨[104, 101, 97, 100, 101, 114, 115]⟩⟩
noncomputable def hN301 : Str := ⟨⟨[118]⟩⟩
noncomputable def hN302 : Str := ⟨⟨[72, 101, 97, 100, 101, 114, 115, 46, 95, 95, 105, 110, 105, 116, 95, 95]⟩⟩
noncomputable def hN303 : Str := ⟨⟨[118, 97, 108, 117, 101]⟩⟩
noncomputable def hN304 : Str := ⟨⟨[114, 101, 103, 101, 120]⟩⟩
noncomputable def hN305 : Str := ⟨⟨[72, 101, 97, 100, 101, 114, 115, 46, 95, 99, 111, 110, 118, 101, 114, 116, 95, 115, 116, 114, 105, 110, 103, 95, 116, 121, 112, 101]⟩⟩
noncomputable def hN306 : Str := ⟨⟨[72, 101, 97, 100, 101, 114, 115, 46, 95, 95, 108, 101, 110, 95, 95]⟩⟩
noncomputable def hN307 : Str := ⟨⟨[72, 101, 97, 100, 101, 114, 115, 46, 95, 95, 115, 101, 116, 105, 116, 101, 109, 95, 95]⟩⟩
noncomputable def hN308 : Str := ⟨⟨[72, 101, 97, 100, 101, 114, 115, 46, 95, 95, 100, 101, 108, 105, 116, 101, 109, 95, 95]⟩⟩
noncomputable def hN309 : Str := ⟨⟨[72, 101, 97, 100, 101, 114, 115, 46, 95, 95, 103, 101, 116, 105, 116, 101, 109, 95, 95]⟩⟩
noncomputable def hN310 : Str := ⟨⟨[72, 101, 97, 100, 101, 114, 115, 46, 95, 95, 99, 111, 110, 116, 97, 105, 110, 115, 95, 95]⟩⟩
noncomputable def hN311 : Str := ⟨⟨[72, 101, 97, 100, 101, 114, 115, 46, 103, 101, 116, 95, 97, 108, 108]⟩⟩
noncomputable def hN312 : Str := ⟨⟨[100, 101, 102, 97, 117, 108, 116]⟩⟩
noncomputable def hN313 : Str := ⟨⟨[72, 101, 97, 100, 101, 114, 115, 46, 103, 101, 116]⟩⟩
noncomputable def hN314 : Str := ⟨⟨[72, 101, 97, 100, 101, 114, 115, 46, 107, 101, 121, 115]⟩⟩
noncomputable def hN315 : Str := ⟨⟨[72, 101, 97, 100, 101, 114, 115, 46, 118, 97, 108, 117, 101, 115]⟩⟩
noncomputable def hN316 : Str := ⟨⟨[72, 101, 97, 100, 101, 114, 115, 46, 105, 116, 101, 109, 115]⟩⟩
noncomputable def hN317 : Str := ⟨⟨[72, 101, 97, 100, 101, 114, 115, 46, 95, 95, 114, 101, 112, 114, 95, 95]⟩⟩
noncomputable def hN318 : Str := ⟨⟨[72, 101, 97, 100, 101, 114, 115, 46, 95, 95, 115, 116, 114, 95, 95]⟩⟩
noncomputable def hN319 : Str := ⟨⟨[72, 101, 97, 100, 101, 114, 115, 46, 95, 95, 98, 121, 116, 101, 115, 95, 95]⟩⟩
noncomputable def hN320 : Str := ⟨⟨[114, 101, 115, 117, 108, 116]⟩⟩
noncomputable def hN321 : Str := ⟨⟨[72, 101, 97, 100, 101, 114, 115, 46, 115, 101, 116, 100, 101, 102, 97, 117, 108, 116]⟩⟩
noncomputable def hN322 : Str := ⟨⟨[95, 110, 97, 109, 101]⟩⟩
noncomputable def hN323 : Str := ⟨⟨[95, 118, 97, 108, 117, 101]⟩⟩
noncomputable def hN324 : Str := ⟨⟨[95, 112, 97, 114, 97, 109, 115]⟩⟩
noncomputable def hN325 : Str := ⟨⟨[72, 101, 97, 100, 101, 114, 115, 46, 97, 100, 100, 95, 104, 101, 97, 100, 101, 114]⟩⟩
noncomputable def hN326 : Str := ⟨⟨[95, 104, 101, 97, 100, 101, 114, 115]⟩⟩
noncomputable def hN327 : Str := ⟨⟨[116, 101, 120, 116]⟩⟩
noncomputable def hN328 : Str := ⟨⟨[95, 108, 97, 119, 95, 116, 97, 107, 101]⟩⟩
noncomputable def hN329 : Str := ⟨⟨[115, 116, 114, 101, 97, 109]⟩⟩
noncomputable def hN330 : Str := ⟨⟨[115, 105, 103, 110, 115]⟩⟩
noncomputable def hN331 : Str := ⟨⟨[119, 111, 114, 100]⟩⟩
noncomputable def hN332 : Str := ⟨⟨[113, 117, 111, 116, 101, 100]⟩⟩
noncomputable def hN333 : Str := ⟨⟨[110, 117, 109, 98, 101, 114]⟩⟩
noncomputable def hN334 : Str := ⟨⟨[108, 111, 119]⟩⟩
noncomputable def hN335 : Str := ⟨⟨[119, 111, 114, 100, 115]⟩⟩
noncomputable def hN336 : Str := ⟨⟨[112, 97, 114, 116, 115]⟩⟩
noncomputable def hN337 : Str := ⟨⟨[108, 101, 120, 101, 114]⟩⟩
noncomputable def hN338 : Str := ⟨⟨[111, 114, 100, 101, 114]⟩⟩
noncomputable def hN339 : Str := ⟨⟨[98, 111, 97, 114, 100]⟩⟩
noncomputable def hN340 : Str := ⟨⟨[116, 117, 114, 110]⟩⟩
noncomputable def hN341 : Str := ⟨⟨[99, 111, 117, 110, 116]⟩⟩
noncomputable def hN342 : Str := ⟨⟨[108, 111, 119, 101, 114]⟩⟩
noncomputable def hO0 (P : Params) : Obj := ⟨(.type "dict"), none, (.dict ⟨[⟨(PyData.keyHash P hN0), (.str hN0 1), (.str hN1 160)⟩, ⟨(PyData.keyHash P hN2), (.str hN2 2), (.builtin "builtins.__doc__:str#opaque")⟩, ⟨(PyData.keyHash P hN3), (.str hN3 3), (.builtin "builtins.__package__:str#opaque")⟩, ⟨(PyData.keyHash P hN4), (.str hN4 4), (.builtin "builtins.__loader__:shared#opaque")⟩, ⟨(PyData.keyHash P hN5), (.str hN5 5), (.builtin "builtins.__spec__#opaque")⟩, ⟨(PyData.keyHash P hN6), (.str hN6 6), (.builtin "__build_class__")⟩, ⟨(PyData.keyHash P hN7), (.str hN7 7), (.builtin "__import__")⟩, ⟨(PyData.keyHash P hN8), (.str hN8 8), (.builtin "abs")⟩, ⟨(PyData.keyHash P hN9), (.str hN9 9), (.builtin "all")⟩, ⟨(PyData.keyHash P hN10), (.str hN10 10), (.builtin "any")⟩, ⟨(PyData.keyHash P hN11), (.str hN11 11), (.builtin "ascii")⟩, ⟨(PyData.keyHash P hN12), (.str hN12 12), (.builtin "bin")⟩, ⟨(PyData.keyHash P hN13), (.str hN13 13), (.builtin "breakpoint")⟩, ⟨(PyData.keyHash P hN14), (.str hN14 14), (.builtin "callable")⟩, ⟨(PyData.keyHash P hN15), (.str hN15 15), (.builtin "chr")⟩, ⟨(PyData.keyHash P hN16), (.str hN16 16), (.builtin "compile")⟩, ⟨(PyData.keyHash P hN17), (.str hN17 17), (.builtin "delattr")⟩, ⟨(PyData.keyHash P hN18), (.str hN18 18), (.builtin "dir")⟩, ⟨(PyData.keyHash P hN19), (.str hN19 19), (.builtin "divmod")⟩, ⟨(PyData.keyHash P hN20), (.str hN20 20), (.builtin "eval")⟩, ⟨(PyData.keyHash P hN21), (.str hN21 21), (.builtin "exec")⟩, ⟨(PyData.keyHash P hN22), (.str hN22 22), (.builtin "format")⟩, ⟨(PyData.keyHash P hN23), (.str hN23 23), (.builtin "getattr")⟩, ⟨(PyData.keyHash P hN24), (.str hN24 24), (.builtin "globals")⟩, ⟨(PyData.keyHash P hN25), (.str hN25 25), (.builtin "hasattr")⟩, ⟨(PyData.keyHash P hN26), (.str hN26 26), (.builtin "hash")⟩, ⟨(PyData.keyHash P hN27), (.str hN27 27), (.builtin "hex")⟩, ⟨(PyData.keyHash P hN28), (.str hN28 28), (.builtin "id")⟩, ⟨(PyData.keyHash P hN29), (.str hN29 29), (.builtin "input")⟩, ⟨(PyData.keyHash P hN30), (.str hN30 30), (.builtin "isinstance")⟩, ⟨(PyData.keyHash P hN31), (.str hN31 31), (.builtin "issubclass")⟩, ⟨(PyData.keyHash P hN32), (.str hN32 32), (.builtin "iter")⟩, ⟨(PyData.keyHash P hN33), (.str hN33 33), (.builtin "aiter")⟩, ⟨(PyData.keyHash P hN34), (.str hN34 34), (.builtin "len")⟩, ⟨(PyData.keyHash P hN35), (.str hN35 35), (.builtin "locals")⟩, ⟨(PyData.keyHash P hN36), (.str hN36 36), (.builtin "max")⟩, ⟨(PyData.keyHash P hN37), (.str hN37 37), (.builtin "min")⟩, ⟨(PyData.keyHash P hN38), (.str hN38 38), (.builtin "next")⟩, ⟨(PyData.keyHash P hN39), (.str hN39 39), (.builtin "anext")⟩, ⟨(PyData.keyHash P hN40), (.str hN40 40), (.builtin "oct")⟩, ⟨(PyData.keyHash P hN41), (.str hN41 41), (.builtin "ord")⟩, ⟨(PyData.keyHash P hN42), (.str hN42 42), (.builtin "pow")⟩, ⟨(PyData.keyHash P hN43), (.str hN43 43), (.builtin "print")⟩, ⟨(PyData.keyHash P hN44), (.str hN44 44), (.builtin "repr")⟩, ⟨(PyData.keyHash P hN45), (.str hN45 45), (.builtin "round")⟩, ⟨(PyData.keyHash P hN46), (.str hN46 46), (.builtin "setattr")⟩, ⟨(PyData.keyHash P hN47), (.str hN47 47), (.builtin "sorted")⟩, ⟨(PyData.keyHash P hN48), (.str hN48 48), (.builtin "sum")⟩, ⟨(PyData.keyHash P hN49), (.str hN49 49), (.builtin "vars")⟩, ⟨(PyData.keyHash P hN50), (.str hN50 50), .none⟩, ⟨(PyData.keyHash P hN51), (.str hN51 51), .ellipsis⟩, ⟨(PyData.keyHash P hN52), (.str hN52 52), .notImplemented⟩, ⟨(PyData.keyHash P hN53), (.str hN53 53), (.bool false)⟩, ⟨(PyData.keyHash P hN54), (.str hN54 54), (.bool true)⟩, ⟨(PyData.keyHash P hN55), (.str hN55 55), (.type "bool")⟩, ⟨(PyData.keyHash P hN56), (.str hN56 56), (.type "memoryview")⟩, ⟨(PyData.keyHash P hN57), (.str hN57 57), (.type "bytearray")⟩, ⟨(PyData.keyHash P hN58), (.str hN58 58), (.type "bytes")⟩, ⟨(PyData.keyHash P hN59), (.str hN59 59), (.type "classmethod")⟩, ⟨(PyData.keyHash P hN60), (.str hN60 60), (.type "complex")⟩, ⟨(PyData.keyHash P hN61), (.str hN61 61), (.type "dict")⟩, ⟨(PyData.keyHash P hN62), (.str hN62 62), (.type "enumerate")⟩, ⟨(PyData.keyHash P hN63), (.str hN63 63), (.type "filter")⟩, ⟨(PyData.keyHash P hN64), (.str hN64 64), (.type "float")⟩, ⟨(PyData.keyHash P hN65), (.str hN65 65), (.type "frozenset")⟩, ⟨(PyData.keyHash P hN66), (.str hN66 66), (.type "property")⟩, ⟨(PyData.keyHash P hN67), (.str hN67 67), (.type "int")⟩, ⟨(PyData.keyHash P hN68), (.str hN68 68), (.type "list")⟩, ⟨(PyData.keyHash P hN69), (.str hN69 69), (.type "map")⟩, ⟨(PyData.keyHash P hN70), (.str hN70 70), (.type "object")⟩, ⟨(PyData.keyHash P hN71), (.str hN71 71), (.type "range")⟩, ⟨(PyData.keyHash P hN72), (.str hN72 72), (.type "reversed")⟩, ⟨(PyData.keyHash P hN73), (.str hN73 73), (.type "set")⟩, ⟨(PyData.keyHash P hN74), (.str hN74 74), (.type "slice")⟩, ⟨(PyData.keyHash P hN75), (.str hN75 75), (.type "staticmethod")⟩, ⟨(PyData.keyHash P hN76), (.str hN76 76), (.type "str")⟩, ⟨(PyData.keyHash P hN77), (.str hN77 77), (.type "super")⟩, ⟨(PyData.keyHash P hN78), (.str hN78 78), (.type "tuple")⟩, ⟨(PyData.keyHash P hN79), (.str hN79 79), (.type "type")⟩, ⟨(PyData.keyHash P hN80), (.str hN80 80), (.type "zip")⟩, ⟨(PyData.keyHash P hN81), (.str hN81 81), (.bool true)⟩, ⟨(PyData.keyHash P hN82), (.str hN82 82), (.type "BaseException")⟩, ⟨(PyData.keyHash P hN83), (.str hN83 83), (.type "BaseExceptionGroup")⟩, ⟨(PyData.keyHash P hN84), (.str hN84 84), (.type "Exception")⟩, ⟨(PyData.keyHash P hN85), (.str hN85 85), (.type "GeneratorExit")⟩, ⟨(PyData.keyHash P hN86), (.str hN86 86), (.type "KeyboardInterrupt")⟩, ⟨(PyData.keyHash P hN87), (.str hN87 87), (.type "SystemExit")⟩, ⟨(PyData.keyHash P hN88), (.str hN88 88), (.type "ArithmeticError")⟩, ⟨(PyData.keyHash P hN89), (.str hN89 89), (.type "AssertionError")⟩, ⟨(PyData.keyHash P hN90), (.str hN90 90), (.type "AttributeError")⟩, ⟨(PyData.keyHash P hN91), (.str hN91 91), (.type "BufferError")⟩, ⟨(PyData.keyHash P hN92), (.str hN92 92), (.type "EOFError")⟩, ⟨(PyData.keyHash P hN93), (.str hN93 93), (.type "ImportError")⟩, ⟨(PyData.keyHash P hN94), (.str hN94 94), (.type "LookupError")⟩, ⟨(PyData.keyHash P hN95), (.str hN95 95), (.type "MemoryError")⟩, ⟨(PyData.keyHash P hN96), (.str hN96 96), (.type "NameError")⟩, ⟨(PyData.keyHash P hN97), (.str hN97 97), (.type "OSError")⟩, ⟨(PyData.keyHash P hN98), (.str hN98 98), (.type "ReferenceError")⟩, ⟨(PyData.keyHash P hN99), (.str hN99 99), (.type "RuntimeError")⟩, ⟨(PyData.keyHash P hN100), (.str hN100 100), (.type "StopAsyncIteration")⟩, ⟨(PyData.keyHash P hN101), (.str hN101 101), (.type "StopIteration")⟩, ⟨(PyData.keyHash P hN102), (.str hN102 102), (.type "SyntaxError")⟩, ⟨(PyData.keyHash P hN103), (.str hN103 103), (.type "SystemError")⟩, ⟨(PyData.keyHash P hN104), (.str hN104 104), (.type "TypeError")⟩, ⟨(PyData.keyHash P hN105), (.str hN105 105), (.type "ValueError")⟩, ⟨(PyData.keyHash P hN106), (.str hN106 106), (.type "Warning")⟩, ⟨(PyData.keyHash P hN107), (.str hN107 107), (.type "FloatingPointError")⟩, ⟨(PyData.keyHash P hN108), (.str hN108 108), (.type "OverflowError")⟩, ⟨(PyData.keyHash P hN109), (.str hN109 109), (.type "ZeroDivisionError")⟩, ⟨(PyData.keyHash P hN110), (.str hN110 110), (.type "BytesWarning")⟩, ⟨(PyData.keyHash P hN111), (.str hN111 111), (.type "DeprecationWarning")⟩, ⟨(PyData.keyHash P hN112), (.str hN112 112), (.type "EncodingWarning")⟩, ⟨(PyData.keyHash P hN113), (.str hN113 113), (.type "FutureWarning")⟩, ⟨(PyData.keyHash P hN114), (.str hN114 114), (.type "ImportWarning")⟩, ⟨(PyData.keyHash P hN115), (.str hN115 115), (.type "PendingDeprecationWarning")⟩, ⟨(PyData.keyHash P hN116), (.str hN116 116), (.type "ResourceWarning")⟩, ⟨(PyData.keyHash P hN117), (.str hN117 117), (.type "RuntimeWarning")⟩, ⟨(PyData.keyHash P hN118), (.str hN118 118), (.type "SyntaxWarning")⟩, ⟨(PyData.keyHash P hN119), (.str hN119 119), (.type "UnicodeWarning")⟩, ⟨(PyData.keyHash P hN120), (.str hN120 120), (.type "UserWarning")⟩, ⟨(PyData.keyHash P hN121), (.str hN121 121), (.type "BlockingIOError")⟩, ⟨(PyData.keyHash P hN122), (.str hN122 122), (.type "ChildProcessError")⟩, ⟨(PyData.keyHash P hN123), (.str hN123 123), (.type "ConnectionError")⟩, ⟨(PyData.keyHash P hN124), (.str hN124 124), (.type "FileExistsError")⟩, ⟨(PyData.keyHash P hN125), (.str hN125 125), (.type "FileNotFoundError")⟩, ⟨(PyData.keyHash P hN126), (.str hN126 126), (.type "InterruptedError")⟩, ⟨(PyData.keyHash P hN127), (.str hN127 127), (.type "IsADirectoryError")⟩, ⟨(PyData.keyHash P hN128), (.str hN128 128), (.type "NotADirectoryError")⟩, ⟨(PyData.keyHash P hN129), (.str hN129 129), (.type "PermissionError")⟩, ⟨(PyData.keyHash P hN130), (.str hN130 130), (.type "ProcessLookupError")⟩, ⟨(PyData.keyHash P hN131), (.str hN131 131), (.type "TimeoutError")⟩, ⟨(PyData.keyHash P hN132), (.str hN132 132), (.type "IndentationError")⟩, ⟨(PyData.keyHash P hN133), (.str hN133 133), (.type "_IncompleteInputError")⟩, ⟨(PyData.keyHash P hN134), (.str hN134 134), (.type "IndexError")⟩, ⟨(PyData.keyHash P hN135), (.str hN135 135), (.type "KeyError")⟩, ⟨(PyData.keyHash P hN136), (.str hN136 136), (.type "ModuleNotFoundError")⟩, ⟨(PyData.keyHash P hN137), (.str hN137 137), (.type "NotImplementedError")⟩, ⟨(PyData.keyHash P hN138), (.str hN138 138), (.type "PythonFinalizationError")⟩, ⟨(PyData.keyHash P hN139), (.str hN139 139), (.type "RecursionError")⟩, ⟨(PyData.keyHash P hN140), (.str hN140 140), (.type "UnboundLocalError")⟩, ⟨(PyData.keyHash P hN141), (.str hN141 141), (.type "UnicodeError")⟩, ⟨(PyData.keyHash P hN142), (.str hN142 142), (.type "BrokenPipeError")⟩, ⟨(PyData.keyHash P hN143), (.str hN143 143), (.type "ConnectionAbortedError")⟩, ⟨(PyData.keyHash P hN144), (.str hN144 144), (.type "ConnectionRefusedError")⟩, ⟨(PyData.keyHash P hN145), (.str hN145 145), (.type "ConnectionResetError")⟩, ⟨(PyData.keyHash P hN146), (.str hN146 146), (.type "TabError")⟩, ⟨(PyData.keyHash P hN147), (.str hN147 147), (.type "UnicodeDecodeError")⟩, ⟨(PyData.keyHash P hN148), (.str hN148 148), (.type "UnicodeEncodeError")⟩, ⟨(PyData.keyHash P hN149), (.str hN149 149), (.type "UnicodeTranslateError")⟩, ⟨(PyData.keyHash P hN150), (.str hN150 150), (.type "ExceptionGroup")⟩, ⟨(PyData.keyHash P hN151), (.str hN151 151), (.type "OSError")⟩, ⟨(PyData.keyHash P hN152), (.str hN152 152), (.type "OSError")⟩, ⟨(PyData.keyHash P hN153), (.str hN153 153), (.builtin "open")⟩, ⟨(PyData.keyHash P hN154), (.str hN154 154), (.builtin "builtins.quit#opaque")⟩, ⟨(PyData.keyHash P hN155), (.str hN155 155), (.builtin "builtins.exit#opaque")⟩, ⟨(PyData.keyHash P hN156), (.str hN156 156), (.builtin "builtins.copyright#opaque")⟩, ⟨(PyData.keyHash P hN157), (.str hN157 157), (.builtin "builtins.credits#opaque")⟩, ⟨(PyData.keyHash P hN158), (.str hN158 158), (.builtin "builtins.license#opaque")⟩, ⟨(PyData.keyHash P hN159), (.str hN159 159), (.builtin "builtins.help#opaque")⟩]⟩ 159), ⟨[]⟩⟩
noncomputable def hO1 (P : Params) : Obj := ⟨(.type "dict"), none, (.dict ⟨[⟨(PyData.keyHash P hN1), (.str hN1 162), (.ref 4)⟩, ⟨(PyData.keyHash P hN160), (.str hN160 163), (.ref 5)⟩, ⟨(PyData.keyHash P hN161), (.str hN161 244), (.ref 12)⟩]⟩ 3), ⟨[]⟩⟩
noncomputable def hO2 (P : Params) : Obj := ⟨.none, none, (.dict ⟨[⟨(PyData.keyHash P hN162), (.str hN162 183), (.bool true)⟩, ⟨(PyData.keyHash P hN163), (.str hN163 185), (.ref 14)⟩, ⟨(PyData.keyHash P hN164), (.str hN164 206), (.ref 18)⟩, ⟨(PyData.keyHash P hN165), (.str hN165 216), (.ref 22)⟩, ⟨(PyData.keyHash P hN166), (.str hN166 245), (.int 3 0)⟩, ⟨(PyData.keyHash P hN167), (.str hN167 270), (.bool true)⟩, ⟨(PyData.keyHash P hN168), (.str hN168 272), (.ref 27)⟩, ⟨(PyData.keyHash P hN169), (.str hN169 0), (.str hN170 0)⟩, ⟨(PyData.keyHash P hN171), (.str hN171 273), (.str hN172 0)⟩]⟩ 9), ⟨[]⟩⟩
noncomputable def hO3 (P : Params) : Obj := ⟨(.type "dict"), none, (.dict ⟨[⟨(PyData.keyHash P hN0), (.str hN0 165), (.str hN173 620)⟩, ⟨(PyData.keyHash P hN2), (.str hN2 166), .none⟩, ⟨(PyData.keyHash P hN3), (.str hN3 167), .none⟩, ⟨(PyData.keyHash P hN4), (.str hN4 168), (.builtin "__main__.__loader__#opaque")⟩, ⟨(PyData.keyHash P hN5), (.str hN5 169), .none⟩, ⟨(PyData.keyHash P hN174), (.str hN174 170), (.ref 6)⟩, ⟨(PyData.keyHash P hN175), (.str hN175 171), (.ref 4)⟩, ⟨(PyData.keyHash P hN176), (.str hN176 173), (.str hN177 172)⟩, ⟨(PyData.keyHash P hN178), (.str hN178 174), .none⟩, ⟨(PyData.keyHash P hN161), (.str hN161 275), (.ref 12)⟩, ⟨(PyData.keyHash P hN179), (.str hN179 288), (.ref 38)⟩, ⟨(PyData.keyHash P hN180), (.str hN180 321), (.ref 39)⟩, ⟨(PyData.keyHash P hN181), (.str hN181 331), (.ref 46)⟩, ⟨(PyData.keyHash P hN182), (.str hN182 340), (.ref 53)⟩, ⟨(PyData.keyHash P hN183), (.str hN183 400), (.ref 91)⟩, ⟨(PyData.keyHash P hN184), (.str hN184 428), (.ref 100)⟩, ⟨(PyData.keyHash P hN185), (.str hN185 462), (.ref 105)⟩, ⟨(PyData.keyHash P hN186), (.str hN186 619), (.ref 228)⟩, ⟨(PyData.keyHash P hN187), (.str hN187 631), (.ref 239)⟩, ⟨(PyData.keyHash P hN188), (.str hN188 639), (.ref 246)⟩, ⟨(PyData.keyHash P hN189), (.str hN189 647), (.ref 253)⟩, ⟨(PyData.keyHash P hN190), (.str hN190 653), (.ref 258)⟩, ⟨(PyData.keyHash P hN191), (.str hN191 661), (.ref 265)⟩, ⟨(PyData.keyHash P hN192), (.str hN192 671), (.ref 272)⟩, ⟨(PyData.keyHash P hN193), (.str hN193 677), (.ref 277)⟩, ⟨(PyData.keyHash P hN194), (.str hN194 693), (.ref 284)⟩, ⟨(PyData.keyHash P hN195), (.str hN195 699), (.ref 289)⟩, ⟨(PyData.keyHash P hN196), (.str hN196 705), (.ref 294)⟩]⟩ 28), ⟨[]⟩⟩
noncomputable def hO4 (P : Params) : Obj := ⟨(.type "module"), (some 0), .plain, ⟨[]⟩⟩
noncomputable def hO5 (P : Params) : Obj := ⟨(.type "module"), (some 3), .plain, ⟨[]⟩⟩
noncomputable def hO6 (P : Params) : Obj := ⟨(.type "dict"), none, (.dict ⟨[]⟩ 0), ⟨[]⟩⟩
noncomputable def hO7 (P : Params) : Obj := ⟨(.type "tuple"), none, (.seq ⟨[]⟩ 0), ⟨[]⟩⟩
noncomputable def hO8 (P : Params) : Obj := ⟨.none, none, (.fields ⟨[]⟩), ⟨[]⟩⟩
noncomputable def hO9 (P : Params) : Obj := ⟨(.type "code"), none, (.fields ⟨[(.str hN197 176), (.str hN197 177), (.str hN177 178), (.int 1 0), (.int 0 0), (.int 0 0), (.int 0 0), (.int 0 0), (.ref 7), (.bool false), (.int 175 0), (.ref 8), .none, .none, .none, .none, (.int 179 0), (.int 1 0), (.str hN177 180)]⟩), ⟨[]⟩⟩
noncomputable def hO10 (P : Params) : Obj := ⟨(.type "frame"), none, .plain, ⟨[(some (.ref 9)), (some (.ref 3)), (some (.ref 3)), none, (some (.str hN160 164)), none, (some (.ref 0))]⟩⟩
noncomputable def hO11 (P : Params) : Obj := ⟨(.type "dict"), none, (.dict ⟨[⟨(PyData.keyHash P hN0), (.str hN0 247), (.str hN161 246)⟩, ⟨(PyData.keyHash P hN2), (.str hN2 248), .none⟩, ⟨(PyData.keyHash P hN3), (.str hN3 250), (.str hN198 249)⟩, ⟨(PyData.keyHash P hN4), (.str hN4 251), (.builtin "off-the-table:_sre.__loader__:shared#opaque")⟩, ⟨(PyData.keyHash P hN5), (.str hN5 252), (.builtin "off-the-table:_sre.__spec__:shared#opaque")⟩, ⟨(PyData.keyHash P hN16), (.str hN16 253), (.builtin "_sre.compile")⟩, ⟨(PyData.keyHash P hN199), (.str hN199 254), (.builtin "off-the-table:_sre.template:shared#opaque")⟩, ⟨(PyData.keyHash P hN200), (.str hN200 255), (.builtin "off-the-table:_sre.getcodesize:shared#opaque")⟩, ⟨(PyData.keyHash P hN201), (.str hN201 256), (.builtin "off-the-table:_sre.ascii_iscased:shared#opaque")⟩, ⟨(PyData.keyHash P hN202), (.str hN202 257), (.builtin "off-the-table:_sre.unicode_iscased:shared#opaque")⟩, ⟨(PyData.keyHash P hN203), (.str hN203 258), (.builtin "off-the-table:_sre.ascii_tolower:shared#opaque")⟩, ⟨(PyData.keyHash P hN204), (.str hN204 259), (.builtin "off-the-table:_sre.unicode_tolower:shared#opaque")⟩, ⟨(PyData.keyHash P hN205), (.str hN205 261), (.int 20230612 260)⟩, ⟨(PyData.keyHash P hN206), (.str hN206 263), (.int 4 262)⟩, ⟨(PyData.keyHash P hN207), (.str hN207 265), (.int 4294967295 264)⟩, ⟨(PyData.keyHash P hN208), (.str hN208 267), (.int 1073741823 266)⟩, ⟨(PyData.keyHash P hN156), (.str hN156 269), (.str hN209 268)⟩]⟩ 17), ⟨[]⟩⟩
noncomputable def hO12 (P : Params) : Obj := ⟨(.type "module"), (some 11), .plain, ⟨[]⟩⟩
noncomputable def hO13 (P : Params) : Obj := ⟨(.type "dict"), none, (.dict ⟨[⟨(PyData.keyHash P hN210), (.str hN210 189), (.str hN211 186)⟩, ⟨(PyData.keyHash P hN212), (.str hN212 190), (.int 971 187)⟩, ⟨(PyData.keyHash P hN2), (.str hN2 191), (.builtin "_frozen_importlib.BuiltinImporter.__doc__:str#opaque")⟩, ⟨(PyData.keyHash P hN213), (.str hN213 192), (.str hN214 188)⟩, ⟨(PyData.keyHash P hN215), (.str hN215 193), (.builtin "_frozen_importlib.BuiltinImporter.find_spec#opaque")⟩, ⟨(PyData.keyHash P hN216), (.str hN216 194), (.builtin "_frozen_importlib.BuiltinImporter.create_module#opaque")⟩, ⟨(PyData.keyHash P hN217), (.str hN217 195), (.builtin "_frozen_importlib.BuiltinImporter.exec_module#opaque")⟩, ⟨(PyData.keyHash P hN218), (.str hN218 196), (.builtin "_frozen_importlib.BuiltinImporter.get_code#opaque")⟩, ⟨(PyData.keyHash P hN219), (.str hN219 197), (.builtin "_frozen_importlib.BuiltinImporter.get_source#opaque")⟩, ⟨(PyData.keyHash P hN220), (.str hN220 198), (.builtin "_frozen_importlib.BuiltinImporter.is_package#opaque")⟩, ⟨(PyData.keyHash P hN221), (.str hN221 199), (.builtin "_frozen_importlib.BuiltinImporter.load_module#opaque")⟩, ⟨(PyData.keyHash P hN222), (.str hN222 200), (.ref 15)⟩, ⟨(PyData.keyHash P hN223), (.str hN223 202), (.ref 16)⟩, ⟨(PyData.keyHash P hN224), (.str hN224 204), (.ref 17)⟩]⟩ 14), ⟨[]⟩⟩
noncomputable def hO14 (P : Params) : Obj := ⟨(.type "type"), none, (.cls ⟨hN225, [(.type "object")], [(.ref 14), (.type "object")], 13, hN225, true, [], [], false, none, false⟩), ⟨[]⟩⟩
noncomputable def hO15 (P : Params) : Obj := ⟨(.type "tuple"), none, (.seq ⟨[]⟩ 0), ⟨[]⟩⟩
noncomputable def hO16 (P : Params) : Obj := ⟨(.type "getset_descriptor"), none, (.fields ⟨[(.str hN223 201), (.ref 14), (.builtin "function.__dict__"), (.builtin "function.__dict__#set")]⟩), ⟨[]⟩⟩
noncomputable def hO17 (P : Params) : Obj := ⟨(.type "getset_descriptor"), none, (.fields ⟨[(.str hN224 203), (.ref 14), (.builtin "ExceptionGroup.__weakref__"), .none]⟩), ⟨[]⟩⟩
noncomputable def hO18 (P : Params) : Obj := ⟨.none, none, (.seq ⟨[(.int 13 0), (.str hN226 0), (.bool true), (.bool true), (.str hN198 205), (.int 21 0), (.str hN227 0), (.bool true), (.bool true), (.str hN198 242)]⟩ 1), ⟨[]⟩⟩
noncomputable def hO19 (P : Params) : Obj := ⟨(.type "list"), none, (.seq ⟨[]⟩ 0), ⟨[]⟩⟩
noncomputable def hO20 (P : Params) : Obj := ⟨(.type "dict"), none, (.dict ⟨[⟨(PyData.keyHash P hN228), (.str hN228 208), (.str hN161 207)⟩, ⟨(PyData.keyHash P hN229), (.str hN229 209), (.ref 14)⟩, ⟨(PyData.keyHash P hN230), (.str hN230 210), (.str hN214 184)⟩, ⟨(PyData.keyHash P hN231), (.str hN231 211), .none⟩, ⟨(PyData.keyHash P hN232), (.str hN232 212), .none⟩, ⟨(PyData.keyHash P hN233), (.str hN233 213), (.ref 19)⟩, ⟨(PyData.keyHash P hN234), (.str hN234 214), (.bool false)⟩, ⟨(PyData.keyHash P hN235), (.str hN235 215), .none⟩, ⟨(PyData.keyHash P hN236), (.str hN236 243), (.bool false)⟩]⟩ 9), ⟨[]⟩⟩
noncomputable def hO21 (P : Params) : Obj := ⟨(.type "dict"), none, (.dict ⟨[⟨(PyData.keyHash P hN210), (.str hN210 227), (.str hN211 217)⟩, ⟨(PyData.keyHash P hN212), (.str hN212 228), (.int 562 218)⟩, ⟨(PyData.keyHash P hN2), (.str hN2 229), (.builtin "_frozen_importlib.ModuleSpec.__doc__:str#opaque")⟩, ⟨(PyData.keyHash P hN237), (.str hN237 230), (.builtin "_frozen_importlib.ModuleSpec.__init__#opaque")⟩, ⟨(PyData.keyHash P hN238), (.str hN238 231), (.builtin "_frozen_importlib.ModuleSpec.__repr__#opaque")⟩, ⟨(PyData.keyHash P hN239), (.str hN239 232), (.builtin "_frozen_importlib.ModuleSpec.__eq__#opaque")⟩, ⟨(PyData.keyHash P hN240), (.str hN240 233), (.builtin "_frozen_importlib.ModuleSpec.cached#opaque")⟩, ⟨(PyData.keyHash P hN241), (.str hN241 234), (.builtin "_frozen_importlib.ModuleSpec.parent#opaque")⟩, ⟨(PyData.keyHash P hN242), (.str hN242 235), (.builtin "_frozen_importlib.ModuleSpec.has_location#opaque")⟩, ⟨(PyData.keyHash P hN222), (.str hN222 236), (.ref 23)⟩, ⟨(PyData.keyHash P hN223), (.str hN223 238), (.ref 24)⟩, ⟨(PyData.keyHash P hN224), (.str hN224 240), (.ref 25)⟩, ⟨(PyData.keyHash P hN243), (.str hN243 241), .none⟩]⟩ 13), ⟨[]⟩⟩
noncomputable def hO22 (P : Params) : Obj := ⟨(.type "type"), none, (.cls ⟨hN244, [(.type "object")], [(.ref 22), (.type "object")], 21, hN244, true, [], [], false, none, false⟩), ⟨[]⟩⟩
noncomputable def hO23 (P : Params) : Obj := ⟨(.type "tuple"), none, (.seq ⟨[(.str hN235 219), (.str hN234 220), (.str hN233 221), (.str hN229 222), (.str hN231 223), (.str hN228 224), (.str hN230 225), (.str hN232 226)]⟩ 0), ⟨[]⟩⟩
noncomputable def hO24 (P : Params) : Obj := ⟨(.type "getset_descriptor"), none, (.fields ⟨[(.str hN223 237), (.ref 22), (.builtin "function.__dict__"), (.builtin "function.__dict__#set")]⟩), ⟨[]⟩⟩
noncomputable def hO25 (P : Params) : Obj := ⟨(.type "getset_descriptor"), none, (.fields ⟨[(.str hN224 239), (.ref 22), (.builtin "ExceptionGroup.__weakref__"), .none]⟩), ⟨[]⟩⟩
noncomputable def hO26 (P : Params) : Obj := ⟨(.ref 22), (some 20), .plain, ⟨[]⟩⟩
noncomputable def hO27 (P : Params) : Obj := ⟨.none, none, (.seq ⟨[(.int 11 0), (.str ⟨⟨[6, 247, 8, 95, 95, 110, 97, 109, 101, 95, 95, 6, 246, 4, 95, 115, 114, 101, 6, 248, 7, 95, 95, 100, 111, 99, 95, 95, 0, 6, 250, 11, 95, 95, 112, 97, 99, 107, 97, 103, 101, 95, 95, 6, 249, 0, 6, 251, 10, 95, 95, 108, 111, 97, 100, 101, 114, 95, 95, 4, 0, 0, 14, 6, 252, 8, 95, 95, 115, 112, 101, 99, 95, 95, 4, 0, 0, 26, 6, 253, 7, 99, 111, 109, 112, 105, 108, 101, 9, 12, 95, 115, 114, 101, 46, 99, 111, 109, 112, 105, 108, 101, 6, 254, 8, 116, 101, 109, 112, 108, 97, 116, 101, 9, 13, 95, 115, 114, 101, 46, 116, 101, 109, 112, 108, 97, 116, 101, 6, 255, 11, 103, 101, 116, 99, 111, 100, 101, 115, 105, 122, 101, 9, 16, 95, 115, 114, 101, 46, 103, 101, 116, 99, 111, 100, 101, 115, 105, 122, 101, 6, 256, 13, 97, 115, 99, 105, 105, 95, 105, 115, 99, 97, 115, 101, 100, 9, 18, 95, 115, 114, 101, 46, 97, 115, 99, 105, 105, 95, 105, 115, 99, 97, 115, 101, 100, 6, 257, 15, 117, 110, 105, 99, 111, 100, 101, 95, 105, 115, 99, 97, 115, 101, 100, 9, 20, 95, 115, 114, 101, 46, 117, 110, 105, 99, 111, 100, 101, 95, 105, 115, 99, 97, 115, 101, 100, 6, 258, 13, 97, 115, 99, 105, 105, 95, 116, 111, 108, 111, 119, 101, 114, 9, 18, 95, 115, 114, 101, 46, 97, 115, 99, 105, 105, 95, 116, 111, 108, 111, 119, 101, 114, 6, 259, 15, 117, 110, 105, 99, 111, 100, 101, 95, 116, 111, 108, 111, 119, 101, 114, 9, 20, 95, 115, 114, 101, 46, 117, 110, 105, 99, 111, 100, 101, 95, 116, 111, 108, 111, 119, 101, 114, 6, 261, 5, 77, 65, 71, 73, 67, 4, 260, 0, 20230612, 6, 263, 8, 67, 79, 68, 69, 83, 73, 90, 69, 4, 262, 0, 4, 6, 265, 9, 77, 65, 88, 82, 69, 80, 69, 65, 84, 4, 264, 0, 4294967295, 6, 267, 9, 77, 65, 88, 71, 82, 79, 85, 80, 83, 4, 266, 0, 1073741823, 6, 269, 9, 99, 111, 112, 121, 114, 105, 103, 104, 116, 6, 268, 53, 32, 83, 82, 69, 32, 50, 46, 50, 46, 50, 32, 67, 111, 112, 121, 114, 105, 103, 104, 116, 32, 40, 99, 41, 32, 49, 57, 57, 55, 45, 50, 48, 48, 50, 32, 98, 121, 32, 83, 101, 99, 114, 101, 116, 32, 76, 97, 98, 115, 32, 65, 66, 32]⟩⟩ 0), (.bool true), (.bool false), (.str hN161 271)]⟩ 0), ⟨[]⟩⟩
noncomputable def hO28 (P : Params) : Obj := ⟨(.type "tuple"), none, (.seq ⟨[]⟩ 0), ⟨[]⟩⟩
noncomputable def hO29 (P : Params) : Obj := ⟨.none, none, (.fields ⟨[(.int 2 0), (.int 0 0), (.ref 37), (.int 7 0), (.int 0 0), (.ref 45), (.int 19 0), (.int 0 0), (.ref 52), (.int 28 0), (.int 0 0), (.ref 59), (.int 74 0), (.int 0 0), (.ref 111), (.int 150 0), (.int 0 0), (.ref 238), (.int 160 0), (.int 0 0), (.ref 245), (.int 162 0), (.int 0 0), (.ref 252), (.int 165 0), (.int 0 0), (.ref 257), (.int 168 0), (.int 0 0), (.ref 264), (.int 171 0), (.int 0 0), (.ref 271), (.int 176 0), (.int 0 0), (.ref 276), (.int 178 0), (.int 0 0), (.ref 283), (.int 203 0), (.int 0 0), (.ref 288), (.int 210 0), (.int 0 0), (.ref 293)]⟩), ⟨[]⟩⟩
noncomputable def hO30 (P : Params) : Obj := ⟨(.type "code"), none, (.fields ⟨[(.str hN197 277), (.str hN197 278), (.str hN177 279), (.int 1 0), (.int 0 0), (.int 0 0), (.int 0 0), (.int 0 0), (.ref 28), (.bool false), (.int 276 0), (.ref 29), .none, .none, .none, .none, (.int 280 0), (.int 1 0), (.str hN177 281)]⟩), ⟨[]⟩⟩
noncomputable def hO31 (P : Params) : Obj := ⟨(.type "frame"), none, .plain, ⟨[(some (.ref 30)), (some (.ref 3)), (some (.ref 3)), none, (some (.str hN160 164)), none, (some (.ref 0))]⟩⟩
noncomputable def hO32 (P : Params) : Obj := ⟨(.type "tuple"), none, (.seq ⟨[]⟩ 0), ⟨[]⟩⟩
noncomputable def hO33 (P : Params) : Obj := ⟨.none, none, (.fields ⟨[]⟩), ⟨[]⟩⟩
noncomputable def hO34 (P : Params) : Obj := ⟨(.type "tuple"), none, (.seq ⟨[(.str hN245 285)]⟩ 0), ⟨[]⟩⟩
noncomputable def hO35 (P : Params) : Obj := ⟨(.type "tuple"), none, (.seq ⟨[]⟩ 0), ⟨[]⟩⟩
noncomputable def hO36 (P : Params) : Obj := ⟨.none, none, (.func ⟨hN179, hN179, (fnA (fnP 1 0 0)), (.stmts (fnB (fnP 1 0 0))), (fnS (fnP 1 0 0)), 0, [], .none, .none, .none, .none, none, .none, .none, 0⟩), ⟨[]⟩⟩
noncomputable def hO37 (P : Params) : Obj := ⟨(.type "code"), none, (.fields ⟨[(.str hN179 282), (.str hN179 283), (.str hN177 284), (.int 2 0), (.int 1 0), (.int 0 0), (.int 0 0), (.int 3 0), (.ref 32), (.bool true), (.int 276 0), (.ref 33), .none, (.ref 34), (.ref 35), (.ref 36), (.int 286 0), (.int 2 0), (.str hN177 287)]⟩), ⟨[]⟩⟩
noncomputable def hO38 (P : Params) : Obj := ⟨(.type "function"), none, (.func ⟨hN179, hN179, (fnA (fnP 1 0 0)), (.stmts (fnB (fnP 1 0 0))), (fnS (fnP 1 0 0)), 3, [], .none, .none, .none, (.str hN160 164), none, (.ref 37), .none, 0⟩), ⟨[]⟩⟩
noncomputable def hO39 (P : Params) : Obj := ⟨(.type "dict"), none, (.dict ⟨[⟨1, (.int 1 291), (.str hN246 292)⟩, ⟨2, (.int 2 293), (.str hN247 294)⟩, ⟨4, (.int 4 295), (.str hN248 296)⟩, ⟨8, (.int 8 297), (.str hN249 298)⟩, ⟨16, (.int 16 299), (.str hN250 300)⟩, ⟨32, (.int 32 301), (.str hN251 302)⟩, ⟨64, (.int 64 303), (.str hN252 304)⟩, ⟨128, (.int 128 305), (.str hN253 306)⟩, ⟨256, (.int 256 307), (.str hN254 308)⟩, ⟨512, (.int 512 309), (.str hN255 310)⟩]⟩ 10), ⟨[]⟩⟩
noncomputable def hO40 (P : Params) : Obj := ⟨(.type "tuple"), none, (.seq ⟨[]⟩ 0), ⟨[]⟩⟩
noncomputable def hO41 (P : Params) : Obj := ⟨.none, none, (.fields ⟨[]⟩), ⟨[]⟩⟩
noncomputable def hO42 (P : Params) : Obj := ⟨(.type "tuple"), none, (.seq ⟨[(.str hN256 325), (.str hN257 326), (.str hN258 327), (.str hN259 328)]⟩ 0), ⟨[]⟩⟩
noncomputable def hO43 (P : Params) : Obj := ⟨(.type "tuple"), none, (.seq ⟨[]⟩ 0), ⟨[]⟩⟩
noncomputable def hO44 (P : Params) : Obj := ⟨.none, none, (.func ⟨hN181, hN181, (fnA (fnP 4 0 0)), (.stmts (fnB (fnP 4 0 0))), (fnS (fnP 4 0 0)), 0, [], .none, .none, .none, .none, none, .none, .none, 0⟩), ⟨[]⟩⟩
noncomputable def hO45 (P : Params) : Obj := ⟨(.type "code"), none, (.fields ⟨[(.str hN181 322), (.str hN181 323), (.str hN177 324), (.int 7 0), (.int 1 0), (.int 0 0), (.int 0 0), (.int 3 0), (.ref 40), (.bool true), (.int 276 0), (.ref 41), .none, (.ref 42), (.ref 43), (.ref 44), (.int 329 0), (.int 7 0), (.str hN177 330)]⟩), ⟨[]⟩⟩
noncomputable def hO46 (P : Params) : Obj := ⟨(.type "function"), none, (.func ⟨hN181, hN181, (fnA (fnP 4 0 0)), (.stmts (fnB (fnP 4 0 0))), (fnS (fnP 4 0 0)), 3, [], .none, .none, .none, (.str hN260 289), none, (.ref 45), .none, 0⟩), ⟨[]⟩⟩
noncomputable def hO47 (P : Params) : Obj := ⟨(.type "tuple"), none, (.seq ⟨[]⟩ 0), ⟨[]⟩⟩
noncomputable def hO48 (P : Params) : Obj := ⟨.none, none, (.fields ⟨[]⟩), ⟨[]⟩⟩
noncomputable def hO49 (P : Params) : Obj := ⟨(.type "tuple"), none, (.seq ⟨[(.str hN261 335), (.str hN262 336), (.str hN263 337)]⟩ 0), ⟨[]⟩⟩
noncomputable def hO50 (P : Params) : Obj := ⟨(.type "tuple"), none, (.seq ⟨[]⟩ 0), ⟨[]⟩⟩
noncomputable def hO51 (P : Params) : Obj := ⟨.none, none, (.func ⟨hN182, hN182, (fnA (fnP 5 0 0)), (.stmts (fnB (fnP 5 0 0))), (fnS (fnP 5 0 0)), 0, [], .none, .none, .none, .none, none, .none, .none, 0⟩), ⟨[]⟩⟩
noncomputable def hO52 (P : Params) : Obj := ⟨(.type "code"), none, (.fields ⟨[(.str hN182 332), (.str hN182 333), (.str hN177 334), (.int 19 0), (.int 1 0), (.int 0 0), (.int 0 0), (.int 3 0), (.ref 47), (.bool true), (.int 276 0), (.ref 48), .none, (.ref 49), (.ref 50), (.ref 51), (.int 338 0), (.int 19 0), (.str hN177 339)]⟩), ⟨[]⟩⟩
noncomputable def hO53 (P : Params) : Obj := ⟨(.type "function"), none, (.func ⟨hN182, hN182, (fnA (fnP 5 0 0)), (.stmts (fnB (fnP 5 0 0))), (fnS (fnP 5 0 0)), 3, [], .none, .none, .none, (.str hN260 289), none, (.ref 52), .none, 0⟩), ⟨[]⟩⟩
noncomputable def hO54 (P : Params) : Obj := ⟨(.type "tuple"), none, (.seq ⟨[]⟩ 0), ⟨[]⟩⟩
noncomputable def hO55 (P : Params) : Obj := ⟨(.type "builtin_function_or_method"), none, (.fields ⟨[(.builtin "type.__prepare__"), (.type "type")]⟩), ⟨[]⟩⟩
noncomputable def hO56 (P : Params) : Obj := ⟨(.type "dict"), none, (.dict ⟨[⟨(PyData.keyHash P hN210), (.str hN210 350), (.str hN264 341)⟩, ⟨(PyData.keyHash P hN265), (.str hN265 352), (.str hN183 351)⟩, ⟨(PyData.keyHash P hN212), (.str hN212 354), (.int 28 353)⟩, ⟨(PyData.keyHash P hN237), (.str hN237 362), (.ref 67)⟩, ⟨(PyData.keyHash P hN266), (.str hN266 370), (.ref 74)⟩, ⟨(PyData.keyHash P hN267), (.str hN267 380), (.ref 81)⟩, ⟨(PyData.keyHash P hN268), (.str hN268 388), (.ref 88)⟩, ⟨(PyData.keyHash P hN222), (.str hN222 393), (.ref 89)⟩]⟩ 8), ⟨[]⟩⟩
noncomputable def hO57 (P : Params) : Obj := ⟨(.type "tuple"), none, (.seq ⟨[]⟩ 0), ⟨[]⟩⟩
noncomputable def hO58 (P : Params) : Obj := ⟨.none, none, (.fields ⟨[(.int 30 0), (.int 4 0), (.ref 66), (.int 36 0), (.int 4 0), (.ref 73), (.int 42 0), (.int 4 0), (.ref 80), (.int 69 0), (.int 4 0), (.ref 87)]⟩), ⟨[]⟩⟩
noncomputable def hO59 (P : Params) : Obj := ⟨(.type "code"), none, (.fields ⟨[(.str hN183 345), (.str hN183 346), (.str hN177 347), (.int 28 0), (.int 0 0), (.int 0 0), (.int 0 0), (.int 0 0), (.ref 57), (.bool false), (.int 276 0), (.ref 58), .none, .none, .none, .none, (.int 348 0), (.int 28 0), (.str hN177 349)]⟩), ⟨[]⟩⟩
noncomputable def hO60 (P : Params) : Obj := ⟨(.type "frame"), none, .plain, ⟨[(some (.ref 59)), (some (.ref 3)), (some (.ref 56)), none, (some (.str hN264 341)), none, (some (.ref 0))]⟩⟩
noncomputable def hO61 (P : Params) : Obj := ⟨(.type "tuple"), none, (.seq ⟨[]⟩ 0), ⟨[]⟩⟩
noncomputable def hO62 (P : Params) : Obj := ⟨.none, none, (.fields ⟨[]⟩), ⟨[]⟩⟩
noncomputable def hO63 (P : Params) : Obj := ⟨(.type "tuple"), none, (.seq ⟨[(.str hN269 358), (.str hN270 359)]⟩ 0), ⟨[]⟩⟩
noncomputable def hO64 (P : Params) : Obj := ⟨(.type "tuple"), none, (.seq ⟨[]⟩ 0), ⟨[]⟩⟩
noncomputable def hO65 (P : Params) : Obj := ⟨.none, none, (.func ⟨hN237, hN271, (fnA (fnP 7 1 0)), (.stmts (fnB (fnP 7 1 0))), (fnS (fnP 7 1 0)), 0, [], .none, .none, .none, .none, none, .none, .none, 0⟩), ⟨[]⟩⟩
noncomputable def hO66 (P : Params) : Obj := ⟨(.type "code"), none, (.fields ⟨[(.str hN237 355), (.str hN271 356), (.str hN177 357), (.int 30 0), (.int 2 0), (.int 0 0), (.int 0 0), (.int 3 0), (.ref 61), (.bool true), (.int 276 0), (.ref 62), .none, (.ref 63), (.ref 64), (.ref 65), (.int 360 0), (.int 30 0), (.str hN177 361)]⟩), ⟨[]⟩⟩
noncomputable def hO67 (P : Params) : Obj := ⟨(.type "function"), none, (.func ⟨hN237, hN271, (fnA (fnP 7 1 0)), (.stmts (fnB (fnP 7 1 0))), (fnS (fnP 7 1 0)), 3, [], .none, .none, .none, (.str hN264 341), none, (.ref 66), .none, 0⟩), ⟨[]⟩⟩
noncomputable def hO68 (P : Params) : Obj := ⟨(.type "tuple"), none, (.seq ⟨[]⟩ 0), ⟨[]⟩⟩
noncomputable def hO69 (P : Params) : Obj := ⟨.none, none, (.fields ⟨[]⟩), ⟨[]⟩⟩
noncomputable def hO70 (P : Params) : Obj := ⟨(.type "tuple"), none, (.seq ⟨[(.str hN269 366), (.str hN272 367)]⟩ 0), ⟨[]⟩⟩
noncomputable def hO71 (P : Params) : Obj := ⟨(.type "tuple"), none, (.seq ⟨[]⟩ 0), ⟨[]⟩⟩
noncomputable def hO72 (P : Params) : Obj := ⟨.none, none, (.func ⟨hN266, hN273, (fnA (fnP 7 1 1)), (.stmts (fnB (fnP 7 1 1))), (fnS (fnP 7 1 1)), 0, [], .none, .none, .none, .none, none, .none, .none, 0⟩), ⟨[]⟩⟩
noncomputable def hO73 (P : Params) : Obj := ⟨(.type "code"), none, (.fields ⟨[(.str hN266 363), (.str hN273 364), (.str hN177 365), (.int 36 0), (.int 1 0), (.int 0 0), (.int 0 0), (.int 3 0), (.ref 68), (.bool true), (.int 276 0), (.ref 69), .none, (.ref 70), (.ref 71), (.ref 72), (.int 368 0), (.int 36 0), (.str hN177 369)]⟩), ⟨[]⟩⟩
noncomputable def hO74 (P : Params) : Obj := ⟨(.type "function"), none, (.func ⟨hN266, hN273, (fnA (fnP 7 1 1)), (.stmts (fnB (fnP 7 1 1))), (fnS (fnP 7 1 1)), 3, [], .none, .none, .none, (.str hN264 341), none, (.ref 73), .none, 0⟩), ⟨[]⟩⟩
noncomputable def hO75 (P : Params) : Obj := ⟨(.type "tuple"), none, (.seq ⟨[]⟩ 0), ⟨[]⟩⟩
noncomputable def hO76 (P : Params) : Obj := ⟨.none, none, (.fields ⟨[]⟩), ⟨[]⟩⟩
noncomputable def hO77 (P : Params) : Obj := ⟨(.type "tuple"), none, (.seq ⟨[(.str hN269 374), (.str hN274 375), (.str hN275 376), (.str hN272 377)]⟩ 0), ⟨[]⟩⟩
noncomputable def hO78 (P : Params) : Obj := ⟨(.type "tuple"), none, (.seq ⟨[]⟩ 0), ⟨[]⟩⟩
noncomputable def hO79 (P : Params) : Obj := ⟨.none, none, (.func ⟨hN267, hN276, (fnA (fnP 7 1 2)), (.stmts (fnB (fnP 7 1 2))), (fnS (fnP 7 1 2)), 0, [], .none, .none, .none, .none, none, .none, .none, 0⟩), ⟨[]⟩⟩
noncomputable def hO80 (P : Params) : Obj := ⟨(.type "code"), none, (.fields ⟨[(.str hN267 371), (.str hN276 372), (.str hN177 373), (.int 42 0), (.int 1 0), (.int 0 0), (.int 0 0), (.int 3 0), (.ref 75), (.bool true), (.int 276 0), (.ref 76), .none, (.ref 77), (.ref 78), (.ref 79), (.int 378 0), (.int 42 0), (.str hN177 379)]⟩), ⟨[]⟩⟩
noncomputable def hO81 (P : Params) : Obj := ⟨(.type "function"), none, (.func ⟨hN267, hN276, (fnA (fnP 7 1 2)), (.stmts (fnB (fnP 7 1 2))), (fnS (fnP 7 1 2)), 3, [], .none, .none, .none, (.str hN264 341), none, (.ref 80), .none, 0⟩), ⟨[]⟩⟩
noncomputable def hO82 (P : Params) : Obj := ⟨(.type "tuple"), none, (.seq ⟨[]⟩ 0), ⟨[]⟩⟩
noncomputable def hO83 (P : Params) : Obj := ⟨.none, none, (.fields ⟨[]⟩), ⟨[]⟩⟩
noncomputable def hO84 (P : Params) : Obj := ⟨(.type "tuple"), none, (.seq ⟨[(.str hN269 384), (.str hN274 385)]⟩ 0), ⟨[]⟩⟩
noncomputable def hO85 (P : Params) : Obj := ⟨(.type "tuple"), none, (.seq ⟨[]⟩ 0), ⟨[]⟩⟩
noncomputable def hO86 (P : Params) : Obj := ⟨.none, none, (.func ⟨hN268, hN277, (fnA (fnP 7 1 3)), (.stmts (fnB (fnP 7 1 3))), (fnS (fnP 7 1 3)), 0, [], .none, .none, .none, .none, none, .none, .none, 0⟩), ⟨[]⟩⟩
noncomputable def hO87 (P : Params) : Obj := ⟨(.type "code"), none, (.fields ⟨[(.str hN268 381), (.str hN277 382), (.str hN177 383), (.int 69 0), (.int 2 0), (.int 0 0), (.int 0 0), (.int 3 0), (.ref 82), (.bool true), (.int 276 0), (.ref 83), .none, (.ref 84), (.ref 85), (.ref 86), (.int 386 0), (.int 69 0), (.str hN177 387)]⟩), ⟨[]⟩⟩
noncomputable def hO88 (P : Params) : Obj := ⟨(.type "function"), none, (.func ⟨hN268, hN277, (fnA (fnP 7 1 3)), (.stmts (fnB (fnP 7 1 3))), (fnS (fnP 7 1 3)), 3, [], .none, .none, .none, (.str hN264 341), none, (.ref 87), .none, 0⟩), ⟨[]⟩⟩
noncomputable def hO89 (P : Params) : Obj := ⟨(.type "tuple"), none, (.seq ⟨[(.str hN278 389), (.str hN279 390), (.str hN280 391), (.str hN281 392)]⟩ 0), ⟨[]⟩⟩
noncomputable def hO90 (P : Params) : Obj := ⟨(.type "dict"), none, (.dict ⟨[⟨(PyData.keyHash P hN210), (.str hN210 350), (.str hN264 341)⟩, ⟨(PyData.keyHash P hN212), (.str hN212 354), (.int 28 353)⟩, ⟨(PyData.keyHash P hN237), (.str hN237 362), (.ref 67)⟩, ⟨(PyData.keyHash P hN266), (.str hN266 370), (.ref 74)⟩, ⟨(PyData.keyHash P hN267), (.str hN267 380), (.ref 81)⟩, ⟨(PyData.keyHash P hN268), (.str hN268 388), (.ref 88)⟩, ⟨(PyData.keyHash P hN222), (.str hN222 393), (.ref 89)⟩, ⟨(PyData.keyHash P hN223), (.str hN223 395), (.ref 92)⟩, ⟨(PyData.keyHash P hN224), (.str hN224 397), (.ref 93)⟩, ⟨(PyData.keyHash P hN2), (.str hN2 398), .none⟩]⟩ 4), ⟨[]⟩⟩
noncomputable def hO91 (P : Params) : Obj := ⟨(.type "type"), none, (.cls ⟨hN183, [(.type "object")], [(.ref 91), (.type "object")], 90, hN183, true, [], [], false, none, false⟩), ⟨[none, none, (some (.str hN183 343)), (some (.str hN183 351)), (some (.builtin "object.__new__")), (some (.bool true))]⟩⟩
noncomputable def hO92 (P : Params) : Obj := ⟨(.type "getset_descriptor"), none, (.fields ⟨[(.str hN223 394), (.ref 91), (.builtin "function.__dict__"), (.builtin "function.__dict__#set")]⟩), ⟨[]⟩⟩
noncomputable def hO93 (P : Params) : Obj := ⟨(.type "getset_descriptor"), none, (.fields ⟨[(.str hN224 396), (.ref 91), (.builtin "ExceptionGroup.__weakref__"), .none]⟩), ⟨[]⟩⟩
noncomputable def hO94 (P : Params) : Obj := ⟨(.type "super"), none, (.fields ⟨[(.ref 91), (.ref 91), (.ref 91)]⟩), ⟨[]⟩⟩
noncomputable def hO95 (P : Params) : Obj := ⟨(.type "builtin_function_or_method"), none, (.fields ⟨[(.builtin "object.__init_subclass__"), (.ref 91)]⟩), ⟨[]⟩⟩
noncomputable def hO96 (P : Params) : Obj := ⟨(.type "list"), none, (.seq ⟨[(.int 14 406), (.int 10 407), (.int 4 408), (.int 1 409), (.int 1 410), (.int 22 411), (.int 0 412), (.int 31 413), (.int 16 414), (.int 127 415), (.int 0 416), (.int 13 417), (.int 7 418), (.int 22 419), (.int 0 420), (.int 31 421), (.int 16 422), (.int 127 423), (.int 0 424), (.int 1 425)]⟩ 0), ⟨[]⟩⟩
noncomputable def hO97 (P : Params) : Obj := ⟨(.type "dict"), none, (.dict ⟨[]⟩ 0), ⟨[]⟩⟩
noncomputable def hO98 (P : Params) : Obj := ⟨(.type "tuple"), none, (.seq ⟨[.none]⟩ 0), ⟨[]⟩⟩
noncomputable def hO99 (P : Params) : Obj := ⟨(.type "tuple"), none, (.seq ⟨[(.int 14 0), (.int 10 0), (.int 4 0), (.int 1 0), (.int 1 0), (.int 22 0), (.int 0 0), (.int 31 0), (.int 16 0), (.int 127 0), (.int 0 0), (.int 13 0), (.int 7 0), (.int 22 0), (.int 0 0), (.int 31 0), (.int 16 0), (.int 127 0), (.int 0 0), (.int 1 0)]⟩ 0), ⟨[]⟩⟩
noncomputable def hO100 (P : Params) : Obj := ⟨(.type "re.Pattern"), none, (.fields ⟨[(.str hN282 404), (.int 32 427), (.int 0 0), .none, .none, (.ref 99), (.int 0 0)]⟩), ⟨[]⟩⟩
noncomputable def hO101 (P : Params) : Obj := ⟨(.type "list"), none, (.seq ⟨[(.int 14 432), (.int 14 433), (.int 4 434), (.int 1 435), (.int 1 436), (.int 9 437), (.int 4294966783 438), (.int 0 439), (.int 0 440), (.int 2147483648 441), (.int 0 442), (.int 0 443), (.int 0 444), (.int 0 445), (.int 0 446), (.int 13 447), (.int 11 448), (.int 9 449), (.int 4294966783 450), (.int 0 451), (.int 0 452), (.int 2147483648 453), (.int 0 454), (.int 0 455), (.int 0 456), (.int 0 457), (.int 0 458), (.int 1 459)]⟩ 0), ⟨[]⟩⟩
noncomputable def hO102 (P : Params) : Obj := ⟨(.type "dict"), none, (.dict ⟨[]⟩ 0), ⟨[]⟩⟩
noncomputable def hO103 (P : Params) : Obj := ⟨(.type "tuple"), none, (.seq ⟨[.none]⟩ 0), ⟨[]⟩⟩
noncomputable def hO104 (P : Params) : Obj := ⟨(.type "tuple"), none, (.seq ⟨[(.int 14 0), (.int 14 0), (.int 4 0), (.int 1 0), (.int 1 0), (.int 9 0), (.int 4294966783 0), (.int 0 0), (.int 0 0), (.int 2147483648 0), (.int 0 0), (.int 0 0), (.int 0 0), (.int 0 0), (.int 0 0), (.int 13 0), (.int 11 0), (.int 9 0), (.int 4294966783 0), (.int 0 0), (.int 0 0), (.int 2147483648 0), (.int 0 0), (.int 0 0), (.int 0 0), (.int 0 0), (.int 0 0), (.int 1 0)]⟩ 0), ⟨[]⟩⟩
noncomputable def hO105 (P : Params) : Obj := ⟨(.type "re.Pattern"), none, (.fields ⟨[(.str hN283 430), (.int 32 461), (.int 0 0), .none, .none, (.ref 104), (.int 0 0)]⟩), ⟨[]⟩⟩
noncomputable def hO106 (P : Params) : Obj := ⟨(.type "tuple"), none, (.seq ⟨[]⟩ 0), ⟨[]⟩⟩
noncomputable def hO107 (P : Params) : Obj := ⟨(.type "builtin_function_or_method"), none, (.fields ⟨[(.builtin "type.__prepare__"), (.type "type")]⟩), ⟨[]⟩⟩
noncomputable def hO108 (P : Params) : Obj := ⟨(.type "dict"), none, (.dict ⟨[⟨(PyData.keyHash P hN210), (.str hN210 470), (.str hN284 401)⟩, ⟨(PyData.keyHash P hN265), (.str hN265 472), (.str hN186 471)⟩, ⟨(PyData.keyHash P hN212), (.str hN212 474), (.int 74 473)⟩, ⟨(PyData.keyHash P hN237), (.str hN237 484), (.ref 120)⟩, ⟨(PyData.keyHash P hN285), (.str hN285 494), (.ref 127)⟩, ⟨(PyData.keyHash P hN286), (.str hN286 501), (.ref 134)⟩, ⟨(PyData.keyHash P hN287), (.str hN287 510), (.ref 141)⟩, ⟨(PyData.keyHash P hN288), (.str hN288 516), (.ref 146)⟩, ⟨(PyData.keyHash P hN289), (.str hN289 524), (.ref 153)⟩, ⟨(PyData.keyHash P hN290), (.str hN290 532), (.ref 160)⟩, ⟨(PyData.keyHash P hN291), (.str hN291 540), (.ref 167)⟩, ⟨(PyData.keyHash P hN292), (.str hN292 551), (.ref 175)⟩, ⟨(PyData.keyHash P hN293), (.str hN293 557), (.ref 180)⟩, ⟨(PyData.keyHash P hN294), (.str hN294 563), (.ref 185)⟩, ⟨(PyData.keyHash P hN295), (.str hN295 570), (.ref 192)⟩, ⟨(PyData.keyHash P hN238), (.str hN238 577), (.ref 199)⟩, ⟨(PyData.keyHash P hN296), (.str hN296 583), (.ref 204)⟩, ⟨(PyData.keyHash P hN297), (.str hN297 590), (.ref 211)⟩, ⟨(PyData.keyHash P hN298), (.str hN298 600), (.ref 218)⟩, ⟨(PyData.keyHash P hN299), (.str hN299 610), (.ref 225)⟩, ⟨(PyData.keyHash P hN222), (.str hN222 612), (.ref 226)⟩]⟩ 21), ⟨[]⟩⟩
noncomputable def hO109 (P : Params) : Obj := ⟨(.type "tuple"), none, (.seq ⟨[]⟩ 0), ⟨[]⟩⟩
noncomputable def hO110 (P : Params) : Obj := ⟨.none, none, (.fields ⟨[(.int 76 0), (.int 4 0), (.ref 119), (.int 86 0), (.int 4 0), (.ref 126), (.int 94 0), (.int 4 0), (.ref 133), (.int 97 0), (.int 4 0), (.ref 140), (.int 101 0), (.int 4 0), (.ref 145), (.int 105 0), (.int 4 0), (.ref 152), (.int 108 0), (.int 4 0), (.ref 159), (.int 111 0), (.int 4 0), (.ref 166), (.int 114 0), (.int 4 0), (.ref 174), (.int 121 0), (.int 4 0), (.ref 179), (.int 124 0), (.int 4 0), (.ref 184), (.int 127 0), (.int 4 0), (.ref 191), (.int 130 0), (.int 4 0), (.ref 198), (.int 133 0), (.int 4 0), (.ref 203), (.int 136 0), (.int 4 0), (.ref 210), (.int 139 0), (.int 4 0), (.ref 217), (.int 147 0), (.int 4 0), (.ref 224)]⟩), ⟨[]⟩⟩
noncomputable def hO111 (P : Params) : Obj := ⟨(.type "code"), none, (.fields ⟨[(.str hN186 465), (.str hN186 466), (.str hN177 467), (.int 74 0), (.int 0 0), (.int 0 0), (.int 0 0), (.int 0 0), (.ref 109), (.bool false), (.int 276 0), (.ref 110), .none, .none, .none, .none, (.int 468 0), (.int 74 0), (.str hN177 469)]⟩), ⟨[]⟩⟩
noncomputable def hO112 (P : Params) : Obj := ⟨(.type "frame"), none, .plain, ⟨[(some (.ref 111)), (some (.ref 3)), (some (.ref 108)), none, (some (.str hN284 401)), none, (some (.ref 0))]⟩⟩
noncomputable def hO113 (P : Params) : Obj := ⟨(.type "tuple"), none, (.seq ⟨[.none]⟩ 0), ⟨[]⟩⟩
noncomputable def hO114 (P : Params) : Obj := ⟨(.type "tuple"), none, (.seq ⟨[]⟩ 0), ⟨[]⟩⟩
noncomputable def hO115 (P : Params) : Obj := ⟨.none, none, (.fields ⟨[]⟩), ⟨[]⟩⟩
noncomputable def hO116 (P : Params) : Obj := ⟨(.type "tuple"), none, (.seq ⟨[(.str hN269 478), (.str hN300 479), (.str hN245 480), (.str hN301 481)]⟩ 0), ⟨[]⟩⟩
noncomputable def hO117 (P : Params) : Obj := ⟨(.type "tuple"), none, (.seq ⟨[]⟩ 0), ⟨[]⟩⟩
noncomputable def hO118 (P : Params) : Obj := ⟨.none, none, (.func ⟨hN237, hN302, (fnA (fnP 11 1 0)), (.stmts (fnB (fnP 11 1 0))), (fnS (fnP 11 1 0)), 0, [], .none, .none, .none, .none, none, .none, .none, 0⟩), ⟨[]⟩⟩
noncomputable def hO119 (P : Params) : Obj := ⟨(.type "code"), none, (.fields ⟨[(.str hN237 475), (.str hN302 476), (.str hN177 477), (.int 76 0), (.int 2 0), (.int 0 0), (.int 0 0), (.int 3 0), (.ref 114), (.bool true), (.int 276 0), (.ref 115), .none, (.ref 116), (.ref 117), (.ref 118), (.int 482 0), (.int 76 0), (.str hN177 483)]⟩), ⟨[]⟩⟩
noncomputable def hO120 (P : Params) : Obj := ⟨(.type "function"), none, (.func ⟨hN237, hN302, (fnA (fnP 11 1 0)), (.stmts (fnB (fnP 11 1 0))), (fnS (fnP 11 1 0)), 3, [], (.ref 113), .none, .none, (.str hN284 401), none, (.ref 119), .none, 0⟩), ⟨[]⟩⟩
noncomputable def hO121 (P : Params) : Obj := ⟨(.type "tuple"), none, (.seq ⟨[]⟩ 0), ⟨[]⟩⟩
noncomputable def hO122 (P : Params) : Obj := ⟨.none, none, (.fields ⟨[]⟩), ⟨[]⟩⟩
noncomputable def hO123 (P : Params) : Obj := ⟨(.type "tuple"), none, (.seq ⟨[(.str hN269 488), (.str hN303 489), (.str hN228 490), (.str hN304 491)]⟩ 0), ⟨[]⟩⟩
noncomputable def hO124 (P : Params) : Obj := ⟨(.type "tuple"), none, (.seq ⟨[]⟩ 0), ⟨[]⟩⟩
noncomputable def hO125 (P : Params) : Obj := ⟨.none, none, (.func ⟨hN285, hN305, (fnA (fnP 11 1 1)), (.stmts (fnB (fnP 11 1 1))), (fnS (fnP 11 1 1)), 0, [], .none, .none, .none, .none, none, .none, .none, 0⟩), ⟨[]⟩⟩
noncomputable def hO126 (P : Params) : Obj := ⟨(.type "code"), none, (.fields ⟨[(.str hN285 485), (.str hN305 486), (.str hN177 487), (.int 86 0), (.int 2 0), (.int 0 0), (.int 1 0), (.int 3 0), (.ref 121), (.bool true), (.int 276 0), (.ref 122), .none, (.ref 123), (.ref 124), (.ref 125), (.int 492 0), (.int 86 0), (.str hN177 493)]⟩), ⟨[]⟩⟩
noncomputable def hO127 (P : Params) : Obj := ⟨(.type "function"), none, (.func ⟨hN285, hN305, (fnA (fnP 11 1 1)), (.stmts (fnB (fnP 11 1 1))), (fnS (fnP 11 1 1)), 3, [], .none, .none, .none, (.str hN284 401), none, (.ref 126), .none, 0⟩), ⟨[]⟩⟩
noncomputable def hO128 (P : Params) : Obj := ⟨(.type "tuple"), none, (.seq ⟨[]⟩ 0), ⟨[]⟩⟩
noncomputable def hO129 (P : Params) : Obj := ⟨.none, none, (.fields ⟨[]⟩), ⟨[]⟩⟩
noncomputable def hO130 (P : Params) : Obj := ⟨(.type "tuple"), none, (.seq ⟨[(.str hN269 498)]⟩ 0), ⟨[]⟩⟩
noncomputable def hO131 (P : Params) : Obj := ⟨(.type "tuple"), none, (.seq ⟨[]⟩ 0), ⟨[]⟩⟩
noncomputable def hO132 (P : Params) : Obj := ⟨.none, none, (.func ⟨hN286, hN306, (fnA (fnP 11 1 2)), (.stmts (fnB (fnP 11 1 2))), (fnS (fnP 11 1 2)), 0, [], .none, .none, .none, .none, none, .none, .none, 0⟩), ⟨[]⟩⟩
noncomputable def hO133 (P : Params) : Obj := ⟨(.type "code"), none, (.fields ⟨[(.str hN286 495), (.str hN306 496), (.str hN177 497), (.int 94 0), (.int 1 0), (.int 0 0), (.int 0 0), (.int 3 0), (.ref 128), (.bool true), (.int 276 0), (.ref 129), .none, (.ref 130), (.ref 131), (.ref 132), (.int 499 0), (.int 94 0), (.str hN177 500)]⟩), ⟨[]⟩⟩
noncomputable def hO134 (P : Params) : Obj := ⟨(.type "function"), none, (.func ⟨hN286, hN306, (fnA (fnP 11 1 2)), (.stmts (fnB (fnP 11 1 2))), (fnS (fnP 11 1 2)), 3, [], .none, .none, .none, (.str hN284 401), none, (.ref 133), .none, 0⟩), ⟨[]⟩⟩
noncomputable def hO135 (P : Params) : Obj := ⟨(.type "tuple"), none, (.seq ⟨[]⟩ 0), ⟨[]⟩⟩
noncomputable def hO136 (P : Params) : Obj := ⟨.none, none, (.fields ⟨[]⟩), ⟨[]⟩⟩
noncomputable def hO137 (P : Params) : Obj := ⟨(.type "tuple"), none, (.seq ⟨[(.str hN269 505), (.str hN228 506), (.str hN263 507)]⟩ 0), ⟨[]⟩⟩
noncomputable def hO138 (P : Params) : Obj := ⟨(.type "tuple"), none, (.seq ⟨[]⟩ 0), ⟨[]⟩⟩
noncomputable def hO139 (P : Params) : Obj := ⟨.none, none, (.func ⟨hN287, hN307, (fnA (fnP 11 1 3)), (.stmts (fnB (fnP 11 1 3))), (fnS (fnP 11 1 3)), 0, [], .none, .none, .none, .none, none, .none, .none, 0⟩), ⟨[]⟩⟩
noncomputable def hO140 (P : Params) : Obj := ⟨(.type "code"), none, (.fields ⟨[(.str hN287 502), (.str hN307 503), (.str hN177 504), (.int 97 0), (.int 3 0), (.int 0 0), (.int 0 0), (.int 3 0), (.ref 135), (.bool true), (.int 276 0), (.ref 136), .none, (.ref 137), (.ref 138), (.ref 139), (.int 508 0), (.int 97 0), (.str hN177 509)]⟩), ⟨[]⟩⟩
noncomputable def hO141 (P : Params) : Obj := ⟨(.type "function"), none, (.func ⟨hN287, hN307, (fnA (fnP 11 1 3)), (.stmts (fnB (fnP 11 1 3))), (fnS (fnP 11 1 3)), 3, [], .none, .none, .none, (.str hN284 401), none, (.ref 140), .none, 0⟩), ⟨[]⟩⟩
noncomputable def hO142 (P : Params) : Obj := ⟨(.type "tuple"), none, (.seq ⟨[]⟩ 0), ⟨[]⟩⟩
noncomputable def hO143 (P : Params) : Obj := ⟨.none, none, (.fields ⟨[]⟩), ⟨[]⟩⟩
noncomputable def hO144 (P : Params) : Obj := ⟨.none, none, (.func ⟨hN288, hN308, (fnA (fnP 11 1 4)), (.stmts (fnB (fnP 11 1 4))), (fnS (fnP 11 1 4)), 0, [], .none, .none, .none, .none, none, .none, .none, 0⟩), ⟨[]⟩⟩
noncomputable def hO145 (P : Params) : Obj := ⟨(.type "code"), none, (.fields ⟨[(.str hN288 511), (.str hN308 512), (.str hN177 513), (.int 101 0), (.int 2 0), (.int 0 0), (.int 0 0), (.int 3 0), (.ref 142), (.bool true), (.int 276 0), (.ref 143), .none, .none, .none, (.ref 144), (.int 514 0), (.int 101 0), (.str hN177 515)]⟩), ⟨[]⟩⟩
noncomputable def hO146 (P : Params) : Obj := ⟨(.type "function"), none, (.func ⟨hN288, hN308, (fnA (fnP 11 1 4)), (.stmts (fnB (fnP 11 1 4))), (fnS (fnP 11 1 4)), 3, [], .none, .none, .none, (.str hN284 401), none, (.ref 145), .none, 0⟩), ⟨[]⟩⟩
noncomputable def hO147 (P : Params) : Obj := ⟨(.type "tuple"), none, (.seq ⟨[]⟩ 0), ⟨[]⟩⟩
noncomputable def hO148 (P : Params) : Obj := ⟨.none, none, (.fields ⟨[]⟩), ⟨[]⟩⟩
noncomputable def hO149 (P : Params) : Obj := ⟨(.type "tuple"), none, (.seq ⟨[(.str hN269 520), (.str hN228 521)]⟩ 0), ⟨[]⟩⟩
noncomputable def hO150 (P : Params) : Obj := ⟨(.type "tuple"), none, (.seq ⟨[]⟩ 0), ⟨[]⟩⟩
noncomputable def hO151 (P : Params) : Obj := ⟨.none, none, (.func ⟨hN289, hN309, (fnA (fnP 11 1 5)), (.stmts (fnB (fnP 11 1 5))), (fnS (fnP 11 1 5)), 0, [], .none, .none, .none, .none, none, .none, .none, 0⟩), ⟨[]⟩⟩
noncomputable def hO152 (P : Params) : Obj := ⟨(.type "code"), none, (.fields ⟨[(.str hN289 517), (.str hN309 518), (.str hN177 519), (.int 105 0), (.int 2 0), (.int 0 0), (.int 0 0), (.int 3 0), (.ref 147), (.bool true), (.int 276 0), (.ref 148), .none, (.ref 149), (.ref 150), (.ref 151), (.int 522 0), (.int 105 0), (.str hN177 523)]⟩), ⟨[]⟩⟩
noncomputable def hO153 (P : Params) : Obj := ⟨(.type "function"), none, (.func ⟨hN289, hN309, (fnA (fnP 11 1 5)), (.stmts (fnB (fnP 11 1 5))), (fnS (fnP 11 1 5)), 3, [], .none, .none, .none, (.str hN284 401), none, (.ref 152), .none, 0⟩), ⟨[]⟩⟩
noncomputable def hO154 (P : Params) : Obj := ⟨(.type "tuple"), none, (.seq ⟨[]⟩ 0), ⟨[]⟩⟩
noncomputable def hO155 (P : Params) : Obj := ⟨.none, none, (.fields ⟨[]⟩), ⟨[]⟩⟩
noncomputable def hO156 (P : Params) : Obj := ⟨(.type "tuple"), none, (.seq ⟨[(.str hN269 528), (.str hN228 529)]⟩ 0), ⟨[]⟩⟩
noncomputable def hO157 (P : Params) : Obj := ⟨(.type "tuple"), none, (.seq ⟨[]⟩ 0), ⟨[]⟩⟩
noncomputable def hO158 (P : Params) : Obj := ⟨.none, none, (.func ⟨hN290, hN310, (fnA (fnP 11 1 6)), (.stmts (fnB (fnP 11 1 6))), (fnS (fnP 11 1 6)), 0, [], .none, .none, .none, .none, none, .none, .none, 0⟩), ⟨[]⟩⟩
noncomputable def hO159 (P : Params) : Obj := ⟨(.type "code"), none, (.fields ⟨[(.str hN290 525), (.str hN310 526), (.str hN177 527), (.int 108 0), (.int 2 0), (.int 0 0), (.int 0 0), (.int 3 0), (.ref 154), (.bool true), (.int 276 0), (.ref 155), .none, (.ref 156), (.ref 157), (.ref 158), (.int 530 0), (.int 108 0), (.str hN177 531)]⟩), ⟨[]⟩⟩
noncomputable def hO160 (P : Params) : Obj := ⟨(.type "function"), none, (.func ⟨hN290, hN310, (fnA (fnP 11 1 6)), (.stmts (fnB (fnP 11 1 6))), (fnS (fnP 11 1 6)), 3, [], .none, .none, .none, (.str hN284 401), none, (.ref 159), .none, 0⟩), ⟨[]⟩⟩
noncomputable def hO161 (P : Params) : Obj := ⟨(.type "tuple"), none, (.seq ⟨[]⟩ 0), ⟨[]⟩⟩
noncomputable def hO162 (P : Params) : Obj := ⟨.none, none, (.fields ⟨[]⟩), ⟨[]⟩⟩
noncomputable def hO163 (P : Params) : Obj := ⟨(.type "tuple"), none, (.seq ⟨[(.str hN269 536), (.str hN228 537)]⟩ 0), ⟨[]⟩⟩
noncomputable def hO164 (P : Params) : Obj := ⟨(.type "tuple"), none, (.seq ⟨[]⟩ 0), ⟨[]⟩⟩
noncomputable def hO165 (P : Params) : Obj := ⟨.none, none, (.func ⟨hN291, hN311, (fnA (fnP 11 1 7)), (.stmts (fnB (fnP 11 1 7))), (fnS (fnP 11 1 7)), 0, [], .none, .none, .none, .none, none, .none, .none, 0⟩), ⟨[]⟩⟩
noncomputable def hO166 (P : Params) : Obj := ⟨(.type "code"), none, (.fields ⟨[(.str hN291 533), (.str hN311 534), (.str hN177 535), (.int 111 0), (.int 2 0), (.int 0 0), (.int 0 0), (.int 3 0), (.ref 161), (.bool true), (.int 276 0), (.ref 162), .none, (.ref 163), (.ref 164), (.ref 165), (.int 538 0), (.int 111 0), (.str hN177 539)]⟩), ⟨[]⟩⟩
noncomputable def hO167 (P : Params) : Obj := ⟨(.type "function"), none, (.func ⟨hN291, hN311, (fnA (fnP 11 1 7)), (.stmts (fnB (fnP 11 1 7))), (fnS (fnP 11 1 7)), 3, [], .none, .none, .none, (.str hN284 401), none, (.ref 166), .none, 0⟩), ⟨[]⟩⟩
noncomputable def hO168 (P : Params) : Obj := ⟨(.type "tuple"), none, (.seq ⟨[.none]⟩ 0), ⟨[]⟩⟩
noncomputable def hO169 (P : Params) : Obj := ⟨(.type "tuple"), none, (.seq ⟨[]⟩ 0), ⟨[]⟩⟩
noncomputable def hO170 (P : Params) : Obj := ⟨.none, none, (.fields ⟨[]⟩), ⟨[]⟩⟩
noncomputable def hO171 (P : Params) : Obj := ⟨(.type "tuple"), none, (.seq ⟨[(.str hN269 544), (.str hN228 545), (.str hN312 546), (.str hN245 547), (.str hN301 548)]⟩ 0), ⟨[]⟩⟩
noncomputable def hO172 (P : Params) : Obj := ⟨(.type "tuple"), none, (.seq ⟨[]⟩ 0), ⟨[]⟩⟩
noncomputable def hO173 (P : Params) : Obj := ⟨.none, none, (.func ⟨hN292, hN313, (fnA (fnP 11 1 8)), (.stmts (fnB (fnP 11 1 8))), (fnS (fnP 11 1 8)), 0, [], .none, .none, .none, .none, none, .none, .none, 0⟩), ⟨[]⟩⟩
noncomputable def hO174 (P : Params) : Obj := ⟨(.type "code"), none, (.fields ⟨[(.str hN292 541), (.str hN313 542), (.str hN177 543), (.int 114 0), (.int 3 0), (.int 0 0), (.int 0 0), (.int 3 0), (.ref 169), (.bool true), (.int 276 0), (.ref 170), .none, (.ref 171), (.ref 172), (.ref 173), (.int 549 0), (.int 114 0), (.str hN177 550)]⟩), ⟨[]⟩⟩
noncomputable def hO175 (P : Params) : Obj := ⟨(.type "function"), none, (.func ⟨hN292, hN313, (fnA (fnP 11 1 8)), (.stmts (fnB (fnP 11 1 8))), (fnS (fnP 11 1 8)), 3, [], (.ref 168), .none, .none, (.str hN284 401), none, (.ref 174), .none, 0⟩), ⟨[]⟩⟩
noncomputable def hO176 (P : Params) : Obj := ⟨(.type "tuple"), none, (.seq ⟨[]⟩ 0), ⟨[]⟩⟩
noncomputable def hO177 (P : Params) : Obj := ⟨.none, none, (.fields ⟨[]⟩), ⟨[]⟩⟩
noncomputable def hO178 (P : Params) : Obj := ⟨.none, none, (.func ⟨hN293, hN314, (fnA (fnP 11 1 9)), (.stmts (fnB (fnP 11 1 9))), (fnS (fnP 11 1 9)), 0, [], .none, .none, .none, .none, none, .none, .none, 0⟩), ⟨[]⟩⟩
noncomputable def hO179 (P : Params) : Obj := ⟨(.type "code"), none, (.fields ⟨[(.str hN293 552), (.str hN314 553), (.str hN177 554), (.int 121 0), (.int 1 0), (.int 0 0), (.int 0 0), (.int 3 0), (.ref 176), (.bool true), (.int 276 0), (.ref 177), .none, .none, .none, (.ref 178), (.int 555 0), (.int 121 0), (.str hN177 556)]⟩), ⟨[]⟩⟩
noncomputable def hO180 (P : Params) : Obj := ⟨(.type "function"), none, (.func ⟨hN293, hN314, (fnA (fnP 11 1 9)), (.stmts (fnB (fnP 11 1 9))), (fnS (fnP 11 1 9)), 3, [], .none, .none, .none, (.str hN284 401), none, (.ref 179), .none, 0⟩), ⟨[]⟩⟩
noncomputable def hO181 (P : Params) : Obj := ⟨(.type "tuple"), none, (.seq ⟨[]⟩ 0), ⟨[]⟩⟩
noncomputable def hO182 (P : Params) : Obj := ⟨.none, none, (.fields ⟨[]⟩), ⟨[]⟩⟩
noncomputable def hO183 (P : Params) : Obj := ⟨.none, none, (.func ⟨hN294, hN315, (fnA (fnP 11 1 10)), (.stmts (fnB (fnP 11 1 10))), (fnS (fnP 11 1 10)), 0, [], .none, .none, .none, .none, none, .none, .none, 0⟩), ⟨[]⟩⟩
noncomputable def hO184 (P : Params) : Obj := ⟨(.type "code"), none, (.fields ⟨[(.str hN294 558), (.str hN315 559), (.str hN177 560), (.int 124 0), (.int 1 0), (.int 0 0), (.int 0 0), (.int 3 0), (.ref 181), (.bool true), (.int 276 0), (.ref 182), .none, .none, .none, (.ref 183), (.int 561 0), (.int 124 0), (.str hN177 562)]⟩), ⟨[]⟩⟩
noncomputable def hO185 (P : Params) : Obj := ⟨(.type "function"), none, (.func ⟨hN294, hN315, (fnA (fnP 11 1 10)), (.stmts (fnB (fnP 11 1 10))), (fnS (fnP 11 1 10)), 3, [], .none, .none, .none, (.str hN284 401), none, (.ref 184), .none, 0⟩), ⟨[]⟩⟩
noncomputable def hO186 (P : Params) : Obj := ⟨(.type "tuple"), none, (.seq ⟨[]⟩ 0), ⟨[]⟩⟩
noncomputable def hO187 (P : Params) : Obj := ⟨.none, none, (.fields ⟨[]⟩), ⟨[]⟩⟩
noncomputable def hO188 (P : Params) : Obj := ⟨(.type "tuple"), none, (.seq ⟨[(.str hN269 567)]⟩ 0), ⟨[]⟩⟩
noncomputable def hO189 (P : Params) : Obj := ⟨(.type "tuple"), none, (.seq ⟨[]⟩ 0), ⟨[]⟩⟩
noncomputable def hO190 (P : Params) : Obj := ⟨.none, none, (.func ⟨hN295, hN316, (fnA (fnP 11 1 11)), (.stmts (fnB (fnP 11 1 11))), (fnS (fnP 11 1 11)), 0, [], .none, .none, .none, .none, none, .none, .none, 0⟩), ⟨[]⟩⟩
noncomputable def hO191 (P : Params) : Obj := ⟨(.type "code"), none, (.fields ⟨[(.str hN295 564), (.str hN316 565), (.str hN177 566), (.int 127 0), (.int 1 0), (.int 0 0), (.int 0 0), (.int 3 0), (.ref 186), (.bool true), (.int 276 0), (.ref 187), .none, (.ref 188), (.ref 189), (.ref 190), (.int 568 0), (.int 127 0), (.str hN177 569)]⟩), ⟨[]⟩⟩
noncomputable def hO192 (P : Params) : Obj := ⟨(.type "function"), none, (.func ⟨hN295, hN316, (fnA (fnP 11 1 11)), (.stmts (fnB (fnP 11 1 11))), (fnS (fnP 11 1 11)), 3, [], .none, .none, .none, (.str hN284 401), none, (.ref 191), .none, 0⟩), ⟨[]⟩⟩
noncomputable def hO193 (P : Params) : Obj := ⟨(.type "tuple"), none, (.seq ⟨[]⟩ 0), ⟨[]⟩⟩
noncomputable def hO194 (P : Params) : Obj := ⟨.none, none, (.fields ⟨[]⟩), ⟨[]⟩⟩
noncomputable def hO195 (P : Params) : Obj := ⟨(.type "tuple"), none, (.seq ⟨[(.str hN269 574)]⟩ 0), ⟨[]⟩⟩
noncomputable def hO196 (P : Params) : Obj := ⟨(.type "tuple"), none, (.seq ⟨[]⟩ 0), ⟨[]⟩⟩
noncomputable def hO197 (P : Params) : Obj := ⟨.none, none, (.func ⟨hN238, hN317, (fnA (fnP 11 1 12)), (.stmts (fnB (fnP 11 1 12))), (fnS (fnP 11 1 12)), 0, [], .none, .none, .none, .none, none, .none, .none, 0⟩), ⟨[]⟩⟩
noncomputable def hO198 (P : Params) : Obj := ⟨(.type "code"), none, (.fields ⟨[(.str hN238 571), (.str hN317 572), (.str hN177 573), (.int 130 0), (.int 1 0), (.int 0 0), (.int 0 0), (.int 3 0), (.ref 193), (.bool true), (.int 276 0), (.ref 194), .none, (.ref 195), (.ref 196), (.ref 197), (.int 575 0), (.int 130 0), (.str hN177 576)]⟩), ⟨[]⟩⟩
noncomputable def hO199 (P : Params) : Obj := ⟨(.type "function"), none, (.func ⟨hN238, hN317, (fnA (fnP 11 1 12)), (.stmts (fnB (fnP 11 1 12))), (fnS (fnP 11 1 12)), 3, [], .none, .none, .none, (.str hN284 401), none, (.ref 198), .none, 0⟩), ⟨[]⟩⟩
noncomputable def hO200 (P : Params) : Obj := ⟨(.type "tuple"), none, (.seq ⟨[]⟩ 0), ⟨[]⟩⟩
noncomputable def hO201 (P : Params) : Obj := ⟨.none, none, (.fields ⟨[]⟩), ⟨[]⟩⟩
noncomputable def hO202 (P : Params) : Obj := ⟨.none, none, (.func ⟨hN296, hN318, (fnA (fnP 11 1 13)), (.stmts (fnB (fnP 11 1 13))), (fnS (fnP 11 1 13)), 0, [], .none, .none, .none, .none, none, .none, .none, 0⟩), ⟨[]⟩⟩
noncomputable def hO203 (P : Params) : Obj := ⟨(.type "code"), none, (.fields ⟨[(.str hN296 578), (.str hN318 579), (.str hN177 580), (.int 133 0), (.int 1 0), (.int 0 0), (.int 0 0), (.int 3 0), (.ref 200), (.bool true), (.int 276 0), (.ref 201), .none, .none, .none, (.ref 202), (.int 581 0), (.int 133 0), (.str hN177 582)]⟩), ⟨[]⟩⟩
noncomputable def hO204 (P : Params) : Obj := ⟨(.type "function"), none, (.func ⟨hN296, hN318, (fnA (fnP 11 1 13)), (.stmts (fnB (fnP 11 1 13))), (fnS (fnP 11 1 13)), 3, [], .none, .none, .none, (.str hN284 401), none, (.ref 203), .none, 0⟩), ⟨[]⟩⟩
noncomputable def hO205 (P : Params) : Obj := ⟨(.type "tuple"), none, (.seq ⟨[]⟩ 0), ⟨[]⟩⟩
noncomputable def hO206 (P : Params) : Obj := ⟨.none, none, (.fields ⟨[]⟩), ⟨[]⟩⟩
noncomputable def hO207 (P : Params) : Obj := ⟨(.type "tuple"), none, (.seq ⟨[(.str hN269 587)]⟩ 0), ⟨[]⟩⟩
noncomputable def hO208 (P : Params) : Obj := ⟨(.type "tuple"), none, (.seq ⟨[]⟩ 0), ⟨[]⟩⟩
noncomputable def hO209 (P : Params) : Obj := ⟨.none, none, (.func ⟨hN297, hN319, (fnA (fnP 11 1 14)), (.stmts (fnB (fnP 11 1 14))), (fnS (fnP 11 1 14)), 0, [], .none, .none, .none, .none, none, .none, .none, 0⟩), ⟨[]⟩⟩
noncomputable def hO210 (P : Params) : Obj := ⟨(.type "code"), none, (.fields ⟨[(.str hN297 584), (.str hN319 585), (.str hN177 586), (.int 136 0), (.int 1 0), (.int 0 0), (.int 0 0), (.int 3 0), (.ref 205), (.bool true), (.int 276 0), (.ref 206), .none, (.ref 207), (.ref 208), (.ref 209), (.int 588 0), (.int 136 0), (.str hN177 589)]⟩), ⟨[]⟩⟩
noncomputable def hO211 (P : Params) : Obj := ⟨(.type "function"), none, (.func ⟨hN297, hN319, (fnA (fnP 11 1 14)), (.stmts (fnB (fnP 11 1 14))), (fnS (fnP 11 1 14)), 3, [], .none, .none, .none, (.str hN284 401), none, (.ref 210), .none, 0⟩), ⟨[]⟩⟩
noncomputable def hO212 (P : Params) : Obj := ⟨(.type "tuple"), none, (.seq ⟨[]⟩ 0), ⟨[]⟩⟩
noncomputable def hO213 (P : Params) : Obj := ⟨.none, none, (.fields ⟨[]⟩), ⟨[]⟩⟩
noncomputable def hO214 (P : Params) : Obj := ⟨(.type "tuple"), none, (.seq ⟨[(.str hN269 594), (.str hN228 595), (.str hN303 596), (.str hN320 597)]⟩ 0), ⟨[]⟩⟩
noncomputable def hO215 (P : Params) : Obj := ⟨(.type "tuple"), none, (.seq ⟨[]⟩ 0), ⟨[]⟩⟩
noncomputable def hO216 (P : Params) : Obj := ⟨.none, none, (.func ⟨hN298, hN321, (fnA (fnP 11 1 15)), (.stmts (fnB (fnP 11 1 15))), (fnS (fnP 11 1 15)), 0, [], .none, .none, .none, .none, none, .none, .none, 0⟩), ⟨[]⟩⟩
noncomputable def hO217 (P : Params) : Obj := ⟨(.type "code"), none, (.fields ⟨[(.str hN298 591), (.str hN321 592), (.str hN177 593), (.int 139 0), (.int 3 0), (.int 0 0), (.int 0 0), (.int 3 0), (.ref 212), (.bool true), (.int 276 0), (.ref 213), .none, (.ref 214), (.ref 215), (.ref 216), (.int 598 0), (.int 139 0), (.str hN177 599)]⟩), ⟨[]⟩⟩
noncomputable def hO218 (P : Params) : Obj := ⟨(.type "function"), none, (.func ⟨hN298, hN321, (fnA (fnP 11 1 15)), (.stmts (fnB (fnP 11 1 15))), (fnS (fnP 11 1 15)), 3, [], .none, .none, .none, (.str hN284 401), none, (.ref 217), .none, 0⟩), ⟨[]⟩⟩
noncomputable def hO219 (P : Params) : Obj := ⟨(.type "tuple"), none, (.seq ⟨[]⟩ 0), ⟨[]⟩⟩
noncomputable def hO220 (P : Params) : Obj := ⟨.none, none, (.fields ⟨[]⟩), ⟨[]⟩⟩
noncomputable def hO221 (P : Params) : Obj := ⟨(.type "tuple"), none, (.seq ⟨[(.str hN269 604), (.str hN322 605), (.str hN323 606), (.str hN324 607)]⟩ 0), ⟨[]⟩⟩
noncomputable def hO222 (P : Params) : Obj := ⟨(.type "tuple"), none, (.seq ⟨[]⟩ 0), ⟨[]⟩⟩
noncomputable def hO223 (P : Params) : Obj := ⟨.none, none, (.func ⟨hN299, hN325, (fnA (fnP 11 1 16)), (.stmts (fnB (fnP 11 1 16))), (fnS (fnP 11 1 16)), 0, [], .none, .none, .none, .none, none, .none, .none, 0⟩), ⟨[]⟩⟩
noncomputable def hO224 (P : Params) : Obj := ⟨(.type "code"), none, (.fields ⟨[(.str hN299 601), (.str hN325 602), (.str hN177 603), (.int 147 0), (.int 3 0), (.int 0 0), (.int 0 0), (.int 11 0), (.ref 219), (.bool true), (.int 276 0), (.ref 220), .none, (.ref 221), (.ref 222), (.ref 223), (.int 608 0), (.int 147 0), (.str hN177 609)]⟩), ⟨[]⟩⟩
noncomputable def hO225 (P : Params) : Obj := ⟨(.type "function"), none, (.func ⟨hN299, hN325, (fnA (fnP 11 1 16)), (.stmts (fnB (fnP 11 1 16))), (fnS (fnP 11 1 16)), 3, [], .none, .none, .none, (.str hN284 401), none, (.ref 224), .none, 0⟩), ⟨[]⟩⟩
noncomputable def hO226 (P : Params) : Obj := ⟨(.type "tuple"), none, (.seq ⟨[(.str hN326 611)]⟩ 0), ⟨[]⟩⟩
noncomputable def hO227 (P : Params) : Obj := ⟨(.type "dict"), none, (.dict ⟨[⟨(PyData.keyHash P hN210), (.str hN210 470), (.str hN284 401)⟩, ⟨(PyData.keyHash P hN212), (.str hN212 474), (.int 74 473)⟩, ⟨(PyData.keyHash P hN237), (.str hN237 484), (.ref 120)⟩, ⟨(PyData.keyHash P hN285), (.str hN285 494), (.ref 127)⟩, ⟨(PyData.keyHash P hN286), (.str hN286 501), (.ref 134)⟩, ⟨(PyData.keyHash P hN287), (.str hN287 510), (.ref 141)⟩, ⟨(PyData.keyHash P hN288), (.str hN288 516), (.ref 146)⟩, ⟨(PyData.keyHash P hN289), (.str hN289 524), (.ref 153)⟩, ⟨(PyData.keyHash P hN290), (.str hN290 532), (.ref 160)⟩, ⟨(PyData.keyHash P hN291), (.str hN291 540), (.ref 167)⟩, ⟨(PyData.keyHash P hN292), (.str hN292 551), (.ref 175)⟩, ⟨(PyData.keyHash P hN293), (.str hN293 557), (.ref 180)⟩, ⟨(PyData.keyHash P hN294), (.str hN294 563), (.ref 185)⟩, ⟨(PyData.keyHash P hN295), (.str hN295 570), (.ref 192)⟩, ⟨(PyData.keyHash P hN238), (.str hN238 577), (.ref 199)⟩, ⟨(PyData.keyHash P hN296), (.str hN296 583), (.ref 204)⟩, ⟨(PyData.keyHash P hN297), (.str hN297 590), (.ref 211)⟩, ⟨(PyData.keyHash P hN298), (.str hN298 600), (.ref 218)⟩, ⟨(PyData.keyHash P hN299), (.str hN299 610), (.ref 225)⟩, ⟨(PyData.keyHash P hN222), (.str hN222 612), (.ref 226)⟩, ⟨(PyData.keyHash P hN223), (.str hN223 614), (.ref 229)⟩, ⟨(PyData.keyHash P hN224), (.str hN224 616), (.ref 230)⟩, ⟨(PyData.keyHash P hN2), (.str hN2 617), .none⟩]⟩ 4), ⟨[]⟩⟩
noncomputable def hO228 (P : Params) : Obj := ⟨(.type "type"), none, (.cls ⟨hN186, [(.type "object")], [(.ref 228), (.type "object")], 227, hN186, true, [], [], false, none, false⟩), ⟨[none, none, (some (.str hN186 463)), (some (.str hN186 471)), (some (.builtin "object.__new__")), (some (.bool true))]⟩⟩
noncomputable def hO229 (P : Params) : Obj := ⟨(.type "getset_descriptor"), none, (.fields ⟨[(.str hN223 613), (.ref 228), (.builtin "function.__dict__"), (.builtin "function.__dict__#set")]⟩), ⟨[]⟩⟩
noncomputable def hO230 (P : Params) : Obj := ⟨(.type "getset_descriptor"), none, (.fields ⟨[(.str hN224 615), (.ref 228), (.builtin "ExceptionGroup.__weakref__"), .none]⟩), ⟨[]⟩⟩
noncomputable def hO231 (P : Params) : Obj := ⟨(.type "super"), none, (.fields ⟨[(.ref 228), (.ref 228), (.ref 228)]⟩), ⟨[]⟩⟩
noncomputable def hO232 (P : Params) : Obj := ⟨(.type "builtin_function_or_method"), none, (.fields ⟨[(.builtin "object.__init_subclass__"), (.ref 228)]⟩), ⟨[]⟩⟩
noncomputable def hO233 (P : Params) : Obj := ⟨(.type "tuple"), none, (.seq ⟨[]⟩ 0), ⟨[]⟩⟩
noncomputable def hO234 (P : Params) : Obj := ⟨.none, none, (.fields ⟨[]⟩), ⟨[]⟩⟩
noncomputable def hO235 (P : Params) : Obj := ⟨(.type "tuple"), none, (.seq ⟨[(.str hN327 625), (.str hN328 626), (.str hN329 627)]⟩ 0), ⟨[]⟩⟩
noncomputable def hO236 (P : Params) : Obj := ⟨(.type "tuple"), none, (.seq ⟨[(.str hN330 628)]⟩ 0), ⟨[]⟩⟩
noncomputable def hO237 (P : Params) : Obj := ⟨.none, none, (.func ⟨hN187, hN187, (fnA (fnP 13 0 0)), (.stmts (fnB (fnP 13 0 0))), (fnS (fnP 13 0 0)), 0, [], .none, .none, .none, .none, none, .none, .none, 0⟩), ⟨[]⟩⟩
noncomputable def hO238 (P : Params) : Obj := ⟨(.type "code"), none, (.fields ⟨[(.str hN187 622), (.str hN187 623), (.str hN177 624), (.int 150 0), (.int 1 0), (.int 0 0), (.int 0 0), (.int 3 0), (.ref 233), (.bool true), (.int 276 0), (.ref 234), .none, (.ref 235), (.ref 236), (.ref 237), (.int 629 0), (.int 150 0), (.str hN177 630)]⟩), ⟨[]⟩⟩
noncomputable def hO239 (P : Params) : Obj := ⟨(.type "function"), none, (.func ⟨hN187, hN187, (fnA (fnP 13 0 0)), (.stmts (fnB (fnP 13 0 0))), (fnS (fnP 13 0 0)), 3, [], .none, .none, .none, (.str hN173 620), none, (.ref 238), .none, 0⟩), ⟨[]⟩⟩
noncomputable def hO240 (P : Params) : Obj := ⟨(.type "tuple"), none, (.seq ⟨[]⟩ 0), ⟨[]⟩⟩
noncomputable def hO241 (P : Params) : Obj := ⟨.none, none, (.fields ⟨[]⟩), ⟨[]⟩⟩
noncomputable def hO242 (P : Params) : Obj := ⟨(.type "tuple"), none, (.seq ⟨[(.str hN331 635), (.str hN332 636)]⟩ 0), ⟨[]⟩⟩
noncomputable def hO243 (P : Params) : Obj := ⟨(.type "tuple"), none, (.seq ⟨[]⟩ 0), ⟨[]⟩⟩
noncomputable def hO244 (P : Params) : Obj := ⟨.none, none, (.func ⟨hN188, hN188, (fnA (fnP 14 0 0)), (.stmts (fnB (fnP 14 0 0))), (fnS (fnP 14 0 0)), 0, [], .none, .none, .none, .none, none, .none, .none, 0⟩), ⟨[]⟩⟩
noncomputable def hO245 (P : Params) : Obj := ⟨(.type "code"), none, (.fields ⟨[(.str hN188 632), (.str hN188 633), (.str hN177 634), (.int 160 0), (.int 2 0), (.int 0 0), (.int 0 0), (.int 3 0), (.ref 240), (.bool true), (.int 276 0), (.ref 241), .none, (.ref 242), (.ref 243), (.ref 244), (.int 637 0), (.int 160 0), (.str hN177 638)]⟩), ⟨[]⟩⟩
noncomputable def hO246 (P : Params) : Obj := ⟨(.type "function"), none, (.func ⟨hN188, hN188, (fnA (fnP 14 0 0)), (.stmts (fnB (fnP 14 0 0))), (fnS (fnP 14 0 0)), 3, [], .none, .none, .none, (.str hN173 620), none, (.ref 245), .none, 0⟩), ⟨[]⟩⟩
noncomputable def hO247 (P : Params) : Obj := ⟨(.type "tuple"), none, (.seq ⟨[]⟩ 0), ⟨[]⟩⟩
noncomputable def hO248 (P : Params) : Obj := ⟨.none, none, (.fields ⟨[]⟩), ⟨[]⟩⟩
noncomputable def hO249 (P : Params) : Obj := ⟨(.type "tuple"), none, (.seq ⟨[(.str hN333 643), (.str hN334 644)]⟩ 0), ⟨[]⟩⟩
noncomputable def hO250 (P : Params) : Obj := ⟨(.type "tuple"), none, (.seq ⟨[]⟩ 0), ⟨[]⟩⟩
noncomputable def hO251 (P : Params) : Obj := ⟨.none, none, (.func ⟨hN189, hN189, (fnA (fnP 15 0 0)), (.stmts (fnB (fnP 15 0 0))), (fnS (fnP 15 0 0)), 0, [], .none, .none, .none, .none, none, .none, .none, 0⟩), ⟨[]⟩⟩
noncomputable def hO252 (P : Params) : Obj := ⟨(.type "code"), none, (.fields ⟨[(.str hN189 640), (.str hN189 641), (.str hN177 642), (.int 162 0), (.int 1 0), (.int 0 0), (.int 0 0), (.int 3 0), (.ref 247), (.bool true), (.int 276 0), (.ref 248), .none, (.ref 249), (.ref 250), (.ref 251), (.int 645 0), (.int 162 0), (.str hN177 646)]⟩), ⟨[]⟩⟩
noncomputable def hO253 (P : Params) : Obj := ⟨(.type "function"), none, (.func ⟨hN189, hN189, (fnA (fnP 15 0 0)), (.stmts (fnB (fnP 15 0 0))), (fnS (fnP 15 0 0)), 3, [], .none, .none, .none, (.str hN173 620), none, (.ref 252), .none, 0⟩), ⟨[]⟩⟩
noncomputable def hO254 (P : Params) : Obj := ⟨(.type "tuple"), none, (.seq ⟨[]⟩ 0), ⟨[]⟩⟩
noncomputable def hO255 (P : Params) : Obj := ⟨.none, none, (.fields ⟨[]⟩), ⟨[]⟩⟩
noncomputable def hO256 (P : Params) : Obj := ⟨.none, none, (.func ⟨hN190, hN190, (fnA (fnP 16 0 0)), (.stmts (fnB (fnP 16 0 0))), (fnS (fnP 16 0 0)), 0, [], .none, .none, .none, .none, none, .none, .none, 0⟩), ⟨[]⟩⟩
noncomputable def hO257 (P : Params) : Obj := ⟨(.type "code"), none, (.fields ⟨[(.str hN190 648), (.str hN190 649), (.str hN177 650), (.int 165 0), (.int 1 0), (.int 0 0), (.int 0 0), (.int 3 0), (.ref 254), (.bool true), (.int 276 0), (.ref 255), .none, .none, .none, (.ref 256), (.int 651 0), (.int 165 0), (.str hN177 652)]⟩), ⟨[]⟩⟩
noncomputable def hO258 (P : Params) : Obj := ⟨(.type "function"), none, (.func ⟨hN190, hN190, (fnA (fnP 16 0 0)), (.stmts (fnB (fnP 16 0 0))), (fnS (fnP 16 0 0)), 3, [], .none, .none, .none, (.str hN173 620), none, (.ref 257), .none, 0⟩), ⟨[]⟩⟩
noncomputable def hO259 (P : Params) : Obj := ⟨(.type "tuple"), none, (.seq ⟨[]⟩ 0), ⟨[]⟩⟩
noncomputable def hO260 (P : Params) : Obj := ⟨.none, none, (.fields ⟨[]⟩), ⟨[]⟩⟩
noncomputable def hO261 (P : Params) : Obj := ⟨(.type "tuple"), none, (.seq ⟨[(.str hN333 657), (.str hN256 658)]⟩ 0), ⟨[]⟩⟩
noncomputable def hO262 (P : Params) : Obj := ⟨(.type "tuple"), none, (.seq ⟨[]⟩ 0), ⟨[]⟩⟩
noncomputable def hO263 (P : Params) : Obj := ⟨.none, none, (.func ⟨hN191, hN191, (fnA (fnP 17 0 0)), (.stmts (fnB (fnP 17 0 0))), (fnS (fnP 17 0 0)), 0, [], .none, .none, .none, .none, none, .none, .none, 0⟩), ⟨[]⟩⟩
noncomputable def hO264 (P : Params) : Obj := ⟨(.type "code"), none, (.fields ⟨[(.str hN191 654), (.str hN191 655), (.str hN177 656), (.int 168 0), (.int 1 0), (.int 0 0), (.int 0 0), (.int 3 0), (.ref 259), (.bool true), (.int 276 0), (.ref 260), .none, (.ref 261), (.ref 262), (.ref 263), (.int 659 0), (.int 168 0), (.str hN177 660)]⟩), ⟨[]⟩⟩
noncomputable def hO265 (P : Params) : Obj := ⟨(.type "function"), none, (.func ⟨hN191, hN191, (fnA (fnP 17 0 0)), (.stmts (fnB (fnP 17 0 0))), (fnS (fnP 17 0 0)), 3, [], .none, .none, .none, (.str hN173 620), none, (.ref 264), .none, 0⟩), ⟨[]⟩⟩
noncomputable def hO266 (P : Params) : Obj := ⟨(.type "tuple"), none, (.seq ⟨[]⟩ 0), ⟨[]⟩⟩
noncomputable def hO267 (P : Params) : Obj := ⟨.none, none, (.fields ⟨[]⟩), ⟨[]⟩⟩
noncomputable def hO268 (P : Params) : Obj := ⟨(.type "tuple"), none, (.seq ⟨[(.str hN335 665), (.str hN333 666), (.str hN336 667), (.str hN245 668)]⟩ 0), ⟨[]⟩⟩
noncomputable def hO269 (P : Params) : Obj := ⟨(.type "tuple"), none, (.seq ⟨[]⟩ 0), ⟨[]⟩⟩
noncomputable def hO270 (P : Params) : Obj := ⟨.none, none, (.func ⟨hN192, hN192, (fnA (fnP 18 0 0)), (.stmts (fnB (fnP 18 0 0))), (fnS (fnP 18 0 0)), 0, [], .none, .none, .none, .none, none, .none, .none, 0⟩), ⟨[]⟩⟩
noncomputable def hO271 (P : Params) : Obj := ⟨(.type "code"), none, (.fields ⟨[(.str hN192 662), (.str hN192 663), (.str hN177 664), (.int 171 0), (.int 2 0), (.int 0 0), (.int 0 0), (.int 3 0), (.ref 266), (.bool true), (.int 276 0), (.ref 267), .none, (.ref 268), (.ref 269), (.ref 270), (.int 669 0), (.int 171 0), (.str hN177 670)]⟩), ⟨[]⟩⟩
noncomputable def hO272 (P : Params) : Obj := ⟨(.type "function"), none, (.func ⟨hN192, hN192, (fnA (fnP 18 0 0)), (.stmts (fnB (fnP 18 0 0))), (fnS (fnP 18 0 0)), 3, [], .none, .none, .none, (.str hN173 620), none, (.ref 271), .none, 0⟩), ⟨[]⟩⟩
noncomputable def hO273 (P : Params) : Obj := ⟨(.type "tuple"), none, (.seq ⟨[]⟩ 0), ⟨[]⟩⟩
noncomputable def hO274 (P : Params) : Obj := ⟨.none, none, (.fields ⟨[]⟩), ⟨[]⟩⟩
noncomputable def hO275 (P : Params) : Obj := ⟨.none, none, (.func ⟨hN193, hN193, (fnA (fnP 19 0 0)), (.stmts (fnB (fnP 19 0 0))), (fnS (fnP 19 0 0)), 0, [], .none, .none, .none, .none, none, .none, .none, 0⟩), ⟨[]⟩⟩
noncomputable def hO276 (P : Params) : Obj := ⟨(.type "code"), none, (.fields ⟨[(.str hN193 672), (.str hN193 673), (.str hN177 674), (.int 176 0), (.int 1 0), (.int 0 0), (.int 0 0), (.int 3 0), (.ref 273), (.bool true), (.int 276 0), (.ref 274), .none, .none, .none, (.ref 275), (.int 675 0), (.int 176 0), (.str hN177 676)]⟩), ⟨[]⟩⟩
noncomputable def hO277 (P : Params) : Obj := ⟨(.type "function"), none, (.func ⟨hN193, hN193, (fnA (fnP 19 0 0)), (.stmts (fnB (fnP 19 0 0))), (fnS (fnP 19 0 0)), 3, [], .none, .none, .none, (.str hN173 620), none, (.ref 276), .none, 0⟩), ⟨[]⟩⟩
noncomputable def hO278 (P : Params) : Obj := ⟨(.type "tuple"), none, (.seq ⟨[]⟩ 0), ⟨[]⟩⟩
noncomputable def hO279 (P : Params) : Obj := ⟨.none, none, (.fields ⟨[]⟩), ⟨[]⟩⟩
noncomputable def hO280 (P : Params) : Obj := ⟨(.type "tuple"), none, (.seq ⟨[(.str hN337 681), (.str hN338 682), (.str hN339 683), (.str hN335 684), (.str hN340 685), (.str hN331 686), (.str hN341 687), (.str hN259 688), (.str hN333 689), (.str hN342 690)]⟩ 0), ⟨[]⟩⟩
noncomputable def hO281 (P : Params) : Obj := ⟨(.type "tuple"), none, (.seq ⟨[]⟩ 0), ⟨[]⟩⟩
noncomputable def hO282 (P : Params) : Obj := ⟨.none, none, (.func ⟨hN194, hN194, (fnA (fnP 20 0 0)), (.stmts (fnB (fnP 20 0 0))), (fnS (fnP 20 0 0)), 0, [], .none, .none, .none, .none, none, .none, .none, 0⟩), ⟨[]⟩⟩
noncomputable def hO283 (P : Params) : Obj := ⟨(.type "code"), none, (.fields ⟨[(.str hN194 678), (.str hN194 679), (.str hN177 680), (.int 178 0), (.int 2 0), (.int 0 0), (.int 0 0), (.int 3 0), (.ref 278), (.bool true), (.int 276 0), (.ref 279), .none, (.ref 280), (.ref 281), (.ref 282), (.int 691 0), (.int 178 0), (.str hN177 692)]⟩), ⟨[]⟩⟩
noncomputable def hO284 (P : Params) : Obj := ⟨(.type "function"), none, (.func ⟨hN194, hN194, (fnA (fnP 20 0 0)), (.stmts (fnB (fnP 20 0 0))), (fnS (fnP 20 0 0)), 3, [], .none, .none, .none, (.str hN173 620), none, (.ref 283), .none, 0⟩), ⟨[]⟩⟩
noncomputable def hO285 (P : Params) : Obj := ⟨(.type "tuple"), none, (.seq ⟨[]⟩ 0), ⟨[]⟩⟩
noncomputable def hO286 (P : Params) : Obj := ⟨.none, none, (.fields ⟨[]⟩), ⟨[]⟩⟩
noncomputable def hO287 (P : Params) : Obj := ⟨.none, none, (.func ⟨hN195, hN195, (fnA (fnP 21 0 0)), (.stmts (fnB (fnP 21 0 0))), (fnS (fnP 21 0 0)), 0, [], .none, .none, .none, .none, none, .none, .none, 0⟩), ⟨[]⟩⟩
noncomputable def hO288 (P : Params) : Obj := ⟨(.type "code"), none, (.fields ⟨[(.str hN195 694), (.str hN195 695), (.str hN177 696), (.int 203 0), (.int 2 0), (.int 0 0), (.int 0 0), (.int 3 0), (.ref 285), (.bool true), (.int 276 0), (.ref 286), .none, .none, .none, (.ref 287), (.int 697 0), (.int 203 0), (.str hN177 698)]⟩), ⟨[]⟩⟩
noncomputable def hO289 (P : Params) : Obj := ⟨(.type "function"), none, (.func ⟨hN195, hN195, (fnA (fnP 21 0 0)), (.stmts (fnB (fnP 21 0 0))), (fnS (fnP 21 0 0)), 3, [], .none, .none, .none, (.str hN173 620), none, (.ref 288), .none, 0⟩), ⟨[]⟩⟩
noncomputable def hO290 (P : Params) : Obj := ⟨(.type "tuple"), none, (.seq ⟨[]⟩ 0), ⟨[]⟩⟩
noncomputable def hO291 (P : Params) : Obj := ⟨.none, none, (.fields ⟨[]⟩), ⟨[]⟩⟩
noncomputable def hO292 (P : Params) : Obj := ⟨.none, none, (.func ⟨hN196, hN196, (fnA (fnP 22 0 0)), (.stmts (fnB (fnP 22 0 0))), (fnS (fnP 22 0 0)), 0, [], .none, .none, .none, .none, none, .none, .none, 0⟩), ⟨[]⟩⟩
noncomputable def hO293 (P : Params) : Obj := ⟨(.type "code"), none, (.fields ⟨[(.str hN196 700), (.str hN196 701), (.str hN177 702), (.int 210 0), (.int 1 0), (.int 0 0), (.int 0 0), (.int 3 0), (.ref 290), (.bool true), (.int 276 0), (.ref 291), .none, .none, .none, (.ref 292), (.int 703 0), (.int 210 0), (.str hN177 704)]⟩), ⟨[]⟩⟩
noncomputable def hO294 (P : Params) : Obj := ⟨(.type "function"), none, (.func ⟨hN196, hN196, (fnA (fnP 22 0 0)), (.stmts (fnB (fnP 22 0 0))), (fnS (fnP 22 0 0)), 3, [], .none, .none, .none, (.str hN173 620), none, (.ref 293), .none, 0⟩), ⟨[]⟩⟩
noncomputable def hI3 (P : Params) : Obj := ⟨(.type "dict"), none, (.dict ⟨[⟨(PyData.keyHash P hN0), (.str hN0 165), (.str hN160 164)⟩, ⟨(PyData.keyHash P hN2), (.str hN2 166), .none⟩, ⟨(PyData.keyHash P hN3), (.str hN3 167), .none⟩, ⟨(PyData.keyHash P hN4), (.str hN4 168), (.builtin "__main__.__loader__#opaque")⟩, ⟨(PyData.keyHash P hN5), (.str hN5 169), .none⟩, ⟨(PyData.keyHash P hN174), (.str hN174 170), (.ref 6)⟩, ⟨(PyData.keyHash P hN175), (.str hN175 171), (.ref 4)⟩, ⟨(PyData.keyHash P hN176), (.str hN176 173), (.str hN177 172)⟩, ⟨(PyData.keyHash P hN178), (.str hN178 174), .none⟩, ⟨(PyData.keyHash P hN161), (.str hN161 275), (.ref 12)⟩]⟩ 10), ⟨[]⟩⟩
noncomputable def hI11 (P : Params) : Obj := ⟨(.type "dict"), none, (.dict ⟨[⟨(PyData.keyHash P hN0), (.str hN0 247), (.str hN161 246)⟩, ⟨(PyData.keyHash P hN2), (.str hN2 248), .none⟩, ⟨(PyData.keyHash P hN3), (.str hN3 250), (.str hN198 249)⟩, ⟨(PyData.keyHash P hN4), (.str hN4 251), (.ref 14)⟩, ⟨(PyData.keyHash P hN5), (.str hN5 252), (.ref 26)⟩, ⟨(PyData.keyHash P hN16), (.str hN16 253), (.builtin "_sre.compile")⟩, ⟨(PyData.keyHash P hN199), (.str hN199 254), (.builtin "_sre.template")⟩, ⟨(PyData.keyHash P hN200), (.str hN200 255), (.builtin "_sre.getcodesize")⟩, ⟨(PyData.keyHash P hN201), (.str hN201 256), (.builtin "_sre.ascii_iscased")⟩, ⟨(PyData.keyHash P hN202), (.str hN202 257), (.builtin "_sre.unicode_iscased")⟩, ⟨(PyData.keyHash P hN203), (.str hN203 258), (.builtin "_sre.ascii_tolower")⟩, ⟨(PyData.keyHash P hN204), (.str hN204 259), (.builtin "_sre.unicode_tolower")⟩, ⟨(PyData.keyHash P hN205), (.str hN205 261), (.int 20230612 260)⟩, ⟨(PyData.keyHash P hN206), (.str hN206 263), (.int 4 262)⟩, ⟨(PyData.keyHash P hN207), (.str hN207 265), (.int 4294967295 264)⟩, ⟨(PyData.keyHash P hN208), (.str hN208 267), (.int 1073741823 266)⟩, ⟨(PyData.keyHash P hN156), (.str hN156 269), (.str hN209 268)⟩]⟩ 17), ⟨[]⟩⟩
noncomputable def hpE (P : Params) : Heap := ⟨⟨[hO0 P, hO1 P, hO2 P, hI3 P, hO4 P, hO5 P, hO6 P, hO7 P, hO8 P, hO9 P, hO10 P, hI11 P, hO12 P, hO13 P, hO14 P, hO15 P, hO16 P, hO17 P, hO18 P, hO19 P, hO20 P, hO21 P, hO22 P, hO23 P, hO24 P, hO25 P, hO26 P, hO27 P]⟩, {}⟩
noncomputable def hp0 (P : Params) : Heap := ⟨⟨[hO0 P, hO1 P, hO2 P, hI3 P, hO4 P, hO5 P, hO6 P, hO7 P, hO8 P, hO9 P, hO10 P, hO11 P, hO12 P, hO13 P, hO14 P, hO15 P, hO16 P, hO17 P, hO18 P, hO19 P, hO20 P, hO21 P, hO22 P, hO23 P, hO24 P, hO25 P, hO26 P, hO27 P]⟩, {}⟩
noncomputable def hp1 (P : Params) : Heap := ⟨⟨[hO0 P, hO1 P, hO2 P, hO3 P, hO4 P, hO5 P, hO6 P, hO7 P, hO8 P, hO9 P, hO10 P, hO11 P, hO12 P, hO13 P, hO14 P, hO15 P, hO16 P, hO17 P, hO18 P, hO19 P, hO20 P, hO21 P, hO22 P, hO23 P, hO24 P, hO25 P, hO26 P, hO27 P, hO28 P, hO29 P, hO30 P, hO31 P, hO32 P, hO33 P, hO34 P, hO35 P, hO36 P, hO37 P, hO38 P, hO39 P, hO40 P, hO41 P, hO42 P, hO43 P, hO44 P, hO45 P, hO46 P, hO47 P, hO48 P, hO49 P, hO50 P, hO51 P, hO52 P, hO53 P, hO54 P, hO55 P, hO56 P, hO57 P, hO58 P, hO59 P, hO60 P, hO61 P, hO62 P, hO63 P, hO64 P, hO65 P, hO66 P, hO67 P, hO68 P, hO69 P, hO70 P, hO71 P, hO72 P, hO73 P, hO74 P, hO75 P, hO76 P, hO77 P, hO78 P, hO79 P, hO80 P, hO81 P, hO82 P, hO83 P, hO84 P, hO85 P, hO86 P, hO87 P, hO88 P, hO89 P, hO90 P, hO91 P, hO92 P, hO93 P, hO94 P, hO95 P, hO96 P, hO97 P, hO98 P, hO99 P, hO100 P, hO101 P, hO102 P, hO103 P, hO104 P, hO105 P, hO106 P, hO107 P, hO108 P, hO109 P, hO110 P, hO111 P, hO112 P, hO113 P, hO114 P, hO115 P, hO116 P, hO117 P, hO118 P, hO119 P, hO120 P, hO121 P, hO122 P, hO123 P, hO124 P, hO125 P, hO126 P, hO127 P, hO128 P, hO129 P, hO130 P, hO131 P, hO132 P, hO133 P, hO134 P, hO135 P, hO136 P, hO137 P, hO138 P, hO139 P, hO140 P, hO141 P, hO142 P, hO143 P, hO144 P, hO145 P, hO146 P, hO147 P, hO148 P, hO149 P, hO150 P, hO151 P, hO152 P, hO153 P, hO154 P, hO155 P, hO156 P, hO157 P, hO158 P, hO159 P, hO160 P, hO161 P, hO162 P, hO163 P, hO164 P, hO165 P, hO166 P, hO167 P, hO168 P, hO169 P, hO170 P, hO171 P, hO172 P, hO173 P, hO174 P, hO175 P, hO176 P, hO177 P, hO178 P, hO179 P, hO180 P, hO181 P, hO182 P, hO183 P, hO184 P, hO185 P, hO186 P, hO187 P, hO188 P, hO189 P, hO190 P, hO191 P, hO192 P, hO193 P, hO194 P, hO195 P, hO196 P, hO197 P, hO198 P, hO199 P, hO200 P, hO201 P, hO202 P, hO203 P, hO204 P, hO205 P, hO206 P, hO207 P, hO208 P, hO209 P, hO210 P, hO211 P, hO212 P, hO213 P, hO214 P, hO215 P, hO216 P, hO217 P, hO218 P, hO219 P, hO220 P, hO221 P, hO222 P, hO223 P, hO224 P, hO225 P, hO226 P, hO227 P, hO228 P, hO229 P, hO230 P, hO231 P, hO232 P, hO233 P, hO234 P, hO235 P, hO236 P, hO237 P, hO238 P, hO239 P, hO240 P, hO241 P, hO242 P, hO243 P, hO244 P, hO245 P, hO246 P, hO247 P, hO248 P, hO249 P, hO250 P, hO251 P, hO252 P, hO253 P, hO254 P, hO255 P, hO256 P, hO257 P, hO258 P, hO259 P, hO260 P, hO261 P, hO262 P, hO263 P, hO264 P, hO265 P, hO266 P, hO267 P, hO268 P, hO269 P, hO270 P, hO271 P, hO272 P, hO273 P, hO274 P, hO275 P, hO276 P, hO277 P, hO278 P, hO279 P, hO280 P, hO281 P, hO282 P, hO283 P, hO284 P, hO285 P, hO286 P, hO287 P, hO288 P, hO289 P, hO290 P, hO291 P, hO292 P, hO293 P, hO294 P]⟩, {}⟩
noncomputable def kfrag (P : Params) : Frag := [(0, hO0 P), (1, hO1 P), (2, hO2 P), (3, hO3 P), (4, hO4 P), (5, hO5 P), (6, hO6 P), (7, hO7 P), (8, hO8 P), (9, hO9 P), (10, hO10 P), (11, hO11 P), (12, hO12 P), (13, hO13 P), (14, hO14 P), (15, hO15 P), (16, hO16 P), (17, hO17 P), (18, hO18 P), (19, hO19 P), (20, hO20 P), (21, hO21 P), (22, hO22 P), (23, hO23 P), (24, hO24 P), (25, hO25 P), (26, hO26 P), (27, hO27 P), (28, hO28 P), (29, hO29 P), (30, hO30 P), (31, hO31 P), (32, hO32 P), (33, hO33 P), (34, hO34 P), (35, hO35 P), (36, hO36 P), (37, hO37 P), (38, hO38 P), (39, hO39 P), (40, hO40 P), (41, hO41 P), (42, hO42 P), (43, hO43 P), (44, hO44 P), (45, hO45 P), (46, hO46 P), (47, hO47 P), (48, hO48 P), (49, hO49 P), (50, hO50 P), (51, hO51 P), (52, hO52 P), (53, hO53 P), (54, hO54 P), (55, hO55 P), (56, hO56 P), (57, hO57 P), (58, hO58 P), (59, hO59 P), (60, hO60 P), (61, hO61 P), (62, hO62 P), (63, hO63 P), (64, hO64 P), (65, hO65 P), (66, hO66 P), (67, hO67 P), (68, hO68 P), (69, hO69 P), (70, hO70 P), (71, hO71 P), (72, hO72 P), (73, hO73 P), (74, hO74 P), (75, hO75 P), (76, hO76 P), (77, hO77 P), (78, hO78 P), (79, hO79 P), (80, hO80 P), (81, hO81 P), (82, hO82 P), (83, hO83 P), (84, hO84 P), (85, hO85 P), (86, hO86 P), (87, hO87 P), (88, hO88 P), (89, hO89 P), (90, hO90 P), (91, hO91 P), (92, hO92 P), (93, hO93 P), (94, hO94 P), (95, hO95 P), (96, hO96 P), (97, hO97 P), (98, hO98 P), (99, hO99 P), (100, hO100 P), (101, hO101 P), (102, hO102 P), (103, hO103 P), (104, hO104 P), (105, hO105 P), (106, hO106 P), (107, hO107 P), (108, hO108 P), (109, hO109 P), (110, hO110 P), (111, hO111 P), (112, hO112 P), (113, hO113 P), (114, hO114 P), (115, hO115 P), (116, hO116 P), (117, hO117 P), (118, hO118 P), (119, hO119 P), (120, hO120 P), (121, hO121 P), (122, hO122 P), (123, hO123 P), (124, hO124 P), (125, hO125 P), (126, hO126 P), (127, hO127 P), (128, hO128 P), (129, hO129 P), (130, hO130 P), (131, hO131 P), (132, hO132 P), (133, hO133 P), (134, hO134 P), (135, hO135 P), (136, hO136 P), (137, hO137 P), (138, hO138 P), (139, hO139 P), (140, hO140 P), (141, hO141 P), (142, hO142 P), (143, hO143 P), (144, hO144 P), (145, hO145 P), (146, hO146 P), (147, hO147 P), (148, hO148 P), (149, hO149 P), (150, hO150 P), (151, hO151 P), (152, hO152 P), (153, hO153 P), (154, hO154 P), (155, hO155 P), (156, hO156 P), (157, hO157 P), (158, hO158 P), (159, hO159 P), (160, hO160 P), (161, hO161 P), (162, hO162 P), (163, hO163 P), (164, hO164 P), (165, hO165 P), (166, hO166 P), (167, hO167 P), (168, hO168 P), (169, hO169 P), (170, hO170 P), (171, hO171 P), (172, hO172 P), (173, hO173 P), (174, hO174 P), (175, hO175 P), (176, hO176 P), (177, hO177 P), (178, hO178 P), (179, hO179 P), (180, hO180 P), (181, hO181 P), (182, hO182 P), (183, hO183 P), (184, hO184 P), (185, hO185 P), (186, hO186 P), (187, hO187 P), (188, hO188 P), (189, hO189 P), (190, hO190 P), (191, hO191 P), (192, hO192 P), (193, hO193 P), (194, hO194 P), (195, hO195 P), (196, hO196 P), (197, hO197 P), (198, hO198 P), (199, hO199 P), (200, hO200 P), (201, hO201 P), (202, hO202 P), (203, hO203 P), (204, hO204 P), (205, hO205 P), (206, hO206 P), (207, hO207 P), (208, hO208 P), (209, hO209 P), (210, hO210 P), (211, hO211 P), (212, hO212 P), (213, hO213 P), (214, hO214 P), (215, hO215 P), (216, hO216 P), (217, hO217 P), (218, hO218 P), (219, hO219 P), (220, hO220 P), (221, hO221 P), (222, hO222 P), (223, hO223 P), (224, hO224 P), (225, hO225 P), (226, hO226 P), (227, hO227 P), (228, hO228 P), (229, hO229 P), (230, hO230 P), (231, hO231 P), (232, hO232 P), (233, hO233 P), (234, hO234 P), (235, hO235 P), (236, hO236 P), (237, hO237 P), (238, hO238 P), (239, hO239 P), (240, hO240 P), (241, hO241 P), (242, hO242 P), (243, hO243 P), (244, hO244 P), (245, hO245 P), (246, hO246 P), (247, hO247 P), (248, hO248 P), (249, hO249 P), (250, hO250 P), (251, hO251 P), (252, hO252 P), (253, hO253 P), (254, hO254 P), (255, hO255 P), (256, hO256 P), (257, hO257 P), (258, hO258 P), (259, hO259 P), (260, hO260 P), (261, hO261 P), (262, hO262 P), (263, hO263 P), (264, hO264 P), (265, hO265 P), (266, hO266 P), (267, hO267 P), (268, hO268 P), (269, hO269 P), (270, hO270 P), (271, hO271 P), (272, hO272 P), (273, hO273 P), (274, hO274 P), (275, hO275 P), (276, hO276 P), (277, hO277 P), (278, hO278 P), (279, hO279 P), (280, hO280 P), (281, hO281 P), (282, hO282 P), (283, hO283 P), (284, hO284 P), (285, hO285 P), (286, hO286 P), (287, hO287 P), (288, hO288 P), (289, hO289 P), (290, hO290 P), (291, hO291 P), (292, hO292 P), (293, hO293 P), (294, hO294 P)]
noncomputable def kadr : List Nat := [0, 1, 2, 3, 4, 5, 6, 7, 8, 9, 10, 11, 12, 13, 14, 15, 16, 17, 18, 19, 20, 21, 22, 23, 24, 25, 26, 27, 28, 29, 30, 31, 32, 33, 34, 35, 36, 37, 38, 39, 40, 41, 42, 43, 44, 45, 46, 47, 48, 49, 50, 51, 52, 53, 54, 55, 56, 57, 58, 59, 60, 61, 62, 63, 64, 65, 66, 67, 68, 69, 70, 71, 72, 73, 74, 75, 76, 77, 78, 79, 80, 81, 82, 83, 84, 85, 86, 87, 88, 89, 90, 91, 92, 93, 94, 95, 96, 97, 98, 99, 100, 101, 102, 103, 104, 105, 106, 107, 108, 109, 110, 111, 112, 113, 114, 115, 116, 117, 118, 119, 120, 121, 122, 123, 124, 125, 126, 127, 128, 129, 130, 131, 132, 133, 134, 135, 136, 137, 138, 139, 140, 141, 142, 143, 144, 145, 146, 147, 148, 149, 150, 151, 152, 153, 154, 155, 156, 157, 158, 159, 160, 161, 162, 163, 164, 165, 166, 167, 168, 169, 170, 171, 172, 173, 174, 175, 176, 177, 178, 179, 180, 181, 182, 183, 184, 185, 186, 187, 188, 189, 190, 191, 192, 193, 194, 195, 196, 197, 198, 199, 200, 201, 202, 203, 204, 205, 206, 207, 208, 209, 210, 211, 212, 213, 214, 215, 216, 217, 218, 219, 220, 221, 222, 223, 224, 225, 226, 227, 228, 229, 230, 231, 232, 233, 234, 235, 236, 237, 238, 239, 240, 241, 242, 243, 244, 245, 246, 247, 248, 249, 250, 251, 252, 253, 254, 255, 256, 257, 258, 259, 260, 261, 262, 263, 264, 265, 266, 267, 268, 269, 270, 271, 272, 273, 274, 275, 276, 277, 278, 279, 280, 281, 282, 283, 284, 285, 286, 287, 288, 289, 290, 291, 292, 293, 294]
noncomputable def ktop (P : Params) : KT := .node (some (hO0 P)) (.node (some (hO1 P)) (.node (some (hO3 P)) (.node (some (hO7 P)) (.node (some (hO15 P)) (.node (some (hO31 P)) (.node (some (hO63 P)) (.node (some (hO127 P)) (.node (some (hO255 P)) .nil .nil) .nil) (.node (some (hO191 P)) .nil .nil)) (.node (some (hO95 P)) (.node (some (hO159 P)) (.node (some (hO287 P)) .nil .nil) .nil) (.node (some (hO223 P)) .nil .nil))) (.node (some (hO47 P)) (.node (some (hO79 P)) (.node (some (hO143 P)) (.node (some (hO271 P)) .nil .nil) .nil) (.node (some (hO207 P)) .nil .nil)) (.node (some (hO111 P)) (.node (some (hO175 P)) .nil .nil) (.node (some (hO239 P)) .nil .nil)))) (.node (some (hO23 P)) (.node (some (hO39 P)) (.node (some (hO71 P)) (.node (some (hO135 P)) (.node (some (hO263 P)) .nil .nil) .nil) (.node (some (hO199 P)) .nil .nil)) (.node (some (hO103 P)) (.node (some (hO167 P)) .nil .nil) (.node (some (hO231 P)) .nil .nil))) (.node (some (hO55 P)) (.node (some (hO87 P)) (.node (some (hO151 P)) (.node (some (hO279 P)) .nil .nil) .nil) (.node (some (hO215 P)) .nil .nil)) (.node (some (hO119 P)) (.node (some (hO183 P)) .nil .nil) (.node (some (hO247 P)) .nil .nil))))) (.node (some (hO11 P)) (.node (some (hO19 P)) (.node (some (hO35 P)) (.node (some (hO67 P)) (.node (some (hO131 P)) (.node (some (hO259 P)) .nil .nil) .nil) (.node (some (hO195 P)) .nil .nil)) (.node (some (hO99 P)) (.node (some (hO163 P)) (.node (some (hO291 P)) .nil .nil) .nil) (.node (some (hO227 P)) .nil .nil))) (.node (some (hO51 P)) (.node (some (hO83 P)) (.node (some (hO147 P)) (.node (some (hO275 P)) .nil .nil) .nil) (.node (some (hO211 P)) .nil .nil)) (.node (some (hO115 P)) (.node (some (hO179 P)) .nil .nil) (.node (some (hO243 P)) .nil .nil)))) (.node (some (hO27 P)) (.node (some (hO43 P)) (.node (some (hO75 P)) (.node (some (hO139 P)) (.node (some (hO267 P)) .nil .nil) .nil) (.node (some (hO203 P)) .nil .nil)) (.node (some (hO107 P)) (.node (some (hO171 P)) .nil .nil) (.node (some (hO235 P)) .nil .nil))) (.node (some (hO59 P)) (.node (some (hO91 P)) (.node (some (hO155 P)) (.node (some (hO283 P)) .nil .nil) .nil) (.node (some (hO219 P)) .nil .nil)) (.node (some (hO123 P)) (.node (some (hO187 P)) .nil .nil) (.node (some (hO251 P)) .nil .nil)))))) (.node (some (hO5 P)) (.node (some (hO9 P)) (.node (some (hO17 P)) (.node (some (hO33 P)) (.node (some (hO65 P)) (.node (some (hO129 P)) (.node (some (hO257 P)) .nil .nil) .nil) (.node (some (hO193 P)) .nil .nil)) (.node (some (hO97 P)) (.node (some (hO161 P)) (.node (some (hO289 P)) .nil .nil) .nil) (.node (some (hO225 P)) .nil .nil))) (.node (some (hO49 P)) (.node (some (hO81 P)) (.node (some (hO145 P)) (.node (some (hO273 P)) .nil .nil) .nil) (.node (some (hO209 P)) .nil .nil)) (.node (some (hO113 P)) (.node (some (hO177 P)) .nil .nil) (.node (some (hO241 P)) .nil .nil)))) (.node (some (hO25 P)) (.node (some (hO41 P)) (.node (some (hO73 P)) (.node (some (hO137 P)) (.node (some (hO265 P)) .nil .nil) .nil) (.node (some (hO201 P)) .nil .nil)) (.node (some (hO105 P)) (.node (some (hO169 P)) .nil .nil) (.node (some (hO233 P)) .nil .nil))) (.node (some (hO57 P)) (.node (some (hO89 P)) (.node (some (hO153 P)) (.node (some (hO281 P)) .nil .nil) .nil) (.node (some (hO217 P)) .nil .nil)) (.node (some (hO121 P)) (.node (some (hO185 P)) .nil .nil) (.node (some (hO249 P)) .nil .nil))))) (.node (some (hO13 P)) (.node (some (hO21 P)) (.node (some (hO37 P)) (.node (some (hO69 P)) (.node (some (hO133 P)) (.node (some (hO261 P)) .nil .nil) .nil) (.node (some (hO197 P)) .nil .nil)) (.node (some (hO101 P)) (.node (some (hO165 P)) (.node (some (hO293 P)) .nil .nil) .nil) (.node (some (hO229 P)) .nil .nil))) (.node (some (hO53 P)) (.node (some (hO85 P)) (.node (some (hO149 P)) (.node (some (hO277 P)) .nil .nil) .nil) (.node (some (hO213 P)) .nil .nil)) (.node (some (hO117 P)) (.node (some (hO181 P)) .nil .nil) (.node (some (hO245 P)) .nil .nil)))) (.node (some (hO29 P)) (.node (some (hO45 P)) (.node (some (hO77 P)) (.node (some (hO141 P)) (.node (some (hO269 P)) .nil .nil) .nil) (.node (some (hO205 P)) .nil .nil)) (.node (some (hO109 P)) (.node (some (hO173 P)) .nil .nil) (.node (some (hO237 P)) .nil .nil))) (.node (some (hO61 P)) (.node (some (hO93 P)) (.node (some (hO157 P)) (.node (some (hO285 P)) .nil .nil) .nil) (.node (some (hO221 P)) .nil .nil)) (.node (some (hO125 P)) (.node (some (hO189 P)) .nil .nil) (.node (some (hO253 P)) .nil .nil))))))) (.node (some (hO2 P)) (.node (some (hO4 P)) (.node (some (hO8 P)) (.node (some (hO16 P)) (.node (some (hO32 P)) (.node (some (hO64 P)) (.node (some (hO128 P)) (.node (some (hO256 P)) .nil .nil) .nil) (.node (some (hO192 P)) .nil .nil)) (.node (some (hO96 P)) (.node (some (hO160 P)) (.node (some (hO288 P)) .nil .nil) .nil) (.node (some (hO224 P)) .nil .nil))) (.node (some (hO48 P)) (.node (some (hO80 P)) (.node (some (hO144 P)) (.node (some (hO272 P)) .nil .nil) .nil) (.node (some (hO208 P)) .nil .nil)) (.node (some (hO112 P)) (.node (some (hO176 P)) .nil .nil) (.node (some (hO240 P)) .nil .nil)))) (.node (some (hO24 P)) (.node (some (hO40 P)) (.node (some (hO72 P)) (.node (some (hO136 P)) (.node (some (hO264 P)) .nil .nil) .nil) (.node (some (hO200 P)) .nil .nil)) (.node (some (hO104 P)) (.node (some (hO168 P)) .nil .nil) (.node (some (hO232 P)) .nil .nil))) (.node (some (hO56 P)) (.node (some (hO88 P)) (.node (some (hO152 P)) (.node (some (hO280 P)) .nil .nil) .nil) (.node (some (hO216 P)) .nil .nil)) (.node (some (hO120 P)) (.node (some (hO184 P)) .nil .nil) (.node (some (hO248 P)) .nil .nil))))) (.node (some (hO12 P)) (.node (some (hO20 P)) (.node (some (hO36 P)) (.node (some (hO68 P)) (.node (some (hO132 P)) (.node (some (hO260 P)) .nil .nil) .nil) (.node (some (hO196 P)) .nil .nil)) (.node (some (hO100 P)) (.node (some (hO164 P)) (.node (some (hO292 P)) .nil .nil) .nil) (.node (some (hO228 P)) .nil .nil))) (.node (some (hO52 P)) (.node (some (hO84 P)) (.node (some (hO148 P)) (.node (some (hO276 P)) .nil .nil) .nil) (.node (some (hO212 P)) .nil .nil)) (.node (some (hO116 P)) (.node (some (hO180 P)) .nil .nil) (.node (some (hO244 P)) .nil .nil)))) (.node (some (hO28 P)) (.node (some (hO44 P)) (.node (some (hO76 P)) (.node (some (hO140 P)) (.node (some (hO268 P)) .nil .nil) .nil) (.node (some (hO204 P)) .nil .nil)) (.node (some (hO108 P)) (.node (some (hO172 P)) .nil .nil) (.node (some (hO236 P)) .nil .nil))) (.node (some (hO60 P)) (.node (some (hO92 P)) (.node (some (hO156 P)) (.node (some (hO284 P)) .nil .nil) .nil) (.node (some (hO220 P)) .nil .nil)) (.node (some (hO124 P)) (.node (some (hO188 P)) .nil .nil) (.node (some (hO252 P)) .nil .nil)))))) (.node (some (hO6 P)) (.node (some (hO10 P)) (.node (some (hO18 P)) (.node (some (hO34 P)) (.node (some (hO66 P)) (.node (some (hO130 P)) (.node (some (hO258 P)) .nil .nil) .nil) (.node (some (hO194 P)) .nil .nil)) (.node (some (hO98 P)) (.node (some (hO162 P)) (.node (some (hO290 P)) .nil .nil) .nil) (.node (some (hO226 P)) .nil .nil))) (.node (some (hO50 P)) (.node (some (hO82 P)) (.node (some (hO146 P)) (.node (some (hO274 P)) .nil .nil) .nil) (.node (some (hO210 P)) .nil .nil)) (.node (some (hO114 P)) (.node (some (hO178 P)) .nil .nil) (.node (some (hO242 P)) .nil .nil)))) (.node (some (hO26 P)) (.node (some (hO42 P)) (.node (some (hO74 P)) (.node (some (hO138 P)) (.node (some (hO266 P)) .nil .nil) .nil) (.node (some (hO202 P)) .nil .nil)) (.node (some (hO106 P)) (.node (some (hO170 P)) .nil .nil) (.node (some (hO234 P)) .nil .nil))) (.node (some (hO58 P)) (.node (some (hO90 P)) (.node (some (hO154 P)) (.node (some (hO282 P)) .nil .nil) .nil) (.node (some (hO218 P)) .nil .nil)) (.node (some (hO122 P)) (.node (some (hO186 P)) .nil .nil) (.node (some (hO250 P)) .nil .nil))))) (.node (some (hO14 P)) (.node (some (hO22 P)) (.node (some (hO38 P)) (.node (some (hO70 P)) (.node (some (hO134 P)) (.node (some (hO262 P)) .nil .nil) .nil) (.node (some (hO198 P)) .nil .nil)) (.node (some (hO102 P)) (.node (some (hO166 P)) (.node (some (hO294 P)) .nil .nil) .nil) (.node (some (hO230 P)) .nil .nil))) (.node (some (hO54 P)) (.node (some (hO86 P)) (.node (some (hO150 P)) (.node (some (hO278 P)) .nil .nil) .nil) (.node (some (hO214 P)) .nil .nil)) (.node (some (hO118 P)) (.node (some (hO182 P)) .nil .nil) (.node (some (hO246 P)) .nil .nil)))) (.node (some (hO30 P)) (.node (some (hO46 P)) (.node (some (hO78 P)) (.node (some (hO142 P)) (.node (some (hO270 P)) .nil .nil) .nil) (.node (some (hO206 P)) .nil .nil)) (.node (some (hO110 P)) (.node (some (hO174 P)) .nil .nil) (.node (some (hO238 P)) .nil .nil))) (.node (some (hO62 P)) (.node (some (hO94 P)) (.node (some (hO158 P)) (.node (some (hO286 P)) .nil .nil) .nil) (.node (some (hO222 P)) .nil .nil)) (.node (some (hO126 P)) (.node (some (hO190 P)) .nil .nil) (.node (some (hO254 P)) .nil .nil)))))))
theorem kadr_eq (P : Params) : kadr = (kfrag P).map (·.1) := by kernel_rfl
theorem ktop_eq (P : Params) : KT.of (kfrag P) = ktop P := by kernel_rfl
noncomputable abbrev hdtq := PySem.W.Fast.tw14364793385576792824
theorem hdqO : ∀ w : World, PySem.W.Fast.tw10274390034422433532 hdtq (opening hdpq) w 4000 (PySem.W.Fast.tw1435165496053646825 (opening hdpq)).1 (PySem.W.Fast.tw1435165496053646825 (opening hdpq)).2 = some ⟨hpE w.params, ⟨[]⟩, ⟨0, 0, 0, 0⟩, 276, (PySem.W.Fast.tw1435165496053646825 (opening hdpq)).1.os⟩ := by
  intro w; kernel_rfl
theorem hdrO : ∀ w : World, importEnds treeTable (opening PySem.Challenge.pw_rw0104_01) w 4000 (start (opening PySem.Challenge.pw_rw0104_01)).1 (start (opening PySem.Challenge.pw_rw0104_01)).2 = some ⟨hpE w.params, ⟨[]⟩, ⟨0, 0, 0, 0⟩, 276, (start (opening PySem.Challenge.pw_rw0104_01)).1.os⟩ := by
  rw [hdpq_eq, PySem.W.Fast.te10274390034422433532, PySem.W.Fast.te14364793385576792824, PySem.W.Fast.te1435165496053646825]
  exact hdqO
theorem hdqF : ∀ w : World, (fun os => Option.map (fun s => (s.heap, s.gens, s.drawn, s.toks)) (PySem.W.Fast.tw14289696077712309145 hdpq ⟨hpE w.params, ⟨[]⟩, ⟨0, 0, 0, 0⟩, 276, os⟩)) = fun _ => some (hp0 w.params, (⟨[]⟩ : Array GenState), (⟨0, 0, 0, 0⟩ : Drawn), 276) := by
  intro w; kernel_rfl
theorem hdrF : ∀ w : World, (fun os => Option.map (fun s => (s.heap, s.gens, s.drawn, s.toks)) (fenceModules? PySem.Challenge.pw_rw0104_01 ⟨hpE w.params, ⟨[]⟩, ⟨0, 0, 0, 0⟩, 276, os⟩)) = fun _ => some (hp0 w.params, (⟨[]⟩ : Array GenState), (⟨0, 0, 0, 0⟩ : Drawn), 276) := by
  rw [hdpq_eq, PySem.W.Fast.te14289696077712309145]
  exact hdqF
theorem hdqS : ∀ w : World, ((hp0 w.params).isNs mainGlobals && (⟨[]⟩ : Array GenState).size == 0, (hp0 w.params).objs.size, PySem.W.Fast.tw8920871248978507458 (hp0 w.params) mainGlobals (Str.ofString "__annotations__")) = (true, 28, some (.ref 6)) := by
  intro w; kernel_rfl
theorem hdrS : ∀ w : World, ((hp0 w.params).isNs mainGlobals && (⟨[]⟩ : Array GenState).size == 0, (hp0 w.params).objs.size, (hp0 w.params).nsMap mainGlobals (Str.ofString "__annotations__")) = (true, 28, some (.ref 6)) := by
  rw [PySem.W.Fast.te8920871248978507458]
  exact hdqS
noncomputable def hC0x3 (P : Params) : Obj := ⟨(.type "dict"), none, (.dict ⟨[⟨(PyData.keyHash P hN0), (.str hN0 165), (.str hN160 164)⟩, ⟨(PyData.keyHash P hN2), (.str hN2 166), .none⟩, ⟨(PyData.keyHash P hN3), (.str hN3 167), .none⟩, ⟨(PyData.keyHash P hN4), (.str hN4 168), (.builtin "__main__.__loader__#opaque")⟩, ⟨(PyData.keyHash P hN5), (.str hN5 169), .none⟩, ⟨(PyData.keyHash P hN174), (.str hN174 170), (.ref 6)⟩, ⟨(PyData.keyHash P hN175), (.str hN175 171), (.ref 4)⟩, ⟨(PyData.keyHash P hN176), (.str hN176 173), (.str hN177 172)⟩, ⟨(PyData.keyHash P hN178), (.str hN178 174), .none⟩, ⟨(PyData.keyHash P hN161), (.str hN161 275), (.ref 12)⟩]⟩ 10), ⟨[]⟩⟩
noncomputable def hC0x29 (P : Params) : Obj := ⟨.none, none, (.fields ⟨[]⟩), ⟨[]⟩⟩
noncomputable def hpc0 (P : Params) : Heap := ⟨⟨[hO0 P, hO1 P, hO2 P, hC0x3 P, hO4 P, hO5 P, hO6 P, hO7 P, hO8 P, hO9 P, hO10 P, hO11 P, hO12 P, hO13 P, hO14 P, hO15 P, hO16 P, hO17 P, hO18 P, hO19 P, hO20 P, hO21 P, hO22 P, hO23 P, hO24 P, hO25 P, hO26 P, hO27 P, hO28 P, hC0x29 P, hO30 P, hO31 P]⟩, {}⟩
noncomputable def hC1x3 (P : Params) : Obj := ⟨(.type "dict"), none, (.dict ⟨[⟨(PyData.keyHash P hN0), (.str hN0 165), (.str hN260 289)⟩, ⟨(PyData.keyHash P hN2), (.str hN2 166), .none⟩, ⟨(PyData.keyHash P hN3), (.str hN3 167), .none⟩, ⟨(PyData.keyHash P hN4), (.str hN4 168), (.builtin "__main__.__loader__#opaque")⟩, ⟨(PyData.keyHash P hN5), (.str hN5 169), .none⟩, ⟨(PyData.keyHash P hN174), (.str hN174 170), (.ref 6)⟩, ⟨(PyData.keyHash P hN175), (.str hN175 171), (.ref 4)⟩, ⟨(PyData.keyHash P hN176), (.str hN176 173), (.str hN177 172)⟩, ⟨(PyData.keyHash P hN178), (.str hN178 174), .none⟩, ⟨(PyData.keyHash P hN161), (.str hN161 275), (.ref 12)⟩, ⟨(PyData.keyHash P hN179), (.str hN179 288), (.ref 38)⟩, ⟨(PyData.keyHash P hN180), (.str hN180 321), (.ref 39)⟩]⟩ 12), ⟨[]⟩⟩
noncomputable def hC1x29 (P : Params) : Obj := ⟨.none, none, (.fields ⟨[(.int 2 0), (.int 0 0), (.ref 37)]⟩), ⟨[]⟩⟩
noncomputable def hpc1 (P : Params) : Heap := ⟨⟨[hO0 P, hO1 P, hO2 P, hC1x3 P, hO4 P, hO5 P, hO6 P, hO7 P, hO8 P, hO9 P, hO10 P, hO11 P, hO12 P, hO13 P, hO14 P, hO15 P, hO16 P, hO17 P, hO18 P, hO19 P, hO20 P, hO21 P, hO22 P, hO23 P, hO24 P, hO25 P, hO26 P, hO27 P, hO28 P, hC1x29 P, hO30 P, hO31 P, hO32 P, hO33 P, hO34 P, hO35 P, hO36 P, hO37 P, hO38 P, hO39 P]⟩, {}⟩
noncomputable def hC2x3 (P : Params) : Obj := ⟨(.type "dict"), none, (.dict ⟨[⟨(PyData.keyHash P hN0), (.str hN0 165), (.str hN264 341)⟩, ⟨(PyData.keyHash P hN2), (.str hN2 166), .none⟩, ⟨(PyData.keyHash P hN3), (.str hN3 167), .none⟩, ⟨(PyData.keyHash P hN4), (.str hN4 168), (.builtin "__main__.__loader__#opaque")⟩, ⟨(PyData.keyHash P hN5), (.str hN5 169), .none⟩, ⟨(PyData.keyHash P hN174), (.str hN174 170), (.ref 6)⟩, ⟨(PyData.keyHash P hN175), (.str hN175 171), (.ref 4)⟩, ⟨(PyData.keyHash P hN176), (.str hN176 173), (.str hN177 172)⟩, ⟨(PyData.keyHash P hN178), (.str hN178 174), .none⟩, ⟨(PyData.keyHash P hN161), (.str hN161 275), (.ref 12)⟩, ⟨(PyData.keyHash P hN179), (.str hN179 288), (.ref 38)⟩, ⟨(PyData.keyHash P hN180), (.str hN180 321), (.ref 39)⟩, ⟨(PyData.keyHash P hN181), (.str hN181 331), (.ref 46)⟩, ⟨(PyData.keyHash P hN182), (.str hN182 340), (.ref 53)⟩, ⟨(PyData.keyHash P hN183), (.str hN183 400), (.ref 91)⟩]⟩ 15), ⟨[]⟩⟩
noncomputable def hC2x29 (P : Params) : Obj := ⟨.none, none, (.fields ⟨[(.int 2 0), (.int 0 0), (.ref 37), (.int 7 0), (.int 0 0), (.ref 45), (.int 19 0), (.int 0 0), (.ref 52), (.int 28 0), (.int 0 0), (.ref 59)]⟩), ⟨[]⟩⟩
noncomputable def hpc2 (P : Params) : Heap := ⟨⟨[hO0 P, hO1 P, hO2 P, hC2x3 P, hO4 P, hO5 P, hO6 P, hO7 P, hO8 P, hO9 P, hO10 P, hO11 P, hO12 P, hO13 P, hO14 P, hO15 P, hO16 P, hO17 P, hO18 P, hO19 P, hO20 P, hO21 P, hO22 P, hO23 P, hO24 P, hO25 P, hO26 P, hO27 P, hO28 P, hC2x29 P, hO30 P, hO31 P, hO32 P, hO33 P, hO34 P, hO35 P, hO36 P, hO37 P, hO38 P, hO39 P, hO40 P, hO41 P, hO42 P, hO43 P, hO44 P, hO45 P, hO46 P, hO47 P, hO48 P, hO49 P, hO50 P, hO51 P, hO52 P, hO53 P, hO54 P, hO55 P, hO56 P, hO57 P, hO58 P, hO59 P, hO60 P, hO61 P, hO62 P, hO63 P, hO64 P, hO65 P, hO66 P, hO67 P, hO68 P, hO69 P, hO70 P, hO71 P, hO72 P, hO73 P, hO74 P, hO75 P, hO76 P, hO77 P, hO78 P, hO79 P, hO80 P, hO81 P, hO82 P, hO83 P, hO84 P, hO85 P, hO86 P, hO87 P, hO88 P, hO89 P, hO90 P, hO91 P, hO92 P, hO93 P, hO94 P, hO95 P]⟩, {}⟩
noncomputable def hC3x3 (P : Params) : Obj := ⟨(.type "dict"), none, (.dict ⟨[⟨(PyData.keyHash P hN0), (.str hN0 165), (.str hN284 401)⟩, ⟨(PyData.keyHash P hN2), (.str hN2 166), .none⟩, ⟨(PyData.keyHash P hN3), (.str hN3 167), .none⟩, ⟨(PyData.keyHash P hN4), (.str hN4 168), (.builtin "__main__.__loader__#opaque")⟩, ⟨(PyData.keyHash P hN5), (.str hN5 169), .none⟩, ⟨(PyData.keyHash P hN174), (.str hN174 170), (.ref 6)⟩, ⟨(PyData.keyHash P hN175), (.str hN175 171), (.ref 4)⟩, ⟨(PyData.keyHash P hN176), (.str hN176 173), (.str hN177 172)⟩, ⟨(PyData.keyHash P hN178), (.str hN178 174), .none⟩, ⟨(PyData.keyHash P hN161), (.str hN161 275), (.ref 12)⟩, ⟨(PyData.keyHash P hN179), (.str hN179 288), (.ref 38)⟩, ⟨(PyData.keyHash P hN180), (.str hN180 321), (.ref 39)⟩, ⟨(PyData.keyHash P hN181), (.str hN181 331), (.ref 46)⟩, ⟨(PyData.keyHash P hN182), (.str hN182 340), (.ref 53)⟩, ⟨(PyData.keyHash P hN183), (.str hN183 400), (.ref 91)⟩, ⟨(PyData.keyHash P hN184), (.str hN184 428), (.ref 100)⟩, ⟨(PyData.keyHash P hN185), (.str hN185 462), (.ref 105)⟩]⟩ 17), ⟨[]⟩⟩
noncomputable def hC3x29 (P : Params) : Obj := ⟨.none, none, (.fields ⟨[(.int 2 0), (.int 0 0), (.ref 37), (.int 7 0), (.int 0 0), (.ref 45), (.int 19 0), (.int 0 0), (.ref 52), (.int 28 0), (.int 0 0), (.ref 59)]⟩), ⟨[]⟩⟩
noncomputable def hpc3 (P : Params) : Heap := ⟨⟨[hO0 P, hO1 P, hO2 P, hC3x3 P, hO4 P, hO5 P, hO6 P, hO7 P, hO8 P, hO9 P, hO10 P, hO11 P, hO12 P, hO13 P, hO14 P, hO15 P, hO16 P, hO17 P, hO18 P, hO19 P, hO20 P, hO21 P, hO22 P, hO23 P, hO24 P, hO25 P, hO26 P, hO27 P, hO28 P, hC3x29 P, hO30 P, hO31 P, hO32 P, hO33 P, hO34 P, hO35 P, hO36 P, hO37 P, hO38 P, hO39 P, hO40 P, hO41 P, hO42 P, hO43 P, hO44 P, hO45 P, hO46 P, hO47 P, hO48 P, hO49 P, hO50 P, hO51 P, hO52 P, hO53 P, hO54 P, hO55 P, hO56 P, hO57 P, hO58 P, hO59 P, hO60 P, hO61 P, hO62 P, hO63 P, hO64 P, hO65 P, hO66 P, hO67 P, hO68 P, hO69 P, hO70 P, hO71 P, hO72 P, hO73 P, hO74 P, hO75 P, hO76 P, hO77 P, hO78 P, hO79 P, hO80 P, hO81 P, hO82 P, hO83 P, hO84 P, hO85 P, hO86 P, hO87 P, hO88 P, hO89 P, hO90 P, hO91 P, hO92 P, hO93 P, hO94 P, hO95 P, hO96 P, hO97 P, hO98 P, hO99 P, hO100 P, hO101 P, hO102 P, hO103 P, hO104 P, hO105 P]⟩, {}⟩
noncomputable def hC4x3 (P : Params) : Obj := ⟨(.type "dict"), none, (.dict ⟨[⟨(PyData.keyHash P hN0), (.str hN0 165), (.str hN284 401)⟩, ⟨(PyData.keyHash P hN2), (.str hN2 166), .none⟩, ⟨(PyData.keyHash P hN3), (.str hN3 167), .none⟩, ⟨(PyData.keyHash P hN4), (.str hN4 168), (.builtin "__main__.__loader__#opaque")⟩, ⟨(PyData.keyHash P hN5), (.str hN5 169), .none⟩, ⟨(PyData.keyHash P hN174), (.str hN174 170), (.ref 6)⟩, ⟨(PyData.keyHash P hN175), (.str hN175 171), (.ref 4)⟩, ⟨(PyData.keyHash P hN176), (.str hN176 173), (.str hN177 172)⟩, ⟨(PyData.keyHash P hN178), (.str hN178 174), .none⟩, ⟨(PyData.keyHash P hN161), (.str hN161 275), (.ref 12)⟩, ⟨(PyData.keyHash P hN179), (.str hN179 288), (.ref 38)⟩, ⟨(PyData.keyHash P hN180), (.str hN180 321), (.ref 39)⟩, ⟨(PyData.keyHash P hN181), (.str hN181 331), (.ref 46)⟩, ⟨(PyData.keyHash P hN182), (.str hN182 340), (.ref 53)⟩, ⟨(PyData.keyHash P hN183), (.str hN183 400), (.ref 91)⟩, ⟨(PyData.keyHash P hN184), (.str hN184 428), (.ref 100)⟩, ⟨(PyData.keyHash P hN185), (.str hN185 462), (.ref 105)⟩, ⟨(PyData.keyHash P hN186), (.str hN186 619), (.ref 228)⟩]⟩ 18), ⟨[]⟩⟩
noncomputable def hC4x29 (P : Params) : Obj := ⟨.none, none, (.fields ⟨[(.int 2 0), (.int 0 0), (.ref 37), (.int 7 0), (.int 0 0), (.ref 45), (.int 19 0), (.int 0 0), (.ref 52), (.int 28 0), (.int 0 0), (.ref 59), (.int 74 0), (.int 0 0), (.ref 111)]⟩), ⟨[]⟩⟩
noncomputable def hpc4 (P : Params) : Heap := ⟨⟨[hO0 P, hO1 P, hO2 P, hC4x3 P, hO4 P, hO5 P, hO6 P, hO7 P, hO8 P, hO9 P, hO10 P, hO11 P, hO12 P, hO13 P, hO14 P, hO15 P, hO16 P, hO17 P, hO18 P, hO19 P, hO20 P, hO21 P, hO22 P, hO23 P, hO24 P, hO25 P, hO26 P, hO27 P, hO28 P, hC4x29 P, hO30 P, hO31 P, hO32 P, hO33 P, hO34 P, hO35 P, hO36 P, hO37 P, hO38 P, hO39 P, hO40 P, hO41 P, hO42 P, hO43 P, hO44 P, hO45 P, hO46 P, hO47 P, hO48 P, hO49 P, hO50 P, hO51 P, hO52 P, hO53 P, hO54 P, hO55 P, hO56 P, hO57 P, hO58 P, hO59 P, hO60 P, hO61 P, hO62 P, hO63 P, hO64 P, hO65 P, hO66 P, hO67 P, hO68 P, hO69 P, hO70 P, hO71 P, hO72 P, hO73 P, hO74 P, hO75 P, hO76 P, hO77 P, hO78 P, hO79 P, hO80 P, hO81 P, hO82 P, hO83 P, hO84 P, hO85 P, hO86 P, hO87 P, hO88 P, hO89 P, hO90 P, hO91 P, hO92 P, hO93 P, hO94 P, hO95 P, hO96 P, hO97 P, hO98 P, hO99 P, hO100 P, hO101 P, hO102 P, hO103 P, hO104 P, hO105 P, hO106 P, hO107 P, hO108 P, hO109 P, hO110 P, hO111 P, hO112 P, hO113 P, hO114 P, hO115 P, hO116 P, hO117 P, hO118 P, hO119 P, hO120 P, hO121 P, hO122 P, hO123 P, hO124 P, hO125 P, hO126 P, hO127 P, hO128 P, hO129 P, hO130 P, hO131 P, hO132 P, hO133 P, hO134 P, hO135 P, hO136 P, hO137 P, hO138 P, hO139 P, hO140 P, hO141 P, hO142 P, hO143 P, hO144 P, hO145 P, hO146 P, hO147 P, hO148 P, hO149 P, hO150 P, hO151 P, hO152 P, hO153 P, hO154 P, hO155 P, hO156 P, hO157 P, hO158 P, hO159 P, hO160 P, hO161 P, hO162 P, hO163 P, hO164 P, hO165 P, hO166 P, hO167 P, hO168 P, hO169 P, hO170 P, hO171 P, hO172 P, hO173 P, hO174 P, hO175 P, hO176 P, hO177 P, hO178 P, hO179 P, hO180 P, hO181 P, hO182 P, hO183 P, hO184 P, hO185 P, hO186 P, hO187 P, hO188 P, hO189 P, hO190 P, hO191 P, hO192 P, hO193 P, hO194 P, hO195 P, hO196 P, hO197 P, hO198 P, hO199 P, hO200 P, hO201 P, hO202 P, hO203 P, hO204 P, hO205 P, hO206 P, hO207 P, hO208 P, hO209 P, hO210 P, hO211 P, hO212 P, hO213 P, hO214 P, hO215 P, hO216 P, hO217 P, hO218 P, hO219 P, hO220 P, hO221 P, hO222 P, hO223 P, hO224 P, hO225 P, hO226 P, hO227 P, hO228 P, hO229 P, hO230 P, hO231 P, hO232 P]⟩, {}⟩
noncomputable def hdB (p : Program) : List Stmt := behindTheImports p
noncomputable def hdE (p : Program) : Env := { scope := p.main.scope, locals := mainNs, globals := mainNs, cells := [], code := .ref 30, frame := some 31 }
noncomputable def hdK (p : Program) : Code := .body (hdB p) (hdE p)
noncomputable def hdSt (H : Params → Heap) (k : Nat) (w : World) (os : OsState) : Shared := ⟨H w.params, ⟨[]⟩, ⟨0, 0, 0, 0⟩, k, os⟩
noncomputable def hdL (p : Program) : Nat → List Stmt
  | 0 => [nthS (hdB p) 0, nthS (hdB p) 1, nthS (hdB p) 2]
  | 1 => [nthS (hdB p) 3, nthS (hdB p) 4, nthS (hdB p) 5, nthS (hdB p) 6]
  | 2 => [nthS (hdB p) 7, nthS (hdB p) 8, nthS (hdB p) 9]
  | 3 => [nthS (hdB p) 10]
  | 4 => [nthS (hdB p) 11, nthS (hdB p) 12, nthS (hdB p) 13, nthS (hdB p) 14, nthS (hdB p) 15, nthS (hdB p) 16, nthS (hdB p) 17, nthS (hdB p) 18, nthS (hdB p) 19, nthS (hdB p) 20, nthS (hdB p) 21]
  | _ => []
theorem hdL_eq : hdB hdpq = hdL hdpq 0 ++ (hdL hdpq 1 ++ (hdL hdpq 2 ++ (hdL hdpq 3 ++ (hdL hdpq 4 ++ [])))) := by kernel_rfl
theorem hdq0f (w : World) (os : OsState) : PySem.W.Fast.tw14374325043358763698 hdtq hdpq (w.withFollow "special-get-raises" false) 28 (some (.ref 6)) 1 179 (hdSt hpc0 282 (w.withFollow "special-get-raises" false) os) ⟨(PySem.W.Fast.tw12563942051412417395 (hdL hdpq 0) (hdE hdpq)).wrap doneF deadEnd id id, hdK hdpq, ⟨0, 0, 0, 0⟩, [topFrame ⟨0, 0, 0, 0⟩]⟩ = some (.next, (hdSt hpc1 322 (w.withFollow "special-get-raises" false) os), hdK hdpq, ⟨6, 0, 6, 19⟩) := by kernel_rfl
theorem hdq0t (w : World) (os : OsState) : PySem.W.Fast.tw14374325043358763698 hdtq hdpq (w.withFollow "special-get-raises" true) 28 (some (.ref 6)) 1 179 (hdSt hpc0 282 (w.withFollow "special-get-raises" true) os) ⟨(PySem.W.Fast.tw12563942051412417395 (hdL hdpq 0) (hdE hdpq)).wrap doneF deadEnd id id, hdK hdpq, ⟨0, 0, 0, 0⟩, [topFrame ⟨0, 0, 0, 0⟩]⟩ = some (.next, (hdSt hpc1 322 (w.withFollow "special-get-raises" true) os), hdK hdpq, ⟨6, 0, 6, 19⟩) := by kernel_rfl
theorem hdq1 (w : World) (os : OsState) : PySem.W.Fast.tw14374325043358763698 hdtq hdpq w 28 (some (.ref 6)) 1 396 (hdSt hpc1 322 w os) ⟨(PySem.W.Fast.tw12563942051412417395 (hdL hdpq 1) (hdE hdpq)).wrap doneF deadEnd id id, hdK hdpq, ⟨6, 0, 6, 19⟩, [topFrame ⟨0, 0, 0, 0⟩]⟩ = some (.next, (hdSt hpc2 401 w os), hdK hdpq, ⟨28, 0, 70, 35⟩) := by kernel_rfl
theorem hdq2 (w : World) (os : OsState) : PySem.W.Fast.tw14374325043358763698 hdtq hdpq w 28 (some (.ref 6)) 1 156 (hdSt hpc2 401 w os) ⟨(PySem.W.Fast.tw12563942051412417395 (hdL hdpq 2) (hdE hdpq)).wrap doneF deadEnd id id, hdK hdpq, ⟨28, 0, 70, 35⟩, [topFrame ⟨0, 0, 0, 0⟩]⟩ = some (.next, (hdSt hpc3 463 w os), hdK hdpq, ⟨73, 0, 73, 20⟩) := by kernel_rfl
theorem hdq3 (w : World) (os : OsState) : PySem.W.Fast.tw14374325043358763698 hdtq hdpq w 28 (some (.ref 6)) 1 729 (hdSt hpc3 463 w os) ⟨(PySem.W.Fast.tw12563942051412417395 (hdL hdpq 3) (hdE hdpq)).wrap doneF deadEnd id id, hdK hdpq, ⟨73, 0, 73, 20⟩, [topFrame ⟨0, 0, 0, 0⟩]⟩ = some (.next, (hdSt hpc4 620 w os), hdK hdpq, ⟨74, 0, 148, 16⟩) := by kernel_rfl
theorem hdq4 (w : World) (os : OsState) : PySem.W.Fast.tw14374325043358763698 hdtq hdpq w 28 (some (.ref 6)) 1 306 (hdSt hpc4 620 w os) ⟨(PySem.W.Fast.tw12563942051412417395 (hdL hdpq 4) (hdE hdpq)).wrap doneF deadEnd id id, hdK hdpq, ⟨74, 0, 148, 16⟩, [topFrame ⟨0, 0, 0, 0⟩]⟩ = some (.next, (hdSt hp1 706 w os), hdK hdpq, ⟨210, 0, 226, 75⟩) := by kernel_rfl
theorem hdqa (w : World) (os : OsState) : PySem.W.Fast.tw15667345088766844465 hdtq hdpq w 28 (some (.ref 6)) 12 (hdSt hp0 276 w os) (topStub hdpq) = some ((hdSt hpc0 282 w os), ⟨PySem.W.Fast.tw11892475500146522536 hdtq (hdK hdpq), hdK hdpq, ⟨0, 0, 0, 0⟩, [topFrame ⟨0, 0, 0, 0⟩]⟩) := by kernel_rfl
theorem hdqb (w : World) (os : OsState) : PySem.W.Fast.tw14374325043358763698 hdtq hdpq w 28 (some (.ref 6)) 1 1 (hdSt hpc0 282 w os) ⟨(PySem.W.Fast.tw1066825118222455980 (hdB hdpq) (hdE hdpq)).wrap (fun _ => doneF .next) deadEnd id id, hdK hdpq, ⟨0, 0, 0, 0⟩, [topFrame ⟨0, 0, 0, 0⟩]⟩ = some (.next, (hdSt hpc0 282 w os), hdK hdpq, ⟨0, 0, 0, 0⟩) := by kernel_rfl
theorem hdqc (w : World) (os : OsState) : PySem.W.Fast.tw14082659384304107361 hdtq hdpq w 28 (some (.ref 6)) 2 (hdSt hp1 706 w os) ⟨doneF .next, hdK hdpq, ⟨210, 0, 226, 75⟩, [topFrame ⟨0, 0, 0, 0⟩]⟩ = some (hdSt hp1 706 w os) := by kernel_rfl
theorem hdp0 (w : World) (os : OsState) : segRun treeTable hdpq w 28 (some (.ref 6)) 1 179 (hdSt hpc0 282 w os) (piecesOf (hdL hdpq 0) (hdE hdpq) (hdK hdpq) ⟨0, 0, 0, 0⟩ [topFrame ⟨0, 0, 0, 0⟩]) = some (.next, (hdSt hpc1 322 w os), hdK hdpq, ⟨6, 0, 6, 19⟩) := by
  unfold piecesOf
  rw [PySem.W.Fast.te14374325043358763698, PySem.W.Fast.te12563942051412417395, PySem.W.Fast.te14364793385576792824]
  revert os; revert w
  exact byRow2 "special-get-raises" hdq0f hdq0t
theorem hdp1 (w : World) (os : OsState) : segRun treeTable hdpq w 28 (some (.ref 6)) 1 396 (hdSt hpc1 322 w os) (piecesOf (hdL hdpq 1) (hdE hdpq) (hdK hdpq) ⟨6, 0, 6, 19⟩ [topFrame ⟨0, 0, 0, 0⟩]) = some (.next, (hdSt hpc2 401 w os), hdK hdpq, ⟨28, 0, 70, 35⟩) := by
  unfold piecesOf
  rw [PySem.W.Fast.te14374325043358763698, PySem.W.Fast.te12563942051412417395, PySem.W.Fast.te14364793385576792824]
  exact hdq1 w os
theorem hdp2 (w : World) (os : OsState) : segRun treeTable hdpq w 28 (some (.ref 6)) 1 156 (hdSt hpc2 401 w os) (piecesOf (hdL hdpq 2) (hdE hdpq) (hdK hdpq) ⟨28, 0, 70, 35⟩ [topFrame ⟨0, 0, 0, 0⟩]) = some (.next, (hdSt hpc3 463 w os), hdK hdpq, ⟨73, 0, 73, 20⟩) := by
  unfold piecesOf
  rw [PySem.W.Fast.te14374325043358763698, PySem.W.Fast.te12563942051412417395, PySem.W.Fast.te14364793385576792824]
  exact hdq2 w os
theorem hdp3 (w : World) (os : OsState) : segRun treeTable hdpq w 28 (some (.ref 6)) 1 729 (hdSt hpc3 463 w os) (piecesOf (hdL hdpq 3) (hdE hdpq) (hdK hdpq) ⟨73, 0, 73, 20⟩ [topFrame ⟨0, 0, 0, 0⟩]) = some (.next, (hdSt hpc4 620 w os), hdK hdpq, ⟨74, 0, 148, 16⟩) := by
  unfold piecesOf
  rw [PySem.W.Fast.te14374325043358763698, PySem.W.Fast.te12563942051412417395, PySem.W.Fast.te14364793385576792824]
  exact hdq3 w os
theorem hdp4 (w : World) (os : OsState) : segRun treeTable hdpq w 28 (some (.ref 6)) 1 306 (hdSt hpc4 620 w os) (piecesOf (hdL hdpq 4) (hdE hdpq) (hdK hdpq) ⟨74, 0, 148, 16⟩ [topFrame ⟨0, 0, 0, 0⟩]) = some (.next, (hdSt hp1 706 w os), hdK hdpq, ⟨210, 0, 226, 75⟩) := by
  unfold piecesOf
  rw [PySem.W.Fast.te14374325043358763698, PySem.W.Fast.te12563942051412417395, PySem.W.Fast.te14364793385576792824]
  exact hdq4 w os
theorem hdpa (w : World) (os : OsState) : topGo treeTable hdpq w 28 (some (.ref 6)) 12 (hdSt hp0 276 w os) (topStub hdpq) = some ((hdSt hpc0 282 w os), ⟨denote treeTable (hdK hdpq), hdK hdpq, ⟨0, 0, 0, 0⟩, [topFrame ⟨0, 0, 0, 0⟩]⟩) := by
  rw [PySem.W.Fast.te15667345088766844465, PySem.W.Fast.te11892475500146522536, PySem.W.Fast.te14364793385576792824]
  exact hdqa w os
theorem hdpb (w : World) (os : OsState) : segRun treeTable hdpq w 28 (some (.ref 6)) 1 1 (hdSt hpc0 282 w os) (blockOf (hdB hdpq) (hdE hdpq) (hdK hdpq) ⟨0, 0, 0, 0⟩ [topFrame ⟨0, 0, 0, 0⟩]) = some (.next, (hdSt hpc0 282 w os), hdK hdpq, ⟨0, 0, 0, 0⟩) := by
  unfold blockOf
  rw [PySem.W.Fast.te14374325043358763698, PySem.W.Fast.te1066825118222455980, PySem.W.Fast.te14364793385576792824]
  exact hdqb w os
theorem hdpc (w : World) (os : OsState) : topRun treeTable hdpq w 28 (some (.ref 6)) 2 (hdSt hp1 706 w os) ⟨doneF .next, hdK hdpq, ⟨210, 0, 226, 75⟩, [topFrame ⟨0, 0, 0, 0⟩]⟩ = some (hdSt hp1 706 w os) := by
  rw [PySem.W.Fast.te14082659384304107361, PySem.W.Fast.te14364793385576792824]
  exact hdqc w os
theorem hdrR : ∀ (w : World) (os : OsState), topRun treeTable PySem.Challenge.pw_rw0104_01 w 28 (some (.ref 6)) 4000 ⟨hp0 w.params, ⟨[]⟩, ⟨0, 0, 0, 0⟩, 276, os⟩ (topStub PySem.Challenge.pw_rw0104_01) = some ⟨hp1 w.params, ⟨[]⟩, ⟨0, 0, 0, 0⟩, 706, os⟩ := by
  intro w os
  rw [hdpq_eq]
  have k5 := piece_nil (env := hdE hdpq) (hdpc w os)
  have k4 := piece_app (hdp4 w os) k5
  have k3 := piece_app (hdp3 w os) k4
  have k2 := piece_app (hdp2 w os) k3
  have k1 := piece_app (hdp1 w os) k2
  have k0 := piece_app (hdp0 w os) k1
  rw [← hdL_eq] at k0
  have kb := piece_block (hdpb w os) k0
  have ka := go_top (hdpa w os) kb
  exact topRun_mono 2219 _ _ _ _ ka
noncomputable def selS (l : List Stmt) : List Stmt := [nthS l 0, nthS l 1, nthS l 3, nthS l 4, nthS l 5, nthS l 7, nthS l 9, nthS l 10, nthS l 11, nthS l 13, nthS l 14, nthS l 15, nthS l 16, nthS l 17, nthS l 18, nthS l 19, nthS l 20, nthS l 21, nthS l 22]
noncomputable def viewQ (p : Program) : Program := { p with main := { p.main with body := selS p.main.body } }
noncomputable def looseL : List Str := ["COMPILER_FLAG_NAMES", "_name_disallowed_re", "_value_disallowed_re"]
noncomputable def shEnd (w : World) (os : OsState) : Shared := ⟨hp1 w.params, ⟨[]⟩, ⟨0, 0, 0, 0⟩, 706, os⟩
noncomputable def xtL (p : Program) (s : Shared) : Bool := xlAt (viewQ p) [] s && recOk PySem.Challenge.rw_rw0104_01.row.toRowW.records s
theorem hdl3 (w : World) (os : OsState) : obsZ kadr (shEnd w os) = valZ kfrag 295 706 w := by kernel_rfl
theorem hdl1 (w : World) (os : OsState) : (staticsOk (PySem.W.Fast.tw5923862056798008813 hdpq.main.body) (hp0 w.params) (hp1 w.params) && namesBound hdpq (hp1 w.params) && gensDone (shEnd w os) && laidKept (hp0 w.params) (hp1 w.params)) = true := by kernel_rfl
theorem hdl2 (w : World) (os : OsState) : PySem.W.Fast.tw4187177175401517315 (viewQ hdpq) looseL (PySem.W.Fast.tw5923862056798008813 hdpq.main.body) (xtL hdpq) true (shEnd w os) = openGood (viewQ hdpq) looseL := by kernel_rfl
abbrev rowL := PySem.Challenge.rw_rw0104_01.row
theorem hdr1 : ∀ (w : World) (os : OsState), (staticsOk (importedModules PySem.Challenge.pw_rw0104_01.main.body) (hp0 w.params) (hp1 w.params) && namesBound PySem.Challenge.pw_rw0104_01 (hp1 w.params) && gensDone (shEnd w os) && laidKept (hp0 w.params) (hp1 w.params)) = true := by
  rw [hdpq_eq, PySem.W.Fast.te5923862056798008813]
  exact hdl1
theorem hdr2 : ∀ (w : World) (os : OsState), openSeen (viewQ PySem.Challenge.pw_rw0104_01) looseL (importedModules PySem.Challenge.pw_rw0104_01.main.body) (xtL PySem.Challenge.pw_rw0104_01) true (shEnd w os) = openGood (viewQ PySem.Challenge.pw_rw0104_01) looseL := by
  rw [hdpq_eq, PySem.W.Fast.te5923862056798008813, PySem.W.Fast.te4187177175401517315]
  exact hdl2
theorem leftL : LeftO PySem.Challenge.pw_rw0104_01 (viewQ PySem.Challenge.pw_rw0104_01) looseL (xtL PySem.Challenge.pw_rw0104_01) (obsZ kadr) (valZ kfrag 295 706) 4000 :=
  LeftO.of_pieces (H₀ := hp0) (H₁ := hp1) (gs₀ := ⟨[]⟩) (gs₁ := ⟨[]⟩) (d₀ := ⟨0, 0, 0, 0⟩) (d₁ := ⟨0, 0, 0, 0⟩) (k₀ := 276) (k₁ := 706) (m₀ := 28) (ann := some (.ref 6)) (M := 4000)
    (open_cut (M := 4000) hdrO rfl hdrF) hdrS hdrR rfl (fun w => funext fun os => Prod.ext (hdr1 w os) (Prod.ext (hdr2 w os) (hdl3 w os)))
noncomputable def lawDK : DefRec × List (Str × Expr) := match defOf (viewQ hdpq) ⟨⟨[108, 97, 119]⟩⟩ with
  | some x => x
  | none => (⟨⟨⟨[]⟩⟩, default, [], default, default⟩, [])
theorem hdg1 : defOf (viewQ hdpq) rowL.name = some (lawDK.1, lawDK.2) := by kernel_rfl
theorem hdg1' : defOf (viewQ PySem.Challenge.pw_rw0104_01) rowL.name = some (lawDK.1, lawDK.2) := by rw [hdpq_eq]; exact hdg1
theorem hdg2 : hdpq.theDef rowL.name = some (lawDK.1.params, lawDK.1.body, lawDK.1.scope) := by kernel_rfl
theorem hdg2' : rowL.prog.theDef rowL.name = some (lawDK.1.params, lawDK.1.body, lawDK.1.scope) := by
  show PySem.Challenge.pw_rw0104_01.theDef rowL.name = _
  rw [hdpq_eq]; exact hdg2
theorem hdg3 : kwWritten? lawDK.1.params.kwonlyargs lawDK.1.params.kw_defaults = some lawDK.2 := by kernel_rfl
theorem hdg4 : (!rowL.writes || rowL.records.isEmpty) = true := by kernel_rfl
theorem hdg5 : (chainsOk (viewQ hdpq) && opensWell hdpq && (frees rowL.toRowW && rowL.within.isEmpty)) = true := by kernel_rfl
theorem hdg5' : (chainsOk (viewQ PySem.Challenge.pw_rw0104_01) && opensWell rowL.prog && (frees rowL.toRowW && rowL.within.isEmpty)) = true := by
  show (chainsOk (viewQ PySem.Challenge.pw_rw0104_01) && opensWell PySem.Challenge.pw_rw0104_01 && _) = true
  rw [hdpq_eq]; exact hdg5
theorem hdg6 : rowL.prog.bare := ⟨rfl, rfl, rfl, rfl, rfl, by kernel_rfl⟩
theorem xl_l (s : Shared) (e : xtL PySem.Challenge.pw_rw0104_01 s = true) : XL (viewQ PySem.Challenge.pw_rw0104_01) [] (s.heap.nsMap mainGlobals) s.heap := xl_of s (Bool.and_eq_true_iff.mp e).1
theorem rec_l (s : Shared) (e : xtL PySem.Challenge.pw_rw0104_01 s = true) : RecFacts rowL.records s.heap := recFacts_of (Bool.and_eq_true_iff.mp e).2
theorem holds_of_walk (hw : rowL.toRowW.promised) (k1 : rowL.wellSaid = true) (call : WalkX (viewQ PySem.Challenge.pw_rw0104_01) looseL (XL (viewQ PySem.Challenge.pw_rw0104_01) []) (obsZ kadr) (valZ kfrag 295 706) rowL.toRowW lawDK.1 lawDK.2 fun f vs => PySem.call f vs) : rowL.Holds :=
  holds_openX (r := rowL) leftL xl_l XL.keeps hdg1' hdg2' hdg3 rec_l hdg4 k1 hdg5' hdg6 hw call
theorem kx_of {K : Params → Frag} {w : World} {h h' : Heap} (ZI : InK K w h) (k : ∀ b o, h.get? b = some o → h'.get? b = some o) : (K w.params).In h' := InK.keeps w h h' ZI k
theorem zh_of {K : Params → Frag} {kt : Params → KT} (e : ∀ P, KT.of (K P) = kt P) {w : World} {h h' : Heap} (ZA : AllIn h (K w.params)) (k : ∀ b o, h.get? b = some o → h'.get? b = some o) : KT.Holds h' 1 0 (kt w.params) := by
  rw [← e]
  exact KT.Holds.keeps k (holds_of ZA)
theorem fa_law (P : Params) : nsIn (kfrag P) mainGlobals rowL.name = some (some (.ref 294)) := by kernel_rfl
end Mine
end
section
open PySem PySem.Spec PySem.Calls PySem.W PySem.W.X PyProof.Rows
set_option Elab.async false
set_option maxRecDepth 100000
namespace Mine

/-! ## the quick twins -/
noncomputable abbrev den (c : Code) : Sem Fin := PySem.W.Fast.tw11892475500146522536 PySem.W.Fast.tw14364793385576792824 c
theorem den_eq : denote table = den := by
  rw [table_eq_tree, PySem.W.Fast.te14364793385576792824, PySem.W.Fast.te11892475500146522536]
noncomputable abbrev fieldF := PySem.W.Fast.tw6609576154772507232
noncomputable abbrev bindF := PySem.W.Fast.tw9782568553167038054
noncomputable abbrev envF := @PySem.W.Fast.tw11113344188204177931
theorem fieldF_eq : @field = fieldF := PySem.W.Fast.te6609576154772507232
theorem bindF_eq : @bindArgs = bindF := PySem.W.Fast.te9782568553167038054
theorem envF_eq : @newFunctionEnv = @envF := PySem.W.Fast.te11113344188204177931
noncomputable abbrev quietF := PySem.W.ZFast.zw17772548960776305114
theorem quietF_eq : @Code.quiet = quietF := PySem.W.ZFast.ze17772548960776305114
noncomputable abbrev callerF := PySem.W.ZFast.zw2167841511373827401
theorem callerF_eq : @Code.isCaller = callerF := PySem.W.ZFast.ze2167841511373827401

/-! ## cells -/
inductive CT where
  | nil
  | node (a : Addr) (o : Obj) (l r : CT)
namespace CT
noncomputable def get : CT → Nat → Option (Addr × Obj)
  | .nil, _ => none
  | .node a o l r, i => match Nat.beq i 0 with
    | true => some (a, o)
    | false => match Nat.beq (i % 2) 1 with
      | true => l.get (i / 2)
      | false => r.get (i / 2 - 1)
noncomputable def set : CT → Nat → (Obj → Obj) → CT
  | .nil, _, _ => .nil
  | .node a o l r, i, f => match Nat.beq i 0 with
    | true => .node a (f o) l r
    | false => match Nat.beq (i % 2) 1 with
      | true => .node a o (l.set (i / 2) f) r
      | false => .node a o l (r.set (i / 2 - 1) f)
noncomputable def ins : CT → Nat → Addr → Obj → CT
  | .nil, _, a, o => .node a o .nil .nil
  | .node b v l r, i, a, o => match Nat.beq i 0 with
    | true => .node a o l r
    | false => match Nat.beq (i % 2) 1 with
      | true => .node b v (l.ins (i / 2) a o) r
      | false => .node b v l (r.ins (i / 2 - 1) a o)
theorem get_node (a : Addr) (o : Obj) (l r : CT) (i : Nat) : (node a o l r).get i = if i = 0 then some (a, o) else if i % 2 = 1 then l.get (i / 2) else r.get (i / 2 - 1) := by
  rw [get, BT.beq_eq, BT.beq_eq]
  by_cases h : i = 0
  · simp [h]
  · by_cases q : i % 2 = 1 <;> simp [h, q]
theorem set_node (a : Addr) (o : Obj) (l r : CT) (i : Nat) (f : Obj → Obj) : (node a o l r).set i f = if i = 0 then node a (f o) l r else if i % 2 = 1 then node a o (l.set (i / 2) f) r else node a o l (r.set (i / 2 - 1) f) := by
  rw [set, BT.beq_eq, BT.beq_eq]
  by_cases h : i = 0
  · simp [h]
  · by_cases q : i % 2 = 1 <;> simp [h, q]
theorem ins_node (b : Addr) (v : Obj) (l r : CT) (i : Nat) (a : Addr) (o : Obj) : (node b v l r).ins i a o = if i = 0 then node a o l r else if i % 2 = 1 then node b v (l.ins (i / 2) a o) r else node b v l (r.ins (i / 2 - 1) a o) := by
  rw [ins, BT.beq_eq, BT.beq_eq]
  by_cases h : i = 0
  · simp [h]
  · by_cases q : i % 2 = 1 <;> simp [h, q]
theorem get_set (f : Obj → Obj) : ∀ (t : CT) (j i : Nat), (t.set j f).get i = if i = j then (t.get j).map (fun p => (p.1, f p.2)) else t.get i
  | .nil, j, i => by simp [set, get]
  | .node a o l r, j, i => by
    rw [set_node, get_node a o l r j, get_node a o l r i]
    by_cases hj : j = 0
    · subst hj
      rw [if_pos rfl, get_node]
      by_cases hi : i = 0 <;> simp [hi]
    · rw [if_neg hj]
      by_cases pj : j % 2 = 1
      · rw [if_pos pj, get_node]
        by_cases hi : i = 0
        · simp [hi, Ne.symm hj]
        · by_cases pi : i % 2 = 1
          · simp only [hi, pi, hj, pj, if_true, if_false, get_set f l]
            by_cases e : i = j
            · simp [e]
            · have : i / 2 ≠ j / 2 := by omega
              simp [e, this]
          · have : i ≠ j := fun q => pi (q ▸ pj)
            simp [hi, pi, this]
      · rw [if_neg pj, get_node]
        by_cases hi : i = 0
        · simp [hi, Ne.symm hj]
        · by_cases pi : i % 2 = 1
          · have : i ≠ j := fun q => pj (q ▸ pi)
            simp [hi, pi, this]
          · simp only [hi, pi, hj, pj, if_false, get_set f r]
            by_cases e : i = j
            · simp [e]
            · have : i / 2 - 1 ≠ j / 2 - 1 := by omega
              simp [e, this]
theorem get_ins (a : Addr) (o : Obj) : ∀ (t : CT) (j : Nat), ((t.ins j a o).get j).isSome = true → t.get j = none → ∀ i, (t.ins j a o).get i = if i = j then some (a, o) else t.get i
  | .nil, j, h, _, i => by
    have e : (CT.nil.ins j a o) = node a o nil nil := rfl
    rw [e, get_node] at h
    have hj : j = 0 := by
      by_cases q : j = 0
      · exact q
      · exfalso; revert h; by_cases p : j % 2 = 1 <;> simp [q, p, get]
    subst hj
    rw [e, get_node]
    by_cases hi : i = 0
    · simp [hi]
    · by_cases p : i % 2 = 1 <;> simp [hi, p, get]
  | .node b v l r, j, h, n, i => by
    rw [ins_node] at h ⊢
    rw [get_node] at n
    rw [get_node b v l r i]
    by_cases hj : j = 0
    · subst hj; simp at n
    · rw [if_neg hj] at h n ⊢
      by_cases pj : j % 2 = 1
      · rw [if_pos pj] at h n ⊢
        rw [get_node, if_neg hj, if_pos pj] at h
        rw [get_node]
        by_cases hi : i = 0
        · simp [hi, Ne.symm hj]
        · by_cases pi : i % 2 = 1
          · simp only [hi, pi, if_true, if_false, get_ins a o l _ h n]
            by_cases e : i = j
            · simp [e]
            · have : i / 2 ≠ j / 2 := by omega
              simp [e, this]
          · have : i ≠ j := fun q => pi (q ▸ pj)
            simp [hi, pi, this]
      · rw [if_neg pj] at h n ⊢
        rw [get_node, if_neg hj, if_neg pj] at h
        rw [get_node]
        by_cases hi : i = 0
        · simp [hi, Ne.symm hj]
        · by_cases pi : i % 2 = 1
          · have : i ≠ j := fun q => pj (q ▸ pi)
            simp [hi, pi, this]
          · simp only [hi, pi, if_false, get_ins a o r _ h n]
            by_cases e : i = j
            · simp [e]
            · have : i / 2 - 1 ≠ j / 2 - 1 := by omega
              simp [e, this]
end CT

/-! ## the machine -/
inductive Ob where
  | n (a : Nat) | o (o : Obj) | c (c : Code) | t (t : Sem Fin) | v (v : Value) | l (l : List Value) | i (i : Int) | b (b : Bool) | s (s : Str)
noncomputable abbrev Obs := List (Ob × Ob)

noncomputable abbrev Kap := List (Code × (Result → Sem Fin))
inductive Stand where
  | ret (r : Result)
  | again (c : Code)
  | stop (c : Code) (κ : Kap) (d u : Nat)
  | tree (t : Sem Fin) (c : Code) (κ : Kap) (d u : Nat)
inductive EndK where
  | ret (r : Result)
  | again (c : Code)
  | stop (c : Code) (d u : Nat)
  | tree (d u : Nat)
noncomputable def Stand.kind : Stand → EndK
  | .ret r => .ret r
  | .again c => .again c
  | .stop c _ d u => .stop c d u
  | .tree _ _ _ d u => .tree d u
noncomputable def Stand.kap : Stand → Kap
  | .stop _ κ _ _ => κ
  | .tree _ _ κ _ _ => κ
  | _ => []
noncomputable def Stand.cd : Stand → Code
  | .stop c _ _ _ => c
  | .again c => c
  | .tree _ c _ _ _ => c
  | _ => .builtin "" ⟨[], []⟩
noncomputable def Stand.tr : Stand → Sem Fin
  | .tree t _ _ _ _ => t
  | _ => .raise .none

structure Mm where
  T : CT
  m : Nat
  base : Nat
  off : Nat
  tb : Nat
  toff : Nat
structure Goal where
  e : Stand
  M : Mm
  O : Obs
inductive Out where
  | bad (n a : Nat)
  | fin (g : Goal)

structure ORes where
  O : Obs
  r : Result
  T : CT
  m : Nat
noncomputable abbrev Oracle := Code → CT → Nat → (Nat → Nat) → Option ORes
structure OracleAt where
  f : Oracle
  d : Nat
  u : Nat

structure Par where
  prog : Program
  w : World
  kt : KT
  orc : Nat → Option OracleAt

noncomputable def stAt (V : Par) : Setting := ⟨V.prog, V.w.params⟩
noncomputable def rowOn (w : World) (b : Bool) : Params := (w.withFollow "special-get-raises" b).params

noncomputable def fetch (V : Par) (a : Addr) (T : CT) (H : Nat) (O : Obs) (k : Obj → Nat → Obs → Out) : Out := match H % 256 with
  | 0 => match V.kt.get a with
    | some o => k o (H / 256) O
    | none => .bad 1 a
  | j + 1 => match T.get j with
    | some p => k p.2 (H / 256) ((.n a, .n p.1) :: O)
    | none => .bad 2 j
noncomputable def store (a : Addr) (g : Obj → Obj) (M : Mm) (H : Nat) (O : Obs) (k : Mm → Nat → Obs → Out) : Out := match H % 256 with
  | 0 => .bad 3 a
  | j + 1 => match M.T.get j with
    | some p => match (g p.2).isFreed with
      | true => .bad 4 j
      | false => match M with
        | ⟨T, m, base, off, tb, toff⟩ => match T.set j g with
          | .nil => .bad 5 j
          | .node x y l r => k ⟨.node x y l r, m, base, off, tb, toff⟩ (H / 256) ((.n a, .n p.1) :: O)
    | none => .bad 2 j
noncomputable def make (o : Obj) (M : Mm) (k : Addr → Mm → Out) : Out := match o.isFreed with
  | true => .bad 6 0
  | false => match M with
    | ⟨T, m, base, off, tb, toff⟩ => match T.get m with
      | some _ => .bad 7 m
      | none => match T.ins m (Nat.add base off) o with
        | .nil => .bad 8 m
        | .node x y l r => match (CT.node x y l r).get m with
          | none => .bad 9 m
          | some _ => k (Nat.add base off) ⟨.node x y l r, m + 1, base, off + 1, tb, toff⟩
noncomputable def newTok (M : Mm) (k : Tok → Mm → Out) : Out := match M with
  | ⟨T, m, base, off, tb, toff⟩ => k (Nat.add tb toff) ⟨T, m, base, off, tb, toff + 1⟩

noncomputable def runP (V : Par) {α : Type} (k : α → Mm → Nat → Obs → Out) : Nat → Sem α → Mm → Nat → Obs → Out := fun n => Nat.rec (fun _ _ _ _ => .bad 40 0) (fun _ ih t M H O => match t with
  | .pure a => k a M H O
  | .rule _ f => ih (f ()) M H O
  | .at _ f => ih (f ()) M H O
  | .point _ f => ih (f ()) M H O
  | .ask f => ih (f (stAt V)) M H O
  | .load a _ f => fetch V a M.T H O fun o H O => ih (f o) M H O
  | .update a _ g f => store a g M H O fun M H O => ih (f ()) M H O
  | .alloc o f => make o M fun a M => ih (f a) M H O
  | .fresh f => newTok M fun t M => ih (f t) M H O
  | _ => .bad 10 0) n

noncomputable abbrev RTy := Sem Fin → Code → Kap → Mm → Nat → Nat → Nat → (Nat → Nat) → Obs → Out

noncomputable def okCode (c : Code) : Bool := Bool.and (quietF c) (Bool.not (callerF c))

noncomputable def back (ih : RTy) (r : Result) (κ : Kap) (M : Mm) (d u : Nat) (H : Nat) (ν : Nat → Nat) (O : Obs) : Out := match κ with
  | [] => .fin ⟨.ret r, M, O⟩
  | p :: κ => ih (p.2 r) p.1 κ M (d - 6) (u - 10) H ν O

noncomputable def enterFr (V : Par) (ih : RTy) (a : Addr) (args : Args) (fd : FuncData) (b : List Stmt) (κ : Kap) (d u : Nat) (ν : Nat → Nat) (M : Mm) (H : Nat) (O : Obs) : Out :=
  runP V (fun bs M H O =>
    runP V (fun env M H O =>
      match V.kt.get 2 with
      | none => .bad 25 0
      | some _ => ih (den (.func b env)) (.func b env) κ M d u H ν O)
      200 (envF fd.scope fd.globals fd.closure bs (fd.qualname ++ (".<locals>." : Str)) (some a) fd.code none fd.builtins) M H O)
    100 (bindF fd args) M H O
noncomputable def enterCode (V : Par) (ih : RTy) (a : Addr) (args : Args) (fd : FuncData) (b : List Stmt) (κ : Kap) (M : Mm) (d u : Nat) (ν : Nat → Nat) (co : Obj) (H : Nat) (O : Obs) : Out := match co.data with
  | .fields vs => match vs[1]? with
    | some v => match v with
      | .str q _ => enterFr V ih a args fd b κ d u ν M H ((.s q, .s fd.qualname) :: O)
      | _ => .bad 34 0
    | none => .bad 35 0
  | _ => .bad 36 0
noncomputable def enterDef (V : Par) (ih : RTy) (a : Addr) (args : Args) (o : Obj) (κ : Kap) (M : Mm) (d u : Nat) (H : Nat) (ν : Nat → Nat) (O : Obs) : Out := match o.data with
  | .func fd => match fd.body with
    | .stmts b => match fd.scope.isGenerator with
      | true => .bad 22 0
      | false => match fd.scope.isCoroutine with
        | true => .bad 22 1
        | false => match fd.code with
          | .ref c => fetch V c M.T H O (enterCode V ih a args fd b κ M d u ν)
          | _ => .bad 37 0
    | .expr _ => .bad 23 0
  | _ => .bad 24 0

noncomputable def iterType : Nat → String
  | 0 => "range_iterator"
  | 1 => "list_iterator"
  | 2 => "str_iterator"
  | 3 => "str_ascii_iterator"
  | _ => "tuple_iterator"

noncomputable def enter (V : Par) (ih : RTy) (c' : Code) (κ : Kap) (M : Mm) (d u : Nat) (H : Nat) (ν : Nat → Nat) (O : Obs) : Out := match okCode c' with
  | false => .bad 20 0
  | true => match H % 256 with
    | 0 => ih (den c') c' κ M d u (H / 256) ν O
    | 1 => match c' with
      | .call f args => match f with
        | .ref a => match Nat.blt d 1000 with
          | false => .bad 21 0
          | true => fetch V a M.T (H / 256) O fun o H O => enterDef V ih a args o κ M d u H ν O
        | _ => .bad 26 0
      | _ => .bad 27 0
    | 2 => match κ with
      | [] => .fin ⟨.again c', M, O⟩
      | _ :: _ => .fin ⟨.stop c' κ d u, M, O⟩
    | 3 => match c' with
      | .compStart e dp it acc env => match dp with
        | 0 => match it with
          | .ref a => match e with
            | .ListComp elt gens sc pos => match gens with
              | [] => .bad 38 0
              | g :: rest => fetch V a M.T (H / 256 / 256) O fun o H' O =>
                ih (den (.compLoop (.ListComp elt (g :: rest) sc pos) 0 it acc env)) (.compLoop (.ListComp elt (g :: rest) sc pos) 0 it acc env) κ M d u H' ν ((.v o.cls, .v (.type (iterType (H / 256 % 256)))) :: (.i g.is_async, .i 0) :: O)
            | _ => .bad 38 1
          | _ => .bad 38 2
        | _ => .bad 38 3
      | _ => .bad 38 4
    | j + 4 => match V.orc j with
      | none => .bad 29 j
      | some Q => match Nat.ble d Q.d with
        | false => .bad 30 j
        | true => match Nat.ble u Q.u with
          | false => .bad 31 j
          | true => match Q.f c' M.T M.m (fun i => ν (i % 16)) with
            | none => .bad 32 j
            | some x => match x.T with
              | .nil => .bad 33 j
              | .node y z l r => back ih x.r κ ⟨.node y z l r, x.m, ν 0, 0, ν 1, 706⟩ d u (H / 256) (fun i => ν (i + 16)) (x.O ++ O)

noncomputable def step1 (V : Par) (ih : RTy) : RTy := fun t c κ M d u H ν O => match t with
  | .pure fin => match fin with
    | .done f => back ih (.ok f) κ M d u H ν O
    | .again c' => enter V ih c' κ M d u H ν O
  | .raise e => back ih (.error e) κ M d u H ν O
  | .rule _ f => ih (f ()) c κ M d u H ν O
  | .at _ f => ih (f ()) c κ M d u H ν O
  | .point _ f => ih (f ()) c κ M d u H ν O
  | .ask f => match H % 256 with
    | 0 => ih (f (stAt V)) c κ M d u (H / 256) ν O
    | _ + 1 => ih (f ⟨V.prog, rowOn V.w true⟩) c κ M d u (H / 256) ν ((.t (f ⟨V.prog, rowOn V.w true⟩), .t (f ⟨V.prog, rowOn V.w false⟩)) :: O)
  | .load a _ f => fetch V a M.T H O fun o H O => ih (f o) c κ M d u H ν O
  | .update a _ g f => store a g M H O fun M H O => ih (f ()) c κ M d u H ν O
  | .alloc o f => make o M fun a M => ih (f a) c κ M d u H ν O
  | .fresh f => newTok M fun t M => ih (f t) c κ M d u H ν O
  | .handled own f => match own with
    | true => .bad 11 0
    | false => ih (f none) c κ M d u H ν O
  | .call c' hd _ _ k => match hd with
    | some _ => .bad 12 0
    | none => enter V ih c' ((c, k) :: κ) M (d + 6) (u + 10) H ν O
  | _ => .bad 10 0

noncomputable def run (V : Par) (n : Nat) : RTy := Nat.rec (fun t c κ M d u _ _ O => .fin ⟨.tree t c κ d u, M, O⟩) (fun _ ih => step1 V ih) n
theorem run_zero (V : Par) : run V 0 = fun t c κ M d u _ _ O => .fin ⟨.tree t c κ d u, M, O⟩ := rfl
theorem run_succ (V : Par) (n : Nat) : run V (n + 1) = step1 V (run V n) := rfl
end Mine
end
section
open PySem PySem.Spec PySem.Calls PySem.W PySem.W.X PyProof.Rows
set_option Elab.async false
set_option maxRecDepth 100000
namespace Mine

/-! ## what the memory says of a state -/
structure Sat (V : Par) (M : Mm) (s : Shared) : Prop where
  top : ∀ a o, V.kt.get a = some o → s.heap.get? a = some o
  size : s.heap.objs.size = M.base + M.off
  toks : s.toks = M.tb + M.toff
  own : ∀ i a o, M.T.get i = some (a, o) → s.heap.get? a = some o ∧ V.kt.get a = none
  inj : ∀ i j a o o', M.T.get i = some (a, o) → M.T.get j = some (a, o') → i = j
  lo : 706 ≤ s.toks
structure Kp (T₀ : CT) (s₀ s : Shared) : Prop where
  keep : ∀ b o, s₀.heap.get? b = some o → (∀ i a o', T₀.get i = some (a, o') → a ≠ b) → s.heap.get? b = some o
  toks : s₀.toks ≤ s.toks
  gens : s.gens = s₀.gens
  drawn : s.drawn = s₀.drawn
  os : s.os = s₀.os
noncomputable def Org (T₀ : CT) (s₀ : Shared) (T : CT) : Prop := ∀ i a o, T.get i = some (a, o) → (∃ j o', T₀.get j = some (a, o')) ∨ s₀.heap.get? a = none
structure Inv (V : Par) (T₀ : CT) (s₀ : Shared) (M : Mm) (s : Shared) : Prop where
  sat : Sat V M s
  kp : Kp T₀ s₀ s
  org : Org T₀ s₀ M.T

theorem Kp.refl (T : CT) (s : Shared) : Kp T s s := ⟨fun _ _ e _ => e, Nat.le_refl _, rfl, rfl, rfl⟩
theorem Org.refl (T : CT) (s : Shared) : Org T s T := fun i _ o h => .inl ⟨i, o, h⟩
theorem Inv.start {V : Par} {M : Mm} {s : Shared} (h : Sat V M s) : Inv V M.T s M s := ⟨h, Kp.refl _ _, Org.refl _ _⟩

section
variable {V : Par} {T₀ : CT} {s₀ s : Shared} {M : Mm}
theorem Inv.trans {M' : Mm} {s' : Shared} (h : Inv V T₀ s₀ M s) (h' : Inv V M.T s M' s') : Inv V T₀ s₀ M' s' := by
  refine ⟨h'.sat, ⟨fun b o e hb => ?_, Nat.le_trans h.kp.toks h'.kp.toks, h'.kp.gens.trans h.kp.gens, h'.kp.drawn.trans h.kp.drawn, h'.kp.os.trans h.kp.os⟩, fun i a o e => ?_⟩
  · refine h'.kp.keep b o (h.kp.keep b o e hb) fun i a o' e' => ?_
    rcases h.org i a o' e' with ⟨j, o₂, e₂⟩ | hge
    · exact hb j a o₂ e₂
    · intro q
      subst q
      rw [hge] at e
      cases e
  · rcases h'.org i a o e with ⟨j, o₂, e₂⟩ | hge
    · exact h.org j a o₂ e₂
    · by_cases ht : ∃ j o', T₀.get j = some (a, o')
      · exact .inl ht
      · refine .inr ?_
        cases q : s₀.heap.get? a with
        | none => rfl
        | some o₃ =>
          have := h.kp.keep a o₃ q fun j b o' e' hb => ht ⟨j, o', hb ▸ e'⟩
          rw [hge] at this
          cases this

theorem Inv.tok (h : Inv V T₀ s₀ M s) : Inv V T₀ s₀ ⟨M.T, M.m, M.base, M.off, M.tb, M.toff + 1⟩ { s with toks := s.toks + 1 } :=
  ⟨⟨h.sat.top, h.sat.size, by show s.toks + 1 = M.tb + (M.toff + 1); rw [h.sat.toks, Nat.add_assoc], h.sat.own, h.sat.inj, Nat.le_succ_of_le h.sat.lo⟩,
    ⟨h.kp.keep, Nat.le_succ_of_le h.kp.toks, h.kp.gens, h.kp.drawn, h.kp.os⟩, h.org⟩

theorem Inv.make (h : Inv V T₀ s₀ M s) {o : Obj} (hf : o.isFreed = false) (hn : M.T.get M.m = none) (hg : ((M.T.ins M.m (M.base + M.off) o).get M.m).isSome = true) :
    Inv V T₀ s₀ ⟨M.T.ins M.m (M.base + M.off) o, M.m + 1, M.base, M.off + 1, M.tb, M.toff⟩ { s with heap := s.heap.push o } := by
  have gi := CT.get_ins (M.base + M.off) o M.T M.m hg hn
  have old : ∀ b o', s.heap.get? b = some o' → (s.heap.push o).get? b = some o' := fun b o' e => Heap.get?_push_of_some _ e
  have new : (s.heap.push o).get? (M.base + M.off) = some o := by rw [← h.sat.size]; exact Heap.get?_push_size _ hf
  have lt : ∀ i a o', M.T.get i = some (a, o') → a < M.base + M.off := fun i a o' e => by rw [← h.sat.size]; exact Heap.lt_size (h.sat.own i a o' e).1
  refine ⟨⟨fun a o' e => old a o' (h.sat.top a o' e), ?_, h.sat.toks, fun i a o' e => ?_, fun i j a o₁ o₂ e₁ e₂ => ?_, h.sat.lo⟩, ⟨fun b o' e hb => old b o' (h.kp.keep b o' e hb), h.kp.toks, h.kp.gens, h.kp.drawn, h.kp.os⟩, fun i a o' e => ?_⟩
  · show (s.heap.push o).objs.size = M.base + (M.off + 1)
    rw [Heap.size_push, h.sat.size, Nat.add_assoc]
  · rw [gi] at e
    by_cases hi : i = M.m
    · rw [if_pos hi] at e
      cases e
      refine ⟨new, ?_⟩
      cases q : V.kt.get (M.base + M.off) with
      | none => rfl
      | some o₂ =>
        have := Heap.lt_size (h.sat.top _ _ q)
        rw [h.sat.size] at this
        exact absurd this (Nat.lt_irrefl _)
    · rw [if_neg hi] at e
      exact ⟨old a o' (h.sat.own i a o' e).1, (h.sat.own i a o' e).2⟩
  · rw [gi] at e₁ e₂
    by_cases hi : i = M.m
    · by_cases hj : j = M.m
      · rw [hi, hj]
      · rw [if_pos hi] at e₁; rw [if_neg hj] at e₂
        cases e₁
        exact absurd (lt j _ _ e₂) (Nat.lt_irrefl _)
    · by_cases hj : j = M.m
      · rw [if_neg hi] at e₁; rw [if_pos hj] at e₂
        cases e₂
        exact absurd (lt i _ _ e₁) (Nat.lt_irrefl _)
      · rw [if_neg hi] at e₁; rw [if_neg hj] at e₂
        exact h.sat.inj i j a o₁ o₂ e₁ e₂
  · rw [gi] at e
    by_cases hi : i = M.m
    · rw [if_pos hi] at e
      cases e
      by_cases ht : ∃ j o', T₀.get j = some (M.base + M.off, o')
      · exact .inl ht
      · refine .inr ?_
        cases q : s₀.heap.get? (M.base + M.off) with
        | none => rfl
        | some o₃ =>
          have := Heap.lt_size (h.kp.keep _ o₃ q fun j b o' e' hb => ht ⟨j, o', hb ▸ e'⟩)
          rw [h.sat.size] at this
          exact absurd this (Nat.lt_irrefl _)
    · rw [if_neg hi] at e
      exact h.org i a o' e

theorem Inv.store (h : Inv V T₀ s₀ M s) {j : Nat} {a : Addr} {o : Obj} {g : Obj → Obj} (e : M.T.get j = some (a, o)) (hf : (g o).isFreed = false) :
    Inv V T₀ s₀ ⟨M.T.set j g, M.m, M.base, M.off, M.tb, M.toff⟩ { s with heap := s.heap.update a g } := by
  have gs := CT.get_set g M.T j
  have ho := (h.sat.own j a o e).1
  have hs : Heap.SameBut a s.heap (s.heap.update a g) := Heap.SameBut.update ..
  have ge : (s.heap.update a g).get? a = some (g o) := Heap.get?_update_self g ho hf
  have back : ∀ i b o', (M.T.set j g).get i = some (b, o') → ∃ o₂, M.T.get i = some (b, o₂) := fun i b o' e' => by
    rw [gs] at e'
    by_cases hi : i = j
    · rw [if_pos hi, e] at e'; cases e'; exact ⟨o, by rw [hi]; exact e⟩
    · rw [if_neg hi] at e'; exact ⟨o', e'⟩
  refine ⟨⟨fun b o' e' => ?_, ?_, h.sat.toks, fun i b o' e' => ?_, fun i k b o₁ o₂ e₁ e₂ => ?_, h.sat.lo⟩, ⟨fun b o' e' hb => ?_, h.kp.toks, h.kp.gens, h.kp.drawn, h.kp.os⟩, fun i b o' e' => ?_⟩
  · have ne : b ≠ a := fun z => by subst z; rw [(h.sat.own j _ o e).2] at e'; cases e'
    exact (hs.2 b ne).trans (h.sat.top b o' e')
  · show (s.heap.update a g).objs.size = _
    rw [hs.1, h.sat.size]
  · rw [gs] at e'
    by_cases hi : i = j
    · rw [if_pos hi, e] at e'
      cases e'
      exact ⟨ge, (h.sat.own j a o e).2⟩
    · rw [if_neg hi] at e'
      have ne : b ≠ a := fun z => by subst z; exact hi (h.sat.inj i j _ _ _ e' e)
      exact ⟨(hs.2 b ne).trans (h.sat.own i b o' e').1, (h.sat.own i b o' e').2⟩
  · obtain ⟨x, ex⟩ := back i b o₁ e₁
    obtain ⟨y, ey⟩ := back k b o₂ e₂
    exact h.sat.inj i k b x y ex ey
  · have ne : b ≠ a := fun z => by
      subst z
      rcases h.org j _ o e with ⟨k, o₂, e₂⟩ | hge
      · exact hb k _ o₂ e₂ rfl
      · rw [hge] at e'
        cases e'
    exact (hs.2 b ne).trans (h.kp.keep b o' e' hb)
  · obtain ⟨x, ex⟩ := back i b o' e'
    exact h.org i b x ex
end

/-! ## the stack -/
noncomputable def AA (A₀ : Around) : Kap → Around
  | [] => A₀
  | p :: κ => (AA A₀ κ).under p.1
noncomputable def postF (V : Par) (A : Around) (R : Result → Shared → Prop) : PySem.Fin → Shared → Prop := fun fin s' => match fin with
  | .done f => R (.ok f) s'
  | .again c' => c'.quiet = true ∧ codeAny (model V.prog V.w) A c' R s'
noncomputable def Rt (V : Par) (A₀ : Around) (R : Result → Shared → Prop) : Kap → Result → Shared → Prop
  | [] => R
  | p :: κ => fun r s => wpAny (model V.prog V.w) ((AA A₀ κ).under p.1) (p.2 r) (postF V (AA A₀ κ) (Rt V A₀ R κ)) (fun e s' => Rt V A₀ R κ (.error e) s') s
noncomputable abbrev Mean (V : Par) (A₀ : Around) (R : Result → Shared → Prop) (κ : Kap) (c : Code) (t : Sem PySem.Fin) (s : Shared) : Prop :=
  wpAny (model V.prog V.w) ((AA A₀ κ).under c) t (postF V (AA A₀ κ) (Rt V A₀ R κ)) (fun e s' => Rt V A₀ R κ (.error e) s') s
noncomputable def AOk (A₀ : Around) : Kap → Nat → Nat → Prop
  | [], d, u => A₀.handled = none ∧ A₀.depth + 6 ≤ d ∧ A₀.units + 10 ≤ u
  | p :: κ, d, u => p.1.isCaller = false ∧ ∃ d' u', d = d' + 6 ∧ u = u' + 10 ∧ AOk A₀ κ d' u'
/-! ## ends -/
noncomputable def EndAt (V : Par) (A₀ : Around) (R : Result → Shared → Prop) (e : Stand) (s : Shared) : Prop := match e with
  | .ret r => R r s
  | .again c => c.quiet = true ∧ codeAny (model V.prog V.w) A₀ c R s
  | .stop c κ d u => AOk A₀ κ d u → codeAny (model V.prog V.w) (AA A₀ κ) c (Rt V A₀ R κ) s
  | .tree t c κ d u => AOk A₀ κ d u → Mean V A₀ R κ c t s
noncomputable def EndAtK (V : Par) (A₀ : Around) (R : Result → Shared → Prop) (st : Stand) (e : EndK) (s : Shared) : Prop := match e with
  | .ret r => R r s
  | .again c => c.quiet = true ∧ codeAny (model V.prog V.w) A₀ c R s
  | .stop c d u => AOk A₀ st.kap d u → codeAny (model V.prog V.w) (AA A₀ st.kap) c (Rt V A₀ R st.kap) s
  | .tree d u => AOk A₀ st.kap d u → Mean V A₀ R st.kap st.cd st.tr s
theorem EndAt.of_kind {V : Par} {A₀ : Around} {R : Result → Shared → Prop} {e : Stand} {k : EndK} {s : Shared} (h : e.kind = k) (h' : EndAtK V A₀ R e k s) : EndAt V A₀ R e s := by
  subst h
  cases e <;> exact h'
noncomputable def Ends (V : Par) (T₀ : CT) (s₀ : Shared) (A₀ : Around) (R : Result → Shared → Prop) (x : Out) : Prop :=
  ∃ g, x = .fin g ∧ (∀ p ∈ g.O, p.1 = p.2) ∧ ∀ s, Inv V T₀ s₀ g.M s → EndAt V A₀ R g.e s

noncomputable def Suf (O : Obs) (x : Out) : Prop := ∀ g, x = .fin g → O <:+ g.O
theorem Suf.bad {O : Obs} {n a : Nat} : Suf O (.bad n a) := fun _ e => nomatch e
theorem Suf.cons {O : Obs} {p : Ob × Ob} {x : Out} (h : Suf (p :: O) x) : Suf O x := fun g e => (List.suffix_cons p O).trans (h g e)
theorem Suf.app {O O' : Obs} {x : Out} (h : Suf (O' ++ O) x) : Suf O x := fun g e => (List.suffix_append O' O).trans (h g e)

theorem fetch_suf {V : Par} {a : Addr} {T : CT} {H : Nat} {O : Obs} {k : Obj → Nat → Obs → Out} (hk : ∀ o H O, Suf O (k o H O)) : Suf O (fetch V a T H O k) := by
  unfold fetch
  split
  · split
    · exact hk _ _ _
    · exact Suf.bad
  · split
    · exact (hk _ _ _).cons
    · exact Suf.bad
theorem store_suf {a : Addr} {g : Obj → Obj} {M : Mm} {H : Nat} {O : Obs} {k : Mm → Nat → Obs → Out} (hk : ∀ M H O, Suf O (k M H O)) : Suf O (store a g M H O k) := by
  unfold store
  split
  · exact Suf.bad
  · split
    · split
      · exact Suf.bad
      · split
        split
        · exact Suf.bad
        · exact (hk _ _ _).cons
    · exact Suf.bad
theorem make_suf {o : Obj} {M : Mm} {O : Obs} {k : Addr → Mm → Out} (hk : ∀ a M, Suf O (k a M)) : Suf O (make o M k) := by
  unfold make
  split
  · exact Suf.bad
  · split
    split
    · exact Suf.bad
    · split
      · exact Suf.bad
      · split
        · exact Suf.bad
        · exact hk _ _
theorem newTok_suf {M : Mm} {O : Obs} {k : Tok → Mm → Out} (hk : ∀ a M, Suf O (k a M)) : Suf O (newTok M k) := by
  unfold newTok
  exact hk _ _

theorem runP_succ {V : Par} {α : Type} {k : α → Mm → Nat → Obs → Out} (n : Nat) (t : Sem α) (M : Mm) (H : Nat) (O : Obs) : runP V k (n + 1) t M H O = (match t with
  | .pure a => k a M H O
  | .rule _ f => runP V k n (f ()) M H O
  | .at _ f => runP V k n (f ()) M H O
  | .point _ f => runP V k n (f ()) M H O
  | .ask f => runP V k n (f (stAt V)) M H O
  | .load a _ f => fetch V a M.T H O fun o H O => runP V k n (f o) M H O
  | .update a _ g f => store a g M H O fun M H O => runP V k n (f ()) M H O
  | .alloc o f => make o M fun a M => runP V k n (f a) M H O
  | .fresh f => newTok M fun t M => runP V k n (f t) M H O
  | _ => .bad 10 0) := rfl
theorem runP_suf {V : Par} {α : Type} {k : α → Mm → Nat → Obs → Out} (hk : ∀ a M H O, Suf O (k a M H O)) : ∀ n (t : Sem α) M H O, Suf O (runP V k n t M H O)
  | 0, _, _, _, _ => Suf.bad
  | n + 1, t, M, H, O => by
    rw [runP_succ]
    have ih := runP_suf (V := V) hk n
    cases t <;> first
      | exact Suf.bad
      | exact hk _ _ _ _
      | exact ih _ _ _ _
      | exact fetch_suf fun _ _ _ => ih _ _ _ _
      | exact store_suf fun _ _ _ => ih _ _ _ _
      | exact make_suf fun _ _ => ih _ _ _ _
      | exact newTok_suf fun _ _ => ih _ _ _ _

noncomputable def IhSuf (ih : RTy) : Prop := ∀ t c κ M d u H ν O, Suf O (ih t c κ M d u H ν O)
theorem back_suf {ih : RTy} (hi : IhSuf ih) {r κ M d u H ν O} : Suf O (back ih r κ M d u H ν O) := by
  unfold back
  split
  · intro g e; cases e; exact List.suffix_refl _
  · exact hi _ _ _ _ _ _ _ _ _
theorem enterFr_suf {V : Par} {ih : RTy} (hi : IhSuf ih) {a args fd b κ d u ν M H O} : Suf O (enterFr V ih a args fd b κ d u ν M H O) := by
  unfold enterFr
  refine runP_suf (fun bs M H O => runP_suf (fun env M H O => ?_) _ _ _ _ _) _ _ _ _ _
  split
  · exact Suf.bad
  · exact hi _ _ _ _ _ _ _ _ _
theorem enterCode_suf {V : Par} {ih : RTy} (hi : IhSuf ih) {a args fd b κ d u ν M co H O} : Suf O (enterCode V ih a args fd b κ M d u ν co H O) := by
  unfold enterCode
  repeat' split
  all_goals first
    | exact Suf.bad
    | exact (enterFr_suf hi).cons
theorem enterDef_suf {V : Par} {ih : RTy} (hi : IhSuf ih) {a args o κ M d u H ν O} : Suf O (enterDef V ih a args o κ M d u H ν O) := by
  unfold enterDef
  repeat' split
  all_goals first
    | exact Suf.bad
    | exact fetch_suf fun _ _ _ => enterCode_suf hi
theorem enter_suf {V : Par} {ih : RTy} (hi : IhSuf ih) {c' κ M d u H ν O} : Suf O (enter V ih c' κ M d u H ν O) := by
  unfold enter
  split
  · exact Suf.bad
  · split
    · exact hi _ _ _ _ _ _ _ _ _
    · repeat' split
      all_goals first
        | exact Suf.bad
        | exact fetch_suf fun _ _ _ => enterDef_suf hi
    · split
      · intro g e; cases e; exact List.suffix_refl _
      · intro g e; cases e; exact List.suffix_refl _
    · repeat' split
      all_goals first
        | exact Suf.bad
        | exact fetch_suf fun _ _ _ => ((hi _ _ _ _ _ _ _ _ _).cons).cons
    · repeat' split
      all_goals first
        | exact Suf.bad
        | exact (back_suf hi).app
theorem step1_suf {V : Par} {ih : RTy} (hi : IhSuf ih) : IhSuf (step1 V ih) := by
  intro t c κ M d u H ν O
  unfold step1
  cases t with
  | pure fin => cases fin with
    | done f => exact back_suf hi
    | again c' => exact enter_suf hi
  | ask f =>
    dsimp only
    split
    · exact hi _ _ _ _ _ _ _ _ _
    · exact (hi _ _ _ _ _ _ _ _ _).cons
  | handled own f => cases own <;> first | exact Suf.bad | exact hi _ _ _ _ _ _ _ _ _
  | call c' hd g l k => cases hd <;> first | exact Suf.bad | exact enter_suf hi
  | _ => first
    | exact Suf.bad
    | exact back_suf hi
    | exact hi _ _ _ _ _ _ _ _ _
    | exact fetch_suf fun _ _ _ => hi _ _ _ _ _ _ _ _ _
    | exact store_suf fun _ _ _ => hi _ _ _ _ _ _ _ _ _
    | exact make_suf fun _ _ => hi _ _ _ _ _ _ _ _ _
    | exact newTok_suf fun _ _ => hi _ _ _ _ _ _ _ _ _
theorem run_suf {V : Par} : ∀ n, IhSuf (run V n)
  | 0 => fun _ _ _ _ _ _ _ _ _ g e => by cases e; exact List.suffix_refl _
  | n + 1 => step1_suf (run_suf n)
end Mine
end
section
open PySem PySem.Spec PySem.Calls PySem.W PySem.W.X PyProof.Rows
set_option Elab.async false
set_option maxRecDepth 100000
namespace Mine

/-! ## weights -/
theorem frames_le (c : Code) : c.frames ≤ 3 := by
  unfold Code.frames
  split <;> first | decide | (split <;> decide)
theorem weight_le {c : Code} (h : c.isCaller = false) : c.weight ≤ 6 := by
  unfold Code.weight
  rw [h]
  have := frames_le c
  (repeat' split) <;> first | omega | (simp at *)
theorem units_le (c : Code) : c.cUnits ≤ 10 := by
  have := frames_le c
  unfold Code.cUnits
  split <;> omega
theorem okCode_spec {c : Code} (h : okCode c = true) : c.quiet = true ∧ c.isCaller = false := by
  unfold okCode at h
  rw [quietF_eq, callerF_eq]
  have h' : (quietF c && !(callerF c)) = true := h
  rw [Bool.and_eq_true] at h'
  exact ⟨h'.1, by simpa using h'.2⟩

/-! ## the stack -/
theorem AOk.bounds {A₀ : Around} : ∀ {κ : Kap} {d u : Nat}, AOk A₀ κ d u → (AA A₀ κ).handled = none ∧ (AA A₀ κ).depth + 6 ≤ d ∧ (AA A₀ κ).units + 10 ≤ u
  | [], _, _, h => h
  | p :: κ, d, u, hh => by
    obtain ⟨hc, d', u', hd, hu, h⟩ := hh
    subst hd hu
    obtain ⟨a, b, c⟩ := AOk.bounds h
    have w := weight_le hc
    have x := units_le p.1
    refine ⟨a, ?_, ?_⟩
    · show (AA A₀ κ).depth + p.1.weight + 6 ≤ d' + 6
      omega
    · show (AA A₀ κ).units + p.1.cUnits + 10 ≤ u' + 10
      omega

/-! ## oracles -/
noncomputable def OracleOk (V : Par) (T₀ : CT) (s₀ : Shared) (Q : OracleAt) : Prop := ∀ c (M : Mm) s A R, Inv V T₀ s₀ M s → A.handled = none → A.depth ≤ Q.d → A.units ≤ Q.u →
  (∀ ν : Nat → Nat, ∃ x, Q.f c M.T M.m (fun i => ν (i % 16)) = some x ∧ (∀ p ∈ x.O, p.1 = p.2) ∧ ∀ s', Inv V M.T s ⟨x.T, x.m, ν 0, 0, ν 1, 706⟩ s' → R x.r s') →
  codeAny (model V.prog V.w) A c R s
structure Par.Ok (V : Par) (T₀ : CT) (s₀ : Shared) : Prop where
  lim : ∀ h : Heap, (∀ o, V.kt.get 2 = some o → h.get? 2 = some o) → (V.kt.get 2).isSome = true → h.NoLimit
  orc : ∀ j Q, V.orc j = some Q → OracleOk V T₀ s₀ Q

section
variable {V : Par} {T₀ : CT} {s₀ s : Shared} {A₀ : Around} {R : Result → Shared → Prop} {M : Mm}
theorem Ends.sub {x : Out} (h : Ends V T₀ s₀ A₀ R x) {O : Obs} (hs : Suf O x) : ∀ p ∈ O, p.1 = p.2 := by
  obtain ⟨g, e, ho, _⟩ := h
  exact fun p hp => ho p ((hs g e).subset hp)
theorem Ends.not_bad {n a : Nat} (h : Ends V T₀ s₀ A₀ R (.bad n a)) : False := by
  obtain ⟨g, e, _⟩ := h; cases e
theorem fetch_ok {a : Addr} {H : Nat} {O : Obs} {k : (Nat → Nat) → Obj → Nat → Obs → Out} (hk : ∀ ν o H O, Suf O (k ν o H O)) (I : Inv V T₀ s₀ M s)
    (h : ∀ ν, Ends V T₀ s₀ A₀ R (fetch V a M.T H O (k ν))) : ∃ o H' O', s.heap.get? a = some o ∧ ∀ ν, Ends V T₀ s₀ A₀ R (k ν o H' O') := by
  unfold fetch at h
  split at h
  · split at h
    · rename_i o e
      exact ⟨o, _, _, I.sat.top _ _ e, h⟩
    · exact (h fun _ => 0).not_bad.elim
  · split at h
    · rename_i p e
      have e1 := (h fun _ => 0).sub (hk _ _ _ _) _ (List.mem_cons_self ..)
      have e2 : a = p.1 := by injection e1
      exact ⟨p.2, _, _, by rw [e2]; exact (I.sat.own _ _ _ e).1, h⟩
    · exact (h fun _ => 0).not_bad.elim
theorem store_ok {a : Addr} {g : Obj → Obj} {H : Nat} {O : Obs} {k : (Nat → Nat) → Mm → Nat → Obs → Out} (hk : ∀ ν M H O, Suf O (k ν M H O)) (I : Inv V T₀ s₀ M s)
    (h : ∀ ν, Ends V T₀ s₀ A₀ R (store a g M H O (k ν))) : ∃ o M' H' O', s.heap.get? a = some o ∧ Inv V T₀ s₀ M' { s with heap := s.heap.update a g } ∧ ∀ ν, Ends V T₀ s₀ A₀ R (k ν M' H' O') := by
  unfold store at h
  split at h
  · exact (h fun _ => 0).not_bad.elim
  · split at h
    · rename_i p e
      split at h
      · exact (h fun _ => 0).not_bad.elim
      · rename_i hf
        obtain ⟨T, m, base, off, tb, toff⟩ := M
        dsimp only at h e
        split at h
        · exact (h fun _ => 0).not_bad.elim
        · rename_i x y l r eT
          have e1 := (h fun _ => 0).sub (hk _ _ _ _) _ (List.mem_cons_self ..)
          have e2 : a = p.1 := by injection e1
          have I' := I.store (j := _) (a := p.1) (o := p.2) (g := g) e hf
          rw [← e2] at I'
          dsimp only at I'
          rw [eT] at I'
          exact ⟨p.2, _, _, _, by rw [e2]; exact (I.sat.own _ _ _ e).1, I', h⟩
    · exact (h fun _ => 0).not_bad.elim
theorem make_ok {o : Obj} {k : (Nat → Nat) → Addr → Mm → Out} (I : Inv V T₀ s₀ M s) (h : ∀ ν, Ends V T₀ s₀ A₀ R (make o M (k ν))) :
    ∃ M', Inv V T₀ s₀ M' { s with heap := s.heap.push o } ∧ ∀ ν, Ends V T₀ s₀ A₀ R (k ν s.heap.objs.size M') := by
  unfold make at h
  split at h
  · exact (h fun _ => 0).not_bad.elim
  · rename_i hf
    obtain ⟨T, m, base, off, tb, toff⟩ := M
    dsimp only at h
    split at h
    · exact (h fun _ => 0).not_bad.elim
    · rename_i hn
      split at h
      · exact (h fun _ => 0).not_bad.elim
      · rename_i x y l r eT
        split at h
        · exact (h fun _ => 0).not_bad.elim
        · rename_i q eg
          have eT' : T.ins m (base + off) o = .node x y l r := eT
          have I' := I.make (o := o) hf hn (by show ((T.ins m (base + off) o).get m).isSome = true; rw [eT', eg]; rfl)
          dsimp only at I'
          rw [eT'] at I'
          refine ⟨_, I', fun ν => ?_⟩
          have := h ν
          rw [I.sat.size]
          exact this
theorem newTok_ok {k : (Nat → Nat) → Tok → Mm → Out} (I : Inv V T₀ s₀ M s) (h : ∀ ν, Ends V T₀ s₀ A₀ R (newTok M (k ν))) :
    ∃ M', Inv V T₀ s₀ M' { s with toks := s.toks + 1 } ∧ ∀ ν, Ends V T₀ s₀ A₀ R (k ν s.toks M') := by
  obtain ⟨T, m, base, off, tb, toff⟩ := M
  unfold newTok at h
  dsimp only at h
  refine ⟨_, I.tok, fun ν => ?_⟩
  have e : s.toks = tb + toff := I.sat.toks
  rw [e]; exact h ν

theorem runP_ok {α : Type} {A : Around} {Q : α → Shared → Prop} {E : Value → Shared → Prop} {k : (Nat → Nat) → α → Mm → Nat → Obs → Out} (hk : ∀ ν a M H O, Suf O (k ν a M H O))
    (hq : ∀ a M H O s, Inv V T₀ s₀ M s → (∀ ν, Ends V T₀ s₀ A₀ R (k ν a M H O)) → Q a s) :
    ∀ n (t : Sem α) M H O s, Inv V T₀ s₀ M s → (∀ ν, Ends V T₀ s₀ A₀ R (runP V (k ν) n t M H O)) → wpAny (model V.prog V.w) A t Q E s
  | 0, _, _, _, _, _, _, h => (h fun _ => 0).not_bad.elim
  | n + 1, t, M, H, O, s, I, h => by
    have ih := runP_ok (A := A) (E := E) hk hq n
    simp only [runP_succ] at h
    cases t with
    | pure a => exact x_pure (hq _ _ _ _ _ I h)
    | rule _ f => exact x_rule (ih _ _ _ _ _ I h)
    | «at» _ f => exact x_at (ih _ _ _ _ _ I h)
    | point _ f => exact x_point (ih _ _ _ _ _ I h)
    | ask f => exact x_ask (ih _ _ _ _ _ I h)
    | load a q f =>
      obtain ⟨o, H', O', ho, h'⟩ := fetch_ok (k := fun ν o H O => runP V (k ν) n (f o) M H O) (fun ν o H O => runP_suf (hk ν) _ _ _ _ _) I h
      exact x_load ho (ih _ _ _ _ _ I h')
    | update a q g f =>
      obtain ⟨o, M', H', O', ho, I', h'⟩ := store_ok (k := fun ν M H O => runP V (k ν) n (f ()) M H O) (fun ν o H O => runP_suf (hk ν) _ _ _ _ _) I h
      exact wpAny_bind (m := updatePart a q g) (f := f) (wpAny_updatePart ho (ih _ _ _ _ _ I' h'))
    | alloc o f =>
      obtain ⟨M', I', h'⟩ := make_ok (k := fun ν a M => runP V (k ν) n (f a) M H O) I h
      exact wpAny_bind (m := PySem.alloc o) (f := f) (wpAny_alloc (ih _ _ _ _ _ I' h'))
    | fresh f =>
      obtain ⟨M', I', h'⟩ := newTok_ok (k := fun ν a M => runP V (k ν) n (f a) M H O) I h
      exact x_fresh (ih _ _ _ _ _ I' h')
    | _ => exact (h fun _ => 0).not_bad.elim

theorem pyIter_self {prog : Program} {w : World} {A : Around} {E : Value → Shared → Prop} {s : Shared} {a : Addr} {o : Obj} {Q : Value → Shared → Prop} (i : Nat) (ho : s.heap.get? a = some o) (hc : o.cls = .type (iterType i)) (h : Q (.ref a) s) :
    wpAny (model prog w) A (pyIter (.ref a)) Q E s := by
  have hT : s.TypeIs (.ref a) (iterType i) := ⟨o, ho, hc⟩
  match i with
  | 0 =>
    refine wpAny_pyIter_slot hT F.slot_range_iterator_iter (wpAny_call_entry F.slot_range_iterator_iter hT F.entry_range_iterator_iter ?_ (F.args_range_iterator_iter_1 _))
    show wpAny _ _ (ret (.ref a)) _ _ s
    exact wpAny_pure ⟨_, rfl, "range_iterator", _, hT, F.slot_range_iterator_next.lookup, h⟩
  | 1 =>
    refine wpAny_pyIter_slot hT slot_listiter_iter (wpAny_call_entry slot_listiter_iter hT entry_listiter_iter ?_ (args_listiter_iter _))
    show wpAny _ _ (ret (.ref a)) _ _ s
    exact wpAny_pure ⟨_, rfl, "list_iterator", _, hT, slot_listiter_next.lookup, h⟩
  | 2 =>
    refine wpAny_pyIter_slot hT F.slot_str_iterator_iter (wpAny_call_entry F.slot_str_iterator_iter hT F.entry_str_iterator_iter ?_ (F.args_str_iterator_iter_1 _))
    show wpAny _ _ (ret (.ref a)) _ _ s
    exact wpAny_pure ⟨_, rfl, "str_iterator", _, hT, F.slot_str_iterator_next.lookup, h⟩
  | 3 =>
    refine wpAny_pyIter_slot hT F.slot_str_ascii_iterator_iter (wpAny_call_entry F.slot_str_ascii_iterator_iter hT F.entry_str_ascii_iterator_iter ?_ (F.args_str_ascii_iterator_iter_1 _))
    show wpAny _ _ (ret (.ref a)) _ _ s
    exact wpAny_pure ⟨_, rfl, "str_ascii_iterator", _, hT, F.slot_str_ascii_iterator_next.lookup, h⟩
  | _ + 4 =>
    refine wpAny_pyIter_slot hT F.slot_tuple_iterator_iter (wpAny_call_entry F.slot_tuple_iterator_iter hT F.entry_tuple_iterator_iter ?_ (F.args_tuple_iterator_iter_1 _))
    show wpAny _ _ (ret (.ref a)) _ _ s
    exact wpAny_pure ⟨_, rfl, "tuple_iterator", _, hT, F.slot_tuple_iterator_next.lookup, h⟩

noncomputable abbrev IhOk (V : Par) (T₀ : CT) (s₀ : Shared) (A₀ : Around) (R : Result → Shared → Prop) (ih : RTy) : Prop :=
  ∀ t c κ M d u H O s, Inv V T₀ s₀ M s → AOk A₀ κ d u → c.isCaller = false → (∀ ν, Ends V T₀ s₀ A₀ R (ih t c κ M d u H ν O)) → Mean V A₀ R κ c t s

theorem code_of_mean {κ : Kap} {c : Code} (h : Mean V A₀ R κ c (den c) s) : codeAny (model V.prog V.w) (AA A₀ κ) c (Rt V A₀ R κ) s := by
  refine x_code ?_
  rw [den_eq]
  exact h

variable {ih : RTy}
theorem back_ok (hi : IhOk V T₀ s₀ A₀ R ih) {r : Result} {κ : Kap} {d u H : Nat} {O : Obs} (I : Inv V T₀ s₀ M s) (hA : AOk A₀ κ d u)
    (h : ∀ ν, Ends V T₀ s₀ A₀ R (back ih r κ M d u H ν O)) : Rt V A₀ R κ r s := by
  cases κ with
  | nil =>
    obtain ⟨g, e, _, hg⟩ := h fun _ => 0
    cases e
    exact hg s I
  | cons p κ =>
    obtain ⟨hc, d', u', rfl, rfl, hA'⟩ := hA
    have h' : ∀ ν, Ends V T₀ s₀ A₀ R (ih (p.2 r) p.1 κ M d' u' H ν O) := h
    exact hi _ _ _ _ _ _ _ _ _ I hA' hc h'

theorem enterFr_ok (hV : V.Ok T₀ s₀) (hs : IhSuf ih) (hi : IhOk V T₀ s₀ A₀ R ih) {a : Addr} {args : Args} {fd : FuncData} {b : List Stmt} {o co : Obj} {vs : Array Value} {tq : Tok} {c : Addr} {κ : Kap} {d u H : Nat} {O : Obs} (I : Inv V T₀ s₀ M s) (hA : AOk A₀ κ d u) (hd : d < 1000)
    (ho : s.heap.get? a = some o) (hfd : o.data = .func fd) (hco : fd.scope.isCoroutine = false) (hg : fd.scope.isGenerator = false) (hb : fd.body = .stmts b) (hc : fd.code = .ref c) (hco' : s.heap.get? c = some co) (hvs : co.data = .fields vs) (hv : vs[1]? = some (.str fd.qualname tq))
    (h : ∀ ν, Ends V T₀ s₀ A₀ R (enterFr V ih a args fd b κ d u ν M H O)) : codeAny (model V.prog V.w) (AA A₀ κ) (.call (.ref a) args) (Rt V A₀ R κ) s := by
  have sufE : ∀ ν env M H O, Suf O (match V.kt.get 2 with | none => Out.bad 25 0 | some _ => ih (den (.func b env)) (.func b env) κ M d u H ν O) := fun ν env M H O => by
    split
    · exact Suf.bad
    · exact hs _ _ _ _ _ _ _ _ _
  obtain ⟨hh, hdep, _⟩ := hA.bounds
  refine codeAny_call_function (by show _ < 1000; omega) ho hfd hco hg hb ⟨c, co, vs, tq, hc, hco', hvs, hv⟩ ?_
  rw [bindF_eq, envF_eq]
  refine runP_ok (k := fun ν bs M H O => runP V (fun env M H O => match V.kt.get 2 with | none => .bad 25 0 | some _ => ih (den (.func b env)) (.func b env) κ M d u H ν O) 200 (envF fd.scope fd.globals fd.closure bs (fd.qualname ++ (".<locals>." : Str)) (some a) fd.code none fd.builtins) M H O)
    (fun ν bs M H O => runP_suf (sufE ν) _ _ _ _ _) (fun bs M₁ H₁ O₁ s₁ I₁ h₁ => ?_) 100 _ _ _ _ _ I h
  refine runP_ok (k := fun ν env M H O => match V.kt.get 2 with | none => .bad 25 0 | some _ => ih (den (.func b env)) (.func b env) κ M d u H ν O)
    sufE (fun env M₂ H₂ O₂ s₂ I₂ h₂ => ?_) 200 _ _ _ _ _ I₁ h₁
  cases q2 : V.kt.get 2 with
  | none => simp only [q2] at h₂; exact (h₂ fun _ => 0).not_bad.elim
  | some o2 =>
    simp only [q2] at h₂
    exact ⟨hV.lim _ (fun o e => I₂.sat.top _ _ e) (by rw [q2]; rfl), code_of_mean (hi _ _ _ _ _ _ _ _ _ I₂ hA rfl h₂)⟩

theorem enterDef_ok (hV : V.Ok T₀ s₀) (hs : IhSuf ih) (hi : IhOk V T₀ s₀ A₀ R ih) {a : Addr} {args : Args} {o : Obj} {κ : Kap} {d u H : Nat} {O : Obs} (I : Inv V T₀ s₀ M s) (hA : AOk A₀ κ d u) (hd : d < 1000)
    (ho : s.heap.get? a = some o) (h : ∀ ν, Ends V T₀ s₀ A₀ R (enterDef V ih a args o κ M d u H ν O)) : codeAny (model V.prog V.w) (AA A₀ κ) (.call (.ref a) args) (Rt V A₀ R κ) s := by
  unfold enterDef at h
  split at h
  · rename_i fd hfd
    split at h
    · rename_i b hb
      split at h
      · exact (h fun _ => 0).not_bad.elim
      · rename_i hg
        split at h
        · exact (h fun _ => 0).not_bad.elim
        · rename_i hco
          split at h
          · rename_i c hc
            obtain ⟨co, H', O', hco', h'⟩ := fetch_ok (k := fun ν => enterCode V ih a args fd b κ M d u ν) (fun ν co H O => enterCode_suf hs) I h
            clear h
            simp only [enterCode] at h'
            split at h'
            · rename_i vs hvs
              split at h'
              · rename_i v hv
                split at h'
                · rename_i q tq
                  have e1 := (h' fun _ => 0).sub (enterFr_suf hs) _ (List.mem_cons_self ..)
                  have e2 : q = fd.qualname := by injection e1
                  exact enterFr_ok hV hs hi I hA hd ho hfd hco hg hb hc hco' hvs (by rw [hv, e2]) h'
                · exact (h' fun _ => 0).not_bad.elim
              · exact (h' fun _ => 0).not_bad.elim
            · exact (h' fun _ => 0).not_bad.elim
          · exact (h fun _ => 0).not_bad.elim
    · exact (h fun _ => 0).not_bad.elim
  · exact (h fun _ => 0).not_bad.elim

noncomputable def oracleGo (V : Par) (ih : RTy) (Q : OracleAt) (j : Nat) (c' : Code) (κ : Kap) (M : Mm) (d u H : Nat) (ν : Nat → Nat) (O : Obs) : Out := match Q.f c' M.T M.m (fun i => ν (i % 16)) with
  | none => .bad 32 j
  | some x => match x.T with
    | .nil => .bad 33 j
    | .node y z l r => back ih x.r κ ⟨.node y z l r, x.m, ν 0, 0, ν 1, 706⟩ d u H (fun i => ν (i + 16)) (x.O ++ O)
theorem oracle_ok (hV : V.Ok T₀ s₀) (hs : IhSuf ih) (hi : IhOk V T₀ s₀ A₀ R ih) {c' : Code} {κ : Kap} {d u H j : Nat} {O : Obs} {Q : OracleAt} (I : Inv V T₀ s₀ M s) (hA : AOk A₀ κ d u) (hQ : V.orc j = some Q) (hd : d ≤ Q.d) (hu : u ≤ Q.u)
    (h : ∀ ν, Ends V T₀ s₀ A₀ R (oracleGo V ih Q j c' κ M d u H ν O)) : codeAny (model V.prog V.w) (AA A₀ κ) c' (Rt V A₀ R κ) s := by
  obtain ⟨hh, hdep, hun⟩ := hA.bounds
  refine hV.orc j Q hQ c' M s _ _ I hh (by omega) (by omega) fun ν => ?_
  have mix : ∀ ν' : Nat → Nat, Ends V T₀ s₀ A₀ R (match Q.f c' M.T M.m (fun i => ν (i % 16)) with
      | none => .bad 32 j
      | some x => match x.T with
        | .nil => .bad 33 j
        | .node y z l r => back ih x.r κ ⟨.node y z l r, x.m, ν 0, 0, ν 1, 706⟩ d u H ν' (x.O ++ O)) := fun ν' => by
    have := h fun i => if i < 16 then ν i else ν' (i - 16)
    have e1 : (fun i => if i % 16 < 16 then ν (i % 16) else ν' (i % 16 - 16)) = fun i => ν (i % 16) := by
      funext i
      rw [if_pos (Nat.mod_lt _ (by decide))]
    have e2 : (fun i => if i + 16 < 16 then ν (i + 16) else ν' (i + 16 - 16)) = ν' := by
      funext i
      rw [if_neg (by omega), Nat.add_sub_cancel]
    unfold oracleGo at this
    dsimp only at this
    rw [e1, e2] at this
    exact this
  clear h
  split at mix
  · exact (mix fun _ => 0).not_bad.elim
  · rename_i x hx
    split at mix
    · exact (mix fun _ => 0).not_bad.elim
    · rename_i y z l r hT
      refine ⟨x, hx, fun p hp => (mix fun _ => 0).sub (back_suf hs) p (List.mem_append_left _ hp), fun s' I' => ?_⟩
      rw [hT] at I'
      exact back_ok hi (I.trans I') hA mix

theorem enter_ok (hV : V.Ok T₀ s₀) (hs : IhSuf ih) (hi : IhOk V T₀ s₀ A₀ R ih) {c' : Code} {κ : Kap} {d u H : Nat} {O : Obs} (I : Inv V T₀ s₀ M s) (hA : AOk A₀ κ d u)
    (h : ∀ ν, Ends V T₀ s₀ A₀ R (enter V ih c' κ M d u H ν O)) : c'.quiet = true ∧ codeAny (model V.prog V.w) (AA A₀ κ) c' (Rt V A₀ R κ) s := by
  unfold enter at h
  split at h
  · exact (h fun _ => 0).not_bad.elim
  · rename_i hok
    obtain ⟨hq, hcal⟩ := okCode_spec hok
    refine ⟨hq, ?_⟩
    split at h
    · exact code_of_mean (hi _ _ _ _ _ _ _ _ _ I hA hcal h)
    · split at h
      · rename_i f args
        split at h
        · rename_i a
          split at h
          · exact (h fun _ => 0).not_bad.elim
          · rename_i hd
            obtain ⟨o, H', O', ho, h'⟩ := fetch_ok (k := fun ν o H O => enterDef V ih a args o κ M d u H ν O) (fun ν o H O => enterDef_suf hs) I h
            exact enterDef_ok hV hs hi I hA (Nat.le_of_ble_eq_true hd) ho h'
        · exact (h fun _ => 0).not_bad.elim
      · exact (h fun _ => 0).not_bad.elim
    · split at h
      · obtain ⟨g, e, _, hg⟩ := h fun _ => 0
        cases e
        exact (hg s I).2
      · obtain ⟨g, e, _, hg⟩ := h fun _ => 0
        cases e
        exact hg s I hA
    · split at h
      · rename_i e dp it acc env
        split at h
        · split at h
          · rename_i a
            split at h
            · rename_i elt gens sc pos
              split at h
              · exact (h fun _ => 0).not_bad.elim
              · rename_i g rest
                obtain ⟨o, H', O', ho, h'⟩ := fetch_ok (k := fun ν (o : Obj) (H' : Nat) (O : Obs) => ih (den (.compLoop (.ListComp elt (g :: rest) sc pos) 0 (.ref a) acc env)) (.compLoop (.ListComp elt (g :: rest) sc pos) 0 (.ref a) acc env) κ M d u H' ν ((.v o.cls, .v (.type (iterType (H / 256 % 256)))) :: (.i g.is_async, .i 0) :: O)) (fun ν o H O => ((hs _ _ _ _ _ _ _ _ _).cons).cons) I h
                have e1 := (h' fun _ => 0).sub (hs _ _ _ _ _ _ _ _ _) _ (List.mem_cons_self ..)
                have e2 := (h' fun _ => 0).sub (hs _ _ _ _ _ _ _ _ _) _ (List.mem_cons_of_mem _ (List.mem_cons_self ..))
                have hcls : o.cls = .type (iterType (H / 256 % 256)) := by injection e1
                have hga : g.is_async = 0 := by injection e2
                obtain ⟨target, iter, ifs, ia⟩ := g
                cases hga
                have hl := code_of_mean (hi _ _ _ _ _ _ _ _ _ I hA rfl h')
                exact codeAny_compStart_list hl (pyIter_self _ ho hcls hl)
            · exact (h fun _ => 0).not_bad.elim
          · exact (h fun _ => 0).not_bad.elim
        · exact (h fun _ => 0).not_bad.elim
      · exact (h fun _ => 0).not_bad.elim
    · split at h
      · exact (h fun _ => 0).not_bad.elim
      · rename_i Q hQ
        split at h
        · exact (h fun _ => 0).not_bad.elim
        · rename_i hd
          split at h
          · exact (h fun _ => 0).not_bad.elim
          · rename_i hu
            exact oracle_ok hV hs hi I hA hQ (Nat.le_of_ble_eq_true hd) (Nat.le_of_ble_eq_true hu) h

theorem step1_ok (hV : V.Ok T₀ s₀) (hs : IhSuf ih) (hi : IhOk V T₀ s₀ A₀ R ih) : IhOk V T₀ s₀ A₀ R (step1 V ih) := by
  intro t c κ M d u H O s I hA hc h
  obtain ⟨hh, hdep, hun⟩ := hA.bounds
  unfold step1 at h
  cases t with
  | pure fin =>
    cases fin with
    | done f => exact x_pure (back_ok hi I hA h)
    | again c' => exact x_pure (enter_ok hV hs hi I hA h)
  | raise e => exact x_raise (back_ok hi I hA h)
  | rule _ f => exact x_rule (hi _ _ _ _ _ _ _ _ _ I hA hc h)
  | «at» _ f => exact x_at (hi _ _ _ _ _ _ _ _ _ I hA hc h)
  | point _ f => exact x_point (hi _ _ _ _ _ _ _ _ _ I hA hc h)
  | ask f =>
    dsimp only at h
    split at h
    · exact x_ask (hi _ _ _ _ _ _ _ _ _ I hA hc h)
    · have e1 := (h fun _ => 0).sub (hs _ _ _ _ _ _ _ _ _) _ (List.mem_cons_self ..)
      have e2 : f ⟨V.prog, rowOn V.w true⟩ = f ⟨V.prog, rowOn V.w false⟩ := by injection e1
      refine x_ask ?_
      have e3 : f ⟨V.prog, V.w.params⟩ = f ⟨V.prog, rowOn V.w true⟩ := by
        have := World.withFollow_self V.w "special-get-raises"
        cases hb : V.w.params.followText "special-get-raises" with
        | true =>
          rw [hb] at this
          show _ = f ⟨V.prog, (V.w.withFollow "special-get-raises" true).params⟩
          rw [this]
        | false =>
          rw [hb] at this
          rw [e2]
          show _ = f ⟨V.prog, (V.w.withFollow "special-get-raises" false).params⟩
          rw [this]
      rw [e3]
      exact hi _ _ _ _ _ _ _ _ _ I hA hc h
  | load a q f =>
    obtain ⟨o, H', O', ho, h'⟩ := fetch_ok (k := fun ν o H O => ih (f o) c κ M d u H ν O) (fun ν o H O => hs _ _ _ _ _ _ _ _ _) I h
    exact x_load ho (hi _ _ _ _ _ _ _ _ _ I hA hc h')
  | update a q g f =>
    obtain ⟨o, M', H', O', ho, I', h'⟩ := store_ok (k := fun ν M H O => ih (f ()) c κ M d u H ν O) (fun ν o H O => hs _ _ _ _ _ _ _ _ _) I h
    exact wpAny_bind (m := updatePart a q g) (f := f) (wpAny_updatePart ho (hi _ _ _ _ _ _ _ _ _ I' hA hc h'))
  | alloc o f =>
    obtain ⟨M', I', h'⟩ := make_ok (k := fun ν a M => ih (f a) c κ M d u H ν O) I h
    exact wpAny_bind (m := PySem.alloc o) (f := f) (wpAny_alloc (hi _ _ _ _ _ _ _ _ _ I' hA hc h'))
  | fresh f =>
    obtain ⟨M', I', h'⟩ := newTok_ok (k := fun ν a M => ih (f a) c κ M d u H ν O) I h
    exact x_fresh (hi _ _ _ _ _ _ _ _ _ I' hA hc h')
  | handled own f =>
    cases own with
    | true => exact (h fun _ => 0).not_bad.elim
    | false =>
      refine x_handled ?_
      have e : ((AA A₀ κ).under c).handled = none := hh
      rw [e]
      exact hi _ _ _ _ _ _ _ _ _ I hA hc h
  | call c' hd g l k =>
    cases hd with
    | some _ => exact (h fun _ => 0).not_bad.elim
    | none =>
      have hA' : AOk A₀ ((c, k) :: κ) (d + 6) (u + 10) := ⟨hc, d, u, rfl, rfl, hA⟩
      have z := (enter_ok hV hs hi (κ := (c, k) :: κ) I hA' h).2
      refine x_call ?_ (by intro q; cases q)
      exact z
  | _ => exact (h fun _ => 0).not_bad.elim

theorem run_ok (hV : V.Ok T₀ s₀) : ∀ n, IhOk V T₀ s₀ A₀ R (run V n)
  | 0 => fun _ _ _ _ _ _ _ _ s I hA _ h => by
    obtain ⟨g, e, _, hg⟩ := h fun _ => 0
    cases e
    exact hg s I hA
  | n + 1 => step1_ok hV (run_suf n) (run_ok hV n)

noncomputable def goes (V : Par) (n H : Nat) (c : Code) (M : Mm) (d u : Nat) (ν : Nat → Nat) : Out := enter V (run V n) c [] M d u H ν []
theorem goes_ok (hV : V.Ok M.T s) {n H : Nat} {c : Code} {d u : Nat} (S : Sat V M s) (h0 : A₀.handled = none) (hd : A₀.depth + 6 ≤ d) (hu : A₀.units + 10 ≤ u)
    (h : ∀ ν, Ends V M.T s A₀ R (goes V n H c M d u ν)) : codeAny (model V.prog V.w) A₀ c R s :=
  (enter_ok (κ := []) hV (run_suf n) (run_ok hV n) (Inv.start S) ⟨h0, hd, hu⟩ h).2
end
end Mine
end
section
open PySem PySem.Spec PySem.Calls PySem.W PySem.W.X PyProof.Rows
set_option Elab.async false
set_option maxRecDepth 100000
namespace Mine

/-! ## lists of cells -/
noncomputable def insAll : CT → Nat → List (Addr × Obj) → CT
  | T, _, [] => T
  | T, m, p :: l => insAll (T.ins m p.1 p.2) (m + 1) l
noncomputable def cellsOf (l : List (Addr × Obj)) : CT := insAll .nil 0 l
noncomputable def Full (T : CT) (m : Nat) : Prop := ∀ i, (i < m → (T.get i).isSome = true) ∧ (m ≤ i → T.get i = none)
theorem Full.ins_get {a : Addr} {o : Obj} : ∀ (T : CT) (m : Nat), Full T m → ((T.ins m a o).get m).isSome = true
  | .nil, m, h => by
    by_cases hm : m = 0
    · subst hm; rfl
    · have := (h 0).1 (Nat.pos_of_ne_zero hm)
      cases this
  | .node b v l r, m, h => by
    by_cases hm : m = 0
    · subst hm
      have := (h 0).2 (Nat.le_refl _)
      rw [CT.get_node, if_pos rfl] at this
      cases this
    · rw [CT.ins_node, if_neg hm]
      by_cases hp : m % 2 = 1
      · rw [if_pos hp, CT.get_node, if_neg hm, if_pos hp]
        refine Full.ins_get l (m / 2) fun i => ⟨fun hi => ?_, fun hi => ?_⟩
        · have := (h (2 * i + 1)).1 (by omega)
          rw [CT.get_node, if_neg (by omega), if_pos (by omega), show (2 * i + 1) / 2 = i by omega] at this
          exact this
        · have := (h (2 * i + 1)).2 (by omega)
          rw [CT.get_node, if_neg (by omega), if_pos (by omega), show (2 * i + 1) / 2 = i by omega] at this
          exact this
      · rw [if_neg hp, CT.get_node, if_neg hm, if_neg hp]
        refine Full.ins_get r (m / 2 - 1) fun i => ⟨fun hi => ?_, fun hi => ?_⟩
        · have := (h (2 * i + 2)).1 (by omega)
          rw [CT.get_node, if_neg (by omega), if_neg (by omega), show (2 * i + 2) / 2 - 1 = i by omega] at this
          exact this
        · have := (h (2 * i + 2)).2 (by omega)
          rw [CT.get_node, if_neg (by omega), if_neg (by omega), show (2 * i + 2) / 2 - 1 = i by omega] at this
          exact this
theorem Full.ins {T : CT} {m : Nat} (h : Full T m) (a : Addr) (o : Obj) : Full (T.ins m a o) (m + 1) ∧ ∀ i, (T.ins m a o).get i = if i = m then some (a, o) else T.get i := by
  have g := CT.get_ins a o T m (h.ins_get _ _) ((h m).2 (Nat.le_refl _))
  refine ⟨fun i => ⟨fun hi => ?_, fun hi => ?_⟩, g⟩
  · rw [g]
    by_cases e : i = m
    · rw [if_pos e]; rfl
    · rw [if_neg e]; exact (h i).1 (by omega)
  · rw [g, if_neg (by omega)]
    exact (h i).2 (by omega)
theorem insAll_get : ∀ (l : List (Addr × Obj)) (T : CT) (m : Nat), Full T m → ∀ i, (insAll T m l).get i = if i < m then T.get i else l[i - m]?
  | [], T, m, h, i => by
    by_cases hi : i < m
    · rw [if_pos hi]; rfl
    · rw [if_neg hi]
      exact (h i).2 (by omega)
  | p :: l, T, m, h, i => by
    obtain ⟨h1, g⟩ := h.ins p.1 p.2
    show (insAll (T.ins m p.1 p.2) (m + 1) l).get i = _
    rw [insAll_get l _ _ h1 i, g]
    by_cases hi : i < m
    · rw [if_pos hi, if_pos (by omega), if_neg (by omega)]
    · rw [if_neg hi]
      by_cases e : i = m
      · subst e
        rw [if_pos (by omega), if_pos rfl, Nat.sub_self]; rfl
      · rw [if_neg (by omega), show i - m = (i - (m + 1)) + 1 by omega]; rfl
theorem full_nil : Full .nil 0 := fun i => ⟨fun h => absurd h (Nat.not_lt_zero _), fun _ => rfl⟩
theorem cellsOf_get (l : List (Addr × Obj)) (i : Nat) : (cellsOf l).get i = l[i]? := by
  unfold cellsOf
  rw [insAll_get l _ _ full_nil, if_neg (Nat.not_lt_zero _), Nat.sub_zero]

noncomputable def getAll (T : CT) : List Nat → Option (List (Addr × Obj))
  | [] => some []
  | j :: J => match T.get j with
    | none => none
    | some p => match getAll T J with
      | none => none
      | some ps => some (p :: ps)
theorem getAll_spec {T : CT} : ∀ {J : List Nat} {ps : List (Addr × Obj)}, getAll T J = some ps → ps.length = J.length ∧ ∀ (k j : Nat), J[k]? = some j → T.get j = ps[k]?
  | [], ps, h => by cases h; exact ⟨rfl, fun k j e => by simp at e⟩
  | j :: J, ps, h => by
    unfold getAll at h
    split at h
    · cases h
    · rename_i p hp
      split at h
      · cases h
      · rename_i ps' hps
        cases h
        obtain ⟨h1, h2⟩ := getAll_spec hps
        refine ⟨by simp [h1], fun k j' e => ?_⟩
        cases k with
        | zero => simp at e; subst e; simpa using hp
        | succ k => simp at e; simpa using h2 k j' e
noncomputable def putAll : CT → List Nat → List Obj → CT
  | T, j :: J, o :: os => putAll (T.set j fun _ => o) J os
  | T, _, _ => T
theorem putAll_get : ∀ {J : List Nat} {os : List Obj} {T : CT}, J.Nodup → ∀ i p, (putAll T J os).get i = some p →
    (i ∉ J ∧ T.get i = some p) ∨ (∃ k, J[k]? = some i ∧ ∃ o', T.get i = some (p.1, o') ∧ (os[k]? = some p.2 ∨ (os.length ≤ k ∧ p.2 = o')))
  | [], os, T, _, i, p, h => by
    have : (putAll T [] os) = T := by unfold putAll; rfl
    rw [this] at h
    exact .inl ⟨List.not_mem_nil, h⟩
  | j :: J, [], T, _, i, p, h => by
    have : (putAll T (j :: J) []) = T := by unfold putAll; rfl
    rw [this] at h
    by_cases hi : i ∈ j :: J
    · obtain ⟨k, hk⟩ := List.mem_iff_getElem?.mp hi
      exact .inr ⟨k, hk, p.2, h, .inr ⟨Nat.zero_le _, rfl⟩⟩
    · exact .inl ⟨hi, h⟩
  | j :: J, o :: os, T, hn, i, p, h => by
    obtain ⟨hj, hn'⟩ := List.nodup_cons.mp hn
    rcases putAll_get (T := T.set j fun _ => o) hn' i p h with ⟨hi, g⟩ | ⟨k, hk, o', g, hp⟩
    · rw [CT.get_set] at g
      by_cases e : i = j
      · subst e
        rw [if_pos rfl] at g
        cases q : T.get i with
        | none => rw [q] at g; cases g
        | some x =>
          rw [q] at g
          have g' : (x.1, o) = p := by simpa using g
          subst g'
          exact .inr ⟨0, rfl, x.2, rfl, .inl rfl⟩
      · rw [if_neg e] at g
        exact .inl ⟨by simp [e, hi], g⟩
    · have ne : i ≠ j := fun e => hj (e ▸ List.mem_of_getElem? hk)
      rw [CT.get_set, if_neg ne] at g
      refine .inr ⟨k + 1, by simpa using hk, o', g, ?_⟩
      rcases hp with hp | ⟨hl, hp⟩
      · exact .inl (by simpa using hp)
      · exact .inr ⟨by simp; omega, hp⟩
noncomputable def addAll : CT → Nat → List (Addr × Obj) → Option CT
  | T, _, [] => some T
  | T, m, p :: l => match T.get m with
    | some _ => none
    | none => match (T.ins m p.1 p.2).get m with
      | none => none
      | some _ => addAll (T.ins m p.1 p.2) (m + 1) l
theorem addAll_get : ∀ {l : List (Addr × Obj)} {T T' : CT} {m : Nat}, addAll T m l = some T' → ∀ i p, T'.get i = some p → T.get i = some p ∨ ∃ k, i = m + k ∧ l[k]? = some p
  | [], T, T', m, h, i, p, g => by cases h; exact .inl g
  | q :: l, T, T', m, h, i, p, g => by
    unfold addAll at h
    split at h
    · cases h
    · rename_i hn
      split at h
      · cases h
      · rename_i x hx
        have gi := CT.get_ins q.1 q.2 T m (by rw [hx]; rfl) hn
        rcases addAll_get h i p g with g' | ⟨k, hk, hl⟩
        · rw [gi] at g'
          by_cases e : i = m
          · rw [if_pos e] at g'
            exact .inr ⟨0, e, g'⟩
          · rw [if_neg e] at g'
            exact .inl g'
        · exact .inr ⟨k + 1, by omega, by simpa using hl⟩

/-! ## contracts -/
structure Job where
  code : Code
  pre : List (Addr × Obj)
  post : (Nat → Nat) → List Obj
  new : (Nat → Nat) → List (Addr × Obj)
  r : (Nat → Nat) → Result
  d : Nat
  u : Nat
noncomputable def cut (ν : Nat → Nat) : Nat → Nat := fun i => ν (i % 16)
noncomputable def Job.out (S : Job) (ν : Nat → Nat) : List (Addr × Obj) := (S.pre.map Prod.fst).zip (S.post ν) ++ S.new ν
noncomputable def Job.start (S : Job) (s : Shared) : Mm := ⟨cellsOf S.pre, S.pre.length, s.heap.objs.size, 0, s.toks - 706, 706⟩
noncomputable def Job.fin (S : Job) (ν : Nat → Nat) : Mm := ⟨cellsOf (S.out (cut ν)), (S.out (cut ν)).length, ν 0, 0, ν 1, 706⟩
noncomputable def Ctr (V : Par) (F : Shared → Prop) (S : Job) : Prop := ∀ A s R, A.handled = none → A.depth ≤ S.d → A.units ≤ S.u → F s → Sat V (S.start s) s →
  (∀ ν s', Inv V (cellsOf S.pre) s (S.fin ν) s' → R (S.r (cut ν)) s') → codeAny (model V.prog V.w) A S.code R s

noncomputable def obl (c : Code) (S : Job) (ps : List (Addr × Obj)) : Obs :=
  (.c c, .c S.code) :: (.n ps.length, .n S.pre.length) :: (ps.zip S.pre).flatMap fun q => [(.n q.1.1, .n q.2.1), (.o q.1.2, .o q.2.2)]
noncomputable def QF {α : Type} (J : List Nat) (ex : Code → List (Addr × Obj) → Option α) (S : α → Job) (d u : Nat) : OracleAt := ⟨fun c T m ν => match getAll T J with
  | none => none
  | some ps => match ex c ps with
    | none => none
    | some a => match addAll (putAll T J ((S a).post ν)) m ((S a).new ν) with
      | none => none
      | some T' => some ⟨(.n J.length, .n ((S a).post ν).length) :: obl c (S a) ps, (S a).r ν, T', m + ((S a).new ν).length⟩, d, u⟩

theorem obl_spec {c : Code} {S : Job} {ps : List (Addr × Obj)} (h : ∀ p ∈ obl c S ps, p.1 = p.2) : c = S.code ∧ ps = S.pre := by
  have h1 := h (.c c, .c S.code) (List.mem_cons_self ..)
  have h2 := h (.n ps.length, .n S.pre.length) (List.mem_cons_of_mem _ (List.mem_cons_self ..))
  have h3 : ∀ q ∈ ps.zip S.pre, q.1 = q.2 := fun q hq => by
    have a := h (.n q.1.1, .n q.2.1) (List.mem_cons_of_mem _ (List.mem_cons_of_mem _ (List.mem_flatMap.mpr ⟨q, hq, by simp⟩)))
    have b := h (.o q.1.2, .o q.2.2) (List.mem_cons_of_mem _ (List.mem_cons_of_mem _ (List.mem_flatMap.mpr ⟨q, hq, by simp⟩)))
    injection a with a; injection b with b
    exact Prod.ext a b
  injection h1 with h1; injection h2 with h2
  refine ⟨h1, List.ext_getElem h2 fun i hi hj => ?_⟩
  have := h3 (ps[i], S.pre[i]) (by
    rw [List.mem_iff_getElem]
    exact ⟨i, by rw [List.length_zip]; omega, by rw [List.getElem_zip]⟩)
  exact this

theorem nodup_idx {J : List Nat} (h : J.Nodup) {i j x : Nat} (hi : J[i]? = some x) (hj : J[j]? = some x) : i = j := by
  obtain ⟨h1, e1⟩ := List.getElem?_eq_some_iff.mp hi
  obtain ⟨h2, e2⟩ := List.getElem?_eq_some_iff.mp hj
  have q := List.pairwise_iff_getElem.mp h
  rcases Nat.lt_trichotomy i j with lt | e | gt
  · exact absurd (e1.trans e2.symm) (q i j h1 h2 lt)
  · exact e
  · exact absurd (e2.trans e1.symm) (q j i h2 h1 gt)

section
variable {V : Par} {T₀ : CT} {s₀ s : Shared} {M : Mm}
theorem start_sat (S : Job) {J : List Nat} (hJ : J.Nodup) (I : Inv V T₀ s₀ M s) (hg : getAll M.T J = some S.pre) : Sat V (S.start s) s := by
  obtain ⟨hl, hget⟩ := getAll_spec hg
  have at_ : ∀ i p, S.pre[i]? = some p → ∃ j, J[i]? = some j ∧ M.T.get j = some p := fun i p h => by
    have hi : i < J.length := by
      have := (List.getElem?_eq_some_iff.mp h).1
      omega
    exact ⟨J[i], List.getElem?_eq_getElem hi, (hget i J[i] (List.getElem?_eq_getElem hi)).trans h⟩
  refine ⟨I.sat.top, rfl, ?_, fun i a o e => ?_, fun i j a o o' e e' => ?_, I.sat.lo⟩
  · show s.toks = s.toks - 706 + 706
    have := I.sat.lo; omega
  · rw [show (S.start s).T = cellsOf S.pre from rfl, cellsOf_get] at e
    obtain ⟨j, _, hj⟩ := at_ i _ e
    exact I.sat.own j a o hj
  · rw [show (S.start s).T = cellsOf S.pre from rfl, cellsOf_get] at e e'
    obtain ⟨k, hk, hk'⟩ := at_ i _ e
    obtain ⟨l, hl', hl''⟩ := at_ j _ e'
    have := I.sat.inj k l a o o' hk' hl''
    subst this
    exact nodup_idx hJ hk hl'

theorem big_inv {S : Job} {J : List Nat} {ν : Nat → Nat} {s' : Shared} {T' : CT} (hJ : J.Nodup) (I : Inv V T₀ s₀ M s) (hg : getAll M.T J = some S.pre) (K : Inv V (cellsOf S.pre) s (S.fin ν) s')
    (hlen : (S.post (cut ν)).length = J.length) (hT : addAll (putAll M.T J (S.post (cut ν))) M.m (S.new (cut ν)) = some T') :
    Inv V M.T s ⟨T', M.m + (S.new (cut ν)).length, ν 0, 0, ν 1, 706⟩ s' := by
  obtain ⟨hlJ, hgetJ⟩ := getAll_spec hg
  have hzl : ((S.pre.map Prod.fst).zip (S.post (cut ν))).length = J.length := by
    rw [List.length_zip, List.length_map]; omega
  -- what the small memory holds in the end
  have kget : ∀ i, (S.fin ν).T.get i = (S.out (cut ν))[i]? := fun i => cellsOf_get _ _
  have kpre : ∀ i, (cellsOf S.pre).get i = S.pre[i]? := fun i => cellsOf_get _ _
  have atJ : ∀ k p, S.pre[k]? = some p → ∃ j, J[k]? = some j ∧ M.T.get j = some p := fun k p h => by
    have hi : k < J.length := by
      have := (List.getElem?_eq_some_iff.mp h).1
      omega
    exact ⟨J[k], List.getElem?_eq_getElem hi, (hgetJ k J[k] (List.getElem?_eq_getElem hi)).trans h⟩
  have outJ : ∀ k p o, S.pre[k]? = some p → (S.post (cut ν))[k]? = some o → (S.fin ν).T.get k = some (p.1, o) := fun k p o h1 h2 => by
    rw [kget]
    unfold Job.out
    have hk : k < ((S.pre.map Prod.fst).zip (S.post (cut ν))).length := by
      have := (List.getElem?_eq_some_iff.mp h1).1
      omega
    rw [List.getElem?_append_left hk, List.getElem?_zip_eq_some]
    exact ⟨by rw [List.getElem?_map, h1]; rfl, h2⟩
  have outN : ∀ k p, (S.new (cut ν))[k]? = some p → (S.fin ν).T.get (J.length + k) = some p := fun k p h => by
    rw [kget]
    unfold Job.out
    rw [List.getElem?_append_right (by omega), hzl, Nat.add_sub_cancel_left]
    exact h
  -- the three kinds of cells of the big memory
  have kinds : ∀ i p, T'.get i = some p → (i ∉ J ∧ M.T.get i = some p) ∨ (∃ k q, J[k]? = some i ∧ S.pre[k]? = some q ∧ q.1 = p.1 ∧ (S.fin ν).T.get k = some p) ∨ (∃ k, i = M.m + k ∧ (S.fin ν).T.get (J.length + k) = some p) := fun i p h => by
    rcases addAll_get hT i p h with h | ⟨k, hk, hp⟩
    · rcases putAll_get hJ i p h with h | ⟨k, hk, o', ho', hp⟩
      · exact .inl h
      · have hkl : k < J.length := (List.getElem?_eq_some_iff.mp hk).1
        rcases hp with hp | ⟨hle, _⟩
        · have hq : S.pre[k]? = some (p.1, o') := (hgetJ k i hk).symm.trans ho'
          exact .inr (.inl ⟨k, (p.1, o'), hk, hq, rfl, outJ k (p.1, o') p.2 hq hp⟩)
        · omega
    · exact .inr (.inr ⟨k, hk, outN k p hp⟩)
  have other : ∀ i a o, i ∉ J → M.T.get i = some (a, o) → ∀ k b o', (cellsOf S.pre).get k = some (b, o') → b ≠ a := fun i a o hi h k b o' h' e => by
    subst e
    rw [kpre] at h'
    obtain ⟨j, hj, hj'⟩ := atJ k _ h'
    have := I.sat.inj i j _ _ _ h hj'
    subst this
    exact hi (List.mem_of_getElem? hj)
  -- a new cell is no old one
  have newOld : ∀ k a o, (S.fin ν).T.get (J.length + k) = some (a, o) → s.heap.get? a = none := fun k a o h => by
    rcases K.org _ a o h with ⟨j, o', hj⟩ | h'
    · rw [kpre] at hj
      have hjl : j < J.length := by
        have := (List.getElem?_eq_some_iff.mp hj).1
        omega
      have hpo : j < (S.post (cut ν)).length := by omega
      have := K.sat.inj _ _ a o _ h (outJ j _ _ hj (List.getElem?_eq_getElem hpo))
      omega
    · exact h'
  have oldLt : ∀ i a o, M.T.get i = some (a, o) → s.heap.get? a ≠ none := fun i a o h q => by
    rw [(I.sat.own i a o h).1] at q
    cases q
  refine ⟨⟨K.sat.top, K.sat.size, K.sat.toks, fun i a o h => ?_, fun i j a o o' h h' => ?_, K.sat.lo⟩, ⟨fun b o h hb => ?_, K.kp.toks, K.kp.gens, K.kp.drawn, K.kp.os⟩, fun i a o h => ?_⟩
  · rcases kinds i _ h with ⟨hi, g⟩ | ⟨k, q, _, _, _, g⟩ | ⟨k, _, g⟩
    · exact ⟨K.kp.keep a o (I.sat.own i a o g).1 (other i a o hi g), (I.sat.own i a o g).2⟩
    · exact K.sat.own k a o g
    · exact K.sat.own _ a o g
  · rcases kinds i _ h with ⟨hi, g⟩ | ⟨k, q, hk, hq, hqa, g⟩ | ⟨k, hk, g⟩
    · rcases kinds j _ h' with ⟨hj, g'⟩ | ⟨l, q', hl, hq', hqa', g'⟩ | ⟨l, hl, g'⟩
      · exact I.sat.inj i j a o o' g g'
      · exact absurd hqa' (by
          have := other i a o hi g l q'.1 q'.2 (by rw [kpre]; exact hq')
          exact this)
      · exact absurd (newOld l a o' g') (oldLt i a o g)
    · rcases kinds j _ h' with ⟨hj, g'⟩ | ⟨l, q', hl, hq', hqa', g'⟩ | ⟨l, hl, g'⟩
      · exact absurd hqa (by
          have := other j a o' hj g' k q.1 q.2 (by rw [kpre]; exact hq)
          exact this)
      · have := K.sat.inj k l a o o' g g'
        subst this
        exact Option.some.inj (hk.symm.trans hl)
      · have := K.sat.inj _ _ a o o' g g'
        have hkl : k < J.length := (List.getElem?_eq_some_iff.mp hk).1
        omega
    · rcases kinds j _ h' with ⟨hj, g'⟩ | ⟨l, q', hl, hq', hqa', g'⟩ | ⟨l, hl, g'⟩
      · exact absurd (newOld k a o g) (oldLt j a o' g')
      · have := K.sat.inj _ _ a o o' g g'
        have hkl : l < J.length := (List.getElem?_eq_some_iff.mp hl).1
        omega
      · have := K.sat.inj _ _ a o o' g g'
        omega
  · refine K.kp.keep b o h fun k a o' e => ?_
    rw [kpre] at e
    obtain ⟨j, _, hj⟩ := atJ k _ e
    exact hb j a o' hj
  · rcases kinds i _ h with ⟨hi, g⟩ | ⟨k, q, hk, hq, hqa, g⟩ | ⟨k, hk, g⟩
    · exact .inl ⟨i, o, g⟩
    · obtain ⟨j, _, hj⟩ := atJ k _ hq
      exact .inl ⟨j, q.2, by rw [hj]; cases q; cases hqa; rfl⟩
    · exact .inr (newOld k a o g)

theorem lift_ok {α : Type} {F : Shared → Prop} {J : List Nat} {ex : Code → List (Addr × Obj) → Option α} {S : α → Job} {d u : Nat} (hJ : J.Nodup) (hF : ∀ M s, Inv V T₀ s₀ M s → F s)
    (hC : ∀ a, Ctr V F (S a)) (hd : ∀ a, d ≤ (S a).d) (hu : ∀ a, u ≤ (S a).u) : OracleOk V T₀ s₀ (QF J ex S d u) := by
  intro c M s A R I h0 hdep hun H
  obtain ⟨x₀, hx₀, ho₀, _⟩ := H fun _ => 0
  simp only [QF] at hx₀
  split at hx₀
  · cases hx₀
  · rename_i ps hps
    split at hx₀
    · cases hx₀
    · rename_i a ha
      split at hx₀
      · cases hx₀
      · cases hx₀
        obtain ⟨rfl, hpre⟩ := obl_spec fun p hp => ho₀ p (List.mem_cons_of_mem _ hp)
        subst hpre
        obtain ⟨hlJ, hgetJ⟩ := getAll_spec hps
        refine hC a A s R h0 (Nat.le_trans hdep (hd a)) (Nat.le_trans hun (hu a)) (hF _ _ I) (start_sat _ hJ I hps) fun ν s' K => ?_
        obtain ⟨x, hx, hox, hR⟩ := H ν
        simp only [QF, hps, ha] at hx
        split at hx
        · cases hx
        · rename_i T' hT'
          cases hx
          have hlen : ((S a).post (cut ν)).length = J.length := by
            have := hox (.n J.length, .n ((S a).post (cut ν)).length) (List.mem_cons_self ..)
            injection this with this
            exact this.symm
          refine hR s' ?_
          exact big_inv hJ I hps K hlen hT'
end
end Mine
end
section
open PySem PySem.Spec PySem.Calls PySem.W PySem.W.X PyProof.Rows
set_option Elab.async false
set_option maxRecDepth 100000
namespace Mine

section
variable {V V' : Par}
theorem Sat.cast (h : V.kt = V'.kt) {M : Mm} {s : Shared} (S : Sat V M s) : Sat V' M s :=
  ⟨by rw [← h]; exact S.top, S.size, S.toks, by rw [← h]; exact S.own, S.inj, S.lo⟩
theorem Inv.cast (h : V.kt = V'.kt) {T₀ : CT} {s₀ : Shared} {M : Mm} {s : Shared} (I : Inv V T₀ s₀ M s) : Inv V' T₀ s₀ M s := ⟨I.sat.cast h, I.kp, I.org⟩

theorem Inv.restrict {T₀ : CT} {s₀ s : Shared} {M : Mm} {J : List Nat} {L : List (Addr × Obj)} (hJ : J.Nodup) (I : Inv V T₀ s₀ M s) (hg : getAll M.T J = some L) {b t : Nat} (hb : s.heap.objs.size = b) (ht : s.toks = t + 706) :
    Inv V T₀ s₀ ⟨cellsOf L, L.length, b, 0, t, 706⟩ s := by
  obtain ⟨hl, hget⟩ := getAll_spec hg
  have at_ : ∀ i p, L[i]? = some p → ∃ j, J[i]? = some j ∧ M.T.get j = some p := fun i p h => by
    have hi : i < J.length := by
      have := (List.getElem?_eq_some_iff.mp h).1
      omega
    exact ⟨J[i], List.getElem?_eq_getElem hi, (hget i J[i] (List.getElem?_eq_getElem hi)).trans h⟩
  refine ⟨⟨I.sat.top, hb, ht, fun i a o e => ?_, fun i j a o o' e e' => ?_, I.sat.lo⟩, I.kp, fun i a o e => ?_⟩
  · rw [cellsOf_get] at e
    obtain ⟨j, _, hj⟩ := at_ i _ e
    exact I.sat.own j a o hj
  · rw [cellsOf_get] at e e'
    obtain ⟨k, hk, hk'⟩ := at_ i _ e
    obtain ⟨l, hl', hl''⟩ := at_ j _ e'
    have := I.sat.inj k l a o o' hk' hl''
    subst this
    exact nodup_idx hJ hk hl'
  · rw [cellsOf_get] at e
    obtain ⟨j, _, hj⟩ := at_ i _ e
    exact I.org j a o hj
end

noncomputable def nuOf (g : Goal) (l : List Nat) : Nat → Nat
  | 0 => g.M.base + g.M.off
  | 1 => g.M.tb + g.M.toff - 706
  | k + 2 => l.getD k 0
noncomputable def seen (J : List Nat) : Out → Option (List Ob × EndK × Option (List (Addr × Obj)))
  | .fin g => some (g.O.map Prod.fst, g.e.kind, getAll g.M.T J)
  | .bad _ _ => none
noncomputable def due (xs : Goal → List Nat) (e : (Nat → Nat) → EndK) (L : (Nat → Nat) → List (Addr × Obj)) : Out → Option (List Ob × EndK × Option (List (Addr × Obj)))
  | .fin g => some (g.O.map Prod.snd, e (cut (nuOf g (xs g))), some (L (cut (nuOf g (xs g)))))
  | .bad _ _ => none
noncomputable def isFin : Out → Bool
  | .fin _ => true
  | .bad _ _ => false
noncomputable def Runs (J : List Nat) (xs : Goal → List Nat) (e : (Nat → Nat) → EndK) (L : (Nat → Nat) → List (Addr × Obj)) (x : Out) : Prop := (isFin x, seen J x) = (true, due xs e L x)

theorem Runs.spec {J : List Nat} {xs : Goal → List Nat} {e : (Nat → Nat) → EndK} {L : (Nat → Nat) → List (Addr × Obj)} {x : Out} (h : Runs J xs e L x) :
    ∃ g, x = .fin g ∧ (∀ p ∈ g.O, p.1 = p.2) ∧ g.e.kind = e (cut (nuOf g (xs g))) ∧ getAll g.M.T J = some (L (cut (nuOf g (xs g)))) := by
  unfold Runs at h
  obtain ⟨h1, h2⟩ := Prod.mk.inj h
  cases x with
  | bad n a => cases h1
  | fin g =>
    simp only [seen, due, Option.some.injEq, Prod.mk.injEq] at h2
    refine ⟨g, rfl, fun p hp => ?_, h2.2.1, h2.2.2⟩
    obtain ⟨k, hk⟩ := List.mem_iff_getElem?.mp hp
    have a : (g.O.map Prod.fst)[k]? = some p.1 := by rw [List.getElem?_map, hk]; rfl
    have b : (g.O.map Prod.snd)[k]? = some p.2 := by rw [List.getElem?_map, hk]; rfl
    rw [h2.1, b] at a
    exact (Option.some.inj a).symm

section
variable {V : Par}
theorem ctr_of_run {orc : Nat → Option OracleAt} {F : Shared → Prop} {S : Job} {n H : Nat} {J : List Nat} {xs : Goal → List Nat} (hJ : J.Nodup)
    (hOk : ∀ s, F s → Sat V (S.start s) s → Par.Ok ⟨V.prog, V.w, V.kt, orc⟩ (cellsOf S.pre) s)
    (hrun : ∀ base tb ν, Runs J xs (fun ν => .ret (S.r ν)) S.out (goes ⟨V.prog, V.w, V.kt, orc⟩ n H S.code ⟨cellsOf S.pre, S.pre.length, base, 0, tb, 706⟩ (S.d + 6) (S.u + 10) ν)) : Ctr V F S := by
  intro A s R h0 hd hu hF hS hR
  refine goes_ok (V := ⟨V.prog, V.w, V.kt, orc⟩) (M := S.start s) (hOk s hF hS) (n := n) (H := H) (Sat.cast (V := V) (V' := ⟨V.prog, V.w, V.kt, orc⟩) rfl hS) h0 (d := S.d + 6) (u := S.u + 10) (by omega) (by omega) fun ν => ?_
  obtain ⟨g, e, ho, he, hg⟩ := (hrun s.heap.objs.size (s.toks - 706) ν).spec
  refine ⟨g, e, ho, fun s' I => ?_⟩
  refine EndAt.of_kind he ?_
  refine hR (nuOf g (xs g)) s' ?_
  have hs := I.sat.size
  have ht := I.sat.toks
  have hl := I.sat.lo
  exact (Inv.restrict hJ (Inv.cast (V := ⟨V.prog, V.w, V.kt, orc⟩) (V' := V) rfl I) hg (b := nuOf g (xs g) 0) (t := nuOf g (xs g) 1) hs (by show s'.toks = g.M.tb + g.M.toff - 706 + 706; omega))

theorem turn_of_run {orc : Nat → Option OracleAt} {code : Code} {pre : List (Addr × Obj)} {d u n H : Nat} {J : List Nat} {xs : Goal → List Nat} {c : (Nat → Nat) → Code} {L : (Nat → Nat) → List (Addr × Obj)} {A : Around} {s : Shared} {R : Result → Shared → Prop} (hJ : J.Nodup)
    (hOk : Par.Ok ⟨V.prog, V.w, V.kt, orc⟩ (cellsOf pre) s)
    (hrun : ∀ base tb ν, Runs J xs (fun ν => .again (c ν)) L (goes ⟨V.prog, V.w, V.kt, orc⟩ n H code ⟨cellsOf pre, pre.length, base, 0, tb, 706⟩ (d + 6) (u + 10) ν))
    (h0 : A.handled = none) (hd : A.depth ≤ d) (hu : A.units ≤ u) (hS : Sat V ⟨cellsOf pre, pre.length, s.heap.objs.size, 0, s.toks - 706, 706⟩ s) (hq : ∀ ν, (c ν).quiet = true)
    (hR : ∀ ν s', Inv V (cellsOf pre) s ⟨cellsOf (L (cut ν)), (L (cut ν)).length, ν 0, 0, ν 1, 706⟩ s' → codeAny (model V.prog V.w) A (c (cut ν)) R s') : codeAny (model V.prog V.w) A code R s := by
  refine goes_ok (V := ⟨V.prog, V.w, V.kt, orc⟩) (M := ⟨cellsOf pre, pre.length, s.heap.objs.size, 0, s.toks - 706, 706⟩) hOk (n := n) (H := H) (Sat.cast (V := V) (V' := ⟨V.prog, V.w, V.kt, orc⟩) rfl hS) h0 (d := d + 6) (u := u + 10) (by omega) (by omega) fun ν => ?_
  obtain ⟨g, e, ho, he, hg⟩ := (hrun s.heap.objs.size (s.toks - 706) ν).spec
  refine ⟨g, e, ho, fun s' I => ?_⟩
  refine EndAt.of_kind he ?_
  have hs := I.sat.size
  have ht := I.sat.toks
  have hl := I.sat.lo
  exact ⟨hq _, hR (nuOf g (xs g)) s' (Inv.restrict hJ (Inv.cast (V := ⟨V.prog, V.w, V.kt, orc⟩) (V' := V) rfl I) hg (b := nuOf g (xs g) 0) (t := nuOf g (xs g) 1) hs (by show s'.toks = g.M.tb + g.M.toff - 706 + 706; omega))⟩
end

/-! ## the law's own machine -/
noncomputable def tokR : Stand → Nat
  | .ret (.ok (.ret (.str _ t))) => t
  | .ret (.ok (.ret (.int _ t))) => t
  | _ => 0
noncomputable def strR (x : Str) (t : Tok) : Result := .ok (.ret (.str x t))
noncomputable def intR (i : Int) (t : Tok) : Result := .ok (.ret (.int i t))
noncomputable def noneR : Result := .ok (.ret .none)
end Mine
end
section
open PySem PySem.Spec PySem.Calls PySem.W PySem.W.X PyProof.Rows
set_option Elab.async false
set_option maxRecDepth 100000
namespace Mine

noncomputable def kdrop : KT → Nat → KT
  | .nil, _ => .nil
  | .node v l r, i => match Nat.beq i 0 with
    | true => .node none l r
    | false => match Nat.beq (i % 2) 1 with
      | true => .node v (kdrop l (i / 2)) r
      | false => .node v l (kdrop r (i / 2 - 1))
theorem kdrop_node (v : Option Obj) (l r : KT) (i : Nat) : kdrop (.node v l r) i = if i = 0 then .node none l r else if i % 2 = 1 then .node v (kdrop l (i / 2)) r else .node v l (kdrop r (i / 2 - 1)) := by
  rw [kdrop, BT.beq_eq, BT.beq_eq]
  by_cases h : i = 0
  · simp [h]
  · by_cases q : i % 2 = 1 <;> simp [h, q]
theorem kdrop_get : ∀ (t : KT) (i j : Nat), (kdrop t i).get j = if j = i then none else t.get j
  | .nil, i, j => by simp [kdrop, KT.get]
  | .node v l r, i, j => by
    rw [kdrop_node, KT.get_node v l r j]
    by_cases hi : i = 0
    · subst hi
      rw [if_pos rfl, KT.get_node]
      by_cases hj : j = 0 <;> simp [hj]
    · rw [if_neg hi]
      by_cases pi : i % 2 = 1
      · rw [if_pos pi, KT.get_node]
        by_cases hj : j = 0
        · simp [hj, Ne.symm hi]
        · by_cases pj : j % 2 = 1
          · simp only [hj, pj, if_true, if_false, kdrop_get l]
            by_cases e : j = i
            · simp [e]
            · have : j / 2 ≠ i / 2 := by omega
              simp [e, this]
          · have : j ≠ i := fun q => pj (q ▸ pi)
            simp [hj, pj, this]
      · rw [if_neg pi, KT.get_node]
        by_cases hj : j = 0
        · simp [hj, Ne.symm hi]
        · by_cases pj : j % 2 = 1
          · have : j ≠ i := fun q => pi (q ▸ pj)
            simp [hj, pj, this]
          · simp only [hj, pj, if_false, kdrop_get r]
            by_cases e : j = i
            · simp [e]
            · have : j / 2 - 1 ≠ i / 2 - 1 := by omega
              simp [e, this]
noncomputable def top (P : Params) : KT := kdrop (ktop P) 234
noncomputable def mk (w : World) (l : List OracleAt) : Par := ⟨PySem.Challenge.rw_rw0104_01.prog, w, top w.params, fun j => l[j]?⟩
noncomputable abbrev B (w : World) : Par := mk w []

noncomputable def keysOk (o : Option Obj) : Bool := match o with
  | some ⟨_, _, .dict es _, _⟩ => es.toList.all fun e => match e.key with
    | .str _ _ => true
    | _ => false
  | _ => false
noncomputable def limOf (o : Option Obj) : Option Value := match o with
  | some ⟨_, _, .dict es _, _⟩ => nsFind es "sys.recursionlimit"
  | _ => some .none
theorem noLimit_of {h : Heap} {o : Obj} (e : h.get? 2 = some o) (hk : keysOk (some o) = true) (hl : limOf (some o) = none) : h.NoLimit := by
  obtain ⟨c, d, dt, sl⟩ := o
  cases dt with
  | dict es n =>
    refine ⟨nsFind es, ⟨_, es, n, e, rfl, fun x hx => ?_, fun _ => rfl⟩, hl⟩
    have := List.all_eq_true.mp hk x (Array.mem_toList_iff.mpr hx)
    split at this
    · rename_i s t hs; exact ⟨s, t, hs⟩
    · cases this
  | _ => cases hk
theorem lim_keys (P : Params) : keysOk ((top P).get 2) = true := by kernel_rfl
theorem lim_none (P : Params) : limOf ((top P).get 2) = none := by kernel_rfl

theorem OracleOk.cast {V V' : Par} (h1 : V.kt = V'.kt) (h2 : V.prog = V'.prog) (h3 : V.w = V'.w) {T₀ : CT} {s₀ : Shared} {Q : OracleAt} (h : OracleOk V T₀ s₀ Q) : OracleOk V' T₀ s₀ Q := by
  intro c M s A R I h0 hd hu H
  have := h c M s A R (I.cast h1.symm) h0 hd hu fun ν => by
    obtain ⟨x, a, b, c⟩ := H ν
    exact ⟨x, a, b, fun s' I' => c s' (I'.cast h1)⟩
  rw [h2, h3] at this
  exact this
theorem mk_ok {w : World} {l : List OracleAt} {T₀ : CT} {s₀ : Shared} (h : ∀ Q ∈ l, OracleOk (B w) T₀ s₀ Q) : Par.Ok ⟨(B w).prog, (B w).w, (B w).kt, fun j => l[j]?⟩ T₀ s₀ := by
  refine ⟨fun h ho hs => ?_, fun j Q e => ?_⟩
  · obtain ⟨o, e⟩ := Option.isSome_iff_exists.mp hs
    have e' : (top w.params).get 2 = some o := e
    exact noLimit_of (ho o e) (by rw [← e']; exact lim_keys _) (by rw [← e']; exact lim_none _)
  · exact OracleOk.cast (V := B w) (V' := ⟨(B w).prog, (B w).w, (B w).kt, fun j => l[j]?⟩) rfl rfl rfl (h Q (List.mem_of_getElem? e))

theorem code_meets {id : String} {b : Builtin} {args : Args} {S : PySem.Spec} {prog : Program} {w : World} {A : Around} {R : Result → Shared → Prop} {s : Shared} (he : entryFor table id = some b) (hp : plainId id = true) (g : Meets (b args) S) (h : S A R s) :
    codeAny (model prog w) A (.builtin id args) R s := by
  refine x_code ?_
  rw [Around.under_plainId hp args]
  show wpAny _ _ (match entryFor table id with | some b => b args | none => unsupported ((withoutEnding? id "#data").getD id)) _ _ s
  rw [he]
  exact g prog w A R s h

/-! ## small forms -/
noncomputable def lst (vs : List Value) (n : Nat) : Obj := { cls := .type "list", data := .seq vs.toArray n }
noncomputable def nu (s : Shared) (l : List Nat) : Nat → Nat
  | 0 => s.heap.objs.size
  | 1 => s.toks - 706
  | k + 2 => l.getD k 0

section
variable {w : World} {S : Job} {s s' : Shared} {M : Mm} {R : Result → Shared → Prop}
theorem Sat.at (hS : Sat (B w) (S.start s) s) (j : Nat) {a : Addr} {o : Obj} (h : S.pre[j]? = some (a, o)) : (S.start s).T.get j = some (a, o) := by
  show (cellsOf S.pre).get j = _
  rw [cellsOf_get]; exact h
theorem Sat.heap (hS : Sat (B w) (S.start s) s) (j : Nat) {a : Addr} {o : Obj} (h : S.pre[j]? = some (a, o)) : s.heap.get? a = some o := (hS.own j a o (hS.at j h)).1
theorem ends (hR : ∀ ν s', Inv (B w) (cellsOf S.pre) s (S.fin ν) s' → R (S.r (cut ν)) s') (I : Inv (B w) (cellsOf S.pre) s M s') (J : List Nat) (hJ : J.Nodup) (l : List Nat) (hg : getAll M.T J = some (S.out (cut (nu s' l)))) : R (S.r (cut (nu s' l))) s' :=
  hR _ _ (Inv.restrict hJ I hg rfl (by show s'.toks = s'.toks - 706 + 706; have := I.sat.lo; omega))
end
theorem mapSeq_lst (f : Array Value → Array Value) (vs vs' : List Value) (n : Nat) (h : f vs.toArray = vs'.toArray) : Obj.mapSeq f (lst vs n) = lst vs' (if vs'.length = vs.length then n else n + 1) := by
  simp only [Obj.mapSeq, lst, h, List.size_toArray, beq_iff_eq]


noncomputable def strB (x : Str) (t : Tok) : Result := .ok (.ret (.str x t))
noncomputable def iterObj (l : Addr) (i : Nat) : Obj := { cls := .type "list_iterator", data := .fields #[.ref l, .int i 0] }
noncomputable def iterEnd (i : Nat) : Obj := { cls := .type "list_iterator", data := .fields #[.none, .int i 0] }
noncomputable def rangeIt (x left step : Int) : Obj := { cls := .type "range_iterator", data := .fields #[.int x 0, .int left 0, .int step 0] }
noncomputable def tup0 : Obj := { cls := .type "tuple", data := .seq #[] }
noncomputable def stopExc (a : Addr) : Obj := { cls := .type "StopIteration", data := .fields #[.ref a, .none, .none, .none, .bool false, .none] }
noncomputable def sliceObj (a b c : Value) : Obj := { cls := .type "slice", data := .fields #[a, b, c] }

noncomputable def appendS (vs : List Value) (a : Addr × Nat × Value) : Job where
  code := .builtin "list.append" ⟨[.ref a.1, a.2.2], []⟩
  pre := [(a.1, lst vs a.2.1)]
  post := fun _ => [lst (vs ++ [a.2.2]) (a.2.1 + 1)]
  new := fun _ => []
  r := fun _ => noneR
  d := 990
  u := 9000
theorem append_ctr (w : World) {vs : List Value} (hl : vs.length ≤ 1000) (a : Addr × Nat × Value) : Ctr (B w) (fun _ => True) (appendS vs a) := by
  obtain ⟨l, n, x⟩ := a
  intro A s R h0 hd hu _ hS hR
  have ho : s.heap.get? l = some (lst vs n) := hS.heap 0 rfl
  refine code_meets F.entry_list_append (by decide +kernel) (list_append l vs.toArray n x (by rw [List.size_toArray, sizeLine_eq]; omega)) ⟨ho, ?_⟩
  have I := (Inv.start hS).store (j := 0) (hS.at 0 rfl) (g := Obj.mapSeq fun x_1 => x_1.push x) (by rw [mapSeq_lst _ vs (vs ++ [x]) n (by simp)]; rfl)
  refine ends hR I [0] (by decide) [] ?_
  have e : (if (vs ++ [x]).length = vs.length then n else n + 1) = n + 1 := by rw [if_neg (by simp)]
  simp only [getAll, CT.get_set, if_true, hS.at 0 rfl, Option.map_some, mapSeq_lst (fun x_1 => x_1.push x) vs (vs ++ [x]) n (by simp), e]
  rfl
end Mine
end
section
open PySem PySem.Spec PySem.Calls PySem.W PySem.W.X PyProof.Rows
set_option Elab.async false
set_option maxRecDepth 100000
namespace Mine

/-! ## builtins that only compute -/
noncomputable def madeR : Made → (Nat → Nat) → Result
  | .val v, _ => .ok (.ret v)
  | .int i, ν => .ok (.ret (.int i (Nat.add (ν 2) 706)))
  | .str x, ν => .ok (.ret (.str x (Nat.add (ν 2) 706)))
  | .either a _, ν => madeR a ν
  | _, _ => noneR
noncomputable def madeOk : Made → Prop
  | .val _ => True
  | .int _ => True
  | .str x => x.length ≤ sizeLine
  | _ => False
noncomputable def pureJob (id : String) (args : Args) (m : Made) : Job where
  code := .builtin id args
  pre := []
  post := fun _ => []
  new := fun _ => []
  r := madeR m
  d := 990
  u := 9000
theorem pure_ctr (w : World) {id : String} {b : Builtin} {args : Args} {m : Made} (he : entryFor table id = some b) (hp : plainId id = true) (g : Gives (b args) m) (hm : madeOk m) (F : Shared → Prop) : Ctr (B w) F (pureJob id args m) := by
  intro A s R h0 hd hu _ hS hR
  refine code_meets he hp g.meets ?_
  have I := Inv.start hS
  have J := I.tok
  have hl := hS.lo
  have ht : s.toks - 706 + 706 = s.toks := by omega
  cases m with
  | val v => exact ends hR I [] List.nodup_nil [] rfl
  | int i =>
    have q := ends hR J [] List.nodup_nil [s.toks - 706] rfl
    have e : (pureJob id args (.int i)).r (cut (nu { s with toks := s.toks + 1 } [s.toks - 706])) = .ok (.ret (.int i s.toks)) := congrArg (fun t => Except.ok (Flow.ret (Value.int i t))) ht
    rw [e] at q
    exact q
  | str x =>
    have q := ends hR J [] List.nodup_nil [s.toks - 706] rfl
    have e : (pureJob id args (.str x)).r (cut (nu { s with toks := s.toks + 1 } [s.toks - 706])) = .ok (.ret (.str x s.toks)) := congrArg (fun t => Except.ok (Flow.ret (Value.str x t))) ht
    rw [e] at q
    exact And.intro (show x.length ≤ sizeLine from hm) q
  | float b => cases hm
  | bytes b => cases hm
  | either a b => cases hm

noncomputable def pureQ {α : Type} (id : String) (ex : Code → Option α) (args : α → Args) (m : α → Made) : OracleAt := QF [] (fun c _ => ex c) (fun a => pureJob id (args a) (m a)) 990 9000
theorem pure_ok {w : World} {T₀ : CT} {s₀ : Shared} {α : Type} {id : String} {ex : Code → Option α} {args : α → Args} {m : α → Made} {b : Builtin} (he : entryFor table id = some b) (hp : plainId id = true) (g : ∀ a, Gives (b (args a)) (m a)) (hm : ∀ a, madeOk (m a)) : OracleOk (B w) T₀ s₀ (pureQ id ex args m) :=
  lift_ok (F := fun _ => True) List.nodup_nil (fun _ _ _ => trivial) (fun a => pure_ctr w he hp (g a) (hm a) _) (fun _ => Nat.le_refl _) (fun _ => Nat.le_refl _)

noncomputable abbrev II := (Int × Tok) × (Int × Tok)
noncomputable def exII : Code → Option II
  | .builtin _ ⟨[.int x t, .int y u], []⟩ => some ((x, t), (y, u))
  | _ => none
noncomputable def argII (a : II) : Args := ⟨[.int a.1.1 a.1.2, .int a.2.1 a.2.2], []⟩
noncomputable def exI : Code → Option (Int × Tok)
  | .builtin _ ⟨[.int x t], []⟩ => some (x, t)
  | _ => none
noncomputable def argI (a : Int × Tok) : Args := ⟨[.int a.1 a.2], []⟩
noncomputable abbrev SS := (Str × Tok) × (Str × Tok)
noncomputable def exSS : Code → Option SS
  | .builtin _ ⟨[.str x t, .str y u], []⟩ => some ((x, t), (y, u))
  | _ => none
noncomputable def argSS (a : SS) : Args := ⟨[.str a.1.1 a.1.2, .str a.2.1 a.2.2], []⟩
noncomputable def exS : Code → Option (Str × Tok)
  | .builtin _ ⟨[.str x t], []⟩ => some (x, t)
  | _ => none
noncomputable def argS (a : Str × Tok) : Args := ⟨[.str a.1 a.2], []⟩

section
variable {w : World} {T₀ : CT} {s₀ : Shared}
noncomputable def iiQ (id : String) (f : Int → Int → Int) : OracleAt := pureQ id exII argII fun a => .int (f a.1.1 a.2.1)
noncomputable def addQ : OracleAt := iiQ "int.__add__" (· + ·)
noncomputable def subQ : OracleAt := iiQ "int.__sub__" (· - ·)
theorem addQ_ok : OracleOk (B w) T₀ s₀ addQ := pure_ok F.entry_int_add (by decide +kernel) (fun a => gives_int_add _ _ _ _) fun _ => trivial
theorem subQ_ok : OracleOk (B w) T₀ s₀ subQ := pure_ok F.entry_int_sub (by decide +kernel) (fun a => gives_int_sub _ _ _ _) fun _ => trivial
noncomputable def ifQ (i : Int) (b : Bool) : OracleAt := pureQ "int.__bool__" exI (fun a => argI (i, a.2)) fun _ => .val (.bool b)
theorem ifQ_ok {i : Int} {b : Bool} (h : (i != 0) = b) : OracleOk (B w) T₀ s₀ (ifQ i b) := pure_ok F.entry_int_bool (by decide +kernel) (fun a => h ▸ gives_int_bool _ _) fun _ => trivial
noncomputable def eqQ (x y : Str) (b : Bool) : OracleAt := pureQ "str.__eq__" exSS (fun a => argSS ((x, a.1.2), (y, a.2.2))) fun _ => .val (.bool b)
noncomputable def neQ (x y : Str) (b : Bool) : OracleAt := pureQ "str.__ne__" exSS (fun a => argSS ((x, a.1.2), (y, a.2.2))) fun _ => .val (.bool b)
theorem eqQ_ok {x y : Str} {b : Bool} (h : (x.cps.toList == y.cps.toList) = b) : OracleOk (B w) T₀ s₀ (eqQ x y b) := pure_ok F.entry_str_eq (by decide +kernel) (fun a => h ▸ gives_str_eq _ _ _ _) fun _ => trivial
theorem neQ_ok {x y : Str} {b : Bool} (h : (x.cps.toList == y.cps.toList) = b) : OracleOk (B w) T₀ s₀ (neQ x y (!b)) := pure_ok F.entry_str_ne (by decide +kernel) (fun a => h ▸ gives_str_ne _ _ _ _) fun _ => trivial
end
end Mine
end
section
open PySem PySem.Spec PySem.Calls PySem.W PySem.W.X PyProof.Rows
set_option Elab.async false
set_option maxRecDepth 100000
namespace Mine

/-! ## builtins on lists: what they do -/
theorem len_meets (l : Addr) (vs : List Value) (n : Nat) (hl : vs.length ≤ 10000) :
    Meets (Builtin.«len» ⟨[.ref l], []⟩) (fun _ R s => s.heap.get? l = some (lst vs n) ∧ R (.ok (.ret (.int vs.length (s.toks + 1)))) { s with toks := s.toks + 1 + 1 }) :=
  .of_wp fun prog w A R s h => by
    obtain ⟨ho, h⟩ := h
    have hL : s.heap.IsList l vs.toArray := ⟨_, ho, rfl, n, rfl⟩
    refine wpAny_mono (wpAny_len_body_list (Q := fun v s' => R (.ok (.ret v)) s') hL (by simp; omega) (by simpa using h)) (fun fin s' h' => ?_) fun _ _ x => x
    obtain ⟨r, rfl, hq⟩ := h'
    exact ⟨r, rfl, hq⟩
theorem next_meets (it l : Addr) (i : Nat) (vs : List Value) (n : Nat) (x : Value) (hx : vs[i]? = some x) :
    Meets (Builtin.«list_iterator.__next__» ⟨[.ref it], []⟩) (fun _ R s => s.heap.get? it = some (iterObj l i) ∧ s.heap.get? l = some (lst vs n) ∧ R (.ok (.ret x)) { s with heap := s.heap.update it (Obj.mapFields fun y => y.setIfInBounds 1 (rawInt ((i : Int) + 1))) }) :=
  .of_wp fun prog w A R s h => by
    obtain ⟨ho, hl, h⟩ := h
    show wpAny _ _ (field (.ref it) 0 >>= _) _ _ s
    refine wpAny_bind (wpAny_field ho rfl (x := .ref l) rfl ?_)
    show wpAny _ _ (if (Value.ref l == Value.none) = true then _ else _) _ _ s
    rw [if_neg (show ¬ ((Value.ref l == Value.none) = true) from Bool.false_ne_true)]
    show wpAny _ _ (field (.ref it) 1 >>= _) _ _ s
    refine wpAny_bind (wpAny_field ho rfl (x := .int i 0) rfl ?_)
    show wpAny _ _ (seqItems? (.ref l) >>= _) _ _ s
    refine wpAny_bind (wpAny_seqItems hl rfl ?_)
    have hx' : vs.toArray[((i : Nat) : Int).toNat]? = some x := by simpa using hx
    simp only [hx']
    exact wpAny_bind (wpAny_setField ho rfl (by simp) (wpAny_pure ⟨x, rfl, h⟩))
theorem end_meets (it l : Addr) (i : Nat) (vs : List Value) (n : Nat) (hx : vs[i]? = none) :
    Meets (Builtin.«list_iterator.__next__» ⟨[.ref it], []⟩) (fun A R s => A.handled = none ∧ s.heap.get? it = some (iterObj l i) ∧ s.heap.get? l = some (lst vs n) ∧
      R (.error (.ref (s.heap.objs.size + 1))) { s with heap := ((s.heap.update it (Obj.mapFields fun y => y.setIfInBounds 0 .none)).push tup0).push (stopExc s.heap.objs.size) }) :=
  .of_wp fun prog w A R s h => by
    obtain ⟨hh, ho, hl, h⟩ := h
    show wpAny _ _ (field (.ref it) 0 >>= _) _ _ s
    refine wpAny_bind (wpAny_field ho rfl (x := .ref l) rfl ?_)
    show wpAny _ _ (if (Value.ref l == Value.none) = true then _ else _) _ _ s
    rw [if_neg (show ¬ ((Value.ref l == Value.none) = true) from Bool.false_ne_true)]
    show wpAny _ _ (field (.ref it) 1 >>= _) _ _ s
    refine wpAny_bind (wpAny_field ho rfl (x := .int i 0) rfl ?_)
    show wpAny _ _ (seqItems? (.ref l) >>= _) _ _ s
    refine wpAny_bind (wpAny_seqItems hl rfl ?_)
    have hx' : vs.toArray[((i : Nat) : Int).toNat]? = none := by simpa using hx
    simp only [hx']
    refine wpAny_bind (wpAny_rule (wpAny_bind (wpAny_setField ho rfl (by simp) ?_)))
    show wpAny _ _ (newExc (.type "StopIteration") [] >>= _) _ _ _
    refine wpAny_bind ?_
    simp only [newExc, newTuple]
    refine wpAny_bind (wpAny_newObj_type ?_ (by size_fits))
    refine wpAny_bind (m := firstArgMember _ _) (wpAny_of_eq (a := Value.none) (by first | rfl | (simp only [firstArgMember]; rfl)) ?_)
    refine wpAny_newObj_type ?_ (by size_fits)
    simp only [raiseNew]
    refine wpAny_bind (wpAny_handled ?_)
    rw [show A.in1.handled = none from hh]
    refine wpAny_bind (wpAny_pure (wpAny_throw ?_))
    simp only [Heap.size_push, Heap.size_update] at h ⊢
    exact h
end Mine
end
section
open PySem PySem.Spec PySem.Calls PySem.W PySem.W.X PyProof.Rows
set_option Elab.async false
set_option maxRecDepth 100000
namespace Mine

section
variable {w : World} {T₀ : CT} {s₀ : Shared}
/-! ## len -/
noncomputable def lenS (vs : List Value) (a : Addr × Nat) : Job where
  code := .builtin "len" ⟨[.ref a.1], []⟩
  pre := [(a.1, lst vs a.2)]
  post := fun _ => [lst vs a.2]
  new := fun _ => []
  r := fun ν => .ok (.ret (.int vs.length (Nat.add (ν 2) 706)))
  d := 990
  u := 9000
theorem len_ctr (w : World) {vs : List Value} (hl : vs.length ≤ 10000) (a : Addr × Nat) : Ctr (B w) (fun _ => True) (lenS vs a) := by
  obtain ⟨l, n⟩ := a
  intro A s R h0 hd hu _ hS hR
  have ho : s.heap.get? l = some (lst vs n) := hS.heap 0 rfl
  refine code_meets entry_len (by decide +kernel) (len_meets l vs n hl) ⟨ho, ?_⟩
  have hlo := hS.lo
  have ht : s.toks + 1 - 706 + 706 = s.toks + 1 := by omega
  have q := ends hR (Inv.start hS).tok.tok [0] (by decide) [s.toks + 1 - 706] rfl
  have e : (lenS vs (l, n)).r (cut (nu { s with toks := s.toks + 1 + 1 } [s.toks + 1 - 706])) = .ok (.ret (.int vs.length (s.toks + 1))) := congrArg (fun t => Except.ok (Flow.ret (Value.int vs.length t))) ht
  rw [e] at q
  exact q
noncomputable def seqAt (k : Nat) (ps : List (Addr × Obj)) : Option (Addr × Nat) := match ps[k]? with
  | some (a, ⟨_, _, .seq _ n, _⟩) => some (a, n)
  | _ => none
noncomputable def lenQ (vs : List Value) (j : Nat) : OracleAt := QF [j] (fun _ ps => seqAt 0 ps) (lenS vs) 990 9000
theorem lenQ_ok {vs : List Value} (hl : vs.length ≤ 10000) (j : Nat) : OracleOk (B w) T₀ s₀ (lenQ vs j) :=
  lift_ok (F := fun _ => True) (by simp) (fun _ _ _ => trivial) (fun a => len_ctr w hl a) (fun _ => Nat.le_refl _) (fun _ => Nat.le_refl _)

/-! ## the next item of a list -/
noncomputable def nextS (vs : List Value) (i : Nat) (x : Value) (a : Addr × Addr × Nat) : Job where
  code := .builtin "list_iterator.__next__" ⟨[.ref a.1], []⟩
  pre := [(a.1, iterObj a.2.1 i), (a.2.1, lst vs a.2.2)]
  post := fun _ => [iterObj a.2.1 (i + 1), lst vs a.2.2]
  new := fun _ => []
  r := fun _ => .ok (.ret x)
  d := 990
  u := 9000
theorem next_ctr (w : World) {vs : List Value} {i : Nat} {x : Value} (hx : vs[i]? = some x) (a : Addr × Addr × Nat) : Ctr (B w) (fun _ => True) (nextS vs i x a) := by
  obtain ⟨it, l, n⟩ := a
  intro A s R h0 hd hu _ hS hR
  have ho : s.heap.get? it = some (iterObj l i) := hS.heap 0 rfl
  have hl : s.heap.get? l = some (lst vs n) := hS.heap 1 rfl
  refine code_meets entry_listiter_next (by decide +kernel) (next_meets it l i vs n x hx) ⟨ho, hl, ?_⟩
  exact ends hR ((Inv.start hS).store (j := 0) (hS.at 0 rfl) rfl) [0, 1] (by decide) [] rfl
noncomputable def iterAt (ps : List (Addr × Obj)) : Option (Addr × Addr × Nat) := match ps with
  | [(it, _), (l, ⟨_, _, .seq _ n, _⟩)] => some (it, l, n)
  | _ => none
noncomputable def nextQ (vs : List Value) (i : Nat) (x : Value) (j k : Nat) : OracleAt := QF [j, k] (fun _ ps => iterAt ps) (nextS vs i x) 990 9000
theorem nextQ_ok {vs : List Value} {i : Nat} {x : Value} (hx : vs[i]? = some x) {j k : Nat} (h : j ≠ k) : OracleOk (B w) T₀ s₀ (nextQ vs i x j k) :=
  lift_ok (F := fun _ => True) (by simp [h]) (fun _ _ _ => trivial) (fun a => next_ctr w hx a) (fun _ => Nat.le_refl _) (fun _ => Nat.le_refl _)
noncomputable def endS (vs : List Value) (i : Nat) (a : Addr × Addr × Nat) : Job where
  code := .builtin "list_iterator.__next__" ⟨[.ref a.1], []⟩
  pre := [(a.1, iterObj a.2.1 i), (a.2.1, lst vs a.2.2)]
  post := fun _ => [iterEnd i, lst vs a.2.2]
  new := fun ν => [(ν 2, tup0), (ν 3, stopExc (ν 2))]
  r := fun ν => .error (.ref (ν 3))
  d := 990
  u := 9000
theorem end_ctr (w : World) {vs : List Value} {i : Nat} (hx : vs[i]? = none) (a : Addr × Addr × Nat) : Ctr (B w) (fun _ => True) (endS vs i a) := by
  obtain ⟨it, l, n⟩ := a
  intro A s R h0 hd hu _ hS hR
  have ho : s.heap.get? it = some (iterObj l i) := hS.heap 0 rfl
  have hl : s.heap.get? l = some (lst vs n) := hS.heap 1 rfl
  refine code_meets entry_listiter_next (by decide +kernel) (end_meets it l i vs n hx) ⟨h0, ho, hl, ?_⟩
  have I1 := (Inv.start hS).store (j := 0) (g := Obj.mapFields fun y => y.setIfInBounds 0 .none) (hS.at 0 rfl) rfl
  have I2 := I1.make (o := tup0) rfl (by kernel_rfl) (by kernel_rfl)
  have I3 := I2.make (o := stopExc s.heap.objs.size) rfl (by kernel_rfl) (by kernel_rfl)
  refine ends hR I3 [0, 1, 2, 3] (by decide) [s.heap.objs.size, s.heap.objs.size + 1] ?_
  kernel_rfl
noncomputable def endQ (vs : List Value) (i : Nat) (j k : Nat) : OracleAt := QF [j, k] (fun _ ps => iterAt ps) (endS vs i) 990 9000
theorem endQ_ok {vs : List Value} {i : Nat} (hx : vs[i]? = none) {j k : Nat} (h : j ≠ k) : OracleOk (B w) T₀ s₀ (endQ vs i j k) :=
  lift_ok (F := fun _ => True) (by simp [h]) (fun _ _ _ => trivial) (fun a => end_ctr w hx a) (fun _ => Nat.le_refl _) (fun _ => Nat.le_refl _)
end
end Mine
end
section
open PySem PySem.Spec PySem.Calls PySem.W PySem.W.X PyProof.Rows
set_option Elab.async false
set_option maxRecDepth 100000
namespace Mine
theorem wpAny_parts {prog : Program} {w : World} {A : Around} {E : Value → Shared → Prop} {s : Shared} {sl : Addr} {vl vu vs : Value} {lo hi st : Option Int} {Q : Value × Value × Value → Shared → Prop}
    (ho : s.heap.get? sl = some (sliceObj vl vu vs)) (pl : IsPart vl lo) (pu : IsPart vu hi) (ps : IsPart vs st) (h0 : st ≠ some 0) (h : Q (rawPart lo, rawPart hi, rawPart st) s) :
    wpAny (model prog w) A (Builtin.List.listSliceParts (.ref sl)) Q E s := by
  rw [listSliceParts_eq]
  have hstep : ¬ ((rawPart st == rawInt 0) = true) := by
    cases st with
    | none => exact Bool.false_ne_true
    | some c =>
      intro hh
      have : c = 0 := by simpa [rawPart, rawInt] using hh
      exact h0 (by rw [this])
  refine wpAny_bind (wpAny_field ho rfl (x := vs) rfl (wpAny_bind (wpAny_listPart ps ?_)))
  rw [if_neg hstep]
  refine wpAny_bind (wpAny_field ho rfl (x := vl) rfl (wpAny_bind (wpAny_listPart pl ?_)))
  exact wpAny_bind (wpAny_field ho rfl (x := vu) rfl (wpAny_bind (wpAny_listPart pu (wpAny_pure h))))
theorem wpAny_noSub {prog : Program} {w : World} {A : Around} {E : Value → Shared → Prop} {s : Shared} {sl : Addr} {vl vu vs : Value} {Q : Option Int → Shared → Prop} (ho : s.heap.get? sl = some (sliceObj vl vu vs)) (h : Q none s) :
    wpAny (model prog w) A (Builtin.List.listSubscript? (.ref sl)) Q E s := by
  have hT : s.TypeIs (.ref sl) "slice" := ⟨_, ho, rfl⟩
  unfold Builtin.List.listSubscript?
  refine wpAny_bind (wpAny_specialOf hT slice_no_index ?_)
  simp only [Option.isNone_none, if_true]
  exact wpAny_pure h
theorem getslice_meets (l sl : Addr) (xs : List Value) (n : Nat) (vl vu vs : Value) (lo hi st : Option Int) (pl : IsPart vl lo) (pu : IsPart vu hi) (ps : IsPart vs st) (h0 : st ≠ some 0) (hx : xs.length ≤ 10000) :
    Meets (Builtin.«list.__getitem__» ⟨[.ref l, .ref sl], []⟩) (fun _ R s => s.heap.get? l = some (lst xs n) ∧ s.heap.get? sl = some (sliceObj vl vu vs) ∧
      R (.ok (.ret (.ref s.heap.objs.size))) { s with heap := s.heap.push { cls := .type "list", data := .seq (slicePick xs.toArray lo hi st) } }) :=
  .of_wp fun prog w A R s h => by
    obtain ⟨hl, hs, h⟩ := h
    show wpAny _ _ (Builtin.List.listSubscript? (.ref sl) >>= _) _ _ s
    refine wpAny_bind (wpAny_noSub hs ?_)
    show wpAny _ _ (typeOf (.ref sl) >>= _) _ _ s
    refine wpAny_bind (wpAny_typeOf (T := "slice") ⟨_, hs, rfl⟩ ?_)
    rw [if_neg (by decide)]
    refine wpAny_bind (wpAny_parts hs pl pu ps h0 ?_)
    refine wpAny_bind (m := Builtin.List.listItems (.ref l)) ?_
    unfold Builtin.List.listItems
    refine wpAny_bind (wpAny_seqItems hl rfl (wpAny_pure ?_))
    refine wpAny_bind (wpAny_of_eq (sliceIndices_raw lo hi st xs.toArray.size h0) ?_)
    refine wpAny_bind (wpAny_newObj_type (wpAny_pure ⟨_, rfl, h⟩) (Nat.le_trans (slicePick_size_le xs.toArray lo hi st) (by rw [sizeLine_eq]; simp; omega)))
theorem drop_zip (g : Value × Nat → Option Value) : ∀ (xs : List Value) (m k : Nat), (∀ x i, m ≤ i → i < m + xs.length → g (x, i) = if i < m + k then none else some x) → (xs.zipIdx m).filterMap g = xs.drop k
  | [], _, k, _ => by simp
  | x :: xs, m, k, h => by
    rw [List.zipIdx_cons, List.filterMap_cons, h x m (Nat.le_refl _) (by simp)]
    cases k with
    | zero =>
      rw [if_neg (by omega)]
      simp only [List.drop_zero]
      rw [drop_zip g xs (m + 1) 0 fun y i h1 h2 => by rw [h y i (by omega) (by simp; omega), if_neg (by omega), if_neg (by omega)]]
      simp
    | succ k =>
      rw [if_pos (by omega)]
      simp only [List.drop_succ_cons]
      exact drop_zip g xs (m + 1) k fun y i h1 h2 => by rw [h y i (by omega) (by simp; omega), show m + 1 + k = m + (k + 1) by omega]
theorem delslice_meets (l sl : Addr) (xs : List Value) (n : Nat) (k : Nat) (t : Tok) (hx : xs.length ≤ 10000) :
    Meets (Builtin.«list.__delitem__» ⟨[.ref l, .ref sl], []⟩) (fun _ R s => s.heap.get? l = some (lst xs n) ∧ s.heap.get? sl = some (sliceObj .none (.int k t) .none) ∧
      ∀ f : Array Value → Array Value, f xs.toArray = (xs.drop k).toArray → R (.ok (.ret .none)) { s with heap := s.heap.update l (Obj.mapSeq f) }) :=
  .of_wp fun prog w A R s h => by
    obtain ⟨hl, hs, h⟩ := h
    show wpAny _ _ (Builtin.List.listSubscript? (.ref sl) >>= _) _ _ s
    refine wpAny_bind (wpAny_noSub hs ?_)
    show wpAny _ _ (typeOf (.ref sl) >>= _) _ _ s
    refine wpAny_bind (wpAny_typeOf (T := "slice") ⟨_, hs, rfl⟩ ?_)
    rw [if_neg (by decide)]
    refine wpAny_bind (wpAny_parts hs .none (.int k t) .none (by simp) ?_)
    refine wpAny_bind (m := Builtin.List.listItems (.ref l)) ?_
    unfold Builtin.List.listItems
    refine wpAny_bind (wpAny_seqItems hl rfl (wpAny_pure ?_))
    refine wpAny_bind (wpAny_of_eq (sliceIndices_raw none (some k) none xs.toArray.size (by simp)) ?_)
    refine wpAny_bind (wpAny_rule ?_)
    refine wpAny_bind (wpAny_updateSeq hl rfl (wpAny_bind (wpAny_letGo (wpAny_pure ⟨_, rfl, h _ ?_⟩))) ?_ ?_)
    · refine congrArg List.toArray (drop_zip _ xs 0 k fun x i _ hi => ?_)
      show (if (if (1 : Int) > 0 then (decide ((0 : Int) ≤ (i : Int)) && decide ((i : Int) < max 0 (min (if (k : Int) < 0 then (k : Int) + (xs.toArray.size : Int) else (k : Int)) (xs.toArray.size : Int))) && ((i : Int) - 0) % 1 == 0) else _) = true then none else some x) = _
      rw [if_pos (show (1 : Int) > 0 by decide), if_neg (show ¬ (k : Int) < 0 by omega)]
      have e1 : decide ((0 : Int) ≤ (i : Int)) = true := decide_eq_true (by omega)
      have e2 : (((i : Int) - 0) % 1 == 0) = true := by rw [Int.emod_one]; rfl
      rw [e1, e2, Bool.true_and, Bool.and_true]
      by_cases hk : i < 0 + k
      · rw [if_pos hk, if_pos (decide_eq_true (by simp at hi ⊢; omega))]
      · rw [if_neg hk, if_neg (by simp at hi ⊢; omega)]
    · rw [sizeLine_eq]; simp; omega
    · refine Nat.le_trans (m := xs.length) ?_ (by rw [sizeLine_eq]; omega)
      rw [List.size_toArray]
      exact Nat.le_trans (List.length_filterMap_le ..) (by simp)
theorem setslice_meets (l sl v : Addr) (xs ys : List Value) (n m : Nat) (hv : l ≠ v) (hx : xs.length ≤ 10000) (hy : ys.length ≤ 10000) :
    Meets (Builtin.«list.__setitem__» ⟨[.ref l, .ref sl, .ref v], []⟩) (fun _ R s => s.heap.get? l = some (lst xs n) ∧ s.heap.get? sl = some (sliceObj .none .none .none) ∧ s.heap.get? v = some (lst ys m) ∧
      ∀ f : Array Value → Array Value, f xs.toArray = ys.toArray → R (.ok (.ret .none)) { s with heap := s.heap.update l (Obj.mapSeq f) }) :=
  .of_wp fun prog w A R s h => by
    obtain ⟨hl, hs, hv', h⟩ := h
    show wpAny _ _ (Builtin.List.listSubscript? (.ref sl) >>= _) _ _ s
    refine wpAny_bind (wpAny_noSub hs ?_)
    show wpAny _ _ (typeOf (.ref sl) >>= _) _ _ s
    refine wpAny_bind (wpAny_typeOf (T := "slice") ⟨_, hs, rfl⟩ ?_)
    rw [if_neg (by decide)]
    refine wpAny_bind (wpAny_parts hs .none .none .none (by simp) ?_)
    have hne : Builtin.List.listSameRef (.ref l) (.ref v) = false := by simp [Builtin.List.listSameRef, hv]
    dsimp only
    rw [if_neg (by rw [hne]; exact Bool.false_ne_true)]
    refine wpAny_bind (m := Builtin.List.listAllItems (.ref v) _) ?_
    unfold Builtin.List.listAllItems
    refine wpAny_bind (wpAny_typeOf (T := "list") ⟨_, hv', rfl⟩ ?_)
    rw [if_pos (by decide)]
    unfold Builtin.List.listItems
    refine wpAny_bind (wpAny_seqItems hv' rfl (wpAny_pure ?_))
    refine wpAny_bind (wpAny_bind (wpAny_seqItems hl rfl (wpAny_pure ?_)))
    refine wpAny_bind (wpAny_of_eq (sliceIndices_raw none none none xs.toArray.size (by simp)) ?_)
    dsimp only
    rw [if_pos (show ((sliceBounds none none none xs.toArray.size).2.2 == 1) = true from rfl)]
    refine wpAny_bind (wpAny_rule ?_)
    rw [if_neg (by simp [Builtin.List.listTooLong, sizeLine_eq]; omega)]
    refine wpAny_bind (wpAny_updateSeq hl rfl (wpAny_bind (wpAny_letGo (wpAny_pure ⟨_, rfl, h _ ?_⟩))) ?_ ?_)
    · show xs.toArray.extract 0 0 ++ ys.toArray ++ xs.toArray.extract (max (0 : Int) (xs.toArray.size : Int)).toNat xs.toArray.size = _
      rw [show (max (0 : Int) (xs.toArray.size : Int)).toNat = xs.toArray.size by omega]
      simp
    · rw [sizeLine_eq]; simp; omega
    · show (xs.toArray.extract 0 0 ++ ys.toArray ++ xs.toArray.extract (max (0 : Int) (xs.toArray.size : Int)).toNat xs.toArray.size).size ≤ _
      rw [show (max (0 : Int) (xs.toArray.size : Int)).toNat = xs.toArray.size by omega, sizeLine_eq]
      simp; omega
end Mine
end
section
open PySem PySem.Spec PySem.Calls PySem.W PySem.W.X PyProof.Rows
set_option Elab.async false
set_option maxRecDepth 100000
namespace Mine
theorem getat_meets (l : Addr) (xs : List Value) (n : Nat) (i : Int) (k : Nat) (t : Tok) (x : Value) (hi : i = k) (hk : xs[k]? = some x) (hx : xs.length ≤ 10000) :
    Meets (Builtin.«list.__getitem__» ⟨[.ref l, .int i t], []⟩) (fun _ R s => s.heap.get? l = some (lst xs n) ∧ R (.ok (.ret x)) s) :=
 .of_wp fun prog w A R s h => by
  have hkl : k < xs.length := (List.getElem?_eq_some_iff.mp hk).1
  have hfit : Builtin.List.listFitsIndex i = true := by
      unfold Builtin.List.listFitsIndex
      rw [decide_eq_true (show -(2 ^ 63 : Int) ≤ i by omega), decide_eq_true (show i < 2 ^ 63 by omega)]; rfl
  obtain ⟨hl, h⟩ := h
  show wpAny _ _ (Builtin.List.listSubscript? (.int i t) >>= _) _ _ s
  refine wpAny_bind ?_
  unfold Builtin.List.listSubscript?
  refine wpAny_bind (wpAny_specialOf (T := "int") (typeIs_int s i t) int_index ?_)
  simp only [Option.isNone_some, Bool.false_eq_true, if_false]
  refine wpAny_bind (wpAny_of_eq (a := i) (by kernel_rfl) ?_)
  rw [hfit]
  simp only [Bool.not_true, Bool.false_eq_true, if_false]
  refine wpAny_pure ?_
  subst hi
  show wpAny _ _ ((seqItemAt l k >>= fun r => pure (r.map (k, ·))) >>= _) _ _ s
  unfold seqItemAt
  refine wpAny_bind (wpAny_bind (wpAny_bind (wpAny_loadPart' hl ?_)))
  refine wpAny_pure (wpAny_pure ?_)
  have hx' : xs.toArray[k]? = some x := by simpa using hk
  simp only [hx', Option.map_some]
  exact wpAny_pure ⟨_, rfl, h⟩

section
variable {w : World} {T₀ : CT} {s₀ : Shared}
/-! ## an item -/
noncomputable def getS (vs : List Value) (i : Int) (x : Value) (a : (Addr × Nat) × Tok) : Job where
  code := .builtin "list.__getitem__" ⟨[.ref a.1.1, .int i a.2], []⟩
  pre := [(a.1.1, lst vs a.1.2)]
  post := fun _ => [lst vs a.1.2]
  new := fun _ => []
  r := fun _ => .ok (.ret x)
  d := 990
  u := 9000
theorem get_ctr (w : World) {vs : List Value} {i : Int} {k : Nat} {x : Value} (hi : i = k) (hx : vs[k]? = some x) (hl : vs.length ≤ 10000) (a : (Addr × Nat) × Tok) : Ctr (B w) (fun _ => True) (getS vs i x a) := by
  obtain ⟨⟨l, n⟩, t⟩ := a
  intro A s R h0 hd hu _ hS hR
  have ho : s.heap.get? l = some (lst vs n) := hS.heap 0 rfl
  refine code_meets F.entry_list_getitem (by decide +kernel) (getat_meets l vs n i k t x hi hx hl) ⟨ho, ?_⟩
  exact ends hR (Inv.start hS) [0] (by decide) [] rfl
noncomputable def tokAt (k : Nat) : Code → Option Tok
  | .builtin _ ⟨p, _⟩ => match p[k]? with
    | some v => match v with
      | .int _ t => some t
      | .str _ t => some t
      | _ => none
    | none => none
  | _ => none
noncomputable def both {α β : Type} (a : Option α) (b : Option β) : Option (α × β) := match a with
  | some x => match b with
    | some y => some (x, y)
    | none => none
  | none => none
noncomputable def getQ (vs : List Value) (i : Int) (x : Value) (j : Nat) : OracleAt := QF [j] (fun c ps => both (seqAt 0 ps) (tokAt 1 c)) (getS vs i x) 990 9000
theorem getQ_ok {vs : List Value} {i : Int} {k : Nat} {x : Value} (hi : i = k) (hx : vs[k]? = some x) (hl : vs.length ≤ 10000) (j : Nat) : OracleOk (B w) T₀ s₀ (getQ vs i x j) :=
  lift_ok (F := fun _ => True) (by simp) (fun _ _ _ => trivial) (fun a => get_ctr w hi hx hl a) (fun _ => Nat.le_refl _) (fun _ => Nat.le_refl _)

/-! ## a slice -/
noncomputable def partOf (v : Value) : Option Int := match v with
  | .int i _ => some i
  | _ => none
noncomputable def sliceS (vs out : List Value) (a b c : Value) (p : (Addr × Nat) × Addr) : Job where
  code := .builtin "list.__getitem__" ⟨[.ref p.1.1, .ref p.2], []⟩
  pre := [(p.1.1, lst vs p.1.2), (p.2, sliceObj a b c)]
  post := fun _ => [lst vs p.1.2, sliceObj a b c]
  new := fun ν => [(ν 2, lst out 0)]
  r := fun ν => .ok (.ret (.ref (ν 2)))
  d := 990
  u := 9000
theorem slice_ctr (w : World) {vs out : List Value} {a b c : Value} {lo hi st : Option Int} (pl : IsPart a lo) (pu : IsPart b hi) (ps : IsPart c st) (h0 : st ≠ some 0) (hl : vs.length ≤ 10000) (ho : slicePick vs.toArray lo hi st = out.toArray) (p : (Addr × Nat) × Addr) :
    Ctr (B w) (fun _ => True) (sliceS vs out a b c p) := by
  obtain ⟨⟨l, n⟩, sl⟩ := p
  intro A s R hh hd hu _ hS hR
  have hv : s.heap.get? l = some (lst vs n) := hS.heap 0 rfl
  have hsl : s.heap.get? sl = some (sliceObj a b c) := hS.heap 1 rfl
  refine code_meets F.entry_list_getitem (by decide +kernel) (getslice_meets l sl vs n a b c lo hi st pl pu ps h0 hl) ⟨hv, hsl, ?_⟩
  rw [ho]
  have I1 := (Inv.start hS).make (o := lst out 0) rfl (by kernel_rfl) (by kernel_rfl)
  refine ends hR I1 [0, 1, 2] (by decide) [s.heap.objs.size] ?_
  kernel_rfl
noncomputable def two (ps : List (Addr × Obj)) : Option ((Addr × Nat) × Addr) := match ps with
  | [(l, ⟨_, _, .seq _ n, _⟩), (sl, _)] => some ((l, n), sl)
  | _ => none
noncomputable def sliceQ (vs out : List Value) (a b c : Value) (j k : Nat) : OracleAt := QF [j, k] (fun _ ps => two ps) (sliceS vs out a b c) 990 9000
theorem sliceQ_ok {vs out : List Value} {a b c : Value} {lo hi st : Option Int} (pl : IsPart a lo) (pu : IsPart b hi) (ps : IsPart c st) (h0 : st ≠ some 0) (hl : vs.length ≤ 10000) (ho : slicePick vs.toArray lo hi st = out.toArray) {j k : Nat} (h : j ≠ k) :
    OracleOk (B w) T₀ s₀ (sliceQ vs out a b c j k) :=
  lift_ok (F := fun _ => True) (by simp [h]) (fun _ _ _ => trivial) (fun p => slice_ctr w pl pu ps h0 hl ho p) (fun _ => Nat.le_refl _) (fun _ => Nat.le_refl _)

/-! ## cutting the front off -/
noncomputable def cutS (vs : List Value) (k : Nat) (p : ((Addr × Nat) × Addr) × Tok) : Job where
  code := .builtin "list.__delitem__" ⟨[.ref p.1.1.1, .ref p.1.2], []⟩
  pre := [(p.1.1.1, lst vs p.1.1.2), (p.1.2, sliceObj .none (.int k p.2) .none)]
  post := fun _ => [lst (vs.drop k) (if (vs.drop k).length = vs.length then p.1.1.2 else p.1.1.2 + 1), sliceObj .none (.int k p.2) .none]
  new := fun _ => []
  r := fun _ => noneR
  d := 990
  u := 9000
theorem cut_ctr (w : World) {vs : List Value} (k : Nat) (hl : vs.length ≤ 10000) (p : ((Addr × Nat) × Addr) × Tok) : Ctr (B w) (fun _ => True) (cutS vs k p) := by
  obtain ⟨⟨⟨l, n⟩, sl⟩, t⟩ := p
  intro A s R hh hd hu _ hS hR
  have hv : s.heap.get? l = some (lst vs n) := hS.heap 0 rfl
  have hsl : s.heap.get? sl = some (sliceObj .none (.int k t) .none) := hS.heap 1 rfl
  refine code_meets F.entry_list_delitem (by decide +kernel) (delslice_meets l sl vs n k t hl) ⟨hv, hsl, fun f hf => ?_⟩
  have e := mapSeq_lst f vs (vs.drop k) n hf
  have I := (Inv.start hS).store (j := 0) (hS.at 0 rfl) (g := Obj.mapSeq f) (by rw [e]; rfl)
  refine ends hR I [0, 1] (by decide) [] ?_
  simp only [getAll, CT.get_set, if_true, hS.at 0 rfl, hS.at 1 rfl, Option.map_some, e]
  rfl
noncomputable def tokIn (k j : Nat) (ps : List (Addr × Obj)) : Option Tok := match ps[k]? with
  | some (_, ⟨_, _, .fields vs, _⟩) => match vs[j]? with
    | some v => match v with
      | .int _ t => some t
      | _ => none
    | none => none
  | _ => none
noncomputable def cutQ (vs : List Value) (k : Nat) (i j : Nat) : OracleAt := QF [i, j] (fun _ ps => both (two ps) (tokIn 1 1 ps)) (cutS vs k) 990 9000
theorem cutQ_ok {vs : List Value} (k : Nat) (hl : vs.length ≤ 10000) {i j : Nat} (h : i ≠ j) : OracleOk (B w) T₀ s₀ (cutQ vs k i j) :=
  lift_ok (F := fun _ => True) (by simp [h]) (fun _ _ _ => trivial) (fun p => cut_ctr w k hl p) (fun _ => Nat.le_refl _) (fun _ => Nat.le_refl _)

/-! ## all of a list anew -/
noncomputable def renewS (vs out : List Value) (p : (Addr × Nat) × Addr × Addr × Nat) : Job where
  code := .builtin "list.__setitem__" ⟨[.ref p.1.1, .ref p.2.1, .ref p.2.2.1], []⟩
  pre := [(p.1.1, lst vs p.1.2), (p.2.1, sliceObj .none .none .none), (p.2.2.1, lst out p.2.2.2)]
  post := fun _ => [lst out (if out.length = vs.length then p.1.2 else p.1.2 + 1), sliceObj .none .none .none, lst out p.2.2.2]
  new := fun _ => []
  r := fun _ => noneR
  d := 990
  u := 9000
theorem renew_ctr (w : World) {vs out : List Value} (hl : vs.length ≤ 10000) (ho : out.length ≤ 10000) (p : (Addr × Nat) × Addr × Addr × Nat) : Ctr (B w) (fun _ => True) (renewS vs out p) := by
  obtain ⟨⟨l, n⟩, sl, v, m⟩ := p
  intro A s R hh hd hu _ hS hR
  have hv : s.heap.get? l = some (lst vs n) := hS.heap 0 rfl
  have hsl : s.heap.get? sl = some (sliceObj .none .none .none) := hS.heap 1 rfl
  have hv' : s.heap.get? v = some (lst out m) := hS.heap 2 rfl
  have ne : l ≠ v := fun e => by
    subst e
    exact absurd (hS.inj 0 2 l _ _ (hS.at 0 rfl) (hS.at 2 rfl)) (by decide)
  refine code_meets F.entry_list_setitem (by decide +kernel) (setslice_meets l sl v vs out n m ne hl ho) ⟨hv, hsl, hv', fun f hf => ?_⟩
  have e := mapSeq_lst f vs out n hf
  have I := (Inv.start hS).store (j := 0) (hS.at 0 rfl) (g := Obj.mapSeq f) (by rw [e]; rfl)
  refine ends hR I [0, 1, 2] (by decide) [] ?_
  simp only [getAll, CT.get_set, if_true, hS.at 0 rfl, hS.at 1 rfl, hS.at 2 rfl, Option.map_some, e]
  rfl
noncomputable def three (ps : List (Addr × Obj)) : Option ((Addr × Nat) × Addr × Addr × Nat) := match ps with
  | [(l, ⟨_, _, .seq _ n, _⟩), (sl, _), (v, ⟨_, _, .seq _ m, _⟩)] => some ((l, n), sl, v, m)
  | _ => none
noncomputable def renewQ (vs out : List Value) (i j k : Nat) : OracleAt := QF [i, j, k] (fun _ ps => three ps) (renewS vs out) 990 9000
theorem renewQ_ok {vs out : List Value} (hl : vs.length ≤ 10000) (ho : out.length ≤ 10000) {i j k : Nat} (h : [i, j, k].Nodup) : OracleOk (B w) T₀ s₀ (renewQ vs out i j k) :=
  lift_ok (F := fun _ => True) h (fun _ _ _ => trivial) (fun p => renew_ctr w hl ho p) (fun _ => Nat.le_refl _) (fun _ => Nat.le_refl _)

/-! ## the first of a list goes -/
noncomputable def popS (x : Value) (vs : List Value) (p : (Addr × Nat) × Tok) : Job where
  code := .builtin "list.pop" ⟨[.ref p.1.1, .int 0 p.2], []⟩
  pre := [(p.1.1, lst (x :: vs) p.1.2)]
  post := fun _ => [lst vs (p.1.2 + 1)]
  new := fun _ => []
  r := fun _ => .ok (.ret x)
  d := 990
  u := 9000
theorem pop_ctr (w : World) {x : Value} {vs : List Value} (hl : vs.length ≤ 10000) (p : (Addr × Nat) × Tok) : Ctr (B w) (fun _ => True) (popS x vs p) := by
  obtain ⟨⟨l, n⟩, t⟩ := p
  intro A s R hh hd hu _ hS hR
  have hv : s.heap.get? l = some (lst (x :: vs) n) := hS.heap 0 rfl
  refine code_meets F.entry_list_pop (by decide +kernel) (PySem.MeetsSeq.list_pop_at l (x :: vs).toArray n 0 t 0 x (by decide) (by simp [seqIndex?]) (by simp) (by rw [sizeLine_eq]; simp; omega)) ⟨hv, ?_⟩
  have e := mapSeq_lst (fun xs => xs.eraseIdxIfInBounds 0) (x :: vs) vs n (by simp)
  rw [if_neg (by simp)] at e
  have I := (Inv.start hS).store (j := 0) (hS.at 0 rfl) (g := Obj.mapSeq fun xs => xs.eraseIdxIfInBounds 0) (by rw [e]; rfl)
  refine ends hR I [0] (by decide) [] ?_
  simp only [getAll, CT.get_set, if_true, hS.at 0 rfl, Option.map_some, e]
  rfl
noncomputable def popQ (x : Value) (vs : List Value) (j : Nat) : OracleAt := QF [j] (fun c ps => both (seqAt 0 ps) (tokAt 1 c)) (popS x vs) 990 9000
theorem popQ_ok {x : Value} {vs : List Value} (hl : vs.length ≤ 10000) (j : Nat) : OracleOk (B w) T₀ s₀ (popQ x vs j) :=
  lift_ok (F := fun _ => True) (by simp) (fun _ _ _ => trivial) (fun p => pop_ctr w hl p) (fun _ => Nat.le_refl _) (fun _ => Nat.le_refl _)
noncomputable def exApp (c : Code) (ps : List (Addr × Obj)) : Option (Addr × Nat × Value) := match c with
  | .builtin _ ⟨[_, v], _⟩ => match ps with
    | [(l, ⟨_, _, .seq _ n, _⟩)] => some (l, n, v)
    | _ => none
  | _ => none
noncomputable def appendQ (vs : List Value) (j : Nat) : OracleAt := QF [j] exApp (appendS vs) 990 9000
theorem appendQ_ok {vs : List Value} (hl : vs.length ≤ 1000) (j : Nat) : OracleOk (B w) T₀ s₀ (appendQ vs j) :=
  lift_ok (F := fun _ => True) (by simp) (fun _ _ _ => trivial) (fun p => append_ctr w hl p) (fun _ => Nat.le_refl _) (fun _ => Nat.le_refl _)
end
end Mine
end
section
open PySem PySem.Spec PySem.Calls PySem.W PySem.W.X PyProof.Rows
set_option Elab.async false
set_option maxRecDepth 100000
namespace Mine

/-! ## cells lent to a run: they come back as they were -/
structure Has (V : Par) (s : Shared) (pre X : List (Addr × Obj)) : Prop where
  own : ∀ p ∈ X, s.heap.get? p.1 = some p.2 ∧ V.kt.get p.1 = none
  inj : (X.map Prod.fst).Nodup
  out : ∀ p ∈ X, ∀ q ∈ pre, q.1 ≠ p.1
section
variable {V : Par} {s s' : Shared} {pre X : List (Addr × Obj)} {base off tb toff : Nat}
theorem Sat.more {m : Nat} (hS : Sat V ⟨cellsOf pre, m, base, off, tb, toff⟩ s) (h : Has V s pre X) : Sat V ⟨cellsOf (pre ++ X), (pre ++ X).length, base, off, tb, toff⟩ s := by
  have own : ∀ p, p ∈ pre ++ X → s.heap.get? p.1 = some p.2 ∧ V.kt.get p.1 = none := fun p hp => by
    rcases List.mem_append.mp hp with hp | hp
    · obtain ⟨i, hi⟩ := List.mem_iff_getElem?.mp hp
      exact hS.own i p.1 p.2 (by rw [show (Mm.mk (cellsOf pre) m base off tb toff).T = cellsOf pre from rfl, cellsOf_get]; exact hi)
    · exact h.own p hp
  refine ⟨hS.top, hS.size, hS.toks, fun i a o e => ?_, fun i j a o o' e e' => ?_, hS.lo⟩
  · rw [show (Mm.mk (cellsOf (pre ++ X)) (pre ++ X).length base off tb toff).T = cellsOf (pre ++ X) from rfl, cellsOf_get] at e
    exact own (a, o) (List.mem_of_getElem? e)
  · rw [show (Mm.mk (cellsOf (pre ++ X)) (pre ++ X).length base off tb toff).T = cellsOf (pre ++ X) from rfl, cellsOf_get] at e e'
    rw [List.getElem?_append] at e e'
    split at e <;> split at e'
    · exact hS.inj i j a o o' (by rw [show (Mm.mk (cellsOf pre) m base off tb toff).T = cellsOf pre from rfl, cellsOf_get]; exact e) (by rw [show (Mm.mk (cellsOf pre) m base off tb toff).T = cellsOf pre from rfl, cellsOf_get]; exact e')
    · exact (h.out (a, o') (List.mem_of_getElem? e') (a, o) (List.mem_of_getElem? e) rfl).elim
    · exact (h.out (a, o) (List.mem_of_getElem? e) (a, o') (List.mem_of_getElem? e') rfl).elim
    · have a1 : (X.map Prod.fst)[i - pre.length]? = some a := by rw [List.getElem?_map, e]; rfl
      have a2 : (X.map Prod.fst)[j - pre.length]? = some a := by rw [List.getElem?_map, e']; rfl
      have := nodup_idx h.inj a1 a2
      omega
theorem getAll_append {T : CT} : ∀ {J K : List Nat} {L : List (Addr × Obj)}, getAll T (J ++ K) = some L → ∃ A B, getAll T J = some A ∧ getAll T K = some B ∧ L = A ++ B
  | [], K, L, h => ⟨[], L, rfl, h, rfl⟩
  | j :: J, K, L, h => by
    rw [List.cons_append] at h
    unfold getAll at h
    split at h
    · cases h
    · rename_i p hp
      split at h
      · cases h
      · rename_i ps hps
        cases h
        obtain ⟨A, B, h1, h2, rfl⟩ := getAll_append hps
        exact ⟨p :: A, B, by rw [getAll, hp]; simp only [h1], h2, rfl⟩
theorem getAll_length {T : CT} {J : List Nat} {L : List (Addr × Obj)} (h : getAll T J = some L) : L.length = J.length := (getAll_spec h).1
theorem Inv.less {M : Mm} {J K : List Nat} {L : List (Addr × Obj)} (hJ : (J ++ K).Nodup) (hK : K.length = X.length) (h : Has V s pre X) (I : Inv V (cellsOf (pre ++ X)) s M s') (hg : getAll M.T (J ++ K) = some (L ++ X)) {b t : Nat} (hb : s'.heap.objs.size = b) (ht : s'.toks = t + 706) :
    Inv V (cellsOf pre) s ⟨cellsOf L, L.length, b, 0, t, 706⟩ s' := by
  obtain ⟨A, B, hA, hB, e⟩ := getAll_append hg
  have hlen : L.length = A.length := by
    have h1 := congrArg List.length e
    have h2 := getAll_length hB
    simp only [List.length_append] at h1
    omega
  obtain ⟨rfl, rfl⟩ := List.append_inj e hlen
  have nJ := (List.nodup_append.mp hJ)
  have R := I.restrict nJ.1 hA hb ht
  obtain ⟨_, hgB⟩ := getAll_spec hB
  obtain ⟨_, hgA⟩ := getAll_spec hA
  have fin : ∀ p ∈ X, ∃ j ∈ K, M.T.get j = some p := fun p hp => by
    obtain ⟨k, hk⟩ := List.mem_iff_getElem?.mp hp
    have hkl : k < K.length := by rw [hK]; exact (List.getElem?_eq_some_iff.mp hk).1
    exact ⟨K[k], List.getElem_mem hkl, (hgB k K[k] (List.getElem?_eq_getElem hkl)).trans hk⟩
  refine ⟨R.sat, ⟨fun c o hc hn => ?_, R.kp.toks, R.kp.gens, R.kp.drawn, R.kp.os⟩, fun i a o e => ?_⟩
  · by_cases hx : ∃ p ∈ X, p.1 = c
    · obtain ⟨p, hp, rfl⟩ := hx
      obtain ⟨j, _, hj⟩ := fin p hp
      have h1 := (h.own p hp).1
      rw [h1] at hc
      cases hc
      exact (I.sat.own j p.1 p.2 hj).1
    · refine I.kp.keep c o hc fun i a o' e => ?_
      rw [cellsOf_get, List.getElem?_append] at e
      split at e
      · exact hn i a o' (by rw [cellsOf_get]; exact e)
      · exact fun q => hx ⟨_, List.mem_of_getElem? e, q⟩
  · rcases R.org i a o e with ⟨j, o', hj⟩ | hge
    · rw [cellsOf_get, List.getElem?_append] at hj
      split at hj
      · exact .inl ⟨j, o', by rw [cellsOf_get]; exact hj⟩
      · exfalso
        obtain ⟨k, hk, hk'⟩ := fin _ (List.mem_of_getElem? hj)
        rw [show (Mm.mk (cellsOf L) L.length b 0 t 706).T = cellsOf L from rfl, cellsOf_get] at e
        have hi : i < J.length := by
          have := (List.getElem?_eq_some_iff.mp e).1
          have := getAll_length hA
          omega
        have := hgA i J[i] (List.getElem?_eq_getElem hi)
        rw [e] at this
        have := I.sat.inj _ _ _ _ _ this hk'
        exact nJ.2.2 J[i] (List.getElem_mem hi) k hk this
    · exact .inr hge

theorem ctr_of_run_x {orc : Nat → Option OracleAt} {F : Shared → Prop} {S : Job} {n H : Nat} {J K : List Nat} {xs : Goal → List Nat} (X : List (Addr × Obj)) (hJ : (J ++ K).Nodup) (hK : K.length = X.length)
    (hX : ∀ s, F s → Sat V (S.start s) s → Has V s S.pre X)
    (hOk : ∀ s, F s → Sat V ⟨cellsOf (S.pre ++ X), (S.pre ++ X).length, s.heap.objs.size, 0, s.toks - 706, 706⟩ s → Par.Ok ⟨V.prog, V.w, V.kt, orc⟩ (cellsOf (S.pre ++ X)) s)
    (hrun : ∀ base tb ν, Runs (J ++ K) xs (fun ν => .ret (S.r ν)) (fun ν => S.out ν ++ X) (goes ⟨V.prog, V.w, V.kt, orc⟩ n H S.code ⟨cellsOf (S.pre ++ X), (S.pre ++ X).length, base, 0, tb, 706⟩ (S.d + 6) (S.u + 10) ν)) : Ctr V F S := by
  intro A s R h0 hd hu hF hS hR
  have hH := hX s hF hS
  have hS' := hS.more hH
  refine goes_ok (V := ⟨V.prog, V.w, V.kt, orc⟩) (M := ⟨cellsOf (S.pre ++ X), (S.pre ++ X).length, s.heap.objs.size, 0, s.toks - 706, 706⟩) (hOk s hF hS') (n := n) (H := H) (Sat.cast (V := V) (V' := ⟨V.prog, V.w, V.kt, orc⟩) rfl hS') h0 (d := S.d + 6) (u := S.u + 10) (by omega) (by omega) fun ν => ?_
  obtain ⟨g, e, ho, he, hg⟩ := (hrun s.heap.objs.size (s.toks - 706) ν).spec
  refine ⟨g, e, ho, fun s' I => ?_⟩
  refine EndAt.of_kind he ?_
  refine hR (nuOf g (xs g)) s' ?_
  have hs := I.sat.size
  have ht := I.sat.toks
  have hl := I.sat.lo
  exact Inv.less hJ hK hH (Inv.cast (V := ⟨V.prog, V.w, V.kt, orc⟩) (V' := V) rfl I) hg (b := nuOf g (xs g) 0) (t := nuOf g (xs g) 1) hs (by show s'.toks = g.M.tb + g.M.toff - 706 + 706; omega)

theorem turn_of_run_x {orc : Nat → Option OracleAt} {code : Code} {d u n H : Nat} {J K : List Nat} {xs : Goal → List Nat} {c : (Nat → Nat) → Code} {L : (Nat → Nat) → List (Addr × Obj)} {A : Around} {R : Result → Shared → Prop} (X : List (Addr × Obj)) (hJ : (J ++ K).Nodup) (hK : K.length = X.length)
    (hX : Has V s pre X)
    (hOk : Sat V ⟨cellsOf (pre ++ X), (pre ++ X).length, s.heap.objs.size, 0, s.toks - 706, 706⟩ s → Par.Ok ⟨V.prog, V.w, V.kt, orc⟩ (cellsOf (pre ++ X)) s)
    (hrun : ∀ base tb ν, Runs (J ++ K) xs (fun ν => .again (c ν)) (fun ν => L ν ++ X) (goes ⟨V.prog, V.w, V.kt, orc⟩ n H code ⟨cellsOf (pre ++ X), (pre ++ X).length, base, 0, tb, 706⟩ (d + 6) (u + 10) ν))
    (h0 : A.handled = none) (hd : A.depth ≤ d) (hu : A.units ≤ u) (hS : Sat V ⟨cellsOf pre, pre.length, s.heap.objs.size, 0, s.toks - 706, 706⟩ s) (hq : ∀ ν, (c ν).quiet = true)
    (hR : ∀ ν s', Inv V (cellsOf pre) s ⟨cellsOf (L (cut ν)), (L (cut ν)).length, ν 0, 0, ν 1, 706⟩ s' → codeAny (model V.prog V.w) A (c (cut ν)) R s') : codeAny (model V.prog V.w) A code R s := by
  have hS' := hS.more hX
  refine goes_ok (V := ⟨V.prog, V.w, V.kt, orc⟩) (M := ⟨cellsOf (pre ++ X), (pre ++ X).length, s.heap.objs.size, 0, s.toks - 706, 706⟩) (hOk hS') (n := n) (H := H) (Sat.cast (V := V) (V' := ⟨V.prog, V.w, V.kt, orc⟩) rfl hS') h0 (d := d + 6) (u := u + 10) (by omega) (by omega) fun ν => ?_
  obtain ⟨g, e, ho, he, hg⟩ := (hrun s.heap.objs.size (s.toks - 706) ν).spec
  refine ⟨g, e, ho, fun s' I => ?_⟩
  refine EndAt.of_kind he ?_
  have hs := I.sat.size
  have ht := I.sat.toks
  have hl := I.sat.lo
  exact ⟨hq _, hR (nuOf g (xs g)) s' (Inv.less hJ hK hX (Inv.cast (V := ⟨V.prog, V.w, V.kt, orc⟩) (V' := V) rfl I) hg (b := nuOf g (xs g) 0) (t := nuOf g (xs g) 1) hs (by show s'.toks = g.M.tb + g.M.toff - 706 + 706; omega))⟩
end
end Mine
end
section
open PySem PySem.Spec PySem.Calls PySem.W PySem.W.X PyProof.Rows
set_option Elab.async false
set_option maxRecDepth 100000
namespace Mine

/-! ## the sixteen numbers, their words and their names -/
noncomputable def N : Nat → Int
  | 0 => 0
  | 1 => 16
  | 2 => 32
  | 3 => 48
  | 4 => 1024
  | 5 => 1040
  | 6 => 1056
  | 7 => 1072
  | 8 => 2048
  | 9 => 2064
  | 10 => 2080
  | 11 => 2096
  | 12 => 3072
  | 13 => 3088
  | 14 => 3104
  | 15 => 3120
  | _ => 0
noncomputable def W : Nat → Str
  | 0 => ⟨#[64, 64, 128]⟩
  | 1 => ⟨#[64, 64, 144]⟩
  | 2 => ⟨#[64, 64, 32]⟩
  | 3 => ⟨#[64, 64, 48]⟩
  | 4 => ⟨#[64, 80, 128]⟩
  | 5 => ⟨#[64, 80, 144]⟩
  | 6 => ⟨#[64, 80, 32]⟩
  | 7 => ⟨#[64, 80, 48]⟩
  | 8 => ⟨#[64, 96, 128]⟩
  | 9 => ⟨#[64, 96, 144]⟩
  | 10 => ⟨#[64, 96, 32]⟩
  | 11 => ⟨#[64, 96, 48]⟩
  | 12 => ⟨#[64, 112, 128]⟩
  | 13 => ⟨#[64, 112, 144]⟩
  | 14 => ⟨#[64, 112, 32]⟩
  | 15 => ⟨#[64, 112, 48]⟩
  | _ => ⟨#[]⟩
noncomputable def P : Nat → Str
  | 0 => ⟨#[48, 120, 48]⟩
  | 1 => ⟨#[78, 69, 83, 84, 69, 68]⟩
  | 2 => ⟨#[71, 69, 78, 69, 82, 65, 84, 79, 82]⟩
  | 3 => ⟨#[78, 69, 83, 84, 69, 68, 44, 32, 71, 69, 78, 69, 82, 65, 84, 79, 82]⟩
  | 4 => ⟨#[48, 120, 52, 48, 48]⟩
  | 5 => ⟨#[78, 69, 83, 84, 69, 68, 44, 32, 48, 120, 52, 48, 48]⟩
  | 6 => ⟨#[71, 69, 78, 69, 82, 65, 84, 79, 82, 44, 32, 48, 120, 52, 48, 48]⟩
  | 7 => ⟨#[78, 69, 83, 84, 69, 68, 44, 32, 71, 69, 78, 69, 82, 65, 84, 79, 82, 44, 32, 48, 120, 52, 48, 48]⟩
  | 8 => ⟨#[48, 120, 56, 48, 48]⟩
  | 9 => ⟨#[78, 69, 83, 84, 69, 68, 44, 32, 48, 120, 56, 48, 48]⟩
  | 10 => ⟨#[71, 69, 78, 69, 82, 65, 84, 79, 82, 44, 32, 48, 120, 56, 48, 48]⟩
  | 11 => ⟨#[78, 69, 83, 84, 69, 68, 44, 32, 71, 69, 78, 69, 82, 65, 84, 79, 82, 44, 32, 48, 120, 56, 48, 48]⟩
  | 12 => ⟨#[48, 120, 52, 48, 48, 44, 32, 48, 120, 56, 48, 48]⟩
  | 13 => ⟨#[78, 69, 83, 84, 69, 68, 44, 32, 48, 120, 52, 48, 48, 44, 32, 48, 120, 56, 48, 48]⟩
  | 14 => ⟨#[71, 69, 78, 69, 82, 65, 84, 79, 82, 44, 32, 48, 120, 52, 48, 48, 44, 32, 48, 120, 56, 48, 48]⟩
  | 15 => ⟨#[78, 69, 83, 84, 69, 68, 44, 32, 71, 69, 78, 69, 82, 65, 84, 79, 82, 44, 32, 48, 120, 52, 48, 48, 44, 32, 48, 120, 56, 48, 48]⟩
  | _ => ⟨#[]⟩
noncomputable def PL : Nat → Str
  | 0 => ⟨#[48, 120, 48]⟩
  | 1 => ⟨#[110, 101, 115, 116, 101, 100]⟩
  | 2 => ⟨#[103, 101, 110, 101, 114, 97, 116, 111, 114]⟩
  | 3 => ⟨#[110, 101, 115, 116, 101, 100, 44, 32, 103, 101, 110, 101, 114, 97, 116, 111, 114]⟩
  | 4 => ⟨#[48, 120, 52, 48, 48]⟩
  | 5 => ⟨#[110, 101, 115, 116, 101, 100, 44, 32, 48, 120, 52, 48, 48]⟩
  | 6 => ⟨#[103, 101, 110, 101, 114, 97, 116, 111, 114, 44, 32, 48, 120, 52, 48, 48]⟩
  | 7 => ⟨#[110, 101, 115, 116, 101, 100, 44, 32, 103, 101, 110, 101, 114, 97, 116, 111, 114, 44, 32, 48, 120, 52, 48, 48]⟩
  | 8 => ⟨#[48, 120, 56, 48, 48]⟩
  | 9 => ⟨#[110, 101, 115, 116, 101, 100, 44, 32, 48, 120, 56, 48, 48]⟩
  | 10 => ⟨#[103, 101, 110, 101, 114, 97, 116, 111, 114, 44, 32, 48, 120, 56, 48, 48]⟩
  | 11 => ⟨#[110, 101, 115, 116, 101, 100, 44, 32, 103, 101, 110, 101, 114, 97, 116, 111, 114, 44, 32, 48, 120, 56, 48, 48]⟩
  | 12 => ⟨#[48, 120, 52, 48, 48, 44, 32, 48, 120, 56, 48, 48]⟩
  | 13 => ⟨#[110, 101, 115, 116, 101, 100, 44, 32, 48, 120, 52, 48, 48, 44, 32, 48, 120, 56, 48, 48]⟩
  | 14 => ⟨#[103, 101, 110, 101, 114, 97, 116, 111, 114, 44, 32, 48, 120, 52, 48, 48, 44, 32, 48, 120, 56, 48, 48]⟩
  | 15 => ⟨#[110, 101, 115, 116, 101, 100, 44, 32, 103, 101, 110, 101, 114, 97, 116, 111, 114, 44, 32, 48, 120, 52, 48, 48, 44, 32, 48, 120, 56, 48, 48]⟩
  | _ => ⟨#[]⟩
theorem all16 {p : Nat → Prop} (h0 : p 0) (h1 : p 1) (h2 : p 2) (h3 : p 3) (h4 : p 4) (h5 : p 5) (h6 : p 6) (h7 : p 7) (h8 : p 8) (h9 : p 9) (h10 : p 10) (h11 : p 11) (h12 : p 12) (h13 : p 13) (h14 : p 14) (h15 : p 15) : ∀ a, a < 16 → p a := fun a ha => by
  rcases a with _ | _ | _ | _ | _ | _ | _ | _ | _ | _ | _ | _ | _ | _ | _ | _ | a
  all_goals first | assumption | exact absurd ha (by omega)

section
variable {w : World}
theorem ctr_plain {F : Shared → Prop} {S : Job} {n H : Nat} {J : List Nat} {xs : Goal → List Nat} (hJ : J.Nodup)
    (hrun : ∀ base tb ν, Runs J xs (fun ν => .ret (S.r ν)) S.out (goes (mk w []) n H S.code ⟨cellsOf S.pre, S.pre.length, base, 0, tb, 706⟩ (S.d + 6) (S.u + 10) ν)) : Ctr (B w) F S :=
  ctr_of_run (V := B w) (orc := fun j => ([] : List OracleAt)[j]?) hJ (fun s _ _ => mk_ok (by simp)) hrun
end
noncomputable def tok2 (g : Goal) : List Nat := [tokR g.e]
noncomputable def prettyS (a : Nat) (t : Tok) : Job where
  code := .call (.ref 46) ⟨[.int (N a) t], []⟩
  pre := []
  post := fun _ => []
  new := fun _ => []
  r := fun ν => strR (P a) (ν 2)
  d := 800
  u := 7000
noncomputable def numberS (a : Nat) (t : Tok) : Job where
  code := .call (.ref 277) ⟨[.str (W a) t], []⟩
  pre := []
  post := fun _ => []
  new := fun _ => []
  r := fun ν => intR (N a) (ν 2)
  d := 800
  u := 7000
noncomputable def wordS (a : Nat) (t : Tok) : Job where
  code := .call (.ref 253) ⟨[.int (N a) t], []⟩
  pre := []
  post := fun _ => []
  new := fun _ => []
  r := fun ν => strR (W a) (ν 2)
  d := 800
  u := 7000
noncomputable def nameS (a : Nat) (t : Tok) : Job where
  code := .call (.ref 258) ⟨[.int (N a) t], []⟩
  pre := []
  post := fun _ => []
  new := fun _ => []
  r := fun ν => strR (P a) (ν 2)
  d := 800
  u := 7000
noncomputable def convS (x : Str) (b : Bool) (p : Value × Tok) : Job where
  code := .call (.ref 127) ⟨[p.1, .str x p.2], [("name", .bool b)]⟩
  pre := []
  post := fun _ => []
  new := fun _ => []
  r := fun _ => strR x p.2
  d := 800
  u := 7000
end Mine
end
section
open PySem PySem.Spec PySem.Calls PySem.W PySem.W.X PyProof.Rows
set_option Elab.async false
set_option maxRecDepth 100000
namespace Mine

/-! ## forms of objects -/
noncomputable def inst (C D : Addr) : Obj := { cls := .ref C, dict := some D, data := .plain, slots := #[] }
noncomputable def kh (w : World) (x : Str) : Int := PyData.keyHash w.params x
noncomputable def frmE (w : World) : List (Str × Value) → (Nat → Nat) → List DictEntry
  | [], _ => []
  | (k, v) :: l, g => ⟨kh w k, .str k (g 0), v⟩ :: frmE w l fun i => g (i + 1)
noncomputable def frm (w : World) (g : Nat → Nat) (l : List (Str × Value)) : Obj := { cls := .type "frame", data := .dict (frmE w l fun i => g (i + 1)).toArray (g 0) }
noncomputable def dct (w : World) (g : Nat → Nat) (l : List (Str × Value)) : Obj := { cls := .type "dict", data := .dict (frmE w l fun i => g (i + 1)).toArray (g 0) }
noncomputable def tup (vs : List Value) : Obj := { cls := .type "tuple", data := .seq vs.toArray 0 }
noncomputable def ktoks (o : Obj) (i : Nat) : Nat := match o.data with
  | .dict es n => match i with
    | 0 => n
    | i + 1 => match es.toList[i]? with
      | some e => match e.key with
        | .str _ t => t
        | _ => 0
      | none => 0
  | .seq _ n => n
  | _ => 0
noncomputable def xsK (j n : Nat) (G : Goal) : List Nat := match G.M.T.get j with
  | some p => (List.range n).map (ktoks p.2)
  | none => []
noncomputable def obAt (k : Nat) (ps : List (Addr × Obj)) : Obj := match ps[k]? with
  | some p => p.2
  | none => tup0
noncomputable def adAt (k : Nat) (ps : List (Addr × Obj)) : Addr := match ps[k]? with
  | some p => p.1
  | none => 0
noncomputable def valAt (k : Nat) (c : Code) : Value := match c with
  | .builtin _ ⟨p, _⟩ => match p[k]? with | some v => v | none => .none
  | .call _ ⟨p, _⟩ => match p[k]? with | some v => v | none => .none
  | _ => .none
noncomputable def tokV (v : Value) : Tok := match v with
  | .int _ t => t
  | .str _ t => t
  | _ => 0
noncomputable def callTok (k : Nat) (c : Code) : Tok := tokV (valAt k c)

/-! ## the program's own pieces -/
noncomputable def fdOf (w : World) (a : Addr) : FuncData := match (B w).kt.get a with
  | some ⟨_, _, .func fd, _⟩ => fd
  | _ => default
noncomputable def stmtsOf (w : World) (a : Addr) : List Stmt := match (fdOf w a).body with
  | .stmts b => b
  | _ => []
noncomputable def flat : Nat → List Stmt → List Stmt
  | 0, _ => []
  | _ + 1, [] => []
  | n + 1, s :: l => match s with
    | .For t i b e p => .For t i b e p :: (flat n b ++ flat n l)
    | .If t b e p => .If t b e p :: (flat n b ++ flat n e ++ flat n l)
    | s => s :: flat n l
noncomputable def forsIn : List Stmt → List (Expr × List Stmt × List Stmt)
  | [] => []
  | s :: l => match s with
    | .For t _ b e _ => (t, b, e) :: forsIn l
    | _ => forsIn l
noncomputable def nthFor : Nat → List (Expr × List Stmt × List Stmt) → Expr × List Stmt × List Stmt
  | _, [] => (default, [], [])
  | 0, x :: _ => x
  | n + 1, _ :: l => nthFor n l
noncomputable def theFor (w : World) (a k : Nat) : Expr × List Stmt × List Stmt := nthFor k (forsIn (flat 30 (stmtsOf w a)))
noncomputable def envAt (w : World) (a : Addr) (f : Addr) (cells : List (Str × Addr)) : Env :=
  ⟨(fdOf w a).scope, f, (fdOf w a).globals, cells, (fdOf w a).qualname ++ (".<locals>." : Str), some a, (fdOf w a).code, some f, (fdOf w a).builtins⟩
noncomputable def forCode (w : World) (a k : Nat) (f it : Addr) : Code := .forLoop (theFor w a k).1 (.ref it) (theFor w a k).2.1 (theFor w a k).2.2 (envAt w a f [])

/-! ## leaves as oracles -/
section
variable {w : World} {T₀ : CT} {s₀ : Shared}
noncomputable def prettyQ (a : Nat) : OracleAt := QF [] (fun c _ => some (callTok 0 c)) (prettyS a) 800 7000
noncomputable def numberQ (a : Nat) : OracleAt := QF [] (fun c _ => some (callTok 0 c)) (numberS a) 800 7000
noncomputable def wordQ (a : Nat) : OracleAt := QF [] (fun c _ => some (callTok 0 c)) (wordS a) 800 7000
noncomputable def nameQ (a : Nat) : OracleAt := QF [] (fun c _ => some (callTok 0 c)) (nameS a) 800 7000
noncomputable def convQ (x : Str) (b : Bool) : OracleAt := QF [] (fun c _ => some (valAt 0 c, callTok 1 c)) (convS x b) 800 7000
noncomputable def lowerQ (x y : Str) : OracleAt := pureQ "str.lower" exS (fun a => argS (x, a.2)) fun _ => .str y
theorem lower_fact (x y : Str) (h : (⟨placed x fun i _ => Unicode.lowerAt x.cps i⟩ : Str) = y) (hl : y.length ≤ 1000) : OracleOk (B w) T₀ s₀ (lowerQ x y) := by
  have e : (placed x fun i _ => Unicode.lowerAt x.cps i).size = y.length := by rw [← h]; rfl
  refine pure_ok F.entry_str_lower (by decide +kernel) (fun a => ?_) fun _ => by show y.length ≤ sizeLine; rw [sizeLine_eq]; omega
  have g := gives_str_lower x a.2 (by rw [e]; simp [Builtin.Str.tooLong, sizeLine_eq]; omega)
  rw [h] at g
  exact g
end
end Mine
end
section
open PySem PySem.Spec PySem.Calls PySem.W PySem.W.X PyProof.Rows
set_option Elab.async false
set_option maxRecDepth 100000
namespace Mine

noncomputable def ndB : List Nat → Bool
  | [] => true
  | a :: l => Bool.and (l.all fun b => Bool.not (Nat.beq a b)) (ndB l)
theorem nodupB : ∀ {l : List Nat}, ndB l = true → l.Nodup
  | [], _ => List.nodup_nil
  | a :: l, h => by
    rw [ndB, Bool.and_eq_true] at h
    refine List.nodup_cons.mpr ⟨fun hm => ?_, nodupB h.2⟩
    have := List.all_eq_true.mp h.1 a hm
    simp at this
section
variable {V : Par}
theorem Sat.restart {T : CT} {m b t : Nat} {s : Shared} (h : Sat V ⟨T, m, b, 0, t, 706⟩ s) : Sat V ⟨T, m, s.heap.objs.size, 0, s.toks - 706, 706⟩ s :=
  ⟨h.top, rfl, by have := h.lo; show s.toks = s.toks - 706 + 706; omega, h.own, h.inj, h.lo⟩
theorem ctr_turn {orc : Nat → Option OracleAt} {F : Shared → Prop} {S : Job} (S' : (Nat → Nat) → Job) {n H : Nat} {J K : List Nat} {xs : Goal → List Nat} (X : List (Addr × Obj)) (hJ : (J ++ K).Nodup) (hK : K.length = X.length)
    (hX : ∀ s, F s → Sat V (S.start s) s → Has V s S.pre X)
    (hOk : ∀ s, F s → Sat V ⟨cellsOf (S.pre ++ X), (S.pre ++ X).length, s.heap.objs.size, 0, s.toks - 706, 706⟩ s → Par.Ok ⟨V.prog, V.w, V.kt, orc⟩ (cellsOf (S.pre ++ X)) s)
    (hrun : ∀ base tb ν, Runs (J ++ K) xs (fun ν => .again (S' ν).code) (fun ν => (S' ν).pre ++ X) (goes ⟨V.prog, V.w, V.kt, orc⟩ n H S.code ⟨cellsOf (S.pre ++ X), (S.pre ++ X).length, base, 0, tb, 706⟩ (S.d + 6) (S.u + 10) ν))
    (hq : ∀ ν, (S' ν).code.quiet = true) (hS' : ∀ ν, Ctr V F (S' ν)) (hd' : ∀ ν, S.d ≤ (S' ν).d) (hu' : ∀ ν, S.u ≤ (S' ν).u) (hout : ∀ ν ν', (S' ν).out ν' = S.out ν') (hr : ∀ ν ν', (S' ν).r ν' = S.r ν')
    (hF : ∀ s M s', F s → Sat V (S.start s) s → Inv V (cellsOf S.pre) s M s' → F s') : Ctr V F S := by
  intro A s R h0 hd hu hFs hS hR
  refine turn_of_run_x (V := V) (pre := S.pre) (c := fun ν => (S' ν).code) (L := fun ν => (S' ν).pre) X hJ hK (hX s hFs hS) (hOk s hFs) hrun h0 hd hu hS hq fun ν s' I => ?_
  refine hS' (cut ν) A s' R h0 (Nat.le_trans hd (hd' _)) (Nat.le_trans hu (hu' _)) (hF s _ s' hFs hS I) I.sat.restart fun ν' s'' I' => ?_
  rw [hr]
  refine hR ν' s'' ?_
  have e : S.fin ν' = (S' (cut ν)).fin ν' := by unfold Job.fin; rw [hout]
  rw [e]
  exact I.trans I'
end

/-! ## the board's entries -/
structure Ent where
  ta : Addr
  a : Nat
  tn : Tok
  tw : Tok
noncomputable def Ent.obj (e : Ent) : Obj := tup [.str (P e.a) e.tn, .str (W e.a) e.tw]
noncomputable def vals (es : List Ent) : List Value := es.map fun e => .ref e.ta
noncomputable def Tups (w : World) (es : List Ent) (s : Shared) : Prop := ∀ e ∈ es, s.heap.get? e.ta = some e.obj ∧ (B w).kt.get e.ta = none
noncomputable def noTup (l : List (Addr × Obj)) : Prop := ∀ p ∈ l, p.2.cls ≠ .type "tuple"
section
variable {w : World} {es : List Ent} {s s' : Shared}
theorem Tups.off {pre : List (Addr × Obj)} {m b off tb toff : Nat} (h : Tups w es s) (hS : Sat (B w) ⟨cellsOf pre, m, b, off, tb, toff⟩ s) (hn : noTup pre) {e : Ent} (he : e ∈ es) : ∀ q ∈ pre, q.1 ≠ e.ta := fun q hq ee => by
  obtain ⟨i, hi⟩ := List.mem_iff_getElem?.mp hq
  have := (hS.own i q.1 q.2 (by rw [show (Mm.mk (cellsOf pre) m b off tb toff).T = cellsOf pre from rfl, cellsOf_get]; exact hi)).1
  rw [ee, (h e he).1] at this
  exact hn q hq (by rw [← Option.some.inj this]; rfl)
theorem Tups.keep {pre : List (Addr × Obj)} {m b off tb toff : Nat} (h : Tups w es s) (hS : Sat (B w) ⟨cellsOf pre, m, b, off, tb, toff⟩ s) (hn : noTup pre) {M : Mm} (I : Inv (B w) (cellsOf pre) s M s') : Tups w es s' := fun e he => by
  refine ⟨I.kp.keep e.ta _ (h e he).1 fun i a o g => ?_, (h e he).2⟩
  rw [cellsOf_get] at g
  exact h.off hS hn he (a, o) (List.mem_of_getElem? g)
theorem Tups.has {pre : List (Addr × Obj)} {m b off tb toff : Nat} (h : Tups w es s) (hS : Sat (B w) ⟨cellsOf pre, m, b, off, tb, toff⟩ s) (hn : noTup pre) {e : Ent} (he : e ∈ es) : Has (B w) s pre [(e.ta, e.obj)] :=
  ⟨fun p hp => by rw [List.mem_singleton] at hp; subst hp; exact h e he, by simp, fun p hp q hq => by rw [List.mem_singleton] at hp; subst hp; exact h.off hS hn he q hq⟩
end
end Mine
end
section
open PySem PySem.Spec PySem.Calls PySem.W PySem.W.X PyProof.Rows
set_option Elab.async false
set_option maxRecDepth 100000
set_option maxHeartbeats 0
namespace Mine
theorem pretty_ctr0 (w : World) (t : Tok) (F : Shared → Prop) : Ctr (B w) F (prettyS 0 t) := ctr_plain (n := 1775) (H := 328436262900897981512696956909794882228192082512134384263334715652962702257969181439032815771824664888695345029363168957917367340491572437101172859213964596923832556089949132835125195906579936973804563135978292963832156124476976894491091060794824409875398546414774850267942763502313742865907108474675405615376809896725600332810978846022130240076850433723356646581525444664581791620823007127699622461006636224759165943350005864190714702235736015347135641188908621246159091967328626068583503635533831655405778799638668791522094122922285248271725183928482172746003180516694022874832554147408217756136400429205362793381358235872045252463528867918253805122360206568023947094401322641882182529817074995999592792296681584484612988274718026194381884421075350330593764399153695873342899990143313627953347426752653536770595068186073743185543847015530041449611524642055143160031263298234172847283651596382989611011452747915578269573338138034565574946335070896590716874591445124445929210273147062728348209057136067546128941260589292970016749679325999154465708209991728883065146033153531088349713808879046698964202334189724524704223037079998829556460339900391715364015211078347098932747048897763776063532876177340167742828088634998090049256513568433662386730843808501065610279830330258761501650227675474747371155633122996673279029369219163621065860664659640786899699575351034055717769991468970056012940136047384921752324735624208142216408679254153425570499632306884334759668413245060363357914513384383049881309757853346073180105516218218155599491158645564726968535562583376986457166754165154741739461834250592592661035885859539439673172647495883843085194017279999425391289996774645276220612543168883222494246618610335664521894403279056357506700796549323692063782631490723320192992569489434664898841544856787921515435561675828662411955119515245978477634663913237565683195467895430922709603606831933901430216801841284597741490459757603649954442765949752824483524146533106232599099201838636049017769708171580425912898431268747387937535589465645217098431034208255749402054888657407590050332485580568549725314576993929470676035662151847279469889636559465364522453650112959725900656848416019717373274602233568320583567994844177164206459148304385) (J := []) (xs := tok2) List.nodup_nil (by intro base tb ν; unfold Runs; kernel_rfl)
theorem pretty_ctr1 (w : World) (t : Tok) (F : Shared → Prop) : Ctr (B w) F (prettyS 1 t) := ctr_plain (n := 409) (H := 463527740733430042770306746352349768543075369489628599178541775072288507165156390310604715252876533258613762789059191936815928631554812259951106426036086865971037771772947845817884962835845924461618109143130261406634176815747874119285821666482264283760458097352293946768854893698454464457613220313284373420216640742555894352075146472925650143763547082323009527193230072369785863473325109716750056982146867598972383946488866502945420205278408838198939338265484561045212101703529342297235467319439089722743633792204801) (J := []) (xs := tok2) List.nodup_nil (by intro base tb ν; unfold Runs; kernel_rfl)
theorem pretty_ctr2 (w : World) (t : Tok) (F : Shared → Prop) : Ctr (B w) F (prettyS 2 t) := ctr_plain (n := 461) (H := 48815168628586340393552922342841009348536660975097732414809639215923118529997608358837145537456352622571601193741872245346644269242932048889133698377434072893928862015641949698923488169177434257112234399330166590584003797872272988072210488121244888735511132698820579276647559800808444360640337681822178931978151919702778012953422022952419780041578939917026893996664367336697512693289528056087814090941361413342727231553288361636954744064626840305053705887727948705642843103925758504663591487049083786189790733664174485948156970837989888365472187636597148435022555181232183887003649) (J := []) (xs := tok2) List.nodup_nil (by intro base tb ν; unfold Runs; kernel_rfl)
theorem pretty_ctr3 (w : World) (t : Tok) (F : Shared → Prop) : Ctr (B w) F (prettyS 3 t) := ctr_plain (n := 543) (H := 114644502209520362387633953951691921989586830338115738950142363695894012544697362775466642725644526813650609634025640147137361694422692634527723536023418671362008703382628540461411218750076093706029085169154595252619289684762096844326930300222670835183351339695132828554605638073402907619090380791655189369997483753944817945664394857008042983222968049045745905407713967956252840960493861215173323329883283874241965717122579614833504240631020020314983868284329065404434412665142986362185626131331297058091196594928649525218876517390633660827917200177186641227494830999090481348859936421733451649901300947426161303711884192232560758974333678547994368234031443863148455204015304992782091812865) (J := []) (xs := tok2) List.nodup_nil (by intro base tb ν; unfold Runs; kernel_rfl)
theorem pretty_ctr4 (w : World) (t : Tok) (F : Shared → Prop) : Ctr (B w) F (prettyS 4 t) := ctr_plain (n := 713) (H := 2246520154131352491484044248978108865993559832366642450036885922732728161975304701792968080807357187196412441781591681069149601492192907642230858624949379097063683358358728518852964951059999771236527346095176833853002228617783759035282808840798642637435900188308633580810759126416518182804816940273110652643446415145059837185971620942079731495898528259172597245467409012446452248818106786323380374884315401799030200635546834872247943811321582749666964909461558897508231343449474336219325786863657403812281236074581793757656056369879429176639856536123992269012691394748160939997351259050784470385028548146210331148407058262774360583283621358519291730718073925455158122574023718922581076665096092226927116697180030858378933350131613943977604630756116481508146009508748208193622107727294454746310835112229134420539913357710485202420375083484588201974927885914988763648451250224045334378359816193) (J := []) (xs := tok2) List.nodup_nil (by intro base tb ν; unfold Runs; kernel_rfl)
theorem pretty_ctr5 (w : World) (t : Tok) (F : Shared → Prop) : Ctr (B w) F (prettyS 5 t) := ctr_plain (n := 795) (H := 5276048245037116489892308260052915454628043004073405693708743531874300512932829939485785222287564662230546235554141718125709154490058888217330844328864070081731472959761264606926143800543265546640268972766505666916368212330333007291069264975727435366946661984761982920204007726370044512210426521566820676376762376415762474808041256006858833001552298764700253319003851496671302102811125883445637013948663743086369926796798105473626708636125979439792035465356418437573784137335426364631227641856539623201133045506494932841354390680321369072559736324743185638776499625042280262115547406205248894081158692637070746728203136501164256744332616997601552715505929514557025104011514664262302435671675712113540863153540282069833354757311568562539072714989251072920472341331665183356162706346955290447704771383670703937470164129802141462455839015434294831922464731144262903529237578948971976102620762441794706038924226515472713507870517879471403868825701195896719589648171248516792770192303829464039815336951809) (J := []) (xs := tok2) List.nodup_nil (by intro base tb ν; unfold Runs; kernel_rfl)
theorem pretty_ctr6 (w : World) (t : Tok) (F : Shared → Prop) : Ctr (B w) F (prettyS 6 t) := ctr_plain (n := 795) (H := 5276048245037116489892308260052915454628043004073405693708743531874300512932829939485785222287564662230546235554141718125709154490058888217330844328864070081731472959761264606926143800543265546640268972766505666916368212330333007291069264975727435366946661984761982920204007726370044512210426521566820676376762376415762474808041256006858833001552298764700253319003851496671302102811125883445637013948663743086369926796798105473626708636464702695578071246496186231481068574200505178863220439619666071621251727298837755491385795175712831828027575742080205988596252789560733126255851673516894697336919923752961476586264373053188763140208701354832132998960275177222858396202126073805985937425355834359677548173877902297835755868127689447458481492548667577096968086101505762444283758374390711020570245960951823541146035001579443349051069039380394240779593109107656158547263875696722357062492179742512302240403665428913667370435568188734102049861966514420013658632378609143015377855860353228554215849197569) (J := []) (xs := tok2) List.nodup_nil (by intro base tb ν; unfold Runs; kernel_rfl)
theorem pretty_ctr7 (w : World) (t : Tok) (F : Shared → Prop) : Ctr (B w) F (prettyS 7 t) := ctr_plain (n := 877) (H := 12391023972238819690964159672837827957374473338017255447524106857477048003045476604593892697246087894347611555145345966709403467717068044586974864024093676454283624382131167185692450961987475781862638536119689432610368157533605403806400630304715904913466743892522199755098978202238806616040206453712158990866162622489907592806479072473386385046781650380383225809965978922572944284616838155511974106496991431516921425744426809532036536368262632704201092866464963563990227323711472677365836125332048845033266997025964842645030101060311002239403885779256395985652919299018232961384327068399917545091674971981188407928528963890432943944710578541308906007050539002925559379059195667667646177410392251186274743470963107813129178475319289150606019024267930555313538796968538573887702235517331094214384126023473034400181345304583089148807880413252317499908089131708152591279912592571975121892474705364830397420867706064328639524670298676814547275509254407454841066865628245353670017592564445165580131051549509307299184813703011244187139668013898013561492242971295238690021545080445013883982882848150892862437834358785) (J := []) (xs := tok2) List.nodup_nil (by intro base tb ν; unfold Runs; kernel_rfl)
theorem pretty_ctr8 (w : World) (t : Tok) (F : Shared → Prop) : Ctr (B w) F (prettyS 8 t) := ctr_plain (n := 765) (H := 236586185711173039912972901008889475207652681938057829194825543467179946688483225435992367356279551067569288839682865156554856697236577731908903453628627113600585730105796170473137953920774460153700456758902982239941969902301548403759938157399780963312315057560755231730889119835949748618864893345222544971240229026303629720805508756901372609232129888149102498198935810615484738867880840347559325144565575288185739555422888648061217276222429163740348341301837248627870604527138835760574433904354358915281239715955176314061733249294348458001413069697384224787459201765101993458870212304143357066626801293295880478750880423764692733809312931367850676435047547066731204704916890054059934888508281516724864820805886491523330116621707202081261424399702198317431649259885567596419470578550426603443277781971673779300922843699314313577248855526588088038242712610500446230920143068501226750143504192030017462005364296024933023901545380312449138433309078927976693761) (J := []) (xs := tok2) List.nodup_nil (by intro base tb ν; unfold Runs; kernel_rfl)
theorem pretty_ctr9 (w : World) (t : Tok) (F : Shared → Prop) : Ctr (B w) F (prettyS 9 t) := ctr_plain (n := 847) (H := 555632731638728089168939577321190428156397547497470461641329901205654508518178774168210378630474178799776692834294529073407705786044123295704081856754792587856681517534525109539207256149143576708802353237673653074626396403502906559012449828659394969371297663180730940283246167223755706672070741731197757419919519153931650961622952595562015822617416788119847249179159894566199661741086178785183771805344883127950064077467909888165665197375055890327410459630587968887290939433029633954639879789008252088118908792393201403396279226541302152406762244359962319647475601290005030165257016362938597347973396101626697594895282858077310927444827735334529800954420372787488443162000509725482769585988304800012204187937877662082956187103882542066863900441948338968341891904962611422942289124354688840988937311597881497689735357037281685664648823265260085790915790648298822326703803138416052439089945295055900854110708141754330006518353460918476058344633299364186954037361820655261585585584426970335260922550379812800196715157997738942789815315583005655506482075339913665970177) (J := []) (xs := tok2) List.nodup_nil (by intro base tb ν; unfold Runs; kernel_rfl)
theorem pretty_ctr10 (w : World) (t : Tok) (F : Shared → Prop) : Ctr (B w) F (prettyS 10 t) := ctr_plain (n := 847) (H := 555632731638728089168939577321190428156397547497470461641329901205654508518178774168210378630474178799776692834294529073407705786044123295704081856754792587856681517534525109539207256149143576708802353237673653074626396403502906559012449828659394969371297663180730940283246167223755706672070741731197757419919519153931650961622952595562015822617416788119847249179159894566199661741086178785183771805344883127950064077467909888165665197375055890327410459630587968887290939433029633954639879789008252088457632048179237184536047020448586589271841058591955117410602049710123711957599839012970001843364858857094537012232303207897064091963280599474834068266066176043249674277891239583544006138012811195888288545168457945537301849769715834257475309985631840722022014151099296443279909352357089951805058196517290275249151861213777430434489402353381137818351211221164296903984922742091923310867247181651130878056807550611458384481746715936502355092383680324058371338079416856741024499025380832900311231813077993836462033681291807926997175941805613319063005839854314178215937) (J := []) (xs := tok2) List.nodup_nil (by intro base tb ν; unfold Runs; kernel_rfl)
theorem pretty_ctr11 (w : World) (t : Tok) (F : Shared → Prop) : Ctr (B w) F (prettyS 11 t) := ctr_plain (n := 929) (H := 1304927130636498627977794078274746878882857709288525738479093796544437657515390473029847191338941540752894449802291107967127863683932476821489582477225924561784403152270221125470960195880903350513531923996933733096490148945768770167034230076916536011343954688356466590181180693830296229900161353787783538057984834080649807605364651577998330459413402136671338945343882495891067559299368183144741758084641789012739252851017106214367678195980052701650577570685169501271540152443308847952618077540415531054995836901405189110682025387984706025420574292703178199280070174605252014165525882016136446100566583975609439949122135327535566945367147215047747955764535880645745780826406439970947254236586500358496630952739585650508484197147508631555668083298147264956965271262194086960860485470474963367053382085674224896870888342375408048799394527029176934643358332799617056906633087775667005255956350612013874218994713506861440619503319349457254202138617752128309960942721955386969391137772542910758327743115749183199966079421191509534451407789167697469015011959978233453159233084755369376036900326373763454625553166204226768427409391995910475604132831193526020150485580333983519997953) (J := []) (xs := tok2) List.nodup_nil (by intro base tb ν; unfold Runs; kernel_rfl)
theorem pretty_ctr12 (w : World) (t : Tok) (F : Shared → Prop) : Ctr (B w) F (prettyS 12 t) := ctr_plain (n := 839) (H := 1974004006082197154970499672263849888609845875100285403083439565839023929492337480582656818592376804132643616307143933402584344300280332958067510619865432587462384779309321592477015594238093983063280980305662263406818140838131861055460032505078765649202784579275947145597778103607045873235708936744665304286123071654625032551766260813558416356283971728234771684042628245007703796835511625499229749684568087918526418318385484763890843913189559105742812964334379721135380375349989000750325715744055658026190052788326420967635536123054098661552141569326019141448799518560438976313737551629876908798312680463945148365304037522774692309470805303260073280247568010496105472668101442532789286496500263496689556632648689098971961156526063725402316372807123669276268073026294596856244076465908527238102741529081259776537329408917100932058968464417587096858422514644825914175345033750134897677309181682435179339620523769847673304336334117226754372663276510504459707265265410789495389398743588452472885602811280944367366992030884859492086265861457814260128153601) (J := []) (xs := tok2) List.nodup_nil (by intro base tb ν; unfold Runs; kernel_rfl)
theorem pretty_ctr13 (w : World) (t : Tok) (F : Shared → Prop) : Ctr (B w) F (prettyS 13 t) := ctr_plain (n := 921) (H := 4636032466850176902460823947204271458427831864272142107378349594684286421097107481976163936604043914090647326284124247191896954532568304406544195036680110042171076941991078703186932504088966128565368103579690407734496308096520500714343298107358605162527552695892917415695923834569330034734583780380798984326335924748672307021607155668858925892555471439069335555514730328167747035282725715476632657456486008906154436648876524475037137295649672721763079685240971240614105589515190297108483643327216738022322211392839603668826038798885598755893426029797792776065194930885379591797979712362766771998131387775581160605753709041498233153785766123742021274065224936504353163986323249343682663497229127103150494030576297093102684435087596830344973965273328763535225308986770112540126876901470038705327702350728283601104660670632318589785874276367993667032206955885939638839806241330975820459364385698346042214416114559137121213843217732148262857779907098926580286729247194054806868540014503851164281201672255672428263055603560161446163418451617739964288307674011310689233102327751842898605257187888879329389193030624157098023400730869567175669809791531336332021334017) (J := []) (xs := tok2) List.nodup_nil (by intro base tb ν; unfold Runs; kernel_rfl)
theorem pretty_ctr14 (w : World) (t : Tok) (F : Shared → Prop) : Ctr (B w) F (prettyS 14 t) := ctr_plain (n := 921) (H := 4636032466850176902460823947204271458427831864272142107378349594684286421097107481976163936604043914090647326284124247191896954532568304406544195036680110042171076941991078703186932504088966128565368103579690407734496308096520500714343298107358605162527552695892917415695923834569330034734583780380798984326335924748672307021607155668858925892555471439069335555514730328167747035282725715476632657456486008906154436648876524475037137295649672721763079685240971240614105589515190297108483643327216738022322211392839603668826038798885598755893426029797792776065194930885379591797979712362766771998470111031367196386893476835405517590650844937974014071828351384924471845778666071993714067992620589858618333447913317442922437599606049694485278232584974566790986540102660842398188113453494545101203786707958863884559006333298151881976485685911677168785887078132076323860143861558978221570180506583265450991975531063313616958613058311236383909807342519499445761306528313658482739411791805737759511225618355081285391433566953416464189715199368120924159724974728906890712541241192796761170307497151577510425458349147451167007608091495789783333366315295850732533579777) (J := []) (xs := tok2) List.nodup_nil (by intro base tb ν; unfold Runs; kernel_rfl)
theorem pretty_ctr15 (w : World) (t : Tok) (F : Shared → Prop) : Ctr (B w) F (prettyS 15 t) := ctr_plain (n := 1003) (H := 10887919663519659838085209470115312688655923653829599726572595557189272966936263108553808593073771873128728983900825349444715967563986412121922425320192562944700813860306910461103242511967461875601158151944627031664074800006723359287340503976909543885189744376140102746748731064453935388602420037040037109039071542029977292143263565814142854786489160778633830597104990213390818185762793984706256997969696406030364470402967912927530469386187393741877400956042948573512958037729619202074373490141291004512385768642606756406385245173911744045429402993002538169143313184471728458157351167117164802070663129087297452086091332624249024735882346484611539632715820552915940761583544789424692516249508517624678331134656826754252823631373016607418964037751859392125533675043704919958316789750639669025134883777681870083084265072953412078981303203256884733368688418053147199299750649976659981897217072614260532960314736125675153067167214709376330977295296112367769608017149011160912465546600058232597417150773687369531604524248983534022269723255979284825651126177340067825334432784297169342521355573409079290061538236172829333714662674811305289331795017565214705540446030735568037244538754265271613094382085654292299736354684000041567298863954516843739861019362066498007221665793) (J := []) (xs := tok2) List.nodup_nil (by intro base tb ν; unfold Runs; kernel_rfl)
theorem pretty_ctr (w : World) (t : Tok) (F : Shared → Prop) : ∀ a, a < 16 → Ctr (B w) F (prettyS a t) := all16
  (pretty_ctr0 w t F) (pretty_ctr1 w t F) (pretty_ctr2 w t F) (pretty_ctr3 w t F) (pretty_ctr4 w t F) (pretty_ctr5 w t F) (pretty_ctr6 w t F) (pretty_ctr7 w t F) (pretty_ctr8 w t F) (pretty_ctr9 w t F) (pretty_ctr10 w t F) (pretty_ctr11 w t F) (pretty_ctr12 w t F) (pretty_ctr13 w t F) (pretty_ctr14 w t F) (pretty_ctr15 w t F)
end Mine
end
section
open PySem PySem.Spec PySem.Calls PySem.W PySem.W.X PyProof.Rows
set_option Elab.async false
set_option maxRecDepth 100000
set_option maxHeartbeats 0
namespace Mine
theorem number_ctr0 (w : World) (t : Tok) (F : Shared → Prop) : Ctr (B w) F (numberS 0 t) := ctr_plain (n := 398) (H := 519855155848164513374662852508452053807265000068102341572249787209802630874433383472508157496676406125618671713144868609476275337038367596709139989992293985016998774909510232083137458829828150157703214418774696048210061101938845354412443073138974259800445788166801262018193420973321437162855014040722408038726882125217880117762373384643629966164868986091046850610221361008054623551799597187859451381783244970319021692372556054367378780524027587452397935316529491546708328027448409505778857128422602295181441064131334437749859024897) (J := []) (xs := tok2) List.nodup_nil (by intro base tb ν; unfold Runs; kernel_rfl)
theorem number_ctr1 (w : World) (t : Tok) (F : Shared → Prop) : Ctr (B w) F (numberS 1 t) := ctr_plain (n := 398) (H := 519855155848164513374662852508452053807265000068102341572249787209802630874433383472508157496676406125618671713144868609476275337038367596709139989992293985016998774909510232083137458829828150157703214418774696048210061101938845354412443073138974259800445788166801262018193420973321437162855014040722408038726882125217880117762373384643629966164868986091046850610221361008054623551799597187859451381783244970319021692372556054367378780524027587452397935316529491546708328027448409505778857128422602295181441064131334437749859024897) (J := []) (xs := tok2) List.nodup_nil (by intro base tb ν; unfold Runs; kernel_rfl)
theorem number_ctr2 (w : World) (t : Tok) (F : Shared → Prop) : Ctr (B w) F (numberS 2 t) := ctr_plain (n := 398) (H := 519855155848164513374662852508452053807265000068102341572249787209802630874433383472508157496676406125618671713144868609476275337038367596709139989992293985016998774909510232083137458829828150157703214418774696048210061101938845354412443073138974259800445788166801262018193420973321437162855014040722408038726882125217880117762373384643629966164868986091046850610221361008054623551799597187859451381783244970319021692372556054367378780524027587452397935316529491546708328027448409505778857128422607487478299598958962968246188244993) (J := []) (xs := tok2) List.nodup_nil (by intro base tb ν; unfold Runs; kernel_rfl)
theorem number_ctr3 (w : World) (t : Tok) (F : Shared → Prop) : Ctr (B w) F (numberS 3 t) := ctr_plain (n := 398) (H := 519855155848164513374662852508452053807265000068102341572249787209802630874433383472508157496676406125618671713144868609476275337038367596709139989992293985016998774909510232083137458829828150157703214418774696048210061101938845354412443073138974259800445788166801262018193420973321437162855014040722408038726882125217880117762373384643629966164868986091046850610221361008054623551799597187859451381783244970319021692372556054367378780524027587452397935316529491546708328027448409505778857128422607487478299598958962968246188244993) (J := []) (xs := tok2) List.nodup_nil (by intro base tb ν; unfold Runs; kernel_rfl)
theorem number_ctr4 (w : World) (t : Tok) (F : Shared → Prop) : Ctr (B w) F (numberS 4 t) := ctr_plain (n := 397) (H := 519855155848164513374662852508452053807265000068102341572249787209802630874433383472508157496676406125618671713144868609476275337038367596709139989992293985016998774909510232083137458829828150157703214418774696048210061101938845354412443073138974259800445788166801262018193420973321437162855014040722408038726882125217880117762373384643629966164868986091046850610221361008054623551799597187859451381783244970319021692372556054367378780524027587452397935316529491546708328027448409505778857128422602295181441064131334437749859024897) (J := []) (xs := tok2) List.nodup_nil (by intro base tb ν; unfold Runs; kernel_rfl)
theorem number_ctr5 (w : World) (t : Tok) (F : Shared → Prop) : Ctr (B w) F (numberS 5 t) := ctr_plain (n := 397) (H := 519855155848164513374662852508452053807265000068102341572249787209802630874433383472508157496676406125618671713144868609476275337038367596709139989992293985016998774909510232083137458829828150157703214418774696048210061101938845354412443073138974259800445788166801262018193420973321437162855014040722408038726882125217880117762373384643629966164868986091046850610221361008054623551799597187859451381783244970319021692372556054367378780524027587452397935316529491546708328027448409505778857128422602295181441064131334437749859024897) (J := []) (xs := tok2) List.nodup_nil (by intro base tb ν; unfold Runs; kernel_rfl)
theorem number_ctr6 (w : World) (t : Tok) (F : Shared → Prop) : Ctr (B w) F (numberS 6 t) := ctr_plain (n := 397) (H := 519855155848164513374662852508452053807265000068102341572249787209802630874433383472508157496676406125618671713144868609476275337038367596709139989992293985016998774909510232083137458829828150157703214418774696048210061101938845354412443073138974259800445788166801262018193420973321437162855014040722408038726882125217880117762373384643629966164868986091046850610221361008054623551799597187859451381783244970319021692372556054367378780524027587452397935316529491546708328027448409505778857128422607487478299598958962968246188244993) (J := []) (xs := tok2) List.nodup_nil (by intro base tb ν; unfold Runs; kernel_rfl)
theorem number_ctr7 (w : World) (t : Tok) (F : Shared → Prop) : Ctr (B w) F (numberS 7 t) := ctr_plain (n := 397) (H := 519855155848164513374662852508452053807265000068102341572249787209802630874433383472508157496676406125618671713144868609476275337038367596709139989992293985016998774909510232083137458829828150157703214418774696048210061101938845354412443073138974259800445788166801262018193420973321437162855014040722408038726882125217880117762373384643629966164868986091046850610221361008054623551799597187859451381783244970319021692372556054367378780524027587452397935316529491546708328027448409505778857128422607487478299598958962968246188244993) (J := []) (xs := tok2) List.nodup_nil (by intro base tb ν; unfold Runs; kernel_rfl)
theorem number_ctr8 (w : World) (t : Tok) (F : Shared → Prop) : Ctr (B w) F (numberS 8 t) := ctr_plain (n := 397) (H := 519855155848164513374662852508452053807265000068102341572249787209802630874433383472508157496676406125618671713144868609476275337038367596709139989992293985016998774909510232083137458829828150157703214418774696048210061101938845354412443073138974259800445788166801262018193420973321437162855014040722408038726882125217880117762373384643629966164868986091046850610221361008054623551799597187859451381783244970319021692372556054367378780524027587452397935316529491546708328027448409505778857128422602295181441064131334437749859024897) (J := []) (xs := tok2) List.nodup_nil (by intro base tb ν; unfold Runs; kernel_rfl)
theorem number_ctr9 (w : World) (t : Tok) (F : Shared → Prop) : Ctr (B w) F (numberS 9 t) := ctr_plain (n := 397) (H := 519855155848164513374662852508452053807265000068102341572249787209802630874433383472508157496676406125618671713144868609476275337038367596709139989992293985016998774909510232083137458829828150157703214418774696048210061101938845354412443073138974259800445788166801262018193420973321437162855014040722408038726882125217880117762373384643629966164868986091046850610221361008054623551799597187859451381783244970319021692372556054367378780524027587452397935316529491546708328027448409505778857128422602295181441064131334437749859024897) (J := []) (xs := tok2) List.nodup_nil (by intro base tb ν; unfold Runs; kernel_rfl)
theorem number_ctr10 (w : World) (t : Tok) (F : Shared → Prop) : Ctr (B w) F (numberS 10 t) := ctr_plain (n := 397) (H := 519855155848164513374662852508452053807265000068102341572249787209802630874433383472508157496676406125618671713144868609476275337038367596709139989992293985016998774909510232083137458829828150157703214418774696048210061101938845354412443073138974259800445788166801262018193420973321437162855014040722408038726882125217880117762373384643629966164868986091046850610221361008054623551799597187859451381783244970319021692372556054367378780524027587452397935316529491546708328027448409505778857128422607487478299598958962968246188244993) (J := []) (xs := tok2) List.nodup_nil (by intro base tb ν; unfold Runs; kernel_rfl)
theorem number_ctr11 (w : World) (t : Tok) (F : Shared → Prop) : Ctr (B w) F (numberS 11 t) := ctr_plain (n := 397) (H := 519855155848164513374662852508452053807265000068102341572249787209802630874433383472508157496676406125618671713144868609476275337038367596709139989992293985016998774909510232083137458829828150157703214418774696048210061101938845354412443073138974259800445788166801262018193420973321437162855014040722408038726882125217880117762373384643629966164868986091046850610221361008054623551799597187859451381783244970319021692372556054367378780524027587452397935316529491546708328027448409505778857128422607487478299598958962968246188244993) (J := []) (xs := tok2) List.nodup_nil (by intro base tb ν; unfold Runs; kernel_rfl)
theorem number_ctr12 (w : World) (t : Tok) (F : Shared → Prop) : Ctr (B w) F (numberS 12 t) := ctr_plain (n := 397) (H := 519855155848164513374662852508452053807265000068102341572249787209802630874433383472508157496676406125618671713144868609476275337038367596709139989992293985016998774909510232083137458829828150157703214418774696048210061101938845354412443073138974259800445788166801262018193420973321437162855014040722408038726882125217880117762373384643629966164868986091046850610221361008054623551799597187859451381783244970319021692372556054367378780524027587452397935316529491546708328027448409505778857128422602295181441064131334437749859024897) (J := []) (xs := tok2) List.nodup_nil (by intro base tb ν; unfold Runs; kernel_rfl)
theorem number_ctr13 (w : World) (t : Tok) (F : Shared → Prop) : Ctr (B w) F (numberS 13 t) := ctr_plain (n := 397) (H := 519855155848164513374662852508452053807265000068102341572249787209802630874433383472508157496676406125618671713144868609476275337038367596709139989992293985016998774909510232083137458829828150157703214418774696048210061101938845354412443073138974259800445788166801262018193420973321437162855014040722408038726882125217880117762373384643629966164868986091046850610221361008054623551799597187859451381783244970319021692372556054367378780524027587452397935316529491546708328027448409505778857128422602295181441064131334437749859024897) (J := []) (xs := tok2) List.nodup_nil (by intro base tb ν; unfold Runs; kernel_rfl)
theorem number_ctr14 (w : World) (t : Tok) (F : Shared → Prop) : Ctr (B w) F (numberS 14 t) := ctr_plain (n := 397) (H := 519855155848164513374662852508452053807265000068102341572249787209802630874433383472508157496676406125618671713144868609476275337038367596709139989992293985016998774909510232083137458829828150157703214418774696048210061101938845354412443073138974259800445788166801262018193420973321437162855014040722408038726882125217880117762373384643629966164868986091046850610221361008054623551799597187859451381783244970319021692372556054367378780524027587452397935316529491546708328027448409505778857128422607487478299598958962968246188244993) (J := []) (xs := tok2) List.nodup_nil (by intro base tb ν; unfold Runs; kernel_rfl)
theorem number_ctr15 (w : World) (t : Tok) (F : Shared → Prop) : Ctr (B w) F (numberS 15 t) := ctr_plain (n := 397) (H := 519855155848164513374662852508452053807265000068102341572249787209802630874433383472508157496676406125618671713144868609476275337038367596709139989992293985016998774909510232083137458829828150157703214418774696048210061101938845354412443073138974259800445788166801262018193420973321437162855014040722408038726882125217880117762373384643629966164868986091046850610221361008054623551799597187859451381783244970319021692372556054367378780524027587452397935316529491546708328027448409505778857128422607487478299598958962968246188244993) (J := []) (xs := tok2) List.nodup_nil (by intro base tb ν; unfold Runs; kernel_rfl)
theorem number_ctr (w : World) (t : Tok) (F : Shared → Prop) : ∀ a, a < 16 → Ctr (B w) F (numberS a t) := all16
  (number_ctr0 w t F) (number_ctr1 w t F) (number_ctr2 w t F) (number_ctr3 w t F) (number_ctr4 w t F) (number_ctr5 w t F) (number_ctr6 w t F) (number_ctr7 w t F) (number_ctr8 w t F) (number_ctr9 w t F) (number_ctr10 w t F) (number_ctr11 w t F) (number_ctr12 w t F) (number_ctr13 w t F) (number_ctr14 w t F) (number_ctr15 w t F)
theorem word_ctr (w : World) (t : Tok) (F : Shared → Prop) : ∀ a, a < 16 → Ctr (B w) F (wordS a t) := all16
  (ctr_plain (n := 82) (H := 26959948280365785789043971392817512458289824178145778230910374641665) (J := []) (xs := tok2) List.nodup_nil (by intro base tb ν; unfold Runs; kernel_rfl))
  (ctr_plain (n := 82) (H := 26959948280365785789043971392817512458289824178145778230910374641665) (J := []) (xs := tok2) List.nodup_nil (by intro base tb ν; unfold Runs; kernel_rfl))
  (ctr_plain (n := 76) (H := 26959948280365785789043971392817512458289824178145778230910374641665) (J := []) (xs := tok2) List.nodup_nil (by intro base tb ν; unfold Runs; kernel_rfl))
  (ctr_plain (n := 76) (H := 26959948280365785789043971392817512458289824178145778230910374641665) (J := []) (xs := tok2) List.nodup_nil (by intro base tb ν; unfold Runs; kernel_rfl))
  (ctr_plain (n := 82) (H := 26959948280365785789043971392817512458289824178145778230910374641665) (J := []) (xs := tok2) List.nodup_nil (by intro base tb ν; unfold Runs; kernel_rfl))
  (ctr_plain (n := 82) (H := 26959948280365785789043971392817512458289824178145778230910374641665) (J := []) (xs := tok2) List.nodup_nil (by intro base tb ν; unfold Runs; kernel_rfl))
  (ctr_plain (n := 76) (H := 26959948280365785789043971392817512458289824178145778230910374641665) (J := []) (xs := tok2) List.nodup_nil (by intro base tb ν; unfold Runs; kernel_rfl))
  (ctr_plain (n := 76) (H := 26959948280365785789043971392817512458289824178145778230910374641665) (J := []) (xs := tok2) List.nodup_nil (by intro base tb ν; unfold Runs; kernel_rfl))
  (ctr_plain (n := 82) (H := 26959948280365785789043971392817512458289824178145778230910374641665) (J := []) (xs := tok2) List.nodup_nil (by intro base tb ν; unfold Runs; kernel_rfl))
  (ctr_plain (n := 82) (H := 26959948280365785789043971392817512458289824178145778230910374641665) (J := []) (xs := tok2) List.nodup_nil (by intro base tb ν; unfold Runs; kernel_rfl))
  (ctr_plain (n := 76) (H := 26959948280365785789043971392817512458289824178145778230910374641665) (J := []) (xs := tok2) List.nodup_nil (by intro base tb ν; unfold Runs; kernel_rfl))
  (ctr_plain (n := 76) (H := 26959948280365785789043971392817512458289824178145778230910374641665) (J := []) (xs := tok2) List.nodup_nil (by intro base tb ν; unfold Runs; kernel_rfl))
  (ctr_plain (n := 82) (H := 26959948280365785789043971392817512458289824178145778230910374641665) (J := []) (xs := tok2) List.nodup_nil (by intro base tb ν; unfold Runs; kernel_rfl))
  (ctr_plain (n := 82) (H := 26959948280365785789043971392817512458289824178145778230910374641665) (J := []) (xs := tok2) List.nodup_nil (by intro base tb ν; unfold Runs; kernel_rfl))
  (ctr_plain (n := 76) (H := 26959948280365785789043971392817512458289824178145778230910374641665) (J := []) (xs := tok2) List.nodup_nil (by intro base tb ν; unfold Runs; kernel_rfl))
  (ctr_plain (n := 76) (H := 26959948280365785789043971392817512458289824178145778230910374641665) (J := []) (xs := tok2) List.nodup_nil (by intro base tb ν; unfold Runs; kernel_rfl))
theorem name_ctr0 (w : World) (t : Tok) (F : Shared → Prop) : Ctr (B w) F (nameS 0 t) := ctr_plain (n := 38) (H := 36965827225057230849) (J := []) (xs := tok2) List.nodup_nil (by intro base tb ν; unfold Runs; kernel_rfl)
theorem name_ctr1 (w : World) (t : Tok) (F : Shared → Prop) : Ctr (B w) F (nameS 1 t) := ctr_plain (n := 443) (H := 7872013244880408119418213639572577516484912733048522280488688577674547772704738036653019027533251568148010400625610084379026935305126163542114589131932536392560782291688532759711289481542828413453356356593096877424638738030732457739748727041162440769183754017850417804837221731737290910649503840120575030617772366297912971329446164511171681678687763122708455289761112934211373851186101360081989414549373371530613921908415038961182150819662918711715644648796456686258162670030976950396730333715616507231739805196751053340410121141560847921259863408721906892058662419482560589166995565051120918799307317188843737301361401012201889357864644031520926991378693971172699902065046265897418753) (J := []) (xs := tok2) List.nodup_nil (by intro base tb ν; unfold Runs; kernel_rfl)
theorem name_ctr2 (w : World) (t : Tok) (F : Shared → Prop) : Ctr (B w) F (nameS 2 t) := ctr_plain (n := 443) (H := 7872013244880408119418213639572577516484912733048522280488688577674547772704738036653019027533251568148010400625610084379026935305126163542114589131932536392560782291688532759711289481542828413453356356593096877424638738030732457739748727041162440769183754017850417804837221731737290910649503840120575030617772366297912971329446164511313175422764682172193678464328038472317130649911534688016999247414201315534142273521372429086514575788639663100403257226386822750234954481740903593464576563448395565365347187500454530879779452448144581830456917623108000561163580936324705532564031277077731823518213457958183516472649237630158025143649413472265727420717706275575217224571411955934298113) (J := []) (xs := tok2) List.nodup_nil (by intro base tb ν; unfold Runs; kernel_rfl)
theorem name_ctr3 (w : World) (t : Tok) (F : Shared → Prop) : Ctr (B w) F (nameS 3 t) := ctr_plain (n := 452) (H := 567238334660784241366317601452757488372433936243719515892057481071459056637133572073588215111207222880536068704674934464752164260563380555824260567896462584027602267311598094924071657121716789361715667605145036874188540190452421841583358125424798820293569077511526353540105263708629259358613362485345406682640412399583206706906672077366482244494913218894361980636396095454220165799863405459528690177366782596999110070334758782922966299817889949564313814630204074960330679168021782877393671465985809006334725098668544326681754964462641901263705835555258678546289650179286072262812132297003283516857833906266372717494629540235867352569127339126952080096142612041822938857006145821949942141234749131194369) (J := []) (xs := tok2) List.nodup_nil (by intro base tb ν; unfold Runs; kernel_rfl)
theorem name_ctr4 (w : World) (t : Tok) (F : Shared → Prop) : Ctr (B w) F (nameS 4 t) := ctr_plain (n := 443) (H := 7872013244880408119418213639572577516484912733048522280488688577674547772704738036653019027533251568148010400625610084379026935305126163542114589131932536392560782291688532759711289481542828415178777803666940842718685606995142271242122968351903142936926777898092376576316494594958693559540198156176948653963435656345022687665017541649742376337186261766573517166081671661714230505759736972899164398594992826794883400295819384643140914443227004366596787438016348062476963059750549161695948023383058524963605754174169142236135802989496631707551253794672044399477907594173186024888285430680080036578834591200308900315225429309085194808962426695097532728521045091352560173523568023046193153) (J := []) (xs := tok2) List.nodup_nil (by intro base tb ν; unfold Runs; kernel_rfl)
theorem name_ctr5 (w : World) (t : Tok) (F : Shared → Prop) : Ctr (B w) F (nameS 5 t) := ctr_plain (n := 452) (H := 567238334660784241366317601452757488372433936243719515892057481071459056637133572073588215111207222880536068704674934464752164260563380555824260567896462584027602267311598094924071657121716789486045385782726247562341201280919895459635680926142166248854045253019524714636386163901159110025701677387199983360941050592844502662526656435382001117268938018958192227467390965811156379364960773251659926458165405309487407190991055849827501586043218972468647926000885665803339654779853069175109978683708109000532904916278338891918250852881824978901085312312576742723311119474688922457604420260217731285769601387924949785371948736658843573003450568581531222735599082752372846662482186748444269879600169047031809) (J := []) (xs := tok2) List.nodup_nil (by intro base tb ν; unfold Runs; kernel_rfl)
theorem name_ctr6 (w : World) (t : Tok) (F : Shared → Prop) : Ctr (B w) F (nameS 6 t) := ctr_plain (n := 452) (H := 567238334660784241366317601452757488372433936243719515892057481071459056637133572073588215111207222880536068704674934464752164260563380555824260567896462584027602267311598094924071657121716789486045385782726247562341201280919895459635680926142166248854045253019524714636386163901159110025701677387199983360941050592844502662526656435382001117268938019099685971544310015296379553931886311357416725183598733244497240055818999853355853199000609097801072894977630054490952232370219133151901790393634752068379134649057397025525633156585302518270416618896310651920365333860782591562522937102362674682805313414535854504278089505998622744291287186537667008520368523497173276001494491150961592385965859083911169) (J := []) (xs := tok2) List.nodup_nil (by intro base tb ν; unfold Runs; kernel_rfl)
theorem name_ctr7 (w : World) (t : Tok) (F : Shared → Prop) : Ctr (B w) F (nameS 7 t) := ctr_plain (n := 461) (H := 40873829641737097839732925416886855821174258412182244424106299996414820741181086787001935072726476029285278973228279989160232578092300629295214125016639716982552536484812128043261400897785991670495345676057262445053222994437438865898719100209248891323568566487604487657862911952754296975362014085157608772863813869667485544646433178534384094990868198519154193241415111241190718991445072231187455648529507657139405862241106501932915061359277281479146369253119539040753186771936256836086479128218442533169117606450065080534354612159100915740057547682517077125382079166733151576050299571791301554013981901325721687859076515879901469492578351001389966416596928954583037011147577648433184038684973801050941294790735543926785) (J := []) (xs := tok2) List.nodup_nil (by intro base tb ν; unfold Runs; kernel_rfl)
theorem name_ctr8 (w : World) (t : Tok) (F : Shared → Prop) : Ctr (B w) F (nameS 8 t) := ctr_plain (n := 443) (H := 7872013244880408119418213639572577516484912733048543320847677198353902137820197283810281976591202357991178080388988687399502017024543678999203998308851160953031325566369070256108909547658486973596038722006025448879014510384621621978993969413145268205323440477591414251039767079487574032450189198784378821565900879572569926418771565033572417823796902713780741612309833796769203001062190049211827522392797996231185143859303533134636165126525312566927576299915135926601884576018315491305705061531277211133085613238950443878110441338299995131183862544327425498609438503712747389556247684782947804985106572552526813582316986489273192642285158530228630893137296504119656421255487068749955073) (J := []) (xs := tok2) List.nodup_nil (by intro base tb ν; unfold Runs; kernel_rfl)
theorem name_ctr9 (w : World) (t : Tok) (F : Shared → Prop) : Ctr (B w) F (nameS 9 t) := ctr_plain (n := 452) (H := 567238334660784241366317601452757488372433936243721032009703895368381115090605926510211693782456574434075586895307599704822650185347975390168771119602236861184399393095513640748581673021101235351052122029973293850758107548858382773123088239056316615648036403811790535721134207931205556920950179207222761785979327568590045637265854936669634770358693268793339087245229691839297929968620197512240563812949191248792878497029918453827617533708479457875049077841731929592190479269046889915026829989628732830181896634985686872325237763990237123232213483272370306049774042736211722129972662080886144801304081010354544886419360197224414651420410499918686071443676935652753332783812239574449761306254006108028929) (J := []) (xs := tok2) List.nodup_nil (by intro base tb ν; unfold Runs; kernel_rfl)
theorem name_ctr10 (w : World) (t : Tok) (F : Shared → Prop) : Ctr (B w) F (nameS 10 t) := ctr_plain (n := 452) (H := 567238334660784241366317601452757488372433936243721032009703895368381115090605926510211693782456574434075586895307599704822650185347975390168771119602236861184399393095513640748581673021101235351052122029973293850758107548858382773123088239056316615648036403811790535721134207931205556920950179207222761785979327568590045637265854936669634770358693268934832831322148741324521104535545735617997362538382519183802711361857862457355969146665869583207474046818476318279803056859412953891818641699555375898028126367764745005932620067693714662601544789856104215246828257122305391234891178923031088198339793036965449605325500966564193822708247117874821857228446376397553762122824543976967083812619696144908289) (J := []) (xs := tok2) List.nodup_nil (by intro base tb ν; unfold Runs; kernel_rfl)
theorem name_ctr11 (w : World) (t : Tok) (F : Shared → Prop) : Ctr (B w) F (nameS 11 t) := ctr_plain (n := 461) (H := 40873829641737097839732925416886855821174258412182353671896179056591287550948810423231806866528592631434009283728650603572295710977961526967039049143119605457981795729365709526288637523834464034941815585989913856157641476844719563956515219238610016679100931077125378085479733458855282036979174873283455092492888925092338294316093106256734815434079914656978211965073005007058616838490904869066481428453901398568236882533982411819016586626375611096431097567422508610613000488366494143045563117997879622965163655917043226494903526693670421538296927859314264111333742790223150156421091367913250547947313191998753494147553713154722155481287316113599985210255030923160036013424058788226734860138632185013100429123942407471105) (J := []) (xs := tok2) List.nodup_nil (by intro base tb ν; unfold Runs; kernel_rfl)
theorem name_ctr12 (w : World) (t : Tok) (F : Shared → Prop) : Ctr (B w) F (nameS 12 t) := ctr_plain (n := 452) (H := 567238334660784241366317601452757488372433936243721032009703895368381115090605926510211693782456574434075586895307599704822650185347975390168771119602236861184399393095513640748581673021101235351052122029973295576179554622702348067169957203466130118022277714552492703464158088173164328400223042428625410676673643624963668982929144983779351105930070407364033745743728335704359806289178925015097218386584804065967862542649373718097095921112825139833812701405817584473333268488938266133827219709200944129399586302427704604191186741408326018957895331208154092341164428686349229549217836771511580522593946639313662665946634208689577665284438796801991522541459599229359069926163359754310032764775763256803329) (J := []) (xs := tok2) List.nodup_nil (by intro base tb ν; unfold Runs; kernel_rfl)
theorem name_ctr13 (w : World) (t : Tok) (F : Shared → Prop) : Ctr (B w) F (nameS 13 t) := ctr_plain (n := 461) (H := 40873829641737097839732925416886855821174258412182353671896179056591287550948810423231806866528592631434009283728650603572295710977961526967039049143119605457981795729365709526288637523834464034941815585989913980487359654425930252109176309706083634731423731794492806645955908966853643133260075065813305759581203826946914972616731299518030771054064272672497084739097805070888863669485775226002694993551269190699473163332605124307313707282672678000966383792751531514947111859048084986054538729829165920681470873639343220693083344303464986774792816278497341748713219547541214333442560663316100742739601155213201263059321194813299223358606512536576205644578260377739178652880529498776642665614673111507428167489362323308545) (J := []) (xs := tok2) List.nodup_nil (by intro base tb ν; unfold Runs; kernel_rfl)
theorem name_ctr14 (w : World) (t : Tok) (F : Shared → Prop) : Ctr (B w) F (nameS 14 t) := ctr_plain (n := 461) (H := 40873829641737097839732925416886855821174258412182353671896179056591287550948810423231806866528592631434009283728650603572295710977961526967039049143119605457981795729365709526288637523834464034941815585989913980487359654425930252109176309706083634731423731794492806645955908966853643133260075065813305759581203826946914972616731299518030771054064272672497084739097805212382607746404824711225869560476807296456271888765933059317146572110616681529317996750141656847372080835792473673667116320195229897473282583565986288539313077082523120382175119981974881118044526131275123530496775049409769847658117997358144660095033221424203942264747281876355376932414878333874964437649970243577072004626977514024750673855052360187905) (J := []) (xs := tok2) List.nodup_nil (by intro base tb ν; unfold Runs; kernel_rfl)
theorem name_ctr15 (w : World) (t : Tok) (F : Shared → Prop) : Ctr (B w) F (nameS 15 t) := ctr_plain (n := 470) (H := 2945269823099717245600459783813442453003169302742845412758618011008201300186458428650188928083198401225320482254250603696733535448242697756857573390569091588932531532213152412155694921013294894168631187629708254970110038208033810960849469541679937968769749216353270585597480953162689648433993483627026064673126844191214344200735208066611794237437417340709292172122523964456027975487407772801427372824389488818396155138635272415166292985703478816897749724291382055982838119641804786359557009727933149785711609310522135728538054487502995643050390119150046582175935276177418642511126284041008459276202217698638653810524657132806721285240955940636046153376865034922452105928593422689494709785132483957190437250560638641351066798173905223681) (J := []) (xs := tok2) List.nodup_nil (by intro base tb ν; unfold Runs; kernel_rfl)
theorem name_ctr (w : World) (t : Tok) (F : Shared → Prop) : ∀ a, a < 16 → Ctr (B w) F (nameS a t) := all16
  (name_ctr0 w t F) (name_ctr1 w t F) (name_ctr2 w t F) (name_ctr3 w t F) (name_ctr4 w t F) (name_ctr5 w t F) (name_ctr6 w t F) (name_ctr7 w t F) (name_ctr8 w t F) (name_ctr9 w t F) (name_ctr10 w t F) (name_ctr11 w t F) (name_ctr12 w t F) (name_ctr13 w t F) (name_ctr14 w t F) (name_ctr15 w t F)
theorem convP_ctr (w : World) (p : Value × Tok) (F : Shared → Prop) : ∀ a, a < 16 → Ctr (B w) F (convS (P a) true p) := all16
  (ctr_plain (n := 59) (H := 115792089237316606799710315685810076380718780188059292823878241471746201878529) (J := []) (xs := fun _ => []) List.nodup_nil (by intro base tb ν; unfold Runs; kernel_rfl))
  (ctr_plain (n := 59) (H := 115792089237316606799710315685810076380718780188059292823878241471746201878529) (J := []) (xs := fun _ => []) List.nodup_nil (by intro base tb ν; unfold Runs; kernel_rfl))
  (ctr_plain (n := 59) (H := 115792089237316606799710315685810076380718780188059292823878241471746201878529) (J := []) (xs := fun _ => []) List.nodup_nil (by intro base tb ν; unfold Runs; kernel_rfl))
  (ctr_plain (n := 59) (H := 115792089237316606799710315685810076380718780188059292823878241471746201878529) (J := []) (xs := fun _ => []) List.nodup_nil (by intro base tb ν; unfold Runs; kernel_rfl))
  (ctr_plain (n := 59) (H := 115792089237316606799710315685810076380718780188059292823878241471746201878529) (J := []) (xs := fun _ => []) List.nodup_nil (by intro base tb ν; unfold Runs; kernel_rfl))
  (ctr_plain (n := 59) (H := 115792089237316606799710315685810076380718780188059292823878241471746201878529) (J := []) (xs := fun _ => []) List.nodup_nil (by intro base tb ν; unfold Runs; kernel_rfl))
  (ctr_plain (n := 59) (H := 115792089237316606799710315685810076380718780188059292823878241471746201878529) (J := []) (xs := fun _ => []) List.nodup_nil (by intro base tb ν; unfold Runs; kernel_rfl))
  (ctr_plain (n := 59) (H := 115792089237316606799710315685810076380718780188059292823878241471746201878529) (J := []) (xs := fun _ => []) List.nodup_nil (by intro base tb ν; unfold Runs; kernel_rfl))
  (ctr_plain (n := 59) (H := 115792089237316606799710315685810076380718780188059292823878241471746201878529) (J := []) (xs := fun _ => []) List.nodup_nil (by intro base tb ν; unfold Runs; kernel_rfl))
  (ctr_plain (n := 59) (H := 115792089237316606799710315685810076380718780188059292823878241471746201878529) (J := []) (xs := fun _ => []) List.nodup_nil (by intro base tb ν; unfold Runs; kernel_rfl))
  (ctr_plain (n := 59) (H := 115792089237316606799710315685810076380718780188059292823878241471746201878529) (J := []) (xs := fun _ => []) List.nodup_nil (by intro base tb ν; unfold Runs; kernel_rfl))
  (ctr_plain (n := 59) (H := 115792089237316606799710315685810076380718780188059292823878241471746201878529) (J := []) (xs := fun _ => []) List.nodup_nil (by intro base tb ν; unfold Runs; kernel_rfl))
  (ctr_plain (n := 59) (H := 115792089237316606799710315685810076380718780188059292823878241471746201878529) (J := []) (xs := fun _ => []) List.nodup_nil (by intro base tb ν; unfold Runs; kernel_rfl))
  (ctr_plain (n := 59) (H := 115792089237316606799710315685810076380718780188059292823878241471746201878529) (J := []) (xs := fun _ => []) List.nodup_nil (by intro base tb ν; unfold Runs; kernel_rfl))
  (ctr_plain (n := 59) (H := 115792089237316606799710315685810076380718780188059292823878241471746201878529) (J := []) (xs := fun _ => []) List.nodup_nil (by intro base tb ν; unfold Runs; kernel_rfl))
  (ctr_plain (n := 59) (H := 115792089237316606799710315685810076380718780188059292823878241471746201878529) (J := []) (xs := fun _ => []) List.nodup_nil (by intro base tb ν; unfold Runs; kernel_rfl))
theorem convPL_ctr (w : World) (p : Value × Tok) (F : Shared → Prop) : ∀ a, a < 16 → Ctr (B w) F (convS (PL a) true p) := all16
  (ctr_plain (n := 59) (H := 115792089237316606799710315685810076380718780188059292823878241471746201878529) (J := []) (xs := fun _ => []) List.nodup_nil (by intro base tb ν; unfold Runs; kernel_rfl))
  (ctr_plain (n := 59) (H := 115792089237316606799710315685810076380718780188059292823878241471746201878529) (J := []) (xs := fun _ => []) List.nodup_nil (by intro base tb ν; unfold Runs; kernel_rfl))
  (ctr_plain (n := 59) (H := 115792089237316606799710315685810076380718780188059292823878241471746201878529) (J := []) (xs := fun _ => []) List.nodup_nil (by intro base tb ν; unfold Runs; kernel_rfl))
  (ctr_plain (n := 59) (H := 115792089237316606799710315685810076380718780188059292823878241471746201878529) (J := []) (xs := fun _ => []) List.nodup_nil (by intro base tb ν; unfold Runs; kernel_rfl))
  (ctr_plain (n := 59) (H := 115792089237316606799710315685810076380718780188059292823878241471746201878529) (J := []) (xs := fun _ => []) List.nodup_nil (by intro base tb ν; unfold Runs; kernel_rfl))
  (ctr_plain (n := 59) (H := 115792089237316606799710315685810076380718780188059292823878241471746201878529) (J := []) (xs := fun _ => []) List.nodup_nil (by intro base tb ν; unfold Runs; kernel_rfl))
  (ctr_plain (n := 59) (H := 115792089237316606799710315685810076380718780188059292823878241471746201878529) (J := []) (xs := fun _ => []) List.nodup_nil (by intro base tb ν; unfold Runs; kernel_rfl))
  (ctr_plain (n := 59) (H := 115792089237316606799710315685810076380718780188059292823878241471746201878529) (J := []) (xs := fun _ => []) List.nodup_nil (by intro base tb ν; unfold Runs; kernel_rfl))
  (ctr_plain (n := 59) (H := 115792089237316606799710315685810076380718780188059292823878241471746201878529) (J := []) (xs := fun _ => []) List.nodup_nil (by intro base tb ν; unfold Runs; kernel_rfl))
  (ctr_plain (n := 59) (H := 115792089237316606799710315685810076380718780188059292823878241471746201878529) (J := []) (xs := fun _ => []) List.nodup_nil (by intro base tb ν; unfold Runs; kernel_rfl))
  (ctr_plain (n := 59) (H := 115792089237316606799710315685810076380718780188059292823878241471746201878529) (J := []) (xs := fun _ => []) List.nodup_nil (by intro base tb ν; unfold Runs; kernel_rfl))
  (ctr_plain (n := 59) (H := 115792089237316606799710315685810076380718780188059292823878241471746201878529) (J := []) (xs := fun _ => []) List.nodup_nil (by intro base tb ν; unfold Runs; kernel_rfl))
  (ctr_plain (n := 59) (H := 115792089237316606799710315685810076380718780188059292823878241471746201878529) (J := []) (xs := fun _ => []) List.nodup_nil (by intro base tb ν; unfold Runs; kernel_rfl))
  (ctr_plain (n := 59) (H := 115792089237316606799710315685810076380718780188059292823878241471746201878529) (J := []) (xs := fun _ => []) List.nodup_nil (by intro base tb ν; unfold Runs; kernel_rfl))
  (ctr_plain (n := 59) (H := 115792089237316606799710315685810076380718780188059292823878241471746201878529) (J := []) (xs := fun _ => []) List.nodup_nil (by intro base tb ν; unfold Runs; kernel_rfl))
  (ctr_plain (n := 59) (H := 115792089237316606799710315685810076380718780188059292823878241471746201878529) (J := []) (xs := fun _ => []) List.nodup_nil (by intro base tb ν; unfold Runs; kernel_rfl))
theorem convW_ctr (w : World) (p : Value × Tok) (F : Shared → Prop) : ∀ a, a < 16 → Ctr (B w) F (convS (W a) false p) := all16
  (ctr_plain (n := 58) (H := 115792089237316606799710315685810076380718780188059292823878241471746201878529) (J := []) (xs := fun _ => []) List.nodup_nil (by intro base tb ν; unfold Runs; kernel_rfl))
  (ctr_plain (n := 58) (H := 115792089237316606799710315685810076380718780188059292823878241471746201878529) (J := []) (xs := fun _ => []) List.nodup_nil (by intro base tb ν; unfold Runs; kernel_rfl))
  (ctr_plain (n := 58) (H := 115792089237316606799710315685810076380718780188059292823878241471746201878529) (J := []) (xs := fun _ => []) List.nodup_nil (by intro base tb ν; unfold Runs; kernel_rfl))
  (ctr_plain (n := 58) (H := 115792089237316606799710315685810076380718780188059292823878241471746201878529) (J := []) (xs := fun _ => []) List.nodup_nil (by intro base tb ν; unfold Runs; kernel_rfl))
  (ctr_plain (n := 58) (H := 115792089237316606799710315685810076380718780188059292823878241471746201878529) (J := []) (xs := fun _ => []) List.nodup_nil (by intro base tb ν; unfold Runs; kernel_rfl))
  (ctr_plain (n := 58) (H := 115792089237316606799710315685810076380718780188059292823878241471746201878529) (J := []) (xs := fun _ => []) List.nodup_nil (by intro base tb ν; unfold Runs; kernel_rfl))
  (ctr_plain (n := 58) (H := 115792089237316606799710315685810076380718780188059292823878241471746201878529) (J := []) (xs := fun _ => []) List.nodup_nil (by intro base tb ν; unfold Runs; kernel_rfl))
  (ctr_plain (n := 58) (H := 115792089237316606799710315685810076380718780188059292823878241471746201878529) (J := []) (xs := fun _ => []) List.nodup_nil (by intro base tb ν; unfold Runs; kernel_rfl))
  (ctr_plain (n := 58) (H := 115792089237316606799710315685810076380718780188059292823878241471746201878529) (J := []) (xs := fun _ => []) List.nodup_nil (by intro base tb ν; unfold Runs; kernel_rfl))
  (ctr_plain (n := 58) (H := 115792089237316606799710315685810076380718780188059292823878241471746201878529) (J := []) (xs := fun _ => []) List.nodup_nil (by intro base tb ν; unfold Runs; kernel_rfl))
  (ctr_plain (n := 58) (H := 115792089237316606799710315685810076380718780188059292823878241471746201878529) (J := []) (xs := fun _ => []) List.nodup_nil (by intro base tb ν; unfold Runs; kernel_rfl))
  (ctr_plain (n := 58) (H := 115792089237316606799710315685810076380718780188059292823878241471746201878529) (J := []) (xs := fun _ => []) List.nodup_nil (by intro base tb ν; unfold Runs; kernel_rfl))
  (ctr_plain (n := 58) (H := 115792089237316606799710315685810076380718780188059292823878241471746201878529) (J := []) (xs := fun _ => []) List.nodup_nil (by intro base tb ν; unfold Runs; kernel_rfl))
  (ctr_plain (n := 58) (H := 115792089237316606799710315685810076380718780188059292823878241471746201878529) (J := []) (xs := fun _ => []) List.nodup_nil (by intro base tb ν; unfold Runs; kernel_rfl))
  (ctr_plain (n := 58) (H := 115792089237316606799710315685810076380718780188059292823878241471746201878529) (J := []) (xs := fun _ => []) List.nodup_nil (by intro base tb ν; unfold Runs; kernel_rfl))
  (ctr_plain (n := 58) (H := 115792089237316606799710315685810076380718780188059292823878241471746201878529) (J := []) (xs := fun _ => []) List.nodup_nil (by intro base tb ν; unfold Runs; kernel_rfl))
end Mine
end
section
open PySem PySem.Spec PySem.Calls PySem.W PySem.W.X PyProof.Rows
set_option Elab.async false
set_option maxRecDepth 100000
set_option maxHeartbeats 0
namespace Mine
/-! ## facts of the sixteen -/
section
variable {w : World} {T₀ : CT} {s₀ : Shared}
theorem lowP_ok {a : Nat} (h : a < 16) : OracleOk (B w) T₀ s₀ (lowerQ (P a) (PL a)) := by
  refine all16 (p := fun a => OracleOk (B w) T₀ s₀ (lowerQ (P a) (PL a))) ?_ ?_ ?_ ?_ ?_ ?_ ?_ ?_ ?_ ?_ ?_ ?_ ?_ ?_ ?_ ?_ a h <;> exact lower_fact _ _ (by kernel_rfl) (by decide)
theorem lowPL_ok {a : Nat} (h : a < 16) : OracleOk (B w) T₀ s₀ (lowerQ (PL a) (PL a)) := by
  refine all16 (p := fun a => OracleOk (B w) T₀ s₀ (lowerQ (PL a) (PL a))) ?_ ?_ ?_ ?_ ?_ ?_ ?_ ?_ ?_ ?_ ?_ ?_ ?_ ?_ ?_ ?_ a h <;> exact lower_fact _ _ (by kernel_rfl) (by decide)
theorem PL_inj : ∀ a, a < 16 → ∀ b, b < 16 → ((PL a).cps.toList == (PL b).cps.toList) = (a == b) := by decide +kernel
theorem P_inj : ∀ a, a < 16 → ∀ b, b < 16 → ((P a).cps.toList == (P b).cps.toList) = (a == b) := by decide +kernel
theorem W_inj : ∀ a, a < 16 → ∀ b, b < 16 → ((W a).cps.toList == (W b).cps.toList) = (a == b) := by decide +kernel
theorem convP_ok {a : Nat} (h : a < 16) : OracleOk (B w) T₀ s₀ (convQ (P a) true) :=
  lift_ok (F := fun _ => True) List.nodup_nil (fun _ _ _ => trivial) (fun p => convP_ctr w p _ a h) (fun _ => Nat.le_refl _) (fun _ => Nat.le_refl _)
theorem convPL_ok {a : Nat} (h : a < 16) : OracleOk (B w) T₀ s₀ (convQ (PL a) true) :=
  lift_ok (F := fun _ => True) List.nodup_nil (fun _ _ _ => trivial) (fun p => convPL_ctr w p _ a h) (fun _ => Nat.le_refl _) (fun _ => Nat.le_refl _)
theorem convW_ok {a : Nat} (h : a < 16) : OracleOk (B w) T₀ s₀ (convQ (W a) false) :=
  lift_ok (F := fun _ => True) List.nodup_nil (fun _ _ _ => trivial) (fun p => convW_ctr w p _ a h) (fun _ => Nat.le_refl _) (fun _ => Nat.le_refl _)
theorem pretty_ok {a : Nat} (h : a < 16) : OracleOk (B w) T₀ s₀ (prettyQ a) :=
  lift_ok (F := fun _ => True) List.nodup_nil (fun _ _ _ => trivial) (fun p => pretty_ctr w p _ a h) (fun _ => Nat.le_refl _) (fun _ => Nat.le_refl _)
theorem number_ok {a : Nat} (h : a < 16) : OracleOk (B w) T₀ s₀ (numberQ a) :=
  lift_ok (F := fun _ => True) List.nodup_nil (fun _ _ _ => trivial) (fun p => number_ctr w p _ a h) (fun _ => Nat.le_refl _) (fun _ => Nat.le_refl _)
theorem word_ok {a : Nat} (h : a < 16) : OracleOk (B w) T₀ s₀ (wordQ a) :=
  lift_ok (F := fun _ => True) List.nodup_nil (fun _ _ _ => trivial) (fun p => word_ctr w p _ a h) (fun _ => Nat.le_refl _) (fun _ => Nat.le_refl _)
theorem name_ok {a : Nat} (h : a < 16) : OracleOk (B w) T₀ s₀ (nameQ a) :=
  lift_ok (F := fun _ => True) List.nodup_nil (fun _ _ _ => trivial) (fun p => name_ctr w p _ a h) (fun _ => Nat.le_refl _) (fun _ => Nat.le_refl _)
end

/-! ## the loop of get -/
noncomputable def kvOf (e : Ent) : List (Str × Value) := [("k", .str (P e.a) e.tn), ("v", .str (W e.a) e.tw)]
noncomputable def KV (kv : List (Str × Value)) : Prop := kv = [] ∨ ∃ p q : Value, kv = [(("k" : Str), p), (("v" : Str), q)]
theorem KV.of (e : Ent) : KV (kvOf e) := .inr ⟨_, _, rfl⟩
structure GL where
  f : Addr
  it : Addr
  aB : Addr
  aL : Addr
  n : Nat
  tn : Tok
  g : Nat → Nat
noncomputable def gBase (x : GL) (q : Nat) : List (Str × Value) := [("self", .ref x.aB), ("name", .str (PL q) x.tn), ("default", .none)]
noncomputable def gWalk (q : Nat) (aL : Addr) : List Ent → Nat → List (Str × Value) → Result × Obj × List (Str × Value)
  | [], i, kv => (.ok .next, iterEnd i, kv)
  | e :: r, i, _ => if e.a = q then (.ok (.ret (.str (W q) e.tw)), iterObj aL (i + 1), kvOf e) else gWalk q aL r (i + 1) (kvOf e)
noncomputable def gLoopS (w : World) (es : List Ent) (q : Nat) (i : Nat) (kv : List (Str × Value)) (o : Result × Obj × List (Str × Value)) (x : GL) : Job where
  code := forCode w 175 0 x.f x.it
  pre := [(x.f, frm w x.g (gBase x q ++ kv)), (x.it, iterObj x.aL i), (x.aL, lst (vals es) x.n)]
  post := fun ν => [frm w (fun i => ν (i + 2)) (gBase x q ++ o.2.2), o.2.1, lst (vals es) x.n]
  new := fun _ => []
  r := fun _ => o.1
  d := 700
  u := 6000
theorem gLoop_ctr (w : World) (es : List Ent) (h16 : ∀ e ∈ es, e.a < 16) {q : Nat} (hq : q < 16) : ∀ (rest : List Ent) (i : Nat) (kv : List (Str × Value)) (x : GL), KV kv → es.drop i = rest → Ctr (B w) (Tups w es) (gLoopS w es q i kv (gWalk q x.aL rest i kv) x)
  | [], i, kv, x, hk, hd => by
    have hx : (vals es)[i]? = none := by
      have : es.length ≤ i := by simpa using hd
      simp [vals, this]
    rcases hk with rfl | ⟨p, r, rfl⟩
    · exact ctr_of_run (V := B w) (n := 10) (H := 5514771563008) (J := [0, 1, 2]) (xs := xsK 0 6) (orc := fun j => [endQ (vals es) i 1 2][j]?) (nodupB rfl) (fun s _ _ => mk_ok (by simp only [List.mem_singleton, forall_eq]; exact endQ_ok hx (by decide))) (by intro base tb ν; unfold Runs; kernel_rfl)
    · exact ctr_of_run (V := B w) (n := 10) (H := 5514771563008) (J := [0, 1, 2]) (xs := xsK 0 6) (orc := fun j => [endQ (vals es) i 1 2][j]?) (nodupB rfl) (fun s _ _ => mk_ok (by simp only [List.mem_singleton, forall_eq]; exact endQ_ok hx (by decide))) (by intro base tb ν; unfold Runs; kernel_rfl)
  | e :: r, i, kv, x, hk, hd => by
    have hi : es[i]? = some e := by
      have h0 : (es.drop i)[0]? = some e := by rw [hd]; rfl
      rw [List.getElem?_drop] at h0
      exact h0
    have hx : (vals es)[i]? = some (.ref e.ta) := by simp [vals, hi]
    have he : e ∈ es := List.mem_of_getElem? hi
    have ha := h16 e he
    have ok : ∀ b, ((PL e.a).cps.toList == (PL q).cps.toList) = b → ∀ T s, Par.Ok ⟨(B w).prog, (B w).w, (B w).kt, fun j => [nextQ (vals es) i (.ref e.ta) 1 2, lowerQ (P e.a) (PL e.a), eqQ (PL e.a) (PL q) b][j]?⟩ T s := fun b hb T s => mk_ok (by
      intro Q hQ
      simp only [List.mem_cons, List.not_mem_nil, or_false] at hQ
      rcases hQ with rfl | rfl | rfl
      · exact nextQ_ok hx (by decide)
      · exact lowP_ok ha
      · exact eqQ_ok hb)
    have hn : ∀ kv o, noTup (gLoopS w es q i kv o x).pre := fun kv o p hp => by
      simp only [gLoopS, List.mem_cons, List.not_mem_nil, or_false] at hp
      rcases hp with rfl | rfl | rfl <;> exact fun h => absurd h (by simp [frm, iterObj, lst])
    by_cases hqa : e.a = q
    · obtain rfl : e.a = q := hqa
      have hw : gWalk e.a x.aL (e :: r) i kv = (.ok (.ret (.str (W e.a) e.tw)), iterObj x.aL (i + 1), kvOf e) := by rw [gWalk, if_pos rfl]
      rw [hw]
      rcases hk with rfl | ⟨p, r, rfl⟩
      · exact ctr_of_run_x (V := B w) (n := 87) (H := 2905758009342909240879024057782634947737587127678918821964537383314516307774382734363233267193521784698470593480261507761283874685440) (J := [0, 1, 2]) (K := [3]) (xs := xsK 0 6) [(e.ta, e.obj)] (nodupB rfl) rfl (fun s hT hS => hT.has hS (hn _ _) he) (fun s _ _ => ok true (by simp) _ _) (by intro base tb ν; unfold Runs; kernel_rfl)
      · exact ctr_of_run_x (V := B w) (n := 87) (H := 2905758009342909240879024057782634947737587127678918821964537383314516307774382734363233267193521784698470593480261507761283874685440) (J := [0, 1, 2]) (K := [3]) (xs := xsK 0 6) [(e.ta, e.obj)] (nodupB rfl) rfl (fun s hT hS => hT.has hS (hn _ _) he) (fun s _ _ => ok true (by simp) _ _) (by intro base tb ν; unfold Runs; kernel_rfl)
    · have hw : gWalk q x.aL (e :: r) i kv = gWalk q x.aL r (i + 1) (kvOf e) := by rw [gWalk, if_neg hqa]
      rw [hw]
      have hb : ((PL e.a).cps.toList == (PL q).cps.toList) = false := by rw [PL_inj _ ha _ hq]; simpa using hqa
      have ih := fun ν : Nat → Nat => gLoop_ctr w es h16 hq r (i + 1) (kvOf e) { x with g := fun i => ν (i + 2) } (KV.of e) (by rw [← List.drop_drop, hd]; rfl)
      rcases hk with rfl | ⟨p, r', rfl⟩
      · exact ctr_turn (V := B w) (n := 84) (H := 5744971776122623657087320182345152660056498692863754994939108473863888526967343372356167059044160712670199193504738765314153412297216) (J := [0, 1, 2]) (K := [3]) (xs := xsK 0 6)
          (fun ν => gLoopS w es q (i + 1) (kvOf e) (gWalk q x.aL r (i + 1) (kvOf e)) { x with g := fun i => ν (i + 2) }) [(e.ta, e.obj)] (nodupB rfl) rfl (fun s hT hS => hT.has hS (hn _ _) he) (fun s _ _ => ok false hb _ _) (by intro base tb ν; unfold Runs; kernel_rfl)
          (fun _ => rfl) ih (fun _ => Nat.le_refl _) (fun _ => Nat.le_refl _) (fun _ _ => rfl) (fun _ _ => rfl) (fun s M s' hT hS I => hT.keep hS (hn _ _) I)
      · exact ctr_turn (V := B w) (n := 84) (H := 5744971776122623657087320182345152660056498692863754994939108473863888526967343372356167059044160712670199193504738765314153412297216) (J := [0, 1, 2]) (K := [3]) (xs := xsK 0 6)
          (fun ν => gLoopS w es q (i + 1) (kvOf e) (gWalk q x.aL r (i + 1) (kvOf e)) { x with g := fun i => ν (i + 2) }) [(e.ta, e.obj)] (nodupB rfl) rfl (fun s hT hS => hT.has hS (hn _ _) he) (fun s _ _ => ok false hb _ _) (by intro base tb ν; unfold Runs; kernel_rfl)
          (fun _ => rfl) ih (fun _ => Nat.le_refl _) (fun _ => Nat.le_refl _) (fun _ _ => rfl) (fun _ _ => rfl) (fun s M s' hT hS I => hT.keep hS (hn _ _) I)
end Mine
namespace Mine
/-! ## get -/
theorem gWalk_found {q : Nat} {aL : Addr} {e : Ent} : ∀ (es : List Ent) (i : Nat) (kv : List (Str × Value)), es.find? (fun e => e.a == q) = some e → ∃ k, gWalk q aL es i kv = (.ok (.ret (.str (W q) e.tw)), iterObj aL k, kvOf e)
  | [], _, _, h => by cases h
  | x :: es, i, kv, h => by
    rw [List.find?_cons] at h
    by_cases hx : x.a = q
    · have : (x.a == q) = true := by simpa using hx
      rw [this] at h
      cases h
      exact ⟨i + 1, by rw [gWalk, if_pos hx]⟩
    · have : (x.a == q) = false := by simpa using hx
      rw [this] at h
      rw [gWalk, if_neg hx]
      exact gWalk_found es _ _ h
theorem gWalk_none {q : Nat} {aL : Addr} : ∀ (es : List Ent) (i : Nat) (kv : List (Str × Value)), es.find? (fun e => e.a == q) = none → ∃ k kv', gWalk q aL es i kv = (.ok .next, iterEnd k, kv')
  | [], i, kv, _ => ⟨i, kv, rfl⟩
  | x :: es, i, kv, h => by
    rw [List.find?_cons] at h
    by_cases hx : x.a = q
    · have : (x.a == q) = true := by simpa using hx
      rw [this] at h
      cases h
    · have : (x.a == q) = false := by simpa using hx
      rw [this] at h
      rw [gWalk, if_neg hx]
      exact gWalk_none es _ _ h
structure Bd where
  aB : Addr
  dB : Addr
  aL : Addr
  g : Nat → Nat
noncomputable def Bd.cells (w : World) (b : Bd) (vs : List Value) (n : Nat) : List (Addr × Obj) := [(b.aB, inst 228 b.dB), (b.dB, dct w b.g [("_headers", .ref b.aL)]), (b.aL, lst vs n)]
noncomputable def valIn (o : Obj) (i : Nat) : Value := match o.data with
  | .dict es _ => match es.toList[i]? with
    | some e => e.val
    | none => .none
  | _ => .none
noncomputable def gLoopQ (w : World) (es : List Ent) (q : Nat) (b : Bd) (o : Result × Obj × List (Str × Value)) : OracleAt :=
  QF [3, 4, 2] (fun _ ps => some (GL.mk (adAt 0 ps) (adAt 1 ps) b.aB b.aL (ktoks (obAt 2 ps) 0) (tokV (valIn (obAt 0 ps) 1)) (ktoks (obAt 0 ps)))) (fun x => gLoopS w es q 0 [] o { x with aB := b.aB, aL := b.aL }) 700 6000
noncomputable def getV (q : Nat) (es : List Ent) : Value := match es.find? (fun e => e.a == q) with
  | some e => .str (W q) e.tw
  | none => .none
noncomputable def getBS (w : World) (b : Bd) (es : List Ent) (q : Nat) (x : Str) (p : Nat × Tok) : Job where
  code := .call (.ref 175) ⟨[.ref b.aB, .str x p.2], []⟩
  pre := b.cells w (vals es) p.1
  post := fun _ => (b.cells w (vals es) p.1).map Prod.snd
  new := fun _ => []
  r := fun _ => .ok (.ret (getV q es))
  d := 680
  u := 5900
theorem gLoop_ok {w : World} {es : List Ent} (h16 : ∀ e ∈ es, e.a < 16) {q : Nat} (hq : q < 16) {b : Bd} {o : Result × Obj × List (Str × Value)} (ho : gWalk q b.aL es 0 [] = o) {T₀ : CT} {s₀ : Shared} (hF : ∀ M s, Inv (B w) T₀ s₀ M s → Tups w es s) : OracleOk (B w) T₀ s₀ (gLoopQ w es q b o) :=
  lift_ok (F := Tups w es) (by decide) hF (fun x => by have := gLoop_ctr w es h16 hq es 0 [] { x with aB := b.aB, aL := b.aL } (.inl rfl) rfl; rw [ho] at this; exact this) (fun _ => Nat.le_refl _) (fun _ => Nat.le_refl _)
theorem noTup_cells {w : World} {b : Bd} {es : List Ent} {n : Nat} : noTup (b.cells w (vals es) n) := fun p hp => by
  simp only [Bd.cells, List.mem_cons, List.not_mem_nil, or_false] at hp
  rcases hp with rfl | rfl | rfl <;> exact fun h => absurd h (by simp [inst, dct, lst])
theorem boardGet_ctr (w : World) {es : List Ent} (h16 : ∀ e ∈ es, e.a < 16) {q : Nat} (hq : q < 16) {x : Str} (hx : ∀ T s, OracleOk (B w) T s (lowerQ x (PL q))) (b : Bd) (p : Nat × Tok) : Ctr (B w) (Tups w es) (getBS w b es q x p) := by
  have ok : ∀ o, gWalk q b.aL es 0 [] = o → ∀ s, Tups w es s → Sat (B w) ((getBS w b es q x p).start s) s → Par.Ok ⟨(B w).prog, (B w).w, (B w).kt, fun j => [lowerQ x (PL q), convQ (PL q) true, gLoopQ w es q b o][j]?⟩ (cellsOf (getBS w b es q x p).pre) s := fun o ho s hT hS => mk_ok (by
    intro Q hQ
    simp only [List.mem_cons, List.not_mem_nil, or_false] at hQ
    rcases hQ with rfl | rfl | rfl
    · exact hx _ _
    · exact convPL_ok hq
    · exact gLoop_ok h16 hq ho fun M s' I => hT.keep hS noTup_cells I)
  cases hf : es.find? (fun e => e.a == q) with
  | some e =>
    obtain ⟨k, hk⟩ := gWalk_found (aL := b.aL) es 0 [] hf
    have hr : getBS w b es q x p = { getBS w b es q x p with r := fun _ => .ok (.ret (.str (W q) e.tw)) } := by unfold getBS getV; rw [hf]
    have := ctr_of_run (V := B w) (S := { getBS w b es q x p with r := fun _ => .ok (.ret (.str (W q) e.tw)) }) (n := 75) (H := 17090736502254299454484963885987962212237707916061038886111144932371751242482376310243982697914650117649859565215330620934207513296897) (J := [0, 1, 2]) (xs := fun _ => []) (by decide) (ok _ hk) (by intro base tb ν; unfold Runs; kernel_rfl)
    rw [hr]; exact this
  | none =>
    obtain ⟨k, kv, hk⟩ := gWalk_none (aL := b.aL) es 0 [] hf
    have hr : getBS w b es q x p = { getBS w b es q x p with r := fun _ => .ok (.ret .none) } := by unfold getBS getV; rw [hf]
    have := ctr_of_run (V := B w) (S := { getBS w b es q x p with r := fun _ => .ok (.ret .none) }) (n := 78) (H := 2924445633684681861651780195438006099626803150665333280012071941654928903696074069615008185552968912360699945990280042355072614027755521) (J := [0, 1, 2]) (xs := fun _ => []) (by decide) (ok _ hk) (by intro base tb ν; unfold Runs; kernel_rfl)
    rw [hr]; exact this
end Mine
end
section
open PySem PySem.Spec PySem.Calls PySem.W PySem.W.X PyProof.Rows
set_option Elab.async false
set_option maxRecDepth 100000
namespace Mine
/-! ## the program's list comprehensions -/
noncomputable def appAll {α β : Type} (f : α → List β) : List α → List β
  | [] => []
  | x :: l => f x ++ appAll f l
noncomputable def compsE : Nat → Expr → List Expr
  | 0, _ => []
  | n + 1, e => match e with
    | .ListComp elt gens sc pos => .ListComp elt gens sc pos :: (compsE n elt ++ appAll (fun g => match g with | ⟨_, it, ifs, _⟩ => compsE n it ++ appAll (compsE n) ifs) gens)
    | .BinOp l _ r _ => compsE n l ++ compsE n r
    | .BoolOp _ l _ => appAll (compsE n) l
    | .IfExp a b c _ => compsE n b ++ compsE n a ++ compsE n c
    | .Call f as _ _ => compsE n f ++ appAll (compsE n) as
    | .Compare l _ rs _ => compsE n l ++ appAll (compsE n) rs
    | .Attribute v _ _ => compsE n v
    | .Subscript v i _ => compsE n v ++ compsE n i
    | .Tuple es _ _ => appAll (compsE n) es
    | .List es _ => appAll (compsE n) es
    | _ => []
noncomputable def compsS : Stmt → List Expr
  | .Assign _ v _ => compsE 40 v
  | .Return (some v) _ => compsE 40 v
  | .Expr v _ => compsE 40 v
  | .If t _ _ _ => compsE 40 t
  | .AugAssign _ _ v _ => compsE 40 v
  | _ => []
noncomputable def nthE : Nat → List Expr → Expr
  | _, [] => .Name "" default
  | 0, x :: _ => x
  | n + 1, _ :: l => nthE n l
noncomputable def theComp (w : World) (a k : Nat) : Expr := nthE k (appAll compsS (flat 30 (stmtsOf w a)))
noncomputable def cElt : Expr → Expr
  | .ListComp x _ _ _ => x
  | e => e
noncomputable def cGen : Expr → Comprehension
  | .ListComp _ (g :: _) _ _ => g
  | e => ⟨e, e, [], 0⟩
noncomputable def cRest : Expr → List Comprehension
  | .ListComp _ (_ :: r) _ _ => r
  | _ => []
noncomputable def cScope : Expr → Scope
  | .ListComp _ _ s _ => s
  | _ => default
noncomputable def cPos : Expr → Pos
  | .ListComp _ _ _ p => p
  | _ => default
noncomputable def inScope (outer : Scope) (s : Scope) : Scope := { s with names := s.names.map fun (n, k) => if (k == .free && outer.kind == .function && outer.names.lookup n == some .cell) then (n, .cell) else (n, k) }
noncomputable def compEnv (w : World) (a k : Nat) (f D : Addr) (cells : List (Str × Addr)) : Env :=
  ⟨inScope (fdOf w a).scope (cScope (theComp w a k)), D, (fdOf w a).globals, cells, (fdOf w a).qualname ++ (".<locals>." : Str), none, (fdOf w a).code, some f, (fdOf w a).builtins⟩
noncomputable def compCode (w : World) (a k : Nat) (it acc f D : Addr) (cells : List (Str × Addr)) : Code := .compLoop (theComp w a k) 0 (.ref it) (.ref acc) (compEnv w a k f D cells)
noncomputable def compHead (w : World) (a k : Nat) (it acc f D : Addr) (cells : List (Str × Addr)) : Code := .compStart (theComp w a k) 0 (.ref it) (.ref acc) (compEnv w a k f D cells)
theorem ctr_start {V : Par} {F : Shared → Prop} {S : Job} {e : Expr} {it : Addr} {acc : Value} {env : Env} {o : Obj} (i j : Nat) (he : e = .ListComp (cElt e) (cGen e :: cRest e) (cScope e) (cPos e)) (hg : (cGen e).is_async = 0)
    (hp : S.pre[j]? = some (it, o)) (ho : o.cls = .type (iterType i)) (hc : S.code = .compLoop e 0 (.ref it) acc env) (h : Ctr V F S) : Ctr V F { S with code := .compStart e 0 (.ref it) acc env } := by
  intro A s R h0 hd hu hF hS hR
  have hl := h A s R h0 hd hu hF hS hR
  rw [hc] at hl
  have hs : s.heap.get? it = some o := (hS.own j it o (by rw [show (Job.start { S with code := .compStart e 0 (.ref it) acc env } s).T = cellsOf S.pre from rfl, cellsOf_get]; exact hp)).1
  show codeAny (model V.prog V.w) A (.compStart e 0 (.ref it) acc env) R s
  revert hl
  rw [he]
  rcases hx : cGen e with ⟨target, iter, ifs, ia⟩
  rw [hx] at hg
  cases hg
  exact fun hl => codeAny_compStart_list hl (pyIter_self i hs ho hl)
end Mine
end
section
open PySem PySem.Spec PySem.Calls PySem.W PySem.W.X PyProof.Rows
set_option Elab.async false
set_option maxRecDepth 100000
set_option maxHeartbeats 0
namespace Mine
noncomputable def cellObj (v : Value) : Obj := { cls := .type "cell", data := .cell (some v) }
theorem at_of_drop {α : Type} {es r : List α} {e : α} {i : Nat} (hd : es.drop i = e :: r) : es[i]? = some e := by
  have h0 : (es.drop i)[0]? = some e := by rw [hd]; rfl
  rw [List.getElem?_drop] at h0
  exact h0
theorem drop_next {α : Type} {es r : List α} {e : α} {i : Nat} (hd : es.drop i = e :: r) : es.drop (i + 1) = r := by rw [← List.drop_drop, hd]; rfl
/-! ## the loop of __delitem__ -/
noncomputable def Kv1 (kv : List (Str × Value)) : Prop := kv = [] ∨ ∃ p : Value, kv = [(("kv" : Str), p)]
structure DL where
  D : Addr
  it : Addr
  aL : Addr
  acc : Addr
  ce : Addr
  f : Addr
  na : Nat
  tk : Tok
  g : Nat → Nat
noncomputable def dWalk (q : Nat) : List Ent → Nat → List Value → Nat → List (Str × Value) → Nat × List Value × Nat × List (Str × Value)
  | [], i, ac, m, kv => (i, ac, m, kv)
  | e :: r, i, ac, m, _ => if e.a = q then dWalk q r (i + 1) ac m [(("kv" : Str), Value.ref e.ta)] else dWalk q r (i + 1) (ac ++ [Value.ref e.ta]) (m + 1) [(("kv" : Str), Value.ref e.ta)]
noncomputable def dLoopS (w : World) (es : List Ent) (q : Nat) (i : Nat) (ac : List Value) (m : Nat) (kv : List (Str × Value)) (o : Nat × List Value × Nat × List (Str × Value)) (x : DL) : Job where
  code := compCode w 146 0 x.it x.acc x.f x.D [("name", x.ce)]
  pre := [(x.D, dct w x.g kv), (x.it, iterObj x.aL i), (x.aL, lst (vals es) x.na), (x.acc, lst ac m), (x.ce, cellObj (.str (PL q) x.tk))]
  post := fun ν => [dct w (fun i => ν (i + 2)) o.2.2.2, iterEnd o.1, lst (vals es) x.na, lst o.2.1 o.2.2.1, cellObj (.str (PL q) x.tk)]
  new := fun _ => []
  r := fun _ => .ok .next
  d := 600
  u := 5000
theorem dLoop_noTup {w : World} {es : List Ent} {q i : Nat} {ac : List Value} {m : Nat} {kv : List (Str × Value)} {o : Nat × List Value × Nat × List (Str × Value)} {x : DL} : noTup (dLoopS w es q i ac m kv o x).pre := fun p hp => by
  simp only [dLoopS, List.mem_cons, List.not_mem_nil, or_false] at hp
  rcases hp with rfl | rfl | rfl | rfl | rfl <;> exact fun h => absurd h (by simp [dct, iterObj, lst, cellObj])
theorem dLoop_ctr (w : World) (es : List Ent) (h16 : ∀ e ∈ es, e.a < 16) {q : Nat} (hq : q < 16) : ∀ (rest : List Ent) (i : Nat) (ac : List Value) (m : Nat) (kv : List (Str × Value)) (x : DL), ac.length + rest.length ≤ 1000 → Kv1 kv → es.drop i = rest → Ctr (B w) (Tups w es) (dLoopS w es q i ac m kv (dWalk q rest i ac m kv) x)
  | [], i, ac, m, kv, x, _, hk, hd => by
    have hx : (vals es)[i]? = none := by
      have : es.length ≤ i := by simpa using hd
      simp [vals, this]
    have ok : ∀ T s, Par.Ok ⟨(B w).prog, (B w).w, (B w).kt, fun j => [endQ (vals es) i 1 2][j]?⟩ T s := fun T s => mk_ok (by simp only [List.mem_singleton, forall_eq]; exact endQ_ok hx (by decide))
    rcases hk with rfl | ⟨p, rfl⟩
    · exact ctr_of_run (V := B w) (n := 9) (H := 7713794818560) (J := [0, 1, 2, 3, 4]) (xs := xsK 0 2) (nodupB rfl) (fun s _ _ => ok _ _) (by intro base tb ν; unfold Runs; kernel_rfl)
    · exact ctr_of_run (V := B w) (n := 9) (H := 7713794818560) (J := [0, 1, 2, 3, 4]) (xs := xsK 0 2) (nodupB rfl) (fun s _ _ => ok _ _) (by intro base tb ν; unfold Runs; kernel_rfl)
  | e :: r, i, ac, m, kv, x, hl, hk, hd => by
    have hi := at_of_drop hd
    have hx : (vals es)[i]? = some (.ref e.ta) := by simp [vals, hi]
    have he : e ∈ es := List.mem_of_getElem? hi
    have ha := h16 e he
    rw [List.length_cons] at hl
    have ok : ∀ b, ((PL e.a).cps.toList == (PL q).cps.toList) = b → ∀ T s, Par.Ok ⟨(B w).prog, (B w).w, (B w).kt, fun j => [nextQ (vals es) i (.ref e.ta) 1 2, lowerQ (P e.a) (PL e.a), neQ (PL e.a) (PL q) (!b), appendQ ac 3][j]?⟩ T s := fun b hb T s => mk_ok (by
      intro Q hQ
      simp only [List.mem_cons, List.not_mem_nil, or_false] at hQ
      rcases hQ with rfl | rfl | rfl | rfl
      · exact nextQ_ok hx (by decide)
      · exact lowP_ok ha
      · exact neQ_ok hb
      · exact appendQ_ok (by omega) 3)
    by_cases hqa : e.a = q
    · have hw : dWalk q (e :: r) i ac m kv = dWalk q r (i + 1) ac m [(("kv" : Str), Value.ref e.ta)] := by rw [dWalk, if_pos hqa]
      rw [hw]
      have hb : ((PL e.a).cps.toList == (PL q).cps.toList) = true := by rw [PL_inj _ ha _ hq]; simpa using hqa
      have ih := fun ν : Nat → Nat => dLoop_ctr w es h16 hq r (i + 1) ac m [(("kv" : Str), Value.ref e.ta)] { x with g := fun i => ν (i + 2) } (by omega) (.inr ⟨_, rfl⟩) (drop_next hd)
      rcases hk with rfl | ⟨p, rfl⟩
      all_goals
        refine ctr_turn (V := B w) (n := 39) (H := 193806814944106440398795350502205561338393529426117120) (J := [0, 1, 2, 3, 4]) (K := [5]) (xs := xsK 0 2)
          (fun ν => dLoopS w es q (i + 1) ac m [(("kv" : Str), Value.ref e.ta)] (dWalk q r (i + 1) ac m [(("kv" : Str), Value.ref e.ta)]) { x with g := fun i => ν (i + 2) }) [(e.ta, e.obj)] (nodupB rfl) rfl (fun s hT hS => hT.has hS dLoop_noTup he) (fun s _ _ => ok true hb _ _) ?_
          (fun _ => rfl) ih (fun _ => Nat.le_refl _) (fun _ => Nat.le_refl _) (fun _ _ => rfl) (fun _ _ => rfl) (fun s M s' hT hS I => hT.keep hS dLoop_noTup I)
        intro base tb ν; unfold Runs; kernel_rfl
    · have hw : dWalk q (e :: r) i ac m kv = dWalk q r (i + 1) (ac ++ [Value.ref e.ta]) (m + 1) [(("kv" : Str), Value.ref e.ta)] := by rw [dWalk, if_neg hqa]
      rw [hw]
      have hb : ((PL e.a).cps.toList == (PL q).cps.toList) = false := by rw [PL_inj _ ha _ hq]; simpa using hqa
      have ih := fun ν : Nat → Nat => dLoop_ctr w es h16 hq r (i + 1) (ac ++ [Value.ref e.ta]) (m + 1) [(("kv" : Str), Value.ref e.ta)] { x with g := fun i => ν (i + 2) } (by rw [List.length_append]; simp only [List.length_cons, List.length_nil]; omega) (.inr ⟨_, rfl⟩) (drop_next hd)
      rcases hk with rfl | ⟨p, rfl⟩
      all_goals
        refine ctr_turn (V := B w) (n := 44) (H := 834025953475383343369322055834154882679999000557269671949107712) (J := [0, 1, 2, 3, 4]) (K := [5]) (xs := xsK 0 2)
          (fun ν => dLoopS w es q (i + 1) (ac ++ [Value.ref e.ta]) (m + 1) [(("kv" : Str), Value.ref e.ta)] (dWalk q r (i + 1) (ac ++ [Value.ref e.ta]) (m + 1) [(("kv" : Str), Value.ref e.ta)]) { x with g := fun i => ν (i + 2) }) [(e.ta, e.obj)] (nodupB rfl) rfl (fun s hT hS => hT.has hS dLoop_noTup he) (fun s _ _ => ok false hb _ _) ?_
          (fun _ => rfl) ih (fun _ => Nat.le_refl _) (fun _ => Nat.le_refl _) (fun _ _ => rfl) (fun _ _ => rfl) (fun s M s' hT hS I => hT.keep hS dLoop_noTup I)
        intro base tb ν; unfold Runs; kernel_rfl
theorem dWalk_out {q : Nat} : ∀ (es : List Ent) (i : Nat) (ac : List Value) (m : Nat) (kv : List (Str × Value)), Kv1 kv → ∃ j n kv', dWalk q es i ac m kv = (j, ac ++ vals (es.filter fun e => !(e.a == q)), n, kv') ∧ Kv1 kv'
  | [], i, ac, m, kv, h => ⟨i, m, kv, by simp [dWalk, vals], h⟩
  | e :: r, i, ac, m, kv, h => by
    by_cases hq : e.a = q
    · rw [dWalk, if_pos hq]
      obtain ⟨j, n, kv', e', h'⟩ := dWalk_out (q := q) r (i + 1) ac m [(("kv" : Str), Value.ref e.ta)] (.inr ⟨_, rfl⟩)
      exact ⟨j, n, kv', by rw [e']; simp [hq], h'⟩
    · rw [dWalk, if_neg hq]
      obtain ⟨j, n, kv', e', h'⟩ := dWalk_out (q := q) r (i + 1) (ac ++ [Value.ref e.ta]) (m + 1) [(("kv" : Str), Value.ref e.ta)] (.inr ⟨_, rfl⟩)
      exact ⟨j, n, kv', by rw [e']; simp [hq, vals], h'⟩
theorem delComp_eq (w : World) : theComp w 146 0 = .ListComp (cElt (theComp w 146 0)) (cGen (theComp w 146 0) :: cRest (theComp w 146 0)) (cScope (theComp w 146 0)) (cPos (theComp w 146 0)) := by kernel_rfl
theorem delComp_sync (w : World) : (cGen (theComp w 146 0)).is_async = 0 := by kernel_rfl
noncomputable def dHeadS (w : World) (es : List Ent) (q : Nat) (o : Nat × List Value × Nat × List (Str × Value)) (x : DL) : Job := { dLoopS w es q 0 [] 0 [] o x with code := compHead w 146 0 x.it x.acc x.f x.D [("name", x.ce)] }
theorem dHead_ctr (w : World) (es : List Ent) (h16 : ∀ e ∈ es, e.a < 16) (hl : es.length ≤ 1000) {q : Nat} (hq : q < 16) {o : Nat × List Value × Nat × List (Str × Value)} (ho : dWalk q es 0 [] 0 [] = o) (x : DL) : Ctr (B w) (Tups w es) (dHeadS w es q o x) := by
  subst ho
  exact ctr_start 1 1 (delComp_eq w) (delComp_sync w) rfl rfl rfl (dLoop_ctr w es h16 hq es 0 [] 0 [] x (by simpa using hl) (.inl rfl) rfl)
noncomputable def cellVal (o : Obj) : Value := match o.data with
  | .cell (some v) => v
  | _ => .none
noncomputable def dHeadQ (w : World) (es : List Ent) (q : Nat) (aL : Addr) (o : Nat × List Value × Nat × List (Str × Value)) (jD ji jl ja jc jf : Nat) : OracleAt :=
  QF [jD, ji, jl, ja, jc] (fun c ps => some (DL.mk (adAt 0 ps) (adAt 1 ps) aL (adAt 3 ps) (adAt 4 ps) (match c with | .compStart _ _ _ _ e => (match e.frame with | some f => f | none => 0) | _ => 0) (ktoks (obAt 2 ps) 0) (tokV (cellVal (obAt 4 ps))) (ktoks (obAt 0 ps)))) (fun x => dHeadS w es q o { x with aL := aL }) 600 5000
end Mine
end
section
open PySem PySem.Spec PySem.Calls PySem.W PySem.W.X PyProof.Rows
set_option Elab.async false
set_option maxRecDepth 100000
set_option maxHeartbeats 0
namespace Mine
/-! ## setdefault, del, len, items of the board -/
noncomputable def bgetQ (w : World) (es : List Ent) (q : Nat) (x : Str) (b : Bd) : OracleAt := QF [0, 1, 2] (fun c ps => some (ktoks (obAt 2 ps) 0, callTok 1 c)) (getBS w b es q x) 680 5900
noncomputable def bgetQ' (w : World) (es : List Ent) (q : Nat) (x : Str) (b : Bd) (v : Value) : OracleAt := QF [0, 1, 2] (fun c ps => some (ktoks (obAt 2 ps) 0, callTok 1 c)) (fun p => { getBS w b es q x p with r := fun _ => .ok (.ret v) }) 680 5900
noncomputable def setNewS (w : World) (b : Bd) (es : List Ent) (q : Nat) (p : Nat × Tok × Tok) : Job where
  code := .call (.ref 218) ⟨[.ref b.aB, .str (P q) p.2.1, .str (W q) p.2.2], []⟩
  pre := b.cells w (vals es) p.1
  post := fun ν => (b.cells w (vals es ++ [.ref (ν 2)]) (p.1 + 1)).map Prod.snd
  new := fun ν => [(ν 2, tup [.str (P q) p.2.1, .str (W q) p.2.2])]
  r := fun _ => strR (W q) p.2.2
  d := 660
  u := 5800
noncomputable def setOldS (w : World) (b : Bd) (es : List Ent) (q : Nat) (v : Value) (p : Nat × Tok × Tok) : Job where
  code := .call (.ref 218) ⟨[.ref b.aB, .str (P q) p.2.1, .str (W q) p.2.2], []⟩
  pre := b.cells w (vals es) p.1
  post := fun _ => (b.cells w (vals es) p.1).map Prod.snd
  new := fun _ => []
  r := fun _ => .ok (.ret v)
  d := 660
  u := 5800
noncomputable def lenBS (w : World) (b : Bd) (vs : List Value) (c : Int) (n : Nat) : Job where
  code := .builtin "len" ⟨[.ref b.aB], []⟩
  pre := b.cells w vs n
  post := fun _ => (b.cells w vs n).map Prod.snd
  new := fun _ => []
  r := fun ν => intR c (ν 2)
  d := 660
  u := 5800
noncomputable def lenCQ (vs : List Value) (c : Int) (j : Nat) : OracleAt := QF [j] (fun _ ps => seqAt 0 ps) (fun a => { lenS vs a with r := fun ν => .ok (.ret (.int c (Nat.add (ν 2) 706))) }) 990 9000
noncomputable def itemsBS (w : World) (b : Bd) (vs : List Value) (n : Nat) : Job where
  code := .call (.ref 192) ⟨[.ref b.aB], []⟩
  pre := b.cells w vs n
  post := fun _ => (b.cells w vs n).map Prod.snd
  new := fun ν => [(ν 2, lst vs 0)]
  r := fun ν => .ok (.ret (.ref (ν 2)))
  d := 660
  u := 5800
noncomputable def delBS (w : World) (b : Bd) (es : List Ent) (q : Nat) (x : Str) (p : Nat × Tok) : Job where
  code := .call (.ref 146) ⟨[.ref b.aB, .str x p.2], []⟩
  pre := b.cells w (vals es) p.1
  post := fun ν => (b.cells w (vals (es.filter fun e => !(e.a == q))) (ν 2)).map Prod.snd
  new := fun _ => []
  r := fun _ => noneR
  d := 580
  u := 4900
noncomputable def initBS (w : World) : Job where
  code := .call (.ref 228) ⟨[], []⟩
  pre := []
  post := fun _ => []
  new := fun ν => Bd.cells w ⟨ν 2, ν 3, ν 4, fun i => ν (i + 6)⟩ [] (ν 5)
  r := fun ν => .ok (.ret (.ref (ν 2)))
  d := 660
  u := 5800
noncomputable def xsA (l : List Nat) (G : Goal) : List Nat := l.map fun j => match G.M.T.get j with
  | some p => p.1
  | none => 0
section
variable {w : World} {T₀ : CT} {s₀ : Shared}
theorem bget_ok {es : List Ent} (h16 : ∀ e ∈ es, e.a < 16) {q : Nat} (hq : q < 16) {x : Str} (hx : ∀ T s, OracleOk (B w) T s (lowerQ x (PL q))) (b : Bd) {v : Value} (hv : getV q es = v) (hF : ∀ M s, Inv (B w) T₀ s₀ M s → Tups w es s) : OracleOk (B w) T₀ s₀ (bgetQ' w es q x b v) := by
  subst hv
  exact lift_ok (F := Tups w es) (nodupB rfl) hF (fun p => boardGet_ctr w h16 hq hx b p) (fun _ => Nat.le_refl _) (fun _ => Nat.le_refl _)
theorem setNew_ctr (w : World) {es : List Ent} (h16 : ∀ e ∈ es, e.a < 16) (hl : es.length ≤ 1000) {q : Nat} (hq : q < 16) (b : Bd) (hv : getV q es = .none) (p : Nat × Tok × Tok) : Ctr (B w) (Tups w es) (setNewS w b es q p) :=
  ctr_of_run (V := B w) (n := 129) (H := 5686702121780678199577267813822775987247423350816817147418731359572311639536402136044148207715338986493611167746736720584939259123302502476950591102171294644074145143848334043280324417888069710423676834545477378369388545) (J := [0, 1, 2, 4]) (xs := xsA [4]) (orc := fun j => [bgetQ' w es q (P q) b .none, convQ (P q) true, convQ (W q) false, appendQ (vals es) 2][j]?) (nodupB rfl) (fun s hT hS => mk_ok (by
    intro Q hQ
    simp only [List.mem_cons, List.not_mem_nil, or_false] at hQ
    rcases hQ with rfl | rfl | rfl | rfl
    · exact bget_ok h16 hq (fun _ _ => lowP_ok hq) b hv fun M s' I => hT.keep hS noTup_cells I
    · exact convP_ok hq
    · exact convW_ok hq
    · exact appendQ_ok (by simpa [vals] using hl) 2)) (by intro base tb ν; unfold Runs; kernel_rfl)
theorem setOld_ctr (w : World) {es : List Ent} (h16 : ∀ e ∈ es, e.a < 16) {q : Nat} (hq : q < 16) (b : Bd) {tw : Tok} (hv : getV q es = .str (W q) tw) (p : Nat × Tok × Tok) : Ctr (B w) (Tups w es) (setOldS w b es q (.str (W q) tw) p) :=
  ctr_of_run (V := B w) (n := 44) (H := 464984703339263603554355848786718813084185969128682010676317613209701599674369) (J := [0, 1, 2]) (xs := fun _ => []) (orc := fun j => [bgetQ' w es q (P q) b (.str (W q) tw)][j]?) (nodupB rfl) (fun s hT hS => mk_ok (by
    intro Q hQ
    simp only [List.mem_cons, List.not_mem_nil, or_false] at hQ
    rcases hQ with rfl
    exact bget_ok h16 hq (fun _ _ => lowP_ok hq) b hv fun M s' I => hT.keep hS noTup_cells I)) (by intro base tb ν; unfold Runs; kernel_rfl)
theorem lenCQ_ok {vs : List Value} {c : Int} (hc : c = vs.length) (hl : vs.length ≤ 10000) (j : Nat) : OracleOk (B w) T₀ s₀ (lenCQ vs c j) := by
  subst hc
  exact lenQ_ok hl j
theorem all17 {p : Nat → Prop} (h0 : p 0) (h1 : p 1) (h2 : p 2) (h3 : p 3) (h4 : p 4) (h5 : p 5) (h6 : p 6) (h7 : p 7) (h8 : p 8) (h9 : p 9) (h10 : p 10) (h11 : p 11) (h12 : p 12) (h13 : p 13) (h14 : p 14) (h15 : p 15) (h16 : p 16) : ∀ a, a ≤ 16 → p a := fun a ha => by
  rcases a with _ | _ | _ | _ | _ | _ | _ | _ | _ | _ | _ | _ | _ | _ | _ | _ | _ | a
  all_goals first | assumption | exact absurd ha (by omega)
theorem lenB_ctr (w : World) (b : Bd) (n : Nat) (F : Shared → Prop) : ∀ c, c ≤ 16 → ∀ vs : List Value, vs.length = c → Ctr (B w) F (lenBS w b vs (Int.ofNat c) n) := by
  refine all17 ?_ ?_ ?_ ?_ ?_ ?_ ?_ ?_ ?_ ?_ ?_ ?_ ?_ ?_ ?_ ?_ ?_
  all_goals
    intro vs hc
    refine ctr_of_run (V := B w) (n := 40) (H := 107840609427182841445735381809010153458393875369040214863066209190144) (J := [0, 1, 2]) (xs := tok2) (orc := fun j => [lenCQ vs (Int.ofNat _) 2][j]?) (nodupB rfl) (fun s hT hS => mk_ok (by
      intro Q hQ
      simp only [List.mem_cons, List.not_mem_nil, or_false] at hQ
      rcases hQ with rfl
      exact lenCQ_ok (by rw [hc]; rfl) (by omega) 2)) ?_
    intro base tb ν; unfold Runs; kernel_rfl
theorem itemsB_ctr (w : World) (b : Bd) {vs : List Value} (hl : vs.length ≤ 1000) (n : Nat) (F : Shared → Prop) : Ctr (B w) F (itemsBS w b vs n) :=
  ctr_of_run (V := B w) (n := 35) (H := 25181967854343219676814988459910901896893368694255590047745) (J := [0, 1, 2, 5]) (xs := xsA [5]) (orc := fun j => [sliceQ vs vs .none .none .none 2 4][j]?) (nodupB rfl) (fun s hT hS => mk_ok (by
    intro Q hQ
    simp only [List.mem_cons, List.not_mem_nil, or_false] at hQ
    rcases hQ with rfl
    exact sliceQ_ok .none .none .none (by simp) (by omega) (slicePick_all _) (by decide))) (by intro base tb ν; unfold Runs; kernel_rfl)
theorem initB_ctr (w : World) (F : Shared → Prop) : Ctr (B w) F (initBS w) :=
  ctr_plain (n := 134) (H := 649575476931883579286934658550476593122600231900328165283123127424634121299436427685695393374849517889096205261389296705379086539805350491356792974854283558461777447881048098602288833191091341254153590665376732404648094203904) (J := [1, 0, 3]) (xs := fun G => xsA [1, 0, 3] G ++ xsK 3 1 G ++ xsK 0 2 G) (nodupB rfl) (by intro base tb ν; unfold Runs; kernel_rfl)
theorem dHead_ok {es : List Ent} (h16 : ∀ e ∈ es, e.a < 16) (hl : es.length ≤ 1000) {q : Nat} (hq : q < 16) {aL : Addr} {o : Nat × List Value × Nat × List (Str × Value)} (ho : dWalk q es 0 [] 0 [] = o) {jD ji jl ja jc jf : Nat} (hJ : [jD, ji, jl, ja, jc].Nodup) (hF : ∀ M s, Inv (B w) T₀ s₀ M s → Tups w es s) : OracleOk (B w) T₀ s₀ (dHeadQ w es q aL o jD ji jl ja jc jf) :=
  lift_ok (F := Tups w es) hJ hF (fun x => dHead_ctr w es h16 hl hq ho { x with aL := aL }) (fun _ => Nat.le_refl _) (fun _ => Nat.le_refl _)
theorem del_ctr (w : World) {es : List Ent} (h16 : ∀ e ∈ es, e.a < 16) (hl : es.length ≤ 1000) {q : Nat} (hq : q < 16) {x : Str} (hx : ∀ T s, OracleOk (B w) T s (lowerQ x (PL q))) (b : Bd) (p : Nat × Tok) : Ctr (B w) (Tups w es) (delBS w b es q x p) := by
  obtain ⟨j, n, kv, ho, hk⟩ := dWalk_out (q := q) es 0 [] 0 [] (.inl rfl)
  rw [List.nil_append] at ho
  have ok : ∀ s, Tups w es s → Sat (B w) ((delBS w b es q x p).start s) s → Par.Ok ⟨(B w).prog, (B w).w, (B w).kt, fun i => [lowerQ x (PL q), convQ (PL q) true, dHeadQ w es q b.aL (j, vals (es.filter fun e => !(e.a == q)), n, kv) 7 5 2 6 4 3, renewQ (vals es) (vals (es.filter fun e => !(e.a == q))) 2 8 6][i]?⟩ (cellsOf (delBS w b es q x p).pre) s := fun s hT hS => mk_ok (by
    intro Q hQ
    simp only [List.mem_cons, List.not_mem_nil, or_false] at hQ
    rcases hQ with rfl | rfl | rfl | rfl
    · exact hx _ _
    · exact convPL_ok hq
    · exact dHead_ok h16 hl hq ho (nodupB rfl) fun M s' I => hT.keep hS noTup_cells I
    · refine renewQ_ok (by simp [vals]; omega) ?_ (nodupB rfl)
      have := List.length_filter_le (fun e : Ent => !(e.a == q)) es
      simp only [vals, List.length_map]; omega)
  rcases hk with rfl | ⟨v, rfl⟩
  · exact ctr_of_run (V := B w) (n := 104) (H := 6774262725989550908574986645988367196863958230075334352327737658266441645499987876791302649592108286331997150023055574036654931867184990539072234290607328486558076971778049) (J := [0, 1, 2]) (xs := xsK 2 1) (nodupB rfl) ok (by intro base tb ν; unfold Runs; kernel_rfl)
  · exact ctr_of_run (V := B w) (n := 108) (H := 443958082010451208344370324831493632613676366566304100476830551960616382956682060518221073898802090474231958301908474594999038128189794135207175973971739374992040587583348015105) (J := [0, 1, 2]) (xs := xsK 2 1) (nodupB rfl) ok (by intro base tb ν; unfold Runs; kernel_rfl)
end
end Mine
end
section
open PySem PySem.Spec PySem.Calls PySem.W PySem.W.X PyProof.Rows
set_option Elab.async false
set_option maxRecDepth 100000
namespace Mine
/-! ## numbers that hold a list -/
noncomputable def dig (b c i : Nat) : Nat := c / b ^ i % b
theorem dig_any (f : Nat → Nat) : ∀ n, ∃ b c, ∀ i, i < n → dig b c i = f i := by
  intro n
  have hb : ∃ b, 0 < b ∧ ∀ i, i < n → f i < b := by
    induction n with
    | zero => exact ⟨1, by decide, fun i h => absurd h (by omega)⟩
    | succ n ih =>
      obtain ⟨b, h0, h⟩ := ih
      exact ⟨b + f n + 1, by omega, fun i hi => by
        by_cases e : i = n
        · subst e; omega
        · have := h i (by omega); omega⟩
  obtain ⟨b, h0, hlt⟩ := hb
  have go : ∀ n (f : Nat → Nat), (∀ i, i < n → f i < b) → ∃ c, ∀ i, i < n → dig b c i = f i := by
    intro n
    induction n with
    | zero => exact fun f _ => ⟨0, fun i h => absurd h (by omega)⟩
    | succ n ih =>
      intro f hf
      obtain ⟨c, hc⟩ := ih (fun i => f (i + 1)) (fun i hi => hf (i + 1) (by omega))
      refine ⟨f 0 + b * c, fun i hi => ?_⟩
      cases i with
      | zero => simp only [dig, Nat.pow_zero, Nat.div_one, Nat.add_mul_mod_self_left]; exact Nat.mod_eq_of_lt (hf 0 (by omega))
      | succ i =>
        have := hc i (by omega)
        simp only [dig] at this ⊢
        rw [Nat.pow_succ, Nat.mul_comm (b ^ i) b, ← Nat.div_div_eq_div_mul, Nat.add_mul_div_left _ _ h0, Nat.div_eq_of_lt (hf 0 (by omega)), Nat.zero_add]
        exact this
  obtain ⟨c, hc⟩ := go n f hlt
  exact ⟨b, c, hc⟩

/-! ## the signs of a text -/
noncomputable def sgn : List Nat → (Nat → Nat) → List Value
  | [], _ => []
  | c :: l, g => .str ⟨#[c]⟩ (g 0) :: sgn l fun i => g (i + 1)
theorem sgn_length : ∀ (l : List Nat) (g : Nat → Nat), (sgn l g).length = l.length
  | [], _ => rfl
  | c :: l, g => by simp [sgn, sgn_length l]
theorem sgn_of : ∀ (l : List Nat) (vs : List Value), vs.length = l.length → (∀ (j : Nat) (v : Value), vs[j]? = some v → ∃ (c : Nat) (u : Tok), l[j]? = some c ∧ v = Value.str ⟨#[c]⟩ u) → ∃ g, vs = sgn l g
  | [], vs, h, _ => ⟨fun _ => 0, by simpa [sgn] using h⟩
  | c :: l, [], h, _ => by simp at h
  | c :: l, v :: vs, h, hv => by
    obtain ⟨c', u, hc, rfl⟩ := hv 0 v rfl
    cases hc
    obtain ⟨g, e⟩ := sgn_of l vs (by simpa using h) (fun j v' h' => by simpa using hv (j + 1) v' (by simpa using h'))
    exact ⟨fun i => if i = 0 then u else g (i - 1), by rw [sgn, e]; simp⟩
theorem sgn_congr : ∀ (l : List Nat) (g h : Nat → Nat), (∀ i, i < l.length → g i = h i) → sgn l g = sgn l h
  | [], _, _, _ => rfl
  | c :: l, g, h, e => by
    rw [sgn, sgn, e 0 (by simp), sgn_congr l _ _ fun i hi => e (i + 1) (by simpa using hi)]

/-! ## list(text) -/
theorem init_str {prog : Program} {w : World} {A : Around} {s : Shared} {R : Result → Shared → Prop} (hh : A.handled = none) (x : Str) (t : Tok) (S : Addr) (hS : s.heap.get? S = some (lst [] 0))
    (hR : ∀ s' acc' c', s.toks ≤ s'.toks → s'.gens = s.gens → s'.drawn = s.drawn → s'.os = s.os → (∀ b o, b ≠ S → s.heap.get? b = some o → s'.heap.get? b = some o) → s'.heap.get? S = some { cls := .type "list", dict := none, data := .seq acc' c', slots := #[] } →
      ItemsOf (SignAt x) acc' x.cps.size → R (.ok (.ret .none)) s') (hn : x.cps.size ≤ 10000) :
    wpAny (model prog w) A.in1 (Builtin.«list.__init__» ⟨[.ref S, .str x t], []⟩)
      (fun fin s' => match fin with | .done f => R (.ok f) s' | .again c' => c'.quiet = true ∧ codeAny (model prog w) A c' R s') (fun e s' => R (.error e) s') s := by
  show wpAny _ _ (Builtin.List.listItems (.ref S) >>= fun old => Builtin.List.listUpdate (.ref S) (fun _ => #[]) >>= fun _ => letGo old.toList.reverse >>= fun _ => Builtin.List.listExtendWith (.ref S) (.str x t) .none) _ _ s
  refine wpAny_bind ?_
  unfold Builtin.List.listItems
  refine wpAny_bind (wpAny_seqItems hS rfl (wpAny_pure ?_))
  refine wpAny_bind (wpAny_updateSeq hS rfl ?_ (by rw [sizeLine_eq]; simp) (by simp))
  have ho : ∀ b o, b ≠ S → s.heap.get? b = some o → (s.heap.update S (Obj.mapSeq (fun _ => (#[] : Array Value)))).get? b = some o := fun b o hb e => (Heap.get?_update_other _ _ (Ne.symm hb)).trans e
  have hS2 : (s.heap.update S (Obj.mapSeq (fun _ => (#[] : Array Value)))).get? S = some (lst [] 0) := Heap.get?_update_self (Obj.mapSeq fun _ => (#[] : Array Value)) hS rfl
  have hz : (s.heap.update S (Obj.mapSeq (fun _ => (#[] : Array Value)))).objs.size = s.heap.objs.size := Heap.size_update ..
  refine wpAny_bind (wpAny_letGo ?_)
  generalize hH : s.heap.update S (Obj.mapSeq (fun _ => (#[] : Array Value))) = H at ho hS2 hz ⊢
  have ne : S ≠ H.objs.size := Nat.ne_of_lt (Heap.lt_size hS2)
  have nf : S ∉ [H.objs.size] := fun hm => ne (List.mem_singleton.mp hm)
  unfold Builtin.List.listExtendWith
  refine wpAny_bind (wpAny_typeOf (T := "str") (v := .str x t) rfl ?_)
  have c1 : Builtin.List.listSameRef (.ref S) (.str x t) = false := rfl
  have c2 : (Value.type "str" == Value.type "list") = false := by decide
  have c3 : (Value.type "str" == Value.type "tuple") = false := by decide
  simp only [c1, c2, c3, Bool.or_false, Bool.false_eq_true, if_false]
  refine wpAny_bind (wpAny_pyIter_str fun o St W hst => ?_)
  refine wpAny_bind (wpAny_holding ?_)
  unfold Builtin.List.listLengthHint
  refine wpAny_bind (wpAny_specialOf (T := "str") (v := .str x t) rfl F.str_len ?_)
  wp_delta
  refine wpAny_bind (wpAny_isInstance (T := "str") (v := .str x t) (b := true) rfl (by rw [isSubtype_type]; kernel_rfl) ?_)
  show wpAny _ _ (typeOf (Value.str x t) >>= _) _ _ _
  refine wpAny_bind (wpAny_typeOf (T := "str") (v := .str x t) rfl ?_)
  refine wpAny_pure ?_
  rw [if_neg (by decide)]
  refine wpAny_pure ⟨plainId_quiet F.plain_extend_loop _, codeAny_extend_loopS (W A.in1 hh).toS (by rw [sizeLine_eq]; show x.cps.size ≤ _; omega) _ nf _ x.cps.size 0 _ _ _ rfl (Nat.zero_le _) hst (Heap.get?_push_of_some _ hS2) (ItemsOf.nil _) fun s' acc' c' hm hS' hacc => ?_⟩
  have old : ∀ b o, b ≠ S → s.heap.get? b = some o → s'.heap.get? b = some o := fun b o hb e => hm.heap b o (fun hmem => by
    rcases List.mem_cons.mp hmem with e' | hmem
    · exact hb e'
    · exact absurd (Heap.lt_size (ho b o hb e)) (by rw [List.mem_singleton.mp hmem]; exact Nat.lt_irrefl _)) (Heap.get?_push_of_some _ (ho b o hb e))
  exact hR s' acc' c' hm.toks hm.gens hm.drawn hm.os old hS' hacc

noncomputable def newListS (a : Str × Tok) : Job where
  code := .call (.builtin "list.__new__") ⟨[.type "list", .str a.1 a.2], []⟩
  pre := []
  post := fun _ => []
  new := fun ν => [(ν 2, lst [] 0)]
  r := fun ν => .ok (.ret (.ref (ν 2)))
  d := 900
  u := 8000
theorem newList_ctr (w : World) (a : Str × Tok) (F : Shared → Prop) : Ctr (B w) F (newListS a) := by
  intro A s R h0 hd hu _ hS hR
  have I := (Inv.start hS).make (o := lst [] 0) rfl (by kernel_rfl) (by kernel_rfl)
  have q := ends hR I [0] (nodupB rfl) [s.heap.objs.size] (by kernel_rfl)
  refine codeAny_mono (code_list_new (E := fun _ _ => False) (Q₁ := fun v s' => R (.ok (.ret v)) s') (.str a.1 a.2) q) fun r s' h => ?_
  match r, h with
  | .ok (.ret v), h => exact h
noncomputable def newListQ : OracleAt := QF [] (fun c _ => match c with | .call _ ⟨[_, .str x t], _⟩ => some (x, t) | _ => none) newListS 900 8000
theorem newListQ_ok {w : World} {T₀ : CT} {s₀ : Shared} : OracleOk (B w) T₀ s₀ newListQ :=
  lift_ok (F := fun _ => True) List.nodup_nil (fun _ _ _ => trivial) (fun a => newList_ctr w a _) (fun _ => Nat.le_refl _) (fun _ => Nat.le_refl _)
noncomputable def initStrS (cs : List Nat) (a : Addr × Tok) : Job where
  code := .builtin "list.__init__" ⟨[.ref a.1, .str ⟨cs.toArray⟩ a.2], []⟩
  pre := [(a.1, lst [] 0)]
  post := fun ν => [lst (sgn cs (dig (ν 2) (ν 3))) (ν 4)]
  new := fun _ => []
  r := fun _ => noneR
  d := 900
  u := 8000
theorem initStr_inv {w : World} {cs : List Nat} {S : Addr} {s s' : Shared} {b c c' : Nat} (hS : Sat (B w) ⟨cellsOf [(S, lst [] 0)], 1, s.heap.objs.size, 0, s.toks - 706, 706⟩ s) (ht : s.toks ≤ s'.toks) (hg : s'.gens = s.gens) (hdr : s'.drawn = s.drawn) (hos : s'.os = s.os)
    (keep : ∀ b o, b ≠ S → s.heap.get? b = some o → s'.heap.get? b = some o) (hS' : s'.heap.get? S = some (lst (sgn cs (dig b c)) c')) (kn : (B w).kt.get S = none) :
    Inv (B w) (cellsOf [(S, lst [] 0)]) s ⟨cellsOf [(S, lst (sgn cs (dig b c)) c')], 1, s'.heap.objs.size, 0, s'.toks - 706, 706⟩ s' := by
  have hne : ∀ a o, (B w).kt.get a = some o → a ≠ S := fun a o e q => by subst q; rw [kn] at e; cases e
  have one : ∀ i a o (x : Obj), (cellsOf [(S, x)]).get i = some (a, o) → i = 0 ∧ a = S ∧ o = x := fun i a o x e => by
    rw [cellsOf_get] at e
    cases i with
    | zero => cases e; exact ⟨rfl, rfl, rfl⟩
    | succ i => simp at e
  refine ⟨⟨fun a o e => keep a o (hne a o e) (hS.top a o e), rfl, ?_, fun i a o e => ?_, fun i j a o o' e e' => ?_, Nat.le_trans hS.lo ht⟩, ⟨fun b' o e hb => keep b' o (fun q => hb 0 b' (lst [] 0) (by rw [cellsOf_get, q]; rfl) rfl) e, ht, hg, hdr, hos⟩, fun i a o e => ?_⟩
  · have := hS.lo
    show s'.toks = s'.toks - 706 + 706; omega
  · obtain ⟨rfl, rfl, rfl⟩ := one i a o _ e
    exact ⟨hS', kn⟩
  · rw [(one i a o _ e).1, (one j a o' _ e').1]
  · obtain ⟨rfl, rfl, rfl⟩ := one i a o _ e
    exact .inl ⟨0, lst [] 0, by rw [cellsOf_get]; rfl⟩
theorem initStr_meets (x : Str) (t : Tok) (S : Addr) (hn : x.cps.size ≤ 10000) : Meets (Builtin.«list.__init__» ⟨[.ref S, .str x t], []⟩) (fun A R s => A.handled = none ∧ s.heap.get? S = some (lst [] 0) ∧
    ∀ s' acc' c', s.toks ≤ s'.toks → s'.gens = s.gens → s'.drawn = s.drawn → s'.os = s.os → (∀ b o, b ≠ S → s.heap.get? b = some o → s'.heap.get? b = some o) → s'.heap.get? S = some { cls := .type "list", dict := none, data := .seq acc' c', slots := #[] } →
      ItemsOf (SignAt x) acc' x.cps.size → R (.ok (.ret .none)) s') :=
  fun _ _ _ _ _ h => init_str h.1 x t S h.2.1 h.2.2 hn
theorem initStr_ctr (w : World) {cs : List Nat} (hl : cs.length ≤ 10000) (a : Addr × Tok) (F : Shared → Prop) : Ctr (B w) F (initStrS cs a) := by
  obtain ⟨S, t⟩ := a
  intro A s R h0 hd hu _ hS hR
  have ho : s.heap.get? S = some (lst [] 0) := hS.heap 0 rfl
  have kn : (B w).kt.get S = none := (hS.own 0 S _ (hS.at 0 rfl)).2
  refine code_meets PySem.F.entry_list_init (by decide +kernel) (initStr_meets ⟨cs.toArray⟩ t S (by simpa using hl)) ⟨h0, ho, fun s' acc' c' ht hg hdr hos keep hS' hit => ?_⟩
  obtain ⟨g, hg'⟩ := sgn_of cs acc'.toList (by have := hit.1; simpa using this) (fun j v hv => by
    obtain ⟨c, u, h1, h2⟩ := hit.2 j v (by simpa using hv)
    exact ⟨c, u, by simpa using h1, h2⟩)
  obtain ⟨b, c, hbc⟩ := dig_any g cs.length
  have hac : ({ cls := .type "list", dict := none, data := .seq acc' c', slots := #[] } : Obj) = lst (sgn cs (dig b c)) c' := by
    have e : acc' = (sgn cs (dig b c)).toArray := by rw [sgn_congr cs (dig b c) g hbc, ← hg']
    rw [e]; rfl
  rw [hac] at hS'
  exact ends hR (initStr_inv hS ht hg hdr hos keep hS' kn) [0] (nodupB rfl) [b, c, c'] (by kernel_rfl)
noncomputable def initStrQ (cs : List Nat) (j : Nat) : OracleAt := QF [j] (fun c ps => some (adAt 0 ps, callTok 1 c)) (initStrS cs) 900 8000
theorem initStrQ_ok {w : World} {T₀ : CT} {s₀ : Shared} {cs : List Nat} (hl : cs.length ≤ 10000) (j : Nat) : OracleOk (B w) T₀ s₀ (initStrQ cs j) :=
  lift_ok (F := fun _ => True) (by simp) (fun _ _ _ => trivial) (fun a => initStr_ctr w hl a _) (fun _ => Nat.le_refl _) (fun _ => Nat.le_refl _)
end Mine
end
section
open PySem PySem.Spec PySem.Calls PySem.W PySem.W.X PyProof.Rows
set_option Elab.async false
set_option maxRecDepth 100000
set_option maxHeartbeats 0
namespace Mine
/-! ## the lexer of a text -/
noncomputable def defsIn : List Stmt → List (Str × Arguments × List Stmt × Scope)
  | [] => []
  | s :: l => match s with
    | .FunctionDef n a b _ _ _ sc _ _ _ => (n, a, b, sc) :: defsIn l
    | _ => defsIn l
noncomputable def takeDef (w : World) : Str × Arguments × List Stmt × Scope := match defsIn (stmtsOf w 239) with
  | x :: _ => x
  | [] => (Str.empty, ⟨[], [], none, [], [], none, []⟩, [], default)
noncomputable def codeAt (w : World) (a : Addr) (i : Nat) : Value := match (B w).kt.get a with
  | some ⟨_, _, .fields vs, _⟩ => match vs[i]? with
    | some v => v
    | none => .none
  | _ => .none
noncomputable def strOf : Value → Str
  | .str x _ => x
  | _ => Str.empty
structure Lx where
  B : Nat
  T : Nat
  ce : Addr
  aG : Addr
  fr : Addr
noncomputable def takeFd (w : World) (x : Lx) : FuncData :=
  ⟨(takeDef w).1, (fdOf w 239).qualname ++ (".<locals>." : Str) ++ (takeDef w).1, (takeDef w).2.1, .stmts (takeDef w).2.2.1, (takeDef w).2.2.2, (fdOf w 239).globals, [("signs", x.ce)], .none, .none, .none, (fdOf w 239).pyModule, none, .ref (x.B + 6), .ref x.B, (fdOf w 239).builtins⟩
noncomputable def takeCode (w : World) (x : Lx) : Obj :=
  { cls := .type "code", data := .fields #[.str (takeDef w).1 x.T, .str ((fdOf w 239).qualname ++ (".<locals>." : Str) ++ (takeDef w).1) (x.T + 1), .str (strOf (codeAt w 238 2)) (x.T + 2), .int 153 0, .int 1 0, .int 0 0, .int 0 0, .int 19 0, .ref (x.B + 1), .bool true, .int 276 0, .ref (x.B + 2), .none, .ref (x.B + 3), .ref (x.B + 4), .ref (x.B + 5), .int (Int.ofNat (x.T + 6)) 0, .int 153 0, .str (strOf (codeAt w 238 2)) (x.T + 7)] }
noncomputable def ls (l : List Nat) (i : Nat) : Nat := l.getD i 0
noncomputable def Lx.cells (w : World) (x : Lx) (line : Int) (tl : Tok) (pb : List Value) (ep : Nat) : List (Addr × Obj) :=
  [(x.B + 13, inst 91 (x.B + 12)), (x.B + 12, dct w (ls [4, x.T + 28, x.T + 30, x.T + 33, x.T + 35]) [("lineno", .int line tl), ("instream", .ref (x.B + 9)), ("whitespace", .str "\n\t\r " (x.T + 31)), ("pushback", .ref (x.B + 15))]), (x.B + 15, lst pb ep)]
noncomputable def Lx.src (w : World) (x : Lx) (sg : List Value) (eg : Nat) : List (Addr × Obj) :=
  [(x.B + 9, inst 91 (x.B + 8)), (x.B + 8, dct w (ls [5, x.T + 13, x.T + 15, x.T + 18, x.T + 20, x.T + 23]) [("lineno", .int 1 (x.T + 11)), ("instream", .none), ("whitespace", .str "\n\t\r " (x.T + 16)), ("pushback", .ref (x.B + 11)), ("read", .ref (x.B + 7))]),
   (x.B + 7, { cls := .type "function", data := .func (takeFd w x) }), (x.B + 6, takeCode w x), (x.ce, cellObj (.ref x.aG)), (x.aG, lst sg eg)]
noncomputable def tab0 : Obj := { cls := .none, data := .fields #[] }
noncomputable def lexS (w : World) (cs : List Nat) (tk : Tok) : Job where
  code := .call (.ref 239) ⟨[.str ⟨cs.toArray⟩ tk], []⟩
  pre := [(234, tab0)]
  post := fun ν => [{ cls := .none, data := .fields #[.int 153 0, .int 4 0, .ref (ν 2 + 6)] }]
  new := fun ν => Lx.cells w ⟨ν 2, ν 3, ν 4, ν 5, 0⟩ 1 (ν 3 + 26) [] 0 ++ Lx.src w ⟨ν 2, ν 3, ν 4, ν 5, 0⟩ (sgn cs (dig (ν 6) (ν 7))) (ν 8)
  r := fun ν => .ok (.ret (.ref (ν 2 + 13)))
  d := 600
  u := 5000
theorem ctr_of_run_v {V : Par} {orc : Nat → Option OracleAt} {F : Shared → Prop} {S : Job} {n H : Nat} {J : List Nat} (xs : Nat → Nat → (Nat → Nat) → Goal → List Nat) (hJ : J.Nodup)
    (hOk : ∀ s, F s → Sat V (S.start s) s → Par.Ok ⟨V.prog, V.w, V.kt, orc⟩ (cellsOf S.pre) s)
    (hrun : ∀ base tb ν, Runs J (xs base tb ν) (fun ν => .ret (S.r ν)) S.out (goes ⟨V.prog, V.w, V.kt, orc⟩ n H S.code ⟨cellsOf S.pre, S.pre.length, base, 0, tb, 706⟩ (S.d + 6) (S.u + 10) ν)) : Ctr V F S := by
  intro A s R h0 hd hu hF hS hR
  refine goes_ok (V := ⟨V.prog, V.w, V.kt, orc⟩) (M := S.start s) (hOk s hF hS) (n := n) (H := H) (Sat.cast (V := V) (V' := ⟨V.prog, V.w, V.kt, orc⟩) rfl hS) h0 (d := S.d + 6) (u := S.u + 10) (by omega) (by omega) fun ν => ?_
  obtain ⟨g, e, ho, he, hg⟩ := (hrun s.heap.objs.size (s.toks - 706) ν).spec
  refine ⟨g, e, ho, fun s' I => ?_⟩
  refine EndAt.of_kind he ?_
  refine hR (nuOf g (xs s.heap.objs.size (s.toks - 706) ν g)) s' ?_
  have hs := I.sat.size
  have ht := I.sat.toks
  have hl := I.sat.lo
  exact (Inv.restrict hJ (Inv.cast (V := ⟨V.prog, V.w, V.kt, orc⟩) (V' := V) rfl I) hg (b := nuOf g (xs s.heap.objs.size (s.toks - 706) ν g) 0) (t := nuOf g (xs s.heap.objs.size (s.toks - 706) ν g) 1) hs (by show s'.toks = g.M.tb + g.M.toff - 706 + 706; omega))
theorem lex_ctr (w : World) {cs : List Nat} (hl : cs.length ≤ 10000) (tk : Tok) (F : Shared → Prop) : Ctr (B w) F (lexS w cs tk) :=
  ctr_of_run_v (V := B w) (n := 432) (H := 7394989814590076595028615968927186423001994937108123448369554899661229602548601593068624624851547294761082741475618330838164434668961112744880895025823486557938208046843870365492272540605152634458907730603386407466256039641294998800422616488573016792219409554164547780432112540366736921392239335542118908005734840232662026790717576208345962788302976774295487602994196773818457644640775689496727642476714769931972304832255972270139390907271432904911170297754878809358521755039273163983984000988240864986529471483298359333989967234712109704754501173440255763713253444134961851087849056030429313734353931729337751028359109981771794383797050426790001632924095434633612314774091551046227146976681647712744845159394955874993294699018408048543553824832262686706234835510390423553) (J := [0, 17, 16, 19, 13, 12, 11, 10, 2, 3]) (fun base tb ν G => [ν 16, ν 17 + 706, base + 1, ν 2, ν 18, ν 19, ν 20]) (orc := fun j => [newListQ, initStrQ cs 3][j]?) (nodupB rfl) (fun s hT hS => mk_ok (by
    intro Q hQ
    simp only [List.mem_cons, List.not_mem_nil, or_false] at hQ
    rcases hQ with rfl | rfl
    · exact newListQ_ok
    · exact initStrQ_ok hl 3)) (by intro base tb ν; unfold Runs; kernel_rfl)
end Mine
end
section
open PySem PySem.Spec PySem.Calls PySem.W PySem.W.X PyProof.Rows
set_option Elab.async false
set_option maxRecDepth 100000
set_option maxHeartbeats 0
namespace Mine
/-! ## one sign -/
structure Ls where
  line : Int
  tl : Tok
  pb : List Value
  ep : Nat
  eg : Nat
noncomputable def Lx.all (w : World) (x : Lx) (l : Ls) (sg : List Value) : List (Addr × Obj) := x.cells w l.line l.tl l.pb l.ep ++ x.src w sg l.eg
noncomputable def readS (w : World) (x : Lx) (l : Ls) (cs : List Nat) (c : Nat) (g : Nat → Nat) (b : Bool) : Job where
  code := .call (.ref 74) ⟨[.ref (x.B + 13)], []⟩
  pre := x.all w l (sgn (c :: cs) g)
  post := fun ν => (x.all w { l with eg := ν 3, line := if b then l.line + 1 else l.line, tl := if b then ν 4 else l.tl } (sgn cs fun i => g (i + 1))).map Prod.snd
  new := fun _ => []
  r := fun _ => strR ⟨#[c]⟩ (g 0)
  d := 560
  u := 4600
noncomputable def readEndS (w : World) (x : Lx) (l : Ls) : Job where
  code := .call (.ref 74) ⟨[.ref (x.B + 13)], []⟩
  pre := x.all w l []
  post := fun ν => (x.all w { l with eg := ν 3 } []).map Prod.snd
  new := fun _ => []
  r := fun ν => strR ⟨#[]⟩ (ν 2)
  d := 560
  u := 4600
noncomputable def upQ (vs out : List Value) (u : Int) (i j : Nat) : OracleAt := QF [i, j] (fun _ ps => both (two ps) (tokIn 1 1 ps)) (fun p => sliceS vs out .none (.int u p.2) .none p.1) 990 9000
theorem upQ_ok {w : World} {T₀ : CT} {s₀ : Shared} {vs out : List Value} {u : Int} (hl : vs.length ≤ 10000) (ho : slicePick vs.toArray none (some u) none = out.toArray) {i j : Nat} (h : i ≠ j) : OracleOk (B w) T₀ s₀ (upQ vs out u i j) :=
  lift_ok (F := fun _ => True) (by simp [h]) (fun _ _ _ => trivial) (fun p => slice_ctr w .none (.int u p.2) .none (by simp) hl ho p.1) (fun _ => Nat.le_refl _) (fun _ => Nat.le_refl _)
noncomputable def readO (cs : List Nat) (c : Nat) (g : Nat → Nat) (b : Bool) : List OracleAt := [upQ (sgn (c :: cs) g) [.str ⟨#[c]⟩ (g 0)] 1 8 11, eqQ ⟨#[c]⟩ ⟨#[10]⟩ b, addQ, cutQ (sgn (c :: cs) g) 1 8 13]
noncomputable def obG (j : Nat) (G : Goal) : Obj := match G.M.T.get j with
  | some p => p.2
  | none => tup0
noncomputable def xsRead (G : Goal) : List Nat := [tokR G.e, ktoks (obG 8 G) 0, tokV (valIn (obG 1 G) 0)]
theorem slicePick_one (v : Value) (vs : List Value) : slicePick (v :: vs).toArray none (some 1) none = [v].toArray := by
  have := slicePick_upto' (v :: vs).toArray 1
  simpa using this
theorem readO_ok {w : World} {cs : List Nat} (hl : cs.length ≤ 5000) {c : Nat} (g : Nat → Nat) {b : Bool} (hb : ((⟨#[c]⟩ : Str).cps.toList == (⟨#[10]⟩ : Str).cps.toList) = b) (T : CT) (s : Shared) : Par.Ok ⟨(B w).prog, (B w).w, (B w).kt, fun j => (readO cs c g b)[j]?⟩ T s := mk_ok (by
  intro Q hQ
  simp only [readO, List.mem_cons, List.not_mem_nil, or_false] at hQ
  have h1 : (sgn (c :: cs) g).length ≤ 10000 := by rw [sgn_length]; simp only [List.length_cons]; omega
  rcases hQ with rfl | rfl | rfl | rfl
  · exact upQ_ok h1 (slicePick_one _ _) (by decide)
  · exact eqQ_ok hb
  · exact addQ_ok
  · exact cutQ_ok 1 h1 (by decide))
theorem readN_ctr (w : World) (x : Lx) (l : Ls) {cs : List Nat} (hl : cs.length ≤ 5000) {c : Nat} (hc : c ≠ 10) (g : Nat → Nat) (F : Shared → Prop) : Ctr (B w) F (readS w x l cs c g false) :=
  ctr_of_run (V := B w) (n := 126) (H := 45713516627141955114164048609211801463576196280119477750658193978108149827864516197270783858873022102492853580916815093650912707160188105004050911711532807892687867454496170713240987036704309249) (J := [0, 1, 2, 3, 4, 5, 6, 7, 8]) (xs := xsRead) (orc := fun j => (readO cs c g false)[j]?) (nodupB rfl) (fun s _ _ => readO_ok hl g (by simpa using hc) _ s) (by intro base tb ν; unfold Runs; kernel_rfl)
theorem readL_ctr (w : World) (x : Lx) (l : Ls) {cs : List Nat} (hl : cs.length ≤ 5000) (g : Nat → Nat) (F : Shared → Prop) : Ctr (B w) F (readS w x l cs 10 g true) :=
  ctr_of_run (V := B w) (n := 174) (H := 22707873476861916301664910900955674298715831841307067938621938418236181696552482895540897909180312113612121681940462222764046348983367910290074025669552267818531489958379243992756119440862759929146916045175917060378552288751060089344896410060888667294716228580164972919453810425857) (J := [0, 1, 2, 3, 4, 5, 6, 7, 8]) (xs := xsRead) (orc := fun j => (readO cs 10 g true)[j]?) (nodupB rfl) (fun s _ _ => readO_ok hl g (by decide) _ s) (by intro base tb ν; unfold Runs; kernel_rfl)
theorem readE_ctr (w : World) (x : Lx) (l : Ls) (F : Shared → Prop) : Ctr (B w) F (readEndS w x l) :=
  ctr_plain (n := 146) (H := 60645238356145671268875432329939431503289501221788720349147383301545245114590157721836704681639930630829451088251017158710663798113211743123965865078337196516022531045599159569959050315896512899533003405845611157284051277758595073) (J := [0, 1, 2, 3, 4, 5, 6, 7, 8]) (xs := xsRead) (nodupB rfl) (by intro base tb ν; unfold Runs; kernel_rfl)
end Mine
end
section
open PySem PySem.Spec PySem.Calls PySem.W PySem.W.X PyProof.Rows
set_option Elab.async false
set_option maxRecDepth 100000
set_option maxHeartbeats 0
namespace Mine
/-! ## the next sign, through the iterator -/
noncomputable def intOf : Value → Int
  | .int i _ => i
  | _ => 0
noncomputable def lsOf (k : Nat) (ps : List (Addr × Obj)) : Ls := ⟨intOf (valIn (obAt (k + 1) ps) 0), tokV (valIn (obAt (k + 1) ps) 0), [], ktoks (obAt (k + 2) ps) 0, ktoks (obAt (k + 8) ps) 0⟩
noncomputable def readQ (w : World) (x : Lx) (cs : List Nat) (c : Nat) (g : Nat → Nat) (J : List Nat) : OracleAt := QF J (fun _ ps => some (lsOf 0 ps)) (fun l => readS w x { l with pb := [] } cs c g (Nat.beq c 10)) 560 4600
noncomputable def readEQ (w : World) (x : Lx) (J : List Nat) : OracleAt := QF J (fun _ ps => some (lsOf 0 ps)) (fun l => readEndS w x { l with pb := [] }) 560 4600
noncomputable def callIt (m : Addr) (t : Tok) (b : Bool) : Obj := { cls := .type "callable_iterator", data := .fields #[.ref m, .str ⟨#[]⟩ t, .bool b] }
noncomputable def meth (f s : Addr) : Obj := { cls := .type "method", data := .fields #[.ref f, .ref s] }
structure Ci where
  it : Addr
  me : Addr
  t : Tok
noncomputable def nextS' (w : World) (x : Lx) (cs : List Nat) (c : Nat) (g : Nat → Nat) (a : Ci × Ls) : Job where
  code := .builtin "callable_iterator.__next__" ⟨[.ref a.1.it], []⟩
  pre := [(a.1.it, callIt a.1.me a.1.t false), (a.1.me, meth 74 (x.B + 13))] ++ x.all w { a.2 with pb := [] } (sgn (c :: cs) g)
  post := fun ν => [callIt a.1.me a.1.t false, meth 74 (x.B + 13)] ++ (x.all w { a.2 with pb := [], eg := ν 3, line := if Nat.beq c 10 then a.2.line + 1 else a.2.line, tl := if Nat.beq c 10 then ν 4 else a.2.tl } (sgn cs fun i => g (i + 1))).map Prod.snd
  new := fun _ => []
  r := fun _ => strR ⟨#[c]⟩ (g 0)
  d := 540
  u := 4560
theorem read_ctr (w : World) (x : Lx) (l : Ls) {cs : List Nat} (hl : cs.length ≤ 5000) (c : Nat) (g : Nat → Nat) (F : Shared → Prop) : Ctr (B w) F (readS w x l cs c g (Nat.beq c 10)) := by
  by_cases h : c = 10
  · subst h; exact readL_ctr w x l hl g F
  · rw [show Nat.beq c 10 = false by rw [← Bool.not_eq_true, Nat.beq_eq]; exact h]
    exact readN_ctr w x l hl h g F
theorem readQ_ok {w : World} {T₀ : CT} {s₀ : Shared} (x : Lx) {cs : List Nat} (hl : cs.length ≤ 5000) (c : Nat) (g : Nat → Nat) {J : List Nat} (hJ : J.Nodup) : OracleOk (B w) T₀ s₀ (readQ w x cs c g J) :=
  lift_ok (F := fun _ => True) hJ (fun _ _ _ => trivial) (fun l => read_ctr w x { l with pb := [] } hl c g _) (fun _ => Nat.le_refl _) (fun _ => Nat.le_refl _)
noncomputable def signs : List Nat := [34, 92, 64, 80, 96, 112, 128, 144, 48, 32, 9, 13, 10]
noncomputable def xsNext (G : Goal) : List Nat := [0, ktoks (obG 10 G) 0, tokV (valIn (obG 3 G) 0)]
theorem next_all (w : World) (x : Lx) {cs : List Nat} (hl : cs.length ≤ 5000) {c : Nat} (hc : c ∈ signs) (g : Nat → Nat) (a : Ci × Ls) (F : Shared → Prop) : Ctr (B w) F (nextS' w x cs c g a) := by
  have ok : ∀ T s, Par.Ok ⟨(B w).prog, (B w).w, (B w).kt, fun j => [readQ w x cs c g [2, 3, 4, 5, 6, 7, 8, 9, 10]][j]?⟩ T s := fun T s => mk_ok (by
    intro Q hQ
    simp only [List.mem_cons, List.not_mem_nil, or_false] at hQ
    rcases hQ with rfl
    exact readQ_ok x hl c g (nodupB rfl))
  simp only [signs, List.mem_cons, List.not_mem_nil, or_false] at hc
  rcases hc with rfl | rfl | rfl | rfl | rfl | rfl | rfl | rfl | rfl | rfl | rfl | rfl | rfl
  all_goals
    refine ctr_of_run (V := B w) (n := 16) (H := 1213666921634898668224768) (J := [0, 1, 2, 3, 4, 5, 6, 7, 8, 9, 10]) (xs := xsNext) (nodupB rfl) (fun s _ _ => ok _ s) ?_
    intro base tb ν; unfold Runs; kernel_rfl
end Mine
end
section
open PySem PySem.Spec PySem.Calls PySem.W PySem.W.X PyProof.Rows
set_option Elab.async false
set_option maxRecDepth 100000
set_option maxHeartbeats 0
namespace Mine
/-! ## one token of the text -/
noncomputable def up (n : Int) (b : Bool) : Int := if b then n + 1 else n
noncomputable def gs (g : Nat → Nat) (k : Nat) : Nat → Nat := fun i => g (i + k)
noncomputable def nextB (w : World) (x : Lx) (cs : List Nat) (c : Nat) (g : Nat → Nat) (b : Bool) (a : Ci × Ls) : Job where
  code := .builtin "callable_iterator.__next__" ⟨[.ref a.1.it], []⟩
  pre := [(a.1.it, callIt a.1.me a.1.t false), (a.1.me, meth 74 (x.B + 13))] ++ x.all w { a.2 with pb := [] } (sgn (c :: cs) g)
  post := fun ν => [callIt a.1.me a.1.t false, meth 74 (x.B + 13)] ++ (x.all w { a.2 with pb := [], eg := ν 3, line := up a.2.line b, tl := if b then ν 4 else a.2.tl } (sgn cs fun i => g (i + 1))).map Prod.snd
  new := fun _ => []
  r := fun _ => strR ⟨#[c]⟩ (g 0)
  d := 540
  u := 4560
noncomputable def fTok (o : Obj) (i : Nat) : Nat := match o.data with
  | .fields vs => match vs[i]? with
    | some v => tokV v
    | none => 0
  | _ => 0
noncomputable def nextCQ (w : World) (x : Lx) (cs : List Nat) (c : Nat) (g : Nat → Nat) (b : Bool) : OracleAt := QF [11, 10, 0, 1, 2, 3, 4, 5, 6, 7, 8] (fun _ ps => some (Ci.mk (adAt 0 ps) (adAt 1 ps) (fTok (obAt 0 ps) 1), lsOf 2 ps)) (nextB w x cs c g b) 540 4560
noncomputable def contQ (c : Nat) (b : Bool) : OracleAt := pureQ "str.__contains__" exSS (fun a => argSS (("\n\t\r ", a.1.2), (⟨#[c]⟩, a.2.2))) fun _ => .val (.bool b)
noncomputable def tokS (w : World) (x : Lx) (l : Ls) (cs cs' : List Nat) (g : Nat → Nat) (k : Nat) (word : Str) (n : Int) : Job where
  code := .call (.ref 81) ⟨[.ref (x.B + 13)], []⟩
  pre := x.all w { l with pb := [] } (sgn cs g)
  post := fun ν => (x.all w { l with pb := [], eg := ν 3, line := n, tl := ν 4 } (sgn cs' (gs g k))).map Prod.snd
  new := fun _ => []
  r := fun ν => strR word (ν 2)
  d := 460
  u := 4400
noncomputable def nextsQ (w : World) (x : Lx) : List (Nat × Bool) → List Nat → (Nat → Nat) → List OracleAt
  | [], _, _ => []
  | c :: l, r, g => nextCQ w x (l.map Prod.fst ++ r) c.1 g c.2 :: nextsQ w x l r fun i => g (i + 1)
noncomputable def chQ (c : Nat) : List OracleAt := [contQ c false, eqQ ⟨#[c]⟩ ⟨#[34]⟩ false, eqQ ⟨#[c]⟩ ⟨#[92]⟩ false]
noncomputable def qcQ (c : Nat) : List OracleAt := [eqQ ⟨#[c]⟩ ⟨#[34]⟩ false, eqQ ⟨#[c]⟩ ⟨#[92]⟩ false]
noncomputable def quoO (w : World) (x : Lx) (c d e : Nat) (r : List Nat) (g : Nat → Nat) : List OracleAt := nextsQ w x [(34, false), (c, false), (d, false), (e, false), (34, false)] r g ++ qcQ c ++ qcQ d ++ qcQ e
noncomputable def quoBO (w : World) (x : Lx) (p : Nat) (b : Bool) (c d e : Nat) (r : List Nat) (g : Nat → Nat) : List OracleAt := nextsQ w x [(p, b), (34, false), (c, false), (d, false), (e, false), (34, false)] r g ++ [contQ p true] ++ qcQ c ++ qcQ d ++ qcQ e
noncomputable def bareO (w : World) (x : Lx) (c d e q : Nat) (z : Bool) (r : List Nat) (g : Nat → Nat) : List OracleAt := nextsQ w x [(c, false), (d, false), (e, false), (q, z)] r g ++ [contQ q true] ++ chQ c ++ chQ d ++ chQ e
noncomputable def bareBO (w : World) (x : Lx) (p : Nat) (b : Bool) (c d e q : Nat) (z : Bool) (r : List Nat) (g : Nat → Nat) : List OracleAt := nextsQ w x [(p, b), (c, false), (d, false), (e, false), (q, z)] r g ++ [contQ p true, contQ q true] ++ chQ c ++ chQ d ++ chQ e
noncomputable def escO (w : World) (x : Lx) (c d e q : Nat) (z : Bool) (r : List Nat) (g : Nat → Nat) : List OracleAt := readQ w x (q :: r) e (gs g 3) [0, 1, 2, 3, 4, 5, 6, 7, 8] :: nextsQ w x [(c, false), (d, false), (92, false), (e, false), (q, z)] r g ++ [contQ q true] ++ chQ c ++ chQ d
noncomputable def escBO (w : World) (x : Lx) (p : Nat) (b : Bool) (c d e q : Nat) (z : Bool) (r : List Nat) (g : Nat → Nat) : List OracleAt := readQ w x (q :: r) e (gs g 4) [0, 1, 2, 3, 4, 5, 6, 7, 8] :: nextsQ w x [(p, b), (c, false), (d, false), (92, false), (e, false), (q, z)] r g ++ [contQ p true, contQ q true] ++ chQ c ++ chQ d
noncomputable def pushS (w : World) (x : Lx) (l : Ls) (v : Str) (t : Tok) : Job where
  code := .call (.ref 88) ⟨[.ref (x.B + 13), .str v t], []⟩
  pre := x.cells w l.line l.tl l.pb l.ep
  post := fun _ => (x.cells w l.line l.tl (l.pb ++ [.str v t]) (l.ep + 1)).map Prod.snd
  new := fun _ => []
  r := fun _ => noneR
  d := 500
  u := 4400
noncomputable def popTS (w : World) (x : Lx) (l : Ls) (v : Str) (t : Tok) : Job where
  code := .call (.ref 81) ⟨[.ref (x.B + 13)], []⟩
  pre := x.cells w l.line l.tl (.str v t :: l.pb) l.ep
  post := fun _ => (x.cells w l.line l.tl l.pb (l.ep + 1)).map Prod.snd
  new := fun _ => []
  r := fun _ => strR v t
  d := 460
  u := 4400
noncomputable def blanks : List Nat := [32, 9, 13, 10]
noncomputable def plains : List Nat := [64, 80, 96, 112, 128, 144, 48]
noncomputable def inner : List Nat := [64, 80, 96, 112, 128, 144, 48, 32]
section
variable {w : World} {T₀ : CT} {s₀ : Shared}
theorem contQ_ok {c : Nat} {b : Bool} (h : (!(Builtin.Str.occurrences ("\n\t\r " : Str) ⟨#[c]⟩ 0 ("\n\t\r " : Str).length 1).isEmpty) = b) : OracleOk (B w) T₀ s₀ (contQ c b) := pure_ok F.entry_str_contains (by decide +kernel) (fun a => h ▸ gives_str_contains _ _ _ _) fun _ => trivial
theorem contB_ok {c : Nat} (h : c ∈ blanks) : OracleOk (B w) T₀ s₀ (contQ c true) := by
  simp only [blanks, List.mem_cons, List.not_mem_nil, or_false] at h
  rcases h with rfl | rfl | rfl | rfl <;> exact contQ_ok (by decide +kernel)
theorem contP_ok {c : Nat} (h : c ∈ plains) : OracleOk (B w) T₀ s₀ (contQ c false) := by
  simp only [plains, List.mem_cons, List.not_mem_nil, or_false] at h
  rcases h with rfl | rfl | rfl | rfl | rfl | rfl | rfl <;> exact contQ_ok (by decide +kernel)
theorem inner_eq {c : Nat} (h : c ∈ inner) : ((⟨#[c]⟩ : Str).cps.toList == (⟨#[34]⟩ : Str).cps.toList) = false ∧ ((⟨#[c]⟩ : Str).cps.toList == (⟨#[92]⟩ : Str).cps.toList) = false := by
  simp only [inner, List.mem_cons, List.not_mem_nil, or_false] at h
  rcases h with rfl | rfl | rfl | rfl | rfl | rfl | rfl | rfl <;> exact ⟨by decide, by decide⟩
theorem plain_inner {c : Nat} (h : c ∈ plains) : c ∈ inner := by
  simp only [plains, inner, List.mem_cons, List.not_mem_nil, or_false] at h ⊢
  omega
theorem inner_sign {c : Nat} (h : c ∈ inner) : c ∈ signs ∧ Nat.beq c 10 = false := by
  simp only [inner, List.mem_cons, List.not_mem_nil, or_false] at h
  rcases h with rfl | rfl | rfl | rfl | rfl | rfl | rfl | rfl <;> exact ⟨by decide, rfl⟩
theorem blank_sign {c : Nat} (h : c ∈ blanks) : c ∈ signs := by
  simp only [blanks, List.mem_cons, List.not_mem_nil, or_false] at h
  rcases h with rfl | rfl | rfl | rfl <;> decide
theorem nextCQ_ok (x : Lx) {cs : List Nat} (hl : cs.length ≤ 5000) {c : Nat} (hc : c ∈ signs) (g : Nat → Nat) {b : Bool} (hb : Nat.beq c 10 = b) : OracleOk (B w) T₀ s₀ (nextCQ w x cs c g b) := by
  subst hb
  exact lift_ok (F := fun _ => True) (nodupB rfl) (fun _ _ _ => trivial) (fun a => next_all w x hl hc g a _) (fun _ => Nat.le_refl _) (fun _ => Nat.le_refl _)
theorem nextsQ_ok (x : Lx) {r : List Nat} (hr : r.length ≤ 4000) : ∀ (l : List (Nat × Bool)) (g : Nat → Nat), l.length ≤ 1000 → (∀ p ∈ l, p.1 ∈ signs ∧ Nat.beq p.1 10 = p.2) → ∀ Q ∈ nextsQ w x l r g, OracleOk (B w) T₀ s₀ Q
  | [], _, _, _, Q, hQ => by simp [nextsQ] at hQ
  | p :: l, g, hl, h, Q, hQ => by
    rw [nextsQ, List.mem_cons] at hQ
    rw [List.length_cons] at hl
    rcases hQ with rfl | hQ
    · exact nextCQ_ok x (by simp; omega) (h p (List.mem_cons_self ..)).1 g (h p (List.mem_cons_self ..)).2
    · exact nextsQ_ok x hr l _ (by omega) (fun p hp => h p (List.mem_cons_of_mem _ hp)) Q hQ
theorem qcQ_ok {c : Nat} (h : c ∈ inner) : ∀ Q ∈ qcQ c, OracleOk (B w) T₀ s₀ Q := fun Q hQ => by
  simp only [qcQ, List.mem_cons, List.not_mem_nil, or_false] at hQ
  rcases hQ with rfl | rfl
  · exact eqQ_ok (inner_eq h).1
  · exact eqQ_ok (inner_eq h).2
theorem chQ_ok {c : Nat} (h : c ∈ plains) : ∀ Q ∈ chQ c, OracleOk (B w) T₀ s₀ Q := fun Q hQ => by
  simp only [chQ, List.mem_cons, List.not_mem_nil, or_false] at hQ
  rcases hQ with rfl | rfl | rfl
  · exact contP_ok h
  · exact eqQ_ok (inner_eq (plain_inner h)).1
  · exact eqQ_ok (inner_eq (plain_inner h)).2
theorem all_app {P : OracleAt → Prop} {a b : List OracleAt} (h : ∀ Q ∈ a, P Q) (h' : ∀ Q ∈ b, P Q) : ∀ Q ∈ a ++ b, P Q := fun Q hQ => (List.mem_append.mp hQ).elim (h Q) (h' Q)
theorem all_one {P : OracleAt → Prop} {a : OracleAt} (h : P a) : ∀ Q ∈ [a], P Q := fun Q hQ => by rw [List.mem_singleton] at hQ; subst hQ; exact h
theorem all_cons {P : OracleAt → Prop} {a : OracleAt} {b : List OracleAt} (h : P a) (h' : ∀ Q ∈ b, P Q) : ∀ Q ∈ a :: b, P Q := fun Q hQ => (List.mem_cons.mp hQ).elim (fun e => e ▸ h) (h' Q)
theorem seq1 {a : Nat × Bool} {l : List (Nat × Bool)} (h : a.1 ∈ signs ∧ Nat.beq a.1 10 = a.2) (h' : ∀ p ∈ l, p.1 ∈ signs ∧ Nat.beq p.1 10 = p.2) : ∀ p ∈ a :: l, p.1 ∈ signs ∧ Nat.beq p.1 10 = p.2 := fun p hp => (List.mem_cons.mp hp).elim (fun e => e ▸ h) (h' p)
theorem seq0 : ∀ p ∈ ([] : List (Nat × Bool)), p.1 ∈ signs ∧ Nat.beq p.1 10 = p.2 := fun p hp => by cases hp
end
noncomputable def xsTok (G : Goal) : List Nat := [tokR G.e, ktoks (obG 8 G) 0, tokV (valIn (obG 1 G) 0)]
section
variable {w : World} {F : Shared → Prop} (x : Lx) (l : Ls) {r : List Nat} (hr : r.length ≤ 4000) (g : Nat → Nat)
include hr
theorem quo_ctr {c d e : Nat} (hc : c ∈ inner) (hd : d ∈ inner) (he : e ∈ inner) : Ctr (B w) F (tokS w x l (34 :: c :: d :: e :: 34 :: r) r g 5 ⟨#[c, d, e]⟩ l.line) :=
  ctr_of_run (V := B w) (n := 334) (H := 21921663954808623315491950615692688621526154440076272744583731432954242099149048356292151099657565579264797410205973159115081338209292373716083418326583166576256167170352048280513671721009814858310060683162443347070377434500096578602359872188230539468230009097462670444517830011955639327101874545291513467108025492537151181235122750871556477143924120940842638638855892585889865956422310196218763767124795636044321680672126564502288707586836379524399105) (J := [0, 1, 2, 3, 4, 5, 6, 7, 8]) (xs := xsTok) (orc := fun j => (quoO w x c d e r g)[j]?) (nodupB rfl) (fun s _ _ => mk_ok (all_app (all_app (all_app (nextsQ_ok x hr _ _ (by simp) (seq1 (by decide) (seq1 (inner_sign hc) (seq1 (inner_sign hd) (seq1 (inner_sign he) (seq1 (by decide) seq0)))))) (qcQ_ok hc)) (qcQ_ok hd)) (qcQ_ok he))) (by intro base tb ν; unfold Runs; kernel_rfl)
theorem bare_ctr {c d e q : Nat} {z : Bool} (hc : c ∈ plains) (hd : d ∈ plains) (he : e ∈ plains) (hq : q ∈ blanks) (hz : Nat.beq q 10 = z) : Ctr (B w) F (tokS w x l (c :: d :: e :: q :: r) r g 4 ⟨#[c, d, e]⟩ (up l.line z)) :=
  ctr_of_run (V := B w) (n := 361) (H := 2315835121033591824517996781212796939738869559188041533861228287982857115803873077525794675742319525887147192932055736897144329411263355117300488694593267167288315607243657518004512021075178330065005285898449240059114225757190829441178895629317362698484976313992606294903813594040316413919320100423797268089585196236347606449824003764905963670784927039893494824034141413027116840791525843590927955154111015577610176523518677392800681892865056981625710532397323606380589661100774291033612144129472027664267515923529729) (J := [0, 1, 2, 3, 4, 5, 6, 7, 8]) (xs := xsTok) (orc := fun j => (bareO w x c d e q z r g)[j]?) (nodupB rfl) (fun s _ _ => mk_ok (all_app (all_app (all_app (all_app (nextsQ_ok x hr _ _ (by simp) (seq1 (inner_sign (plain_inner hc)) (seq1 (inner_sign (plain_inner hd)) (seq1 (inner_sign (plain_inner he)) (seq1 ⟨blank_sign hq, hz⟩ seq0))))) (all_one (contB_ok hq))) (chQ_ok hc)) (chQ_ok hd)) (chQ_ok he))) (by intro base tb ν; unfold Runs; kernel_rfl)
theorem esc_ctr {c d q : Nat} {z : Bool} (hc : c ∈ plains) (hd : d ∈ plains) (hq : q ∈ blanks) (hz : Nat.beq q 10 = z) : Ctr (B w) F (tokS w x l (c :: d :: 92 :: 32 :: q :: r) r g 5 ⟨#[c, d, 32]⟩ (up l.line z)) :=
  ctr_of_run (V := B w) (n := 394) (H := 867131596794975346597744423861206235861242247725666069783795116056659627589245630218982820186017735210008664030083381666767913690646267657038459691769569122993945633633690997369629092624700701199448872150622643292498936138455412156861148006384108155658491466192127452366098968531382965347700331761488575449061751205512668800513483073481101186339084647877950555898431399598153907561935348394013145829239782371613679123276194664633489083968254227428650536022961031838986576584494836525200959907092286278325959081845834215579698651266647857104677441791735723173565431809) (J := [0, 1, 2, 3, 4, 5, 6, 7, 8]) (xs := xsTok) (orc := fun j => (escO w x c d 32 q z r g)[j]?) (nodupB rfl) (fun s _ _ => mk_ok (all_app (all_app (all_app (all_cons (readQ_ok x (by simp; omega) 32 _ (nodupB rfl)) (nextsQ_ok x hr _ _ (by simp) (seq1 (inner_sign (plain_inner hc)) (seq1 (inner_sign (plain_inner hd)) (seq1 (by decide) (seq1 (by decide) (seq1 ⟨blank_sign hq, hz⟩ seq0))))))) (all_one (contB_ok hq))) (chQ_ok hc)) (chQ_ok hd))) (by intro base tb ν; unfold Runs; kernel_rfl)
theorem quoB_ctr {p c d e : Nat} {b : Bool} (hp : p ∈ blanks) (hb : Nat.beq p 10 = b) (hc : c ∈ inner) (hd : d ∈ inner) (he : e ∈ inner) : Ctr (B w) F (tokS w x l (p :: 34 :: c :: d :: e :: 34 :: r) r g 6 ⟨#[c, d, e]⟩ (up l.line b)) :=
  ctr_of_run (V := B w) (n := 373) (H := 35226755802442971333114578434194654141723973068836840754831471342332476306929996514796236129178259467840734301478406288383801838735255672662761344717068631585920059972607936366520366073629421922137991977926632157394343256248802422221926089863257756340671397561769112971837441884283333235210912308398795520116019768083657967411306056184157126217494595596256144675600556085376514927484376984740457631182653534430279836444665299247243323416657560862906074812317853186984940252039140762949417489538865375575403397121) (J := [0, 1, 2, 3, 4, 5, 6, 7, 8]) (xs := xsTok) (orc := fun j => (quoBO w x p b c d e r g)[j]?) (nodupB rfl) (fun s _ _ => mk_ok (all_app (all_app (all_app (all_app (nextsQ_ok x hr _ _ (by simp) (seq1 ⟨blank_sign hp, hb⟩ (seq1 (by decide) (seq1 (inner_sign hc) (seq1 (inner_sign hd) (seq1 (inner_sign he) (seq1 (by decide) seq0))))))) (all_one (contB_ok hp))) (qcQ_ok hc)) (qcQ_ok hd)) (qcQ_ok he))) (by intro base tb ν; unfold Runs; kernel_rfl)
theorem bareB_ctr {p c d e q : Nat} {b z : Bool} (hp : p ∈ blanks) (hb : Nat.beq p 10 = b) (hc : c ∈ plains) (hd : d ∈ plains) (he : e ∈ plains) (hq : q ∈ blanks) (hz : Nat.beq q 10 = z) : Ctr (B w) F (tokS w x l (p :: c :: d :: e :: q :: r) r g 5 ⟨#[c, d, e]⟩ (up (up l.line b) z)) :=
  ctr_of_run (V := B w) (n := 400) (H := 3724301849562677530763577167850242826135297847915265157993233047603997917916523002854723887482595607232270207393679245605392425876861367349676328829227833693425006761901252945799724124378048102068590622651133519037873751522775136199842108338338038337553585896984816534907756780073678609481032048155684895107564953080948211924619077434451038462755265267799608708595048095662468133832173254246445966761026025225565361554952353524504786708991908172892065031137098458427607144209286889647268479162888323179319519246804592936839794598284210471991878348891633159456638540729450233857) (J := [0, 1, 2, 3, 4, 5, 6, 7, 8]) (xs := xsTok) (orc := fun j => (bareBO w x p b c d e q z r g)[j]?) (nodupB rfl) (fun s _ _ => mk_ok (all_app (all_app (all_app (all_app (nextsQ_ok x hr _ _ (by simp) (seq1 ⟨blank_sign hp, hb⟩ (seq1 (inner_sign (plain_inner hc)) (seq1 (inner_sign (plain_inner hd)) (seq1 (inner_sign (plain_inner he)) (seq1 ⟨blank_sign hq, hz⟩ seq0)))))) (all_cons (contB_ok hp) (all_one (contB_ok hq)))) (chQ_ok hc)) (chQ_ok hd)) (chQ_ok he))) (by intro base tb ν; unfold Runs; kernel_rfl)
theorem escB_ctr {p c d q : Nat} {b z : Bool} (hp : p ∈ blanks) (hb : Nat.beq p 10 = b) (hc : c ∈ plains) (hd : d ∈ plains) (hq : q ∈ blanks) (hz : Nat.beq q 10 = z) : Ctr (B w) F (tokS w x l (p :: c :: d :: 92 :: 32 :: q :: r) r g 6 ⟨#[c, d, 32]⟩ (up (up l.line b) z)) :=
  ctr_of_run (V := B w) (n := 433) (H := 1394511131051556396020397058340380386146843642218977750800353771817336211501899797426487890798601710358471582595084371746071269724141539015914416076140754628076835128408220363716624618771324894338872945829810875278214512037772029381431552902523901783721699576599697755558426343171517375285458553446219989422866218699381863757883663174014486762519739715605042216021472000070014944063152483474590885181947871565332950142074960077949792869401266511925085644474567639939756250076868601811466280501545277276613396422390808376170304944429540845774869046479508289805061727555723933514095186796366272699141249935941749913686045349642241) (J := [0, 1, 2, 3, 4, 5, 6, 7, 8]) (xs := xsTok) (orc := fun j => (escBO w x p b c d 32 q z r g)[j]?) (nodupB rfl) (fun s _ _ => mk_ok (all_app (all_app (all_app (all_cons (readQ_ok x (by simp; omega) 32 _ (nodupB rfl)) (nextsQ_ok x hr _ _ (by simp) (seq1 ⟨blank_sign hp, hb⟩ (seq1 (inner_sign (plain_inner hc)) (seq1 (inner_sign (plain_inner hd)) (seq1 (by decide) (seq1 (by decide) (seq1 ⟨blank_sign hq, hz⟩ seq0)))))))) (all_cons (contB_ok hp) (all_one (contB_ok hq)))) (chQ_ok hc)) (chQ_ok hd))) (by intro base tb ν; unfold Runs; kernel_rfl)
end
theorem push_ctr (w : World) (x : Lx) (l : Ls) (hl : l.pb.length ≤ 1000) (v : Str) (t : Tok) (F : Shared → Prop) : Ctr (B w) F (pushS w x l v t) :=
  ctr_of_run (V := B w) (n := 37) (H := 108155729990265561235114717042500145972652596814819110528865580089345) (J := [0, 1, 2]) (xs := fun _ => []) (orc := fun j => [appendQ l.pb 2][j]?) (nodupB rfl) (fun s _ _ => mk_ok (all_one (appendQ_ok hl 2))) (by intro base tb ν; unfold Runs; kernel_rfl)
theorem popT_ctr (w : World) (x : Lx) (l : Ls) (hl : l.pb.length ≤ 1000) (v : Str) (t : Tok) (F : Shared → Prop) : Ctr (B w) F (popTS w x l v t) :=
  ctr_of_run (V := B w) (n := 60) (H := 701560695103410318905339938075017023929533627123358839201391127383636700332290641116636188618268868609) (J := [0, 1, 2]) (xs := fun _ => []) (orc := fun j => [lenQ (.str v t :: l.pb) 2, popQ (.str v t) l.pb 2][j]?) (nodupB rfl) (fun s _ _ => mk_ok (all_cons (lenQ_ok (by simp; omega) 2) (all_one (popQ_ok (by omega) 2)))) (by intro base tb ν; unfold Runs; kernel_rfl)
end Mine
end
section
open PySem PySem.Spec PySem.Calls PySem.W PySem.W.X PyProof.Rows
set_option Elab.async false
set_option maxRecDepth 100000
set_option maxHeartbeats 1000000
namespace Mine
/-! ## the end of the text -/
noncomputable def cPre (w : World) (x : Lx) (a : Ci × Ls) : List (Addr × Obj) := [(a.1.it, callIt a.1.me a.1.t false), (a.1.me, meth 74 (x.B + 13))] ++ x.all w { a.2 with pb := [] } []
noncomputable def callES (w : World) (x : Lx) (a : Ci × Ls) : Job where
  code := .call (.ref a.1.me) ⟨[], []⟩
  pre := cPre w x a
  post := fun ν => (cPre w x (a.1, { a.2 with eg := ν 3 })).map Prod.snd
  new := fun _ => []
  r := fun ν => strR ⟨#[]⟩ (ν 2)
  d := 550
  u := 4580
noncomputable def callEnd : Obj := { cls := .type "callable_iterator", data := .fields #[.none, .none, .bool true] }
noncomputable def endCS (w : World) (x : Lx) (a : Ci × Ls) : Job where
  code := .builtin "callable_iterator.__next__" ⟨[.ref a.1.it], []⟩
  pre := cPre w x a
  post := fun ν => callEnd :: ((cPre w x (a.1, { a.2 with eg := ν 5 })).map Prod.snd).tail
  new := fun ν => [(ν 2, tup0), (ν 3, stopExc (ν 2))]
  r := fun ν => .error (.ref (ν 3))
  d := 540
  u := 4560
theorem readEQ_ok {w : World} {T₀ : CT} {s₀ : Shared} (x : Lx) {J : List Nat} (hJ : J.Nodup) : OracleOk (B w) T₀ s₀ (readEQ w x J) :=
  lift_ok (F := fun _ => True) hJ (fun _ _ _ => trivial) (fun l => readE_ctr w x { l with pb := [] } _) (fun _ => Nat.le_refl _) (fun _ => Nat.le_refl _)
theorem callE_ctr (w : World) (x : Lx) (a : Ci × Ls) (F : Shared → Prop) : Ctr (B w) F (callES w x a) :=
  ctr_of_run (V := B w) (n := 4) (H := 262656) (J := [0, 1, 2, 3, 4, 5, 6, 7, 8, 9, 10]) (xs := fun G => [tokR G.e, ktoks (obG 10 G) 0]) (orc := fun j => [readEQ w x [2, 3, 4, 5, 6, 7, 8, 9, 10]][j]?) (nodupB rfl) (fun s _ _ => mk_ok (all_one (readEQ_ok x (nodupB rfl)))) (by intro base tb ν; unfold Runs; kernel_rfl)
noncomputable def isFn (o : Option Obj) : Bool := match o with
  | some ⟨_, _, .func _, _⟩ => true
  | _ => false
theorem fn74 (w : World) : isFn ((B w).kt.get 74) = true := by kernel_rfl
theorem wpAny_borrows {prog : Program} {w : World} {A : Around} {E : Value → Shared → Prop} {s : Shared} {a b c : Addr} {ob : Obj} {fd : FuncData} {Q : Bool → Shared → Prop} (ho : s.heap.get? a = some (meth b c)) (hb : s.heap.get? b = some ob) (hf : ob.data = .func fd) (h : Q true s) :
    wpAny (model prog w) A (borrowsExactly (.ref a)) Q E s := by
  unfold borrowsExactly
  refine wpAny_bind (wpAny_load ho ?_)
  show wpAny _ _ (if (Value.type "method" == Value.type "method") = true then _ else _) _ _ s
  rw [if_pos (by decide)]
  show wpAny _ _ (load b >>= _) _ _ s
  refine wpAny_bind (wpAny_load hb ?_)
  rw [hf]
  exact wpAny_pure h
theorem code_body {id : String} {b : Builtin} {args : Args} {prog : Program} {w : World} {A : Around} {R : Result → Shared → Prop} {s : Shared} (he : entryFor table id = some b) (hp : plainId id = true)
    (h : wpAny (model prog w) A.in1 (b args) (fun fin s' => match fin with | .done f => R (.ok f) s' | .again c' => c'.quiet = true ∧ codeAny (model prog w) A c' R s') (fun e s' => R (.error e) s') s) : codeAny (model prog w) A (.builtin id args) R s := by
  refine x_code ?_
  rw [Around.under_plainId hp args]
  show wpAny _ _ (match entryFor table id with | some b => b args | none => unsupported ((withoutEnding? id "#data").getD id)) _ _ s
  rw [he]
  exact h
theorem entry_ci : entryFor table "callable_iterator.__next__" = some Builtin.«callable_iterator.__next__» := entryFor_of_tree (by kernel_rfl)
theorem endC_ctr (w : World) (x : Lx) (a : Ci × Ls) : Ctr (B w) (fun _ => True) (endCS w x a) := by
  intro A s R h0 hd hu _ hS hR
  have hit : s.heap.get? a.1.it = some (callIt a.1.me a.1.t false) := hS.heap 0 rfl
  have hme : s.heap.get? a.1.me = some (meth 74 (x.B + 13)) := hS.heap 1 rfl
  have hfn := fn74 w
  cases hk : (B w).kt.get 74 with
  | none => rw [hk] at hfn; cases hfn
  | some of =>
  obtain ⟨c1, c2, dt, c4⟩ := of
  rw [hk] at hfn
  cases dt with
  | func fd =>
    refine code_body entry_ci (by decide +kernel) ?_
    show wpAny _ _ (field (.ref a.1.it) 2 >>= _) _ _ s
    refine wpAny_bind (wpAny_field hit rfl (x := .bool false) rfl ?_)
    rw [if_neg (by decide)]
    refine wpAny_bind (wpAny_field hit rfl (x := .ref a.1.me) rfl ?_)
    refine wpAny_bind (wpAny_attempt ?_)
    unfold callOutOfASlot
    refine wpAny_bind (wpAny_borrows hme (hS.top 74 _ hk) rfl ?_)
    rw [if_pos rfl]
    unfold callBorrowed
    refine x_call ?_ (by intro q; cases q)
    refine callE_ctr w x a (fun _ => True) _ s _ h0 (Nat.le_trans hd (show 540 ≤ 550 by decide)) (Nat.le_trans (Nat.succ_le_succ hu) (show 4561 ≤ 4580 by decide)) trivial hS fun ν s1 I => ?_
    have own1 : ∀ (i : Nat) (p : Addr × Obj), (cPre w x (a.1, { a.2 with eg := cut ν 3 }))[i]? = some p → s1.heap.get? p.1 = some p.2 := fun i p hp => (I.sat.own i p.1 p.2 (by
      show (cellsOf ((callES w x a).out (cut ν))).get i = _
      rw [cellsOf_get]; exact hp)).1
    have hit1 : s1.heap.get? a.1.it = some (callIt a.1.me a.1.t false) := own1 0 (a.1.it, _) rfl
    have hme1 : s1.heap.get? a.1.me = some (meth 74 (x.B + 13)) := own1 1 (a.1.me, _) rfl
    refine wpAny_pure ?_
    show wpAny _ _ (field (.ref a.1.it) 2 >>= _) _ _ s1
    refine wpAny_bind (wpAny_field hit1 rfl (x := .bool false) rfl ?_)
    rw [if_neg (by decide)]
    refine wpAny_bind (wpAny_field hit1 rfl (x := .str ⟨#[]⟩ a.1.t) rfl ?_)
    refine wpAny_bind (wpAny_holding (wpAny_eqBool_str ?_))
    rw [if_neg (by decide)]
    refine wpAny_bind (wpAny_rule ?_)
    refine wpAny_bind ?_
    wp_delta
    refine wpAny_bind (wpAny_field hit1 rfl (x := .ref a.1.me) rfl ?_)
    refine wpAny_bind ?_
    unfold slotLetsGo
    show wpAny _ _ (borrowsExactly (.ref a.1.me) >>= _) _ _ s1
    refine wpAny_bind (wpAny_borrows hme1 (I.sat.top 74 _ hk) rfl ?_)
    rw [if_pos rfl]
    refine wpAny_pure ?_
    have I1 := I.store (j := 0) (a := a.1.it) (o := callIt a.1.me a.1.t false) (g := Obj.mapFields (·.setIfInBounds 0 .none)) rfl rfl
    refine wpAny_bind (wpAny_setField hit1 rfl (by simp) ?_)
    have hit2 := (I1.sat.own 0 a.1.it { cls := .type "callable_iterator", data := .fields #[.none, .str ⟨#[]⟩ a.1.t, .bool false] } (by kernel_rfl)).1
    have I2 := I1.store (j := 0) (a := a.1.it) (o := { cls := .type "callable_iterator", data := .fields #[.none, .str ⟨#[]⟩ a.1.t, .bool false] }) (g := Obj.mapFields (·.setIfInBounds 1 .none)) (by kernel_rfl) rfl
    refine wpAny_bind (wpAny_setField hit2 rfl (by simp) ?_)
    have hit3 := (I2.sat.own 0 a.1.it { cls := .type "callable_iterator", data := .fields #[.none, .none, .bool false] } (by kernel_rfl)).1
    have I3 := I2.store (j := 0) (a := a.1.it) (o := { cls := .type "callable_iterator", data := .fields #[.none, .none, .bool false] }) (g := Obj.mapFields (·.setIfInBounds 2 (.bool true))) (by kernel_rfl) rfl
    refine wpAny_setField hit3 rfl (by simp) ?_
    have I4 := I3.make (o := tup0) rfl (by kernel_rfl) (by kernel_rfl)
    have I5 := I4.make (o := stopExc (ν 0)) rfl (by kernel_rfl) (by kernel_rfl)
    have q := ends hR I5 [0, 1, 2, 3, 4, 5, 6, 7, 8, 9, 10, 11, 12] (nodupB rfl) [ν 0, ν 0 + 1, 0, cut ν 3] (by kernel_rfl)
    have hsz : s1.heap.objs.size = ν 0 := I.sat.size
    show wpAny _ _ (newExc (.type "StopIteration") [] >>= _) _ _ _
    refine wpAny_bind ?_
    simp only [newExc, newTuple]
    refine wpAny_bind (wpAny_newObj_type ?_ (by size_fits))
    refine wpAny_bind (m := firstArgMember _ _) (wpAny_of_eq (a := Value.none) (by first | rfl | (simp only [firstArgMember]; rfl)) ?_)
    refine wpAny_newObj_type ?_ (by size_fits)
    simp only [raiseNew]
    refine wpAny_bind (wpAny_handled ?_)
    rw [show A.in1.handled = none from h0]
    refine wpAny_bind (wpAny_pure (wpAny_throw ?_))
    simp only [Heap.size_push, Heap.size_update, hsz]
    exact q
  | _ => cases hfn
end Mine
end
section
open PySem PySem.Spec PySem.Calls PySem.W PySem.W.X PyProof.Rows
set_option Elab.async false
set_option maxRecDepth 100000
set_option maxHeartbeats 0
namespace Mine
noncomputable def endCQ (w : World) (x : Lx) : OracleAt := QF [11, 10, 0, 1, 2, 3, 4, 5, 6, 7, 8] (fun _ ps => some (Ci.mk (adAt 0 ps) (adAt 1 ps) (fTok (obAt 0 ps) 1), lsOf 2 ps)) (endCS w x) 540 4560
theorem endCQ_ok {w : World} {T₀ : CT} {s₀ : Shared} (x : Lx) : OracleOk (B w) T₀ s₀ (endCQ w x) :=
  lift_ok (F := fun _ => True) (nodupB rfl) (fun _ _ _ => trivial) (fun a => endC_ctr w x a) (fun _ => Nat.le_refl _) (fun _ => Nat.le_refl _)
theorem end0_ctr {w : World} {F : Shared → Prop} (x : Lx) (l : Ls) (g : Nat → Nat) : Ctr (B w) F (tokS w x l [] [] g 0 ⟨#[]⟩ l.line) :=
  ctr_of_run (V := B w) (n := 121) (H := 10622987039202356367470621626716336518985620308403570764735271221857820669007453768754494878277724926617534213642891903333474476804608637221859677388371284665747365691256467986405392385) (J := [0, 1, 2, 3, 4, 5, 6, 7, 8]) (xs := xsTok) (orc := fun j => [endCQ w x][j]?) (nodupB rfl) (fun s _ _ => mk_ok (all_one (endCQ_ok x))) (by intro base tb ν; unfold Runs; kernel_rfl)
theorem endB_ctr {w : World} {F : Shared → Prop} (x : Lx) (l : Ls) (g : Nat → Nat) {p : Nat} {b : Bool} (hp : p ∈ blanks) (hb : Nat.beq p 10 = b) : Ctr (B w) F (tokS w x l [p] [] g 1 ⟨#[]⟩ (up l.line b)) :=
  ctr_of_run (V := B w) (n := 160) (H := 17070482016964436201140658426773597762645815881669063401870536598513110511191778342284228854729654233848611222316303150421073802810176238084236371086183773210693253460667938079336058278194037215332250017100208034288337866733498463830199668572161) (J := [0, 1, 2, 3, 4, 5, 6, 7, 8]) (xs := xsTok) (orc := fun j => [endCQ w x, nextCQ w x [] p g b, contQ p true][j]?) (nodupB rfl) (fun s _ _ => mk_ok (all_cons (endCQ_ok x) (all_cons (nextCQ_ok x (by simp) (blank_sign hp) g hb) (all_one (contB_ok hp))))) (by intro base tb ν; unfold Runs; kernel_rfl)
end Mine
end
section
open PySem PySem.Spec PySem.Calls PySem.W PySem.W.X PyProof.Rows
set_option Elab.async false
set_option maxRecDepth 100000
namespace Mine
theorem getAll_range (L D : List (Addr × Obj)) : ∀ n k, n + k = L.length → getAll (cellsOf (L ++ D)) (List.range' n k) = some (L.drop n)
  | n, 0, h => by simp only [List.range'_zero, getAll]; rw [List.drop_of_length_le (by omega)]
  | n, k + 1, h => by
    have hn : n < L.length := by omega
    rw [List.range'_succ, getAll, cellsOf_get, List.getElem?_append_left hn, List.getElem?_eq_getElem hn]
    simp only [getAll_range L D (n + 1) k (by omega)]
    rw [List.drop_eq_getElem_cons hn]
section
variable {V : Par}
theorem Inv.front {T₀ : CT} {s₀ s : Shared} {L D : List (Addr × Obj)} {m b t : Nat} (I : Inv V T₀ s₀ ⟨cellsOf (L ++ D), m, b, 0, t, 706⟩ s) : Inv V T₀ s₀ ⟨cellsOf L, L.length, b, 0, t, 706⟩ s :=
  Inv.restrict (J := List.range' 0 L.length) List.nodup_range' I (by have := getAll_range L D 0 L.length (by omega); simpa using this) I.sat.size I.sat.toks
theorem ctr_turn2 {orc : Nat → Option OracleAt} {F : Shared → Prop} {S : Job} (S' : (Nat → Nat) → Job) (D : (Nat → Nat) → List (Addr × Obj)) (F' : (Nat → Nat) → Shared → Prop) {n H : Nat} {J : List Nat} (xs : Nat → Nat → (Nat → Nat) → Goal → List Nat) (hJ : J.Nodup)
    (hOk : ∀ s, F s → Sat V (S.start s) s → Par.Ok ⟨V.prog, V.w, V.kt, orc⟩ (cellsOf S.pre) s)
    (hrun : ∀ base tb ν, Runs J (xs base tb ν) (fun ν => .again (S' ν).code) (fun ν => (S' ν).pre ++ D ν) (goes ⟨V.prog, V.w, V.kt, orc⟩ n H S.code ⟨cellsOf S.pre, S.pre.length, base, 0, tb, 706⟩ (S.d + 6) (S.u + 10) ν))
    (hq : ∀ ν, (S' ν).code.quiet = true) (hS' : ∀ ν, Ctr V (F' ν) (S' ν)) (hd' : ∀ ν, S.d ≤ (S' ν).d) (hu' : ∀ ν, S.u ≤ (S' ν).u) (hout : ∀ ν ν', (S' ν).out ν' = S.out ν') (hr : ∀ ν ν', (S' ν).r ν' = S.r ν')
    (hF : ∀ s ν s', F s → Sat V (S.start s) s → Inv V (cellsOf S.pre) s ⟨cellsOf ((S' (cut ν)).pre ++ D (cut ν)), ((S' (cut ν)).pre ++ D (cut ν)).length, ν 0, 0, ν 1, 706⟩ s' → F' (cut ν) s') : Ctr V F S := by
  intro A s R h0 hd hu hFs hS hR
  refine goes_ok (V := ⟨V.prog, V.w, V.kt, orc⟩) (M := S.start s) (hOk s hFs hS) (n := n) (H := H) (Sat.cast (V := V) (V' := ⟨V.prog, V.w, V.kt, orc⟩) rfl hS) h0 (d := S.d + 6) (u := S.u + 10) (by omega) (by omega) fun ν => ?_
  obtain ⟨g, e, ho, he, hg⟩ := (hrun s.heap.objs.size (s.toks - 706) ν).spec
  refine ⟨g, e, ho, fun s' I => ?_⟩
  refine EndAt.of_kind he ?_
  have hs := I.sat.size
  have ht := I.sat.toks
  have hl := I.sat.lo
  refine ⟨hq _, ?_⟩
  have I' := Inv.restrict hJ (Inv.cast (V := ⟨V.prog, V.w, V.kt, orc⟩) (V' := V) rfl I) hg (b := nuOf g (xs s.heap.objs.size (s.toks - 706) ν g) 0) (t := nuOf g (xs s.heap.objs.size (s.toks - 706) ν g) 1) hs (by show s'.toks = g.M.tb + g.M.toff - 706 + 706; omega)
  generalize hν : nuOf g (xs s.heap.objs.size (s.toks - 706) ν g) = ν' at I'
  refine hS' (cut ν') A s' R h0 (Nat.le_trans hd (hd' _)) (Nat.le_trans hu (hu' _)) (hF s ν' s' hFs hS I') I'.front.sat.restart fun ν'' s'' I'' => ?_
  rw [hr]
  refine hR ν'' s'' ?_
  have e2 : S.fin ν'' = (S' (cut ν')).fin ν'' := by unfold Job.fin; rw [hout]
  rw [e2]
  exact I'.front.trans I''
end
end Mine
end
section
open PySem PySem.Spec PySem.Calls PySem.W PySem.W.X PyProof.Rows
set_option Elab.async false
set_option maxRecDepth 100000
set_option maxHeartbeats 0
namespace Mine
/-! ## the text as a list of words -/
structure It where
  a : Nat
  q : Bool
  b : Nat
noncomputable def escd : List Nat → List Nat
  | [] => []
  | c :: l => if Nat.beq c 32 then 92 :: 32 :: escd l else c :: escd l
noncomputable def chars (a : Nat) : List Nat := (W a).cps.toList
noncomputable def spell (i : It) : List Nat := if i.q then 34 :: (chars i.a ++ [34]) else escd (chars i.a)
noncomputable def textOf : List It → List Nat
  | [] => []
  | i :: l => spell i ++ i.b :: textOf l
noncomputable def Pend (p : List Nat) : Prop := p = [] ∨ ∃ c ∈ blanks, p = [c]
noncomputable def pendOf (i : It) : List Nat := if i.q then [i.b] else []
noncomputable def lineP (n : Int) : List Nat → Int
  | [] => n
  | p :: l => lineP (up n (Nat.beq p 10)) l
noncomputable def used (i : It) : Nat := if i.q then 5 else (escd (chars i.a)).length + 1
noncomputable def lineI (n : Int) (i : It) : Int := if i.q then n else up n (Nat.beq i.b 10)
noncomputable def ItOk (i : It) : Prop := i.a < 16 ∧ i.b ∈ blanks
theorem W_three : ∀ a, a < 16 → ∃ c d e, W a = ⟨#[c, d, e]⟩ ∧ c ∈ plains ∧ d ∈ plains ∧ (e = 32 ∨ e ∈ plains) := by
  refine all16 ?_ ?_ ?_ ?_ ?_ ?_ ?_ ?_ ?_ ?_ ?_ ?_ ?_ ?_ ?_ ?_ <;> exact ⟨_, _, _, rfl, by decide, by decide, by decide⟩
theorem plain_not {c : Nat} (h : c ∈ plains) : Nat.beq c 32 = false := by
  simp only [plains, List.mem_cons, List.not_mem_nil, or_false] at h
  rcases h with rfl | rfl | rfl | rfl | rfl | rfl | rfl <;> rfl
theorem tokI_ctr {w : World} {F : Shared → Prop} (x : Lx) (l : Ls) {pend : List Nat} (hp : Pend pend) {i : It} (hi : ItOk i) {its : List It} (hl : (textOf its).length ≤ 3000) (g : Nat → Nat) :
    Ctr (B w) F (tokS w x l (pend ++ textOf (i :: its)) (pendOf i ++ textOf its) g (pend.length + used i) (W i.a) (lineI (lineP l.line pend) i)) := by
  obtain ⟨a, q, b⟩ := i
  obtain ⟨ha, hb⟩ := hi
  have ha' : a < 16 := ha
  have hb' : b ∈ blanks := hb
  have hl1 : (b :: textOf its).length ≤ 4000 := by simp; omega
  have hl2 : (textOf its).length ≤ 4000 := by omega
  obtain ⟨c, d, e, hW, hc, hd, he⟩ := W_three a ha'
  have hch : chars a = [c, d, e] := by unfold chars; rw [hW]
  cases q with
  | true =>
    have he' : e ∈ inner := by
      rcases he with rfl | he
      · decide
      · exact plain_inner he
    have ht : textOf (⟨a, true, b⟩ :: its) = 34 :: c :: d :: e :: 34 :: b :: textOf its := by simp [textOf, spell, hch]
    have hu : used ⟨a, true, b⟩ = 5 := rfl
    rw [ht, hu, hW]
    rcases hp with rfl | ⟨p, hp, rfl⟩
    · exact quo_ctr x l hl1 g (plain_inner hc) (plain_inner hd) he'
    · exact quoB_ctr x l hl1 g hp rfl (plain_inner hc) (plain_inner hd) he'
  | false =>
    rcases he with rfl | he
    · have hx : escd (chars a) = [c, d, 92, 32] := by rw [hch]; simp [escd, plain_not hc, plain_not hd]
      have ht : textOf (⟨a, false, b⟩ :: its) = c :: d :: 92 :: 32 :: b :: textOf its := by simp [textOf, spell, hx]
      have hu : used ⟨a, false, b⟩ = 5 := by simp [used, hx]
      rw [ht, hu, hW]
      rcases hp with rfl | ⟨p, hp, rfl⟩
      · exact esc_ctr x l hl2 g hc hd hb' rfl
      · exact escB_ctr x l hl2 g hp rfl hc hd hb' rfl
    · have hx : escd (chars a) = [c, d, e] := by rw [hch]; simp [escd, plain_not hc, plain_not hd, plain_not he]
      have ht : textOf (⟨a, false, b⟩ :: its) = c :: d :: e :: b :: textOf its := by simp [textOf, spell, hx]
      have hu : used ⟨a, false, b⟩ = 4 := by simp [used, hx]
      rw [ht, hu, hW]
      rcases hp with rfl | ⟨p, hp, rfl⟩
      · exact bare_ctr x l hl2 g hc hd he hb' rfl
      · exact bareB_ctr x l hl2 g hp rfl hc hd he hb' rfl
theorem tokE_ctr {w : World} {F : Shared → Prop} (x : Lx) (l : Ls) {pend : List Nat} (hp : Pend pend) (g : Nat → Nat) : Ctr (B w) F (tokS w x l pend [] g pend.length ⟨#[]⟩ (lineP l.line pend)) := by
  rcases hp with rfl | ⟨p, hp, rfl⟩
  · exact end0_ctr x l g
  · exact endB_ctr x l g hp rfl
end Mine
end
section
open PySem PySem.Spec PySem.Calls PySem.W PySem.W.X PyProof.Rows
set_option Elab.async false
set_option maxRecDepth 100000
namespace Mine
section
variable {V : Par} {s s' : Shared} {pre X L1 L2 : List (Addr × Obj)} {m b t : Nat}
theorem mem_cells {L : List (Addr × Obj)} {i : Nat} {p : Addr × Obj} (h : (cellsOf L).get i = some p) : p ∈ L := by
  rw [cellsOf_get] at h; exact List.mem_of_getElem? h
theorem cells_mem {L : List (Addr × Obj)} {p : Addr × Obj} (h : p ∈ L) : ∃ i, (cellsOf L).get i = some p := by
  obtain ⟨i, hi⟩ := List.mem_iff_getElem?.mp h
  exact ⟨i, by rw [cellsOf_get]; exact hi⟩
theorem sat_of {L : List (Addr × Obj)} (hS : ∀ a o, V.kt.get a = some o → s.heap.get? a = some o) (hb : s.heap.objs.size = b) (ht : s.toks = t + 706) (own : ∀ p ∈ L, s.heap.get? p.1 = some p.2 ∧ V.kt.get p.1 = none) (nd : (L.map Prod.fst).Nodup) : Sat V ⟨cellsOf L, m, b, 0, t, 706⟩ s := by
  refine ⟨hS, hb, ht, fun i a o e => own (a, o) (mem_cells e), fun i j a o o' e e' => ?_, by omega⟩
  rw [show (Mm.mk (cellsOf L) m b 0 t 706).T = cellsOf L from rfl, cellsOf_get] at e e'
  exact nodup_idx nd (i := i) (j := j) (x := a) (by rw [List.getElem?_map, e]; rfl) (by rw [List.getElem?_map, e']; rfl)
theorem Sat.nodup {L : List (Addr × Obj)} {off toff : Nat} (h : Sat V ⟨cellsOf L, m, b, off, t, toff⟩ s) : (L.map Prod.fst).Nodup := by
  rw [List.nodup_iff_pairwise_ne, List.pairwise_iff_getElem]
  intro i j hi hj hij e
  simp only [List.length_map] at hi hj
  simp only [List.getElem_map] at e
  have h1 : (cellsOf L).get i = some ((L[i]).1, (L[i]).2) := by rw [cellsOf_get, List.getElem?_eq_getElem hi]
  have h2 : (cellsOf L).get j = some ((L[i]).1, (L[j]).2) := by rw [cellsOf_get, List.getElem?_eq_getElem hj, e]
  have := h.inj i j _ _ _ h1 h2
  omega
theorem Inv.plus (h : Has V s pre X) (I : Inv V (cellsOf pre) s ⟨cellsOf (L1 ++ L2), m, b, 0, t, 706⟩ s') : Inv V (cellsOf (pre ++ X)) s ⟨cellsOf (L1 ++ X ++ L2), (L1 ++ X ++ L2).length, b, 0, t, 706⟩ s' := by
  have kx : ∀ p ∈ X, s'.heap.get? p.1 = some p.2 := fun p hp => I.kp.keep p.1 p.2 (h.own p hp).1 fun i a o e => h.out p hp (a, o) (mem_cells e)
  have ol : ∀ p ∈ L1 ++ L2, s'.heap.get? p.1 = some p.2 ∧ V.kt.get p.1 = none := fun p hp => by
    obtain ⟨i, hi⟩ := cells_mem hp
    exact I.sat.own i p.1 p.2 hi
  have dis : ∀ p ∈ X, ∀ q ∈ L1 ++ L2, q.1 ≠ p.1 := fun p hp q hq e => by
    obtain ⟨i, hi⟩ := cells_mem hq
    rcases I.org i q.1 q.2 hi with ⟨j, o', hj⟩ | hn
    · exact h.out p hp _ (mem_cells hj) e
    · rw [e, (h.own p hp).1] at hn
      cases hn
  have nL := I.sat.nodup
  refine ⟨sat_of I.sat.top I.sat.size I.sat.toks (fun p hp => ?_) ?_, ⟨fun c o e hc => ?_, I.kp.toks, I.kp.gens, I.kp.drawn, I.kp.os⟩, fun i a o e => ?_⟩
  · rcases List.mem_append.mp hp with hp | hp
    · rcases List.mem_append.mp hp with hp | hp
      · exact ol p (List.mem_append_left _ hp)
      · exact ⟨kx p hp, (h.own p hp).2⟩
    · exact ol p (List.mem_append_right _ hp)
  · simp only [List.map_append] at nL ⊢
    obtain ⟨n1, n2, n3⟩ := List.nodup_append.mp nL
    refine List.nodup_append.mpr ⟨List.nodup_append.mpr ⟨n1, h.inj, fun a ha c hc e => ?_⟩, n2, fun a ha c hc e => ?_⟩
    · obtain ⟨q, hq, rfl⟩ := List.mem_map.mp ha
      obtain ⟨p, hp, rfl⟩ := List.mem_map.mp hc
      exact dis p hp q (List.mem_append_left _ hq) e
    · obtain ⟨q, hq, rfl⟩ := List.mem_map.mp hc
      rcases List.mem_append.mp ha with ha | ha
      · exact n3 a ha _ hc e
      · obtain ⟨p, hp, rfl⟩ := List.mem_map.mp ha
        exact dis p hp q (List.mem_append_right _ hq) e.symm
  · exact I.kp.keep c o e fun i a o' e' => by
      obtain ⟨j, hj⟩ := cells_mem (List.mem_append_left X (mem_cells e'))
      exact hc j a o' hj
  · have hm := mem_cells e
    have old : ∀ q, q ∈ L1 ++ L2 → (∃ j o', (cellsOf (pre ++ X)).get j = some (q.1, o')) ∨ s.heap.get? q.1 = none := fun q hq => by
      obtain ⟨i, hi⟩ := cells_mem hq
      rcases I.org i q.1 q.2 hi with ⟨j, o', hj⟩ | hn
      · obtain ⟨k, hk⟩ := cells_mem (List.mem_append_left X (mem_cells hj))
        exact .inl ⟨k, o', hk⟩
      · exact .inr hn
    rcases List.mem_append.mp hm with hm | hm
    · rcases List.mem_append.mp hm with hm | hm
      · exact old (a, o) (List.mem_append_left _ hm)
      · obtain ⟨k, hk⟩ := cells_mem (List.mem_append_right pre hm)
        exact .inl ⟨k, o, hk⟩
    · exact old (a, o) (List.mem_append_right _ hm)
theorem Sat.left (h : Sat V ⟨cellsOf (pre ++ X), m, b, 0, t, 706⟩ s) {k : Nat} : Sat V ⟨cellsOf pre, k, b, 0, t, 706⟩ s := by
  refine sat_of h.top h.size h.toks (fun p hp => ?_) ?_
  · obtain ⟨i, hi⟩ := cells_mem (List.mem_append_left X hp)
    exact h.own i p.1 p.2 hi
  · have := h.nodup
    rw [List.map_append] at this
    exact (List.nodup_append.mp this).1
theorem Sat.has (h : Sat V ⟨cellsOf (pre ++ X), m, b, 0, t, 706⟩ s) : Has V s pre X := by
  have := h.nodup
  rw [List.map_append] at this
  obtain ⟨_, n2, n3⟩ := List.nodup_append.mp this
  refine ⟨fun p hp => ?_, n2, fun p hp q hq => n3 q.1 (List.mem_map_of_mem hq) p.1 (List.mem_map_of_mem hp)⟩
  obtain ⟨i, hi⟩ := cells_mem (List.mem_append_right pre hp)
  exact h.own i p.1 p.2 hi
noncomputable def Job.plus (S : Job) (X : List (Addr × Obj)) : Job := { S with pre := S.pre ++ X, post := fun ν => S.post ν ++ X.map Prod.snd }
theorem Job.plus_out {S : Job} (X : List (Addr × Obj)) (ν : Nat → Nat) (hl : (S.post ν).length = S.pre.length) : (S.plus X).out ν = (S.pre.map Prod.fst).zip (S.post ν) ++ X ++ S.new ν := by
  have hz : (X.map Prod.fst).zip (X.map Prod.snd) = X := by
    induction X with
    | nil => rfl
    | cons p X ih => simp [ih]
  show ((S.pre ++ X).map Prod.fst).zip (S.post ν ++ X.map Prod.snd) ++ S.new ν = _
  rw [List.map_append, List.zip_append (by rw [List.length_map, hl]), hz]
theorem ctr_frame {F F' : Shared → Prop} {S : Job} (X : List (Addr × Obj)) (hl : ∀ ν, (S.post ν).length = S.pre.length) (hF : ∀ s, F' s → Has V s S.pre X → Sat V (S.start s) s → F s) (h : Ctr V F S) : Ctr V F' (S.plus X) := by
  intro A s R h0 hd hu hFs hS hR
  have hS1 : Sat V (S.start s) s := Sat.left (k := S.pre.length) (pre := S.pre) (X := X) hS
  have hH : Has V s S.pre X := Sat.has (pre := S.pre) (X := X) hS
  refine h A s R h0 hd hu (hF s hFs hH hS1) hS1 fun ν s' I => ?_
  refine hR ν s' ?_
  have P := Inv.plus (L1 := (S.pre.map Prod.fst).zip (S.post (cut ν))) (L2 := S.new (cut ν)) hH I
  rw [← Job.plus_out X (cut ν) (hl _)] at P
  exact P
end
end Mine
end
section
open PySem PySem.Spec PySem.Calls PySem.W PySem.W.X PyProof.Rows
set_option Elab.async false
set_option maxRecDepth 100000
namespace Mine
/-! ## contracts that may exchange cells -/
theorem CT.get_over (a : Addr) (o : Obj) : ∀ (t : CT) (j i : Nat), (t.get j).isSome = true → (t.ins j a o).get i = if i = j then some (a, o) else t.get i
  | .nil, j, i, h => by simp [CT.get] at h
  | .node b v l r, j, i, h => by
    rw [CT.ins_node]
    rw [CT.get_node] at h
    rw [CT.get_node b v l r i]
    by_cases hj : j = 0
    · subst hj
      rw [if_pos rfl, CT.get_node]
      by_cases hi : i = 0 <;> simp [hi]
    · rw [if_neg hj] at h ⊢
      by_cases pj : j % 2 = 1
      · rw [if_pos pj] at h ⊢
        rw [CT.get_node]
        by_cases hi : i = 0
        · simp [hi, Ne.symm hj]
        · by_cases pi : i % 2 = 1
          · simp only [hi, pi, if_true, if_false, CT.get_over a o l _ _ h]
            by_cases e : i = j
            · simp [e]
            · have : i / 2 ≠ j / 2 := by omega
              simp [e, this]
          · have : i ≠ j := fun q => pi (q ▸ pj)
            simp [hi, pi, this]
      · rw [if_neg pj] at h ⊢
        rw [CT.get_node]
        by_cases hi : i = 0
        · simp [hi, Ne.symm hj]
        · by_cases pi : i % 2 = 1
          · have : i ≠ j := fun q => pj (q ▸ pi)
            simp [hi, pi, this]
          · simp only [hi, pi, if_false, CT.get_over a o r _ _ h]
            by_cases e : i = j
            · simp [e]
            · have : i / 2 - 1 ≠ j / 2 - 1 := by omega
              simp [e, this]
noncomputable def overAll : CT → List Nat → List (Addr × Obj) → Option CT
  | T, [], [] => some T
  | T, j :: J, p :: ps => match T.get j with
    | none => none
    | some _ => overAll (T.ins j p.1 p.2) J ps
  | _, _, _ => none
theorem overAll_get : ∀ {J : List Nat} {ps : List (Addr × Obj)} {T T' : CT}, J.Nodup → overAll T J ps = some T' → ps.length = J.length ∧ ∀ (i : Nat) (p : Addr × Obj), T'.get i = some p → (i ∉ J ∧ T.get i = some p) ∨ (∃ k : Nat, J[k]? = some i ∧ ps[k]? = some p)
  | [], [], T, T', _, h => by cases h; exact ⟨rfl, fun i p g => .inl ⟨List.not_mem_nil, g⟩⟩
  | [], _ :: _, T, T', _, h => by cases h
  | _ :: _, [], T, T', _, h => by cases h
  | j :: J, q :: ps, T, T', hn, h => by
    obtain ⟨hj, hn'⟩ := List.nodup_cons.mp hn
    unfold overAll at h
    split at h
    · cases h
    · rename_i x hx
      have hs : (T.get j).isSome = true := by rw [hx]; rfl
      obtain ⟨hl, hg⟩ := overAll_get hn' h
      refine ⟨by simp [hl], fun i p g => ?_⟩
      rcases hg i p g with ⟨hi, g'⟩ | ⟨k, hk, hp⟩
      · rw [CT.get_over q.1 q.2 T j i hs] at g'
        by_cases e : i = j
        · rw [if_pos e] at g'
          cases g'
          exact .inr ⟨0, by simp [e], rfl⟩
        · rw [if_neg e] at g'
          exact .inl ⟨by simp [e, hi], g'⟩
      · exact .inr ⟨k + 1, by simpa using hk, by simpa using hp⟩

structure Jx where
  code : Code
  pre : List (Addr × Obj)
  out : (Nat → Nat) → List (Addr × Obj)
  r : (Nat → Nat) → Result
  d : Nat
  u : Nat
noncomputable def Jx.start (S : Jx) (s : Shared) : Mm := ⟨cellsOf S.pre, S.pre.length, s.heap.objs.size, 0, s.toks - 706, 706⟩
noncomputable def Jx.fin (S : Jx) (ν : Nat → Nat) : Mm := ⟨cellsOf (S.out (cut ν)), (S.out (cut ν)).length, ν 0, 0, ν 1, 706⟩
noncomputable def Cx (V : Par) (F : Shared → Prop) (S : Jx) : Prop := ∀ A s R, A.handled = none → A.depth ≤ S.d → A.units ≤ S.u → F s → Sat V (S.start s) s →
  (∀ ν s', Inv V (cellsOf S.pre) s (S.fin ν) s' → R (S.r (cut ν)) s') → codeAny (model V.prog V.w) A S.code R s
noncomputable def Job.x (S : Job) : Jx := ⟨S.code, S.pre, S.out, S.r, S.d, S.u⟩
theorem Ctr.x {V : Par} {F : Shared → Prop} {S : Job} (h : Ctr V F S) : Cx V F S.x := h
noncomputable def oblx (c : Code) (S : Jx) (ps : List (Addr × Obj)) : Obs :=
  (.c c, .c S.code) :: (.n ps.length, .n S.pre.length) :: (ps.zip S.pre).flatMap fun q => [(.n q.1.1, .n q.2.1), (.o q.1.2, .o q.2.2)]
theorem oblx_spec {c : Code} {S : Jx} {ps : List (Addr × Obj)} (h : ∀ p ∈ oblx c S ps, p.1 = p.2) : c = S.code ∧ ps = S.pre :=
  obl_spec (S := ⟨S.code, S.pre, fun _ => [], fun _ => [], S.r, S.d, S.u⟩) h
noncomputable def QX {α : Type} (J : List Nat) (ex : Code → List (Addr × Obj) → Option α) (S : α → Jx) (d u : Nat) : OracleAt := ⟨fun c T m ν => match getAll T J with
  | none => none
  | some ps => match ex c ps with
    | none => none
    | some a => match overAll T J (((S a).out ν).take J.length) with
      | none => none
      | some T1 => match addAll T1 m (((S a).out ν).drop J.length) with
        | none => none
        | some T' => some ⟨oblx c (S a) ps, (S a).r ν, T', m + (((S a).out ν).drop J.length).length⟩, d, u⟩
section
variable {V : Par} {T₀ : CT} {s₀ s : Shared} {M : Mm}
theorem big_inv_x {S : Jx} {J : List Nat} {ν : Nat → Nat} {s' : Shared} {T1 T' : CT} (hJ : J.Nodup) (I : Inv V T₀ s₀ M s) (hg : getAll M.T J = some S.pre) (K : Inv V (cellsOf S.pre) s (S.fin ν) s')
    (h1 : overAll M.T J ((S.out (cut ν)).take J.length) = some T1) (hT : addAll T1 M.m ((S.out (cut ν)).drop J.length) = some T') :
    Inv V M.T s ⟨T', M.m + ((S.out (cut ν)).drop J.length).length, ν 0, 0, ν 1, 706⟩ s' := by
  obtain ⟨hlJ, hgetJ⟩ := getAll_spec hg
  obtain ⟨hlt, hov⟩ := overAll_get hJ h1
  have kget : ∀ i, (S.fin ν).T.get i = (S.out (cut ν))[i]? := fun i => cellsOf_get _ _
  have kpre : ∀ i, (cellsOf S.pre).get i = S.pre[i]? := fun i => cellsOf_get _ _
  have atJ : ∀ k p, S.pre[k]? = some p → ∃ j, J[k]? = some j ∧ M.T.get j = some p := fun k p h => by
    have hi : k < J.length := by
      have := (List.getElem?_eq_some_iff.mp h).1
      omega
    exact ⟨J[k], List.getElem?_eq_getElem hi, (hgetJ k J[k] (List.getElem?_eq_getElem hi)).trans h⟩
  have kinds : ∀ i p, T'.get i = some p → (i ∉ J ∧ M.T.get i = some p) ∨ (∃ k, J[k]? = some i ∧ (S.fin ν).T.get k = some p) ∨ (∃ k, i = M.m + k ∧ (S.fin ν).T.get (J.length + k) = some p) := fun i p h => by
    rcases addAll_get hT i p h with h | ⟨k, hk, hp⟩
    · rcases hov i p h with h | ⟨k, hk, hp⟩
      · exact .inl h
      · refine .inr (.inl ⟨k, hk, ?_⟩)
        rw [kget]
        rw [List.getElem?_take] at hp
        split at hp
        · exact hp
        · cases hp
    · refine .inr (.inr ⟨k, hk, ?_⟩)
      rw [kget]
      rw [List.getElem?_drop] at hp
      exact hp
  have apart : ∀ i a o, i ∉ J → M.T.get i = some (a, o) → ∀ k b o', (S.fin ν).T.get k = some (b, o') → b ≠ a := fun i a o hi h k b o' h' e => by
    subst e
    rcases K.org k b o' h' with ⟨j, o₂, hj⟩ | hn
    · rw [kpre] at hj
      obtain ⟨j', hj', hj''⟩ := atJ j _ hj
      have := I.sat.inj i j' _ _ _ h hj''
      subst this
      exact hi (List.mem_of_getElem? hj')
    · rw [(I.sat.own i b o h).1] at hn
      cases hn
  have other : ∀ i a o, i ∉ J → M.T.get i = some (a, o) → ∀ k b o', (cellsOf S.pre).get k = some (b, o') → b ≠ a := fun i a o hi h k b o' h' e => by
    subst e
    rw [kpre] at h'
    obtain ⟨j, hj, hj'⟩ := atJ k _ h'
    have := I.sat.inj i j _ _ _ h hj'
    subst this
    exact hi (List.mem_of_getElem? hj)
  have small : ∀ k i, J[k]? = some i → k < J.length := fun k i h => (List.getElem?_eq_some_iff.mp h).1
  refine ⟨⟨K.sat.top, K.sat.size, K.sat.toks, fun i a o h => ?_, fun i j a o o' h h' => ?_, K.sat.lo⟩, ⟨fun b o h hb => ?_, K.kp.toks, K.kp.gens, K.kp.drawn, K.kp.os⟩, fun i a o h => ?_⟩
  · rcases kinds i _ h with ⟨hi, g⟩ | ⟨k, _, g⟩ | ⟨k, _, g⟩
    · exact ⟨K.kp.keep a o (I.sat.own i a o g).1 (other i a o hi g), (I.sat.own i a o g).2⟩
    · exact K.sat.own k a o g
    · exact K.sat.own _ a o g
  · rcases kinds i _ h with ⟨hi, g⟩ | ⟨k, hk, g⟩ | ⟨k, hk, g⟩
    · rcases kinds j _ h' with ⟨hj, g'⟩ | ⟨l, hl, g'⟩ | ⟨l, hl, g'⟩
      · exact I.sat.inj i j a o o' g g'
      · exact absurd rfl (apart i a o hi g l a o' g')
      · exact absurd rfl (apart i a o hi g _ a o' g')
    · rcases kinds j _ h' with ⟨hj, g'⟩ | ⟨l, hl, g'⟩ | ⟨l, hl, g'⟩
      · exact absurd rfl (apart j a o' hj g' k a o g)
      · have := K.sat.inj k l a o o' g g'
        subst this
        exact Option.some.inj (hk.symm.trans hl)
      · have := K.sat.inj _ _ a o o' g g'
        have := small _ _ hk
        omega
    · rcases kinds j _ h' with ⟨hj, g'⟩ | ⟨l, hl, g'⟩ | ⟨l, hl, g'⟩
      · exact absurd rfl (apart j a o' hj g' _ a o g)
      · have := K.sat.inj _ _ a o o' g g'
        have := small _ _ hl
        omega
      · have := K.sat.inj _ _ a o o' g g'
        omega
  · refine K.kp.keep b o h fun k a o' e => ?_
    rw [kpre] at e
    obtain ⟨j, _, hj⟩ := atJ k _ e
    exact hb j a o' hj
  · have org : ∀ k, (S.fin ν).T.get k = some (a, o) → (∃ j o', M.T.get j = some (a, o')) ∨ s.heap.get? a = none := fun k g => by
      rcases K.org k a o g with ⟨j, o', hj⟩ | hn
      · rw [kpre] at hj
        obtain ⟨j', _, hj'⟩ := atJ j _ hj
        exact .inl ⟨j', o', hj'⟩
      · exact .inr hn
    rcases kinds i _ h with ⟨hi, g⟩ | ⟨k, _, g⟩ | ⟨k, _, g⟩
    · exact .inl ⟨i, o, g⟩
    · exact org k g
    · exact org _ g
theorem start_sat_x (S : Jx) {J : List Nat} (hJ : J.Nodup) (I : Inv V T₀ s₀ M s) (hg : getAll M.T J = some S.pre) : Sat V (S.start s) s :=
  start_sat ⟨S.code, S.pre, fun _ => [], fun _ => [], S.r, S.d, S.u⟩ hJ I hg
theorem lift_x {α : Type} {F : Shared → Prop} {J : List Nat} {ex : Code → List (Addr × Obj) → Option α} {S : α → Jx} {d u : Nat} (hJ : J.Nodup) (hF : ∀ M s, Inv V T₀ s₀ M s → F s)
    (hC : ∀ a, Cx V F (S a)) (hd : ∀ a, d ≤ (S a).d) (hu : ∀ a, u ≤ (S a).u) : OracleOk V T₀ s₀ (QX J ex S d u) := by
  intro c M s A R I h0 hdep hun H
  obtain ⟨x₀, hx₀, ho₀, _⟩ := H fun _ => 0
  simp only [QX] at hx₀
  split at hx₀
  · cases hx₀
  · rename_i ps hps
    split at hx₀
    · cases hx₀
    · rename_i a ha
      split at hx₀
      · cases hx₀
      · split at hx₀
        · cases hx₀
        · cases hx₀
          obtain ⟨rfl, hpre⟩ := oblx_spec ho₀
          subst hpre
          refine hC a A s R h0 (Nat.le_trans hdep (hd a)) (Nat.le_trans hun (hu a)) (hF _ _ I) (start_sat_x _ hJ I hps) fun ν s' K => ?_
          obtain ⟨x, hx, hox, hR⟩ := H ν
          simp only [QX, hps, ha] at hx
          split at hx
          · cases hx
          · rename_i T1 hT1
            split at hx
            · cases hx
            · rename_i T' hT'
              cases hx
              exact hR s' (big_inv_x hJ I hps K hT1 hT')
end
end Mine
end
section
open PySem PySem.Spec PySem.Calls PySem.W PySem.W.X PyProof.Rows
set_option Elab.async false
set_option maxRecDepth 100000
namespace Mine
/-! ## stages: runs that stop before a call, and contracts whose end is any of many -/
noncomputable def stay (L : List (Addr × Obj)) (b t : Nat) : Mm := ⟨cellsOf L, L.length, b, 0, t, 706⟩
noncomputable def Cg (V : Par) {σ : Type} (c : Code) (pre : List (Addr × Obj)) (P : σ → Prop) (out : σ → List (Addr × Obj)) (r : σ → Result) (d u : Nat) : Prop := ∀ A s R, A.handled = none → A.depth ≤ d → A.units ≤ u → Sat V (stay pre s.heap.objs.size (s.toks - 706)) s →
  (∀ z b t s', P z → Inv V (cellsOf pre) s (stay (out z) b t) s' → R (r z) s') → codeAny (model V.prog V.w) A c R s
noncomputable def nuL (l : List Nat) : Nat → Nat := fun i => l.getD i 0
noncomputable def standO : Out → Stand
  | .fin g => g.e
  | .bad _ _ => .ret noneR
noncomputable def kapO (x : Out) : Kap := (standO x).kap
noncomputable def dueL (xs : Goal → List Nat) (e : (Nat → Nat) → EndK) (L : (Nat → Nat) → List (Addr × Obj)) : Out → Option (List Ob × EndK × Option (List (Addr × Obj)))
  | .fin g => some (g.O.map Prod.snd, e (nuL (xs g)), some (L (nuL (xs g))))
  | .bad _ _ => none
noncomputable def RunsL (J : List Nat) (xs : Goal → List Nat) (e : (Nat → Nat) → EndK) (L : (Nat → Nat) → List (Addr × Obj)) (x : Out) : Prop := (isFin x, seen J x) = (true, dueL xs e L x)
theorem RunsL.spec {J : List Nat} {xs : Goal → List Nat} {e : (Nat → Nat) → EndK} {L : (Nat → Nat) → List (Addr × Obj)} {x : Out} (h : RunsL J xs e L x) :
    ∃ g, x = .fin g ∧ (∀ p ∈ g.O, p.1 = p.2) ∧ g.e.kind = e (nuL (xs g)) ∧ getAll g.M.T J = some (L (nuL (xs g))) := by
  unfold RunsL at h
  obtain ⟨h1, h2⟩ := Prod.mk.inj h
  cases x with
  | bad n a => cases h1
  | fin g =>
    simp only [seen, dueL, Option.some.injEq, Prod.mk.injEq] at h2
    refine ⟨g, rfl, fun p hp => ?_, h2.2.1, h2.2.2⟩
    obtain ⟨k, hk⟩ := List.mem_iff_getElem?.mp hp
    have a : (g.O.map Prod.fst)[k]? = some p.1 := by rw [List.getElem?_map, hk]; rfl
    have b : (g.O.map Prod.snd)[k]? = some p.2 := by rw [List.getElem?_map, hk]; rfl
    rw [h2.1, b] at a
    exact (Option.some.inj a).symm
noncomputable def goesOn (V : Par) (n H : Nat) (r : Result) (κ : Kap) (M : Mm) (d u : Nat) (ν : Nat → Nat) : Out := back (run V n) r κ M d u H ν []
section
variable {V : Par}
theorem Rt_cast {orc : Nat → Option OracleAt} {A : Around} {R : Result → Shared → Prop} : ∀ κ : Kap, Rt ⟨V.prog, V.w, V.kt, orc⟩ A R κ = Rt V A R κ
  | [] => rfl
  | p :: κ => by
    show (fun r s => wpAny (model V.prog V.w) ((AA A κ).under p.1) (p.2 r) (postF ⟨V.prog, V.w, V.kt, orc⟩ (AA A κ) (Rt ⟨V.prog, V.w, V.kt, orc⟩ A R κ)) (fun e s' => Rt ⟨V.prog, V.w, V.kt, orc⟩ A R κ (.error e) s') s) = _
    rw [Rt_cast κ]
    rfl
theorem EndAtK.cast {orc : Nat → Option OracleAt} {A : Around} {R : Result → Shared → Prop} {st : Stand} {e : EndK} {s : Shared} (h : EndAtK V A R st e s) : EndAtK ⟨V.prog, V.w, V.kt, orc⟩ A R st e s := by
  cases e with
  | ret r => exact h
  | again c => exact h
  | stop c d u =>
    intro hA
    have := h hA
    rw [← Rt_cast (orc := orc) st.kap] at this
    exact this
  | tree d u =>
    intro hA
    have := h hA
    unfold Mean at this
    rw [← Rt_cast (orc := orc) st.kap] at this
    exact this
theorem Inv.again {T₀ : CT} {s₀ s : Shared} {L : List (Addr × Obj)} {b t : Nat} (I : Inv V T₀ s₀ (stay L b t) s) : Sat V (stay L s.heap.objs.size (s.toks - 706)) s := Sat.restart I.sat
theorem Inv.next {T₀ : CT} {s₀ s s' : Shared} {L : List (Addr × Obj)} {b t : Nat} {M : Mm} (I : Inv V T₀ s₀ (stay L b t) s) (K : Inv V (cellsOf L) s M s') : Inv V T₀ s₀ M s' := I.trans (M := stay L b t) K
theorem stay_nodup {s : Shared} {L : List (Addr × Obj)} {b t : Nat} (h : Sat V (stay L b t) s) : (L.map Prod.fst).Nodup := Sat.nodup (m := L.length) (off := 0) (toff := 706) h
theorem Sat.own_mem {s : Shared} {L : List (Addr × Obj)} {b t : Nat} (h : Sat V (stay L b t) s) {p : Addr × Obj} (hp : p ∈ L) : s.heap.get? p.1 = some p.2 ∧ V.kt.get p.1 = none := by
  obtain ⟨i, hi⟩ := cells_mem hp
  exact h.own i p.1 p.2 hi
theorem Inv.pick {T₀ : CT} {s₀ s : Shared} {L L' : List (Addr × Obj)} {b t : Nat} (I : Inv V T₀ s₀ (stay L b t) s) (hs : ∀ p ∈ L', p ∈ L) (nd : (L'.map Prod.fst).Nodup) : Inv V T₀ s₀ (stay L' b t) s := by
  refine ⟨sat_of I.sat.top I.sat.size I.sat.toks (fun p hp => I.sat.own_mem (hs p hp)) nd, I.kp, fun i a o e => ?_⟩
  obtain ⟨j, hj⟩ := cells_mem (hs (a, o) (mem_cells e))
  exact I.org j a o hj
theorem Inv.perm {T₀ : CT} {s₀ s : Shared} {L L' : List (Addr × Obj)} {b t : Nat} (I : Inv V T₀ s₀ (stay L b t) s) (h : L'.Perm L) : Inv V T₀ s₀ (stay L' b t) s :=
  I.pick (fun _ hp => h.subset hp) ((h.map Prod.fst).nodup_iff.mpr (stay_nodup I.sat))
theorem Inv.wide {s₀ s : Shared} {L L' : List (Addr × Obj)} {M : Mm} (I : Inv V (cellsOf L') s₀ M s) (hs : ∀ p ∈ L', p ∈ L) : Inv V (cellsOf L) s₀ M s := by
  refine ⟨I.sat, ⟨fun b o e hb => I.kp.keep b o e fun i a o' e' => ?_, I.kp.toks, I.kp.gens, I.kp.drawn, I.kp.os⟩, fun i a o e => ?_⟩
  · obtain ⟨j, hj⟩ := cells_mem (hs (a, o') (mem_cells e'))
    exact hb j a o' hj
  · rcases I.org i a o e with ⟨j, o', hj⟩ | h
    · obtain ⟨k, hk⟩ := cells_mem (hs (a, o') (mem_cells hj))
      exact .inl ⟨k, o', hk⟩
    · exact .inr h
theorem Inv.front_pick {T₀ : CT} {s₀ s : Shared} {F F' X : List (Addr × Obj)} {b t : Nat} (J : List Nat) (hJ : J.Nodup) (I : Inv V T₀ s₀ (stay (F ++ X) b t) s) (hg : getAll (cellsOf F) J = some F') : Inv V T₀ s₀ (stay (F' ++ X) b t) s := by
  obtain ⟨hl, hget⟩ := getAll_spec hg
  have at_ : ∀ i p, F'[i]? = some p → ∃ j, J[i]? = some j ∧ F[j]? = some p := fun i p h => by
    have hi : i < J.length := by
      have := (List.getElem?_eq_some_iff.mp h).1
      omega
    have := (hget i J[i] (List.getElem?_eq_getElem hi)).trans h
    rw [cellsOf_get] at this
    exact ⟨J[i], List.getElem?_eq_getElem hi, this⟩
  have nd := stay_nodup I.sat
  rw [List.map_append] at nd
  obtain ⟨n1, n2, n3⟩ := List.nodup_append.mp nd
  have sub : ∀ p ∈ F', p ∈ F := fun p hp => by
    obtain ⟨i, hi⟩ := List.mem_iff_getElem?.mp hp
    obtain ⟨j, _, hj⟩ := at_ i p hi
    exact List.mem_of_getElem? hj
  refine I.pick (fun p hp => ?_) ?_
  · rcases List.mem_append.mp hp with hp | hp
    · exact List.mem_append_left _ (sub p hp)
    · exact List.mem_append_right _ hp
  · rw [List.map_append]
    refine List.nodup_append.mpr ⟨?_, n2, fun a ha c hc => ?_⟩
    · rw [List.nodup_iff_pairwise_ne, List.pairwise_iff_getElem]
      intro i j hi hj hij e
      simp only [List.length_map] at hi hj
      simp only [List.getElem_map] at e
      obtain ⟨k, hk, hk'⟩ := at_ i _ (List.getElem?_eq_getElem hi)
      obtain ⟨l, hl', hl''⟩ := at_ j _ (List.getElem?_eq_getElem hj)
      have e1 : (F.map Prod.fst)[k]? = some (F'[i]).1 := by rw [List.getElem?_map, hk']; rfl
      have e2 : (F.map Prod.fst)[l]? = some (F'[i]).1 := by rw [List.getElem?_map, hl'', e]; rfl
      have := nodup_idx n1 e1 e2
      subst this
      have := nodup_idx hJ hk hl'
      omega
    · obtain ⟨p, hp, rfl⟩ := List.mem_map.mp ha
      exact n3 p.1 (List.mem_map_of_mem (sub p hp)) c hc
theorem Has.keep {s s' : Shared} {pre X : List (Addr × Obj)} {M : Mm} (h : Has V s pre X) (I : Inv V (cellsOf pre) s M s') : ∀ p ∈ X, s'.heap.get? p.1 = some p.2 ∧ V.kt.get p.1 = none := fun p hp =>
  ⟨I.kp.keep p.1 p.2 (h.own p hp).1 fun i a o e => h.out p hp (a, o) (mem_cells e), (h.own p hp).2⟩
theorem Sat.has' {s : Shared} {F X : List (Addr × Obj)} {b t : Nat} (h : Sat V (stay (F ++ X) b t) s) : Has V s F X := Sat.has (m := (F ++ X).length) h
theorem Sat.left' {s : Shared} {F X : List (Addr × Obj)} {b t : Nat} (h : Sat V (stay (F ++ X) b t) s) : Sat V (stay F b t) s := Sat.left (m := (F ++ X).length) (k := F.length) h
theorem Inv.plus' {s s' : Shared} {pre X L : List (Addr × Obj)} {b t : Nat} (h : Has V s pre X) (I : Inv V (cellsOf pre) s (stay L b t) s') : Inv V (cellsOf (pre ++ X)) s (stay (L ++ X) b t) s' := by
  have := Inv.plus (L1 := L) (L2 := []) (m := L.length) h (by rw [List.append_nil]; exact I)
  rw [List.append_nil] at this
  exact this
theorem go {orc : Nat → Option OracleAt} {front X : List (Addr × Obj)} {c : Code} {e : Nat → Nat → (Nat → Nat) → (Nat → Nat) → EndK} {L : Nat → Nat → (Nat → Nat) → (Nat → Nat) → List (Addr × Obj)} {d u n H : Nat} {J : List Nat} (xs : Nat → Nat → (Nat → Nat) → Goal → List Nat) (hJ : J.Nodup) {A : Around} {s : Shared} {R : Result → Shared → Prop}
    (hOk : Has V s front X → Sat V (stay front s.heap.objs.size (s.toks - 706)) s → Par.Ok ⟨V.prog, V.w, V.kt, orc⟩ (cellsOf front) s)
    (hrun : ∀ base tb ν, RunsL J (xs base tb ν) (e base tb ν) (L base tb ν) (goes ⟨V.prog, V.w, V.kt, orc⟩ n H c (stay front base tb) (d + 6) (u + 10) ν))
    (h0 : A.handled = none) (hd : A.depth ≤ d) (hu : A.units ≤ u) (hS : Sat V (stay (front ++ X) s.heap.objs.size (s.toks - 706)) s)
    (hR : ∀ base tb ν₀ ν b t s', Inv V (cellsOf (front ++ X)) s (stay (L base tb ν₀ ν ++ X) b t) s' → EndAtK V A R (standO (goes ⟨V.prog, V.w, V.kt, orc⟩ n H c (stay front base tb) (d + 6) (u + 10) ν₀)) (e base tb ν₀ ν) s') : codeAny (model V.prog V.w) A c R s := by
  have hH := Sat.has' hS
  refine goes_ok (V := ⟨V.prog, V.w, V.kt, orc⟩) (M := stay front s.heap.objs.size (s.toks - 706)) (hOk hH hS.left') (n := n) (H := H) (Sat.cast (V := V) (V' := ⟨V.prog, V.w, V.kt, orc⟩) rfl hS.left') h0 (d := d + 6) (u := u + 10) (by omega) (by omega) fun ν => ?_
  obtain ⟨g, ee, ho, he, hg⟩ := (hrun s.heap.objs.size (s.toks - 706) ν).spec
  refine ⟨g, ee, ho, fun s' I => ?_⟩
  have hl := I.sat.lo
  have I' := Inv.restrict hJ (Inv.cast (V := ⟨V.prog, V.w, V.kt, orc⟩) (V' := V) rfl I) hg (b := s'.heap.objs.size) (t := s'.toks - 706) rfl (by show s'.toks = s'.toks - 706 + 706; omega)
  have P := hR s.heap.objs.size (s.toks - 706) ν _ _ _ s' (Inv.plus' hH I')
  rw [ee] at P
  exact EndAt.of_kind he P.cast
theorem go_back {orc : Nat → Option OracleAt} {front X : List (Addr × Obj)} {r : Result} {κ : Kap} {e : (Nat → Nat) → (Nat → Nat) → EndK} {L : (Nat → Nat) → (Nat → Nat) → List (Addr × Obj)} {base tb d u n H : Nat} {J : List Nat} (xs : (Nat → Nat) → Goal → List Nat) (hJ : J.Nodup) {A : Around} {T₀ : CT} {s₀ s : Shared} {R : Result → Shared → Prop}
    (hOk : Has V s front X → Sat V (stay front base tb) s → Par.Ok ⟨V.prog, V.w, V.kt, orc⟩ (cellsOf front) s)
    (hrun : ∀ ν, RunsL J (xs ν) (e ν) (L ν) (goesOn ⟨V.prog, V.w, V.kt, orc⟩ n H r κ (stay front base tb) d u ν))
    (hA : AOk A κ d u) (I : Inv V T₀ s₀ (stay (front ++ X) base tb) s)
    (hR : ∀ ν₀ ν b t s', Inv V T₀ s₀ (stay (L ν₀ ν ++ X) b t) s' → EndAtK V A R (standO (goesOn ⟨V.prog, V.w, V.kt, orc⟩ n H r κ (stay front base tb) d u ν₀)) (e ν₀ ν) s') : Rt V A R κ r s := by
  have hH := Sat.has' I.sat
  rw [← Rt_cast (orc := orc) κ]
  refine back_ok (V := ⟨V.prog, V.w, V.kt, orc⟩) (M := stay front base tb) (T₀ := cellsOf front) (s₀ := s) (run_ok (hOk hH I.sat.left') n) (O := []) (H := H) (Inv.start (Sat.cast (V := V) (V' := ⟨V.prog, V.w, V.kt, orc⟩) rfl I.sat.left')) hA fun ν => ?_
  obtain ⟨g, ee, ho, he, hg⟩ := (hrun ν).spec
  refine ⟨g, ee, ho, fun s' K => ?_⟩
  have hl := K.sat.lo
  have K' := Inv.restrict hJ (Inv.cast (V := ⟨V.prog, V.w, V.kt, orc⟩) (V' := V) rfl K) hg (b := s'.heap.objs.size) (t := s'.toks - 706) rfl (by show s'.toks = s'.toks - 706 + 706; omega)
  have K2 : Inv V (cellsOf (front ++ X)) s (stay (L ν (nuL (xs ν g)) ++ X) s'.heap.objs.size (s'.toks - 706)) s' := Inv.plus' hH K'
  have P := hR ν _ _ _ s' (I.trans (M := stay (front ++ X) base tb) K2)
  rw [ee] at P
  exact EndAt.of_kind he P.cast
section
variable {σ : Type} {P : σ → Prop} {out : σ → List (Addr × Obj)} {r : σ → Result} {d u : Nat}
theorem Cg.use {c : Code} {pre Y : List (Addr × Obj)} (h : Cg V c pre P out r d u) {A : Around} {s₀ s : Shared} {T₀ : CT} {b t : Nat} {R : Result → Shared → Prop} (h0 : A.handled = none) (hd : A.depth ≤ d) (hu : A.units ≤ u) (I : Inv V T₀ s₀ (stay (pre ++ Y) b t) s)
    (hR : ∀ z b t s', P z → Inv V T₀ s₀ (stay (out z ++ Y) b t) s' → R (r z) s') : codeAny (model V.prog V.w) A c R s :=
  h A s R h0 hd hu (Sat.left' I.again) fun z b' t' s' hz I' => hR z b' t' s' hz (I.trans (M := stay (pre ++ Y) b t) (Inv.plus' (Sat.has' I.again) I'))
theorem Cg.beside {c : Code} {pre : List (Addr × Obj)} (Y : List (Addr × Obj)) (h : Cg V c pre P out r d u) : Cg V c (pre ++ Y) P (fun z => out z ++ Y) r d u := fun A s R h0 hd hu hS hR =>
  h A s R h0 hd hu hS.left' fun z b t s' hz I => hR z b t s' hz (Inv.plus' (Sat.has' hS) I)
theorem Ctr.cg {F : Shared → Prop} {S : Job} {X : List (Addr × Obj)} (h : Ctr V F S) (hF : ∀ s, Has V s S.pre X → F s) : Cg V S.code (S.pre ++ X) (fun _ : Nat → Nat => True) (fun ν => S.out (cut ν) ++ X) (fun ν => S.r (cut ν)) S.d S.u := fun A s R h0 hd hu hS hR =>
  h A s R h0 hd hu (hF s (Sat.has' hS)) hS.left' fun ν s' I => hR ν _ _ s' trivial (Inv.plus' (b := ν 0) (t := ν 1) (Sat.has' hS) I)
end
end
end Mine
end
section
open PySem PySem.Spec PySem.Calls PySem.W PySem.W.X PyProof.Rows
set_option Elab.async false
set_option maxRecDepth 100000
namespace Mine
/-! ## stages put together -/
noncomputable def Ck (V : Par) {σ : Type} (κ : Kap) (rr : Result) (pre : List (Addr × Obj)) (P : σ → Prop) (out : σ → List (Addr × Obj)) (r : σ → Result) (d0 u0 d u : Nat) : Prop := ∀ A R T₀ s₀ s b t, A.handled = none → A.depth ≤ d0 → A.units ≤ u0 → AOk A κ d u → Inv V T₀ s₀ (stay pre b t) s →
  (∀ z b t s', P z → Inv V T₀ s₀ (stay (out z) b t) s' → R (r z) s') → Rt V A R κ rr s
theorem perm_tail {α : Type} {A D X : List α} : (A ++ (X ++ D)).Perm (A ++ D ++ X) := by
  rw [List.append_assoc A D X]
  exact List.Perm.append_left _ List.perm_append_comm
section
variable {V : Par} {σ : Type} {P : σ → Prop} {out : σ → List (Addr × Obj)} {r : σ → Result} {d u : Nat} {c : Code} {pre : List (Addr × Obj)}
theorem Cg.mono {P' : σ → Prop} (h : Cg V c pre P' out r d u) (hP : ∀ z, P' z → P z) : Cg V c pre P out r d u := fun A s R h0 hd hu hS hR =>
  h A s R h0 hd hu hS fun z b t s' hz I => hR z b t s' (hP z hz) I
theorem Cg.less (h : Cg V c pre P out r d u) {d' u' : Nat} (h1 : d' ≤ d) (h2 : u' ≤ u) : Cg V c pre P out r d' u' := fun A s R h0 hd hu hS hR =>
  h A s R h0 (Nat.le_trans hd h1) (Nat.le_trans hu h2) hS hR
theorem Cg.perm {pre' : List (Addr × Obj)} (h : Cg V c pre' P out r d u) (hp : pre'.Perm pre) : Cg V c pre P out r d u := fun A s R h0 hd hu hS hR =>
  h A s R h0 hd hu ((Inv.start hS : Inv V (cellsOf pre) s (stay pre _ _) s).perm hp).sat fun z b t s' hz I => hR z b t s' hz (I.wide fun _ hp' => hp.subset hp')
theorem Cg.map {τ : Type} {P' : τ → Prop} {out' : τ → List (Addr × Obj)} {r' : τ → Result} (h : Cg V c pre P' out' r' d u) (hP : ∀ y, P' y → ∃ z, P z ∧ (out z).Perm (out' y) ∧ r z = r' y) : Cg V c pre P out r d u := fun A s R h0 hd hu hS hR =>
  h A s R h0 hd hu hS fun y b t s' hy I => by
    obtain ⟨z, hz, ho, hr⟩ := hP y hy
    rw [← hr]
    exact hR z b t s' hz (I.perm ho)
variable {orc : Nat → Option OracleAt} {front X : List (Addr × Obj)} {L : (Nat → Nat) → List (Addr × Obj)} {n H : Nat} {J : List Nat}
theorem Cg.turn {c' : (Nat → Nat) → Code} (xs : Nat → Nat → (Nat → Nat) → Goal → List Nat) (hJ : J.Nodup) (hOk : ∀ s, Has V s front X → Par.Ok ⟨V.prog, V.w, V.kt, orc⟩ (cellsOf front) s)
    (hrun : ∀ base tb ν, RunsL J (xs base tb ν) (fun ν => .again (c' ν)) L (goes ⟨V.prog, V.w, V.kt, orc⟩ n H c (stay front base tb) (d + 6) (u + 10) ν))
    (hq : ∀ ν, (c' ν).quiet = true) (next : ∀ ν, Cg V (c' ν) (L ν ++ X) P out r d u) : Cg V c (front ++ X) P out r d u := fun A s R h0 hd hu hS hR =>
  go (e := fun _ _ _ ν => .again (c' ν)) (L := fun _ _ _ => L) xs hJ (fun hH _ => hOk s hH) hrun h0 hd hu hS fun _ _ _ ν _ _ s' I => ⟨hq ν, next ν A s' R h0 hd hu I.again fun z b' t' s'' hz I' => hR z b' t' s'' hz (I.next I')⟩
theorem Cg.done {rr : (Nat → Nat) → Result} (xs : Nat → Nat → (Nat → Nat) → Goal → List Nat) (hJ : J.Nodup) (hOk : ∀ s, Has V s front X → Par.Ok ⟨V.prog, V.w, V.kt, orc⟩ (cellsOf front) s)
    (hrun : ∀ base tb ν, RunsL J (xs base tb ν) (fun ν => .ret (rr ν)) L (goes ⟨V.prog, V.w, V.kt, orc⟩ n H c (stay front base tb) (d + 6) (u + 10) ν))
    (fin : ∀ ν, ∃ z, P z ∧ (out z).Perm (L ν ++ X) ∧ r z = rr ν) : Cg V c (front ++ X) P out r d u := fun A s R h0 hd hu hS hR =>
  go (e := fun _ _ _ ν => .ret (rr ν)) (L := fun _ _ _ => L) xs hJ (fun hH _ => hOk s hH) hrun h0 hd hu hS fun _ _ _ ν b t s' I => by
    obtain ⟨z, hz, ho, hr⟩ := fin ν
    show R (rr ν) s'
    rw [← hr]
    exact hR z b t s' hz (I.perm ho)
theorem Cg.cut {τ : Type} {L : Nat → Nat → (Nat → Nat) → (Nat → Nat) → List (Addr × Obj)} {c' : Nat → Nat → (Nat → Nat) → (Nat → Nat) → Code} {d' u' dd uu : Nat} {P' : Nat → Nat → (Nat → Nat) → (Nat → Nat) → τ → Prop} {out' : Nat → Nat → (Nat → Nat) → (Nat → Nat) → τ → List (Addr × Obj)} {r' : Nat → Nat → (Nat → Nat) → (Nat → Nat) → τ → Result} (xs : Nat → Nat → (Nat → Nat) → Goal → List Nat) (hJ : J.Nodup) (hOk : ∀ s, Has V s front X → Par.Ok ⟨V.prog, V.w, V.kt, orc⟩ (cellsOf front) s)
    (hrun : ∀ base tb ν, RunsL J (xs base tb ν) (fun ν' => .stop (c' base tb ν ν') d' u') (L base tb ν) (goes ⟨V.prog, V.w, V.kt, orc⟩ n H c (stay front base tb) (d + 6) (u + 10) ν))
    (mid : ∀ base tb ν₀ ν, Cg V (c' base tb ν₀ ν) (L base tb ν₀ ν ++ X) (P' base tb ν₀ ν) (out' base tb ν₀ ν) (r' base tb ν₀ ν) dd uu) (hd' : d' ≤ dd + 6) (hu' : u' ≤ uu + 10)
    (cont : ∀ base tb ν₀ ν z, P' base tb ν₀ ν z → Ck V (kapO (goes ⟨V.prog, V.w, V.kt, orc⟩ n H c (stay front base tb) (d + 6) (u + 10) ν₀)) (r' base tb ν₀ ν z) (out' base tb ν₀ ν z) P out r d u d' u') : Cg V c (front ++ X) P out r d u := fun A s R h0 hd hu hS hR =>
  go (e := fun base tb ν ν' => .stop (c' base tb ν ν') d' u') (L := L) xs hJ (fun hH _ => hOk s hH) hrun h0 hd hu hS fun base tb ν₀ ν b t s' I => fun hA => by
    obtain ⟨a1, a2, a3⟩ := hA.bounds
    exact mid base tb ν₀ ν _ s' _ a1 (by omega) (by omega) I.again fun z b' t' s'' hz I' => cont base tb ν₀ ν z hz A R _ s s'' b' t' h0 hd hu hA (I.next I') hR
variable {κ : Kap} {rr : Result} {d0 u0 : Nat}
theorem Ck.perm {pre' : List (Addr × Obj)} (h : Ck V κ rr pre' P out r d0 u0 d u) (hp : pre'.Perm pre) : Ck V κ rr pre P out r d0 u0 d u := fun A R T₀ s₀ s b t h0 hd hu hA I hR => h A R T₀ s₀ s b t h0 hd hu hA (I.perm hp) hR
theorem Ck.done {r2 : (Nat → Nat) → Result} (xs : Nat → Nat → (Nat → Nat) → Goal → List Nat) (hJ : J.Nodup) (hOk : ∀ s, Has V s front X → Par.Ok ⟨V.prog, V.w, V.kt, orc⟩ (cellsOf front) s)
    (hrun : ∀ base tb ν, RunsL J (xs base tb ν) (fun ν => .ret (r2 ν)) L (goesOn ⟨V.prog, V.w, V.kt, orc⟩ n H rr κ (stay front base tb) d u ν))
    (fin : ∀ ν, ∃ z, P z ∧ (out z).Perm (L ν ++ X) ∧ r z = r2 ν) : Ck V κ rr (front ++ X) P out r d0 u0 d u := fun A R T₀ s₀ s b t h0 hd hu hA I hR =>
  go_back (e := fun _ ν => .ret (r2 ν)) (L := fun _ => L) (xs b t) hJ (fun hH _ => hOk s hH) (hrun b t) hA I fun _ ν b t s' I => by
    obtain ⟨z, hz, ho, hr⟩ := fin ν
    show R (r2 ν) s'
    rw [← hr]
    exact hR z b t s' hz (I.perm ho)
theorem Ck.turn {c' : (Nat → Nat) → Code} (xs : Nat → Nat → (Nat → Nat) → Goal → List Nat) (hJ : J.Nodup) (hOk : ∀ s, Has V s front X → Par.Ok ⟨V.prog, V.w, V.kt, orc⟩ (cellsOf front) s)
    (hrun : ∀ base tb ν, RunsL J (xs base tb ν) (fun ν => .again (c' ν)) L (goesOn ⟨V.prog, V.w, V.kt, orc⟩ n H rr κ (stay front base tb) d u ν))
    (hq : ∀ ν, (c' ν).quiet = true) (next : ∀ ν, Cg V (c' ν) (L ν ++ X) P out r d0 u0) : Ck V κ rr (front ++ X) P out r d0 u0 d u := fun A R T₀ s₀ s b t h0 hd hu hA I hR =>
  go_back (e := fun _ ν => .again (c' ν)) (L := fun _ => L) (xs b t) hJ (fun hH _ => hOk s hH) (hrun b t) hA I fun _ ν b t s' I => ⟨hq ν, next ν A s' R h0 hd hu I.again fun z b' t' s'' hz I' => hR z b' t' s'' hz (I.next I')⟩
theorem Ck.cut {τ : Type} {L : Nat → Nat → (Nat → Nat) → (Nat → Nat) → List (Addr × Obj)} {c' : Nat → Nat → (Nat → Nat) → (Nat → Nat) → Code} {d' u' dd uu : Nat} {P' : Nat → Nat → (Nat → Nat) → (Nat → Nat) → τ → Prop} {out' : Nat → Nat → (Nat → Nat) → (Nat → Nat) → τ → List (Addr × Obj)} {r' : Nat → Nat → (Nat → Nat) → (Nat → Nat) → τ → Result} (xs : Nat → Nat → (Nat → Nat) → Goal → List Nat) (hJ : J.Nodup) (hOk : ∀ s, Has V s front X → Par.Ok ⟨V.prog, V.w, V.kt, orc⟩ (cellsOf front) s)
    (hrun : ∀ base tb ν, RunsL J (xs base tb ν) (fun ν' => .stop (c' base tb ν ν') d' u') (L base tb ν) (goesOn ⟨V.prog, V.w, V.kt, orc⟩ n H rr κ (stay front base tb) d u ν))
    (mid : ∀ base tb ν₀ ν, Cg V (c' base tb ν₀ ν) (L base tb ν₀ ν ++ X) (P' base tb ν₀ ν) (out' base tb ν₀ ν) (r' base tb ν₀ ν) dd uu) (hd' : d' ≤ dd + 6) (hu' : u' ≤ uu + 10)
    (cont : ∀ base tb ν₀ ν z, P' base tb ν₀ ν z → Ck V (kapO (goesOn ⟨V.prog, V.w, V.kt, orc⟩ n H rr κ (stay front base tb) d u ν₀)) (r' base tb ν₀ ν z) (out' base tb ν₀ ν z) P out r d0 u0 d' u') : Ck V κ rr (front ++ X) P out r d0 u0 d u := fun A R T₀ s₀ s b t h0 hd hu hA I hR =>
  go_back (e := fun ν ν' => .stop (c' b t ν ν') d' u') (L := L b t) (xs b t) hJ (fun hH _ => hOk s hH) (hrun b t) hA I fun ν₀ ν b2 t2 s' I => fun hA => by
    obtain ⟨a1, a2, a3⟩ := hA.bounds
    exact mid b t ν₀ ν _ s' _ a1 (by omega) (by omega) I.again fun z b' t' s'' hz I' => cont b t ν₀ ν z hz A R _ s₀ s'' b' t' h0 hd hu hA (I.next I') hR
end
noncomputable abbrev mkV (w : World) (orc : List OracleAt) : Par := ⟨(B w).prog, (B w).w, (B w).kt, fun j => orc[j]?⟩
section
variable {w : World} {σ : Type} {P : σ → Prop} {out : σ → List (Addr × Obj)} {r : σ → Result} {d u : Nat} {c : Code} {front X : List (Addr × Obj)} {L : (Nat → Nat) → List (Addr × Obj)} {n H : Nat} {J : List Nat} (orcs : List OracleAt) (xs : Nat → Nat → (Nat → Nat) → Goal → List Nat)
theorem bturn {c' : (Nat → Nat) → Code} (hOk : ∀ s, Has (B w) s front X → ∀ Q ∈ orcs, OracleOk (B w) (cellsOf front) s Q)
    (hrun : ∀ base tb ν, RunsL J (xs base tb ν) (fun ν => .again (c' ν)) L (goes (mkV w orcs) n H c (stay front base tb) (d + 6) (u + 10) ν)) (hJ : J.Nodup)
    (hq : ∀ ν, (c' ν).quiet = true) (next : ∀ ν, Cg (B w) (c' ν) (L ν ++ X) P out r d u) : Cg (B w) c (front ++ X) P out r d u := Cg.turn xs hJ (fun s h => mk_ok (hOk s h)) hrun hq next
theorem bdone {rr : (Nat → Nat) → Result} (hOk : ∀ s, Has (B w) s front X → ∀ Q ∈ orcs, OracleOk (B w) (cellsOf front) s Q)
    (hrun : ∀ base tb ν, RunsL J (xs base tb ν) (fun ν => .ret (rr ν)) L (goes (mkV w orcs) n H c (stay front base tb) (d + 6) (u + 10) ν)) (hJ : J.Nodup)
    (fin : ∀ ν, ∃ z, P z ∧ (out z).Perm (L ν ++ X) ∧ r z = rr ν) : Cg (B w) c (front ++ X) P out r d u := Cg.done xs hJ (fun s h => mk_ok (hOk s h)) hrun fin
theorem bcut {τ : Type} {L : Nat → Nat → (Nat → Nat) → (Nat → Nat) → List (Addr × Obj)} {c' : Nat → Nat → (Nat → Nat) → (Nat → Nat) → Code} {d' u' dd uu : Nat} {P' : Nat → Nat → (Nat → Nat) → (Nat → Nat) → τ → Prop} {out' : Nat → Nat → (Nat → Nat) → (Nat → Nat) → τ → List (Addr × Obj)} {r' : Nat → Nat → (Nat → Nat) → (Nat → Nat) → τ → Result} (hOk : ∀ s, Has (B w) s front X → ∀ Q ∈ orcs, OracleOk (B w) (cellsOf front) s Q)
    (hrun : ∀ base tb ν, RunsL J (xs base tb ν) (fun ν' => .stop (c' base tb ν ν') d' u') (L base tb ν) (goes (mkV w orcs) n H c (stay front base tb) (d + 6) (u + 10) ν)) (hJ : J.Nodup)
    (mid : ∀ base tb ν₀ ν, Cg (B w) (c' base tb ν₀ ν) (L base tb ν₀ ν ++ X) (P' base tb ν₀ ν) (out' base tb ν₀ ν) (r' base tb ν₀ ν) dd uu) (hd' : d' ≤ dd + 6) (hu' : u' ≤ uu + 10)
    (cont : ∀ base tb ν₀ ν z, P' base tb ν₀ ν z → Ck (B w) (kapO (goes (mkV w orcs) n H c (stay front base tb) (d + 6) (u + 10) ν₀)) (r' base tb ν₀ ν z) (out' base tb ν₀ ν z) P out r d u d' u') : Cg (B w) c (front ++ X) P out r d u := Cg.cut xs hJ (fun s h => mk_ok (hOk s h)) hrun mid hd' hu' cont
variable {κ : Kap} {rr : Result} {d0 u0 : Nat}
theorem kdone {r2 : (Nat → Nat) → Result} (hOk : ∀ s, Has (B w) s front X → ∀ Q ∈ orcs, OracleOk (B w) (cellsOf front) s Q)
    (hrun : ∀ base tb ν, RunsL J (xs base tb ν) (fun ν => .ret (r2 ν)) L (goesOn (mkV w orcs) n H rr κ (stay front base tb) d u ν)) (hJ : J.Nodup)
    (fin : ∀ ν, ∃ z, P z ∧ (out z).Perm (L ν ++ X) ∧ r z = r2 ν) : Ck (B w) κ rr (front ++ X) P out r d0 u0 d u := Ck.done xs hJ (fun s h => mk_ok (hOk s h)) hrun fin
theorem kturn {c' : (Nat → Nat) → Code} (hOk : ∀ s, Has (B w) s front X → ∀ Q ∈ orcs, OracleOk (B w) (cellsOf front) s Q)
    (hrun : ∀ base tb ν, RunsL J (xs base tb ν) (fun ν => .again (c' ν)) L (goesOn (mkV w orcs) n H rr κ (stay front base tb) d u ν)) (hJ : J.Nodup)
    (hq : ∀ ν, (c' ν).quiet = true) (next : ∀ ν, Cg (B w) (c' ν) (L ν ++ X) P out r d0 u0) : Ck (B w) κ rr (front ++ X) P out r d0 u0 d u := Ck.turn xs hJ (fun s h => mk_ok (hOk s h)) hrun hq next
theorem kcut {τ : Type} {L : Nat → Nat → (Nat → Nat) → (Nat → Nat) → List (Addr × Obj)} {c' : Nat → Nat → (Nat → Nat) → (Nat → Nat) → Code} {d' u' dd uu : Nat} {P' : Nat → Nat → (Nat → Nat) → (Nat → Nat) → τ → Prop} {out' : Nat → Nat → (Nat → Nat) → (Nat → Nat) → τ → List (Addr × Obj)} {r' : Nat → Nat → (Nat → Nat) → (Nat → Nat) → τ → Result} (hOk : ∀ s, Has (B w) s front X → ∀ Q ∈ orcs, OracleOk (B w) (cellsOf front) s Q)
    (hrun : ∀ base tb ν, RunsL J (xs base tb ν) (fun ν' => .stop (c' base tb ν ν') d' u') (L base tb ν) (goesOn (mkV w orcs) n H rr κ (stay front base tb) d u ν)) (hJ : J.Nodup)
    (mid : ∀ base tb ν₀ ν, Cg (B w) (c' base tb ν₀ ν) (L base tb ν₀ ν ++ X) (P' base tb ν₀ ν) (out' base tb ν₀ ν) (r' base tb ν₀ ν) dd uu) (hd' : d' ≤ dd + 6) (hu' : u' ≤ uu + 10)
    (cont : ∀ base tb ν₀ ν z, P' base tb ν₀ ν z → Ck (B w) (kapO (goesOn (mkV w orcs) n H rr κ (stay front base tb) d u ν₀)) (r' base tb ν₀ ν z) (out' base tb ν₀ ν z) P out r d0 u0 d' u') : Ck (B w) κ rr (front ++ X) P out r d0 u0 d u := Ck.cut xs hJ (fun s h => mk_ok (hOk s h)) hrun mid hd' hu' cont
end
end Mine
end
section
open PySem PySem.Spec PySem.Calls PySem.W PySem.W.X PyProof.Rows
set_option Elab.async false
set_option maxRecDepth 100000
set_option maxHeartbeats 0
namespace Mine
/-! ## _law_down: the reading loop -/
noncomputable def tokQ (w : World) (x : Lx) (cs cs' : List Nat) (g : Nat → Nat) (k : Nat) (word : Str) (n : Int → Int) (J : List Nat) : OracleAt := QF J (fun _ ps => some (lsOf 0 ps)) (fun l => tokS w x l cs cs' g k word (n l.line)) 460 4400
noncomputable def lenBQ (w : World) (b : Bd) (vs : List Value) (c : Nat) (J : List Nat) : OracleAt := QF J (fun _ ps => some (ktoks (obAt 2 ps) 0)) (fun n => lenBS w b vs (Int.ofNat c) n) 660 5800
noncomputable def setNewQ (w : World) (b : Bd) (es : List Ent) (q : Nat) (J : List Nat) : OracleAt := QF J (fun c ps => some (ktoks (obAt 2 ps) 0, callTok 1 c, callTok 2 c)) (setNewS w b es q) 660 5800
noncomputable def setOldQ (w : World) (b : Bd) (es : List Ent) (q : Nat) (v : Value) (J : List Nat) : OracleAt := QF J (fun c ps => some (ktoks (obAt 2 ps) 0, callTok 1 c, callTok 2 c)) (setOldS w b es q v) 660 5800
noncomputable def gtQ (x y : Int) (b : Bool) : OracleAt := pureQ "int.__gt__" exII (fun a => argII ((x, a.1.2), (y, a.2.2))) fun _ => .val (.bool b)
noncomputable def seqTok (o : Obj) (i : Nat) : Nat := match o.data with
  | .seq vs _ => match vs[i]? with
    | some v => tokV v
    | none => 0
  | _ => 0
noncomputable def lenNewS (w : World) (b : Bd) (vs : List Value) (c : Nat) (a : Nat) (p : Nat × Addr × Tok × Tok) : Job := (lenBS w b (vs ++ [.ref p.2.1]) (Int.ofNat c) p.1).plus [(p.2.1, tup [.str (P a) p.2.2.1, .str (W a) p.2.2.2])]
noncomputable def lenNewQ (w : World) (b : Bd) (vs : List Value) (c : Nat) (a : Nat) (J : List Nat) : OracleAt := QF J (fun _ ps => some (ktoks (obAt 2 ps) 0, adAt 3 ps, seqTok (obAt 3 ps) 0, seqTok (obAt 3 ps) 1)) (lenNewS w b vs c a) 660 5800
noncomputable def wds (ws : List (Nat × Tok)) : List Value := ws.map fun p => .str (W p.1) p.2
structure DA where
  x : Lx
  f : Addr
  aO : Addr
  aW : Addr
  b : Bd
noncomputable def dBase (y : DA) : List (Str × Value) := [("lexer", .ref (y.x.B + 13)), ("order", .ref y.aO), ("board", .ref y.b.aB), ("words", .ref y.aW)]
structure DS where
  l : Ls
  sg : List Value
  gF : Nat → Nat
  kv : List (Str × Value)
  vs : List Value
  eb : Nat
  ws : List Value
  ew : Nat
noncomputable def dCells (w : World) (y : DA) (z : DS) : List (Addr × Obj) :=
  y.x.all w z.l z.sg ++ [(y.f, frm w z.gF (dBase y ++ z.kv))] ++ y.b.cells w z.vs z.eb ++ [(y.aW, lst z.ws z.ew)]
noncomputable def J9 : List Nat := [0, 1, 2, 3, 4, 5, 6, 7, 8]
noncomputable def kvR (t : Int) (tt : Tok) (wd : Str) (tw : Tok) (c : Int) (tc : Tok) : List (Str × Value) := [("turn", .int t tt), ("word", .str wd tw), ("count", .int c tc)]
noncomputable def kvE (t : Int) (tt : Tok) (tw : Tok) : List (Str × Value) := [("turn", .int t tt), ("word", .str ⟨#[]⟩ tw)]
noncomputable def xT (j i : Nat) (G : Goal) : Nat := tokV (valIn (obG j G) i)
noncomputable def xA (j : Nat) (G : Goal) : Nat := match G.M.T.get j with
  | some p => p.1
  | none => 0
noncomputable def xK (j n : Nat) (G : Goal) : List Nat := (List.range n).map (ktoks (obG j G))
noncomputable def rO (w : World) (y : DA) (cs cs' : List Nat) (g : Nat → Nat) (k a : Nat) (n : Int → Int) (es : List Ent) (ws : List Value) : List OracleAt :=
  [tokQ w y.x cs cs' g k (W a) n J9, eqQ (W a) ⟨#[]⟩ false, numberQ a, prettyQ a, lenBQ w y.b (vals es) es.length [10, 11, 12], setNewQ w y.b es a [10, 11, 12], lenNewQ w y.b (vals es) (es.length + 1) a [10, 11, 12, 15], gtQ (Int.ofNat (es.length + 1)) (Int.ofNat es.length) true, appendQ ws 13]
noncomputable def rOld (w : World) (y : DA) (cs cs' : List Nat) (g : Nat → Nat) (k a : Nat) (n : Int → Int) (es : List Ent) (v : Value) : List OracleAt :=
  [tokQ w y.x cs cs' g k (W a) n J9, eqQ (W a) ⟨#[]⟩ false, numberQ a, prettyQ a, lenBQ w y.b (vals es) es.length [10, 11, 12], setOldQ w y.b es a v [10, 11, 12], gtQ (Int.ofNat es.length) (Int.ofNat es.length) false]
noncomputable def rEnd (w : World) (y : DA) (cs : List Nat) (g : Nat → Nat) (k : Nat) (n : Int → Int) : List OracleAt := [tokQ w y.x cs [] g k ⟨#[]⟩ n J9]
section
variable {w : World} {y : DA} {it : Nat} {l : Ls} {gF : Nat → Nat} {es : List Ent} {eb ew : Nat} {ws : List Value} {cs cs' : List Nat} {g : Nat → Nat} {k a : Nat} {n : Int → Int} {v : Int} {lf : Nat}
noncomputable def rNext (w : World) (y : DA) (it : Addr) (l : Ls) (cs' : List Nat) (g' : Nat → Nat) (n : Int → Int) (v : Int) (lf : Nat) (a : Nat) (c : Int) (vs ws : List Value) (eb ew : Nat) (ν : Nat → Nat) : List (Addr × Obj) :=
  dCells w y ⟨⟨n l.line, ν 0, [], l.ep, ν 1⟩, sgn cs' g', fun i => ν (i + 10), kvR v (ν 2) (W a) (ν 3) c (ν 4), vs, eb, ws, ew⟩ ++ [(it, rangeIt (v + 1) (Int.ofNat (lf + 1) - 1) 1)]
noncomputable def rNew (w : World) (y : DA) (it : Addr) (l : Ls) (cs' : List Nat) (g' : Nat → Nat) (n : Int → Int) (v : Int) (lf : Nat) (a : Nat) (es : List Ent) (ws : List Value) (eb ew : Nat) (ν : Nat → Nat) : List (Addr × Obj) :=
  rNext w y it l cs' g' n v lf a (Int.ofNat es.length) (vals es ++ [.ref (ν 5)]) (ws ++ [.str (W a) (ν 3)]) (eb + 1) (ew + 1) ν ++ [(ν 5, tup [.str (P a) (ν 6), .str (W a) (ν 7)])]
noncomputable def xsR (G : Goal) : List Nat := [xT 1 0 G, ktoks (obG 8 G) 0, xT 9 4 G, xT 9 5 G, xT 9 6 G, 0, 0, 0, 0, 0] ++ xK 9 8 G
noncomputable def xsRN (G : Goal) : List Nat := [xT 1 0 G, ktoks (obG 8 G) 0, xT 9 4 G, xT 9 5 G, xT 9 6 G, xA 15 G, seqTok (obG 15 G) 0, seqTok (obG 15 G) 1, 0, 0] ++ xK 9 8 G
theorem new0_run (base tb : Nat) (ν : Nat → Nat) : RunsL [0, 1, 2, 3, 4, 5, 6, 7, 8, 9, 10, 11, 12, 13, 14, 15] xsRN (fun _ => .again (forCode w 284 0 y.f it)) (rNew w y it l cs' (gs g k) n v lf a es ws eb ew)
    (goes (mkV w (rO w y cs cs' g k a n es ws)) 152 739968877159478824670072898794867258819013871581023517989865961789085896648070335076387779976210329780736518124660917765572367773074670796040808843714838820949190469896781428544634944796321114865817354669104902345177698048 (forCode w 284 0 y.f it) (stay (dCells w y ⟨{ l with pb := [] }, sgn cs g, gF, [], vals es, eb, ws, ew⟩ ++ [(it, rangeIt v (Int.ofNat (lf + 1)) 1)]) base tb) 412 3020 ν) := by
  unfold RunsL; kernel_rfl
theorem new1_run {t c : Int} {tt tw tc : Nat} {wd : Str} (base tb : Nat) (ν : Nat → Nat) : RunsL [0, 1, 2, 3, 4, 5, 6, 7, 8, 9, 10, 11, 12, 13, 14, 15] xsRN (fun _ => .again (forCode w 284 0 y.f it)) (rNew w y it l cs' (gs g k) n v lf a es ws eb ew)
    (goes (mkV w (rO w y cs cs' g k a n es ws)) 152 739968877159478824670072898794867258819013871581023517989865961789085896648070335076387779976210329780736518124660917765572367773074670796040808843714838820949190469896781428544634944796321114865817354669104902345177698048 (forCode w 284 0 y.f it) (stay (dCells w y ⟨{ l with pb := [] }, sgn cs g, gF, kvR t tt wd tw c tc, vals es, eb, ws, ew⟩ ++ [(it, rangeIt v (Int.ofNat (lf + 1)) 1)]) base tb) 412 3020 ν) := by
  unfold RunsL; kernel_rfl
theorem old1_run {t c : Int} {tt tw tc tv : Nat} {wd : Str} (base tb : Nat) (ν : Nat → Nat) : RunsL [0, 1, 2, 3, 4, 5, 6, 7, 8, 9, 10, 11, 12, 13, 14] xsR (fun _ => .again (forCode w 284 0 y.f it)) (rNext w y it l cs' (gs g k) n v lf a (Int.ofNat es.length) (vals es) ws eb ew)
    (goes (mkV w (rOld w y cs cs' g k a n es (.str (W a) tv))) 136 156080149282424736435887483208205615469887555017622966072047764491546261868318151517092677522056962345837413273904879479220612465460025422586008885624575474059519522044792685465080299889122473356037888 (forCode w 284 0 y.f it) (stay (dCells w y ⟨{ l with pb := [] }, sgn cs g, gF, kvR t tt wd tw c tc, vals es, eb, ws, ew⟩ ++ [(it, rangeIt v (Int.ofNat (lf + 1)) 1)]) base tb) 412 3020 ν) := by
  unfold RunsL; kernel_rfl
theorem end0_run (base tb : Nat) (ν : Nat → Nat) {vs : List Value} : RunsL [0, 1, 2, 3, 4, 5, 6, 7, 8, 9, 10, 11, 12, 13] xsR (fun _ => .ret (.ok .next)) (fun ν => dCells w y ⟨⟨n l.line, ν 0, [], l.ep, ν 1⟩, [], fun i => ν (i + 10), kvE v (ν 2) (ν 3), vs, eb, ws, ew⟩)
    (goes (mkV w (rEnd w y cs g k n)) 65 132307483459892278569127846102863097945296408061430822073771537336902155747129887436050176 (forCode w 284 0 y.f it) (stay (dCells w y ⟨{ l with pb := [] }, sgn cs g, gF, [], vs, eb, ws, ew⟩ ++ [(it, rangeIt v (Int.ofNat (lf + 1)) 1)]) base tb) 412 3020 ν) := by
  unfold RunsL; kernel_rfl
theorem end1_run {t c : Int} {tt tw tc : Nat} {wd : Str} (base tb : Nat) (ν : Nat → Nat) {vs : List Value} : RunsL [0, 1, 2, 3, 4, 5, 6, 7, 8, 9, 10, 11, 12, 13] xsR (fun ν => .ret (.ok .next)) (fun ν => dCells w y ⟨⟨n l.line, ν 0, [], l.ep, ν 1⟩, [], fun i => ν (i + 10), kvR v (ν 2) ⟨#[]⟩ (ν 3) c (ν 4), vs, eb, ws, ew⟩)
    (goes (mkV w (rEnd w y cs g k n)) 65 132307483459892278569127846102863097945296408061430822073771537336902155747129887436050176 (forCode w 284 0 y.f it) (stay (dCells w y ⟨{ l with pb := [] }, sgn cs g, gF, kvR t tt wd tw c tc, vs, eb, ws, ew⟩ ++ [(it, rangeIt v (Int.ofNat (lf + 1)) 1)]) base tb) 412 3020 ν) := by
  unfold RunsL; kernel_rfl
end
end Mine
end
section
open PySem PySem.Spec PySem.Calls PySem.W PySem.W.X PyProof.Rows
set_option Elab.async false
set_option maxRecDepth 100000
set_option maxHeartbeats 0
namespace Mine
/-! ## the loop -/
noncomputable def tups (es : List Ent) : List (Addr × Obj) := es.map fun e => (e.ta, e.obj)
theorem Tups.of_has {w : World} {s s' : Shared} {front X : List (Addr × Obj)} {es : List Ent} {M : Mm} (h : Has (B w) s front X) (hX : ∀ e ∈ es, (e.ta, e.obj) ∈ X) (I : Inv (B w) (cellsOf front) s M s') : Tups w es s' := fun e he => h.keep I (e.ta, e.obj) (hX e he)
theorem mem_tups {es : List Ent} {e : Ent} (h : e ∈ es) : (e.ta, e.obj) ∈ tups es := List.mem_map_of_mem h
theorem few : ∀ (n : Nat) (l : List Nat), l.Nodup → (∀ x ∈ l, x < n) → l.length ≤ n
  | 0, l, _, h => by
    cases l with
    | nil => exact Nat.le_refl _
    | cons a l => exact absurd (h a (List.mem_cons_self ..)) (Nat.not_lt_zero _)
  | n + 1, l, hn, h => by
    have h1 := few n (l.erase n) (hn.erase n) fun x hx => by
      have := (hn.mem_erase_iff).mp hx
      have := h x this.2
      omega
    have h2 := List.length_erase (a := n) (l := l)
    split at h2 <;> omega
noncomputable def addM (ms : List Nat) (a : Nat) : List Nat := if a ∈ ms then ms else ms ++ [a]
noncomputable def lineAll (n : Int) (pend : List Nat) : List It → Int
  | [] => lineP n pend
  | i :: its => lineAll (lineI (lineP n pend) i) (pendOf i) its
structure RS where
  l : Ls
  gF : Nat → Nat
  kv : List (Str × Value)
  es : List Ent
  eb : Nat
  wt : List (Nat × Tok)
  ew : Nat
noncomputable def RS.ds (z : RS) (sg : List Value) : DS := ⟨{ z.l with pb := [] }, sg, z.gF, z.kv, vals z.es, z.eb, wds z.wt, z.ew⟩
noncomputable def KvL (kv : List (Str × Value)) (es : List Ent) : Prop := (kv = [] ∧ es = []) ∨ ∃ t tt wd tw c tc, kv = kvR t tt wd tw c tc
noncomputable def KvF (kv : List (Str × Value)) (es : List Ent) : Prop := (es = [] ∧ ∃ t tt tw, kv = kvE t tt tw) ∨ ∃ t tt wd tw c tc, kv = kvR t tt wd tw c tc
noncomputable def masks (es : List Ent) : List Nat := es.map Ent.a
theorem getV_none {q : Nat} {es : List Ent} (h : q ∉ masks es) : getV q es = .none := by
  have : es.find? (fun e => e.a == q) = none := by
    rw [List.find?_eq_none]
    intro e he hq
    exact h (List.mem_map.mpr ⟨e, he, by simpa using hq⟩)
  unfold getV; rw [this]
theorem getV_some {q : Nat} {es : List Ent} (h : q ∈ masks es) : ∃ t, getV q es = .str (W q) t := by
  obtain ⟨e, he, hq⟩ := List.mem_map.mp h
  cases hf : es.find? (fun e => e.a == q) with
  | none =>
    rw [List.find?_eq_none] at hf
    exact absurd (by simpa using hq) (hf e he)
  | some e' => exact ⟨e'.tw, by unfold getV; rw [hf]⟩
theorem W_ne_empty : ∀ a, a < 16 → ((W a).cps.toList == (⟨#[]⟩ : Str).cps.toList) = false := by decide +kernel
section
variable {w : World} {T₀ : CT} {s₀ : Shared}
theorem gtQ_ok {x y : Int} {b : Bool} (h : decide (y < x) = b) : OracleOk (B w) T₀ s₀ (gtQ x y b) := pure_ok F.entry_int_gt (by decide +kernel) (fun a => h ▸ gives_int_gt _ _ _ _) fun _ => trivial
theorem lenBQ_ok {b : Bd} {vs : List Value} {c : Nat} {J : List Nat} (hJ : J.Nodup) (hc : vs.length = c) (h16 : c ≤ 16) : OracleOk (B w) T₀ s₀ (lenBQ w b vs c J) :=
  lift_ok (F := fun _ => True) hJ (fun _ _ _ => trivial) (fun n => lenB_ctr w b n _ c h16 vs hc) (fun _ => Nat.le_refl _) (fun _ => Nat.le_refl _)
theorem lenNewQ_ok {b : Bd} {vs : List Value} {c a : Nat} {J : List Nat} (hJ : J.Nodup) (hc : vs.length + 1 = c) (h16 : c ≤ 16) : OracleOk (B w) T₀ s₀ (lenNewQ w b vs c a J) :=
  lift_ok (F := fun _ => True) hJ (fun _ _ _ => trivial) (fun p => ctr_frame (F := fun _ => True) _ (fun _ => by simp [lenBS]) (fun _ _ _ _ => trivial) (lenB_ctr w b p.1 _ c h16 _ (by simpa using hc))) (fun _ => Nat.le_refl _) (fun _ => Nat.le_refl _)
theorem tokQ_ok {x : Lx} {cs cs' : List Nat} {g : Nat → Nat} {k : Nat} {word : Str} {n : Int → Int} {J : List Nat} (hJ : J.Nodup) (h : ∀ l : Ls, Ctr (B w) (fun _ => True) (tokS w x l cs cs' g k word (n l.line))) : OracleOk (B w) T₀ s₀ (tokQ w x cs cs' g k word n J) :=
  lift_ok (F := fun _ => True) hJ (fun _ _ _ => trivial) h (fun _ => Nat.le_refl _) (fun _ => Nat.le_refl _)
end
noncomputable def rdPre (w : World) (y : DA) (it : Addr) (z : RS) (sg : List Value) (v : Int) (lf : Nat) : List (Addr × Obj) := dCells w y (z.ds sg) ++ [(it, rangeIt v (Int.ofNat (lf + 1)) 1)]
structure RdOk (es : List Ent) (line : Int) (ep : Nat) (pend : List Nat) (its : List It) (z : RS) : Prop where
  masks : masks z.es = (its.map It.a).foldl addM (masks es)
  wt : z.wt.map Prod.fst = Mine.masks z.es
  line : z.l.line = lineAll line pend its
  ep : z.l.ep = ep
  kv : KvF z.kv z.es
  h16 : ∀ e ∈ z.es, e.a < 16
theorem read_cg (w : World) (y : DA) (it : Addr) : ∀ (its : List It) (pend : List Nat) (z : RS) (g : Nat → Nat) (v : Int) (lf : Nat),
    Pend pend → (∀ i ∈ its, ItOk i) → (textOf its).length ≤ 3000 → its.length ≤ lf → KvL z.kv z.es → (masks z.es).Nodup → (∀ e ∈ z.es, e.a < 16) → z.wt.map Prod.fst = masks z.es →
    Cg (B w) (forCode w 284 0 y.f it) (rdPre w y it z (sgn (pend ++ textOf its) g) v lf ++ tups z.es) (RdOk z.es z.l.line z.l.ep pend its) (fun z => dCells w y (z.ds []) ++ tups z.es) (fun _ => .ok .next) 406 3010
  | [], pend, ⟨l, gF, kv, es, eb, wt, ew⟩, g, v, lf, hp, _, _, _, hk, hn, h16, hw => by
    intro A s R h0 hd hu hS hR
    have ok : ∀ T s, Par.Ok (mkV w (rEnd w y (pend ++ textOf []) g pend.length fun m => lineP m pend)) T s := fun T s => mk_ok (all_one (tokQ_ok (nodupB rfl) fun l => by
      have := tokE_ctr (w := w) (F := fun _ => True) y.x l hp g
      rw [show pend ++ textOf [] = pend from List.append_nil _]
      exact this))
    rcases hk with ⟨hk, he⟩ | ⟨t, tt, wd, tw, c, tc, hk⟩
    · obtain rfl : kv = [] := hk
      obtain rfl : es = [] := he
      refine go (V := B w) (d := 406) (u := 3010) (J := [0, 1, 2, 3, 4, 5, 6, 7, 8, 9, 10, 11, 12, 13]) (fun _ _ _ => xsR) (nodupB rfl) (fun _ _ => ok _ _) (fun base tb ν => end0_run base tb ν) h0 hd hu hS fun base tb ν₀ ν b b2 s' I => ?_
      exact hR ⟨⟨lineP l.line pend, ν 0, [], l.ep, ν 1⟩, fun i => ν (i + 10), _, [], eb, wt, ew⟩ b b2 s' ⟨rfl, hw, rfl, rfl, .inl ⟨rfl, _, _, _, rfl⟩, h16⟩ I
    · obtain rfl : kv = _ := hk
      refine go (V := B w) (d := 406) (u := 3010) (J := [0, 1, 2, 3, 4, 5, 6, 7, 8, 9, 10, 11, 12, 13]) (fun _ _ _ => xsR) (nodupB rfl) (fun _ _ => ok _ _) (fun base tb ν => end1_run base tb ν) h0 hd hu hS fun base tb ν₀ ν b b2 s' I => ?_
      exact hR ⟨⟨lineP l.line pend, ν 0, [], l.ep, ν 1⟩, fun i => ν (i + 10), _, es, eb, wt, ew⟩ b b2 s' ⟨rfl, hw, rfl, rfl, .inr ⟨_, _, _, _, _, _, rfl⟩, h16⟩ I
  | i :: its, pend, ⟨l, gF, kv, es, eb, wt, ew⟩, g, v, lf, hp, hi, hl, hf, hk, hn, h16, hw => by
    intro A s R h0 hd hu hS hR
    replace h16 : ∀ e ∈ es, e.a < 16 := h16
    replace hn : (masks es).Nodup := hn
    replace hw : wt.map Prod.fst = masks es := hw
    replace hk : KvL kv es := hk
    have hio := hi i (List.mem_cons_self ..)
    have hi' : ∀ j ∈ its, ItOk j := fun j hj => hi j (List.mem_cons_of_mem _ hj)
    have ha : i.a < 16 := hio.1
    have hlt : (textOf its).length ≤ 3000 := by rw [textOf] at hl; simp at hl; omega
    obtain ⟨lf', rfl⟩ : ∃ k, lf = k + 1 := ⟨lf - 1, by rw [List.length_cons] at hf; omega⟩
    have hf' : its.length ≤ lf' := by rw [List.length_cons] at hf; omega
    have hlen : (masks es).length ≤ 16 := few 16 _ hn fun x hx => by obtain ⟨e, he, rfl⟩ := List.mem_map.mp hx; exact h16 e he
    have hel : es.length ≤ 16 := by simpa [masks] using hlen
    have hvl : (vals es).length = es.length := by simp [vals]
    have hwl : (wds wt).length ≤ 1000 := by
      have := congrArg List.length hw
      simp [masks] at this
      simp [wds]; omega
    have hpend : Pend (pendOf i) := by
      unfold pendOf; split
      · exact .inr ⟨_, hio.2, rfl⟩
      · exact .inl rfl
    have tok : ∀ T s, OracleOk (B w) T s (tokQ w y.x (pend ++ textOf (i :: its)) (pendOf i ++ textOf its) g (pend.length + used i) (W i.a) (fun m => lineI (lineP m pend) i) J9) := fun T s => tokQ_ok (nodupB rfl) fun l => tokI_ctr y.x l hp hio hlt g
    have hrange : ∀ v : Int, rangeIt (v + 1) (Int.ofNat (lf' + 1 + 1) - 1) 1 = rangeIt (v + 1) (Int.ofNat (lf' + 1)) 1 := fun v => by
      have : (Int.ofNat (lf' + 1 + 1) - 1 : Int) = Int.ofNat (lf' + 1) := by simp only [Int.ofNat_eq_natCast]; omega
      rw [this]
    have step := fun z g v => read_cg w y it its (pendOf i) z g v lf' hpend hi' hlt hf'
    by_cases hm : i.a ∈ masks es
    · -- the word is there already
      obtain ⟨tv, htv⟩ := getV_some hm
      have hne : es ≠ [] := fun e => by subst e; cases hm
      obtain ⟨t, tt, wd, tw, c, tc, rfl⟩ : ∃ t tt wd tw c tc, kv = kvR t tt wd tw c tc := by
        rcases hk with ⟨_, h⟩ | h
        · exact absurd h hne
        · exact h
      have okO : ∀ s, Has (B w) s (dCells w y ⟨{ l with pb := [] }, sgn (pend ++ textOf (i :: its)) g, gF, kvR t tt wd tw c tc, vals es, eb, wds wt, ew⟩ ++ [(it, rangeIt v (Int.ofNat (lf' + 1 + 1)) 1)]) (tups es) → Par.Ok (mkV w (rOld w y (pend ++ textOf (i :: its)) (pendOf i ++ textOf its) g (pend.length + used i) i.a (fun m => lineI (lineP m pend) i) es (.str (W i.a) tv))) (cellsOf (dCells w y ⟨{ l with pb := [] }, sgn (pend ++ textOf (i :: its)) g, gF, kvR t tt wd tw c tc, vals es, eb, wds wt, ew⟩ ++ [(it, rangeIt v (Int.ofNat (lf' + 1 + 1)) 1)])) s := fun s hH =>
        mk_ok (all_cons (tok _ _) (all_cons (eqQ_ok (W_ne_empty _ ha)) (all_cons (number_ok ha) (all_cons (pretty_ok ha) (all_cons (lenBQ_ok (nodupB rfl) hvl hel) (all_cons (lift_ok (F := Tups w es) (nodupB rfl) (fun M s' I => Tups.of_has hH (fun e he => mem_tups he) I) (fun p => setOld_ctr w h16 ha y.b htv p) (fun _ => Nat.le_refl _) (fun _ => Nat.le_refl _)) (all_one (gtQ_ok (decide_eq_false (Int.lt_irrefl _))))))))))
      refine go (V := B w) (d := 406) (u := 3010) (J := [0, 1, 2, 3, 4, 5, 6, 7, 8, 9, 10, 11, 12, 13, 14]) (fun _ _ _ => xsR) (nodupB rfl) (fun hH _ => okO s hH) (fun base tb ν => old1_run (tv := tv) base tb ν) h0 hd hu hS fun base tb ν₀ ν b b2 s' I => ?_
      refine ⟨rfl, ?_⟩
      rw [rNext, hrange] at I
      generalize hz : (⟨⟨lineI (lineP l.line pend) i, ν 0, [], l.ep, ν 1⟩, fun i => ν (i + 10), kvR v (ν 2) (W i.a) (ν 3) (Int.ofNat es.length) (ν 4), es, eb, wt, ew⟩ : RS) = z'
      have I2 : Inv (B w) (cellsOf (rdPre w y it ⟨l, gF, kvR t tt wd tw c tc, es, eb, wt, ew⟩ (sgn (pend ++ textOf (i :: its)) g) v (lf' + 1) ++ tups es)) s (stay (rdPre w y it z' (sgn (pendOf i ++ textOf its) (gs g (pend.length + used i))) (v + 1) lf' ++ tups z'.es) b b2) s' := by subst hz; exact I
      have stp := step z' (gs g (pend.length + used i)) (v + 1) (by subst hz; exact .inr ⟨_, _, _, _, _, _, rfl⟩) (by subst hz; exact hn) (by subst hz; exact h16) (by subst hz; exact hw) A s' R h0 hd hu I2.again
      refine stp fun z b' t' s'' ho I' => ?_
      refine hR z b' t' s'' ?_ (I2.next I')
      subst hz
      refine ⟨?_, ho.wt, ho.line, ho.ep, ho.kv, ho.h16⟩
      rw [ho.masks, List.map_cons, List.foldl_cons]
      congr 1
      exact (if_pos hm).symm
    · have hnv := getV_none hm
      have hln : es.length + 1 ≤ 16 := by
        have : (i.a :: masks es).Nodup := List.nodup_cons.mpr ⟨hm, hn⟩
        have := few 16 _ this fun x hx => by
          rcases List.mem_cons.mp hx with rfl | hx
          · exact ha
          · obtain ⟨e, he, rfl⟩ := List.mem_map.mp hx; exact h16 e he
        simpa [masks] using this
      have okN : ∀ s, Has (B w) s (dCells w y ⟨{ l with pb := [] }, sgn (pend ++ textOf (i :: its)) g, gF, kv, vals es, eb, wds wt, ew⟩ ++ [(it, rangeIt v (Int.ofNat (lf' + 1 + 1)) 1)]) (tups es) → Par.Ok (mkV w (rO w y (pend ++ textOf (i :: its)) (pendOf i ++ textOf its) g (pend.length + used i) i.a (fun m => lineI (lineP m pend) i) es (wds wt))) (cellsOf (dCells w y ⟨{ l with pb := [] }, sgn (pend ++ textOf (i :: its)) g, gF, kv, vals es, eb, wds wt, ew⟩ ++ [(it, rangeIt v (Int.ofNat (lf' + 1 + 1)) 1)])) s := fun s hH =>
        mk_ok (all_cons (tok _ _) (all_cons (eqQ_ok (W_ne_empty _ ha)) (all_cons (number_ok ha) (all_cons (pretty_ok ha) (all_cons (lenBQ_ok (nodupB rfl) hvl hel) (all_cons (lift_ok (F := Tups w es) (nodupB rfl) (fun M s' I => Tups.of_has hH (fun e he => mem_tups he) I) (fun p => setNew_ctr w h16 (by omega) ha y.b hnv p) (fun _ => Nat.le_refl _) (fun _ => Nat.le_refl _)) (all_cons (lenNewQ_ok (nodupB rfl) (by rw [hvl]) hln) (all_cons (gtQ_ok (decide_eq_true (by simp only [Int.ofNat_eq_natCast]; omega))) (all_one (appendQ_ok hwl 13))))))))))
      have fin : ∀ (ν : Nat → Nat) (b t : Nat) (s' : Shared), Inv (B w) (cellsOf (rdPre w y it ⟨l, gF, kv, es, eb, wt, ew⟩ (sgn (pend ++ textOf (i :: its)) g) v (lf' + 1) ++ tups es)) s (stay (rNew w y it l (pendOf i ++ textOf its) (gs g (pend.length + used i)) (fun m => lineI (lineP m pend) i) v (lf' + 1) i.a es (wds wt) eb ew ν ++ tups es) b t) s' → codeAny (model (B w).prog (B w).w) A (forCode w 284 0 y.f it) R s' := fun ν b t s' I => by
        rw [rNew, rNext, hrange] at I
        have e1 : vals es ++ [.ref (ν 5)] = vals (es ++ [⟨ν 5, i.a, ν 6, ν 7⟩]) := by simp [vals]
        have e2 : wds wt ++ [.str (W i.a) (ν 3)] = wds (wt ++ [(i.a, ν 3)]) := by simp [wds]
        have e3 : masks (es ++ [⟨ν 5, i.a, ν 6, ν 7⟩]) = masks es ++ [i.a] := by simp [masks]
        have e4 : tups (es ++ [⟨ν 5, i.a, ν 6, ν 7⟩]) = tups es ++ [(ν 5, tup [.str (P i.a) (ν 6), .str (W i.a) (ν 7)])] := by simp [tups, Ent.obj]
        rw [e1, e2] at I
        generalize hz : (⟨⟨lineI (lineP l.line pend) i, ν 0, [], l.ep, ν 1⟩, fun i => ν (i + 10), kvR v (ν 2) (W i.a) (ν 3) (Int.ofNat es.length) (ν 4), es ++ [⟨ν 5, i.a, ν 6, ν 7⟩], eb + 1, wt ++ [(i.a, ν 3)], ew + 1⟩ : RS) = z'
        have I2 : Inv (B w) (cellsOf (rdPre w y it ⟨l, gF, kv, es, eb, wt, ew⟩ (sgn (pend ++ textOf (i :: its)) g) v (lf' + 1) ++ tups es)) s (stay (rdPre w y it z' (sgn (pendOf i ++ textOf its) (gs g (pend.length + used i))) (v + 1) lf' ++ tups z'.es) b t) s' := by
          subst hz
          refine I.perm ?_
          show List.Perm (_ ++ tups (es ++ [⟨ν 5, i.a, ν 6, ν 7⟩])) _
          rw [e4]
          exact perm_tail
        have n1 : (masks z'.es).Nodup := by
          subst hz
          show (masks (es ++ [⟨ν 5, i.a, ν 6, ν 7⟩])).Nodup
          rw [e3]
          refine List.nodup_append.mpr ⟨hn, by simp, fun a h1 c h2 e => ?_⟩
          rw [List.mem_singleton] at h2
          subst h2 e
          exact hm h1
        have n2 : ∀ e ∈ z'.es, e.a < 16 := fun e he => by
          subst hz
          rcases List.mem_append.mp he with he | he
          · exact h16 e he
          · rw [List.mem_singleton] at he; subst he; exact ha
        have n3 : z'.wt.map Prod.fst = masks z'.es := by
          subst hz
          show (wt ++ [(i.a, ν 3)]).map Prod.fst = masks (es ++ [⟨ν 5, i.a, ν 6, ν 7⟩])
          rw [e3, List.map_append, hw]; rfl
        have stp := step z' (gs g (pend.length + used i)) (v + 1) (by subst hz; exact .inr ⟨_, _, _, _, _, _, rfl⟩) n1 n2 n3 A s' R h0 hd hu I2.again
        refine stp fun z b' t' s'' ho I' => ?_
        refine hR z b' t' s'' ?_ (I2.next I')
        subst hz
        refine ⟨?_, ho.wt, ho.line, ho.ep, ho.kv, ho.h16⟩
        rw [ho.masks]
        show _ = List.foldl addM (addM (masks es) i.a) (its.map It.a)
        congr 1
        rw [addM, if_neg hm, ← e3]
      rcases hk with ⟨rfl, rfl⟩ | ⟨t, tt, wd, tw, c, tc, rfl⟩
      · exact go (V := B w) (d := 406) (u := 3010) (J := [0, 1, 2, 3, 4, 5, 6, 7, 8, 9, 10, 11, 12, 13, 14, 15]) (fun _ _ _ => xsRN) (nodupB rfl) (fun hH _ => okN s hH) (fun base tb ν => new0_run base tb ν) h0 hd hu hS fun base tb ν₀ ν b b2 s' I => ⟨rfl, fin ν b b2 s' I⟩
      · exact go (V := B w) (d := 406) (u := 3010) (J := [0, 1, 2, 3, 4, 5, 6, 7, 8, 9, 10, 11, 12, 13, 14, 15]) (fun _ _ _ => xsRN) (nodupB rfl) (fun hH _ => okN s hH) (fun base tb ν => new1_run base tb ν) h0 hd hu hS fun base tb ν₀ ν b b2 s' I => ⟨rfl, fin ν b b2 s' I⟩
end Mine
end
section
open PySem PySem.Spec PySem.Calls PySem.W PySem.W.X PyProof.Rows
set_option Elab.async false
set_option maxRecDepth 100000
set_option maxHeartbeats 0
namespace Mine
/-! ## _law_down: the words go back to the lexer -/
noncomputable def pushQ (w : World) (x : Lx) (v : Str) (pb : List Value) : OracleAt := QF [0, 1, 2] (fun c ps => some (lsOf 0 ps, callTok 1 c)) (fun p => pushS w x { p.1 with pb := pb } v p.2) 500 4400
noncomputable def popTQ (w : World) (x : Lx) (v : Str) (t : Tok) (pb : List Value) : OracleAt := QF [0, 1, 2] (fun _ ps => some (lsOf 0 ps)) (fun l => popTS w x { l with pb := pb } v t) 460 4400
noncomputable def andQ (x y z : Int) : OracleAt := pureQ "int.__and__" exII (fun a => argII ((x, a.1.2), (y, a.2.2))) fun _ => .int z
noncomputable def minusQ (x y z : Int) : OracleAt := pureQ "int.__sub__" exII (fun a => argII ((x, a.1.2), (y, a.2.2))) fun _ => .int z
noncomputable def bgetJ (w : World) (es : List Ent) (q : Nat) (x : Str) (b : Bd) (v : Value) (J : List Nat) : OracleAt := QF J (fun c ps => some (ktoks (obAt 2 ps) 0, callTok 1 c)) (fun p => { getBS w b es q x p with r := fun _ => .ok (.ret v) }) 680 5900
noncomputable def bdelJ (w : World) (es : List Ent) (q : Nat) (x : Str) (b : Bd) (J : List Nat) : OracleAt := QF J (fun c ps => some (ktoks (obAt 2 ps) 0, callTok 1 c)) (delBS w b es q x) 580 4900
noncomputable def qCells (w : World) (y : DA) (l : Ls) (pb : List Value) (gF : Nat → Nat) (kv : List (Str × Value)) (vs : List Value) (eb : Nat) (ws : List Value) (ew : Nat) : List (Addr × Obj) := dCells w y ⟨{ l with pb := pb }, [], gF, kv, vs, eb, ws, ew⟩
noncomputable def kvF (a b c : Value) (f : Nat) (tf : Tok) (rest : List (Str × Value)) : List (Str × Value) := ("turn", a) :: ("word", b) :: ("count", c) :: ("flag", .int (N f) tf) :: rest
noncomputable def restN (n : Value) : List (Str × Value) → List (Str × Value)
  | [] => [(("number" : Str), n)]
  | _ :: l => (("number" : Str), n) :: l
noncomputable def restL (n q : Value) : List (Str × Value) := [(("number" : Str), n), (("lower" : Str), q)]
noncomputable def lowM (f a : Nat) : Nat := a - f
noncomputable def puO (w : World) (y : DA) (vs : List Value) (i : Nat) (a : Nat) (t : Tok) (pb : List Value) : List OracleAt := [nextQ vs i (.str (W a) t) 14 13, pushQ w y.x (W a) pb]
noncomputable def t1O (w : World) (y : DA) (f a : Nat) (t : Tok) (pb : List Value) : List OracleAt := [popTQ w y.x (W a) t pb, numberQ a, andQ (N a) (N f) 0, pushQ w y.x (W a) pb]
noncomputable def t2O (w : World) (y : DA) (f a : Nat) (t : Tok) (pb : List Value) (es : List Ent) (v : Tok) : List OracleAt := [popTQ w y.x (W a) t pb, numberQ a, andQ (N a) (N f) (N f), ifQ (N f) true, minusQ (N a) (N f) (N (lowM f a)), prettyQ (lowM f a), lowerQ (P (lowM f a)) (PL (lowM f a)), bgetJ w es (lowM f a) (PL (lowM f a)) y.b (.str (W (lowM f a)) v) [10, 11, 12], pushQ w y.x (W a) pb]
noncomputable def t3O (w : World) (y : DA) (f a : Nat) (t : Tok) (pb : List Value) (es : List Ent) : List OracleAt := [popTQ w y.x (W a) t pb, numberQ a, andQ (N a) (N f) (N f), ifQ (N f) true, minusQ (N a) (N f) (N (lowM f a)), prettyQ (lowM f a), lowerQ (P (lowM f a)) (PL (lowM f a)), bgetJ w es (lowM f a) (PL (lowM f a)) y.b .none [10, 11, 12],
  wordQ (lowM f a), prettyQ a, lowerQ (P a) (PL a), bdelJ w es a (PL a) y.b [10, 11, 12], setNewQ w y.b (es.filter fun e => !(e.a == a)) (lowM f a) [10, 11, 12], pushQ w y.x (W (lowM f a)) pb]
noncomputable def Rest (l : List (Str × Value)) : Prop := l = [] ∨ (∃ p, l = [(("number" : Str), p)]) ∨ ∃ p q, l = [(("number" : Str), p), (("lower" : Str), q)]
theorem Rest.n (n : Value) {l : List (Str × Value)} (h : Rest l) : Rest (restN n l) := by
  rcases h with rfl | ⟨p, rfl⟩ | ⟨p, q, rfl⟩
  · exact .inr (.inl ⟨_, rfl⟩)
  · exact .inr (.inl ⟨_, rfl⟩)
  · exact .inr (.inr ⟨_, _, rfl⟩)
theorem Rest.l (n q : Value) : Rest (restL n q) := .inr (.inr ⟨_, _, rfl⟩)
section
variable {w : World} {y : DA} {it : Nat} {l : Ls} {pb : List Value} {gF : Nat → Nat} {t cc : Int} {tt tw tc ta i : Nat} {wd : Str} {vs : List Value} {eb : Nat} {ws : List Value} {ew : Nat} {a b c : Value} {f tf q n tv : Nat} {es : List Ent} {v : Int}
theorem push1_run (base tb : Nat) (ν : Nat → Nat) : RunsL [0, 1, 2, 3, 4, 5, 6, 7, 8, 9, 10, 11, 12, 13, 14] (xK 9 8) (fun _ => .again (forCode w 284 1 y.f it))
    (fun ν => qCells w y { l with ep := l.ep + 1 } (pb ++ [.str (W q) ta]) ν (kvR t tt (W q) ta cc tc) vs eb ws ew ++ [(it, iterObj y.aW (i + 1))])
    (goes (mkV w (puO w y ws i q ta pb)) 41 212681526853918873094350053836832238446345815039597705877396655872 (forCode w 284 1 y.f it) (stay (qCells w y l pb gF (kvR t tt wd tw cc tc) vs eb ws ew ++ [(it, iterObj y.aW i)]) base tb) 412 3020 ν) := by
  unfold RunsL; kernel_rfl
theorem pushE_run {kv : List (Str × Value)} (hk : (∃ t tt tw, kv = kvE t tt tw) ∨ ∃ t tt wd tw c tc, kv = kvR t tt wd tw c tc) (base tb : Nat) (ν : Nat → Nat) : RunsL [0, 1, 2, 3, 4, 5, 6, 7, 8, 9, 10, 11, 12, 13] (xK 9 8) (fun _ => .ret (.ok .next))
    (fun ν => qCells w y l pb ν kv vs eb ws ew)
    (goes (mkV w [endQ ws i 14 13]) 10 18709129203456 (forCode w 284 1 y.f it) (stay (qCells w y l pb gF kv vs eb ws ew ++ [(it, iterObj y.aW i)]) base tb) 412 3020 ν) := by
  rcases hk with ⟨t, tt, tw, rfl⟩ | ⟨t, tt, wd, tw, c, tc, rfl⟩ <;> (unfold RunsL; kernel_rfl)
theorem inE_run {rest : List (Str × Value)} (hk : Rest rest) (base tb : Nat) (ν : Nat → Nat) : RunsL [0, 1, 2, 3, 4, 5, 6, 7, 8, 9, 10, 11, 12, 13] (xK 9 11) (fun _ => .ret (.ok .next))
    (fun ν => qCells w y l pb ν (kvF a b c f tf rest) vs eb ws ew)
    (goes (mkV w []) 18 314679751781208035072 (forCode w 284 3 y.f it) (stay (qCells w y l pb gF (kvF a b c f tf rest) vs eb ws ew ++ [(it, rangeIt v (Int.ofNat 0) 1)]) base tb) 418 3030 ν) := by
  rcases hk with rfl | ⟨p, rfl⟩ | ⟨p, q, rfl⟩ <;> (unfold RunsL; kernel_rfl)
noncomputable def xsI (G : Goal) : List Nat := [xT 9 4 G, xT 9 8 G, xT 9 9 G, xT 9 5 G, xA 15 G, ktoks (obG 12 G) 0, seqTok (obG 15 G) 0, seqTok (obG 15 G) 1, 0, 0] ++ xK 9 11 G
theorem in1_run {rest : List (Str × Value)} (hk : Rest rest) (base tb : Nat) (ν : Nat → Nat) : RunsL [0, 1, 2, 3, 4, 5, 6, 7, 8, 9, 10, 11, 12, 13, 14] xsI (fun _ => .again (forCode w 284 3 y.f it))
    (fun ν => qCells w y { l with ep := l.ep + 2 } (pb ++ [.str (W q) ta]) (fun i => ν (i + 10)) (kvF (.int v (ν 0)) (.str (W q) ta) c f tf (restN (.int (N q) (ν 1)) rest)) vs eb ws ew ++ [(it, rangeIt (v + 1) (Int.ofNat (n + 1) - 1) 1)])
    (goes (mkV w (t1O w y f q ta pb)) 109 116746847319252236896593629287126132203767618615368964878466993135316700844913761628057173723863574299716143805963218903378536384365373629683496779766288954641354496 (forCode w 284 3 y.f it) (stay (qCells w y l (.str (W q) ta :: pb) gF (kvF a b c f tf rest) vs eb ws ew ++ [(it, rangeIt v (Int.ofNat (n + 1)) 1)]) base tb) 418 3030 ν) := by
  rcases hk with rfl | ⟨p, rfl⟩ | ⟨p, q, rfl⟩ <;> (unfold RunsL; kernel_rfl)
theorem in2_run {rest : List (Str × Value)} (hk : Rest rest) (base tb : Nat) (ν : Nat → Nat) : RunsL [0, 1, 2, 3, 4, 5, 6, 7, 8, 9, 10, 11, 12, 13, 14] xsI (fun _ => .again (forCode w 284 3 y.f it))
    (fun ν => qCells w y { l with ep := l.ep + 2 } (pb ++ [.str (W q) ta]) (fun i => ν (i + 10)) (kvF (.int v (ν 0)) (.str (W q) ta) c f tf (restL (.int (N q) (ν 1)) (.str (P (lowM f q)) (ν 2)))) (vals es) eb ws ew ++ [(it, rangeIt (v + 1) (Int.ofNat (n + 1) - 1) 1)])
    (goes (mkV w (t2O w y f q ta pb es tv)) 162 53314828202571752794810717366203961256989047024060740791179584801240327332678691075634029068569010315181685666088191876059278356571059015501985417642291556648706462290537777470122616129022711422321741683123565277185453260205458906658377472 (forCode w 284 3 y.f it) (stay (qCells w y l (.str (W q) ta :: pb) gF (kvF a b c f tf rest) (vals es) eb ws ew ++ [(it, rangeIt v (Int.ofNat (n + 1)) 1)]) base tb) 418 3030 ν) := by
  rcases hk with rfl | ⟨p, rfl⟩ | ⟨p, q, rfl⟩ <;> (unfold RunsL; kernel_rfl)
theorem in3_run {rest : List (Str × Value)} (hk : Rest rest) (base tb : Nat) (ν : Nat → Nat) : RunsL [0, 1, 2, 3, 4, 5, 6, 7, 8, 9, 10, 11, 12, 13, 14, 15] xsI (fun _ => .again (forCode w 284 3 y.f it))
    (fun ν => qCells w y { l with ep := l.ep + 2 } (pb ++ [.str (W (lowM f q)) (ν 3)]) (fun i => ν (i + 10)) (kvF (.int v (ν 0)) (.str (W (lowM f q)) (ν 3)) c f tf (restL (.int (N q) (ν 1)) (.str (P (lowM f q)) (ν 2)))) (vals (es.filter fun e => !(e.a == q)) ++ [.ref (ν 4)]) (ν 5) ws ew ++ [(it, rangeIt (v + 1) (Int.ofNat (n + 1) - 1) 1)] ++ [(ν 4, tup [.str (P (lowM f q)) (ν 6), .str (W (lowM f q)) (ν 7)])])
    (goes (mkV w (t3O w y f q ta pb es)) 237 126406916348355738276985325425924273251688602234736512513617194139243297288396585138361628369079722395947715007573513197632344686763784937848675175744867534094928262706226567028084028646359704637120110172898694752748008850443418985409436198072102670773238922282319400648594134570478179587117619487328640899466891271328887534246516666555426802765568 (forCode w 284 3 y.f it) (stay (qCells w y l (.str (W q) ta :: pb) gF (kvF a b c f tf rest) (vals es) eb ws ew ++ [(it, rangeIt v (Int.ofNat (n + 1)) 1)]) base tb) 418 3030 ν) := by
  rcases hk with rfl | ⟨p, rfl⟩ | ⟨p, q, rfl⟩ <;> (unfold RunsL; kernel_rfl)
end
end Mine
end
section
open PySem PySem.Spec PySem.Calls PySem.W PySem.W.X PyProof.Rows
set_option Elab.async false
set_option maxRecDepth 100000
set_option maxHeartbeats 0
namespace Mine
section
variable {w : World} {T₀ : CT} {s₀ : Shared}
theorem gives_and (x y : Int) (t u : Tok) : Gives (Builtin.«int.__and__» ⟨[.int x t, .int y u], []⟩) (.int (Builtin.bitAnd x y)) :=
  .of_wp fun M A E s Q h => by obtain ⟨hp, g, d, tk, os⟩ := s; wp_walk; exact ⟨_, rfl, h⟩
theorem andQ_ok {x y z : Int} (h : Builtin.bitAnd x y = z) : OracleOk (B w) T₀ s₀ (andQ x y z) := pure_ok F.entry_int_and (by decide +kernel) (fun a => h ▸ gives_and _ _ _ _) fun _ => trivial
theorem minusQ_ok {x y z : Int} (h : x - y = z) : OracleOk (B w) T₀ s₀ (minusQ x y z) := pure_ok F.entry_int_sub (by decide +kernel) (fun a => h ▸ gives_int_sub _ _ _ _) fun _ => trivial
theorem pushQ_ok {x : Lx} {v : Str} {pb : List Value} (h : pb.length ≤ 1000) : OracleOk (B w) T₀ s₀ (pushQ w x v pb) :=
  lift_ok (F := fun _ => True) (nodupB rfl) (fun _ _ _ => trivial) (fun p => push_ctr w x { p.1 with pb := pb } h v p.2 _) (fun _ => Nat.le_refl _) (fun _ => Nat.le_refl _)
theorem popTQ_ok {x : Lx} {v : Str} {t : Tok} {pb : List Value} (h : pb.length ≤ 1000) : OracleOk (B w) T₀ s₀ (popTQ w x v t pb) :=
  lift_ok (F := fun _ => True) (nodupB rfl) (fun _ _ _ => trivial) (fun l => popT_ctr w x { l with pb := pb } h v t _) (fun _ => Nat.le_refl _) (fun _ => Nat.le_refl _)
theorem bgetJ_ok {es : List Ent} (h16 : ∀ e ∈ es, e.a < 16) {q : Nat} (hq : q < 16) {x : Str} (hx : ∀ T s, OracleOk (B w) T s (lowerQ x (PL q))) (b : Bd) {v : Value} (hv : getV q es = v) {J : List Nat} (hJ : J.Nodup) (hF : ∀ M s, Inv (B w) T₀ s₀ M s → Tups w es s) : OracleOk (B w) T₀ s₀ (bgetJ w es q x b v J) := by
  subst hv
  exact lift_ok (F := Tups w es) hJ hF (fun p => boardGet_ctr w h16 hq hx b p) (fun _ => Nat.le_refl _) (fun _ => Nat.le_refl _)
theorem bdelJ_ok {es : List Ent} (h16 : ∀ e ∈ es, e.a < 16) (hl : es.length ≤ 1000) {q : Nat} (hq : q < 16) {x : Str} (hx : ∀ T s, OracleOk (B w) T s (lowerQ x (PL q))) (b : Bd) {J : List Nat} (hJ : J.Nodup) (hF : ∀ M s, Inv (B w) T₀ s₀ M s → Tups w es s) : OracleOk (B w) T₀ s₀ (bdelJ w es q x b J) :=
  lift_ok (F := Tups w es) hJ hF (fun p => del_ctr w h16 hl hq hx b p) (fun _ => Nat.le_refl _) (fun _ => Nat.le_refl _)
theorem setNewQ_ok {es : List Ent} (h16 : ∀ e ∈ es, e.a < 16) (hl : es.length ≤ 1000) {q : Nat} (hq : q < 16) (b : Bd) (hv : getV q es = .none) {J : List Nat} (hJ : J.Nodup) (hF : ∀ M s, Inv (B w) T₀ s₀ M s → Tups w es s) : OracleOk (B w) T₀ s₀ (setNewQ w b es q J) :=
  lift_ok (F := Tups w es) hJ hF (fun p => setNew_ctr w h16 hl hq b hv p) (fun _ => Nat.le_refl _) (fun _ => Nat.le_refl _)
end
theorem codeQuiet_for (w : World) (a k : Nat) (f it : Addr) : (forCode w a k f it).quiet = true := rfl
/-! ## the words go back -/
noncomputable def PW (ws : List (Nat × Tok)) : Prop := ∀ p ∈ ws, p.1 < 16
structure PS where
  g : Nat → Nat
  ep : Nat
  kv : List (Str × Value)
theorem push_cg (w : World) (y : DA) (it : Addr) (vs : List Value) (eb ew : Nat) (wt : List (Nat × Tok)) : ∀ (rest : List (Nat × Tok)) (i : Nat) (l : Ls) (pb : List Value) (gF : Nat → Nat) (kv : List (Str × Value)),
    wt.drop i = rest → pb.length + rest.length ≤ 500 → ((rest = [] ∧ ∃ t tt tw, kv = kvE t tt tw) ∨ ∃ t tt wd tw c tc, kv = kvR t tt wd tw c tc) →
    Cg (B w) (forCode w 284 1 y.f it) (qCells w y l pb gF kv vs eb (wds wt) ew ++ [(it, iterObj y.aW i)])
      (fun z : PS => (rest = [] → z.kv = kv) ∧ (rest ≠ [] → ∃ t tt wd tw c tc, z.kv = kvR t tt wd tw c tc)) (fun z => qCells w y { l with ep := z.ep } (pb ++ wds rest) z.g z.kv vs eb (wds wt) ew) (fun _ => .ok .next) 406 3010
  | [], i, l, pb, gF, kv, hd, _, hk => by
    have hx : (wds wt)[i]? = none := by
      have : wt.length ≤ i := by simpa using hd
      simp [wds, this]
    have hk' : (∃ t tt tw, kv = kvE t tt tw) ∨ ∃ t tt wd tw c tc, kv = kvR t tt wd tw c tc := hk.imp And.right id
    rw [← List.append_nil (_ ++ [(it, iterObj y.aW i)])]
    refine bdone (d := 406) (u := 3010) [endQ (wds wt) i 14 13] (fun _ _ _ => xK 9 8) (fun s _ => all_one (endQ_ok hx (by decide))) (fun base tb ν => pushE_run hk' base tb ν) (nodupB rfl) (fun ν => ⟨⟨ν, l.ep, kv⟩, ⟨fun _ => rfl, fun h => absurd rfl h⟩, ?_, rfl⟩)
    show List.Perm (qCells w y { l with ep := l.ep } (pb ++ []) ν kv vs eb (wds wt) ew) (qCells w y l pb ν kv vs eb (wds wt) ew ++ [])
    rw [List.append_nil, List.append_nil]
  | p :: rest, i, l, pb, gF, kv, hd, hpl, hk => by
    obtain ⟨t, tt, wd, tw, c, tc, rfl⟩ : ∃ t tt wd tw c tc, kv = kvR t tt wd tw c tc := by
      rcases hk with ⟨h, _⟩ | h
      · cases h
      · exact h
    have hi := at_of_drop hd
    have hx : (wds wt)[i]? = some (.str (W p.1) p.2) := by simp [wds, hi]
    rw [List.length_cons] at hpl
    have ih := fun ν : Nat → Nat => push_cg w y it vs eb ew wt rest (i + 1) { l with ep := l.ep + 1 } (pb ++ [.str (W p.1) p.2]) ν (kvR t tt (W p.1) p.2 c tc) (drop_next hd) (by simp; omega) (.inr ⟨_, _, _, _, _, _, rfl⟩)
    rw [← List.append_nil (_ ++ [(it, iterObj y.aW i)])]
    refine bturn (d := 406) (u := 3010) (puO w y (wds wt) i p.1 p.2 pb) (fun _ _ _ => xK 9 8) (fun s _ => all_cons (nextQ_ok hx (by decide)) (all_one (pushQ_ok (by omega)))) (fun base tb ν => push1_run (q := p.1) (ta := p.2) base tb ν) (nodupB rfl) (fun _ => rfl) (fun ν => ?_)
    rw [List.append_nil]
    refine (ih ν).map fun z hz => ⟨z, ⟨fun h => (List.cons_ne_nil _ _ h).elim, fun _ => ?_⟩, ?_, rfl⟩
    · by_cases hr : rest = []
      · exact ⟨_, _, _, _, _, _, hz.1 hr⟩
      · exact hz.2 hr
    · show List.Perm (qCells w y { l with ep := z.ep } (pb ++ ([.str (W p.1) p.2] ++ wds rest)) z.g z.kv vs eb (wds wt) ew) (qCells w y { l with ep := z.ep } (pb ++ [.str (W p.1) p.2] ++ wds rest) z.g z.kv vs eb (wds wt) ew)
      rw [List.append_assoc]
/-! ## a flag's walk through the line -/
noncomputable def hasF (f a : Nat) : Bool := a / f % 2 == 1
noncomputable def turnM (f a : Nat) (ms : List Nat) : Nat × List Nat := if hasF f a = true then (if lowM f a ∈ ms then (a, ms) else (lowM f a, ms.filter (fun x => !(x == a)) ++ [lowM f a])) else (a, ms)
noncomputable def innerM (f : Nat) : List Nat → List Nat → List Nat → List Nat × List Nat
  | [], dn, ms => (dn, ms)
  | a :: rem, dn, ms => innerM f rem (dn ++ [(turnM f a ms).1]) (turnM f a ms).2
noncomputable def flags : List Nat := [1, 2, 4, 8]
theorem and_no : ∀ f, f ∈ flags → ∀ q, q < 16 → hasF f q = false → Builtin.bitAnd (N q) (N f) = 0 := by
  intro f hf
  simp only [flags, List.mem_cons, List.not_mem_nil, or_false] at hf
  rcases hf with rfl | rfl | rfl | rfl <;> (refine all16 ?_ ?_ ?_ ?_ ?_ ?_ ?_ ?_ ?_ ?_ ?_ ?_ ?_ ?_ ?_ ?_ <;> decide +kernel)
theorem and_yes : ∀ f, f ∈ flags → ∀ q, q < 16 → hasF f q = true → Builtin.bitAnd (N q) (N f) = N f := by
  intro f hf
  simp only [flags, List.mem_cons, List.not_mem_nil, or_false] at hf
  rcases hf with rfl | rfl | rfl | rfl <;> (refine all16 ?_ ?_ ?_ ?_ ?_ ?_ ?_ ?_ ?_ ?_ ?_ ?_ ?_ ?_ ?_ ?_ <;> decide +kernel)
theorem minus_yes : ∀ f, f ∈ flags → ∀ q, q < 16 → hasF f q = true → N q - N f = N (lowM f q) := by
  intro f hf
  simp only [flags, List.mem_cons, List.not_mem_nil, or_false] at hf
  rcases hf with rfl | rfl | rfl | rfl <;> (refine all16 ?_ ?_ ?_ ?_ ?_ ?_ ?_ ?_ ?_ ?_ ?_ ?_ ?_ ?_ ?_ ?_ <;> decide +kernel)
theorem flag_on : ∀ f, f ∈ flags → (N f != 0) = true := by decide +kernel
structure FS where
  l : Ls
  pb : List (Nat × Tok)
  gF : Nat → Nat
  a : Value
  b : Value
  c : Value
  rest : List (Str × Value)
  es : List Ent
  eb : Nat
noncomputable def FS.cells (w : World) (y : DA) (f : Nat) (tf : Tok) (ws : List Value) (ew : Nat) (z : FS) : List (Addr × Obj) := qCells w y z.l (wds z.pb) z.gF (kvF z.a z.b z.c f tf z.rest) (vals z.es) z.eb ws ew
structure FS.Ok (z : FS) : Prop where
  p16 : ∀ p ∈ z.pb, p.1 < 16
  pl : z.pb.length ≤ 500
  rest : Rest z.rest
  e16 : ∀ e ∈ z.es, e.a < 16
  nd : (masks z.es).Nodup
structure InOk (f : Nat) (rem dn : List Nat) (z z' : FS) : Prop where
  ok : z'.Ok
  eq : (z'.pb.map Prod.fst, masks z'.es) = innerM f rem dn (masks z.es)
  line : z'.l.line = z.l.line
  len : z'.pb.length = z.pb.length
theorem Inv.sub {V : Par} {T₀ : CT} {s₀ s : Shared} {L L' : List (Addr × Obj)} {b t : Nat} (I : Inv V T₀ s₀ (stay L b t) s) (h : L'.Sublist L) : Inv V T₀ s₀ (stay L' b t) s :=
  I.pick (fun _ hp => h.subset hp) ((h.map Prod.fst).nodup (stay_nodup I.sat))
theorem Cg.sub {V : Par} {σ : Type} {c : Code} {pre pre' : List (Addr × Obj)} {P : σ → Prop} {out : σ → List (Addr × Obj)} {r : σ → Result} {d u : Nat} (h : Cg V c pre' P out r d u) (hp : pre'.Sublist pre) : Cg V c pre P out r d u := fun A s R h0 hd hu hS hR =>
  h A s R h0 hd hu ((Inv.start hS : Inv V (cellsOf pre) s (stay pre _ _) s).sub hp).sat fun z b t s' hz I => hR z b t s' hz (I.wide fun _ hp' => hp.subset hp')
theorem masks_filter (q : Nat) (es : List Ent) : masks (es.filter fun e => !(e.a == q)) = (masks es).filter fun x => !(x == q) := by
  unfold masks; rw [List.filter_map]; rfl
theorem tups_filter (p : Ent → Bool) (es : List Ent) : (tups (es.filter p)).Sublist (tups es) := List.filter_sublist.map _
theorem inner_cg (w : World) (y : DA) (it : Addr) {f : Nat} (hf : f ∈ flags) (tf : Tok) (ws : List Value) (ew : Nat) : ∀ (rem dn : List (Nat × Tok)) (z : FS) (v : Int), z.pb = rem ++ dn → z.Ok →
    Cg (B w) (forCode w 284 3 y.f it) (z.cells w y f tf ws ew ++ [(it, rangeIt v (Int.ofNat rem.length) 1)] ++ tups z.es) (InOk f (rem.map Prod.fst) (dn.map Prod.fst) z) (fun z' => z'.cells w y f tf ws ew ++ tups z'.es) (fun _ => .ok .next) 412 3020
  | [], dn, ⟨l, pb, gF, a, b, c, rest, es, eb⟩, v, hp, hk => by
    refine bdone (d := 412) (u := 3020) [] (fun _ _ _ => xK 9 11) (fun s _ Q hQ => by cases hQ) (fun base tb ν => inE_run hk.rest base tb ν) (nodupB rfl) (fun ν => ⟨⟨l, pb, ν, a, b, c, rest, es, eb⟩, ⟨⟨hk.p16, hk.pl, hk.rest, hk.e16, hk.nd⟩, ?_, rfl, rfl⟩, List.Perm.refl _, rfl⟩)
    show (pb.map Prod.fst, masks es) = innerM f [] (dn.map Prod.fst) (masks es)
    rw [show pb = dn from hp]; rfl
  | p :: rem, dn, ⟨l, pb, gF, a, b, c, rest, es, eb⟩, v, hp, hk => by
    obtain ⟨q, ta⟩ := p
    obtain rfl : pb = (q, ta) :: (rem ++ dn) := hp
    have h16 : ∀ e ∈ es, e.a < 16 := hk.e16
    have hn : (masks es).Nodup := hk.nd
    have hr : Rest rest := hk.rest
    have hq : q < 16 := hk.p16 (q, ta) (List.mem_cons_self ..)
    have hpl : (rem ++ dn).length + 1 ≤ 500 := hk.pl
    have h16' : ∀ p ∈ rem ++ dn, p.1 < 16 := fun p hp => hk.p16 p (List.mem_cons_of_mem _ hp)
    have hwl : (wds (rem ++ dn)).length ≤ 1000 := by simp only [wds, List.length_map]; omega
    have hel : es.length ≤ 16 := by
      have := few 16 _ hn fun x hx => by obtain ⟨e, he, rfl⟩ := List.mem_map.mp hx; exact h16 e he
      simpa [masks] using this
    have hrange : rangeIt (v + 1) (Int.ofNat (rem.length + 1) - 1) 1 = rangeIt (v + 1) (Int.ofNat rem.length) 1 := by
      have : (Int.ofNat (rem.length + 1) - 1 : Int) = Int.ofNat rem.length := by simp only [Int.ofNat_eq_natCast]; omega
      rw [this]
    have hwd : ∀ x t, wds (rem ++ dn) ++ [.str (W x) t] = wds (rem ++ (dn ++ [(x, t)])) := fun x t => by simp [wds]
    have hF : ∀ {front : List (Addr × Obj)} {s : Shared}, Has (B w) s front (tups es) → ∀ M s', Inv (B w) (cellsOf front) s M s' → Tups w es s' := fun hH M s' I => Tups.of_has hH (fun e he => mem_tups he) I
    have step := fun dn' z v => inner_cg w y it hf tf ws ew rem dn' z v
    by_cases hb : hasF f q = true
    · have hlow : lowM f q < 16 := Nat.lt_of_le_of_lt (Nat.sub_le _ _) hq
      by_cases hm : lowM f q ∈ masks es
      · obtain ⟨tv, htv⟩ := getV_some hm
        refine bturn (d := 412) (u := 3020) (t2O w y f q ta (wds (rem ++ dn)) es tv) (fun _ _ _ => xsI) (fun s hH => all_cons (popTQ_ok hwl) (all_cons (number_ok hq) (all_cons (andQ_ok (and_yes f hf q hq hb)) (all_cons (ifQ_ok (flag_on f hf)) (all_cons (minusQ_ok (minus_yes f hf q hq hb)) (all_cons (pretty_ok hlow) (all_cons (lowP_ok hlow) (all_cons (bgetJ_ok h16 hlow (fun _ _ => lowPL_ok hlow) y.b htv (nodupB rfl) (hF hH)) (all_one (pushQ_ok hwl)))))))))) (fun base tb ν => in2_run (n := rem.length) hr base tb ν) (nodupB rfl) (fun _ => rfl) (fun ν => ?_)
        generalize hz : (⟨{ l with ep := l.ep + 2 }, rem ++ (dn ++ [(q, ta)]), fun i => ν (i + 10), .int v (ν 0), .str (W q) ta, c, restL (.int (N q) (ν 1)) (.str (P (lowM f q)) (ν 2)), es, eb⟩ : FS) = z'
        have ih := step (dn ++ [(q, ta)]) z' (v + 1) (by subst hz; rfl) (by
          subst hz
          refine ⟨fun p hp => ?_, ?_, Rest.l _ _, h16, hn⟩
          · rw [← List.append_assoc] at hp
            rcases List.mem_append.mp hp with hp | hp
            · exact h16' p hp
            · rw [List.mem_singleton] at hp; subst hp; exact hq
          · show (rem ++ (dn ++ [(q, ta)])).length ≤ 500
            simp only [List.length_append, List.length_singleton] at hpl ⊢; omega)
        refine Cg.mono (P' := InOk f (rem.map Prod.fst) ((dn ++ [(q, ta)]).map Prod.fst) z') ?_ fun z'' ho => ?_
        · rw [hrange, hwd]
          subst hz
          exact ih
        · subst hz
          refine ⟨ho.ok, ?_, ho.line, ?_⟩
          · rw [ho.eq, List.map_append]
            show innerM f (rem.map Prod.fst) (dn.map Prod.fst ++ [q]) (masks es) = innerM f (rem.map Prod.fst) (dn.map Prod.fst ++ [(turnM f q (masks es)).1]) (turnM f q (masks es)).2
            rw [show turnM f q (masks es) = (q, masks es) by unfold turnM; rw [if_pos hb, if_pos hm]]
          · rw [ho.len]; simp only [List.length_append, List.length_cons, List.length_nil]; omega
      · have hnv := getV_none hm
        have hfl : (es.filter fun e => !(e.a == q)).length ≤ 1000 := Nat.le_trans (List.length_filter_le ..) (by omega)
        have hf16 : ∀ e ∈ es.filter (fun e => !(e.a == q)), e.a < 16 := fun e he => h16 e (List.mem_filter.mp he).1
        have hmf : lowM f q ∉ masks (es.filter fun e => !(e.a == q)) := fun h => by
          rw [masks_filter] at h
          exact hm (List.mem_filter.mp h).1
        refine bturn (d := 412) (u := 3020) (t3O w y f q ta (wds (rem ++ dn)) es) (fun _ _ _ => xsI) (fun s hH => all_cons (popTQ_ok hwl) (all_cons (number_ok hq) (all_cons (andQ_ok (and_yes f hf q hq hb)) (all_cons (ifQ_ok (flag_on f hf)) (all_cons (minusQ_ok (minus_yes f hf q hq hb)) (all_cons (pretty_ok hlow) (all_cons (lowP_ok hlow) (all_cons (bgetJ_ok h16 hlow (fun _ _ => lowPL_ok hlow) y.b hnv (nodupB rfl) (hF hH)) (all_cons (word_ok hlow) (all_cons (pretty_ok hq) (all_cons (lowP_ok hq) (all_cons (bdelJ_ok h16 (by omega) hq (fun _ _ => lowPL_ok hq) y.b (nodupB rfl) (hF hH)) (all_cons (setNewQ_ok hf16 hfl hlow y.b (getV_none hmf) (nodupB rfl) fun M s' I e he => hF hH M s' I e (List.mem_filter.mp he).1) (all_one (pushQ_ok hwl))))))))))))))) (fun base tb ν => in3_run (n := rem.length) hr base tb ν) (nodupB rfl) (fun _ => rfl) (fun ν => ?_)
        have e1 : vals (es.filter fun e => !(e.a == q)) ++ [.ref (ν 4)] = vals ((es.filter fun e => !(e.a == q)) ++ [⟨ν 4, lowM f q, ν 6, ν 7⟩]) := by simp [vals]
        have e3 : masks ((es.filter fun e => !(e.a == q)) ++ [⟨ν 4, lowM f q, ν 6, ν 7⟩]) = (masks es).filter (fun x => !(x == q)) ++ [lowM f q] := by rw [← masks_filter]; simp [masks]
        have e4 : tups ((es.filter fun e => !(e.a == q)) ++ [⟨ν 4, lowM f q, ν 6, ν 7⟩]) = tups (es.filter fun e => !(e.a == q)) ++ [(ν 4, tup [.str (P (lowM f q)) (ν 6), .str (W (lowM f q)) (ν 7)])] := by simp [tups, Ent.obj]
        generalize hes : (es.filter fun e => !(e.a == q)) ++ [⟨ν 4, lowM f q, ν 6, ν 7⟩] = es' at e1 e3 e4
        have hn' : (masks es').Nodup := by
          rw [e3, ← masks_filter]
          refine List.nodup_append.mpr ⟨?_, by simp, fun a h1 c h2 e => ?_⟩
          · rw [masks_filter]; exact hn.filter _
          · rw [List.mem_singleton] at h2
            subst h2 e
            exact hmf h1
        have h16e : ∀ e ∈ es', e.a < 16 := fun e he => by
          rw [← hes] at he
          rcases List.mem_append.mp he with he | he
          · exact hf16 e he
          · rw [List.mem_singleton] at he; subst he; exact hlow
        generalize hz : (⟨{ l with ep := l.ep + 2 }, rem ++ (dn ++ [(lowM f q, ν 3)]), fun i => ν (i + 10), .int v (ν 0), .str (W (lowM f q)) (ν 3), c, restL (.int (N q) (ν 1)) (.str (P (lowM f q)) (ν 2)), es', ν 5⟩ : FS) = z'
        have ih := step (dn ++ [(lowM f q, ν 3)]) z' (v + 1) (by subst hz; rfl) (by
          subst hz
          refine ⟨fun p hp => ?_, ?_, Rest.l _ _, h16e, hn'⟩
          · rw [← List.append_assoc] at hp
            rcases List.mem_append.mp hp with hp | hp
            · exact h16' p hp
            · rw [List.mem_singleton] at hp; subst hp; exact hlow
          · show (rem ++ (dn ++ [(lowM f q, ν 3)])).length ≤ 500
            simp only [List.length_append, List.length_singleton] at hpl ⊢; omega)
        refine Cg.mono (P' := InOk f (rem.map Prod.fst) ((dn ++ [(lowM f q, ν 3)]).map Prod.fst) z') ?_ fun z'' ho => ?_
        · rw [hrange, hwd, e1]
          subst hz
          refine Cg.sub (ih.perm (pre := qCells w y { l with ep := l.ep + 2 } (wds (rem ++ (dn ++ [(lowM f q, ν 3)]))) (fun i => ν (i + 10)) (kvF (.int v (ν 0)) (.str (W (lowM f q)) (ν 3)) c f tf (restL (.int (N q) (ν 1)) (.str (P (lowM f q)) (ν 2)))) (vals es') (ν 5) ws ew ++ [(it, rangeIt (v + 1) (Int.ofNat rem.length) 1)] ++ [(ν 4, tup [.str (P (lowM f q)) (ν 6), .str (W (lowM f q)) (ν 7)])] ++ tups (es.filter fun e => !(e.a == q))) ?_) (List.Sublist.append (List.Sublist.refl _) (tups_filter _ es))
          show List.Perm (_ ++ tups es') _
          rw [e4]
          exact perm_tail
        · subst hz
          refine ⟨ho.ok, ?_, ho.line, ?_⟩
          · rw [ho.eq, List.map_append]
            show innerM f (rem.map Prod.fst) (dn.map Prod.fst ++ [lowM f q]) (masks es') = innerM f (rem.map Prod.fst) (dn.map Prod.fst ++ [(turnM f q (masks es)).1]) (turnM f q (masks es)).2
            rw [show turnM f q (masks es) = (lowM f q, (masks es).filter (fun x => !(x == q)) ++ [lowM f q]) by unfold turnM; rw [if_pos hb, if_neg hm], e3]
          · rw [ho.len]; simp only [List.length_append, List.length_cons, List.length_nil]; omega
    · have hb' : hasF f q = false := by simpa using hb
      refine bturn (d := 412) (u := 3020) (t1O w y f q ta (wds (rem ++ dn))) (fun _ _ _ => xsI) (fun s hH => all_cons (popTQ_ok hwl) (all_cons (number_ok hq) (all_cons (andQ_ok (and_no f hf q hq hb')) (all_one (pushQ_ok hwl))))) (fun base tb ν => in1_run (n := rem.length) hr base tb ν) (nodupB rfl) (fun _ => rfl) (fun ν => ?_)
      generalize hz : (⟨{ l with ep := l.ep + 2 }, rem ++ (dn ++ [(q, ta)]), fun i => ν (i + 10), .int v (ν 0), .str (W q) ta, c, restN (.int (N q) (ν 1)) rest, es, eb⟩ : FS) = z'
      have ih := step (dn ++ [(q, ta)]) z' (v + 1) (by subst hz; rfl) (by
        subst hz
        refine ⟨fun p hp => ?_, ?_, Rest.n _ hr, h16, hn⟩
        · rw [← List.append_assoc] at hp
          rcases List.mem_append.mp hp with hp | hp
          · exact h16' p hp
          · rw [List.mem_singleton] at hp; subst hp; exact hq
        · show (rem ++ (dn ++ [(q, ta)])).length ≤ 500
          simp only [List.length_append, List.length_singleton] at hpl ⊢; omega)
      refine Cg.mono (P' := InOk f (rem.map Prod.fst) ((dn ++ [(q, ta)]).map Prod.fst) z') ?_ fun z'' ho => ?_
      · rw [hrange, hwd]
        subst hz
        exact ih
      · subst hz
        refine ⟨ho.ok, ?_, ho.line, ?_⟩
        · rw [ho.eq, List.map_append]
          show innerM f (rem.map Prod.fst) (dn.map Prod.fst ++ [q]) (masks es) = innerM f (rem.map Prod.fst) (dn.map Prod.fst ++ [(turnM f q (masks es)).1]) (turnM f q (masks es)).2
          rw [show turnM f q (masks es) = (q, masks es) by unfold turnM; rw [if_neg hb]]
        · rw [ho.len]; simp only [List.length_append, List.length_cons, List.length_nil]; omega
end Mine
end
section
open PySem PySem.Spec PySem.Calls PySem.W PySem.W.X PyProof.Rows
set_option Elab.async false
set_option maxRecDepth 100000
set_option maxHeartbeats 0
namespace Mine
noncomputable def kvH (a b c : Value) : List (Str × Value) := [("turn", a), ("word", b), ("count", c)]
noncomputable def ords (fs : List (Nat × Tok)) : List Value := fs.map fun p => .int (N p.1) p.2
noncomputable def flO (w : World) (y : DA) (vs : List Value) (k : Nat) (os : List Value) (i : Nat) (f : Nat) (tf : Tok) : List OracleAt := [nextQ os i (.int (N f) tf) 14 15, lenBQ w y.b vs k [10, 11, 12]]
noncomputable def oCells (w : World) (y : DA) (l : Ls) (pb : List Value) (gF : Nat → Nat) (kv : List (Str × Value)) (vs : List Value) (eb : Nat) (ws : List Value) (ew : Nat) (it : Addr) (i : Nat) (os : List Value) (eo : Nat) : List (Addr × Obj) := qCells w y l pb gF kv vs eb ws ew ++ [(it, iterObj y.aO i), (y.aO, lst os eo)]
section
variable {w : World} {y : DA} {it : Nat} {l : Ls} {pb : List Value} {gF : Nat → Nat} {vs : List Value} {eb : Nat} {ws : List Value} {ew : Nat} {a b c : Value} {f tf i k eo : Nat} {os : List Value} {rest kv : List (Str × Value)}
noncomputable def KvO (a b c : Value) (rest kv : List (Str × Value)) : Prop := (kv = kvH a b c ∧ rest = []) ∨ ∃ f0 tf0, kv = kvF a b c f0 tf0 rest ∧ Rest rest
noncomputable def xsO (G : Goal) : List Nat := [xA 17 G, 0, 0, 0, 0, 0, 0, 0, 0, 0] ++ xK 9 11 G
noncomputable def flGo (w : World) (y : DA) (it : Nat) (l : Ls) (pb : List Value) (gF : Nat → Nat) (kv : List (Str × Value)) (vs : List Value) (eb : Nat) (ws : List Value) (ew i k f tf eo : Nat) (os : List Value) (base tb : Nat) (ν : Nat → Nat) : Out := goes (mkV w (flO w y vs k os i f tf)) 60 4022437594263393307311511213231249076200443465766954127898322650947683823271783960320 (forCode w 284 2 y.f it) (stay (oCells w y l pb gF kv vs eb ws ew it i os eo) base tb) 412 3020 ν
theorem flA_run (hk : KvO a b c rest kv) (base tb : Nat) (ν : Nat → Nat) : ∀ k, k ≤ 16 → RunsL [0, 1, 2, 3, 4, 5, 6, 7, 8, 9, 10, 11, 12, 13, 17, 14, 15] xsO (fun ν => .stop (forCode w 284 3 y.f (ν 0)) 418 3030)
    (fun ν => qCells w y l pb (fun i => ν (i + 10)) (kvF a b c f tf rest) vs eb ws ew ++ [(ν 0, rangeIt 0 (Int.ofNat k) 1), (it, iterObj y.aO (i + 1)), (y.aO, lst os eo)])
    (flGo w y it l pb gF kv vs eb ws ew i k f tf eo os base tb ν) := by
  rcases hk with ⟨rfl, rfl⟩ | ⟨f0, tf0, rfl, rfl | ⟨p, rfl⟩ | ⟨p, q, rfl⟩⟩ <;> refine all17 ?_ ?_ ?_ ?_ ?_ ?_ ?_ ?_ ?_ ?_ ?_ ?_ ?_ ?_ ?_ ?_ ?_ <;> (unfold RunsL; kernel_rfl)
theorem flE_run (hk : KvO a b c rest kv) (base tb : Nat) (ν : Nat → Nat) : RunsL [0, 1, 2, 3, 4, 5, 6, 7, 8, 9, 10, 11, 12, 13, 15] xsO (fun _ => .ret (.ok .next))
    (fun ν => qCells w y l pb (fun i => ν (i + 10)) kv vs eb ws ew ++ [(y.aO, lst os eo)])
    (goes (mkV w [endQ os i 14 15]) 10 19808640831232 (forCode w 284 2 y.f it) (stay (oCells w y l pb gF kv vs eb ws ew it i os eo) base tb) 412 3020 ν) := by
  rcases hk with ⟨rfl, rfl⟩ | ⟨f0, tf0, rfl, rfl | ⟨p, rfl⟩ | ⟨p, q, rfl⟩⟩ <;> (unfold RunsL; kernel_rfl)
end
end Mine
end
section
open PySem PySem.Spec PySem.Calls PySem.W PySem.W.X PyProof.Rows
set_option Elab.async false
set_option maxRecDepth 100000
set_option maxHeartbeats 0
namespace Mine
section
variable {w : World} {y : DA} {it : Nat} {l : Ls} {pb : List Value} {gF : Nat → Nat} {vs : List Value} {eb : Nat} {ws : List Value} {ew : Nat} {a b c : Value} {f tf i eo : Nat} {os : List Value} {rest kv : List (Str × Value)}
theorem flB_run (hk : KvO a b c rest kv) {l' : Ls} {pb' : List Value} {gF' : Nat → Nat} {a' b' c' : Value} {rest' : List (Str × Value)} (hr : Rest rest') {vs' : List Value} {eb' : Nat} (b0 t0 : Nat) (ν0 : Nat → Nat) (base tb : Nat) (ν : Nat → Nat) : ∀ k, k ≤ 16 → RunsL [0, 1, 2, 3, 4, 5, 6, 7, 8, 9, 10, 11, 12, 13, 14, 15] xsO (fun _ => .again (forCode w 284 2 y.f it))
    (fun ν => oCells w y l' pb' (fun i => ν (i + 10)) (kvF a' b' c' f tf rest') vs' eb' ws ew it (i + 1) os eo)
    (goesOn (mkV w []) 3 2 (.ok .next) (kapO (flGo w y it l pb gF kv vs eb ws ew i k f tf eo os b0 t0 ν0)) (stay (oCells w y l' pb' gF' (kvF a' b' c' f tf rest') vs' eb' ws ew it (i + 1) os eo) base tb) 418 3030 ν) := by
  rcases hr with rfl | ⟨p, rfl⟩ | ⟨p, q, rfl⟩ <;> rcases hk with ⟨rfl, rfl⟩ | ⟨f0, tf0, rfl, rfl | ⟨p, rfl⟩ | ⟨p, q, rfl⟩⟩ <;> refine all17 ?_ ?_ ?_ ?_ ?_ ?_ ?_ ?_ ?_ ?_ ?_ ?_ ?_ ?_ ?_ ?_ ?_ <;> (unfold RunsL; kernel_rfl)
end
end Mine
end
section
open PySem PySem.Spec PySem.Calls PySem.W PySem.W.X PyProof.Rows
set_option Elab.async false
set_option maxRecDepth 100000
set_option maxHeartbeats 0
namespace Mine
theorem innerM_perm {f : Nat} : ∀ (rem dn ms : List Nat), (rem ++ dn).Perm ms → ms.Nodup → (innerM f rem dn ms).1.Perm (innerM f rem dn ms).2 ∧ (innerM f rem dn ms).2.Nodup
  | [], dn, ms, h, hn => ⟨h, hn⟩
  | a :: rem, dn, ms, h, hn => by
    rw [innerM]
    have ham : a ∈ ms := h.subset (List.mem_cons_self ..)
    refine innerM_perm rem _ _ ?_ ?_
    · unfold turnM
      split
      · split
        · refine List.Perm.trans ?_ h
          rw [← List.append_assoc]
          exact List.perm_append_comm
        · have h1 : (rem ++ dn).Perm (ms.erase a) := by
            have := h.erase a
            simpa using this
          rw [hn.erase_eq_filter] at h1
          have e : (fun x => !(x == a)) = fun x : Nat => x != a := rfl
          rw [e, ← List.append_assoc]
          exact h1.append_right _
      · refine List.Perm.trans ?_ h
        rw [← List.append_assoc]
        exact List.perm_append_comm
    · unfold turnM
      split
      · split
        · exact hn
        · rename_i hm
          refine List.nodup_append.mpr ⟨hn.filter _, by simp, fun x h1 c h2 e => ?_⟩
          rw [List.mem_singleton] at h2
          subst h2 e
          exact hm (List.mem_filter.mp h1).1
      · exact hn
noncomputable def flagsM : List Nat → List Nat × List Nat → List Nat × List Nat
  | [], s => s
  | f :: fs, s => flagsM fs (innerM f s.1 [] s.2)
structure FlOk (fs : List Nat) (z : FS) (z' : FS × List (Str × Value)) : Prop where
  ok : z'.1.Ok
  eq : (z'.1.pb.map Prod.fst, masks z'.1.es) = flagsM fs (z.pb.map Prod.fst, masks z.es)
  line : z'.1.l.line = z.l.line
  perm : (z'.1.pb.map Prod.fst).Perm (masks z'.1.es)
  kv : KvO z'.1.a z'.1.b z'.1.c z'.1.rest z'.2
theorem perm_in {α : Type} {A R T Y : List α} : (A ++ R ++ T ++ Y).Perm (A ++ (R ++ Y) ++ T) := by
  have h : (A ++ R ++ (T ++ Y)).Perm (A ++ R ++ (Y ++ T)) := List.Perm.append_left _ List.perm_append_comm
  simpa [List.append_assoc] using h
theorem perm_out {α : Type} {A T Y : List α} : (A ++ Y ++ T).Perm (A ++ T ++ Y) := by
  have h : (A ++ (Y ++ T)).Perm (A ++ (T ++ Y)) := List.Perm.append_left _ List.perm_append_comm
  simpa [List.append_assoc] using h
noncomputable def FS.at (w : World) (y : DA) (ws : List Value) (ew : Nat) (z : FS) (kv : List (Str × Value)) : List (Addr × Obj) := qCells w y z.l (wds z.pb) z.gF kv (vals z.es) z.eb ws ew
theorem KvO.rest_ok {a b c : Value} {rest kv : List (Str × Value)} (h : KvO a b c rest kv) : Rest rest := by
  rcases h with ⟨_, rfl⟩ | ⟨_, _, _, h⟩
  · exact .inl rfl
  · exact h
theorem flags_cg (w : World) (y : DA) (it : Addr) (ws : List Value) (ew eo : Nat) (fs : List (Nat × Tok)) : ∀ (rem : List (Nat × Tok)) (i : Nat) (z : FS) (kv : List (Str × Value)), (∀ p ∈ rem, p.1 ∈ flags) → fs.drop i = rem → KvO z.a z.b z.c z.rest kv → z.Ok → (z.pb.map Prod.fst).Perm (masks z.es) →
    Cg (B w) (forCode w 284 2 y.f it) (z.at w y ws ew kv ++ [(it, iterObj y.aO i), (y.aO, lst (ords fs) eo)] ++ tups z.es) (FlOk (rem.map Prod.fst) z)
      (fun z' => z'.1.at w y ws ew z'.2 ++ [(y.aO, lst (ords fs) eo)] ++ tups z'.1.es) (fun _ => .ok .next) 406 3010
  | [], i, z, kv, _, hd, hk, ho, hp => by
    have hx : (ords fs)[i]? = none := by
      have : fs.length ≤ i := by simpa using hd
      simp [ords, this]
    obtain ⟨l, pb, gF, a, b, c, rest, es, eb⟩ := z
    refine bdone (d := 406) (u := 3010) [endQ (ords fs) i 14 15] (fun _ _ _ => xsO) (fun s _ => all_one (endQ_ok hx (by decide))) (fun base tb ν => flE_run hk base tb ν) (nodupB rfl) (fun ν => ⟨(⟨l, pb, fun i => ν (i + 10), a, b, c, rest, es, eb⟩, kv), ⟨⟨ho.p16, ho.pl, ho.rest, ho.e16, ho.nd⟩, rfl, rfl, hp, hk⟩, List.Perm.refl _, rfl⟩)
  | p :: rem, i, z, kv, hf, hd, hk, ho, hp => by
    obtain ⟨f, tf⟩ := p
    have hi := at_of_drop hd
    have hx : (ords fs)[i]? = some (.int (N f) tf) := by simp [ords, hi]
    have hff : f ∈ flags := hf (f, tf) (List.mem_cons_self ..)
    have hlen : z.pb.length = z.es.length := by
      have := hp.length_eq
      simpa [masks] using this
    have hel : z.es.length ≤ 16 := by
      have := few 16 _ ho.nd fun x hx => by obtain ⟨e, he, rfl⟩ := List.mem_map.mp hx; exact ho.e16 e he
      simpa [masks] using this
    have hvl : (vals z.es).length = z.es.length := by simp [vals]
    refine bcut (d := 406) (u := 3010) (dd := 412) (uu := 3020) (d' := 418) (u' := 3030) (P' := fun _ _ _ ν => InOk f (z.pb.map Prod.fst) [] { z with gF := fun i => ν (i + 10) }) (out' := fun _ _ _ ν z' => z'.cells w y f tf ws ew ++ tups z'.es ++ [(it, iterObj y.aO (i + 1)), (y.aO, lst (ords fs) eo)]) (r' := fun _ _ _ _ _ => .ok .next)
      (flO w y (vals z.es) z.es.length (ords fs) i f tf) (fun _ _ _ => xsO) (fun s _ => all_cons (nextQ_ok hx (by decide)) (all_one (lenBQ_ok (nodupB rfl) hvl hel))) (fun base tb ν => flA_run hk base tb ν _ hel) (nodupB rfl) (fun _ _ _ ν => ?_) (by decide) (by decide) (fun base tb ν₀ ν z' hz => ?_)
    · have hin := (inner_cg w y (ν 0) hff tf ws ew z.pb [] { z with gF := fun i => ν (i + 10) } 0 (by simp) ⟨ho.p16, ho.pl, ho.rest, ho.e16, ho.nd⟩).beside [(it, iterObj y.aO (i + 1)), (y.aO, lst (ords fs) eo)]
      refine Cg.perm hin ?_
      rw [hlen]
      exact perm_in
    · have hz2 : (z'.pb.map Prod.fst).Perm (masks z'.es) := by
        have := (innerM_perm (f := f) (z.pb.map Prod.fst) [] (masks z.es) (by simpa using hp) ho.nd).1
        rw [← hz.eq] at this
        exact this
      have ih := fun gF => flags_cg w y it ws ew eo fs rem (i + 1) { z' with gF := gF } (kvF z'.a z'.b z'.c f tf z'.rest) (fun p hp => hf p (List.mem_cons_of_mem _ hp)) (drop_next hd) (.inr ⟨f, tf, rfl, hz.ok.rest⟩) ⟨hz.ok.p16, hz.ok.pl, hz.ok.rest, hz.ok.e16, hz.ok.nd⟩ hz2
      show Ck (B w) (kapO (flGo w y it z.l (wds z.pb) z.gF kv (vals z.es) z.eb ws ew i z.es.length f tf eo (ords fs) base tb ν₀)) (.ok .next) (z'.cells w y f tf ws ew ++ tups z'.es ++ [(it, iterObj y.aO (i + 1)), (y.aO, lst (ords fs) eo)]) _ _ _ 406 3010 418 3030
      generalize hκ : kapO (flGo w y it z.l (wds z.pb) z.gF kv (vals z.es) z.eb ws ew i z.es.length f tf eo (ords fs) base tb ν₀) = κ
      have hB := fun b1 t1 ν => flB_run (w := w) (y := y) (it := it) (l := z.l) (pb := wds z.pb) (gF := z.gF) (vs := vals z.es) (eb := z.eb) (ws := ws) (ew := ew) (f := f) (tf := tf) (i := i) (eo := eo) (os := ords fs) (l' := z'.l) (pb' := wds z'.pb) (gF' := z'.gF) (a' := z'.a) (b' := z'.b) (c' := z'.c) (vs' := vals z'.es) (eb' := z'.eb) hk hz.ok.rest base tb ν₀ b1 t1 ν _ hel
      rw [hκ] at hB
      refine Ck.perm ?_ (pre' := oCells w y z'.l (wds z'.pb) z'.gF (kvF z'.a z'.b z'.c f tf z'.rest) (vals z'.es) z'.eb ws ew it (i + 1) (ords fs) eo ++ tups z'.es) perm_out
      refine kturn [] (fun _ _ _ => xsO) (fun s _ Q hQ => by cases hQ) hB (nodupB rfl) (fun _ => rfl) (fun ν => ?_)
      refine Cg.mono (ih fun i => ν (i + 10)) fun z'' h => ⟨h.ok, ?_, h.line.trans hz.line, h.perm, h.kv⟩
      rw [h.eq]
      show flagsM (rem.map Prod.fst) (z'.pb.map Prod.fst, masks z'.es) = flagsM (rem.map Prod.fst) (innerM f (z.pb.map Prod.fst) [] (masks z.es))
      rw [hz.eq]
end Mine
end
section
open PySem PySem.Spec PySem.Calls PySem.W PySem.W.X PyProof.Rows
set_option Elab.async false
set_option maxRecDepth 100000
set_option maxHeartbeats 0
namespace Mine
noncomputable def initBQ (w : World) : OracleAt := QF [] (fun _ _ => some ()) (fun _ => initBS w) 660 5800
noncomputable def downCode (x : Lx) (aO : Addr) : Code := .call (.ref 284) ⟨[.ref (x.B + 13), .ref aO], []⟩
noncomputable def downPre (w : World) (x : Lx) (l : Ls) (sg : List Value) (aO : Addr) (os : List Value) (eo : Nat) : List (Addr × Obj) := x.all w { l with pb := [] } sg ++ [(aO, lst os eo)]
section
variable {w : World} {x : Lx} {l : Ls} {sg : List Value} {aO : Nat} {os : List Value} {eo : Nat}
noncomputable def xsDA (G : Goal) : List Nat := [0, 0, 0, 0, 0, 0, ktoks (obG 13 G) 0] ++ xK 12 2 G ++ [0] ++ xK 10 5 G
noncomputable def dY (x : Lx) (aO base : Nat) (ν₀ ν : Nat → Nat) : DA := ⟨x, base, aO, ν₀ 0, ⟨ν₀ 2, ν₀ 3, ν₀ 4, fun i => ν (i + 7)⟩⟩
noncomputable def downGo (w : World) (x : Lx) (l : Ls) (sg : List Value) (aO : Nat) (os : List Value) (eo base tb : Nat) (ν : Nat → Nat) : Out := goes (mkV w [initBQ w]) 66 17243517527926383837338541681276199918497743691414930848516561151230856198912526728037476073473 (downCode x aO) (stay (downPre w x l sg aO os eo) base tb) 406 3010 ν
theorem dA_run (base tb : Nat) (ν₀ : Nat → Nat) : RunsL [0, 1, 2, 3, 4, 5, 6, 7, 8, 10, 11, 12, 13, 14, 16, 9] xsDA (fun _ => .stop (forCode w 284 0 base (ν₀ 0 + 2)) 412 3020)
    (fun ν => dCells w (dY x aO base ν₀ ν) ⟨{ l with pb := [] }, sg, fun i => ν (i + 10), [], [], ν 6, [], 0⟩ ++ [(ν₀ 0 + 2, rangeIt 0 (Int.ofNat (19 + 1)) 1), (aO, lst os eo)])
    (downGo w x l sg aO os eo base tb ν₀) := by
  unfold RunsL; kernel_rfl
end
end Mine
end
section
open PySem PySem.Spec PySem.Calls PySem.W PySem.W.X PyProof.Rows
set_option Elab.async false
set_option maxRecDepth 100000
set_option maxHeartbeats 0
namespace Mine
structure QS where
  l : Ls
  pb : List Value
  gF : Nat → Nat
  a : Value
  b : Value
  c : Value
  vs : List Value
  eb : Nat
  ws : List Value
  ew : Nat
noncomputable def QS.cells (w : World) (y : DA) (z : QS) (kv : List (Str × Value)) : List (Addr × Obj) := qCells w y z.l z.pb z.gF kv z.vs z.eb z.ws z.ew
structure DB where
  x : Lx
  l : Ls
  sg : List Value
  aO : Addr
  os : List Value
  eo : Nat
  b : Nat
  t : Nat
  ν₀ : Nat → Nat
  ν : Nat → Nat
noncomputable def DB.y (s : DB) : DA := dY s.x s.aO s.b s.ν₀ s.ν
noncomputable def DB.κ (w : World) (s : DB) : Kap := kapO (downGo w s.x s.l s.sg s.aO s.os s.eo s.b s.t s.ν₀)
noncomputable def kvE' (a b : Value) : List (Str × Value) := [("turn", a), ("word", b)]
section
variable {w : World} {s : DB} {z : QS}
noncomputable def xsDB (G : Goal) : List Nat := xK 9 9 G
noncomputable def DB.goB (w : World) (s : DB) (z : QS) (b1 t1 : Nat) (ν : Nat → Nat) : Out := goesOn (mkV w []) 16 38046425045206437386 (.ok .next) (s.κ w) (stay (z.cells w s.y (kvH z.a z.b z.c) ++ [(s.aO, lst s.os s.eo)]) b1 t1) 412 3020 ν
theorem dB_run (base tb : Nat) (ν : Nat → Nat) : RunsL [0, 1, 2, 3, 4, 5, 6, 7, 8, 9, 10, 11, 12, 13, 15, 14] xsDB (fun _ => .stop (forCode w 284 1 s.y.f base) 412 3020)
    (fun ν => { z with gF := ν }.cells w s.y (kvH z.a z.b z.c) ++ [(base, iterObj s.y.aW 0), (s.aO, lst s.os s.eo)])
    (s.goB w z base tb ν) := by
  unfold RunsL; kernel_rfl
theorem d0_run {f0 f1 f2 f3 u0 u1 u2 u3 : Nat} (base tb : Nat) (ν : Nat → Nat) : RunsL [0, 1, 2, 3, 4, 5, 6, 7, 8, 10, 11, 12, 14] xsDB (fun _ => .ret (.ok (.ret (.ref s.y.b.aB))))
    (fun _ => s.x.all w { z.l with pb := z.pb } [] ++ s.y.b.cells w [] z.eb ++ [(s.aO, lst (ords [(f0, u0), (f1, u1), (f2, u2), (f3, u3)]) s.eo)])
    (goesOn (mkV w []) 586 733321324951579615051331315720178563348247614242046931916585752266928044237046178354784045143020045625743097494630388888159437971345354745965302913279977296884468864898569321686513000912925209290468073865549518293571840780748244660769491626196979286053581451813374138054747916974321416520270512261057393387475329749260552531059239405761620360757497542722386453873329170673348618028006174717095710383615571106768015483975300985115306366750683063768899180686496068156573352370132373291418366354367251559634325471213275365990115357167841552260302247146231202116936502434998903666176692657511820862455813953765301237486031197892687270546002357738823652159352686612304602961444995162989436417422729291949207067891379315655714321081758393168933928983287332368308152338222023307551722167465732275038061949645584441221564902223422628526118867628226062890621793699984481772217745485852343461269902843579914 (.ok .next) (({ s with os := ords [(f0, u0), (f1, u1), (f2, u2), (f3, u3)] } : DB).κ w) (stay (({ z with vs := [], ws := [] } : QS).cells w s.y (kvE' z.a z.b) ++ [(s.aO, lst (ords [(f0, u0), (f1, u1), (f2, u2), (f3, u3)]) s.eo)]) base tb) 412 3020 ν) := by
  unfold RunsL; kernel_rfl
end
end Mine
end
section
open PySem PySem.Spec PySem.Calls PySem.W PySem.W.X PyProof.Rows
set_option Elab.async false
set_option maxRecDepth 100000
set_option maxHeartbeats 0
namespace Mine
section
variable {w : World} {s : DB} {z z2 : QS} {b1 t1 : Nat} {ν1 : Nat → Nat}
noncomputable def DB.goC (w : World) (s : DB) (z : QS) (b1 t1 : Nat) (ν1 : Nat → Nat) (z2 : QS) (b2 t2 : Nat) (ν : Nat → Nat) : Out := goesOn (mkV w []) 16 38046426144718130954 (.ok .next) (kapO (s.goB w z b1 t1 ν1)) (stay (z2.cells w s.y (kvH z2.a z2.b z2.c) ++ [(s.aO, lst s.os s.eo)]) b2 t2) 412 3020 ν
theorem dC_run (base tb : Nat) (ν : Nat → Nat) : RunsL [0, 1, 2, 3, 4, 5, 6, 7, 8, 9, 10, 11, 12, 13, 15, 14] xsDB (fun _ => .stop (forCode w 284 2 s.y.f base) 412 3020)
    (fun ν => { z2 with gF := ν }.cells w s.y (kvH z2.a z2.b z2.c) ++ [(base, iterObj s.aO 0), (s.aO, lst s.os s.eo)])
    (s.goC w z b1 t1 ν1 z2 base tb ν) := by
  unfold RunsL; kernel_rfl
end
end Mine
end
section
open PySem PySem.Spec PySem.Calls PySem.W PySem.W.X PyProof.Rows
set_option Elab.async false
set_option maxRecDepth 100000
set_option maxHeartbeats 0
namespace Mine
section
variable {w : World} {s : DB} {z z2 z3 : QS} {b1 t1 b2 t2 : Nat} {ν1 ν2 : Nat → Nat}
theorem dD_run {rest kv : List (Str × Value)} (hk : KvO z3.a z3.b z3.c rest kv) (base tb : Nat) (ν : Nat → Nat) : RunsL [0, 1, 2, 3, 4, 5, 6, 7, 8, 10, 11, 12, 14] xsDB (fun _ => .ret (.ok (.ret (.ref s.y.b.aB))))
    (fun _ => s.x.all w { z3.l with pb := z3.pb } [] ++ s.y.b.cells w z3.vs z3.eb ++ [(s.aO, lst s.os s.eo)])
    (goesOn (mkV w []) 6 10 (.ok .next) (kapO (s.goC w z b1 t1 ν1 z2 b2 t2 ν2)) (stay (z3.cells w s.y kv ++ [(s.aO, lst s.os s.eo)]) base tb) 412 3020 ν) := by
  rcases hk with ⟨rfl, rfl⟩ | ⟨f0, tf0, rfl, rfl | ⟨p, rfl⟩ | ⟨p, q, rfl⟩⟩ <;> (unfold RunsL; kernel_rfl)
end
end Mine
end
section
open PySem PySem.Spec PySem.Calls PySem.W PySem.W.X PyProof.Rows
set_option Elab.async false
set_option maxRecDepth 100000
set_option maxHeartbeats 0
namespace Mine
structure DR where
  b : Bd
  l : Ls
  pb : List (Nat × Tok)
  es : List Ent
  eb : Nat
noncomputable def ms0 (its : List It) : List Nat := (its.map It.a).foldl addM []
structure DownOk (its : List It) (fs : List Nat) (line : Int) (z : DR) : Prop where
  p16 : ∀ p ∈ z.pb, p.1 < 16
  e16 : ∀ e ∈ z.es, e.a < 16
  nd : (masks z.es).Nodup
  eq : (z.pb.map Prod.fst, masks z.es) = flagsM fs (ms0 its, ms0 its)
  line : z.l.line = lineAll line [] its
  perm : (z.pb.map Prod.fst).Perm (masks z.es)
noncomputable def DR.cells (w : World) (x : Lx) (aO : Addr) (fs : List (Nat × Tok)) (eo : Nat) (z : DR) : List (Addr × Obj) := x.all w { z.l with pb := wds z.pb } [] ++ z.b.cells w (vals z.es) z.eb ++ [(aO, lst (ords fs) eo)] ++ tups z.es
theorem addM_nodup : ∀ (l ms : List Nat), ms.Nodup → (l.foldl addM ms).Nodup
  | [], _, h => h
  | a :: l, ms, h => by
    refine addM_nodup l _ ?_
    unfold addM
    split
    · exact h
    · rename_i hm
      refine List.nodup_append.mpr ⟨h, by simp, fun x h1 c h2 e => ?_⟩
      rw [List.mem_singleton] at h2
      subst h2 e
      exact hm h1
theorem flagsM_nil : ∀ fs, flagsM fs ([], []) = ([], [])
  | [] => rfl
  | f :: fs => flagsM_nil fs
section
variable {w : World} {x : Lx} {l : Ls} {aO eo : Nat} {fs : List (Nat × Tok)} {its : List It} {g : Nat → Nat}
theorem down_rest (hfs : ∀ p ∈ fs, p.1 ∈ flags) (h4 : fs.length = 4) (s : DB) (hx : s.x = x) (ha : s.aO = aO) (ho : s.os = ords fs) (he : s.eo = eo) {line : Int} {ep : Nat} {z : RS} (hz : RdOk [] line ep [] its z) :
    Ck (B w) (s.κ w) (.ok .next) (dCells w s.y (z.ds []) ++ tups z.es ++ [(aO, lst (ords fs) eo)]) (DownOk its (fs.map Prod.fst) line) (fun z => z.cells w x aO fs eo) (fun z => .ok (.ret (.ref z.b.aB))) 400 3000 412 3020 := by
  obtain ⟨l, gF, kv, es, eb, wt, ew⟩ := z
  have h16 : ∀ e ∈ es, e.a < 16 := hz.h16
  have hm : masks es = ms0 its := hz.masks
  have hw : wt.map Prod.fst = masks es := hz.wt
  have hn : (masks es).Nodup := by rw [hm]; exact addM_nodup _ _ List.nodup_nil
  have hline : l.line = lineAll line [] its := hz.line
  have hlen : (masks es).length ≤ 16 := few 16 _ hn fun x hx => by obtain ⟨e, he, rfl⟩ := List.mem_map.mp hx; exact h16 e he
  subst hx ha he
  rcases hz.kv with ⟨hes, t, tt, tw, hk⟩ | ⟨t, tt, wd, tw, c, tc, hk⟩
  · obtain rfl : es = [] := hes
    obtain rfl : kv = _ := hk
    obtain rfl : wt = [] := by simpa [masks] using hw
    obtain ⟨⟨f0, u0⟩, ⟨f1, u1⟩, ⟨f2, u2⟩, ⟨f3, u3⟩, rfl⟩ : ∃ a b c d, fs = [a, b, c, d] := by
      match fs, h4 with
      | [a, b, c, d], _ => exact ⟨a, b, c, d, rfl⟩
    obtain ⟨sx, sl, ssg, saO, sos, seo, sb, st, sν₀, sν⟩ := s
    obtain rfl : sos = _ := ho
    have run := fun base tb ν => d0_run (w := w) (s := ⟨sx, sl, ssg, saO, [], seo, sb, st, sν₀, sν⟩) (z := ⟨l, [], gF, .int t tt, .str ⟨#[]⟩ tw, .none, [], eb, [], ew⟩) (f0 := f0) (f1 := f1) (f2 := f2) (f3 := f3) (u0 := u0) (u1 := u1) (u2 := u2) (u3 := u3) base tb ν
    show Ck (B w) ((⟨sx, sl, ssg, saO, ords [(f0, u0), (f1, u1), (f2, u2), (f3, u3)], seo, sb, st, sν₀, sν⟩ : DB).κ w) (.ok .next) (((⟨l, [], gF, .int t tt, .str ⟨#[]⟩ tw, .none, [], eb, [], ew⟩ : QS).cells w (⟨sx, sl, ssg, saO, [], seo, sb, st, sν₀, sν⟩ : DB).y (kvE' (.int t tt) (.str ⟨#[]⟩ tw)) ++ [(saO, lst (ords [(f0, u0), (f1, u1), (f2, u2), (f3, u3)]) seo)]) ++ []) _ _ _ 400 3000 412 3020
    refine kdone [] (fun _ _ _ => xsDB) (fun s _ Q hQ => by cases hQ) run (nodupB rfl) (fun ν => ⟨⟨_, l, [], [], eb⟩, ⟨fun p hp => (by cases hp), fun p hp => (by cases hp), List.nodup_nil, ?_, hline, List.Perm.refl _⟩, ?_, rfl⟩)
    · show ([], []) = flagsM _ (ms0 its, ms0 its)
      rw [← hm]
      exact (flagsM_nil _).symm
    · show List.Perm (_ ++ []) (_ ++ [])
      exact List.Perm.refl _
  · obtain rfl : kv = _ := hk
    have hp16 : ∀ p ∈ wt, p.1 < 16 := fun p hp => by
      have : p.1 ∈ masks es := by rw [← hw]; exact List.mem_map_of_mem hp
      obtain ⟨e, he, hq⟩ := List.mem_map.mp this
      rw [← hq]; exact h16 e he
    have hwl : wt.length ≤ 16 := by
      have := congrArg List.length hw
      simp only [List.length_map] at this
      omega
    have sO : s.os = ords fs := ho
    generalize hz0 : (⟨l, [], gF, .int t tt, .str wd tw, .int c tc, vals es, eb, wds wt, ew⟩ : QS) = z0
    have runB := fun base tb ν => dB_run (w := w) (s := s) (z := z0) base tb ν
    have pre0 : dCells w s.y (RS.ds ⟨l, gF, kvR t tt wd tw c tc, es, eb, wt, ew⟩ []) = z0.cells w s.y (kvH z0.a z0.b z0.c) := by subst hz0; rfl
    rw [pre0]
    refine Ck.perm (pre' := (z0.cells w s.y (kvH z0.a z0.b z0.c) ++ [(s.aO, lst s.os s.eo)]) ++ tups es) ?_ (by rw [sO]; exact perm_out)
    refine kcut (dd := 406) (uu := 3010) (P' := fun _ _ _ ν => fun z : PS => (wt = [] → z.kv = kvR t tt wd tw c tc) ∧ (wt ≠ [] → ∃ t tt wd tw c tc, z.kv = kvR t tt wd tw c tc)) (out' := fun _ _ _ ν z => qCells w s.y { l with ep := z.ep } ([] ++ wds wt) z.g z.kv (vals es) eb (wds wt) ew ++ ([(s.aO, lst s.os s.eo)] ++ tups es)) (r' := fun _ _ _ _ _ => .ok .next)
      [] (fun _ _ _ => xsDB) (fun s _ Q hQ => by cases hQ) runB (nodupB rfl) (fun base tb ν₀ ν => ?_) (by decide) (by decide) (fun b1 t1 ν1 ν z hzp => ?_)
    · have := (push_cg w s.y base (vals es) eb ew wt wt 0 l [] ν (kvR t tt wd tw c tc) rfl (by simp; omega) (.inr ⟨_, _, _, _, _, _, rfl⟩)).beside ([(s.aO, lst s.os s.eo)] ++ tups es)
      subst hz0
      refine Cg.perm this ?_
      rw [← List.append_assoc, List.append_assoc (qCells _ _ _ _ _ _ _ _ _ _)]
      exact List.Perm.refl _
    · obtain ⟨t', tt', wd', tw', c', tc', hkv⟩ : ∃ t tt wd tw c tc, z.kv = kvR t tt wd tw c tc := by
        by_cases h : wt = []
        · exact ⟨_, _, _, _, _, _, hzp.1 h⟩
        · exact hzp.2 h
      show Ck (B w) (kapO (s.goB w z0 b1 t1 ν1)) (.ok .next) _ _ _ _ 400 3000 412 3020
      generalize hz2 : (⟨{ l with ep := z.ep }, wds wt, z.g, .int t' tt', .str wd' tw', .int c' tc', vals es, eb, wds wt, ew⟩ : QS) = z2
      have runC := fun base tb ν => dC_run (w := w) (s := s) (z := z0) (z2 := z2) (b1 := b1) (t1 := t1) (ν1 := ν1) base tb ν
      have pre2 : qCells w s.y { l with ep := z.ep } ([] ++ wds wt) z.g z.kv (vals es) eb (wds wt) ew = z2.cells w s.y (kvH z2.a z2.b z2.c) := by subst hz2; rw [hkv]; rfl
      rw [pre2, ← List.append_assoc]
      refine kcut (dd := 406) (uu := 3010) (P' := fun _ _ _ ν => FlOk (fs.map Prod.fst) ⟨{ l with ep := z.ep }, wt, ν, .int t' tt', .str wd' tw', .int c' tc', [], es, eb⟩) (out' := fun _ _ _ ν z' => z'.1.at w s.y (wds wt) ew z'.2 ++ [(s.aO, lst (ords fs) s.eo)] ++ tups z'.1.es) (r' := fun _ _ _ _ _ => .ok .next)
        [] (fun _ _ _ => xsDB) (fun s _ Q hQ => by cases hQ) runC (nodupB rfl) (fun base tb ν₀ ν => ?_) (by decide) (by decide) (fun b2 t2 ν2 ν z' hzf => ?_)
      · have := flags_cg w s.y base (wds wt) ew s.eo fs fs 0 ⟨{ l with ep := z.ep }, wt, ν, .int t' tt', .str wd' tw', .int c' tc', [], es, eb⟩ (kvH (.int t' tt') (.str wd' tw') (.int c' tc')) hfs rfl (.inl ⟨rfl, rfl⟩) ⟨hp16, by show wt.length ≤ 500; omega, .inl rfl, h16, hn⟩ (by show (wt.map Prod.fst).Perm (masks es); rw [hw])
        subst hz2
        rw [sO]
        exact this
      · show Ck (B w) (kapO (s.goC w z0 b1 t1 ν1 z2 b2 t2 ν2)) (.ok .next) _ _ _ _ 400 3000 412 3020
        obtain ⟨⟨l3, pb3, gF3, a3, b3, c3, rest3, es3, eb3⟩, kv3⟩ := z'
        have runD := fun base tb ν => dD_run (w := w) (s := s) (z := z0) (z2 := z2) (z3 := ⟨l3, wds pb3, gF3, a3, b3, c3, vals es3, eb3, wds wt, ew⟩) (b1 := b1) (t1 := t1) (b2 := b2) (t2 := t2) (ν1 := ν1) (ν2 := ν2) hzf.kv base tb ν
        rw [sO] at runD
        show Ck (B w) (kapO (s.goC w z0 b1 t1 ν1 z2 b2 t2 ν2)) (.ok .next) (((⟨l3, wds pb3, gF3, a3, b3, c3, vals es3, eb3, wds wt, ew⟩ : QS).cells w s.y kv3 ++ [(s.aO, lst (ords fs) s.eo)]) ++ tups es3) _ _ _ 400 3000 412 3020
        refine kdone [] (fun _ _ _ => xsDB) (fun s _ Q hQ => by cases hQ) runD (nodupB rfl) (fun ν => ⟨⟨s.y.b, l3, pb3, es3, eb3⟩, ⟨hzf.ok.p16, hzf.ok.e16, hzf.ok.nd, ?_, ?_, hzf.perm⟩, ?_, rfl⟩)
        · rw [← hm]
          have := hzf.eq
          rw [show (FS.mk { l with ep := z.ep } wt ν (.int t' tt') (.str wd' tw') (.int c' tc') [] es eb).pb.map Prod.fst = masks es from hw] at this
          exact this
        · exact hzf.line.trans hline
        · exact List.Perm.refl _
theorem down_cg (hfs : ∀ p ∈ fs, p.1 ∈ flags) (h4 : fs.length = 4) (hi : ∀ i ∈ its, ItOk i) (hl : (textOf its).length ≤ 3000) (h19 : its.length ≤ 19) :
    Cg (B w) (downCode x aO) (downPre w x l (sgn (textOf its) g) aO (ords fs) eo) (DownOk its (fs.map Prod.fst) l.line) (fun z => z.cells w x aO fs eo) (fun z => .ok (.ret (.ref z.b.aB))) 400 3000 := by
  rw [← List.append_nil (downPre _ _ _ _ _ _ _)]
  refine bcut (d := 400) (u := 3000) (dd := 406) (uu := 3010) (P' := fun _ _ _ ν => RdOk [] l.line l.ep [] its) (out' := fun base _ ν₀ ν z => dCells w (dY x aO base ν₀ ν) (z.ds []) ++ tups z.es ++ [(aO, lst (ords fs) eo)]) (r' := fun _ _ _ _ _ => .ok .next)
    [initBQ w] (fun _ _ _ => xsDA) (fun s _ => all_one (lift_ok (F := fun _ => True) List.nodup_nil (fun _ _ _ => trivial) (fun _ => initB_ctr w _) (fun _ => Nat.le_refl _) (fun _ => Nat.le_refl _))) (fun base tb ν => dA_run base tb ν) (nodupB rfl) (fun base tb ν₀ ν => ?_) (by decide) (by decide) (fun base tb ν₀ ν z hz => ?_)
  · have := (read_cg w (dY x aO base ν₀ ν) (ν₀ 0 + 2) its [] ⟨l, fun i => ν (i + 10), [], [], ν 6, [], 0⟩ g 0 19 (.inl rfl) hi hl h19 (.inl ⟨rfl, rfl⟩) List.nodup_nil (fun e he => by cases he) rfl).beside [(aO, lst (ords fs) eo)]
    refine Cg.perm this ?_
    show List.Perm (dCells w (dY x aO base ν₀ ν) ⟨{ l with pb := [] }, sgn (textOf its) g, fun i => ν (i + 10), [], [], ν 6, [], 0⟩ ++ [(ν₀ 0 + 2, rangeIt 0 (Int.ofNat (19 + 1)) 1)] ++ [] ++ [(aO, lst (ords fs) eo)]) _
    rw [List.append_nil, List.append_nil, List.append_assoc]
    exact List.Perm.refl _
  · exact down_rest hfs h4 ⟨x, l, sgn (textOf its) g, aO, ords fs, eo, base, tb, ν₀, ν⟩ rfl rfl rfl rfl hz
end
end Mine
end
section
open PySem PySem.Spec PySem.Calls PySem.W PySem.W.X PyProof.Rows
set_option Elab.async false
set_option maxRecDepth 100000
set_option maxHeartbeats 0
namespace Mine
/-! ## whole numbers -/
noncomputable def knQ (id : String) (x y z : Int) : OracleAt := pureQ id exII (fun a => argII ((x, a.1.2), (y, a.2.2))) fun _ => .int z
section
variable {w : World} {T₀ : CT} {s₀ : Shared}
theorem small_div {x y : Int} (h : 0 < y) (hy : y < 1000000) : ¬ (Builtin.divisionGoesByPylong x y) = true := by
  unfold Builtin.divisionGoesByPylong
  have h1 : y.natAbs ≠ 0 := by omega
  have h2 : y.natAbs.log2 < 20 := (Nat.log2_lt h1).mpr (by omega)
  have h3 : (y == 0) = false := by simp; omega
  simp only [h3, Bool.false_eq_true, if_false, Bool.and_eq_true, decide_eq_true_eq]
  omega
theorem fdQ_ok {x y z : Int} (h0 : 0 < y) (hy : y < 1000000) (h : x / y = z) : OracleOk (B w) T₀ s₀ (knQ "int.__floordiv__" x y z) :=
  pure_ok F.entry_int_floordiv (by decide +kernel) (fun a => by
    have := PySem.AutoIntG4.int___floordiv___int_int_1 x a.1.2 y a.2.2 (by simp; omega) (small_div h0 hy)
    rw [Int.fdiv_eq_ediv_of_nonneg _ (Int.le_of_lt h0), h] at this
    exact this) fun _ => trivial
theorem modQ_ok {x y z : Int} (h0 : 0 < y) (h : x % y = z) : OracleOk (B w) T₀ s₀ (knQ "int.__mod__" x y z) :=
  pure_ok F.entry_int_mod (by decide +kernel) (fun a => by
    have := PySem.AutoIntG6.int___mod___int_int_1 x a.1.2 y a.2.2 (by simp; omega)
    rw [Int.fmod_eq_emod_of_nonneg _ (Int.le_of_lt h0), h] at this
    exact this) fun _ => trivial
theorem plusQ_ok {x y z : Int} (h : x + y = z) : OracleOk (B w) T₀ s₀ (knQ "int.__add__" x y z) :=
  pure_ok F.entry_int_add (by decide +kernel) (fun a => h ▸ gives_int_add _ _ _ _) fun _ => trivial
end
/-! ## a state that has only grown -/
theorem inv_same {V : Par} {s s' : Shared} {L : List (Addr × Obj)} {b t : Nat} (hS : Sat V (stay L b t) s) (keep : ∀ c o, s.heap.get? c = some o → s'.heap.get? c = some o) (ht : s.toks ≤ s'.toks) (hg : s'.gens = s.gens) (hd : s'.drawn = s.drawn) (ho : s'.os = s.os) :
    Inv V (cellsOf L) s (stay L s'.heap.objs.size (s'.toks - 706)) s' := by
  have lo : 706 ≤ s'.toks := Nat.le_trans hS.lo ht
  refine ⟨sat_of (fun a o e => keep a o (hS.top a o e)) rfl (by omega) (fun p hp => ?_) (stay_nodup hS), ⟨fun c o e _ => keep c o e, ht, hg, hd, ho⟩, fun i a o e => .inl ⟨i, o, e⟩⟩
  obtain ⟨h1, h2⟩ := hS.own_mem hp
  exact ⟨keep _ _ h1, h2⟩
noncomputable def ivals (l : List (Int × Tok)) : List Value := l.map fun p => .int p.1 p.2
/-! ## sum -/
noncomputable def sumS (l : List (Int × Tok)) (i : Int) (a : Addr × Nat) : Job where
  code := .builtin "sum" ⟨[.ref a.1], []⟩
  pre := [(a.1, lst (ivals l) a.2)]
  post := fun _ => [lst (ivals l) a.2]
  new := fun _ => []
  r := fun ν => intR i (ν 2)
  d := 900
  u := 8000
theorem ints_eq (l : List (Int × Tok)) : (ivals l).toArray = intItems l.toArray := by simp [ivals, intItems]
theorem sum_pre (l : List (Int × Tok)) : preSum (numAt l.toArray) l.toArray.size = (l.map Prod.fst).sum := by
  rw [preSum_eq, List.take_of_length_le (by simp)]
theorem sum_ctr (w : World) {l : List (Int × Tok)} {i : Int} (hi : (l.map Prod.fst).sum = i) (a : Addr × Nat) : Ctr (B w) (fun _ => True) (sumS l i a) := by
  obtain ⟨c, n⟩ := a
  intro A s R h0 hd hu _ hS hR
  have ho : s.heap.get? c = some (lst (ivals l) n) := hS.heap 0 rfl
  have hl : s.heap.IsList c (intItems l.toArray) := by rw [← ints_eq]; exact ⟨_, ho, rfl, n, rfl⟩
  refine code_body F.entry_sum (by decide +kernel) ?_
  unfold Builtin.«sum»
  simp only [List.length_cons, List.length_nil]
  rw [if_neg (by decide)]
  refine wpAny_bind (wpAny_of_eq (show Builtin.Builtins.bindParams "sum" ["start"] 0 { } = pure [none] from rfl) ?_)
  refine wpAny_bind (iter_intList hl fun s₂ e st hfp hlI => ?_)
  subst e
  have W := (Walks.list (prog := (B w).prog) (w := (B w).w) (A := A.in1) h0 _ c hlI (intItems l.toArray)).toS
  refine wpAny_bind (wpAny_mkInt (wpAny_bind (wpAny_pure ?_)))
  simp only [List.forIn_cons, List.forIn_nil]
  refine wpAny_bind (wpAny_bind (wpAny_bind (wpAny_isInstance (T := "int") (b := false) (typeIs_int _ _ _) PySem.sub_int_str ?_)))
  simp only [Bool.false_eq_true, if_false]
  refine wpAny_pure (wpAny_bind (wpAny_bind (wpAny_isInstance (T := "int") (b := false) (typeIs_int _ _ _) PySem.sub_int_bytes ?_)))
  simp only [Bool.false_eq_true, if_false]
  refine wpAny_pure (wpAny_bind (wpAny_bind (wpAny_isInstance (T := "int") (b := false) (typeIs_int _ _ _) PySem.sub_int_bytearray ?_)))
  simp only [Bool.false_eq_true, if_false]
  refine wpAny_pure (wpAny_pure (wpAny_bind (wpAny_newObj_type ?_)))
  generalize hs2 : ({ s with heap := s.heap.push { cls := Value.type "list_iterator", data := Data.fields #[Value.ref c, Value.int 0 0] } } : Shared) = s₂ at st hfp hlI
  have e0 : s₂.heap.objs.size = s.heap.objs.size + 1 := by subst hs2; exact Heap.size_push ..
  have old : ∀ b o, s.heap.get? b = some o → s₂.heap.get? b = some o := fun b o e => by subst hs2; exact Heap.get?_push_of_some _ e
  have hSf : s₂.heap.objs.size ∉ [s.heap.objs.size, c] := fun hm => Nat.lt_irrefl _ (hfp _ hm)
  have fields : s₂.gens = s.gens ∧ s₂.drawn = s.drawn ∧ s₂.toks = s.toks ∧ s₂.os = s.os := by subst hs2; exact ⟨rfl, rfl, rfl, rfl⟩
  have goal : ∀ s' t', Moved (s₂.heap.objs.size :: [s.heap.objs.size]) (fun a b => b = a) { s₂ with heap := s₂.heap.push { cls := Value.type "list", data := Data.seq #[Value.int 0 s.toks] }, toks := s.toks + 1 } s' → R (.ok (.ret (.int (preSum (numAt l.toArray) (intItems l.toArray).size) t'))) s' := fun s' t' hm => by
    have hz : (intItems l.toArray).size = l.toArray.size := by simp [intItems]
    rw [hz, sum_pre, hi]
    refine hR (nu s' [t']) s' (inv_same (V := B w) (L := [(c, lst (ivals l) n)]) hS (fun b o e => ?_) ?_ ?_ ?_ ?_)
    · refine hm.heap b o (fun hb => ?_) (Heap.get?_push_of_some _ (old b o e))
      have hlt : @LT.lt Nat _ b s.heap.objs.size := Heap.lt_size e
      have hb' : @Eq Nat b s₂.heap.objs.size ∨ @Eq Nat b s.heap.objs.size := by simpa using hb
      omega
    · have : s.toks + 1 ≤ s'.toks := hm.toks
      omega
    · exact hm.gens.trans fields.1
    · exact hm.drawn.trans fields.2.1
    · exact hm.os.trans fields.2.2.2
  have main := codeAny_sum_loopAnyS W (numAt l.toArray) (fun _ _ => intItems_at) s₂.heap.objs.size hSf _ 0 { s₂ with heap := s₂.heap.push { cls := Value.type "list", data := Data.seq #[Value.int 0 s.toks] }, toks := s.toks + 1 } s.toks 0 0 (.inl rfl) rfl (Nat.zero_le _)
    (W.frame 0 s₂ _ _ st (by rw [fields.2.2.1]; omega) fun b _ o e => Heap.get?_push_of_some _ e) (Heap.get?_push_size _ rfl) goal
  subst hs2
  exact wpAny_pure ⟨plainId_quiet F.plain_sum_loop _, main⟩
noncomputable def sumQ (l : List (Int × Tok)) (i : Int) (j : Nat) : OracleAt := QF [j] (fun _ ps => seqAt 0 ps) (sumS l i) 900 8000
theorem sumQ_ok {w : World} {T₀ : CT} {s₀ : Shared} {l : List (Int × Tok)} {i : Int} (hi : (l.map Prod.fst).sum = i) (j : Nat) : OracleOk (B w) T₀ s₀ (sumQ l i j) :=
  lift_ok (F := fun _ => True) (by simp) (fun _ _ _ => trivial) (fun a => sum_ctr w hi a) (fun _ => Nat.le_refl _) (fun _ => Nat.le_refl _)
end Mine
end
section
open PySem PySem.Spec PySem.Calls PySem.W PySem.W.X PyProof.Rows
set_option Elab.async false
set_option maxRecDepth 100000
set_option maxHeartbeats 0
namespace Mine
noncomputable def QFm {α : Type} (Jf : Nat → List Nat) (ex : Code → List (Addr × Obj) → Option α) (S : α → Job) (d u : Nat) : OracleAt := ⟨fun c T m ν => (QF (Jf m) ex S d u).f c T m ν, d, u⟩
theorem QFm_ok {V : Par} {T₀ : CT} {s₀ : Shared} {α : Type} {Jf : Nat → List Nat} {ex : Code → List (Addr × Obj) → Option α} {S : α → Job} {d u : Nat} (h : ∀ m, OracleOk V T₀ s₀ (QF (Jf m) ex S d u)) : OracleOk V T₀ s₀ (QFm Jf ex S d u) :=
  fun c M s A R I h0 hd hu H => h M.m c M s A R I h0 hd hu H
noncomputable def mnI (x y : Int) : Int := if y < x then y else x
noncomputable def mxI (x y : Int) : Int := if y > x then y else x
structure Two where
  c : Bool
  a : Addr
  n : Nat
  x : Int
  t : Tok
  y : Int
  u : Tok
noncomputable def idOf : Bool → String
  | true => "min"
  | false => "max"
noncomputable def bestI : Bool → Int → Int → Int
  | true, x, y => mnI x y
  | false, x, y => mxI x y
noncomputable def bestS (p : Two) : Job where
  code := .builtin (idOf p.c) ⟨[.ref p.a], []⟩
  pre := [(p.a, lst [.int p.x p.t, .int p.y p.u] p.n)]
  post := fun _ => [lst [.int p.x p.t, .int p.y p.u] p.n]
  new := fun _ => []
  r := fun ν => intR (bestI p.c p.x p.y) (ν 2)
  d := 900
  u := 8000
noncomputable def seqV (o : Obj) (i : Nat) : Value := match o.data with
  | .seq vs _ => match vs[i]? with
    | some v => v
    | none => .none
  | _ => .none
noncomputable def isMin : Code → Bool
  | .builtin id _ => id == "min"
  | _ => false
noncomputable def bestQ : OracleAt := QFm (fun m => [m - 1]) (fun c ps => some (Two.mk (isMin c) (adAt 0 ps) (ktoks (obAt 0 ps) 0) (intOf (seqV (obAt 0 ps) 0)) (tokV (seqV (obAt 0 ps) 0)) (intOf (seqV (obAt 0 ps) 1)) (tokV (seqV (obAt 0 ps) 1)))) bestS 900 8000
theorem best_min (w : World) (a : Addr) (n : Nat) (x : Int) (t : Tok) (y : Int) (u : Tok) : Ctr (B w) (fun _ => True) (bestS ⟨true, a, n, x, t, y, u⟩) := by
  intro A s R h0 hd hu _ hS hR
  have ho : s.heap.get? a = some (lst (ivals [(x, t), (y, u)]) n) := hS.heap 0 rfl
  have hl : s.heap.IsList a (intItems [(x, t), (y, u)].toArray) := by rw [← ints_eq]; exact ⟨_, ho, rfl, n, rfl⟩
  have hname : (toString "min" ++ toString ".loop" : String) = "min.loop" := by decide
  refine code_body (id := "min") F.entry_min (by decide +kernel) ?_
  show wpAny _ A.in1 (Builtin.Builtins.bindParams "min" ["key", "default"] 0 ⟨[], []⟩ >>= _) _ _ s
  refine wpAny_bind (wpAny_of_eq (show Builtin.Builtins.bindParams "min" ["key", "default"] 0 ⟨[], []⟩ = pure [none, none] from rfl) ?_)
  refine wpAny_bind (wpAny_pure ?_)
  refine wpAny_bind (iter_intList hl fun s₂ e st hfp hlI => ?_)
  subst e
  have W := (Walks.list (prog := (B w).prog) (w := (B w).w) (A := A.in1) h0 _ a hlI (intItems [(x, t), (y, u)].toArray)).toS
  refine wpAny_bind (wpAny_newObj_type ?_)
  generalize hs2 : ({ s with heap := s.heap.push { cls := Value.type "list_iterator", data := Data.fields #[Value.ref a, Value.int 0 0] } } : Shared) = s₂ at st hfp hlI
  have e0 : s₂.heap.objs.size = s.heap.objs.size + 1 := by subst hs2; exact Heap.size_push ..
  have old : ∀ b o, s.heap.get? b = some o → s₂.heap.get? b = some o := fun b o e => by subst hs2; exact Heap.get?_push_of_some _ e
  have hSf : s₂.heap.objs.size ∉ [s.heap.objs.size, a] := fun hm => Nat.lt_irrefl _ (hfp _ hm)
  have fields : s₂.gens = s.gens ∧ s₂.drawn = s.drawn ∧ s₂.toks = s.toks ∧ s₂.os = s.os := by subst hs2; exact ⟨rfl, rfl, rfl, rfl⟩
  have goal : ∀ v s', (intItems [(x, t), (y, u)].toArray)[argBest (fun i j => decide (numAt [(x, t), (y, u)].toArray i < numAt [(x, t), (y, u)].toArray j)) 1]? = some v → Moved (s₂.heap.objs.size :: [s.heap.objs.size]) (fun a b => b = a) { s₂ with heap := s₂.heap.push { cls := Value.type "list", data := Data.seq #[] } } s' → R (.ok (.ret v)) s' := fun v s' hP hm => by
    have hI : Inv (B w) (cellsOf [(a, lst (ivals [(x, t), (y, u)]) n)]) s (stay [(a, lst (ivals [(x, t), (y, u)]) n)] s'.heap.objs.size (s'.toks - 706)) s' := inv_same (V := B w) (L := [(a, lst (ivals [(x, t), (y, u)]) n)]) hS (fun b o e => by
      refine hm.heap b o (fun hb => ?_) (Heap.get?_push_of_some _ (old b o e))
      have hlt : @LT.lt Nat _ b s.heap.objs.size := Heap.lt_size e
      have hb' : @Eq Nat b s₂.heap.objs.size ∨ @Eq Nat b s.heap.objs.size := by simpa using hb
      omega) (by have : s₂.toks ≤ s'.toks := hm.toks
                 omega) (hm.gens.trans fields.1) (hm.drawn.trans fields.2.1) (hm.os.trans fields.2.2.2)
    by_cases hxy : y < x
    · have e : argBest (fun i j => decide (numAt [(x, t), (y, u)].toArray i < numAt [(x, t), (y, u)].toArray j)) 1 = 1 := by simp [argBest, numAt, hxy]
      rw [e] at hP
      have hv : v = .int (bestI true x y) u := by simpa [intItems, bestI, mnI, hxy] using hP.symm
      rw [hv]
      exact hR (nu s' [u]) s' hI
    · have e : argBest (fun i j => decide (numAt [(x, t), (y, u)].toArray i < numAt [(x, t), (y, u)].toArray j)) 1 = 0 := by simp [argBest, numAt, hxy]
      rw [e] at hP
      have hv : v = .int (bestI true x y) t := by simpa [intItems, bestI, mnI, hxy] using hP.symm
      rw [hv]
      exact hR (nu s' [t]) s' hI
  have hone : (intItems #[(x, t), (y, u)]).size - 1 = 1 := by simp [intItems]
  have main := codeAny_min_loop_firstS W _ (CmpOf.ints_lt (numAt [(x, t), (y, u)].toArray) (fun _ _ => intItems_at)) s₂.heap.objs.size hSf (by simp [intItems]) (s := { s₂ with heap := s₂.heap.push { cls := Value.type "list", data := Data.seq #[] } })
    (W.frame 0 s₂ _ s₂.toks st (Nat.le_refl _) fun b _ o e => Heap.get?_push_of_some _ e) (Heap.get?_push_size _ rfl) (fun v s' hP hm => goal v s' (hone ▸ hP) hm)
  subst hs2
  rw [hname]
  exact wpAny_pure ⟨plainId_quiet F.plain_min_loop _, main⟩
theorem best_max (w : World) (a : Addr) (n : Nat) (x : Int) (t : Tok) (y : Int) (u : Tok) : Ctr (B w) (fun _ => True) (bestS ⟨false, a, n, x, t, y, u⟩) := by
  intro A s R h0 hd hu _ hS hR
  have ho : s.heap.get? a = some (lst (ivals [(x, t), (y, u)]) n) := hS.heap 0 rfl
  have hl : s.heap.IsList a (intItems [(x, t), (y, u)].toArray) := by rw [← ints_eq]; exact ⟨_, ho, rfl, n, rfl⟩
  have hname : (toString "max" ++ toString ".loop" : String) = "max.loop" := by decide
  refine code_body (id := "max") F.entry_max (by decide +kernel) ?_
  show wpAny _ A.in1 (Builtin.Builtins.bindParams "max" ["key", "default"] 0 ⟨[], []⟩ >>= _) _ _ s
  refine wpAny_bind (wpAny_of_eq (show Builtin.Builtins.bindParams "max" ["key", "default"] 0 ⟨[], []⟩ = pure [none, none] from rfl) ?_)
  refine wpAny_bind (wpAny_pure ?_)
  refine wpAny_bind (iter_intList hl fun s₂ e st hfp hlI => ?_)
  subst e
  have W := (Walks.list (prog := (B w).prog) (w := (B w).w) (A := A.in1) h0 _ a hlI (intItems [(x, t), (y, u)].toArray)).toS
  refine wpAny_bind (wpAny_newObj_type ?_)
  generalize hs2 : ({ s with heap := s.heap.push { cls := Value.type "list_iterator", data := Data.fields #[Value.ref a, Value.int 0 0] } } : Shared) = s₂ at st hfp hlI
  have e0 : s₂.heap.objs.size = s.heap.objs.size + 1 := by subst hs2; exact Heap.size_push ..
  have old : ∀ b o, s.heap.get? b = some o → s₂.heap.get? b = some o := fun b o e => by subst hs2; exact Heap.get?_push_of_some _ e
  have hSf : s₂.heap.objs.size ∉ [s.heap.objs.size, a] := fun hm => Nat.lt_irrefl _ (hfp _ hm)
  have fields : s₂.gens = s.gens ∧ s₂.drawn = s.drawn ∧ s₂.toks = s.toks ∧ s₂.os = s.os := by subst hs2; exact ⟨rfl, rfl, rfl, rfl⟩
  have goal : ∀ v s', (intItems [(x, t), (y, u)].toArray)[argBest (fun i j => decide (numAt [(x, t), (y, u)].toArray i > numAt [(x, t), (y, u)].toArray j)) 1]? = some v → Moved (s₂.heap.objs.size :: [s.heap.objs.size]) (fun a b => b = a) { s₂ with heap := s₂.heap.push { cls := Value.type "list", data := Data.seq #[] } } s' → R (.ok (.ret v)) s' := fun v s' hP hm => by
    have hI : Inv (B w) (cellsOf [(a, lst (ivals [(x, t), (y, u)]) n)]) s (stay [(a, lst (ivals [(x, t), (y, u)]) n)] s'.heap.objs.size (s'.toks - 706)) s' := inv_same (V := B w) (L := [(a, lst (ivals [(x, t), (y, u)]) n)]) hS (fun b o e => by
      refine hm.heap b o (fun hb => ?_) (Heap.get?_push_of_some _ (old b o e))
      have hlt : @LT.lt Nat _ b s.heap.objs.size := Heap.lt_size e
      have hb' : @Eq Nat b s₂.heap.objs.size ∨ @Eq Nat b s.heap.objs.size := by simpa using hb
      omega) (by have : s₂.toks ≤ s'.toks := hm.toks
                 omega) (hm.gens.trans fields.1) (hm.drawn.trans fields.2.1) (hm.os.trans fields.2.2.2)
    by_cases hxy : y > x
    · have e : argBest (fun i j => decide (numAt [(x, t), (y, u)].toArray i > numAt [(x, t), (y, u)].toArray j)) 1 = 1 := by simp [argBest, numAt, hxy]
      rw [e] at hP
      have hv : v = .int (bestI false x y) u := by simpa [intItems, bestI, mxI, hxy] using hP.symm
      rw [hv]
      exact hR (nu s' [u]) s' hI
    · have e : argBest (fun i j => decide (numAt [(x, t), (y, u)].toArray i > numAt [(x, t), (y, u)].toArray j)) 1 = 0 := by simp [argBest, numAt, hxy]
      rw [e] at hP
      have hv : v = .int (bestI false x y) t := by simpa [intItems, bestI, mxI, hxy] using hP.symm
      rw [hv]
      exact hR (nu s' [t]) s' hI
  have hone : (intItems #[(x, t), (y, u)]).size - 1 = 1 := by simp [intItems]
  have main := codeAny_max_loop_firstS W _ (CmpOf.ints_gt (numAt [(x, t), (y, u)].toArray) (fun _ _ => intItems_at)) s₂.heap.objs.size hSf (by simp [intItems]) (s := { s₂ with heap := s₂.heap.push { cls := Value.type "list", data := Data.seq #[] } })
    (W.frame 0 s₂ _ s₂.toks st (Nat.le_refl _) fun b _ o e => Heap.get?_push_of_some _ e) (Heap.get?_push_size _ rfl) (fun v s' hP hm => goal v s' (hone ▸ hP) hm)
  subst hs2
  rw [hname]
  exact wpAny_pure ⟨plainId_quiet F.plain_max_loop _, main⟩
theorem bestQ_ok {w : World} {T₀ : CT} {s₀ : Shared} : OracleOk (B w) T₀ s₀ bestQ :=
  QFm_ok fun m => lift_ok (F := fun _ => True) (by simp) (fun _ _ _ => trivial) (fun p => by
    obtain ⟨c, a, n, x, t, y, u⟩ := p
    cases c
    · exact best_max w a n x t y u
    · exact best_min w a n x t y u) (fun _ => Nat.le_refl _) (fun _ => Nat.le_refl _)
end Mine
end
section
open PySem PySem.Spec PySem.Calls PySem.W PySem.W.X PyProof.Rows
set_option Elab.async false
set_option maxRecDepth 100000
set_option maxHeartbeats 0
namespace Mine
noncomputable def bv (b : Nat → Int) (t : Nat → Tok) (n : Nat) : List Value := (List.range n).map fun i => .int (b i) (t i)
noncomputable def lvlI (c : Bool) : List Int → List Int
  | x :: y :: l => bestI c x y :: lvlI c l
  | _ => []
noncomputable def tbk (k j : Nat) : Bool := Nat.beq (k / 2 ^ j % 2) 1
noncomputable def wonI (k : Nat) (b : Nat → Int) : Int := (lvlI (tbk k 3) (lvlI (tbk k 2) (lvlI (tbk k 1) (lvlI (tbk k 0) ((List.range 16).map b))))).headD 0
section
variable {w : World} {aL ep tk : Nat} {b : Nat → Int} {t : Nat → Nat}
noncomputable def wonCode (aL k tk : Nat) : Code := .call (.ref 289) ⟨[.ref aL, .int (Int.ofNat k) tk], []⟩
noncomputable def wonGo (w : World) (aL ep k tk : Nat) (b : Nat → Int) (t : Nat → Nat) (base tb : Nat) (ν : Nat → Nat) : Out := goes (mkV w [bestQ]) 1550 19390818720385625600365185219182066945418280533751123309016446659622200382779669787571430935407691764224262460466994822490478931321823993731952755812535874612092256293410892517306017168874152341661793409463674822181836100630236040482621276406605293737692932778277841746448628433914782960044621897489445150064570875077065156516378785316447440578309797796077046713535101786975333824380262778842252700031696753999455306008523265949543936640300124213680838472647240543505860810599749978623621571554385247999267803601089125010153520422316767554934525307228248514461268588544938441419231993970852528658512529144848423632089830991767203499769610350414644656842412512123971368794117799771869386938583214863029408345926120390918225806236391461381576344605645667461292696141119655229553154663114724554514410926719620356629233368989485224982626201747716288494585069661858395703217837985196637787668840462066720909752694779480167430447542792301450108192482943015849158299698094700545050538204002530364224436446874784357738722733437594424514655947095827150601643151001370947748492084603015497096299238814248493598879289515544494072560373927113830563257254825735387566198356896841296029892985994020962965012889812809384675384021782120384858317834630530858388967220851619816967404985174922427313898382527416806709684853001973086891390119526312413678615068017283292768684959332315440621013373496543677339707087258232645627980188631999412151199231794788583814966653752346812866872237090155996201036365220380536215095561830783209002993035111289823121408188810837358896635331363696678326155574755865473907713430493746512790348253287967250161349984662178124259712527151173397373414063104859396589891861522034467548975944782674372539694460243523344928961855055354678866613413230833382341406283882240494470373237142093123933562867811358662273432137512417497719769920694565744760008471674618405173024080613723514237979100506397842898881397738255621972392167921129327199602621491507541933731692261360891147410720322634693972329990103176625996145666019881413081286342715419031240529942750461929267318944078213323364121284402234974506598789322087693103058214239000634819868412056377428982525082687769734132345794466150844810522912315831664951847956173035439208932446957981027956290339236972964424879961738768293136247505571074918919962625 (wonCode aL k tk) (stay [(aL, lst (bv b t 16) ep)] base tb) 406 3010 ν
noncomputable def xsW (G : Goal) : List Nat := [xA 53 G, tokV (seqV (obG 53 G) 0), ktoks (obG 53 G) 0]
theorem won_run5 (base tb : Nat) (ν : Nat → Nat) : RunsL [0, 2, 53] xsW (fun _ => .tree 406 3010)
    (fun ν => [(aL, lst (bv b t 16) ep), (base + 1, cellObj (.ref (ν 0))), (ν 0, lst [.int (wonI 5 b) (ν 1)] (ν 2))])
    (wonGo w aL ep 5 tk b t base tb ν) := by
  unfold RunsL; kernel_rfl
end
end Mine
end
section
open PySem PySem.Spec PySem.Calls PySem.W PySem.W.X PyProof.Rows
set_option Elab.async false
set_option maxRecDepth 100000
set_option maxHeartbeats 0
namespace Mine
/-! ## the rest of a body, at the level of the sources -/
noncomputable def stripP : Sem PySem.Fin → Sem PySem.Fin
  | .point _ f => f ()
  | t => t
theorem tail_eq (b : List Stmt) (env : Env) : stripP (den (.func b env)) = ((execs b env).onRaise (leaving env) >>= fun r => match r with | .ret v => ret v | _ => ret .none) := by
  rw [← den_eq]; rfl
noncomputable def retOf : Flow → Result
  | .ret v => .ok (.ret v)
  | _ => .ok (.ret .none)
theorem mean_tail {V : Par} {A : Around} {R : Result → Shared → Prop} {c : Code} {b : List Stmt} {env : Env} {s : Shared}
    (h : wpAny (model V.prog V.w) (A.under c) (execs b env) (fun f s' => R (retOf f) s') (fun _ _ => False) s) : Mean V A R [] c (stripP (den (.func b env))) s := by
  rw [tail_eq]
  refine wpAny_bind (wpAny_onRaise (wpAny_mono h (fun f s' hf => ?_) fun _ _ x => x.elim))
  cases f with
  | ret v => exact wpAny_pure hf
  | _ => exact wpAny_pure hf
noncomputable def kEnd : Value → Mm → Nat → Obs → Out := fun v M _ O => .fin ⟨.ret (.ok (.ret v)), M, O⟩
theorem kEnd_suf (v : Value) (M : Mm) (H : Nat) (O : Obs) : Suf O (kEnd v M H O) := fun g e => by cases e; exact List.suffix_refl _
theorem go_p {w : World} {t : Sem Value} {front : List (Addr × Obj)} {L : (Nat → Nat) → List (Addr × Obj)} {v : (Nat → Nat) → Value} {n H base tb : Nat} {J : List Nat} {A : Around} {E : Value → Shared → Prop} {Q : Value → Shared → Prop} {T₀ : CT} {s₀ s : Shared} (xs : Goal → List Nat)
    (hrun : RunsL J xs (fun ν => .ret (.ok (.ret (v ν)))) L (runP (B w) kEnd n t (stay front base tb) H [])) (hJ : J.Nodup) (I : Inv (B w) T₀ s₀ (stay front base tb) s)
    (hR : ∀ ν b t s', Inv (B w) T₀ s₀ (stay (L ν) b t) s' → Q (v ν) s') : wpAny (model (B w).prog (B w).w) A t Q E s := by
  refine runP_ok (V := B w) (T₀ := T₀) (s₀ := s₀) (A₀ := A) (R := fun r s' => ∀ v, r = .ok (.ret v) → Q v s') (k := fun _ => kEnd) (fun _ => kEnd_suf) (fun a M H O s' I' h' => ?_) n t (stay front base tb) H [] s I fun ν => ?_
  · obtain ⟨g, e, _, hg⟩ := h' fun _ => 0
    cases e
    exact hg s' I' a rfl
  · obtain ⟨g, ee, ho, he, hg⟩ := hrun.spec
    refine ⟨g, ee, ho, fun s' K => ?_⟩
    have K' := Inv.restrict hJ K hg (b := s'.heap.objs.size) (t := s'.toks - 706) rfl (by have := K.sat.lo; show s'.toks = s'.toks - 706 + 706; omega)
    have P := hR _ _ _ s' K'
    refine EndAt.of_kind he ?_
    intro v hv
    cases hv
    exact P
end Mine
end
section
open PySem PySem.Spec PySem.Calls PySem.W PySem.W.X PyProof.Rows
set_option Elab.async false
set_option maxRecDepth 100000
set_option maxHeartbeats 0
namespace Mine
noncomputable def RunsT (J : List Nat) (xs : Goal → List Nat) (d u : Nat) (L : (Nat → Nat) → List (Addr × Obj)) (tr : Sem PySem.Fin) (cd : Code) (x : Out) : Prop := (isFin x, seen J x, (standO x).tr, (standO x).cd, (standO x).kap) = (true, dueL xs (fun _ => .tree d u) L x, tr, cd, [])
noncomputable def wonEnv (w : World) (base : Nat) : Env := envAt w 289 base [("bits", base + 1)]
noncomputable def wonTail (w : World) : List Stmt := (stmtsOf w 289).drop 1
section
variable {w : World} {aL ep tk : Nat} {b : Nat → Int} {t : Nat → Nat}
noncomputable abbrev WonR (w : World) (aL ep tk : Nat) (b : Nat → Int) (t : Nat → Nat) (base tb : Nat) (ν : Nat → Nat) (k : Nat) : Prop := RunsT [0, 2, 53] xsW 406 3010
    (fun ν => [(aL, lst (bv b t 16) ep), (base + 1, cellObj (.ref (ν 0))), (ν 0, lst [.int (wonI k b) (ν 1)] (ν 2))])
    (stripP (den (.func (wonTail w) (wonEnv w base)))) (.func (stmtsOf w 289) (wonEnv w base))
    (wonGo w aL ep k tk b t base tb ν)
theorem won_four0 (base tb : Nat) (ν : Nat → Nat) : WonR w aL ep tk b t base tb ν 0 ∧ WonR w aL ep tk b t base tb ν 1 ∧ WonR w aL ep tk b t base tb ν 2 ∧ WonR w aL ep tk b t base tb ν 3 := by
  unfold WonR RunsT
  exact ⟨by kernel_rfl, by kernel_rfl, by kernel_rfl, by kernel_rfl⟩
theorem won_four1 (base tb : Nat) (ν : Nat → Nat) : WonR w aL ep tk b t base tb ν 4 ∧ WonR w aL ep tk b t base tb ν 5 ∧ WonR w aL ep tk b t base tb ν 6 ∧ WonR w aL ep tk b t base tb ν 7 := by
  unfold WonR RunsT
  exact ⟨by kernel_rfl, by kernel_rfl, by kernel_rfl, by kernel_rfl⟩
theorem won_four2 (base tb : Nat) (ν : Nat → Nat) : WonR w aL ep tk b t base tb ν 8 ∧ WonR w aL ep tk b t base tb ν 9 ∧ WonR w aL ep tk b t base tb ν 10 ∧ WonR w aL ep tk b t base tb ν 11 := by
  unfold WonR RunsT
  exact ⟨by kernel_rfl, by kernel_rfl, by kernel_rfl, by kernel_rfl⟩
theorem won_four3 (base tb : Nat) (ν : Nat → Nat) : WonR w aL ep tk b t base tb ν 12 ∧ WonR w aL ep tk b t base tb ν 13 ∧ WonR w aL ep tk b t base tb ν 14 ∧ WonR w aL ep tk b t base tb ν 15 := by
  unfold WonR RunsT
  exact ⟨by kernel_rfl, by kernel_rfl, by kernel_rfl, by kernel_rfl⟩
theorem won_run (base tb : Nat) (ν : Nat → Nat) : ∀ k, k < 16 → WonR w aL ep tk b t base tb ν k :=
  all16 (won_four0 base tb ν).1 (won_four0 base tb ν).2.1 (won_four0 base tb ν).2.2.1 (won_four0 base tb ν).2.2.2 (won_four1 base tb ν).1 (won_four1 base tb ν).2.1 (won_four1 base tb ν).2.2.1 (won_four1 base tb ν).2.2.2 (won_four2 base tb ν).1 (won_four2 base tb ν).2.1 (won_four2 base tb ν).2.2.1 (won_four2 base tb ν).2.2.2 (won_four3 base tb ν).1 (won_four3 base tb ν).2.1 (won_four3 base tb ν).2.2.1 (won_four3 base tb ν).2.2.2
end
end Mine
end
section
open PySem PySem.Spec PySem.Calls PySem.W PySem.W.X PyProof.Rows
set_option Elab.async false
set_option maxRecDepth 100000
set_option maxHeartbeats 0
namespace Mine
theorem RunsT.out {J : List Nat} {xs : Goal → List Nat} {d u : Nat} {L : (Nat → Nat) → List (Addr × Obj)} {tr : Sem PySem.Fin} {cd : Code} {x : Out} (h : RunsT J xs d u L tr cd x) : RunsL J xs (fun _ => .tree d u) L x ∧ (standO x).tr = tr ∧ (standO x).cd = cd ∧ (standO x).kap = [] := by
  unfold RunsT at h
  obtain ⟨h1, h⟩ := Prod.mk.inj h
  obtain ⟨h2, h⟩ := Prod.mk.inj h
  obtain ⟨h3, h⟩ := Prod.mk.inj h
  obtain ⟨h4, h5⟩ := Prod.mk.inj h
  exact ⟨by unfold RunsL; rw [h1, h2], h3, h4, h5⟩
/-! ## the parts of `return l == r` -/
noncomputable def retE : List Stmt → Expr
  | .Return (some e) _ :: _ => e
  | _ => .Name "" default
noncomputable def retP : List Stmt → Pos
  | .Return _ p :: _ => p
  | _ => default
noncomputable def cmpL : Expr → Expr
  | .Compare l _ _ _ => l
  | e => e
noncomputable def cmpR : Expr → Expr
  | .Compare _ _ [r] _ => r
  | e => e
noncomputable def cmpP : Expr → Pos
  | .Compare _ _ _ p => p
  | _ => default
theorem wonTail_eq (w : World) : wonTail w = [.Return (some (.Compare (cmpL (retE (wonTail w))) [.Eq] [cmpR (retE (wonTail w))] (cmpP (retE (wonTail w))))) (retP (wonTail w))] := by kernel_rfl
theorem wonMark (w : World) : behindInMarks .Eq (cmpR (retE (wonTail w))) = false := by kernel_rfl
noncomputable def wonS (aL ep k tk : Nat) (b : Nat → Int) (t : Nat → Tok) (r : Bool) : Job where
  code := wonCode aL k tk
  pre := [(aL, lst (bv b t 16) ep)]
  post := fun _ => [lst (bv b t 16) ep]
  new := fun _ => []
  r := fun _ => .ok (.ret (.bool r))
  d := 400
  u := 3000
section
variable {w : World} {aL ep tk : Nat} {b : Nat → Int} {t : Nat → Nat}
theorem wonL_run (base : Nat) (x : Nat) (e : Int) (te n : Nat) (bs tb : Nat) : RunsL [0, 1, 2] (fun _ => []) (fun _ => .ret (.ok (.ret (.ref x)))) (fun _ => [(aL, lst (bv b t 16) ep), (base + 1, cellObj (.ref x)), (x, lst [.int e te] n)])
    (runP (B w) kEnd 20 (eval (cmpL (retE (wonTail w))) (wonEnv w base)) (stay [(aL, lst (bv b t 16) ep), (base + 1, cellObj (.ref x)), (x, lst [.int e te] n)] bs tb) 2 []) := by
  unfold RunsL; kernel_rfl
theorem wonR_run (base : Nat) (x : Nat) (e : Int) (te n : Nat) (bs tb : Nat) : RunsL [0, 1, 2, 3] (fun G => [xA 3 G, tokV (seqV (obG 3 G) 0)]) (fun ν => .ret (.ok (.ret (.ref (ν 0))))) (fun ν => [(aL, lst (bv b t 16) ep), (base + 1, cellObj (.ref x)), (x, lst [.int e te] n), (ν 0, lst [.int 1 (ν 1)] 0)])
    (runP (B w) kEnd 20 (eval (cmpR (retE (wonTail w))) (wonEnv w base)) (stay [(aL, lst (bv b t 16) ep), (base + 1, cellObj (.ref x)), (x, lst [.int e te] n)] bs tb) 0 []) := by
  unfold RunsL; kernel_rfl
theorem won_ctr {k : Nat} (hk : k < 16) {r : Bool} (hr : (wonI k b == 1) = r) (F : Shared → Prop) : Ctr (B w) F (wonS aL ep k tk b t r) := by
  intro A s R h0 hd hu _ hS hR
  have hS' : Sat (B w) (stay ([(aL, lst (bv b t 16) ep)] ++ []) s.heap.objs.size (s.toks - 706)) s := hS
  refine go (V := B w) (d := 400) (u := 3000) (X := []) (orc := fun j => [bestQ][j]?) (J := [0, 2, 53]) (e := fun _ _ _ _ => .tree 406 3010) (L := fun base _ _ ν => [(aL, lst (bv b t 16) ep), (base + 1, cellObj (.ref (ν 0))), (ν 0, lst [.int (wonI k b) (ν 1)] (ν 2))]) (fun _ _ _ => xsW) (nodupB rfl) (fun _ _ => mk_ok (all_one bestQ_ok)) (fun base tb ν => (won_run base tb ν k hk).out.1) h0 hd hu hS' fun base tb ν₀ ν b' t' s' I hA => ?_
  obtain ⟨_, e1, e2, e3⟩ := (won_run (w := w) (aL := aL) (ep := ep) (tk := tk) (b := b) (t := t) base tb ν₀ k hk).out
  show Mean (B w) A R (standO (wonGo w aL ep k tk b t base tb ν₀)).kap (standO (wonGo w aL ep k tk b t base tb ν₀)).cd (standO (wonGo w aL ep k tk b t base tb ν₀)).tr s'
  rw [e1, e2, e3]
  have hA' : AOk A (standO (wonGo w aL ep k tk b t base tb ν₀)).kap 406 3010 := hA
  have hun : (A.under (.func (stmtsOf w 289) (wonEnv w base))).units ≤ 3100 := by
    have := units_le (.func (stmtsOf w 289) (wonEnv w base))
    show A.units + (Code.func (stmtsOf w 289) (wonEnv w base)).cUnits ≤ 3100
    have : A.units ≤ 3000 := hu
    omega
  refine mean_tail ?_
  rw [wonTail_eq]
  refine wpAny_execs_cons ?_
  rw [exec_Return_some]
  refine wpAny_bind (wpAny_standAt (wpAny_bind (wpAny_Compare1 ?_ (wonMark w))))
  have I0 : Inv (B w) (cellsOf [(aL, lst (bv b t 16) ep)]) s (stay [(aL, lst (bv b t 16) ep), (base + 1, cellObj (.ref (ν 0))), (ν 0, lst [.int (wonI k b) (ν 1)] (ν 2))] b' t') s' := I
  refine go_p (fun _ => []) (wonL_run (w := w) base (ν 0) (wonI k b) (ν 1) (ν 2) b' t') (nodupB rfl) I0 fun ν1 b1 t1 s1 I1 => ?_
  refine go_p (fun G => [xA 3 G, tokV (seqV (obG 3 G) 0)]) (wonR_run (w := w) base (ν 0) (wonI k b) (ν 1) (ν 2) b1 t1) (nodupB rfl) I1 fun ν2 b2 t2 s2 I2 => ?_
  have hx : s2.heap.IsList (ν 0) [Value.int (wonI k b) (ν 1)].toArray := ⟨_, (I2.sat.own_mem (p := (ν 0, lst [.int (wonI k b) (ν 1)] (ν 2))) (by simp)).1, rfl, _, rfl⟩
  have hy : s2.heap.IsList (ν2 0) [Value.int 1 (ν2 1)].toArray := ⟨_, (I2.sat.own_mem (p := (ν2 0, lst [.int 1 (ν2 1)] 0)) (by simp)).1, rfl, _, rfl⟩
  refine ke_eq_ints hx hy (ns := [wonI k b]) (ms := [1]) ?_ ?_ ?_ ?_
  · exact .cons _ _ .nil
  · exact .cons _ _ .nil
  · show _ + 64 < 9900
    omega
  · refine wpAny_pure ?_
    show R (.ok (.ret (.bool (decide ([wonI k b] = [1]))))) s2
    have e : decide ([wonI k b] = [1]) = r := by
      rw [← hr]
      by_cases h : wonI k b = 1 <;> simp [h]
    rw [e]
    have I3 : Inv (B w) (cellsOf [(aL, lst (bv b t 16) ep)]) s (stay [(aL, lst (bv b t 16) ep)] b2 t2) s2 := Inv.front_pick (X := []) [0] (nodupB rfl) (by rw [List.append_nil]; exact I2) rfl
    exact hR (fun i => match i with | 0 => b2 | 1 => t2 | _ => 0) s2 I3
end
end Mine
end
section
open PySem PySem.Spec PySem.Calls PySem.W PySem.W.X PyProof.Rows
set_option Elab.async false
set_option maxRecDepth 100000
set_option maxHeartbeats 0
namespace Mine
/-! ## a flag's walk, told by membership -/
theorem low_off : ∀ f, f ∈ flags → ∀ a, a < 16 → hasF f a = true → hasF f (lowM f a) = false := by decide +kernel
theorem low_inj : ∀ f, f ∈ flags → ∀ a, a < 16 → hasF f a = true → ∀ b, b < 16 → hasF f b = true → lowM f a = lowM f b → a = b := by decide +kernel
theorem inner_mem {f : Nat} (hf : f ∈ flags) : ∀ (rem dn ms : List Nat), rem.Nodup → (∀ a ∈ rem, a < 16) → ∀ x, x ∈ (innerM f rem dn ms).2 ↔
    (x ∈ ms ∧ ¬ (x ∈ rem ∧ hasF f x = true ∧ lowM f x ∉ ms)) ∨ ∃ a ∈ rem, hasF f a = true ∧ lowM f a = x ∧ x ∉ ms
  | [], dn, ms, _, _, x => by simp [innerM]
  | a :: rem, dn, ms, hn, h16, x => by
    obtain ⟨ha, hn'⟩ := List.nodup_cons.mp hn
    have h16' : ∀ b ∈ rem, b < 16 := fun b hb => h16 b (List.mem_cons_of_mem _ hb)
    have ha16 := h16 a (List.mem_cons_self ..)
    rw [innerM, inner_mem hf rem _ _ hn' h16' x]
    unfold turnM
    by_cases hb : hasF f a = true
    · rw [if_pos hb]
      by_cases hm : lowM f a ∈ ms
      · rw [if_pos hm]
        constructor
        · rintro (⟨h1, h2⟩ | ⟨b, hb1, hb2, hb3, hb4⟩)
          · refine .inl ⟨h1, fun ⟨h3, h4, h5⟩ => ?_⟩
            rcases List.mem_cons.mp h3 with rfl | h3
            · exact h5 hm
            · exact h2 ⟨h3, h4, h5⟩
          · exact .inr ⟨b, List.mem_cons_of_mem _ hb1, hb2, hb3, hb4⟩
        · rintro (⟨h1, h2⟩ | ⟨b, hb1, hb2, hb3, hb4⟩)
          · exact .inl ⟨h1, fun ⟨h3, h4, h5⟩ => h2 ⟨List.mem_cons_of_mem _ h3, h4, h5⟩⟩
          · rcases List.mem_cons.mp hb1 with rfl | hb1
            · rw [hb3] at hm; exact absurd hm hb4
            · exact .inr ⟨b, hb1, hb2, hb3, hb4⟩
      · rw [if_neg hm]
        have hoff := low_off f hf a ha16 hb
        have hne : lowM f a ≠ a := fun e => by rw [e, hb] at hoff; cases hoff
        -- what the new board has
        have mem1 : ∀ y, y ∈ ms.filter (fun x => !(x == a)) ++ [lowM f a] ↔ (y ∈ ms ∧ y ≠ a) ∨ y = lowM f a := fun y => by simp
        have low1 : ∀ b, b ∈ rem → hasF f b = true → (lowM f b ∈ ms.filter (fun x => !(x == a)) ++ [lowM f a] ↔ lowM f b ∈ ms) := fun b hbr hbf => by
          rw [mem1]
          have h1 : lowM f b ≠ a := fun e => by
            have := low_off f hf b (h16' b hbr) hbf
            rw [e, hb] at this
            cases this
          have h2 : lowM f b ≠ lowM f a := fun e => ha (by rw [← low_inj f hf b (h16' b hbr) hbf a ha16 hb e]; exact hbr)
          constructor
          · rintro (⟨h, _⟩ | h)
            · exact h
            · exact absurd h h2
          · exact fun h => .inl ⟨h, h1⟩
        constructor
        · rintro (⟨h1, h2⟩ | ⟨b, hb1, hb2, hb3, hb4⟩)
          · rcases (mem1 x).mp h1 with ⟨h3, h4⟩ | rfl
            · refine .inl ⟨h3, fun ⟨h5, h6, h7⟩ => ?_⟩
              rcases List.mem_cons.mp h5 with rfl | h5
              · exact h4 rfl
              · exact h2 ⟨h5, h6, fun h => h7 ((low1 x h5 h6).mp h)⟩
            · exact .inr ⟨a, List.mem_cons_self .., hb, rfl, hm⟩
          · refine .inr ⟨b, List.mem_cons_of_mem _ hb1, hb2, hb3, fun h => hb4 ?_⟩
            rw [← hb3] at h ⊢
            exact (low1 b hb1 hb2).mpr h
        · rintro (⟨h1, h2⟩ | ⟨b, hb1, hb2, hb3, hb4⟩)
          · have hxa : x ≠ a := fun e => h2 (by subst e; exact ⟨List.mem_cons_self .., hb, hm⟩)
            refine .inl ⟨(mem1 x).mpr (.inl ⟨h1, hxa⟩), fun ⟨h5, h6, h7⟩ => h2 ⟨List.mem_cons_of_mem _ h5, h6, fun h => h7 ((low1 x h5 h6).mpr h)⟩⟩
          · rcases List.mem_cons.mp hb1 with rfl | hb1
            · refine .inl ⟨(mem1 x).mpr (.inr hb3.symm), fun ⟨_, h6, _⟩ => ?_⟩
              rw [← hb3, hoff] at h6; cases h6
            · refine .inr ⟨b, hb1, hb2, hb3, fun h => hb4 ?_⟩
              rw [← hb3] at h ⊢
              exact (low1 b hb1 hb2).mp h
    · rw [if_neg hb]
      have hb' : hasF f a = false := by simpa using hb
      constructor
      · rintro (⟨h1, h2⟩ | ⟨b, hb1, hb2, hb3, hb4⟩)
        · refine .inl ⟨h1, fun ⟨h3, h4, h5⟩ => ?_⟩
          rcases List.mem_cons.mp h3 with rfl | h3
          · exact hb h4
          · exact h2 ⟨h3, h4, h5⟩
        · exact .inr ⟨b, List.mem_cons_of_mem _ hb1, hb2, hb3, hb4⟩
      · rintro (⟨h1, h2⟩ | ⟨b, hb1, hb2, hb3, hb4⟩)
        · exact .inl ⟨h1, fun ⟨h3, h4, h5⟩ => h2 ⟨List.mem_cons_of_mem _ h3, h4, h5⟩⟩
        · rcases List.mem_cons.mp hb1 with rfl | hb1
          · exact absurd hb2 hb
          · exact .inr ⟨b, hb1, hb2, hb3, hb4⟩
noncomputable def stepB (f : Nat) (χ : Nat → Bool) (x : Nat) : Bool := if hasF f x = true then χ (lowM f x) && χ x else χ x || χ (x + f)
noncomputable def has (ms : List Nat) (x : Nat) : Bool := decide (x ∈ ms)
theorem up_facts : ∀ f, f ∈ flags → ∀ x, x < 16 → hasF f x = false → x + f < 16 ∧ hasF f (x + f) = true ∧ lowM f (x + f) = x := by decide +kernel
theorem low_up : ∀ f, f ∈ flags → ∀ a, a < 16 → hasF f a = true → a = lowM f a + f ∧ lowM f a < 16 := by decide +kernel
theorem inner_step {f : Nat} (hf : f ∈ flags) {q ms : List Nat} (hp : q.Perm ms) (hn : ms.Nodup) (h16 : ∀ a ∈ ms, a < 16) {x : Nat} (hx : x < 16) : has (innerM f q [] ms).2 x = stepB f (has ms) x := by
  have hqn : q.Nodup := hp.nodup_iff.mpr hn
  have hq16 : ∀ a ∈ q, a < 16 := fun a ha => h16 a (hp.subset ha)
  have key := inner_mem hf q [] ms hqn hq16 x
  have hqm : ∀ a, a ∈ q ↔ a ∈ ms := fun a => hp.mem_iff
  unfold stepB has
  by_cases hb : hasF f x = true
  · rw [if_pos hb]
    have : x ∈ (innerM f q [] ms).2 ↔ lowM f x ∈ ms ∧ x ∈ ms := by
      rw [key]
      constructor
      · rintro (⟨h1, h2⟩ | ⟨a, h1, h2, h3, h4⟩)
        · refine ⟨Classical.byContradiction fun h => h2 ⟨(hqm x).mpr h1, hb, h⟩, h1⟩
        · have := low_off f hf a (hq16 a h1) h2
          rw [h3, hb] at this; cases this
      · rintro ⟨h1, h2⟩
        exact .inl ⟨h2, fun ⟨_, _, h⟩ => h h1⟩
    rw [decide_eq_decide.mpr this, Bool.decide_and]
  · have hb' : hasF f x = false := by simpa using hb
    rw [if_neg hb]
    obtain ⟨u1, u2, u3⟩ := up_facts f hf x hx hb'
    have : x ∈ (innerM f q [] ms).2 ↔ x ∈ ms ∨ x + f ∈ ms := by
      rw [key]
      constructor
      · rintro (⟨h1, _⟩ | ⟨a, h1, h2, h3, _⟩)
        · exact .inl h1
        · have := (low_up f hf a (hq16 a h1) h2).1
          rw [h3] at this
          rw [← this]
          exact .inr ((hqm a).mp h1)
      · rintro (h1 | h1)
        · exact .inl ⟨h1, fun ⟨_, h, _⟩ => hb h⟩
        · by_cases hm : x ∈ ms
          · exact .inl ⟨hm, fun ⟨_, h, _⟩ => hb h⟩
          · exact .inr ⟨x + f, (hqm _).mpr h1, u2, u3, hm⟩
    rw [decide_eq_decide.mpr this, Bool.decide_or]
theorem low16 : ∀ f, f ∈ flags → ∀ a, a < 16 → lowM f a < 16 := fun f _ a ha => Nat.lt_of_le_of_lt (Nat.sub_le _ _) ha
theorem inner_16 {f : Nat} (hf : f ∈ flags) {q ms : List Nat} (hp : q.Perm ms) (hn : ms.Nodup) (h16 : ∀ a ∈ ms, a < 16) : ∀ x ∈ (innerM f q [] ms).2, x < 16 := fun x hx => by
  have hqn : q.Nodup := hp.nodup_iff.mpr hn
  have hq16 : ∀ a ∈ q, a < 16 := fun a ha => h16 a (hp.subset ha)
  rcases (inner_mem hf q [] ms hqn hq16 x).mp hx with ⟨h, _⟩ | ⟨a, h1, _, h3, _⟩
  · exact h16 x h
  · rw [← h3]; exact low16 f hf a (hq16 a h1)
noncomputable def stepsB : List Nat → (Nat → Bool) → Nat → Bool
  | [], χ => χ
  | f :: fs, χ => stepsB fs (stepB f χ)
theorem stepB_congr {f : Nat} (hf : f ∈ flags) {χ ψ : Nat → Bool} (h : ∀ x, x < 16 → χ x = ψ x) {x : Nat} (hx : x < 16) : stepB f χ x = stepB f ψ x := by
  unfold stepB
  split
  · rw [h _ (low16 f hf x hx), h x hx]
  · rename_i hb
    rw [h x hx, h _ (up_facts f hf x hx (by simpa using hb)).1]
theorem stepsB_congr : ∀ (fs : List Nat), (∀ f ∈ fs, f ∈ flags) → ∀ (χ ψ : Nat → Bool), (∀ x, x < 16 → χ x = ψ x) → ∀ x, x < 16 → stepsB fs χ x = stepsB fs ψ x
  | [], _, _, _, h, x, hx => h x hx
  | f :: fs, hf, χ, ψ, h, x, hx => stepsB_congr fs (fun g hg => hf g (List.mem_cons_of_mem _ hg)) _ _ (fun y hy => stepB_congr (hf f (List.mem_cons_self ..)) h hy) x hx
theorem flags_has : ∀ (fs : List Nat), (∀ f ∈ fs, f ∈ flags) → ∀ (q ms : List Nat), q.Perm ms → ms.Nodup → (∀ a ∈ ms, a < 16) →
    (∀ x, x < 16 → has (flagsM fs (q, ms)).2 x = stepsB fs (has ms) x) ∧ (flagsM fs (q, ms)).2.Nodup ∧ (flagsM fs (q, ms)).1.Perm (flagsM fs (q, ms)).2 ∧ ∀ x ∈ (flagsM fs (q, ms)).2, x < 16
  | [], _, q, ms, hp, hn, h16 => ⟨fun _ _ => rfl, hn, hp, h16⟩
  | f :: fs, hf, q, ms, hp, hn, h16 => by
    have hff := hf f (List.mem_cons_self ..)
    obtain ⟨h1, h2⟩ := innerM_perm (f := f) q [] ms (by simpa using hp) hn
    obtain ⟨i1, i2, i3, i4⟩ := flags_has fs (fun g hg => hf g (List.mem_cons_of_mem _ hg)) (innerM f q [] ms).1 (innerM f q [] ms).2 h1 h2 (inner_16 hff hp hn h16)
    refine ⟨fun x hx => ?_, i2, i3, i4⟩
    have := i1 x hx
    refine this.trans ?_
    exact stepsB_congr fs (fun g hg => hf g (List.mem_cons_of_mem _ hg)) _ _ (fun y hy => inner_step hff hp hn h16 hy) x hx
/-! ## the game -/
noncomputable def lvlB (c : Bool) : List Bool → List Bool
  | x :: y :: l => (if c then x && y else x || y) :: lvlB c l
  | _ => []
noncomputable def tb (k j : Nat) : Bool := k / 2 ^ j % 2 == 1
noncomputable def gameB (k : Nat) (l : List Bool) : List Bool := lvlB (tb k 3) (lvlB (tb k 2) (lvlB (tb k 1) (lvlB (tb k 0) l)))
noncomputable def wonB (k : Nat) (l : List Bool) : Bool := (gameB k l).headD false
noncomputable def mk4 (fs : List Nat) (k : Nat) : Nat := (if tb k 0 then fs.getD 0 0 else 0) + (if tb k 1 then fs.getD 1 0 else 0) + (if tb k 2 then fs.getD 2 0 else 0) + (if tb k 3 then fs.getD 3 0 else 0)
noncomputable def orders : List (List Nat) := [[1,2,4,8],[1,2,8,4],[1,4,2,8],[1,4,8,2],[1,8,2,4],[1,8,4,2],[2,1,4,8],[2,1,8,4],[2,4,1,8],[2,4,8,1],[2,8,1,4],[2,8,4,1],[4,1,2,8],[4,1,8,2],[4,2,1,8],[4,2,8,1],[4,8,1,2],[4,8,2,1],[8,1,2,4],[8,1,4,2],[8,2,1,4],[8,2,4,1],[8,4,1,2],[8,4,2,1]]
theorem orders_flags : ∀ fs ∈ orders, fs.length = 4 ∧ ∀ f ∈ fs, f ∈ flags := by decide +kernel
theorem mk4_lt : ∀ fs ∈ orders, ∀ k, k < 16 → mk4 fs k < 16 := by decide +kernel
theorem mk4_inj : ∀ fs ∈ orders, ∀ k, k < 16 → ∀ j, j < 16 → mk4 fs k = mk4 fs j → k = j := by decide +kernel
theorem mk4_onto : ∀ fs ∈ orders, ∀ x, x < 16 → ∃ k, k < 16 ∧ mk4 fs k = x := by decide +kernel
theorem steps_game (χ : Nat → Bool) : ∀ fs ∈ orders, ∀ k, k < 16 → stepsB fs χ (mk4 fs k) = wonB k ((List.range 16).map fun j => χ (mk4 fs j)) := by
  intro fs hfs
  simp only [orders, List.mem_cons, List.not_mem_nil, or_false] at hfs
  rcases hfs with rfl | rfl | rfl | rfl | rfl | rfl | rfl | rfl | rfl | rfl | rfl | rfl | rfl | rfl | rfl | rfl | rfl | rfl | rfl | rfl | rfl | rfl | rfl | rfl
  all_goals
    refine all16 ?_ ?_ ?_ ?_ ?_ ?_ ?_ ?_ ?_ ?_ ?_ ?_ ?_ ?_ ?_ ?_ <;> kernel_rfl
end Mine
end
section
open PySem PySem.Spec PySem.Calls PySem.W PySem.W.X PyProof.Rows
set_option Elab.async false
set_option maxRecDepth 100000
set_option maxHeartbeats 0
namespace Mine
noncomputable def dueM (fs : List Nat) (b : Nat → Bool) : List Nat := ((List.range 16).filter fun k => wonB k ((List.range 16).map b)).map (mk4 fs)
theorem dueM_nodup {fs : List Nat} (h : fs ∈ orders) (b : Nat → Bool) : (dueM fs b).Nodup := by
  unfold dueM
  rw [List.nodup_iff_pairwise_ne, List.pairwise_map]
  have h1 : ((List.range 16).filter fun k => wonB k ((List.range 16).map b)).Nodup := List.nodup_range.filter _
  rw [List.nodup_iff_pairwise_ne] at h1
  refine List.Pairwise.imp_of_mem (fun {a c} ha hc hne e => hne ?_) h1
  exact mk4_inj fs h a (List.mem_range.mp (List.mem_filter.mp ha).1) c (List.mem_range.mp (List.mem_filter.mp hc).1) e
theorem board_due {fs : List Nat} (h : fs ∈ orders) (b : Nat → Bool) {ms : List Nat} (hn : ms.Nodup) (hm : ∀ x, x ∈ ms ↔ ∃ k, k < 16 ∧ b k = true ∧ mk4 fs k = x) :
    (flagsM fs (ms, ms)).2.Perm (dueM fs b) ∧ (flagsM fs (ms, ms)).1.Perm (dueM fs b) := by
  have h16 : ∀ a ∈ ms, a < 16 := fun a ha => by
    obtain ⟨k, hk, _, rfl⟩ := (hm a).mp ha
    exact mk4_lt fs h k hk
  obtain ⟨f1, f2, f3, f4⟩ := flags_has fs (orders_flags fs h).2 ms ms (List.Perm.refl _) hn h16
  have hb : ∀ j, j < 16 → has ms (mk4 fs j) = b j := fun j hj => by
    unfold has
    cases hbj : b j with
    | true => exact decide_eq_true ((hm _).mpr ⟨j, hj, hbj, rfl⟩)
    | false =>
      refine decide_eq_false fun hc => ?_
      obtain ⟨k, hk, hbk, e⟩ := (hm _).mp hc
      rw [mk4_inj fs h k hk j hj e, hbj] at hbk
      cases hbk
  have hl : ((List.range 16).map fun j => has ms (mk4 fs j)) = (List.range 16).map b := List.map_congr_left fun j hj => hb j (List.mem_range.mp hj)
  have key : (flagsM fs (ms, ms)).2.Perm (dueM fs b) := by
    rw [List.perm_ext_iff_of_nodup f2 (dueM_nodup h b)]
    intro x
    have mem : ∀ k, k < 16 → (mk4 fs k ∈ (flagsM fs (ms, ms)).2 ↔ wonB k ((List.range 16).map b) = true) := fun k hk => by
      have e := f1 _ (mk4_lt fs h k hk)
      rw [steps_game (has ms) fs h k hk, hl] at e
      unfold has at e
      rw [← e]
      exact (decide_eq_true_iff).symm
    constructor
    · intro hx
      obtain ⟨k, hk, rfl⟩ := mk4_onto fs h x (f4 x hx)
      exact List.mem_map.mpr ⟨k, List.mem_filter.mpr ⟨List.mem_range.mpr hk, (mem k hk).mp hx⟩, rfl⟩
    · intro hx
      obtain ⟨k, hk, rfl⟩ := List.mem_map.mp hx
      obtain ⟨h1, h2⟩ := List.mem_filter.mp hk
      exact (mem k (List.mem_range.mp h1)).mpr h2
  exact ⟨key, f3.trans key⟩
/-! ## what is read -/
theorem addM_mem : ∀ (l ms : List Nat) (x : Nat), x ∈ l.foldl addM ms ↔ x ∈ ms ∨ x ∈ l
  | [], ms, x => by simp
  | a :: l, ms, x => by
    rw [List.foldl_cons, addM_mem l _ x]
    unfold addM
    split
    · rename_i h
      constructor
      · rintro (h1 | h1)
        · exact .inl h1
        · exact .inr (List.mem_cons_of_mem _ h1)
      · rintro (h1 | h1)
        · exact .inl h1
        · rcases List.mem_cons.mp h1 with rfl | h1
          · exact .inl h
          · exact .inr h1
    · simp [or_assoc]
/-! ## the ends of lines -/
noncomputable def tens (l : List Nat) : Int := (l.map fun c => if c = 10 then (1 : Int) else 0).sum
theorem tens_append (a b : List Nat) : tens (a ++ b) = tens a + tens b := by simp [tens]
theorem tens_cons (c : Nat) (l : List Nat) : tens (c :: l) = (if c = 10 then 1 else 0) + tens l := by simp [tens]
theorem spell_tens : ∀ a, a < 16 → ∀ q b, tens (spell ⟨a, q, b⟩) = 0 := by
  refine all16 ?_ ?_ ?_ ?_ ?_ ?_ ?_ ?_ ?_ ?_ ?_ ?_ ?_ ?_ ?_ ?_ <;> (intro q b; cases q <;> rfl)
theorem up_tens (n : Int) (c : Nat) : up n (Nat.beq c 10) = n + if c = 10 then 1 else 0 := by
  unfold up
  by_cases h : c = 10
  · subst h; rfl
  · have : Nat.beq c 10 = false := by rw [← Bool.not_eq_true, Nat.beq_eq]; exact h
    rw [this, if_neg h]; simp
theorem lineP_tens : ∀ (p : List Nat) (n : Int), lineP n p = n + tens p
  | [], n => by simp [lineP, tens]
  | c :: p, n => by rw [lineP, lineP_tens p, up_tens, tens_cons, Int.add_assoc]
theorem lineAll_tens : ∀ (its : List It) (n : Int) (pend : List Nat), (∀ i ∈ its, ItOk i) → lineAll n pend its = n + tens (pend ++ textOf its)
  | [], n, pend, _ => by rw [lineAll, lineP_tens, textOf, List.append_nil]
  | i :: its, n, pend, h => by
    rw [lineAll, lineAll_tens its _ _ fun j hj => h j (List.mem_cons_of_mem _ hj), lineP_tens, textOf]
    obtain ⟨a, q, b⟩ := i
    have ha : a < 16 := (h ⟨a, q, b⟩ (List.mem_cons_self ..)).1
    simp only [tens_append, tens_cons, spell_tens a ha]
    cases q with
    | true => simp only [lineI, pendOf, if_true, tens_cons, tens]; simp; omega
    | false => simp only [lineI, pendOf, Bool.false_eq_true, if_false, up_tens, tens]; simp; omega
end Mine
end
section
open PySem PySem.Spec PySem.Calls PySem.W PySem.W.X PyProof.Rows
set_option Elab.async false
set_option maxRecDepth 100000
set_option maxHeartbeats 0
namespace Mine
/-! ## slices with known bounds -/
noncomputable def partV (o : Option Int) (t : Tok) : Value := match o with
  | some i => .int i t
  | none => .none
theorem partV_is (o : Option Int) (t : Tok) : IsPart (partV o t) o := by
  cases o with
  | none => exact .none
  | some i => exact .int i t
noncomputable def slQ (vs out : List Value) (lo hi st : Option Int) (j k : Nat) : OracleAt := QF [j, k] (fun _ ps => both (two ps) (some (fTok (obAt 1 ps) 0, fTok (obAt 1 ps) 1, fTok (obAt 1 ps) 2))) (fun p => sliceS vs out (partV lo p.2.1) (partV hi p.2.2.1) (partV st p.2.2.2) p.1) 990 9000
theorem slQ_ok {w : World} {T₀ : CT} {s₀ : Shared} {vs out : List Value} {lo hi st : Option Int} (h0 : st ≠ some 0) (hl : vs.length ≤ 10000) (ho : slicePick vs.toArray lo hi st = out.toArray) {j k : Nat} (h : j ≠ k) : OracleOk (B w) T₀ s₀ (slQ vs out lo hi st j k) :=
  lift_ok (F := fun _ => True) (by simp [h]) (fun _ _ _ => trivial) (fun p => slice_ctr w (partV_is _ _) (partV_is _ _) (partV_is _ _) h0 hl ho p.1) (fun _ => Nat.le_refl _) (fun _ => Nat.le_refl _)
/-! ## any number by a small one -/
noncomputable def small (y : Int) : Nat := y.toNat - 1
noncomputable def posI (n : Nat) : Int := Int.ofNat (n % 100000 + 1)
theorem posI_pos (n : Nat) : 0 < posI n := by unfold posI; simp only [Int.ofNat_eq_natCast]; omega
theorem posI_lt (n : Nat) : posI n < 1000000 := by unfold posI; simp only [Int.ofNat_eq_natCast]; omega
noncomputable def divAnyQ : OracleAt := pureQ "int.__floordiv__" (fun c => match exII c with | some a => some (a.1, small a.2.1, a.2.2) | none => none) (fun a : (Int × Tok) × Nat × Tok => argII (a.1, (posI a.2.1, a.2.2))) fun a => .int (a.1.1 / posI a.2.1)
noncomputable def modAnyQ : OracleAt := pureQ "int.__mod__" (fun c => match exII c with | some a => some (a.1, small a.2.1, a.2.2) | none => none) (fun a : (Int × Tok) × Nat × Tok => argII (a.1, (posI a.2.1, a.2.2))) fun a => .int (a.1.1 % posI a.2.1)
section
variable {w : World} {T₀ : CT} {s₀ : Shared}
theorem divAnyQ_ok : OracleOk (B w) T₀ s₀ divAnyQ :=
  pure_ok F.entry_int_floordiv (by decide +kernel) (fun a => by
    have := PySem.AutoIntG4.int___floordiv___int_int_1 a.1.1 a.1.2 (posI a.2.1) a.2.2 (by have := posI_pos a.2.1; simp; omega) (small_div (posI_pos _) (posI_lt _))
    rw [Int.fdiv_eq_ediv_of_nonneg _ (Int.le_of_lt (posI_pos _))] at this
    exact this) fun _ => trivial
theorem modAnyQ_ok : OracleOk (B w) T₀ s₀ modAnyQ :=
  pure_ok F.entry_int_mod (by decide +kernel) (fun a => by
    have := PySem.AutoIntG6.int___mod___int_int_1 a.1.1 a.1.2 (posI a.2.1) a.2.2 (by have := posI_pos a.2.1; simp; omega)
    rw [Int.fmod_eq_emod_of_nonneg _ (Int.le_of_lt (posI_pos _))] at this
    exact this) fun _ => trivial
end
/-! ## the order -/
noncomputable def popAt (i : Nat) (l : List Nat) : Nat × List Nat := (l.getD i 0, l.eraseIdx i)
noncomputable def ordM (m : Nat) : List Nat :=
  let a := popAt (m % 4) [1, 2, 4, 8]
  let b := popAt (m / 4 % 3) a.2
  let c := popAt (m / 12 % 2) b.2
  [a.1, b.1, c.1, c.2.getD 0 0]
theorem ordM_ok : ∀ m, m < 24 → ordM m ∈ orders := by decide +kernel
theorem all24 {p : Nat → Prop} (h0 : p 0) (h1 : p 1) (h2 : p 2) (h3 : p 3) (h4 : p 4) (h5 : p 5) (h6 : p 6) (h7 : p 7) (h8 : p 8) (h9 : p 9) (h10 : p 10) (h11 : p 11) (h12 : p 12) (h13 : p 13) (h14 : p 14) (h15 : p 15) (h16 : p 16) (h17 : p 17) (h18 : p 18) (h19 : p 19) (h20 : p 20) (h21 : p 21) (h22 : p 22) (h23 : p 23) : ∀ a, a < 24 → p a := fun a ha => by
  rcases a with _ | _ | _ | _ | _ | _ | _ | _ | _ | _ | _ | _ | _ | _ | _ | _ | _ | _ | _ | _ | _ | _ | _ | _ | a
  all_goals first | assumption | exact absurd ha (by omega)
end Mine
end
section
open PySem PySem.Spec PySem.Calls PySem.W PySem.W.X PyProof.Rows
set_option Elab.async false
set_option maxRecDepth 100000
set_option maxHeartbeats 0
namespace Mine
noncomputable def ordO (Z : Int) (m : Nat) : List OracleAt := [knQ "int.__mod__" Z 4 (Int.ofNat (m % 4)), knQ "int.__floordiv__" Z 4 (Z / 4), knQ "int.__mod__" (Z / 4) 3 (Int.ofNat (m / 4 % 3)), knQ "int.__floordiv__" Z 12 (Z / 12), knQ "int.__mod__" (Z / 12) 2 (Int.ofNat (m / 12 % 2))]
noncomputable def ordT (m : Nat) (ν : Nat → Nat) : List (Nat × Tok) := [((ordM m).getD 0 0, ν 3), ((ordM m).getD 1 0, ν 4), ((ordM m).getD 2 0, ν 5), ((ordM m).getD 3 0, ν 6)]
theorem ordT_fst (m : Nat) (ν : Nat → Nat) : (ordT m ν).map Prod.fst = ordM m := rfl
noncomputable def orderS (Z : Int) (m : Nat) (tk : Tok) : Job where
  code := .call (.ref 265) ⟨[.int Z tk], []⟩
  pre := []
  post := fun _ => []
  new := fun ν => [(ν 2, lst (ords (ordT m ν)) 0)]
  r := fun ν => .ok (.ret (.ref (ν 2)))
  d := 400
  u := 3000
theorem order_ctr (w : World) {Z : Int} (hZ : 0 ≤ Z) (F : Shared → Prop) (tk : Tok) : ∀ m, m < 24 → Z % 24 = Int.ofNat m → Ctr (B w) F (orderS Z m tk) := by
  have ok : ∀ m, Z % 24 = Int.ofNat m → ∀ T s, Par.Ok ⟨(B w).prog, (B w).w, (B w).kt, fun j => (ordO Z m)[j]?⟩ T s := fun m hm T s => by
    simp only [Int.ofNat_eq_natCast] at hm
    exact mk_ok (all_cons (modQ_ok (by decide) (by simp only [Int.ofNat_eq_natCast]; omega)) (all_cons (fdQ_ok (by decide) (by decide) rfl) (all_cons (modQ_ok (by decide) (by simp only [Int.ofNat_eq_natCast]; omega)) (all_cons (fdQ_ok (by decide) (by decide) rfl) (all_one (modQ_ok (by decide) (by simp only [Int.ofNat_eq_natCast]; omega)))))))
  refine all24 ?_ ?_ ?_ ?_ ?_ ?_ ?_ ?_ ?_ ?_ ?_ ?_ ?_ ?_ ?_ ?_ ?_ ?_ ?_ ?_ ?_ ?_ ?_ ?_
  all_goals
    intro hm
    refine ctr_of_run (V := B w) (n := 119) (H := 115623848772863550708983505514580232818346480572103981213607347461068848359239768121627394204536259852311470490204793929353144201622853505497634096567400477625417729) (J := [2]) (xs := fun G => [xA 2 G, seqTok (obG 2 G) 0, seqTok (obG 2 G) 1, seqTok (obG 2 G) 2, seqTok (obG 2 G) 3]) (nodupB rfl) (fun s _ _ => ok _ hm _ s) ?_
    intro base tb ν; unfold Runs; kernel_rfl
noncomputable def orderQ (Z : Int) (m : Nat) : OracleAt := QF [] (fun c _ => some (callTok 0 c)) (orderS Z m) 400 3000
theorem orderQ_ok {w : World} {T₀ : CT} {s₀ : Shared} {Z : Int} (hZ : 0 ≤ Z) {m : Nat} (hm : m < 24) (h : Z % 24 = Int.ofNat m) : OracleOk (B w) T₀ s₀ (orderQ Z m) :=
  lift_ok (F := fun _ => True) List.nodup_nil (fun _ _ _ => trivial) (fun t => order_ctr w hZ _ t m hm h) (fun _ => Nat.le_refl _) (fun _ => Nat.le_refl _)
end Mine
end
section
open PySem PySem.Spec PySem.Calls PySem.W PySem.W.X PyProof.Rows
set_option Elab.async false
set_option maxRecDepth 100000
set_option maxHeartbeats 0
namespace Mine
/-! ## the bits -/
structure CL where
  f : Addr
  D : Addr
  it : Addr
  acc : Addr
noncomputable def lawCells (f : Addr) : List (Str × Addr) := [("table", f + 1), ("order", f + 2), ("bits", f + 3), ("numbers", f + 4), ("lexer", f + 5)]
noncomputable def bitT (T : Int) (k : Nat) : Int := T / Int.ofNat (2 ^ k) % 2
noncomputable def biO (ac : List Value) : List OracleAt := [divAnyQ, modAnyQ, appendQ ac 2]
noncomputable def biPre (w : World) (y : CL) (g : Nat → Nat) (kv : List (Str × Value)) (k : Nat) (ac : List Value) (m : Nat) (T : Int) (tT : Tok) : List (Addr × Obj) := [(y.D, dct w g kv), (y.it, rangeIt (Int.ofNat k) (Int.ofNat (16 - k)) 1), (y.acc, lst ac m), (y.f + 1, cellObj (.int T tT))]
noncomputable def KvK (kv : List (Str × Value)) : Prop := kv = [] ∨ ∃ v, kv = [(("k" : Str), v)]
section
variable {w : World} {y : CL} {g : Nat → Nat} {ac : List Value} {m : Nat} {T : Int} {tT : Nat} {kv : List (Str × Value)}
noncomputable def biCode (w : World) (y : CL) : Code := compCode w 294 0 y.it y.acc y.f y.D [("table", y.f + 1)]
theorem bi_run (hk : KvK kv) (base tb : Nat) (ν : Nat → Nat) : ∀ k, k < 16 → RunsL [0, 1, 2, 3] ((fun _ _ ν G => [tokV (valIn (obG 0 G) 0), Nat.add (ν 18) 706] ++ xK 0 2 G) base tb ν) (fun _ => .again (biCode w y))
    (fun ν => biPre w y (fun i => ν (i + 2)) [("k", .int (Int.ofNat k) (ν 0))] (k + 1) (ac ++ [.int (bitT T k) (ν 1)]) (m + 1) T tT)
    (goes (mkV w (biO ac)) 44 832412738710273825300167808654139595797214730200598416266887680 (biCode w y) (stay (biPre w y g kv k ac m T tT) base tb) 316 1020 ν) := by
  rcases hk with rfl | ⟨v, rfl⟩ <;> (refine all16 ?_ ?_ ?_ ?_ ?_ ?_ ?_ ?_ ?_ ?_ ?_ ?_ ?_ ?_ ?_ ?_ <;> (unfold RunsL; kernel_rfl))
theorem biE_run {v : Value} (base tb : Nat) (ν : Nat → Nat) : RunsL [0, 2, 3] (xK 0 2) (fun _ => .ret (.ok .next))
    (fun ν => [(y.D, dct w ν [("k", v)]), (y.acc, lst ac m), (y.f + 1, cellObj (.int T tT))])
    (goes (mkV w []) 17 110825144779343397376 (biCode w y) (stay (biPre w y g [("k", v)] 16 ac m T tT) base tb) 316 1020 ν) := by
  unfold RunsL; kernel_rfl
end
theorem bv_succ (b : Nat → Int) (t : Nat → Tok) (n : Nat) (u : Tok) : bv b t n ++ [.int (b n) u] = bv b (fun i => if i = n then u else t i) (n + 1) := by
  unfold bv
  rw [List.range_succ, List.map_append]
  congr 1
  · exact List.map_congr_left fun i hi => by simp only [if_neg (Nat.ne_of_lt (List.mem_range.mp hi))]
  · simp
structure BZ where
  t : Nat → Tok
  m : Nat
  g : Nat → Nat
  v : Value
theorem bi_cg (w : World) (y : CL) (T : Int) (tT : Tok) : ∀ (j k : Nat), k + j = 16 → ∀ (g : Nat → Nat) (kv : List (Str × Value)) (t : Nat → Tok) (m : Nat), ((kv = [] ∧ k = 0) ∨ ∃ v, kv = [(("k" : Str), v)]) →
    Cg (B w) (biCode w y) (biPre w y g kv k (bv (bitT T) t k) m T tT) (fun _ : BZ => True) (fun z => [(y.D, dct w z.g [("k", z.v)]), (y.acc, lst (bv (bitT T) z.t 16) z.m), (y.f + 1, cellObj (.int T tT))]) (fun _ => .ok .next) 310 1010
  | 0, k, h, g, kv, t, m, hk => by
    obtain rfl : k = 16 := by omega
    obtain ⟨v, rfl⟩ : ∃ v, kv = [(("k" : Str), v)] := by
      rcases hk with ⟨_, h⟩ | h
      · omega
      · exact h
    rw [← List.append_nil (biPre _ _ _ _ _ _ _ _ _)]
    exact bdone (d := 310) (u := 1010) (J := [0, 2, 3]) [] (fun _ _ _ => xK 0 2) (fun s _ Q hQ => by cases hQ) (fun base tb ν => biE_run base tb ν) (nodupB rfl) (fun ν => ⟨⟨t, m, ν, v⟩, trivial, by rw [List.append_nil], rfl⟩)
  | j + 1, k, h, g, kv, t, m, hk => by
    have hk16 : k < 16 := by omega
    have hk' : KvK kv := hk.imp And.left id
    rw [← List.append_nil (biPre _ _ _ _ _ _ _ _ _)]
    refine bturn (d := 310) (u := 1010) (J := [0, 1, 2, 3]) (biO (bv (bitT T) t k)) (fun _ _ ν G => [tokV (valIn (obG 0 G) 0), Nat.add (ν 18) 706] ++ xK 0 2 G) (fun s _ => all_cons divAnyQ_ok (all_cons modAnyQ_ok (all_one (appendQ_ok (by simp [bv]; omega) 2)))) (fun base tb ν => bi_run hk' base tb ν k hk16) (nodupB rfl) (fun _ => rfl) (fun ν => ?_)
    rw [List.append_nil, bv_succ]
    exact bi_cg w y T tT j (k + 1) (by omega) _ _ _ _ (.inr ⟨_, rfl⟩)
end Mine
end
section
open PySem PySem.Spec PySem.Calls PySem.W PySem.W.X PyProof.Rows
set_option Elab.async false
set_option maxRecDepth 100000
set_option maxHeartbeats 0
namespace Mine
/-! ## the given words -/
structure GV where
  f : Addr
  D : Addr
  it : Addr
  acc : Addr
  aB : Addr
  aN : Addr
  b : Nat → Int
  tb : Nat → Tok
  mb : Nat
  ms : Nat → Nat
  tn : Nat → Tok
  mn : Nat
noncomputable def giRest (y : GV) : List (Addr × Obj) := [(y.f + 3, cellObj (.ref y.aB)), (y.f + 4, cellObj (.ref y.aN)), (y.aB, lst (bv y.b y.tb 16) y.mb), (y.aN, lst (bv (fun k => N (y.ms k)) y.tn 16) y.mn)]
noncomputable def giPre (w : World) (y : GV) (g : Nat → Nat) (kv : List (Str × Value)) (k : Nat) (ac : List Value) (m : Nat) : List (Addr × Obj) := [(y.D, dct w g kv), (y.it, rangeIt (Int.ofNat k) (Int.ofNat (16 - k)) 1), (y.acc, lst ac m)] ++ giRest y
noncomputable def giCode (w : World) (y : GV) : Code := compCode w 294 3 y.it y.acc y.f y.D [("numbers", y.f + 4), ("bits", y.f + 3)]
noncomputable def gi1O (y : GV) (k : Nat) (ac : List Value) : List OracleAt := [ifQ (y.b k) true, wordQ (y.ms k), appendQ ac 2]
section
variable {w : World} {y : GV} {g : Nat → Nat} {ac : List Value} {m : Nat} {kv : List (Str × Value)}
theorem gi1_run (hk : KvK kv) (base tb : Nat) (ν : Nat → Nat) : ∀ k, k < 16 → RunsL [0, 1, 2, 3, 4, 5, 6] ((fun _ _ ν G => [tokV (valIn (obG 0 G) 0), ν 18] ++ xK 0 2 G) base tb ν) (fun _ => .again (giCode w y))
    (fun ν => giPre w y (fun i => ν (i + 2)) [("k", .int (Int.ofNat k) (ν 0))] (k + 1) (ac ++ [.str (W (y.ms k)) (ν 1)]) (m + 1))
    (goes (mkV w (gi1O y k ac)) 62 1106466316341695962339924395038312753118857847709694671881038848467888548562644283070201385843687936 (giCode w y) (stay (giPre w y g kv k ac m) base tb) 316 1020 ν) := by
  rcases hk with rfl | ⟨v, rfl⟩ <;> (refine all16 ?_ ?_ ?_ ?_ ?_ ?_ ?_ ?_ ?_ ?_ ?_ ?_ ?_ ?_ ?_ ?_ <;> (unfold RunsL; kernel_rfl))
theorem gi0_run (hk : KvK kv) (base tb : Nat) (ν : Nat → Nat) : ∀ k, k < 16 → RunsL [0, 1, 2, 3, 4, 5, 6] (fun G => [tokV (valIn (obG 0 G) 0), 0] ++ xK 0 2 G) (fun _ => .again (giCode w y))
    (fun ν => giPre w y (fun i => ν (i + 2)) [("k", .int (Int.ofNat k) (ν 0))] (k + 1) ac m)
    (goes (mkV w [ifQ (y.b k) false]) 40 829180177959455806208195224386018298929810690071700719286616576 (giCode w y) (stay (giPre w y g kv k ac m) base tb) 316 1020 ν) := by
  rcases hk with rfl | ⟨v, rfl⟩ <;> (refine all16 ?_ ?_ ?_ ?_ ?_ ?_ ?_ ?_ ?_ ?_ ?_ ?_ ?_ ?_ ?_ ?_ <;> (unfold RunsL; kernel_rfl))
theorem giE_run {v : Value} (base tb : Nat) (ν : Nat → Nat) : RunsL [0, 2, 3, 4, 5, 6] (xK 0 2) (fun _ => .ret (.ok .next))
    (fun ν => [(y.D, dct w ν [("k", v)]), (y.acc, lst ac m)] ++ giRest y)
    (goes (mkV w []) 17 166165377000472052224 (giCode w y) (stay (giPre w y g [("k", v)] 16 ac m) base tb) 316 1020 ν) := by
  unfold RunsL; kernel_rfl
end
end Mine
end
section
open PySem PySem.Spec PySem.Calls PySem.W PySem.W.X PyProof.Rows
set_option Elab.async false
set_option maxRecDepth 100000
set_option maxHeartbeats 0
namespace Mine
noncomputable def bI (b : Bool) : Int := if b then 1 else 0
noncomputable def gmask (bb : Nat → Bool) (ms : Nat → Nat) (k : Nat) : List Nat := ((List.range k).filter bb).map ms
theorem gmask_succ (bb : Nat → Bool) (ms : Nat → Nat) (k : Nat) : gmask bb ms (k + 1) = if bb k = true then gmask bb ms k ++ [ms k] else gmask bb ms k := by
  unfold gmask
  rw [List.range_succ, List.filter_append]
  split
  · rename_i h; simp [h]
  · rename_i h; simp [h]
structure GZ where
  gw : List (Nat × Tok)
  m : Nat
  g : Nat → Nat
  v : Value
theorem gi_cg (w : World) (y : GV) (bb : Nat → Bool) (hb : ∀ i, i < 16 → y.b i = bI (bb i)) (h16 : ∀ i, i < 16 → y.ms i < 16) : ∀ (j k : Nat), k + j = 16 → ∀ (g : Nat → Nat) (kv : List (Str × Value)) (gw : List (Nat × Tok)) (m : Nat), gw.map Prod.fst = gmask bb y.ms k → ((kv = [] ∧ k = 0) ∨ ∃ v, kv = [(("k" : Str), v)]) →
    Cg (B w) (giCode w y) (giPre w y g kv k (wds gw) m) (fun z : GZ => z.gw.map Prod.fst = gmask bb y.ms 16) (fun z => [(y.D, dct w z.g [("k", z.v)]), (y.acc, lst (wds z.gw) z.m)] ++ giRest y) (fun _ => .ok .next) 310 1010
  | 0, k, h, g, kv, gw, m, hg, hk => by
    obtain rfl : k = 16 := by omega
    obtain ⟨v, rfl⟩ : ∃ v, kv = [(("k" : Str), v)] := by
      rcases hk with ⟨_, h⟩ | h
      · omega
      · exact h
    rw [← List.append_nil (giPre _ _ _ _ _ _ _)]
    exact bdone (d := 310) (u := 1010) (J := [0, 2, 3, 4, 5, 6]) [] (fun _ _ _ => xK 0 2) (fun s _ Q hQ => by cases hQ) (fun base tb ν => giE_run base tb ν) (nodupB rfl) (fun ν => ⟨⟨gw, m, ν, v⟩, hg, by rw [List.append_nil], rfl⟩)
  | j + 1, k, h, g, kv, gw, m, hg, hk => by
    have hk16 : k < 16 := by omega
    have hk' : KvK kv := hk.imp And.left id
    have hl : (wds gw).length ≤ 1000 := by
      have e := congrArg List.length hg
      have e2 : (gmask bb y.ms k).length ≤ k := by
        unfold gmask
        rw [List.length_map]
        exact Nat.le_trans (List.length_filter_le ..) (by simp)
      simp only [List.length_map] at e
      simp only [wds, List.length_map]
      omega
    rw [← List.append_nil (giPre _ _ _ _ _ _ _)]
    by_cases hbk : bb k = true
    · refine bturn (d := 310) (u := 1010) (J := [0, 1, 2, 3, 4, 5, 6]) (gi1O y k (wds gw)) (fun _ _ ν G => [tokV (valIn (obG 0 G) 0), ν 18] ++ xK 0 2 G) (fun s _ => all_cons (ifQ_ok (by rw [hb k hk16, hbk]; rfl)) (all_cons (word_ok (h16 k hk16)) (all_one (appendQ_ok hl 2)))) (fun base tb ν => gi1_run hk' base tb ν k hk16) (nodupB rfl) (fun _ => rfl) (fun ν => ?_)
      have e : wds gw ++ [.str (W (y.ms k)) (ν 1)] = wds (gw ++ [(y.ms k, ν 1)]) := by simp [wds]
      rw [List.append_nil, e]
      exact gi_cg w y bb hb h16 j (k + 1) (by omega) _ _ _ _ (by rw [gmask_succ, if_pos hbk, List.map_append, hg]; rfl) (.inr ⟨_, rfl⟩)
    · have hoff : (y.b k != 0) = false := by rw [hb k hk16, show bb k = false by simpa using hbk]; rfl
      refine bturn (d := 310) (u := 1010) (J := [0, 1, 2, 3, 4, 5, 6]) [ifQ (y.b k) false] (fun _ _ _ G => [tokV (valIn (obG 0 G) 0), 0] ++ xK 0 2 G) (fun s _ => all_one (ifQ_ok hoff)) (fun base tb ν => gi0_run hk' base tb ν k hk16) (nodupB rfl) (fun _ => rfl) (fun ν => ?_)
      rw [List.append_nil]
      exact gi_cg w y bb hb h16 j (k + 1) (by omega) _ _ _ _ (by rw [gmask_succ, if_neg hbk, hg]) (.inr ⟨_, rfl⟩)
end Mine
end
section
open PySem PySem.Spec PySem.Calls PySem.W PySem.W.X PyProof.Rows
set_option Elab.async false
set_option maxRecDepth 100000
set_option maxHeartbeats 0
namespace Mine
/-! ## what is due -/
noncomputable def duCode (w : World) (y : GV) : Code := compCode w 294 4 y.it y.acc y.f y.D [("numbers", y.f + 4), ("bits", y.f + 3)]
noncomputable def wonQ (y : GV) (k : Nat) (r : Bool) : OracleAt := QF [5] (fun c _ => some (callTok 1 c)) (fun tk => wonS y.aB y.mb k tk y.b y.tb r) 400 3000
noncomputable def du1O (y : GV) (k : Nat) (ac : List Value) : List OracleAt := [wonQ y k true, nameQ (y.ms k), wordQ (y.ms k), appendQ ac 2]
section
variable {w : World} {y : GV} {g : Nat → Nat} {ac : List Value} {m : Nat} {kv : List (Str × Value)}
theorem du1_run (hk : KvK kv) (base tb : Nat) (ν : Nat → Nat) : ∀ k, k < 16 → RunsL [0, 1, 2, 3, 4, 5, 6, 7] (fun G => [tokV (valIn (obG 0 G) 0), xA 7 G, seqTok (obG 7 G) 0, seqTok (obG 7 G) 1, 0] ++ xK 0 2 G) (fun _ => .again (duCode w y))
    (fun ν => giPre w y (fun i => ν (i + 5)) [("k", .int (Int.ofNat k) (ν 0))] (k + 1) (ac ++ [.ref (ν 1)]) (m + 1) ++ [(ν 1, tup [.str (P (y.ms k)) (ν 2), .str (W (y.ms k)) (ν 3)])])
    (goes (mkV w (du1O y k ac)) 78 312043807560430222486235983149562058913527228644834790283524855592345003377541853013163328876269174495098387300864 (duCode w y) (stay (giPre w y g kv k ac m) base tb) 316 1020 ν) := by
  rcases hk with rfl | ⟨v, rfl⟩ <;> (refine all16 ?_ ?_ ?_ ?_ ?_ ?_ ?_ ?_ ?_ ?_ ?_ ?_ ?_ ?_ ?_ ?_ <;> (unfold RunsL; kernel_rfl))
theorem du0_run (hk : KvK kv) (base tb : Nat) (ν : Nat → Nat) : ∀ k, k < 16 → RunsL [0, 1, 2, 3, 4, 5, 6] (fun G => [tokV (valIn (obG 0 G) 0), 0] ++ xK 0 2 G) (fun _ => .again (duCode w y))
    (fun ν => giPre w y (fun i => ν (i + 2)) [("k", .int (Int.ofNat k) (ν 0))] (k + 1) ac m)
    (goes (mkV w [wonQ y k false]) 35 2945839326218521806528192277253507901816899109376 (duCode w y) (stay (giPre w y g kv k ac m) base tb) 316 1020 ν) := by
  rcases hk with rfl | ⟨v, rfl⟩ <;> (refine all16 ?_ ?_ ?_ ?_ ?_ ?_ ?_ ?_ ?_ ?_ ?_ ?_ ?_ ?_ ?_ ?_ <;> (unfold RunsL; kernel_rfl))
theorem duE_run {v : Value} (base tb : Nat) (ν : Nat → Nat) : RunsL [0, 2, 3, 4, 5, 6] (xK 0 2) (fun _ => .ret (.ok .next))
    (fun ν => [(y.D, dct w ν [("k", v)]), (y.acc, lst ac m)] ++ giRest y)
    (goes (mkV w []) 17 166165377000472052224 (duCode w y) (stay (giPre w y g [("k", v)] 16 ac m) base tb) 316 1020 ν) := by
  unfold RunsL; kernel_rfl
theorem wonQ_ok {T₀ : CT} {s₀ : Shared} {k : Nat} (hk : k < 16) {r : Bool} (hr : (wonI k y.b == 1) = r) : OracleOk (B w) T₀ s₀ (wonQ y k r) :=
  lift_ok (F := fun _ => True) (by simp) (fun _ _ _ => trivial) (fun t => won_ctr hk hr _) (fun _ => Nat.le_refl _) (fun _ => Nat.le_refl _)
end
/-! ## the game in numbers -/
theorem best_and (x y : Bool) : bestI true (bI x) (bI y) = bI (x && y) := by cases x <;> cases y <;> rfl
theorem best_or (x y : Bool) : bestI false (bI x) (bI y) = bI (x || y) := by cases x <;> cases y <;> rfl
theorem lvl_b (c : Bool) : ∀ l : List Bool, lvlI c (l.map bI) = (lvlB c l).map bI
  | [] => rfl
  | [_] => rfl
  | x :: y :: l => by
    show bestI c (bI x) (bI y) :: lvlI c (l.map bI) = bI (if c then x && y else x || y) :: (lvlB c l).map bI
    rw [lvl_b c l]
    cases c
    · rw [best_or]; rfl
    · rw [best_and]; rfl
theorem tbk_eq (k j : Nat) : tbk k j = tb k j := by
  unfold tbk tb
  by_cases h : k / 2 ^ j % 2 = 1
  · rw [h]; rfl
  · have e : Nat.beq (k / 2 ^ j % 2) 1 = false := by rw [← Bool.not_eq_true, Nat.beq_eq]; exact h
    rw [e]; simp [h]
theorem won_b (bb : Nat → Bool) {b : Nat → Int} (hb : ∀ i, i < 16 → b i = bI (bb i)) : ∀ k, k < 16 → (wonI k b == 1) = wonB k ((List.range 16).map bb) := by
  intro k hk
  have e : (List.range 16).map b = ((List.range 16).map bb).map bI := by
    rw [List.map_map]
    exact List.map_congr_left fun i hi => hb i (List.mem_range.mp hi)
  unfold wonI wonB gameB
  rw [e, tbk_eq, tbk_eq, tbk_eq, tbk_eq, lvl_b, lvl_b, lvl_b, lvl_b]
  cases h : lvlB (tb k 3) (lvlB (tb k 2) (lvlB (tb k 1) (lvlB (tb k 0) ((List.range 16).map bb)))) with
  | nil => rfl
  | cons x l => cases x <;> rfl
end Mine
end
section
open PySem PySem.Spec PySem.Calls PySem.W PySem.W.X PyProof.Rows
set_option Elab.async false
set_option maxRecDepth 100000
set_option maxHeartbeats 0
namespace Mine
structure DZ where
  es : List Ent
  m : Nat
  g : Nat → Nat
  v : Value
noncomputable def dmask (y : GV) (k : Nat) : List Nat := gmask (fun i => wonI i y.b == 1) y.ms k
noncomputable def DZ.cells (w : World) (y : GV) (z : DZ) : List (Addr × Obj) := [(y.D, dct w z.g [("k", z.v)]), (y.acc, lst (vals z.es) z.m)] ++ giRest y
theorem du_cg (w : World) (y : GV) (h16 : ∀ i, i < 16 → y.ms i < 16) : ∀ (j k : Nat), k + j = 16 → ∀ (g : Nat → Nat) (kv : List (Str × Value)) (es : List Ent) (m : Nat), masks es = dmask y k → ((kv = [] ∧ k = 0) ∨ ∃ v, kv = [(("k" : Str), v)]) →
    Cg (B w) (duCode w y) (giPre w y g kv k (vals es) m ++ tups es) (fun z : DZ => masks z.es = dmask y 16) (fun z => z.cells w y ++ tups z.es) (fun _ => .ok .next) 310 1010
  | 0, k, h, g, kv, es, m, hg, hk => by
    obtain rfl : k = 16 := by omega
    obtain ⟨v, rfl⟩ : ∃ v, kv = [(("k" : Str), v)] := by
      rcases hk with ⟨_, h⟩ | h
      · omega
      · exact h
    exact bdone (d := 310) (u := 1010) (J := [0, 2, 3, 4, 5, 6]) [] (fun _ _ _ => xK 0 2) (fun s _ Q hQ => by cases hQ) (fun base tb ν => duE_run base tb ν) (nodupB rfl) (fun ν => ⟨⟨es, m, ν, v⟩, hg, List.Perm.refl _, rfl⟩)
  | j + 1, k, h, g, kv, es, m, hg, hk => by
    have hk16 : k < 16 := by omega
    have hk' : KvK kv := hk.imp And.left id
    have hl : (vals es).length ≤ 1000 := by
      have e := congrArg List.length hg
      have e2 : (dmask y k).length ≤ k := by
        unfold dmask gmask
        rw [List.length_map]
        exact Nat.le_trans (List.length_filter_le ..) (by simp)
      simp only [masks, List.length_map] at e
      simp only [vals, List.length_map]
      omega
    by_cases hbk : (wonI k y.b == 1) = true
    · refine bturn (d := 310) (u := 1010) (J := [0, 1, 2, 3, 4, 5, 6, 7]) (du1O y k (vals es)) (fun _ _ _ G => [tokV (valIn (obG 0 G) 0), xA 7 G, seqTok (obG 7 G) 0, seqTok (obG 7 G) 1, 0] ++ xK 0 2 G) (fun s _ => all_cons (wonQ_ok hk16 hbk) (all_cons (name_ok (h16 k hk16)) (all_cons (word_ok (h16 k hk16)) (all_one (appendQ_ok hl 2))))) (fun base tb ν => du1_run hk' base tb ν k hk16) (nodupB rfl) (fun _ => rfl) (fun ν => ?_)
      have e : vals es ++ [.ref (ν 1)] = vals (es ++ [⟨ν 1, y.ms k, ν 2, ν 3⟩]) := by simp [vals]
      rw [e]
      refine (du_cg w y h16 j (k + 1) (by omega) (fun i => ν (i + 5)) [("k", .int (Int.ofNat k) (ν 0))] (es ++ [⟨ν 1, y.ms k, ν 2, ν 3⟩]) (m + 1) (by
        unfold dmask at hg ⊢
        rw [gmask_succ, if_pos hbk, ← hg]; simp [masks]) (.inr ⟨_, rfl⟩)).perm ?_
      rw [show tups (es ++ [⟨ν 1, y.ms k, ν 2, ν 3⟩]) = tups es ++ [(ν 1, tup [.str (P (y.ms k)) (ν 2), .str (W (y.ms k)) (ν 3)])] by simp [tups, Ent.obj]]
      exact perm_tail
    · have hoff : (wonI k y.b == 1) = false := by simpa using hbk
      refine bturn (d := 310) (u := 1010) (J := [0, 1, 2, 3, 4, 5, 6]) [wonQ y k false] (fun _ _ _ G => [tokV (valIn (obG 0 G) 0), 0] ++ xK 0 2 G) (fun s _ => all_one (wonQ_ok hk16 hoff)) (fun base tb ν => du0_run hk' base tb ν k hk16) (nodupB rfl) (fun _ => rfl) (fun ν => ?_)
      exact du_cg w y h16 j (k + 1) (by omega) _ _ _ _ (by unfold dmask at hg ⊢; rw [gmask_succ, if_neg hbk, hg]) (.inr ⟨_, rfl⟩)
end Mine
end
section
open PySem PySem.Spec PySem.Calls PySem.W PySem.W.X PyProof.Rows
set_option Elab.async false
set_option maxRecDepth 100000
set_option maxHeartbeats 0
namespace Mine
/-! ## one word, spelled -/
noncomputable def spS (a : Nat) (q : Bool) : Str := ⟨(spell ⟨a, q, 0⟩).toArray⟩
noncomputable def spellS (a : Nat) (q : Bool) (p : Tok × Tok) : Job where
  code := .call (.ref 246) ⟨[.str (W a) p.1, .int (bI q) p.2], []⟩
  pre := []
  post := fun _ => []
  new := fun _ => []
  r := fun ν => strR (spS a q) (ν 2)
  d := 800
  u := 7000
noncomputable def repQ (a : Nat) : OracleAt := pureQ "str.replace" (fun c => some (callTok 0 c, callTok 1 c - 1)) (fun p : Tok × Nat => ⟨[.str (W a) p.1, .str " " (p.2 + 1), .str "\\ " (p.2 + 2)], []⟩) fun _ => .str (spS a false)
section
variable {w : World} {T₀ : CT} {s₀ : Shared}
noncomputable def blankW : List Nat := [2, 6, 10, 14]
theorem repQ_ok {a : Nat} (h : a ∈ blankW) : OracleOk (B w) T₀ s₀ (repQ a) := by
  refine pure_ok F.entry_str_replace (by decide +kernel) (fun p => ?_) fun _ => ?_
  · have tk : (p.2 + 1 == 0 || p.2 + 2 == 0) = false ∧ (p.2 + 1 == p.2 + 2) = false := by simp
    have g := gives_str_replace (W a) " " "\\ " p.1 (p.2 + 1) (p.2 + 2) (fun _ => ⟨tk.1, tk.2, by decide, by
      simp only [blankW, List.mem_cons, List.not_mem_nil, or_false] at h
      rcases h with rfl | rfl | rfl | rfl <;> decide +kernel⟩)
    simp only [blankW, List.mem_cons, List.not_mem_nil, or_false] at h
    rcases h with rfl | rfl | rfl | rfl <;> (refine Eq.mp (congrArg (Gives _) ?_) g; kernel_rfl)
  · simp only [blankW, List.mem_cons, List.not_mem_nil, or_false] at h
    rcases h with rfl | rfl | rfl | rfl <;> (show _ ≤ sizeLine; rw [sizeLine_eq]; decide)
end
theorem spell_ctr (w : World) (p : Tok × Tok) (F : Shared → Prop) : ∀ a, a < 16 → ∀ q, Ctr (B w) F (spellS a q p) := by
  obtain ⟨t, u⟩ := p
  have blank : ∀ a, a ∈ blankW → ∀ T s, Par.Ok ⟨(B w).prog, (B w).w, (B w).kt, fun j => [repQ a][j]?⟩ T s := fun a ha T s => mk_ok (all_one (repQ_ok ha))
  refine all16 ?_ ?_ ?_ ?_ ?_ ?_ ?_ ?_ ?_ ?_ ?_ ?_ ?_ ?_ ?_ ?_ <;> (intro q; cases q)
  · exact ctr_plain (n := 23) (H := 1208925891954802012717057) (J := []) (xs := tok2) List.nodup_nil (by intro base tb ν; unfold Runs; kernel_rfl)
  · exact ctr_plain (n := 27) (H := 1208925891954802012717057) (J := []) (xs := tok2) List.nodup_nil (by intro base tb ν; unfold Runs; kernel_rfl)
  · exact ctr_plain (n := 23) (H := 1208925891954802012717057) (J := []) (xs := tok2) List.nodup_nil (by intro base tb ν; unfold Runs; kernel_rfl)
  · exact ctr_plain (n := 27) (H := 1208925891954802012717057) (J := []) (xs := tok2) List.nodup_nil (by intro base tb ν; unfold Runs; kernel_rfl)
  · exact ctr_of_run (V := B w) (n := 21) (H := 316913858982949305176188518401) (J := []) (xs := tok2) List.nodup_nil (fun s _ _ => blank 2 (by decide) _ s) (by intro base tb ν; unfold Runs; kernel_rfl)
  · exact ctr_plain (n := 27) (H := 1208925891954802012717057) (J := []) (xs := tok2) List.nodup_nil (by intro base tb ν; unfold Runs; kernel_rfl)
  · exact ctr_plain (n := 23) (H := 1208925891954802012717057) (J := []) (xs := tok2) List.nodup_nil (by intro base tb ν; unfold Runs; kernel_rfl)
  · exact ctr_plain (n := 27) (H := 1208925891954802012717057) (J := []) (xs := tok2) List.nodup_nil (by intro base tb ν; unfold Runs; kernel_rfl)
  · exact ctr_plain (n := 23) (H := 1208925891954802012717057) (J := []) (xs := tok2) List.nodup_nil (by intro base tb ν; unfold Runs; kernel_rfl)
  · exact ctr_plain (n := 27) (H := 1208925891954802012717057) (J := []) (xs := tok2) List.nodup_nil (by intro base tb ν; unfold Runs; kernel_rfl)
  · exact ctr_plain (n := 23) (H := 1208925891954802012717057) (J := []) (xs := tok2) List.nodup_nil (by intro base tb ν; unfold Runs; kernel_rfl)
  · exact ctr_plain (n := 27) (H := 1208925891954802012717057) (J := []) (xs := tok2) List.nodup_nil (by intro base tb ν; unfold Runs; kernel_rfl)
  · exact ctr_of_run (V := B w) (n := 21) (H := 316913858982949305176188518401) (J := []) (xs := tok2) List.nodup_nil (fun s _ _ => blank 6 (by decide) _ s) (by intro base tb ν; unfold Runs; kernel_rfl)
  · exact ctr_plain (n := 27) (H := 1208925891954802012717057) (J := []) (xs := tok2) List.nodup_nil (by intro base tb ν; unfold Runs; kernel_rfl)
  · exact ctr_plain (n := 23) (H := 1208925891954802012717057) (J := []) (xs := tok2) List.nodup_nil (by intro base tb ν; unfold Runs; kernel_rfl)
  · exact ctr_plain (n := 27) (H := 1208925891954802012717057) (J := []) (xs := tok2) List.nodup_nil (by intro base tb ν; unfold Runs; kernel_rfl)
  · exact ctr_plain (n := 23) (H := 1208925891954802012717057) (J := []) (xs := tok2) List.nodup_nil (by intro base tb ν; unfold Runs; kernel_rfl)
  · exact ctr_plain (n := 27) (H := 1208925891954802012717057) (J := []) (xs := tok2) List.nodup_nil (by intro base tb ν; unfold Runs; kernel_rfl)
  · exact ctr_plain (n := 23) (H := 1208925891954802012717057) (J := []) (xs := tok2) List.nodup_nil (by intro base tb ν; unfold Runs; kernel_rfl)
  · exact ctr_plain (n := 27) (H := 1208925891954802012717057) (J := []) (xs := tok2) List.nodup_nil (by intro base tb ν; unfold Runs; kernel_rfl)
  · exact ctr_of_run (V := B w) (n := 21) (H := 316913858982949305176188518401) (J := []) (xs := tok2) List.nodup_nil (fun s _ _ => blank 10 (by decide) _ s) (by intro base tb ν; unfold Runs; kernel_rfl)
  · exact ctr_plain (n := 27) (H := 1208925891954802012717057) (J := []) (xs := tok2) List.nodup_nil (by intro base tb ν; unfold Runs; kernel_rfl)
  · exact ctr_plain (n := 23) (H := 1208925891954802012717057) (J := []) (xs := tok2) List.nodup_nil (by intro base tb ν; unfold Runs; kernel_rfl)
  · exact ctr_plain (n := 27) (H := 1208925891954802012717057) (J := []) (xs := tok2) List.nodup_nil (by intro base tb ν; unfold Runs; kernel_rfl)
  · exact ctr_plain (n := 23) (H := 1208925891954802012717057) (J := []) (xs := tok2) List.nodup_nil (by intro base tb ν; unfold Runs; kernel_rfl)
  · exact ctr_plain (n := 27) (H := 1208925891954802012717057) (J := []) (xs := tok2) List.nodup_nil (by intro base tb ν; unfold Runs; kernel_rfl)
  · exact ctr_plain (n := 23) (H := 1208925891954802012717057) (J := []) (xs := tok2) List.nodup_nil (by intro base tb ν; unfold Runs; kernel_rfl)
  · exact ctr_plain (n := 27) (H := 1208925891954802012717057) (J := []) (xs := tok2) List.nodup_nil (by intro base tb ν; unfold Runs; kernel_rfl)
  · exact ctr_of_run (V := B w) (n := 21) (H := 316913858982949305176188518401) (J := []) (xs := tok2) List.nodup_nil (fun s _ _ => blank 14 (by decide) _ s) (by intro base tb ν; unfold Runs; kernel_rfl)
  · exact ctr_plain (n := 27) (H := 1208925891954802012717057) (J := []) (xs := tok2) List.nodup_nil (by intro base tb ν; unfold Runs; kernel_rfl)
  · exact ctr_plain (n := 23) (H := 1208925891954802012717057) (J := []) (xs := tok2) List.nodup_nil (by intro base tb ν; unfold Runs; kernel_rfl)
  · exact ctr_plain (n := 27) (H := 1208925891954802012717057) (J := []) (xs := tok2) List.nodup_nil (by intro base tb ν; unfold Runs; kernel_rfl)
noncomputable def spellQ (a : Nat) (q : Bool) : OracleAt := QF [] (fun c _ => some (callTok 0 c, callTok 1 c)) (spellS a q) 800 7000
theorem spellQ_ok {w : World} {T₀ : CT} {s₀ : Shared} {a : Nat} (h : a < 16) (q : Bool) : OracleOk (B w) T₀ s₀ (spellQ a q) :=
  lift_ok (F := fun _ => True) List.nodup_nil (fun _ _ _ => trivial) (fun p => spell_ctr w p _ a h q) (fun _ => Nat.le_refl _) (fun _ => Nat.le_refl _)
end Mine
end
section
open PySem PySem.Spec PySem.Calls PySem.W PySem.W.X PyProof.Rows
set_option Elab.async false
set_option maxRecDepth 100000
set_option maxHeartbeats 0
namespace Mine
/-! ## the numbers -/
structure NL where
  f : Addr
  D : Addr
  it : Addr
  acc : Addr
  ck : Addr
  ao : Addr
noncomputable def noCell : Obj := { cls := .type "cell", data := .cell none }
noncomputable def ivOf : List Value → List (Int × Tok)
  | [] => []
  | v :: l => (intOf v, tokV v) :: ivOf l
noncomputable def ivSeq (o : Obj) : List (Int × Tok) := match o.data with
  | .seq vs _ => ivOf vs.toList
  | _ => []
noncomputable def fTokC (o : Obj) : Tok := tokV (cellVal o)
noncomputable def sumM (j : Nat) : OracleAt := QFm (fun m => [m - j]) (fun _ ps => some (ivSeq (obAt 0 ps), adAt 0 ps, ktoks (obAt 0 ps) 0)) (fun p => sumS p.1 (p.1.map Prod.fst).sum p.2) 900 8000
noncomputable def nuPre (w : World) (y : NL) (g : Nat → Nat) (kv : List (Str × Value)) (k : Nat) (ac : List Value) (m : Nat) (c : Obj) (fs : List (Nat × Tok)) : List (Addr × Obj) := [(y.D, dct w g kv), (y.it, rangeIt (Int.ofNat k) (Int.ofNat (16 - k)) 1), (y.acc, lst ac m), (y.ck, c), (y.f + 2, cellObj (.ref y.ao)), (y.ao, lst (ords fs) 0)]
noncomputable def nuCode (w : World) (y : NL) : Code := compCode w 294 1 y.it y.acc y.f y.D [("k", y.ck), ("order", y.f + 2)]
noncomputable def subI (o0 o1 o2 o3 : Int) (k : Nat) : List Int := (match tbk k 0 with | true => [o0] | false => []) ++ ((match tbk k 1 with | true => [o1] | false => []) ++ ((match tbk k 2 with | true => [o2] | false => []) ++ (match tbk k 3 with | true => [o3] | false => [])))
noncomputable def numI (fs : List Nat) (k : Nat) : Int := (subI (N (fs.getD 0 0)) (N (fs.getD 1 0)) (N (fs.getD 2 0)) (N (fs.getD 3 0)) k).sum
section
variable {w : World} {y : NL} {g : Nat → Nat} {ac : List Value} {m : Nat} {f0 f1 f2 f3 t0 t1 t2 t3 : Nat}
noncomputable def NuRun (w : World) (y : NL) (g : Nat → Nat) (ac : List Value) (m f0 f1 f2 f3 t0 t1 t2 t3 k : Nat) (c : Obj) (n H base tb : Nat) (ν : Nat → Nat) : Prop := RunsL [0, 1, 2, 3, 4, 5] ((fun _ _ ν G => [fTokC (obG 3 G), ν 2] ++ xK 0 1 G) base tb ν) (fun _ => .again (nuCode w y))
    (fun ν => nuPre w y (fun i => ν (i + 2)) [] (k + 1) (ac ++ [.int (numI [f0, f1, f2, f3] k) (ν 1)]) (m + 1) (cellObj (.int (Int.ofNat k) (ν 0))) [(f0, t0), (f1, t1), (f2, t2), (f3, t3)])
    (goes (mkV w [sumM 4, appendQ ac 2]) n H (nuCode w y) (stay (nuPre w y g [] k ac m c [(f0, t0), (f1, t1), (f2, t2), (f3, t3)]) base tb) 316 1020 ν)
theorem nu_run0 {c : Obj} (hc : c = noCell) (base tb : Nat) (ν : Nat → Nat) : NuRun w y g ac m f0 f1 f2 f3 t0 t1 t2 t3 0 c 279 2505734057667870067444847880166305812722845134310204468349277843864921771510284748214533921842013819752949865141032820536762473122118999314954423125273947692395094888607215939455910227178801053376104637405672519173373150587542641498963845052319584120870073946671974736436863825979060785260573379136058486064768850765187131102219361173490631149941114348784201077837892937395995136 base tb ν := by
  subst hc; unfold NuRun RunsL; kernel_rfl
theorem nu_run1 {c : Obj} (hc : ∃ v, c = cellObj v) (base tb : Nat) (ν : Nat → Nat) : NuRun w y g ac m f0 f1 f2 f3 t0 t1 t2 t3 1 c 299 3330691859443867740809404573709767581855508618187937926429669875101495289793460025584442365385865986082546878692143480507431832476882565843406777228548538665651392901821848227585811526147003846253915681951780897429203977558942640299842318557711503597972920053903128373182617290263959594257843486002202583620282963868068460882103508002903491405093592252861321139188219160656284808967476364196302518720456851823002112 base tb ν := by
  obtain ⟨v, rfl⟩ := hc; unfold NuRun RunsL; kernel_rfl
theorem nu_run2 {c : Obj} (hc : ∃ v, c = cellObj v) (base tb : Nat) (ν : Nat → Nat) : NuRun w y g ac m f0 f1 f2 f3 t0 t1 t2 t3 2 c 299 3330691859443867740809404573709767581855508618187937926429669875101495289793460025584442365385865986082546878692143480507431832476882565843406777228548538665651393160582752974701947012564706988224751746952479987896760635342063504709908009500047455474813480273418476551751825807977543937930053180006800582347525760248261546827887324158009299688366121990453161140184569978521128513042760066182306310867729254868582912 base tb ν := by
  obtain ⟨v, rfl⟩ := hc; unfold NuRun RunsL; kernel_rfl
theorem nu_run3 {c : Obj} (hc : ∃ v, c = cellObj v) (base tb : Nat) (ν : Nat → Nat) : NuRun w y g ac m f0 f1 f2 f3 t0 t1 t2 t3 3 c 319 4427248864905707040390252219669784586492219262401089941650330082801407743820665670697678058841043701813935623442853197672542504838084706038298944710854268534600268655044963635159606134418449389369990217368764028433151527394282450367472981888587586575771647068026642110826954173117021796532933365146593282947729719566656347185138860459368249160414397510532074953495478650090869226653800025908717445074467951570954554849229443625140036910209423508505088 base tb ν := by
  obtain ⟨v, rfl⟩ := hc; unfold NuRun RunsL; kernel_rfl
theorem nu_run4 {c : Obj} (hc : ∃ v, c = cellObj v) (base tb : Nat) (ν : Nat → Nat) : NuRun w y g ac m f0 f1 f2 f3 t0 t1 t2 t3 4 c 299 3330691859443867740809404573709767581855508618187937926429669875101495289793460025584442365385865986082962691434348498182851158544075901028169421887570338052066443120908430944935098899898879577798338983210524850040505629346313105689985796037062086510331644516334455537701577112567218268851003638381981342965125657566133902769246455159678739331661323815493748173058987018026112336998491460372249134464123087827763712 base tb ν := by
  obtain ⟨v, rfl⟩ := hc; unfold NuRun RunsL; kernel_rfl
theorem nu_run5 {c : Obj} (hc : ∃ v, c = cellObj v) (base tb : Nat) (ν : Nat → Nat) : NuRun w y g ac m f0 f1 f2 f3 t0 t1 t2 t3 5 c 319 4427248864905707040390252219669784586492219262401089941650330082801407743820665670697678058841043701814488333380796203217692073554267937318364975046258833253307159813523888260998604396283516962477706852223789989589475306141253823022269034177516449084530049112976411037284993383391611187842763842851151205428162133138326424481918683893932584075438586942194655322989422327160182329864402430503656981780703021945198473365126902777139759996613790191845888 base tb ν := by
  obtain ⟨v, rfl⟩ := hc; unfold NuRun RunsL; kernel_rfl
theorem nu_run6 {c : Obj} (hc : ∃ v, c = cellObj v) (base tb : Nat) (ν : Nat → Nat) : NuRun w y g ac m f0 f1 f2 f3 t0 t1 t2 t3 6 c 319 4427248864905707040390252219669784586492219262401089941650330082801407743820665670697678058841043701814488333380796203217692073554267937318364975046258833253307159813523888260998604396283516962477707110984694736705610792558956964993105099178215539552086706896097275447350684325727563064683324062366499383997370650851910768154128377898530582802681383322387741268773238482265990613136932168095496982777053839810042177440410604763143552143886193237426688 base tb ν := by
  obtain ⟨v, rfl⟩ := hc; unfold NuRun RunsL; kernel_rfl
theorem nu_run7 {c : Obj} (hc : ∃ v, c = cellObj v) (base tb : Nat) (ν : Nat → Nat) : NuRun w y g ac m f0 f1 f2 f3 t0 t1 t2 t3 7 c 339 5884823135539656740715170996600340832561888045557121683524516596688791331901538912891478687971699918621453008607601296194844557340686513123743080918709822118133085580241284130942464149346677868702897955070520496522349705113389552863656461771119017883684930417638976532243271839930609802133125880333257003047955367806244264649608897643291548931786666847346754149954879345125838229360595238378202949043786170048042228992467585050764602451703304718989168789500342392272513492539623501464064 base tb ν := by
  obtain ⟨v, rfl⟩ := hc; unfold NuRun RunsL; kernel_rfl
theorem nu_run8 {c : Obj} (hc : ∃ v, c = cellObj v) (base tb : Nat) (ν : Nat → Nat) : NuRun w y g ac m f0 f1 f2 f3 t0 t1 t2 t3 8 c 299 3330691859443867740809404573709767581855509286373252663328476876396583427923899681310251710550387827875584422439851671224496941042994464659495918130223509142096283428251040536327447144789433395357334009757563561436996298886914764753766930973311143294298048592398831264365181242272956187673429529792999541176816302888752216468111385274875358849311875452923672789326880919771421516339612242465520089229634561900544512 base tb ν := by
  obtain ⟨v, rfl⟩ := hc; unfold NuRun RunsL; kernel_rfl
theorem nu_run9 {c : Obj} (hc : ∃ v, c = cellObj v) (base tb : Nat) (ν : Nat → Nat) : NuRun w y g ac m f0 f1 f2 f3 t0 t1 t2 t3 9 c 319 4427248864905707040390252219669784586492220150571716662291543409242822861050625280694473782832196946495525215944081944307671010764548126762138989221687722068605995964045707666360458767103139320430977346191242107810206435911306974172506637873303989549632920310454621019624407403084630573005484972752877925573476443241431512369036942031363399511716364054273101626047467078234800516879108811138409816578546763608413706852201388918836094491130516708786688 base tb ν := by
  obtain ⟨v, rfl⟩ := hc; unfold NuRun RunsL; kernel_rfl
theorem nu_run10 {c : Obj} (hc : ∃ v, c = cellObj v) (base tb : Nat) (ν : Nat → Nat) : NuRun w y g ac m f0 f1 f2 f3 t0 t1 t2 t3 10 c 319 4427248864905707040390252219669784586492220150571716662291543409242822861050625280694473782832196946495525215944081944307671010764548126762138989221687722068605995964045707666360458767103139320430977604952146854926341922329010116143342702874003080017189578093575485429690098345420582449846045192268226104142684960955015856041246636035961398238959160434466187571831283233340608800151638548730249817574897581473257410927485090904839886638402919754367488 base tb ν := by
  obtain ⟨v, rfl⟩ := hc; unfold NuRun RunsL; kernel_rfl
theorem nu_run11 {c : Obj} (hc : ∃ v, c = cellObj v) (base tb : Nat) (ν : Nat → Nat) : NuRun w y g ac m f0 f1 f2 f3 t0 t1 t2 t3 11 c 339 5884823135539656740715170996600340832561889226138383754435084460915275554135586177929304453872382025598733321955386227662830864005963280365372494230465680369184859727991463343606376793440289997753748710246497779720915356121194856315992519457554789524382882473519836998676819568412665830645952673594005340340498495427543694351278824618979716345313308025598034660494008708407468005124342250937507185899912502577420702750123018824967197865554554299445203309903936725369884154887348894564864 base tb ν := by
  obtain ⟨v, rfl⟩ := hc; unfold NuRun RunsL; kernel_rfl
theorem nu_run12 {c : Obj} (hc : ∃ v, c = cellObj v) (base tb : Nat) (ν : Nat → Nat) : NuRun w y g ac m f0 f1 f2 f3 t0 t1 t2 t3 12 c 319 4427248864905707040390252219669784586492220150571716662291543409242822861050625280694473782832196946495525215944081944307671010764548126762554801963892739744025322031239042851123103426124938706846027565277824825159493809663182705716929939132047942160934572097825086409767884882435213485364209435184205090092436265544690186962197094411142158856559057752338543513190414235010048443446840373770836850449314620978241234883216485094782710234796752713548288 base tb ν := by
  obtain ⟨v, rfl⟩ := hc; unfold NuRun RunsL; kernel_rfl
theorem nu_run13 {c : Obj} (hc : ∃ v, c = cellObj v) (base tb : Nat) (ν : Nat → Nat) : NuRun w y g ac m f0 f1 f2 f3 t0 t1 t2 t3 13 c 339 5884823135539656740715170996600340832561889226138383754435084460915275554135586177929304453872382025598733321955386227662830864005963280365925204168408685914334428444174694623672407128844854716460639868725422405559913617986262429423709154312580750680706661220491209653472871857341528339404354718543774266798537705702133085661109302323537638825745721597268111957273832142971802920148531682600087555393856179646733805960725423419906734571789624673689121825801395877369607241291715577905664 base tb ν := by
  obtain ⟨v, rfl⟩ := hc; unfold NuRun RunsL; kernel_rfl
theorem nu_run14 {c : Obj} (hc : ∃ v, c = cellObj v) (base tb : Nat) (ν : Nat → Nat) : NuRun w y g ac m f0 f1 f2 f3 t0 t1 t2 t3 14 c 339 5884823135539656740715170996600340832561889226138383754435084460915275554135586177929304453872382025598733321955386227662830864005963280365925204168408685914334428444174694623672407128844854716460639868725422405559913617986262429423709413073485497796842147638194351624308936858040618806961012501664638676864228648038084962501669521838885817394954239310852455629483526147569801647391328062793173501177672334752542089233255161011746735568140442538532825901085097863373399388564118623486464 base tb ν := by
  obtain ⟨v, rfl⟩ := hc; unfold NuRun RunsL; kernel_rfl
theorem nu_run15 {c : Obj} (hc : ∃ v, c = cellObj v) (base tb : Nat) (ν : Nat → Nat) : NuRun w y g ac m f0 f1 f2 f3 t0 t1 t2 t3 15 c 359 7822271662002082260765690169514206126611352885555507299035267714602973379837591561567211422438519987523594982284758231193947331886554765683263784250005465060068052902248849471246314291852854723307204446054202202755873977576741068626825713047966239892141488344965728061386748874031023605389852878146153869573002565636909700036759847989402976525405121802348825152798376653483402970310634451722234880357276381191011881618281055728199576888702646852429877534246411516127335247762605039726043960339826533865237872272747714839040 base tb ν := by
  obtain ⟨v, rfl⟩ := hc; unfold NuRun RunsL; kernel_rfl
theorem nuE_run {fs : List (Nat × Tok)} {c : Obj} (base tb : Nat) (ν : Nat → Nat) : RunsL [0, 2, 3, 4, 5] (xK 0 1) (fun _ => .ret (.ok .next))
    (fun ν => [(y.D, dct w ν []), (y.acc, lst ac m), (y.ck, c), (y.f + 2, cellObj (.ref y.ao)), (y.ao, lst (ords fs) 0)])
    (goes (mkV w []) 17 147718632926762500608 (nuCode w y) (stay (nuPre w y g [] 16 ac m c fs) base tb) 316 1020 ν) := by
  unfold RunsL; kernel_rfl
end
end Mine
end
section
open PySem PySem.Spec PySem.Calls PySem.W PySem.W.X PyProof.Rows
set_option Elab.async false
set_option maxRecDepth 100000
set_option maxHeartbeats 0
namespace Mine
theorem nu_any {w : World} {y : NL} {g : Nat → Nat} {ac : List Value} {m f0 f1 f2 f3 t0 t1 t2 t3 : Nat} {c : Obj} : ∀ k, k < 16 → ((k = 0 ∧ c = noCell) ∨ (k ≠ 0 ∧ ∃ v, c = cellObj v)) → ∃ n H, ∀ base tb ν, NuRun w y g ac m f0 f1 f2 f3 t0 t1 t2 t3 k c n H base tb ν := by
  have no : ∀ {k : Nat} {p : Prop}, k ≠ 0 → ((k = 0 ∧ c = noCell) ∨ (k ≠ 0 ∧ ∃ v, c = cellObj v)) → ((∃ v, c = cellObj v) → p) → p := fun hk h f => by
    rcases h with ⟨h, _⟩ | ⟨_, h⟩
    · exact absurd h hk
    · exact f h
  refine all16 (fun h => ?_) (fun h => no (by decide) h fun hc => ⟨_, _, nu_run1 hc⟩) (fun h => no (by decide) h fun hc => ⟨_, _, nu_run2 hc⟩) (fun h => no (by decide) h fun hc => ⟨_, _, nu_run3 hc⟩) (fun h => no (by decide) h fun hc => ⟨_, _, nu_run4 hc⟩) (fun h => no (by decide) h fun hc => ⟨_, _, nu_run5 hc⟩) (fun h => no (by decide) h fun hc => ⟨_, _, nu_run6 hc⟩) (fun h => no (by decide) h fun hc => ⟨_, _, nu_run7 hc⟩)
    (fun h => no (by decide) h fun hc => ⟨_, _, nu_run8 hc⟩) (fun h => no (by decide) h fun hc => ⟨_, _, nu_run9 hc⟩) (fun h => no (by decide) h fun hc => ⟨_, _, nu_run10 hc⟩) (fun h => no (by decide) h fun hc => ⟨_, _, nu_run11 hc⟩) (fun h => no (by decide) h fun hc => ⟨_, _, nu_run12 hc⟩) (fun h => no (by decide) h fun hc => ⟨_, _, nu_run13 hc⟩) (fun h => no (by decide) h fun hc => ⟨_, _, nu_run14 hc⟩) (fun h => no (by decide) h fun hc => ⟨_, _, nu_run15 hc⟩)
  rcases h with ⟨_, hc⟩ | ⟨h, _⟩
  · exact ⟨_, _, nu_run0 hc⟩
  · exact absurd rfl h
structure NZ where
  t : Nat → Tok
  m : Nat
  g : Nat → Nat
  v : Value
theorem sumM_ok {w : World} {T₀ : CT} {s₀ : Shared} (j : Nat) : OracleOk (B w) T₀ s₀ (sumM j) :=
  QFm_ok fun m => lift_ok (F := fun _ => True) (by simp) (fun _ _ _ => trivial) (fun p => sum_ctr w rfl p.2) (fun _ => Nat.le_refl _) (fun _ => Nat.le_refl _)
theorem nu_cg (w : World) (y : NL) (fs : List (Nat × Tok)) (h4 : fs.length = 4) : ∀ (j k : Nat), k + j = 16 → ∀ (g : Nat → Nat) (c : Obj) (t : Nat → Tok) (m : Nat), ((k = 0 ∧ c = noCell) ∨ (k ≠ 0 ∧ ∃ v, c = cellObj v)) →
    Cg (B w) (nuCode w y) (nuPre w y g [] k (bv (numI (fs.map Prod.fst)) t k) m c fs) (fun _ : NZ => True) (fun z => [(y.D, dct w z.g []), (y.acc, lst (bv (numI (fs.map Prod.fst)) z.t 16) z.m), (y.ck, cellObj z.v), (y.f + 2, cellObj (.ref y.ao)), (y.ao, lst (ords fs) 0)]) (fun _ => .ok .next) 310 1010
  | 0, k, h, g, c, t, m, hc => by
    obtain rfl : k = 16 := by omega
    obtain ⟨v, rfl⟩ : ∃ v, c = cellObj v := by
      rcases hc with ⟨h, _⟩ | ⟨_, h⟩
      · omega
      · exact h
    rw [← List.append_nil (nuPre _ _ _ _ _ _ _ _ _)]
    exact bdone (d := 310) (u := 1010) (J := [0, 2, 3, 4, 5]) [] (fun _ _ _ => xK 0 1) (fun s _ Q hQ => by cases hQ) (fun base tb ν => nuE_run base tb ν) (nodupB rfl) (fun ν => ⟨⟨t, m, ν, v⟩, trivial, by rw [List.append_nil], rfl⟩)
  | j + 1, k, h, g, c, t, m, hc => by
    have hk16 : k < 16 := by omega
    obtain ⟨⟨f0, t0⟩, ⟨f1, t1⟩, ⟨f2, t2⟩, ⟨f3, t3⟩, rfl⟩ : ∃ a b c d, fs = [a, b, c, d] := by
      match fs, h4 with
      | [a, b, c, d], _ => exact ⟨a, b, c, d, rfl⟩
    obtain ⟨n, H, run⟩ := nu_any (w := w) (y := y) (g := g) (ac := bv (numI [f0, f1, f2, f3]) t k) (m := m) (f0 := f0) (f1 := f1) (f2 := f2) (f3 := f3) (t0 := t0) (t1 := t1) (t2 := t2) (t3 := t3) k hk16 hc
    rw [← List.append_nil (nuPre _ _ _ _ _ _ _ _ _)]
    refine bturn (d := 310) (u := 1010) (n := n) (H := H) (J := [0, 1, 2, 3, 4, 5]) [sumM 4, appendQ (bv (numI [f0, f1, f2, f3]) t k) 2] (fun _ _ ν G => [fTokC (obG 3 G), ν 2] ++ xK 0 1 G) (fun s _ => all_cons (sumM_ok 4) (all_one (appendQ_ok (by simp [bv]; omega) 2))) (fun base tb ν => run base tb ν) (nodupB rfl) (fun _ => rfl) (fun ν => ?_)
    rw [List.append_nil, bv_succ]
    exact nu_cg w y [(f0, t0), (f1, t1), (f2, t2), (f3, t3)] h4 j (k + 1) (by omega) _ _ _ _ (.inr ⟨by omega, _, rfl⟩)
theorem numI_eq : ∀ fs ∈ orders, ∀ k, k < 16 → numI fs k = N (mk4 fs k) := by decide +kernel
theorem bv_congr {a b : Nat → Int} {t : Nat → Tok} {n : Nat} (h : ∀ k, k < n → a k = b k) : bv a t n = bv b t n := List.map_congr_left fun i hi => by rw [h i (List.mem_range.mp hi)]
end Mine
end
section
open PySem PySem.Spec PySem.Calls PySem.W PySem.W.X PyProof.Rows
set_option Elab.async false
set_option maxRecDepth 100000
set_option maxHeartbeats 0
namespace Mine
/-! ## law: up to the bits -/
structure SC where
  aS : Addr
  n0 : Nat
  l : List (Int × Tok)
  o : List (Int × Tok)
  e : List (Int × Tok)
  so : Int
  se : Int
  T : Int
  Z : Int
  m : Nat
noncomputable def lawO (c : SC) : List OracleAt := [slQ (ivals c.l) (ivals c.o) (some 0) (some 63) (some 2) 0 8, sumQ c.o c.so 9, knQ "int.__add__" 33128 c.so (33128 + c.so), knQ "int.__mod__" (33128 + c.so) 65536 c.T,
  slQ (ivals c.l) (ivals c.e) (some 1) (some 63) (some 2) 0 10, sumQ c.e c.se 11, knQ "int.__add__" 1944 c.se (1944 + c.se), knQ "int.__mod__" (1944 + c.se) 98304 c.Z, orderQ c.Z c.m]
noncomputable def lawCode (aS : Addr) : Code := .call (.ref 294) ⟨[.ref aS], []⟩
noncomputable def ordF (m : Nat) (t : Nat → Tok) : List (Nat × Tok) := [((ordM m).getD 0 0, t 0), ((ordM m).getD 1 0, t 1), ((ordM m).getD 2 0, t 2), ((ordM m).getD 3 0, t 3)]
noncomputable def lawY (base : Nat) (ν₀ : Nat → Nat) : CL := ⟨base, ν₀ 128 + 3, ν₀ 128 + 1, ν₀ 128 + 2⟩
noncomputable def lwA (w : World) (c : SC) (f ao : Nat) (t : Nat → Tok) (g : Nat → Nat) (tz : Tok) : List (Addr × Obj) :=
  [(f, frm w g [("script", .ref c.aS), ("second", .int c.Z tz)]), (f + 2, cellObj (.ref ao)), (f + 3, noCell), (f + 4, noCell), (f + 5, noCell), (ao, lst (ords (ordF c.m t)) 0), (234, tab0)]
section
variable {w : World} {c : SC}
noncomputable def xsLA (G : Goal) : List Nat := [xT 2 1 G, fTokC (obG 3 G), seqTok (obG 12 G) 0, seqTok (obG 12 G) 1, seqTok (obG 12 G) 2, seqTok (obG 12 G) 3, 0, 0, 0, 0] ++ xK 2 3 G ++ [0, 0, 0] ++ xK 16 2 G
noncomputable def lawGo (w : World) (c : SC) (base tb : Nat) (ν : Nat → Nat) : Out := goes (mkV w (lawO c)) 129 118558728444915974893206349291863812573601473522094229842089623690392652831956474363728359478742236072973244723894246511365471212337527250480820788680492189485105153 (lawCode c.aS) (stay [(c.aS, lst (ivals c.l) c.n0), (234, tab0)] base tb) 310 1010 ν
theorem lA_run (base tb : Nat) (ν₀ : Nat → Nat) : RunsL [16, 14, 15, 3, 2, 4, 5, 6, 7, 12, 1, 0] xsLA (fun _ => .stop (compHead w 294 0 (ν₀ 128 + 1) (ν₀ 128 + 2) base (ν₀ 128 + 3) [("table", base + 1)]) 316 1020)
    (fun ν => biPre w (lawY base ν₀) (fun i => ν (i + 16)) [] 0 [] 0 c.T (ν 1) ++ lwA w c base (ν₀ 130) (fun i => ν (i + 2)) (fun i => ν (i + 10)) (ν 0) ++ [(c.aS, lst (ivals c.l) c.n0)])
    (lawGo w c base tb ν₀) := by
  unfold RunsL; kernel_rfl
end
end Mine
end
section
open PySem PySem.Spec PySem.Calls PySem.W PySem.W.X PyProof.Rows
set_option Elab.async false
set_option maxRecDepth 100000
set_option maxHeartbeats 0
namespace Mine
structure LA where
  c : SC
  b : Nat
  t : Nat
  ν₀ : Nat → Nat
  ν : Nat → Nat
noncomputable def LA.bits (a : LA) : Nat := a.ν₀ 128 + 2
noncomputable def LA.ao (a : LA) : Nat := a.ν₀ 130
noncomputable def LA.κ (w : World) (a : LA) : Kap := kapO (lawGo w a.c a.b a.t a.ν₀)
noncomputable def LA.y (a : LA) : CL := lawY a.b a.ν₀
noncomputable def LA.front (w : World) (a : LA) (z : BZ) : List (Addr × Obj) := [(a.y.D, dct w z.g [("k", z.v)]), (a.y.acc, lst (bv (bitT a.c.T) z.t 16) z.m), (a.b + 1, cellObj (.int a.c.T (a.ν 1)))] ++ lwA w a.c a.b a.ao (fun i => a.ν (i + 2)) (fun i => a.ν (i + 10)) (a.ν 0)
section
variable {w : World} {a : LA} {z : BZ} {b1 t1 : Nat}
noncomputable def LA.goB (w : World) (a : LA) (z : BZ) (b1 t1 : Nat) (ν : Nat → Nat) : Out := goesOn (mkV w []) 53 215578842645407260455782750531715140592824318734390565435869298945 (.ok .next) (a.κ w) (stay (a.front w z) b1 t1) 316 1020 ν
noncomputable def LA.ny (a : LA) (b1 : Nat) : NL := ⟨a.b, b1 + 3, b1 + 1, b1 + 2, b1 + 4, a.ao⟩
noncomputable def LA.fs (a : LA) : List (Nat × Tok) := ordF a.c.m fun i => a.ν (i + 2)
noncomputable def LA.restB (w : World) (a : LA) (z : BZ) (g : Nat → Nat) : List (Addr × Obj) := [(a.y.acc, lst (bv (bitT a.c.T) z.t 16) z.m), (a.b, frm w g [("script", .ref a.c.aS), ("second", .int a.c.Z (a.ν 0))]), (a.b + 1, cellObj (.int a.c.T (a.ν 1))), (a.b + 3, cellObj (.ref a.y.acc)), (a.b + 4, noCell), (a.b + 5, noCell), (234, tab0)]
theorem lB_run (ν : Nat → Nat) : RunsL [13, 11, 12, 14, 4, 8, 1, 3, 2, 5, 6, 7, 9] (fun G => xK 3 3 G ++ xK 13 1 G) (fun _ => .stop (compHead w 294 1 (b1 + 1) (b1 + 2) a.b (b1 + 3) [("k", b1 + 4), ("order", a.b + 2)]) 316 1020)
    (fun ν => nuPre w (a.ny b1) (fun i => ν (i + 3)) [] 0 [] 0 noCell a.fs ++ a.restB w z ν)
    (a.goB w z b1 t1 ν) := by
  unfold RunsL; kernel_rfl
end
end Mine
end
section
open PySem PySem.Spec PySem.Calls PySem.W PySem.W.X PyProof.Rows
set_option Elab.async false
set_option maxRecDepth 100000
set_option maxHeartbeats 0
namespace Mine
/-! ## law: from the numbers to the given words -/
structure LB where
  a : LA
  z : BZ
  b : Nat
  t : Nat
  ν₀ : Nat → Nat
  ν : Nat → Nat
noncomputable def LB.κ (w : World) (s : LB) : Kap := kapO (s.a.goB w s.z s.b s.t s.ν₀)
noncomputable def LB.y (s : LB) : NL := s.a.ny s.b
noncomputable def LB.front (w : World) (s : LB) (nv : Nat → Int) (n : NZ) : List (Addr × Obj) := [(s.y.D, dct w n.g []), (s.y.acc, lst (bv nv n.t 16) n.m), (s.y.ck, cellObj n.v), (s.y.f + 2, cellObj (.ref s.y.ao)), (s.y.ao, lst (ords s.a.fs) 0)] ++ s.a.restB w s.z s.ν
section
variable {w : World} {s : LB} {ms : Nat → Nat} {n : NZ} {b2 t2 : Nat}
noncomputable def LB.goC (w : World) (s : LB) (ms : Nat → Nat) (n : NZ) (b2 t2 : Nat) (ν : Nat → Nat) : Out := goesOn (mkV w []) 49 12898732507431534399233125448469079321786371720143167293962 (.ok .next) (s.κ w) (stay (s.front w (fun k => N (ms k)) n) b2 t2) 316 1020 ν
noncomputable def LB.gv (s : LB) (ms : Nat → Nat) (n : NZ) (b2 : Nat) : GV := ⟨s.a.b, b2 + 3, b2 + 1, b2 + 2, s.a.y.acc, s.y.acc, bitT s.a.c.T, s.z.t, s.z.m, ms, n.t, n.m⟩
noncomputable def LB.rest (w : World) (s : LB) (g : Nat → Nat) : List (Addr × Obj) := [(s.a.b + 2, cellObj (.ref s.a.ao)), (s.a.ao, lst (ords s.a.fs) 0), (s.a.b, frm w g [("script", .ref s.a.c.aS), ("second", .int s.a.c.Z (s.a.ν 0))]), (s.a.b + 1, cellObj (.int s.a.c.T (s.a.ν 1))), (s.a.b + 5, noCell), (234, tab0)]
theorem lC_run (ν : Nat → Nat) : RunsL [15, 13, 14, 8, 9, 5, 1, 3, 4, 6, 7, 10, 11] (fun G => xK 6 3 G ++ xK 15 1 G) (fun _ => .stop (compHead w 294 3 (b2 + 1) (b2 + 2) s.a.b (b2 + 3) [("numbers", s.a.b + 4), ("bits", s.a.b + 3)]) 316 1020)
    (fun ν => giPre w (s.gv ms n b2) (fun i => ν (i + 3)) [] 0 [] 0 ++ s.rest w ν)
    (s.goC w ms n b2 t2 ν) := by
  unfold RunsL; kernel_rfl
end
end Mine
end
section
open PySem PySem.Spec PySem.Calls PySem.W PySem.W.X PyProof.Rows
set_option Elab.async false
set_option maxRecDepth 100000
set_option maxHeartbeats 0
namespace Mine
/-! ## one list behind another -/
noncomputable def catS (vs us : List Value) (p : (Addr × Nat) × Addr × Nat) : Job where
  code := .builtin "list.__add__" ⟨[.ref p.1.1, .ref p.2.1], []⟩
  pre := [(p.1.1, lst vs p.1.2), (p.2.1, lst us p.2.2)]
  post := fun _ => [lst vs p.1.2, lst us p.2.2]
  new := fun ν => [(ν 2, lst (vs ++ us) 0)]
  r := fun ν => .ok (.ret (.ref (ν 2)))
  d := 990
  u := 9000
theorem cat_ctr (w : World) {vs us : List Value} (h1 : vs.length ≤ 1000) (h2 : us.length ≤ 1000) (p : (Addr × Nat) × Addr × Nat) : Ctr (B w) (fun _ => True) (catS vs us p) := by
  obtain ⟨⟨a, n⟩, b, m⟩ := p
  intro A s R hh hd hu _ hS hR
  have hv : s.heap.get? a = some (lst vs n) := hS.heap 0 rfl
  have hw : s.heap.get? b = some (lst us m) := hS.heap 1 rfl
  refine code_meets F.entry_list_add (by decide +kernel) (PySem.AutoSeq1.list___add___list_list_0 a vs.toArray n b us.toArray m (by rw [sizeLine_eq]; simp; omega)) ⟨hv, hw, ?_⟩
  have e : ({ cls := Value.type "list", data := Data.seq (vs.toArray ++ us.toArray) } : Obj) = lst (vs ++ us) 0 := by simp [lst]
  rw [e]
  have I1 := (Inv.start hS).make (o := lst (vs ++ us) 0) rfl (by kernel_rfl) (by kernel_rfl)
  refine ends hR I1 [0, 1, 2] (by decide) [s.heap.objs.size] ?_
  kernel_rfl
noncomputable def catQ (vs us : List Value) (i j : Nat) : OracleAt := QF [i, j] (fun _ ps => both (seqAt 0 ps) (seqAt 1 ps)) (fun p => catS vs us (p.1, p.2.1, p.2.2)) 990 9000
theorem catQ_ok {w : World} {T₀ : CT} {s₀ : Shared} {vs us : List Value} (h1 : vs.length ≤ 1000) (h2 : us.length ≤ 1000) {i j : Nat} (h : i ≠ j) : OracleOk (B w) T₀ s₀ (catQ vs us i j) :=
  lift_ok (F := fun _ => True) (by simp [h]) (fun _ _ _ => trivial) (fun p => cat_ctr w h1 h2 _) (fun _ => Nat.le_refl _) (fun _ => Nat.le_refl _)
end Mine
end
section
open PySem PySem.Spec PySem.Calls PySem.W PySem.W.X PyProof.Rows
set_option Elab.async false
set_option maxRecDepth 100000
set_option maxHeartbeats 0
namespace Mine
/-! ## the text -/
noncomputable def blS (r : Nat) : Str := ⟨#[blanks.getD r 0]⟩
noncomputable def partS (a : Nat) (q : Bool) (r : Nat) : Str := ⟨(spell ⟨a, q, 0⟩ ++ [blanks.getD r 0]).toArray⟩
noncomputable def gitemQ (r : Nat) : OracleAt := pureQ "str.__getitem__" (fun c => some (callTok 0 c, callTok 1 c)) (fun p : Tok × Tok => ⟨[.str " \t\r\n" p.1, .int (Int.ofNat r) p.2], []⟩) fun _ => .str (blS r)
noncomputable def addSQ (x y z : Str) : OracleAt := pureQ "str.__add__" exSS (fun a => argSS ((x, a.1.2), (y, a.2.2))) fun _ => .str z
structure TX where
  f : Addr
  it : Addr
  aP : Addr
  aW : Addr
  X : Int
  tx : Tok
  ws : List (Nat × Tok)
noncomputable def txPre (w : World) (y : TX) (g : Nat → Nat) (kv : List (Str × Value)) (k lf : Int) (ps : List Value) (m : Nat) (mw : Nat) : List (Addr × Obj) := [(y.f, frm w g (("words", .ref y.aW) :: ("number", .int y.X y.tx) :: ("parts", .ref y.aP) :: kv)), (y.it, rangeIt k lf 1), (y.aP, lst ps m), (y.aW, lst (wds y.ws) mw)]
noncomputable def ttO (y : TX) (k a : Nat) (ta : Tok) (q : Bool) (r : Nat) (ps : List Value) : List OracleAt := [getQ (wds y.ws) (Int.ofNat k) (.str (W a) ta) 3, knQ "int.__floordiv__" y.X (Int.ofNat (2 ^ (k % 8))) (y.X / Int.ofNat (2 ^ (k % 8))), knQ "int.__mod__" (y.X / Int.ofNat (2 ^ (k % 8))) 2 (bI q), spellQ a q, knQ "int.__add__" y.X (Int.ofNat k) (y.X + Int.ofNat k), knQ "int.__mod__" (y.X + Int.ofNat k) 4 (Int.ofNat r), gitemQ r, addSQ (spS a q) (blS r) (partS a q r), appendQ ps 2]
theorem all18 {p : Nat → Prop} (h0 : p 0) (h1 : p 1) (h2 : p 2) (h3 : p 3) (h4 : p 4) (h5 : p 5) (h6 : p 6) (h7 : p 7) (h8 : p 8) (h9 : p 9) (h10 : p 10) (h11 : p 11) (h12 : p 12) (h13 : p 13) (h14 : p 14) (h15 : p 15) (h16 : p 16) (h17 : p 17) : ∀ a, a < 18 → p a := fun a ha => by
  rcases a with _ | _ | _ | _ | _ | _ | _ | _ | _ | _ | _ | _ | _ | _ | _ | _ | _ | _ | a
  all_goals first | assumption | exact absurd ha (by omega)
section
variable {w : World} {y : TX} {g : Nat → Nat} {lf : Nat} {ps : List Value} {m mw a ta r : Nat} {q : Bool} {kv : List (Str × Value)}
theorem tt_run (hk : KvK kv) (base tb : Nat) (ν : Nat → Nat) : ∀ k, k < 18 → RunsL [0, 1, 2, 3] ((fun _ _ ν G => [xT 0 3 G, Nat.add (ν 114) 706] ++ xK 0 5 G) base tb ν) (fun _ => .again (forCode w 272 0 y.f y.it))
    (fun ν => txPre w y (fun i => ν (i + 2)) [("k", .int (Int.ofNat k) (ν 0))] (Int.ofNat (k + 1)) (Int.ofNat (lf + 1) - 1) (ps ++ [.str (partS a q r) (ν 1)]) (m + 1) mw)
    (goes (mkV w (ttO y k a ta q r ps)) 97 22701740840003345258151335137442469922996401567327914220015559334584789328853558945064348717425163662146553948276481390751556567552 (forCode w 272 0 y.f y.it) (stay (txPre w y g kv (Int.ofNat k) (Int.ofNat (lf + 1)) ps m mw) base tb) 352 2020 ν) := by
  rcases hk with rfl | ⟨v, rfl⟩ <;> (refine all18 ?_ ?_ ?_ ?_ ?_ ?_ ?_ ?_ ?_ ?_ ?_ ?_ ?_ ?_ ?_ ?_ ?_ ?_ <;> (unfold RunsL; kernel_rfl))
theorem ttE_run {k : Int} (hk : KvK kv) (base tb : Nat) (ν : Nat → Nat) : RunsL [0, 2, 3] (xK 0 5) (fun _ => .ret (.ok .next))
    (fun ν => [(y.f, frm w ν (("words", .ref y.aW) :: ("number", .int y.X y.tx) :: ("parts", .ref y.aP) :: kv)), (y.aP, lst ps m), (y.aW, lst (wds y.ws) mw)])
    (goes (mkV w []) 18 110825144779343397376 (forCode w 272 0 y.f y.it) (stay (txPre w y g kv k (Int.ofNat 0) ps m mw) base tb) 352 2020 ν) := by
  rcases hk with rfl | ⟨v, rfl⟩ <;> (unfold RunsL; kernel_rfl)
end
end Mine
end
section
open PySem PySem.Spec PySem.Calls PySem.W PySem.W.X PyProof.Rows
set_option Elab.async false
set_option maxRecDepth 100000
set_option maxHeartbeats 0
namespace Mine
noncomputable def qAt (X : Int) (k : Nat) : Bool := X / Int.ofNat (2 ^ (k % 8)) % 2 == 1
noncomputable def rAt (X : Int) (k : Nat) : Nat := ((X + Int.ofNat k) % 4).toNat
noncomputable def itAt (X : Int) (k a : Nat) : It := ⟨a, qAt X k, blanks.getD (rAt X k) 0⟩
noncomputable def itsFrom (X : Int) : Nat → List Nat → List It
  | _, [] => []
  | k, a :: l => itAt X k a :: itsFrom X (k + 1) l
noncomputable def itS (i : It) : Str := ⟨(spell i ++ [i.b]).toArray⟩
noncomputable def pv (l : List (It × Tok)) : List Value := l.map fun p => .str (itS p.1) p.2
theorem partS_it (X : Int) (k a : Nat) : partS a (qAt X k) (rAt X k) = itS (itAt X k a) := rfl
section
variable {w : World} {T₀ : CT} {s₀ : Shared}
theorem gitemQ_ok {r : Nat} (h : r < 4) : OracleOk (B w) T₀ s₀ (gitemQ r) := by
  refine pure_ok F.entry_str_getitem (by decide +kernel) (fun p => ?_) fun _ => ?_
  · refine gives_str_getitem _ _ _ _ (blanks.getD r 0) ?_ ?_
    · have : r = 0 ∨ r = 1 ∨ r = 2 ∨ r = 3 := by omega
      rcases this with rfl | rfl | rfl | rfl <;> decide
    · have : r = 0 ∨ r = 1 ∨ r = 2 ∨ r = 3 := by omega
      rcases this with rfl | rfl | rfl | rfl <;> decide +kernel
  · show _ ≤ sizeLine; rw [sizeLine_eq]; simp [blS, Str.length]
theorem addSQ_ok {x y z : Str} (hx : (x.length == 0) = false) (hy : (y.length == 0) = false) (h : x ++ y = z) (hl : z.length ≤ 10000) : OracleOk (B w) T₀ s₀ (addSQ x y z) :=
  pure_ok F.entry_str_add (by decide +kernel) (fun a => by
    have g := gives_str_add x y a.1.2 a.2.2
    rw [if_neg (by rw [hx]; exact Bool.false_ne_true), if_neg (by rw [hy]; exact Bool.false_ne_true), h] at g
    exact g) fun _ => by show z.length ≤ sizeLine; rw [sizeLine_eq]; omega
end
theorem spS_len : ∀ a, a < 16 → ∀ q, ((spS a q).length == 0) = false ∧ (spS a q).length ≤ 10 := by
  refine all16 ?_ ?_ ?_ ?_ ?_ ?_ ?_ ?_ ?_ ?_ ?_ ?_ ?_ ?_ ?_ ?_ <;> (intro q; cases q <;> exact ⟨by decide, by decide⟩)
theorem part_add (a : Nat) (q : Bool) (r : Nat) : spS a q ++ blS r = partS a q r := by
  show (⟨(spell ⟨a, q, 0⟩).toArray ++ #[blanks.getD r 0]⟩ : Str) = ⟨(spell ⟨a, q, 0⟩ ++ [blanks.getD r 0]).toArray⟩
  simp
theorem part_len {a : Nat} (h : a < 16) (q : Bool) (r : Nat) : (partS a q r).length ≤ 11 := by
  have := (spS_len a h q).2
  have e : (partS a q r).length = (spS a q).length + 1 := by simp [partS, spS, Str.length]
  omega
structure TZ where
  g : Nat → Nat
  kv : List (Str × Value)
  ps : List (It × Tok)
  m : Nat
theorem tx_cg (w : World) (y : TX) (mw : Nat) (h16 : ∀ p ∈ y.ws, p.1 < 16) : ∀ (rest : List (Nat × Tok)) (k : Nat), y.ws.drop k = rest → k + rest.length ≤ 18 → ∀ (g : Nat → Nat) (kv : List (Str × Value)) (ps : List (It × Tok)) (m : Nat), KvK kv → ps.length = k →
    Cg (B w) (forCode w 272 0 y.f y.it) (txPre w y g kv (Int.ofNat k) (Int.ofNat rest.length) (pv ps) m mw) (fun z : TZ => z.ps.map Prod.fst = ps.map Prod.fst ++ itsFrom y.X k (rest.map Prod.fst) ∧ KvK z.kv)
      (fun z => [(y.f, frm w z.g (("words", .ref y.aW) :: ("number", .int y.X y.tx) :: ("parts", .ref y.aP) :: z.kv)), (y.aP, lst (pv z.ps) z.m), (y.aW, lst (wds y.ws) mw)]) (fun _ => .ok .next) 346 2010
  | [], k, hd, hl, g, kv, ps, m, hk, hp => by
    rw [← List.append_nil (txPre _ _ _ _ _ _ _ _ _)]
    exact bdone (d := 346) (u := 2010) (J := [0, 2, 3]) [] (fun _ _ _ => xK 0 5) (fun s _ Q hQ => by cases hQ) (fun base tb ν => ttE_run hk base tb ν) (nodupB rfl) (fun ν => ⟨⟨ν, kv, ps, m⟩, ⟨(List.append_nil _).symm, hk⟩, by rw [List.append_nil], rfl⟩)
  | (a, ta) :: rest, k, hd, hl, g, kv, ps, m, hk, hp => by
    have hk18 : k < 18 := by rw [List.length_cons] at hl; omega
    have hi := at_of_drop hd
    have hx : (wds y.ws)[k]? = some (.str (W a) ta) := by simp [wds, hi]
    have ha : a < 16 := h16 (a, ta) (List.mem_of_getElem? hi)
    have hwl : (wds y.ws).length ≤ 10000 := by
      have := congrArg List.length hd
      simp only [List.length_drop, List.length_cons] at this
      simp only [wds, List.length_map]
      rw [List.length_cons] at hl
      omega
    have hr4 : rAt y.X k < 4 := by unfold rAt; omega
    have hrr : (y.X + Int.ofNat k) % 4 = Int.ofNat (rAt y.X k) := by unfold rAt; simp only [Int.ofNat_eq_natCast]; omega
    have hqq : y.X / Int.ofNat (2 ^ (k % 8)) % 2 = bI (qAt y.X k) := by
      unfold qAt bI
      by_cases h : y.X / Int.ofNat (2 ^ (k % 8)) % 2 = 1
      · rw [h]; rfl
      · have : y.X / Int.ofNat (2 ^ (k % 8)) % 2 = 0 := by omega
        rw [this]; rfl
    have hpow : (0 : Int) < Int.ofNat (2 ^ (k % 8)) ∧ Int.ofNat (2 ^ (k % 8)) < 1000000 := by
      have h1 : 0 < 2 ^ (k % 8) := Nat.pos_of_ne_zero (by simp)
      have h2 : 2 ^ (k % 8) ≤ 2 ^ 8 := Nat.pow_le_pow_right (by decide) (by omega)
      simp only [Int.ofNat_eq_natCast]
      omega
    have hpl : (pv ps).length ≤ 1000 := by simp only [pv, List.length_map]; omega
    have hrange : rangeIt (Int.ofNat (k + 1)) (Int.ofNat (rest.length + 1) - 1) 1 = rangeIt (Int.ofNat (k + 1)) (Int.ofNat rest.length) 1 := by
      have : (Int.ofNat (rest.length + 1) - 1 : Int) = Int.ofNat rest.length := by simp only [Int.ofNat_eq_natCast]; omega
      rw [this]
    rw [← List.append_nil (txPre _ _ _ _ _ _ _ _ _)]
    refine bturn (d := 346) (u := 2010) (J := [0, 1, 2, 3]) (ttO y k a ta (qAt y.X k) (rAt y.X k) (pv ps)) (fun _ _ ν G => [xT 0 3 G, Nat.add (ν 114) 706] ++ xK 0 5 G)
      (fun s _ => all_cons (getQ_ok rfl hx hwl 3) (all_cons (fdQ_ok hpow.1 hpow.2 rfl) (all_cons (modQ_ok (by decide) hqq) (all_cons (spellQ_ok ha _) (all_cons (plusQ_ok rfl) (all_cons (modQ_ok (by decide) hrr) (all_cons (gitemQ_ok hr4) (all_cons (addSQ_ok (spS_len a ha _).1 rfl (part_add _ _ _) (by have := part_len ha (qAt y.X k) (rAt y.X k); omega)) (all_one (appendQ_ok hpl 2)))))))))) (fun base tb ν => tt_run (lf := rest.length) hk base tb ν k hk18) (nodupB rfl) (fun _ => rfl) (fun ν => ?_)
    have e : pv ps ++ [.str (partS a (qAt y.X k) (rAt y.X k)) (ν 1)] = pv (ps ++ [(itAt y.X k a, ν 1)]) := by simp [pv, partS_it]
    have ih := tx_cg w y mw h16 rest (k + 1) (drop_next hd) (by rw [List.length_cons] at hl; omega) (fun i => ν (i + 2)) [("k", .int (Int.ofNat k) (ν 0))] (ps ++ [(itAt y.X k a, ν 1)]) (m + 1) (.inr ⟨_, rfl⟩) (by simp [hp])
    rw [List.append_nil, e]
    refine Cg.mono (P' := fun z : TZ => z.ps.map Prod.fst = (ps ++ [(itAt y.X k a, ν 1)]).map Prod.fst ++ itsFrom y.X (k + 1) (rest.map Prod.fst) ∧ KvK z.kv) ?_ fun z hz => ⟨?_, hz.2⟩
    · unfold txPre at ih ⊢
      rw [hrange]
      exact ih
    · rw [hz.1]
      simp [itsFrom]
end Mine
end
section
open PySem PySem.Spec PySem.Calls PySem.W PySem.W.X PyProof.Rows
set_option Elab.async false
set_option maxRecDepth 100000
set_option maxHeartbeats 0
namespace Mine
noncomputable def txS (its : List It) : Str := ⟨(textOf its).toArray⟩
theorem textOf_cons (i : It) (l : List It) : textOf (i :: l) = (spell i ++ [i.b]) ++ textOf l := by simp [textOf]
theorem fold_its : ∀ (l : List It) (acc : Array Nat), (l.map itS).foldl (fun acc p => acc ++ (Str.ofString "").cps ++ p.cps) acc = acc ++ (textOf l).toArray
  | [], acc => by simp [textOf]
  | i :: l, acc => by
    rw [List.map_cons, List.foldl_cons, fold_its l, textOf_cons]
    have : (Str.ofString "").cps = #[] := by decide
    rw [this]
    simp [itS]
theorem glued_its (l : List It) : Builtin.Str.glued "" (l.map itS) = txS l := by
  unfold Builtin.Str.glued txS
  cases l with
  | nil => rfl
  | cons i l =>
    show (⟨(l.map itS).foldl _ (itS i).cps⟩ : Str) = _
    rw [fold_its, textOf_cons]
    simp [itS]
noncomputable def joinS (l : List (It × Tok)) (p : Tok × Addr × Nat) : Job where
  code := .builtin "str.join" ⟨[.str "" p.1, .ref p.2.1], []⟩
  pre := [(p.2.1, lst (pv l) p.2.2)]
  post := fun _ => [lst (pv l) p.2.2]
  new := fun _ => []
  r := fun ν => strR (txS (l.map Prod.fst)) (ν 2)
  d := 990
  u := 9000
theorem itS_len {i : It} (h : i.a < 16) : (itS i).length ≤ 11 := by
  obtain ⟨a, q, b⟩ := i
  have := (spS_len a h q).2
  have e : (itS ⟨a, q, b⟩).length = (spS a q).length + 1 := by simp [itS, spS, Str.length, spell]
  omega
theorem sum_len : ∀ (l : List Str) (n : Nat), (∀ x ∈ l, x.length ≤ 11) → l.foldl (· + ·.length + (Str.ofString "").length) n ≤ n + 11 * l.length
  | [], n, _ => by simp
  | x :: l, n, h => by
    rw [List.foldl_cons]
    have := sum_len l (n + x.length + (Str.ofString "").length) fun y hy => h y (List.mem_cons_of_mem _ hy)
    have h1 := h x (List.mem_cons_self ..)
    have h2 : (Str.ofString "").length = 0 := by decide
    rw [h2] at this ⊢
    rw [List.length_cons]
    omega
theorem textOf_len : ∀ (l : List It), (∀ i ∈ l, i.a < 16) → (textOf l).length ≤ 11 * l.length
  | [], _ => by simp [textOf]
  | i :: l, h => by
    have h1 := itS_len (h i (List.mem_cons_self ..))
    have h2 := textOf_len l fun j hj => h j (List.mem_cons_of_mem _ hj)
    have e : (itS i).length = (spell i ++ [i.b]).length := by simp [itS, Str.length]
    rw [textOf_cons, List.length_append, List.length_cons]
    omega
theorem join_ctr (w : World) {l : List (It × Tok)} (h16 : ∀ p ∈ l, p.1.a < 16) (hl : l.length ≤ 100) (p : Tok × Addr × Nat) : Ctr (B w) (fun _ => True) (joinS l p) := by
  obtain ⟨t, a, n⟩ := p
  intro A s R h0 hd hu _ hS hR
  have ho : s.heap.get? a = some (lst (pv l) n) := hS.heap 0 rfl
  have hpv : pv l = strValues (l.map fun p => (itS p.1, p.2)) := by simp [pv, strValues]
  have hm : (l.map fun p => (itS p.1, p.2)).map (·.1) = (l.map Prod.fst).map itS := by simp
  have hlist : s.heap.IsList a (strValues (l.map fun p => (itS p.1, p.2))).toArray := ⟨_, ho, rfl, n, by rw [← hpv]; rfl⟩
  have hbig : Builtin.Str.tooLong (((l.map fun p => (itS p.1, p.2)).map (·.1)).toArray.foldl (· + ·.length + (Str.ofString "").length) 0) = false := by
    rw [hm]
    have := sum_len ((l.map Prod.fst).map itS) 0 fun x hx => by
      obtain ⟨i, hi, rfl⟩ := List.mem_map.mp hx
      obtain ⟨p, hp, rfl⟩ := List.mem_map.mp hi
      exact itS_len (h16 p hp)
    simp only [List.length_map] at this
    have e : ((l.map Prod.fst).map itS).toArray.foldl (· + ·.length + (Str.ofString "").length) 0 = ((l.map Prod.fst).map itS).foldl (· + ·.length + (Str.ofString "").length) 0 := by simp
    rw [e]
    simp only [Builtin.Str.tooLong, sizeLine_eq, decide_eq_false_iff_not]
    omega
  refine code_meets F.entry_str_join (by decide +kernel) (meets_str_join_list "" t a (l.map fun p => (itS p.1, p.2)) hbig) ⟨hlist, ?_⟩
  have lo := hS.lo
  have tl : (textOf (l.map Prod.fst)).length ≤ 11 * l.length := by
    have := textOf_len (l.map Prod.fst) fun i hi => by
      obtain ⟨p, hp, rfl⟩ := List.mem_map.mp hi
      exact h16 p hp
    simpa using this
  have two : ∀ x : Str, x = txS (l.map Prod.fst) → (Made.str x).post (fun v s' => R (.ok (.ret v)) s') s := fun x hx => by
    refine ⟨?_, ?_⟩
    · rw [hx, sizeLine_eq]
      show (textOf (l.map Prod.fst)).toArray.size ≤ _
      rw [List.size_toArray]; omega
    · rw [hx]
      exact hR (nu { s with toks := s.toks + 1 } [s.toks]) _ (Inv.restrict (nodupB rfl) (Inv.start hS).tok (J := [0]) rfl rfl (by show s.toks + 1 = s.toks + 1 - 706 + 706; omega))
  rcases l with _ | ⟨p, _ | ⟨q, r⟩⟩
  · exact two _ rfl
  · have e : itS p.1 = txS [p.1] := by
      show (⟨(spell p.1 ++ [p.1.b]).toArray⟩ : Str) = ⟨(textOf [p.1]).toArray⟩
      rw [textOf_cons]; simp [textOf]
    show R (.ok (.ret (.str (itS p.1) p.2))) s
    rw [e]
    exact hR (nu s [p.2]) s (inv_same (V := B w) (L := [(a, lst (pv [p]) n)]) hS (fun _ _ e => e) (Nat.le_refl _) rfl rfl rfl)
  · refine two _ ?_
    show Builtin.Str.glued "" (((p :: q :: r).map fun p => (itS p.1, p.2)).map (·.1)) = _
    rw [hm]
    exact glued_its _
noncomputable def joinQ (l : List (It × Tok)) (j : Nat) : OracleAt := QF [j] (fun c ps => some (callTok 0 c, adAt 0 ps, ktoks (obAt 0 ps) 0)) (joinS l) 990 9000
theorem joinQ_ok {w : World} {T₀ : CT} {s₀ : Shared} {l : List (It × Tok)} (h16 : ∀ p ∈ l, p.1.a < 16) (hl : l.length ≤ 100) (j : Nat) : OracleOk (B w) T₀ s₀ (joinQ l j) :=
  lift_ok (F := fun _ => True) (by simp) (fun _ _ _ => trivial) (fun p => join_ctr w h16 hl p) (fun _ => Nat.le_refl _) (fun _ => Nat.le_refl _)
end Mine
end
section
open PySem PySem.Spec PySem.Calls PySem.W PySem.W.X PyProof.Rows
set_option Elab.async false
set_option maxRecDepth 100000
set_option maxHeartbeats 0
namespace Mine
/-! ## law: from the given words to the text -/
structure LC where
  s : LB
  ms : Nat → Nat
  n : NZ
  b : Nat
  t : Nat
  ν₀ : Nat → Nat
  ν : Nat → Nat
  z : GZ
noncomputable def LC.κ (w : World) (c : LC) : Kap := kapO (c.s.goC w c.ms c.n c.b c.t c.ν₀)
noncomputable def LC.y (c : LC) : GV := c.s.gv c.ms c.n c.b
noncomputable def LC.Z (c : LC) : Int := c.s.a.c.Z
noncomputable def LC.front (w : World) (c : LC) : List (Addr × Obj) := [(c.y.D, dct w c.z.g [("k", c.z.v)]), (c.y.acc, lst (wds c.z.gw) c.z.m)] ++ giRest c.y ++ c.s.rest w c.ν
noncomputable def turn (k : Nat) (gw : List (Nat × Tok)) : List (Nat × Tok) := gw.drop k ++ gw.take k
noncomputable def txO (c : LC) (k : Nat) : List OracleAt := [knQ "int.__floordiv__" c.Z 24 (c.Z / 24), knQ "int.__mod__" (c.Z / 24) 16 (Int.ofNat k), slQ (wds c.z.gw) (wds (c.z.gw.drop k)) (some (Int.ofNat k)) none none 1 12, slQ (wds c.z.gw) (wds (c.z.gw.take k)) none (some (Int.ofNat k)) none 1 14, catQ (wds (c.z.gw.drop k)) (wds (c.z.gw.take k)) 13 15,
  slQ (wds (c.z.gw.drop k) ++ wds (c.z.gw.take k)) (wds ((turn k c.z.gw).take 2)) none (some 2) none 16 17, catQ (wds (c.z.gw.drop k) ++ wds (c.z.gw.take k)) (wds ((turn k c.z.gw).take 2)) 16 18, knQ "int.__floordiv__" c.Z 384 (c.Z / 384)]
section
variable {w : World} {c : LC} {k b3 t3 : Nat}
noncomputable def textCode (aW : Addr) (x : Int) (t : Tok) : Code := .call (.ref 272) ⟨[.ref aW, .int x t], []⟩
noncomputable def LC.goD (w : World) (c : LC) (k b3 t3 : Nat) (ν : Nat → Nat) : Out := goesOn (mkV w (txO c k)) 111 95276200597093253621599470653087816666434317712252766315263908221405023140995797553487276373135165458982061371208720938625377166940669806848 (.ok .next) (c.κ w) (stay (c.front w) b3 t3) 316 1020 ν
noncomputable def LC.f (c : LC) : Addr := c.s.a.b
noncomputable def LC.keep (w : World) (c : LC) (lex : Obj) : List (Addr × Obj) := [(c.f + 1, cellObj (.int c.s.a.c.T (c.s.a.ν 1))), (c.f + 2, cellObj (.ref c.s.a.ao)), (c.f + 3, cellObj (.ref c.y.aB)), (c.f + 4, cellObj (.ref c.y.aN)), (c.f + 5, lex), (c.y.aB, lst (bv c.y.b c.y.tb 16) c.y.mb), (c.y.aN, lst (bv (fun k => N (c.y.ms k)) c.y.tn 16) c.y.mn), (c.s.a.ao, lst (ords c.s.a.fs) 0)]
noncomputable def LC.kvD (c : LC) (k : Nat) (ν₀ ν : Nat → Nat) : List (Str × Value) := [("script", .ref c.s.a.c.aS), ("second", .int c.Z (c.s.a.ν 0)), ("given", .ref c.y.acc), ("first", .int (Int.ofNat k) (ν 0)), ("turned", .ref (ν₀ 66))]
theorem lD_run (ν₀ : Nat → Nat) : RunsL [19, 8, 9, 6, 2, 3, 10, 4, 5, 7, 11] (fun G => [xT 8 3 G] ++ xK 8 6 G) (fun _ => .stop (textCode (ν₀ 98) (c.Z / 384) (ν₀ 114 + 706)) 316 1020)
    (fun ν => [(ν₀ 98, lst (wds (c.z.gw.drop k) ++ wds (c.z.gw.take k) ++ wds ((turn k c.z.gw).take 2)) 0), (c.f, frm w (fun i => ν (i + 1)) (c.kvD k ν₀ ν))] ++ c.keep w noCell ++ [(234, tab0)])
    (c.goD w k b3 t3 ν₀) := by
  unfold RunsL; kernel_rfl
end
end Mine
end
section
open PySem PySem.Spec PySem.Calls PySem.W PySem.W.X PyProof.Rows
set_option Elab.async false
set_option maxRecDepth 100000
set_option maxHeartbeats 0
namespace Mine
section
variable {w : World} {aW mw tx : Nat} {X : Int} {ws : List (Nat × Tok)}
noncomputable def textGo (w : World) (aW mw tx : Nat) (X : Int) (ws : List (Nat × Tok)) (n : Nat) (base tb : Nat) (ν : Nat → Nat) : Out := goes (mkV w [lenCQ (wds ws) (Int.ofNat n) 0]) 59 257123914372202946575049159463571651158710761633361294995209117379043186488065095616167937 (textCode aW X tx) (stay [(aW, lst (wds ws) mw)] base tb) 346 2010 ν
theorem all19 {p : Nat → Prop} (h0 : p 0) (h1 : p 1) (h2 : p 2) (h3 : p 3) (h4 : p 4) (h5 : p 5) (h6 : p 6) (h7 : p 7) (h8 : p 8) (h9 : p 9) (h10 : p 10) (h11 : p 11) (h12 : p 12) (h13 : p 13) (h14 : p 14) (h15 : p 15) (h16 : p 16) (h17 : p 17) (h18 : p 18) : ∀ a, a ≤ 18 → p a := fun a ha => by
  rcases a with _ | _ | _ | _ | _ | _ | _ | _ | _ | _ | _ | _ | _ | _ | _ | _ | _ | _ | _ | a
  all_goals first | assumption | exact absurd ha (by omega)
noncomputable def txY (aW : Addr) (X : Int) (tx : Tok) (ws : List (Nat × Tok)) (base : Nat) (ν₀ : Nat → Nat) : TX := ⟨base, ν₀ 0 + 1, base + 1, aW, X, tx, ws⟩
theorem xA_run (base tb : Nat) (ν₀ : Nat → Nat) : ∀ n, n ≤ 18 → RunsL [1, 4, 2, 0] (xK 1 4) (fun _ => .stop (forCode w 272 0 base (ν₀ 0 + 1)) 352 2020)
    (fun ν => txPre w (txY aW X tx ws base ν₀) ν [] (Int.ofNat 0) (Int.ofNat n) [] 0 mw)
    (textGo w aW mw tx X ws n base tb ν₀) := by
  refine all19 ?_ ?_ ?_ ?_ ?_ ?_ ?_ ?_ ?_ ?_ ?_ ?_ ?_ ?_ ?_ ?_ ?_ ?_ ?_ <;> (unfold RunsL; kernel_rfl)
end
end Mine
end
section
open PySem PySem.Spec PySem.Calls PySem.W PySem.W.X PyProof.Rows
set_option Elab.async false
set_option maxRecDepth 100000
set_option maxHeartbeats 0
namespace Mine
noncomputable def txOut (w : World) (y : TX) (z : TZ) (mw : Nat) : List (Addr × Obj) := [(y.f, frm w z.g (("words", .ref y.aW) :: ("number", .int y.X y.tx) :: ("parts", .ref y.aP) :: z.kv)), (y.aP, lst (pv z.ps) z.m), (y.aW, lst (wds y.ws) mw)]
section
variable {w : World} {aW mw tx : Nat} {X : Int} {ws : List (Nat × Tok)} {b0 t0 b1 t1 : Nat} {ν₀ : Nat → Nat} {z : TZ}
theorem xB_run (hk : KvK z.kv) (ν : Nat → Nat) : ∀ n, n ≤ 18 → RunsL [2] (fun G => [tokR G.e]) (fun ν => .ret (strR (txS (z.ps.map Prod.fst)) (ν 0)))
    (fun _ => [(aW, lst (wds ws) mw)])
    (goesOn (mkV w [joinQ z.ps 1]) 13 262145 (.ok .next) (kapO (textGo w aW mw tx X ws n b0 t0 ν₀)) (stay (txOut w (txY aW X tx ws b0 ν₀) z mw) b1 t1) 352 2020 ν) := by
  obtain ⟨g, kv, ps, m⟩ := z
  rcases hk with hk | ⟨v, hk⟩ <;> (obtain rfl : kv = _ := hk) <;> (refine all19 ?_ ?_ ?_ ?_ ?_ ?_ ?_ ?_ ?_ ?_ ?_ ?_ ?_ ?_ ?_ ?_ ?_ ?_ ?_ <;> (unfold RunsL; kernel_rfl))
end
/-! ## _law_text -/
theorem text_cg (w : World) (aW mw tx : Nat) (X : Int) (ws : List (Nat × Tok)) (h16 : ∀ p ∈ ws, p.1 < 16) (hl : ws.length ≤ 18) :
    Cg (B w) (textCode aW X tx) [(aW, lst (wds ws) mw)] (fun _ : Tok => True) (fun _ => [(aW, lst (wds ws) mw)]) (fun t => strR (txS (itsFrom X 0 (ws.map Prod.fst))) t) 340 2000 := by
  rw [← List.append_nil [(aW, lst (wds ws) mw)]]
  have hlen : (wds ws).length = ws.length := by simp [wds]
  refine bcut (d := 340) (u := 2000) (dd := 346) (uu := 2010) (d' := 352) (u' := 2020) (P' := fun _ _ _ _ => fun z : TZ => z.ps.map Prod.fst = itsFrom X 0 (ws.map Prod.fst) ∧ KvK z.kv) (out' := fun base _ ν₀ _ z => txOut w (txY aW X tx ws base ν₀) z mw) (r' := fun _ _ _ _ _ => .ok .next)
    [lenCQ (wds ws) (Int.ofNat ws.length) 0] (fun _ _ _ => xK 1 4) (fun s _ => all_one (lenCQ_ok (by rw [hlen]; rfl) (by omega) 0)) (fun base tb ν => xA_run base tb ν _ hl) (nodupB rfl) (fun base tb ν₀ ν => ?_) (by decide) (by decide) (fun base tb ν₀ ν z hz => ?_)
  · have := tx_cg w (txY aW X tx ws base ν₀) mw h16 ws 0 rfl (by omega) ν [] [] 0 (.inl rfl) rfl
    rw [List.append_nil]
    exact this.mono fun z hz => ⟨by have h := hz.1; rw [List.map_nil, List.nil_append] at h; exact h, hz.2⟩
  · have hps16 : ∀ p ∈ z.ps, p.1.a < 16 := fun p hp => by
      have h1 : p.1 ∈ itsFrom X 0 (ws.map Prod.fst) := by rw [← hz.1]; exact List.mem_map_of_mem hp
      have h2 : ∀ (l : List Nat) (k : Nat), (∀ a ∈ l, a < 16) → ∀ i ∈ itsFrom X k l, i.a < 16 := by
        intro l
        induction l with
        | nil => intro k _ i hi; cases hi
        | cons a l ih =>
          intro k h i hi
          rcases List.mem_cons.mp hi with rfl | hi
          · exact h a (List.mem_cons_self ..)
          · exact ih (k + 1) (fun b hb => h b (List.mem_cons_of_mem _ hb)) i hi
      exact h2 _ 0 (fun a ha => by obtain ⟨p, hp, rfl⟩ := List.mem_map.mp ha; exact h16 p hp) _ h1
    have hpl : z.ps.length ≤ 100 := by
      have e1 := congrArg List.length hz.1
      have e2 : ∀ (l : List Nat) (k : Nat), (itsFrom X k l).length = l.length := by
        intro l
        induction l with
        | nil => intro k; rfl
        | cons a l ih => intro k; simp [itsFrom, ih]
      rw [e2] at e1
      simp only [List.length_map] at e1
      omega
    show Ck (B w) (kapO (textGo w aW mw tx X ws ws.length base tb ν₀)) (.ok .next) (txOut w (txY aW X tx ws base ν₀) z mw) _ _ _ 340 2000 352 2020
    have run := fun b1 t1 ν => xB_run (w := w) (aW := aW) (mw := mw) (tx := tx) (X := X) (ws := ws) (b0 := base) (t0 := tb) (b1 := b1) (t1 := t1) (ν₀ := ν₀) (z := z) hz.2 ν _ hl
    generalize kapO (textGo w aW mw tx X ws ws.length base tb ν₀) = κ at run
    rw [← List.append_nil (txOut _ _ _ _)]
    refine kdone [joinQ z.ps 1] (fun _ _ _ G => [tokR G.e]) (fun s _ => all_one (joinQ_ok hps16 hpl 1)) run (nodupB rfl) (fun ν => ⟨ν 0, trivial, by rw [List.append_nil], by rw [hz.1]⟩)
end Mine
end
section
open PySem PySem.Spec PySem.Calls PySem.W PySem.W.X PyProof.Rows
set_option Elab.async false
set_option maxRecDepth 100000
set_option maxHeartbeats 0
namespace Mine
/-! ## law: from the text to the board -/
structure LD where
  c : LC
  k : Nat
  b : Nat
  t : Nat
  ν₀ : Nat → Nat
  ν : Nat → Nat
noncomputable def LD.κ (w : World) (d : LD) : Kap := kapO (d.c.goD w d.k d.b d.t d.ν₀)
noncomputable def LD.front (w : World) (d : LD) : List (Addr × Obj) := [(d.c.f, frm w (fun i => d.ν (i + 1)) (d.c.kvD d.k d.ν₀ d.ν))] ++ d.c.keep w noCell ++ [(234, tab0)]
noncomputable def lexQ (w : World) (cs : List Nat) (j : Nat) : OracleAt := QF [j] (fun c _ => some (callTok 0 c)) (lexS w cs) 600 5000
section
variable {w : World} {d : LD} {cs : List Nat} {tk b4 t4 : Nat}
theorem lexQ_ok {w : World} {T₀ : CT} {s₀ : Shared} {cs : List Nat} (hl : cs.length ≤ 10000) (j : Nat) : OracleOk (B w) T₀ s₀ (lexQ w cs j) :=
  lift_ok (F := fun _ => True) (by simp) (fun _ _ _ => trivial) (fun t => lex_ctr w hl t _) (fun _ => Nat.le_refl _) (fun _ => Nat.le_refl _)
noncomputable def LD.goE (w : World) (d : LD) (cs : List Nat) (tk b4 t4 : Nat) (ν : Nat → Nat) : Out := goesOn (mkV w [lexQ w cs 9]) 34 40565754915998836506786411905280 (strR ⟨cs.toArray⟩ tk) (d.κ w) (stay (d.front w) b4 t4) 316 1020 ν
noncomputable def lxOf (ν₀ : Nat → Nat) : Lx := ⟨ν₀ 2, ν₀ 3, ν₀ 4, ν₀ 5, 0⟩
noncomputable def lsOf0 (ν₀ : Nat → Nat) : Ls := ⟨1, ν₀ 3 + 26, [], 0, ν₀ 8⟩
noncomputable def LD.f (d : LD) : Addr := d.c.f
noncomputable def LD.kvE (d : LD) (cs : List Nat) (tk : Tok) : List (Str × Value) := [("script", .ref d.c.s.a.c.aS), ("second", .int d.c.Z (d.c.s.a.ν 0)), ("given", .ref d.c.y.acc), ("first", .int (Int.ofNat d.k) (d.ν 0)), ("turned", .ref (d.ν₀ 66)), ("text", .str ⟨cs.toArray⟩ tk)]
noncomputable def LD.rest (w : World) (d : LD) (kv : List (Str × Value)) (x : Lx) (g : Nat → Nat) : List (Addr × Obj) := [(d.f, frm w g kv), (d.f + 1, cellObj (.int d.c.s.a.c.T (d.c.s.a.ν 1))), (d.f + 2, cellObj (.ref d.c.s.a.ao)), (d.f + 3, cellObj (.ref d.c.y.aB)), (d.f + 4, cellObj (.ref d.c.y.aN)), (d.f + 5, cellObj (.ref (x.B + 13))), (d.c.y.aB, lst (bv d.c.y.b d.c.y.tb 16) d.c.y.mb), (d.c.y.aN, lst (bv (fun k => N (d.c.y.ms k)) d.c.y.tn 16) d.c.y.mn)]
noncomputable def tabX (a : Addr) : Obj := { cls := .none, data := .fields #[.int 153 0, .int 4 0, .ref a] }
theorem lE_run (ν₀ : Nat → Nat) : RunsL [10, 11, 12, 13, 14, 15, 16, 17, 18, 8, 0, 1, 2, 3, 4, 5, 6, 7, 9] (xK 0 7) (fun _ => .stop (downCode (lxOf ν₀) d.c.s.a.ao) 316 1020)
    (fun ν => downPre w (lxOf ν₀) (lsOf0 ν₀) (sgn cs (dig (ν₀ 6) (ν₀ 7))) d.c.s.a.ao (ords d.c.s.a.fs) 0 ++ d.rest w (d.kvE cs tk) (lxOf ν₀) ν ++ [(234, tabX (ν₀ 2 + 6))])
    (d.goE w cs tk b4 t4 ν₀) := by
  unfold RunsL; kernel_rfl
end
end Mine
end
section
open PySem PySem.Spec PySem.Calls PySem.W PySem.W.X PyProof.Rows
set_option Elab.async false
set_option maxRecDepth 100000
set_option maxHeartbeats 0
namespace Mine
/-! ## law: from the board to what is due -/
structure LE where
  d : LD
  cs : List Nat
  tk : Tok
  b : Nat
  t : Nat
  ν₀ : Nat → Nat
  ν : Nat → Nat
noncomputable def LE.κ (w : World) (e : LE) : Kap := kapO (e.d.goE w e.cs e.tk e.b e.t e.ν₀)
noncomputable def LE.x (e : LE) : Lx := lxOf e.ν₀
noncomputable def LE.ao (e : LE) : Nat := e.d.c.s.a.ao
noncomputable def LE.fs (e : LE) : List (Nat × Tok) := e.d.c.s.a.fs
noncomputable def LE.lexB (w : World) (e : LE) (z : DR) : List (Addr × Obj) := e.x.all w { z.l with pb := wds z.pb } [] ++ z.b.cells w (vals z.es) z.eb ++ [(e.ao, lst (ords e.fs) 0)]
noncomputable def LE.front (w : World) (e : LE) (z : DR) : List (Addr × Obj) := e.lexB w z ++ e.d.rest w (e.d.kvE e.cs e.tk) e.x e.ν
section
variable {w : World} {e : LE} {z : DR} {b5 t5 : Nat}
noncomputable def LE.goF (w : World) (e : LE) (z : DR) (b5 t5 : Nat) (ν : Nat → Nat) : Out := goesOn (mkV w []) 51 3358790982274930511466700937341708975179742718864082837835264 (.ok (.ret (Value.ref z.b.aB))) (e.κ w) (stay (e.front w z) b5 t5) 316 1020 ν
noncomputable def LE.f (e : LE) : Addr := e.d.f
noncomputable def LE.gv (e : LE) (b5 : Nat) : GV := ⟨e.d.f, b5 + 3, b5 + 1, b5 + 2, e.d.c.y.aB, e.d.c.y.aN, e.d.c.y.b, e.d.c.y.tb, e.d.c.y.mb, e.d.c.y.ms, e.d.c.y.tn, e.d.c.y.mn⟩
noncomputable def LE.kvF (e : LE) (z : DR) : List (Str × Value) := e.d.kvE e.cs e.tk ++ [(("board" : Str), Value.ref z.b.aB)]
noncomputable def LE.rest (w : World) (e : LE) (z : DR) (kv : List (Str × Value)) (g : Nat → Nat) : List (Addr × Obj) := [(e.f, frm w g kv), (e.f + 1, cellObj (.int e.d.c.s.a.c.T (e.d.c.s.a.ν 1))), (e.f + 2, cellObj (.ref e.ao)), (e.f + 5, cellObj (.ref (e.x.B + 13)))] ++ e.lexB w z
theorem lF_run (ν : Nat → Nat) : RunsL [24, 22, 23, 16, 17, 19, 20, 13, 14, 15, 18, 0, 1, 2, 3, 4, 5, 6, 7, 8, 9, 10, 11, 12] (fun G => xK 13 8 G ++ xK 24 1 G) (fun _ => .stop (compHead w 294 4 (b5 + 1) (b5 + 2) e.f (b5 + 3) [("numbers", e.f + 4), ("bits", e.f + 3)]) 316 1020)
    (fun ν => giPre w (e.gv b5) (fun i => ν (i + 8)) [] 0 [] 0 ++ e.rest w z (e.kvF z) ν)
    (e.goF w z b5 t5 ν) := by
  unfold RunsL; kernel_rfl
end
end Mine
end
section
open PySem PySem.Spec PySem.Calls PySem.W PySem.W.X PyProof.Rows
set_option Elab.async false
set_option maxRecDepth 100000
set_option maxHeartbeats 0
namespace Mine
/-! ## law: from what is due to the line -/
structure LF where
  e : LE
  z : DR
  b : Nat
  t : Nat
  ν₀ : Nat → Nat
  ν : Nat → Nat
  q : DZ
noncomputable def LF.κ (w : World) (c : LF) : Kap := kapO (c.e.goF w c.z c.b c.t c.ν₀)
noncomputable def LF.y (c : LF) : GV := c.e.gv c.b
noncomputable def LF.front (w : World) (c : LF) : List (Addr × Obj) := c.q.cells w c.y ++ c.e.rest w c.z (c.e.kvF c.z) c.ν
end Mine
end
section
open PySem PySem.Spec PySem.Calls PySem.W PySem.W.X PyProof.Rows
set_option Elab.async false
set_option maxRecDepth 100000
set_option maxHeartbeats 0
namespace Mine
/-! ## the line -/
structure IL where
  x : Lx
  f : Addr
  D : Addr
  it : Addr
  acc : Addr
  aU : Addr
noncomputable def liCode (w : World) (y : IL) : Code := compCode w 294 5 y.it y.acc y.f y.D [("lexer", y.f + 5)]
noncomputable def liPre (w : World) (y : IL) (l : Ls) (pb : List Value) (g : Nat → Nat) (kv : List (Str × Value)) (vs : List Value) (i md : Nat) (ac : List Value) (m : Nat) : List (Addr × Obj) := y.x.cells w l.line l.tl pb l.ep ++ [(y.D, dct w g kv), (y.it, iterObj y.aU i), (y.acc, lst ac m), (y.aU, lst vs md), (y.f + 5, cellObj (.ref (y.x.B + 13)))]
noncomputable def liPost (w : World) (y : IL) (l : Ls) (pb : List Value) (g : Nat → Nat) (kv : List (Str × Value)) (vs : List Value) (md : Nat) (ac : List Value) (m : Nat) : List (Addr × Obj) := y.x.cells w l.line l.tl pb l.ep ++ [(y.D, dct w g kv), (y.acc, lst ac m), (y.aU, lst vs md), (y.f + 5, cellObj (.ref (y.x.B + 13)))]
noncomputable def liO (w : World) (y : IL) (vs : List Value) (i : Nat) (a : Addr) (q t : Nat) (pb ac : List Value) : List OracleAt := [nextQ vs i (.ref a) 4 6, popTQ w y.x (W q) t pb, appendQ ac 5]
noncomputable def KvI (kv : List (Str × Value)) : Prop := kv = [] ∨ ∃ v, kv = [(("one" : Str), v)]
section
variable {w : World} {y : IL} {l : Ls} {pb : List Value} {q ta : Nat} {g : Nat → Nat} {kv : List (Str × Value)} {vs : List Value} {i md : Nat} {ac : List Value} {m a : Nat}
theorem li1_run (hk : KvI kv) (base tb : Nat) (ν : Nat → Nat) : RunsL [0, 1, 2, 3, 4, 5, 6, 7] (xK 3 2) (fun _ => .again (liCode w y))
    (fun ν => liPre w y { l with ep := l.ep + 1 } pb ν [("one", .ref a)] vs (i + 1) md (ac ++ [.str (W q) ta]) (m + 1))
    (goes (mkV w (liO w y vs i a q ta pb ac)) 41 13965884255368782113690931713600714573697367857102780384334497720567040 (liCode w y) (stay (liPre w y l (.str (W q) ta :: pb) g kv vs i md ac m) base tb) 316 1020 ν) := by
  rcases hk with rfl | ⟨v, rfl⟩ <;> (unfold RunsL; kernel_rfl)
theorem liE_run (hk : KvI kv) (base tb : Nat) (ν : Nat → Nat) : RunsL [0, 1, 2, 3, 5, 6, 7] (xK 3 2) (fun _ => .ret (.ok .next))
    (fun ν => liPost w y l pb ν kv vs md ac m)
    (goes (mkV w [endQ vs i 4 6]) 9 11012380034304 (liCode w y) (stay (liPre w y l pb g kv vs i md ac m) base tb) 316 1020 ν) := by
  rcases hk with rfl | ⟨v, rfl⟩ <;> (unfold RunsL; kernel_rfl)
end
end Mine
end
section
open PySem PySem.Spec PySem.Calls PySem.W PySem.W.X PyProof.Rows
set_option Elab.async false
set_option maxRecDepth 100000
set_option maxHeartbeats 0
namespace Mine
/-! ## law: from what is due to the line, the run -/
noncomputable def LF.f (c : LF) : Addr := c.e.f
noncomputable def LF.x (c : LF) : Lx := c.e.x
noncomputable def LF.goG (w : World) (c : LF) (b6 t6 : Nat) (ν : Nat → Nat) : Out := goesOn (mkV w []) 32 10871372166532074395983497939846912 (.ok .next) (c.κ w) (stay (c.front w) b6 t6) 316 1020 ν
noncomputable def LF.il (c : LF) (b6 : Nat) : IL := ⟨c.x, c.f, b6 + 2, b6, b6 + 1, c.y.acc⟩
noncomputable def LF.kvG (c : LF) : List (Str × Value) := c.e.kvF c.z ++ [(("due" : Str), Value.ref c.y.acc)]
noncomputable def LF.rest (w : World) (c : LF) (kv : List (Str × Value)) (g : Nat → Nat) : List (Addr × Obj) := [(c.f, frm w g kv), (c.f + 1, cellObj (.int c.e.d.c.s.a.c.T (c.e.d.c.s.a.ν 1))), (c.f + 2, cellObj (.ref c.e.ao))] ++ giRest c.y ++ (c.x.src w [] c.z.l.eg ++ c.z.b.cells w (vals c.z.es) c.z.eb ++ [(c.e.ao, lst (ords c.e.fs) 0)])
section
variable {w : World} {c : LF} {b6 t6 : Nat}
theorem lG_run (ν : Nat → Nat) : RunsL [10, 11, 12, 25, 23, 24, 1, 9, 6, 7, 8, 2, 3, 4, 5, 13, 14, 15, 16, 17, 18, 19, 20, 21, 22] (fun G => xK 6 9 G ++ xK 25 1 G) (fun _ => .stop (compHead w 294 5 b6 (b6 + 1) c.f (b6 + 2) [("lexer", c.f + 5)]) 316 1020)
    (fun ν => liPre w (c.il b6) c.z.l (wds c.z.pb) (fun i => ν (i + 9)) [] (vals c.q.es) 0 c.q.m [] 0 ++ c.rest w c.kvG ν)
    (c.goG w b6 t6 ν) := by
  unfold RunsL; kernel_rfl
end
end Mine
end
section
open PySem PySem.Spec PySem.Calls PySem.W PySem.W.X PyProof.Rows
set_option Elab.async false
set_option maxRecDepth 100000
set_option maxHeartbeats 0
namespace Mine
theorem Cg.start {V : Par} {σ : Type} {P : σ → Prop} {out : σ → List (Addr × Obj)} {r : σ → Result} {d u : Nat} {pre : List (Addr × Obj)} {e : Expr} {it : Addr} {acc : Value} {env : Env} {o : Obj} (i : Nat) (he : e = .ListComp (cElt e) (cGen e :: cRest e) (cScope e) (cPos e)) (hg : (cGen e).is_async = 0)
    (hp : (it, o) ∈ pre) (ho : o.cls = .type (iterType i)) (h : Cg V (.compLoop e 0 (.ref it) acc env) pre P out r d u) : Cg V (.compStart e 0 (.ref it) acc env) pre P out r d u := by
  intro A s R h0 hd hu hS hR
  have hl := h A s R h0 hd hu hS hR
  have hs : s.heap.get? it = some o := (hS.own_mem hp).1
  revert hl
  rw [he]
  rcases hx : cGen e with ⟨target, iter, ifs, ia⟩
  rw [hx] at hg
  cases hg
  exact fun hl => codeAny_compStart_list hl (pyIter_self i hs ho hl)
structure IZ where
  ep : Nat
  g : Nat → Nat
  kv : List (Str × Value)
  m : Nat
theorem li_cg (w : World) (y : IL) (es : List Ent) (md : Nat) (hes : es.length ≤ 500) : ∀ (rest : List (Nat × Tok)) (i : Nat), i + rest.length = es.length → ∀ (l : Ls) (g : Nat → Nat) (kv : List (Str × Value)) (done : List (Nat × Tok)) (m : Nat), done.length = i → KvI kv →
    Cg (B w) (liCode w y) (liPre w y l (wds rest) g kv (vals es) i md (wds done) m) (fun z : IZ => KvI z.kv) (fun z => liPost w y { l with ep := z.ep } [] z.g z.kv (vals es) md (wds (done ++ rest)) z.m) (fun _ => .ok .next) 310 1010
  | [], i, h, l, g, kv, done, m, hd, hk => by
    have hi : (vals es)[i]? = none := by
      have : es.length ≤ i := by simp at h; omega
      simp [vals, this]
    rw [← List.append_nil (liPre _ _ _ _ _ _ _ _ _ _ _)]
    refine bdone (d := 310) (u := 1010) (J := [0, 1, 2, 3, 5, 6, 7]) [endQ (vals es) i 4 6] (fun _ _ _ => xK 3 2) (fun s _ => all_one (endQ_ok hi (by decide))) (fun base tb ν => liE_run hk base tb ν) (nodupB rfl) (fun ν => ⟨⟨l.ep, ν, kv, m⟩, hk, ?_, rfl⟩)
    rw [List.append_nil, List.append_nil]
    exact List.Perm.refl _
  | p :: rest, i, h, l, g, kv, done, m, hd, hk => by
    simp only [List.length_cons] at h
    have hi : i < es.length := by omega
    have hx : (vals es)[i]? = some (.ref es[i].ta) := by simp [vals, hi]
    have hld : (wds done).length ≤ 1000 := by simp only [wds, List.length_map]; omega
    have hlr : (wds rest).length ≤ 500 := by simp only [wds, List.length_map]; omega
    rw [← List.append_nil (liPre _ _ _ _ _ _ _ _ _ _ _)]
    refine bturn (d := 310) (u := 1010) (J := [0, 1, 2, 3, 4, 5, 6, 7]) (liO w y (vals es) i es[i].ta p.1 p.2 (wds rest) (wds done)) (fun _ _ _ => xK 3 2) (fun s _ => all_cons (nextQ_ok hx (by decide)) (all_cons (popTQ_ok (Nat.le_trans hlr (by decide))) (all_one (appendQ_ok hld 5)))) (fun base tb ν => li1_run hk base tb ν) (nodupB rfl) (fun _ => rfl) (fun ν => ?_)
    have e : wds done ++ [.str (W p.1) p.2] = wds (done ++ [p]) := by simp [wds]
    rw [List.append_nil, e]
    have := li_cg w y es md hes rest (i + 1) (by omega) { l with ep := l.ep + 1 } ν [("one", .ref es[i].ta)] (done ++ [p]) (m + 1) (by simp [hd]) (.inr ⟨_, rfl⟩)
    rw [List.append_assoc] at this
    exact this
end Mine
end
section
open PySem PySem.W PyProof.Rows
set_option Elab.async false
namespace Mine
/-! ## the library's tree of a sort, answered by an order of distinct keys -/
section
variable {n : Nat} {key : Nat → Nat} {s : Shared}
noncomputable def pc (n : Nat) (key : Nat → Nat) (i j : Nat) (C : Bool → Shared → Prop) (s : Shared) : Prop := i < n ∧ j < n ∧ C (decide (key i < key j)) s
theorem pc_lift {α : Type} {cmp : Nat → Nat → (Bool → Shared → Prop) → Shared → Prop} (hc : ∀ i j C, i < n → j < n → C (decide (key i < key j)) s → cmp i j C s) {Q : α → Shared → Prop} : ∀ t : KasT α, t.kasWp (pc n key) Q s → t.kasWp cmp Q s
  | .ret _, h => h
  | .ask i j k, h => hc i j _ h.1 h.2.1 (pc_lift hc (k _) h.2.2)
theorem pc_yes {α : Type} {i j : Nat} {k : Bool → KasT α} {Q : α → Shared → Prop} (hi : i < n) (hj : j < n) (h : key i < key j) (r : (k true).kasWp (pc n key) Q s) : (KasT.ask i j k).kasWp (pc n key) Q s :=
  ⟨hi, hj, by rw [decide_eq_true h]; exact r⟩
theorem pc_no {α : Type} {i j : Nat} {k : Bool → KasT α} {Q : α → Shared → Prop} (hi : i < n) (hj : j < n) (h : ¬ key i < key j) (r : (k false).kasWp (pc n key) Q s) : (KasT.ask i j k).kasWp (pc n key) Q s :=
  ⟨hi, hj, by rw [decide_eq_false h]; exact r⟩
noncomputable def kk (key : Nat → Nat) (p : Array Nat) (i : Nat) : Nat := key (p.getD i 0)
noncomputable def Up (key : Nat → Nat) (p : Array Nat) (k : Nat) : Prop := ∀ i j, i < j → j < k → kk key p i < kk key p j
noncomputable def Dn (key : Nat → Nat) (p : Array Nat) (k : Nat) : Prop := ∀ i j, i < j → j < k → kk key p j < kk key p i
noncomputable def Pm (n : Nat) (p : Array Nat) : Prop := p.Perm (List.range n).toArray
theorem Pm.size {p : Array Nat} (h : Pm n p) : p.size = n := by have := h.size_eq; simpa using this
theorem Pm.getD {p : Array Nat} (h : Pm n p) {i : Nat} (hi : i < n) : p[i]? = some (p.getD i 0) := by
  have : i < p.size := by rw [h.size]; exact hi
  simp [Array.getD, this]
theorem Pm.lt {p : Array Nat} (h : Pm n p) {i : Nat} (hi : i < n) : p.getD i 0 < n := by
  have e := h.getD hi
  have hm : p.getD i 0 ∈ p.toList := by
    rw [Array.mem_toList_iff]
    exact Array.mem_of_getElem? e
  have := (Array.perm_iff_toList_perm.mp h).mem_iff.mp hm
  simpa using this
theorem Pm.inj {p : Array Nat} (h : Pm n p) {i j : Nat} (hi : i < n) (hj : j < n) (e : p.getD i 0 = p.getD j 0) : i = j := by
  have nd : p.toList.Nodup := (Array.perm_iff_toList_perm.mp h).nodup_iff.mpr (by simpa using List.nodup_range)
  have hs := h.size
  have e1 := h.getD hi
  have e2 := h.getD hj
  rw [e] at e1
  have i1 : p.toList[i]? = p.toList[j]? := by rw [Array.getElem?_toList, Array.getElem?_toList, e1, e2]
  exact (List.getElem?_inj (by rw [Array.length_toList, hs]; exact hi) nd).mp i1
theorem Pm.kne (hk : ∀ i j, i < n → j < n → key i = key j → i = j) {p : Array Nat} (h : Pm n p) {i j : Nat} (hi : i < n) (hj : j < n) (hij : i ≠ j) : kk key p i ≠ kk key p j := fun e =>
  hij (h.inj hi hj (hk _ _ (h.lt hi) (h.lt hj) e))
theorem asc_sp (hk : ∀ i j, i < n → j < n → key i = key j → i = j) {p : Array Nat} (h : Pm n p) {Q : Nat → Shared → Prop} : ∀ (f m : Nat), 1 ≤ m → m + f = n → Up key p m → (∀ r, m ≤ r → r ≤ n → Up key p r → (r < n → kk key p r < kk key p (r - 1)) → Q r s) → (kas_asc p f m).kasWp (pc n key) Q s
  | 0, m, h1, hm, hu, hQ => hQ m (Nat.le_refl _) (by omega) hu fun h => by omega
  | f + 1, m, h1, hm, hu, hQ => by
    have a1 : m < n := by omega
    have a2 : m - 1 < n := by omega
    by_cases hlt : key (p.getD m 0) < key (p.getD (m - 1) 0)
    · exact pc_yes (h.lt a1) (h.lt a2) hlt (hQ m (Nat.le_refl _) (by omega) hu fun _ => hlt)
    · refine pc_no (h.lt a1) (h.lt a2) hlt ?_
      show (kas_asc p f (m + 1)).kasWp (pc n key) Q s
      refine asc_sp hk h f (m + 1) (by omega) (by omega) (fun i j hij hj => ?_) fun r h1 h2 h3 h4 => hQ r (by omega) h2 h3 h4
      have hlast : kk key p (m - 1) < kk key p m := by
        have := h.kne hk a2 a1 (by omega)
        unfold kk at *
        omega
      by_cases e : j = m
      · subst e
        by_cases e2 : i = j - 1
        · subst e2; exact hlast
        · exact Nat.lt_trans (hu i (j - 1) (by omega) (by omega)) hlast
      · exact hu i j hij (by omega)
theorem desc_sp (hk : ∀ i j, i < n → j < n → key i = key j → i = j) {p : Array Nat} (h : Pm n p) {Q : Array Nat × Nat × Nat → Shared → Prop} : ∀ (f m : Nat), 2 ≤ m → m + f = n → Dn key p m → (∀ r, m ≤ r → r ≤ n → Dn key p r → Q (p, r, 0) s) → (kas_desc f p m 0).kasWp (pc n key) Q s
  | 0, m, h1, hm, hu, hQ => hQ m (Nat.le_refl _) (by omega) hu
  | f + 1, m, h1, hm, hu, hQ => by
    have a1 : m < n := by omega
    have a2 : m - 1 < n := by omega
    by_cases hlt : key (p.getD m 0) < key (p.getD (m - 1) 0)
    · refine pc_yes (h.lt a1) (h.lt a2) hlt ?_
      show (kas_desc f p (m + 1) 0).kasWp (pc n key) Q s
      refine desc_sp hk h f (m + 1) (by omega) (by omega) (fun i j hij hj => ?_) fun r h1 h2 h3 => hQ r (by omega) h2 h3
      by_cases e : j = m
      · subst e
        by_cases e2 : i = j - 1
        · subst e2; exact hlt
        · exact Nat.lt_trans hlt (hu i (j - 1) (by omega) (by omega))
      · exact hu i j hij (by omega)
    · refine pc_no (h.lt a1) (h.lt a2) hlt ?_
      have hgt : key (p.getD (m - 1) 0) < key (p.getD m 0) := by
        have := h.kne hk a2 a1 (by omega)
        unfold kk at this
        omega
      exact pc_yes (h.lt a2) (h.lt a1) hgt (hQ m (Nat.le_refl _) (by omega) hu)
theorem kk_of {p q : Array Nat} {i j : Nat} (e : p[i]? = q[j]?) : kk key p i = kk key q j := by
  unfold kk
  rw [Array.getD_eq_getD_getElem?, Array.getD_eq_getD_getElem?, e]
theorem rev_pm {p : Array Nat} (h : Pm n p) (m : Nat) : Pm n (kas_rev p 0 m) := (mirror_perm _ _ _ _).trans h
theorem rev_up {p : Array Nat} (h : Pm n p) {m : Nat} (hm : m ≤ n) (hd : Dn key p m) : Up key (kas_rev p 0 m) m := by
  have at_ : ∀ k, k < m → kk key (kas_rev p 0 m) k = kk key p (m - 1 - k) := fun k hk => by
    have e := getElem?_mirror_all (xs := p) (i := 0) (j := m) (by rw [h.size]; exact hm) k
    rw [if_pos ⟨Nat.zero_le _, hk⟩, Nat.zero_add] at e
    exact kk_of e
  intro i j hij hj
  rw [at_ i (by omega), at_ j hj]
  exact hd _ _ (by omega) (by omega)
theorem count_sp (hk : ∀ i j, i < n → j < n → key i = key j → i = j) {p : Array Nat} (h : Pm n p) (h1 : 1 ≤ n) {Q : Nat × Array Nat → Shared → Prop} (hQ : ∀ r p', 1 ≤ r → r ≤ n → Pm n p' → Up key p' r → Q (r, p') s) : (kas_count n p).kasWp (pc n key) Q s := by
  unfold kas_count
  rw [KasT.kasWp_bind]
  refine asc_sp hk h (n - 1) 1 (Nat.le_refl _) (by omega) (fun i j hij hj => by omega) fun r r1 r2 ru rd => ?_
  by_cases e1 : (r == n) = true
  · rw [if_pos e1]
    exact hQ r p r1 r2 h ru
  · rw [if_neg e1]
    have hrn : r < n := by
      have : r ≠ n := by simpa using e1
      omega
    by_cases e2 : r > 1
    · rw [if_pos e2]
      exact pc_yes (h.lt (by omega)) (h.lt (by omega)) (ru 0 (r - 1) (by omega) (by omega)) (hQ r p r1 r2 h ru)
    · rw [if_neg e2]
      obtain rfl : r = 1 := by omega
      unfold kas_descPart
      rw [KasT.kasWp_bind]
      refine desc_sp hk h (n - 2) 2 (Nat.le_refl _) (by omega) (fun i j hij hj => ?_) fun m m1 m2 md => ?_
      · obtain rfl : j = 1 := by omega
        obtain rfl : i = 0 := by omega
        exact rd hrn
      · show (kas_tail3 m n p).kasWp (pc n key) Q s
        unfold kas_tail3
        rw [KasT.kasWp_bind]
        exact asc_sp hk (rev_pm h m) (n - m) m (by omega) (by omega) (rev_up h m2 md) fun r r1 r2 ru _ => hQ r _ (by omega) r2 (rev_pm h m) ru
theorem place_sp (hk : ∀ i j, i < n → j < n → key i = key j → i = j) {p : Array Nat} (h : Pm n p) {k : Nat} (hkn : k < n) (hu : Up key p k) {Q : Nat → Shared → Prop} (hQ : ∀ l, l ≤ k → (∀ i, i < l → kk key p i < kk key p k) → (∀ i, l ≤ i → i < k → kk key p k < kk key p i) → Q l s) :
    ∀ (f l r : Nat), l ≤ r → r ≤ k → r - l ≤ f → (∀ i, i < l → kk key p i < kk key p k) → (∀ i, r ≤ i → i < k → kk key p k < kk key p i) → (kas_place p k f l r).kasWp (pc n key) Q s
  | 0, l, r, hlr, hrk, hf, h1, h2 => hQ l (by omega) h1 fun i hi => h2 i (by omega)
  | f + 1, l, r, hlr, hrk, hf, h1, h2 => by
    unfold kas_place
    by_cases hge : l ≥ r
    · rw [if_pos hge]
      exact hQ l (by omega) h1 fun i hi => h2 i (by omega)
    · rw [if_neg hge]
      have hm : (l + r) / 2 < k := by omega
      by_cases hlt : key (p.getD k 0) < key (p.getD ((l + r) / 2) 0)
      · refine pc_yes (h.lt hkn) (h.lt (by omega)) hlt ?_
        show (kas_place p k f l ((l + r) / 2)).kasWp (pc n key) Q s
        refine place_sp hk h hkn hu hQ f l _ (by omega) (by omega) (by omega) h1 fun i hi hik => ?_
        by_cases e : i = (l + r) / 2
        · subst e; exact hlt
        · exact Nat.lt_trans hlt (hu _ i (by omega) hik)
      · refine pc_no (h.lt hkn) (h.lt (by omega)) hlt ?_
        show (kas_place p k f ((l + r) / 2 + 1) r).kasWp (pc n key) Q s
        refine place_sp hk h hkn hu hQ f _ r (by omega) hrk (by omega) (fun i hi => ?_) h2
        have hgt : kk key p ((l + r) / 2) < kk key p k := by
          have := h.kne hk (i := (l + r) / 2) (j := k) (by omega) hkn (by omega)
          unfold kk at *
          omega
        by_cases e : i = (l + r) / 2
        · subst e; exact hgt
        · exact Nat.lt_trans (hu i _ (by omega) hm) hgt
theorem bin_sp (hk : ∀ i j, i < n → j < n → key i = key j → i = j) {Q : Array Nat → Shared → Prop} (hQ : ∀ p', Pm n p' → Up key p' n → Q p' s) : ∀ (f : Nat) (p : Array Nat) (k : Nat), Pm n p → k + f = n → Up key p k → (kas_bin f p k).kasWp (pc n key) Q s
  | 0, p, k, h, hkf, hu => hQ p h (by rw [← hkf]; exact hu)
  | f + 1, p, k, h, hkf, hu => by
    show ((kas_place p k k 0 k).bind fun l => kas_bin f (bubble p k (k - l)) (k + 1)).kasWp (pc n key) Q s
    rw [KasT.kasWp_bind]
    have hkn : k < n := by omega
    refine place_sp hk h hkn hu (fun l hl h1 h2 => ?_) k 0 k (Nat.zero_le _) (Nat.le_refl _) (by omega) (fun i hi => by omega) (fun i h1 h2 => by omega)
    refine bin_sp hk hQ f _ (k + 1) ((bubble_perm _ _ _).trans h) (by omega) ?_
    have at_ : ∀ i, kk key (bubble p k (k - l)) i = if i = l then kk key p k else if l < i ∧ i ≤ k then kk key p (i - 1) else kk key p i := fun i => by
      have e := getElem?_bubble (xs := p) (src := k) (by rw [h.size]; exact hkn) (k - l) (by omega) i
      rw [show k - (k - l) = l by omega] at e
      split
      · rename_i q; rw [if_pos q] at e; exact kk_of e
      · rename_i q
        rw [if_neg q] at e
        split
        · rename_i q2; rw [if_pos q2] at e; exact kk_of e
        · rename_i q2; rw [if_neg q2] at e; exact kk_of e
    intro i j hij hj
    rw [at_, at_]
    repeat' split
    all_goals first
      | (exfalso; omega)
      | exact h1 _ (by omega)
      | exact h2 _ (by omega) (by omega)
      | exact hu _ _ (by omega) (by omega)
theorem sort_sp (hk : ∀ i j, i < n → j < n → key i = key j → i = j) (h1 : 1 ≤ n) {Q : Array Nat → Shared → Prop} (hQ : ∀ p, Pm n p → Up key p n → Q p s) : (kas_sort n).kasWp (pc n key) Q s := by
  unfold kas_sort
  rw [KasT.kasWp_bind]
  refine count_sp hk (Array.Perm.refl _) h1 fun r p r1 r2 hp hu => ?_
  dsimp only
  by_cases e : r < n
  · rw [if_pos e]
    have e1 : max r 1 = r := by omega
    rw [e1]
    exact bin_sp hk hQ (n - r) p r hp (by omega) hu
  · rw [if_neg e]
    obtain rfl : r = n := by omega
    exact hQ p hp hu
end
end Mine
end
section
open PySem PySem.Spec PySem.Calls PySem.W PySem.W.X PyProof.Rows
set_option Elab.async false
set_option maxRecDepth 100000
set_option maxHeartbeats 0
namespace Mine
/-! ## sorted -/
theorem range_getD {α : Type} (d : α) : ∀ l : List α, (List.range l.length).map (fun i => l.getD i d) = l := fun l => by
  refine List.ext_getElem (by simp) fun i h1 h2 => ?_
  simp [h2]
noncomputable def pick {α : Type} (l : List α) (d : α) (p : Array Nat) : List α := p.toList.map fun i => l.getD i d
theorem pick_perm {α : Type} {l : List α} {d : α} {p : Array Nat} (h : Pm l.length p) : (pick l d p).Perm l := by
  have := (Array.perm_iff_toList_perm.mp h).map fun i => l.getD i d
  rw [List.toList_toArray, range_getD] at this
  exact this
theorem pick_up {α : Type} {l : List α} {d : α} {f : α → Nat} {p : Array Nat} (h : Pm l.length p) (hu : Up (fun i => f (l.getD i d)) p l.length) : (pick l d p).Pairwise fun x y => f x < f y := by
  rw [List.pairwise_iff_getElem]
  intro i j hi hj hij
  have hs := h.size
  have hi' : i < l.length := by simpa [pick, hs] using hi
  have hj' : j < l.length := by simpa [pick, hs] using hj
  have := hu i j hij hj'
  have e : ∀ k (hk : k < (pick l d p).length), (pick l d p)[k] = l.getD (p.getD k 0) d := fun k hk => by
    have hk' : k < p.size := by simpa [pick] using hk
    simp only [pick, List.getElem_map, Array.getElem_toList]
    rw [show p.getD k 0 = p[k] by simp [Array.getD, hk']]
  rw [e i hi, e j hj]
  exact this
noncomputable def srt {α : Type} (f : α → Nat) (l : List α) : List α := l.mergeSort fun x y => Nat.ble (f x) (f y)
theorem srt_perm {α : Type} (f : α → Nat) (l : List α) : (srt f l).Perm l := List.mergeSort_perm _ _
theorem srt_le {α : Type} (f : α → Nat) (l : List α) : (srt f l).Pairwise fun x y => f x ≤ f y := by
  have := List.pairwise_mergeSort (le := fun x y => Nat.ble (f x) (f y)) (fun a b c h1 h2 => by simp only [Nat.ble_eq] at *; omega) (fun a b => by simp only [Bool.or_eq_true, Nat.ble_eq]; omega) l
  exact this.imp fun h => Nat.le_of_ble_eq_true h
theorem ord_uniq {α : Type} {f : α → Nat} : ∀ {a b : List α}, a.Perm b → a.Pairwise (fun x y => f x < f y) → b.Pairwise (fun x y => f x ≤ f y) → a = b
  | [], _, p, _, _ => p.nil_eq
  | x :: r, b, p, ha, hb => by
    cases b with
    | nil => exact absurd p.length_eq (by simp)
    | cons y t =>
      have hx : x ∈ y :: t := p.mem_iff.mp (.head _)
      have hy : y ∈ x :: r := p.mem_iff.mpr (.head _)
      have e : x = y := by
        rcases List.mem_cons.mp hx with h | h
        · exact h
        · rcases List.mem_cons.mp hy with h' | h'
          · exact h'.symm
          · have a1 := (List.pairwise_cons.mp ha).1 y h'
            have a2 := (List.pairwise_cons.mp hb).1 x h
            omega
      subst e
      rw [ord_uniq (List.Perm.cons_inv p) (List.pairwise_cons.mp ha).2 (List.pairwise_cons.mp hb).2]
theorem pick_srt {α : Type} {l : List α} {d : α} {f : α → Nat} {p : Array Nat} (h : Pm l.length p) (hu : Up (fun i => f (l.getD i d)) p l.length) : pick l d p = srt f l :=
  ord_uniq ((pick_perm h).trans (srt_perm f l).symm) (pick_up h hu) (srt_le f l)

section
variable {prog : Program} {w : World} {A : Around} {E : Value → Shared → Prop} {s : Shared}
theorem list_sort_any {a : Addr} {vs : List Value} {n : Nat} {key : Nat → Nat} {κ : SortKind} {P : PySem.Fin → Shared → Prop} (ho : s.heap.get? a = some (seqObj "list" vs.toArray n)) (h64 : vs.length < 64)
    (hk : ∀ i j, i < vs.length → j < vs.length → key i = key j → i = j)
    (hkind : 2 ≤ vs.length → ∀ (h' : Heap) (Q : SortKind → Shared → Prop), (∀ b o, s.heap.get? b = some o → b ≠ a → h'.get? b = some o) → Q κ { s with heap := h' } → wpAny (model prog w) A (keyKind' vs.toArray) Q (fun _ _ => False) { s with heap := h' })
    (hlt : ∀ (h' : Heap) i j (C : Bool → Shared → Prop), (∀ b o, s.heap.get? b = some o → b ≠ a → h'.get? b = some o) → i < vs.length → j < vs.length → C (decide (key i < key j)) { s with heap := h' } → wpAny (model prog w) A (keyLt' κ (vs.getD i Value.none) (vs.getD j Value.none)) C (fun _ _ => False) { s with heap := h' })
    (h : ∀ p, Pm vs.length p → Up key p vs.length → P (.done (.ret .none)) { s with heap := sortedHeap s.heap a vs (pick vs Value.none p).toArray }) :
    wpAny (model prog w) A (Builtin.«list.sort» ⟨[.ref a], []⟩) P E s := by
  rw [list_sort_plain]
  have ha : a < s.heap.objs.size := Heap.lt_size ho
  refine wpAny_bind (listItems_at ho rfl ?_)
  refine wpAny_bind (listUpdate_at ho rfl ?_ (by rw [List.size_toArray, sizeLine_eq]; omega) (Nat.zero_le _))
  obtain ⟨e1, ho1⟩ : ∃ e1, (s.heap.update a (Obj.mapSeq fun _ => #[])).get? a = some (seqObj "list" #[] e1) := ⟨_, get?_update_seq ho (fun _ => #[])⟩
  refine wpAny_bind (seqEpoch_at ho1 rfl ?_)
  refine wpAny_bind (wpAny_newTuple ?_ (by show vs.length ≤ _; rw [sizeLine_eq]; omega))
  refine wpAny_bind (wpAny_newList ?_ (Nat.zero_le _))
  refine wpAny_holding ?_
  have ho6 : (((s.heap.update a (Obj.mapSeq fun _ => #[])).push (seqObj "tuple" vs.toArray 0)).push (seqObj "list" #[] 0)).get? a = some (seqObj "list" #[] e1) := by
    rw [Heap.get?_push_ne _ _ _ (by rw [size_push', Heap.size_update]; exact Nat.ne_of_lt (Nat.lt_succ_of_lt ha)), Heap.get?_push_ne _ _ _ (by rw [Heap.size_update]; exact Nat.ne_of_lt ha)]
    exact ho1
  have keep : ∀ b o, s.heap.get? b = some o → b ≠ a → (((s.heap.update a (Obj.mapSeq fun _ => #[])).push (seqObj "tuple" vs.toArray 0)).push (seqObj "list" #[] 0)).get? b = some o := fun b o e hb => by
    refine Heap.get?_push_of_some _ (Heap.get?_push_of_some _ ?_)
    rw [Heap.get?_update_ne _ _ _ _ hb]
    exact e
  show wpAny (model prog w) A _ P E { s with heap := ((s.heap.update a (Obj.mapSeq fun _ => #[])).push (seqObj "tuple" vs.toArray 0)).push (seqObj "list" #[] 0) }
  dsimp only
  by_cases h2 : vs.toArray.size < 2
  · rw [if_pos h2, if_pos h2]
    refine wpAny_bind (wpAny_pure ?_)
    rw [StateT.run_pure]
    refine wpAny_bind (wpAny_pure ?_)
    dsimp only
    have e : (arrOf (SortSt.mk' general' (vs.toArray.zip vs.toArray) #[] 7 none)).map (·.2) = (pick vs Value.none (List.range vs.length).toArray).toArray := by
      apply Array.toList_inj.mp
      show ((vs.toArray.zip vs.toArray).map (·.2)).toList = _
      unfold pick
      rw [List.toList_toArray, range_getD]
      simp only [Array.toList_map, Array.toList_zip]
      exact List.map_snd_zip (Nat.le_refl _)
    rw [e]
    have hsz : (pick vs Value.none (List.range vs.length).toArray).toArray.size = vs.length := by simp [pick]
    refine wpAny_bind (seqEpoch_at ho6 rfl ?_)
    refine wpAny_bind (listUpdate_at ho6 rfl ?_ (Nat.zero_le _) (Nat.le_trans (Nat.le_of_eq hsz) (by rw [sizeLine_eq]; omega)))
    simp only [bne_self_eq_false, Bool.false_eq_true, if_false]
    refine wpAny_pure (h _ (Array.Perm.refl _) fun i j hij hj => ?_)
    rw [List.size_toArray] at h2
    omega
  · rw [if_neg h2, if_neg h2]
    rw [List.size_toArray] at h2
    refine wpAny_bind (wpAny_mono (hkind (by omega) _ (fun κ' s' => κ' = κ ∧ s' = { s with heap := ((s.heap.update a (Obj.mapSeq fun _ => #[])).push (seqObj "tuple" vs.toArray 0)).push (seqObj "list" #[] 0) }) keep ⟨rfl, rfl⟩) ?_ fun _ _ x => x.elim)
    rintro κ' s' ⟨rfl, rfl⟩
    refine wpAny_bind (wpAny_mono (kat_run (ks := vs) (vs := vs) (Q := fun st' s' => s' = { s with heap := ((s.heap.update a (Obj.mapSeq fun _ => #[])).push (seqObj "tuple" vs.toArray 0)).push (seqObj "list" #[] 0) } ∧ ∃ p : Array Nat, Pm vs.length p ∧ Up key p vs.length ∧ arrOf st' = p.map (kas_item (vs.toArray.zip vs.toArray)) ∧ failedOf st' = none)
      (G := fun p s' => s' = { s with heap := ((s.heap.update a (Obj.mapSeq fun _ => #[])).push (seqObj "tuple" vs.toArray 0)).push (seqObj "list" #[] 0) } ∧ Pm vs.length p ∧ Up key p vs.length) rfl (by omega) h64
      (fun p st' s' a1 a2 a3 a4 => ⟨a4.1, p, a4.2.1, a4.2.2, a2, a3⟩) (pc_lift (n := vs.length) (key := key) (fun i j C hi hj hC => hlt _ i j C keep hi hj hC) _ (sort_sp hk (by omega) fun p hp hu => ⟨rfl, hp, hu⟩))) ?_ fun _ _ x => x)
    rintro ⟨⟨⟩, st'⟩ s' ⟨rfl, p, hp, hu, har, hf⟩
    dsimp only at har hf ⊢
    have hout : (arrOf st').map (·.2) = (pick vs Value.none p).toArray := kat_snds rfl har
    have hsz : (pick vs Value.none p).toArray.size = vs.length := by simp [pick, hp.size]
    rw [hout]
    refine wpAny_bind (seqEpoch_at ho6 rfl ?_)
    refine wpAny_bind (listUpdate_at ho6 rfl ?_ (Nat.zero_le _) (Nat.le_trans (Nat.le_of_eq hsz) (by rw [sizeLine_eq]; omega)))
    rw [hf]
    simp only [bne_self_eq_false, Bool.false_eq_true, if_false]
    exact wpAny_pure (h p hp hu)
theorem sorted_any {l : Addr} {vs : List Value} {key : Nat → Nat} {κ : SortKind} {R : Result → Shared → Prop} (hl : s.heap.IsList l vs.toArray) (h64 : vs.length < 64)
    (hk : ∀ i j, i < vs.length → j < vs.length → key i = key j → i = j)
    (hkind : 2 ≤ vs.length → ∀ (A : Around) (h' : Heap) (Q : SortKind → Shared → Prop), (∀ b o, s.heap.get? b = some o → h'.get? b = some o) → Q κ { s with heap := h' } → wpAny (model prog w) A (keyKind' vs.toArray) Q (fun _ _ => False) { s with heap := h' })
    (hlt : ∀ (A : Around) (h' : Heap) i j (C : Bool → Shared → Prop), (∀ b o, s.heap.get? b = some o → h'.get? b = some o) → i < vs.length → j < vs.length → C (decide (key i < key j)) { s with heap := h' } → wpAny (model prog w) A (keyLt' κ (vs.getD i Value.none) (vs.getD j Value.none)) C (fun _ _ => False) { s with heap := h' })
    (h : ∀ p, Pm vs.length p → Up key p vs.length → R (.ok (.ret (.ref (s.heap.objs.size + 1)))) { s with heap := sortedAll s.heap vs (pick vs Value.none p).toArray }) :
    codeAny (model prog w) A (.builtin "sorted" ⟨[.ref l], []⟩) R s := by
  refine code_body entry_sorted plain_sorted ?_
  unfold Builtin.«sorted»
  refine wpAny_bind (m := checkCount "sorted" 1 1 _) (wpAny_pure ?_)
  refine wpAny_bind (collect_list hl ?_ (by rw [sizeLine_eq]; omega))
  refine wpAny_bind (wpAny_newList ?_ (by rw [sizeLine_eq]; omega))
  have hsz : ((s.heap.push (seqObj "list" #[] 0)).update s.heap.objs.size (Obj.mapSeq (· ++ vs.toArray))).objs.size = s.heap.objs.size + 1 := by
    rw [Heap.size_update, size_push']
  have hoL : (((s.heap.push (seqObj "list" #[] 0)).update s.heap.objs.size (Obj.mapSeq (· ++ vs.toArray))).push (seqObj "list" vs.toArray 0)).get? (s.heap.objs.size + 1) = some (seqObj "list" vs.toArray 0) := by
    rw [← hsz]; exact Heap.get?_push_size _ rfl
  have keep : ∀ b o, s.heap.get? b = some o → (((s.heap.push (seqObj "list" #[] 0)).update s.heap.objs.size (Obj.mapSeq (· ++ vs.toArray))).push (seqObj "list" vs.toArray 0)).get? b = some o := fun b o q => by
    have hlt : b < s.heap.objs.size := Heap.lt_size q
    rw [Heap.get?_push_ne _ _ _ (by rw [hsz]; exact Nat.ne_of_lt (Nat.lt_succ_of_lt hlt)), Heap.get?_update_ne _ _ _ _ (Nat.ne_of_lt hlt), Heap.get?_push_ne _ _ _ (Nat.ne_of_lt hlt)]
    exact q
  have keep2 : ∀ h' : Heap, (∀ b o, (((s.heap.push (seqObj "list" #[] 0)).update s.heap.objs.size (Obj.mapSeq (· ++ vs.toArray))).push (seqObj "list" vs.toArray 0)).get? b = some o → b ≠ s.heap.objs.size + 1 → h'.get? b = some o) → ∀ b o, s.heap.get? b = some o → h'.get? b = some o := fun h' hh b o e =>
    hh b o (keep b o e) (Nat.ne_of_lt (Nat.lt_succ_of_lt (Heap.lt_size e)))
  show wpAny _ _ _ _ _ { s with heap := ((s.heap.push (seqObj "list" #[] 0)).update s.heap.objs.size (Obj.mapSeq (· ++ vs.toArray))).push (seqObj "list" vs.toArray 0) }
  rw [hsz]
  refine wpAny_bind (wpAny_holding (wpAny_call_entry slot_list_sort ⟨_, hoL, rfl⟩ entry_list_sort (list_sort_any (s := { s with heap := ((s.heap.push (seqObj "list" #[] 0)).update s.heap.objs.size (Obj.mapSeq (· ++ vs.toArray))).push (seqObj "list" vs.toArray 0) }) hoL h64 hk (fun h2 h' Q hh hQ => hkind h2 _ h' Q (keep2 h' hh) hQ) (fun h' i j C hh hi hj hC => hlt _ h' i j C (keep2 h' hh) hi hj hC) fun p hp hu => ⟨_, rfl, ?_⟩) (args_list_sort _)))
  exact wpAny_pure (h p hp hu)
end
/-! ## a state that has grown, with new cells -/
theorem inv_grow {V : Par} {s s' : Shared} {L X : List (Addr × Obj)} {b t : Nat} (hS : Sat V (stay L b t) s) (keep : ∀ c o, s.heap.get? c = some o → s'.heap.get? c = some o) (ht : s.toks ≤ s'.toks) (hg : s'.gens = s.gens) (hd : s'.drawn = s.drawn) (ho : s'.os = s.os)
    (hX : ∀ p ∈ X, s'.heap.get? p.1 = some p.2 ∧ s.heap.get? p.1 = none) (nd : (X.map Prod.fst).Nodup) :
    Inv V (cellsOf L) s (stay (L ++ X) s'.heap.objs.size (s'.toks - 706)) s' := by
  have lo : 706 ≤ s'.toks := Nat.le_trans hS.lo ht
  refine ⟨sat_of (fun a o e => keep a o (hS.top a o e)) rfl (by omega) (fun p hp => ?_) ?_, ⟨fun c o e _ => keep c o e, ht, hg, hd, ho⟩, fun i a o e => ?_⟩
  · rcases List.mem_append.mp hp with hp | hp
    · obtain ⟨h1, h2⟩ := hS.own_mem hp
      exact ⟨keep _ _ h1, h2⟩
    · refine ⟨(hX p hp).1, ?_⟩
      cases hk : V.kt.get p.1 with
      | none => rfl
      | some o =>
        have := hS.top _ _ hk
        rw [(hX p hp).2] at this
        cases this
  · rw [List.map_append]
    refine List.nodup_append.mpr ⟨stay_nodup hS, nd, fun a ha c hc e => ?_⟩
    obtain ⟨p, hp, rfl⟩ := List.mem_map.mp ha
    obtain ⟨q, hq, rfl⟩ := List.mem_map.mp hc
    have h1 := (hS.own_mem hp).1
    rw [e, (hX q hq).2] at h1
    cases h1
  · have hm := mem_cells e
    rcases List.mem_append.mp hm with hm | hm
    · obtain ⟨j, hj⟩ := cells_mem hm
      exact .inl ⟨j, o, hj⟩
    · exact .inr (hX _ hm).2
/-! ## the order of the sixteen -/
noncomputable def ltL : List Nat → List Nat → Bool
  | [], [] => false
  | [], _ :: _ => true
  | _ :: _, [] => false
  | a :: l, b :: m => if Nat.blt a b then true else if Nat.blt b a then false else ltL l m
noncomputable def rkW (a : Nat) : Nat := ((List.range 16).filter fun b => ltL (W b).cps.toList (W a).cps.toList).length
noncomputable def rkP (a : Nat) : Nat := ((List.range 16).filter fun b => ltL (P b).cps.toList (P a).cps.toList).length
theorem rkW_lt : ∀ a, a < 16 → ∀ b, b < 16 → decide ((W a).cps.toList < (W b).cps.toList) = decide (rkW a < rkW b) := by decide +kernel
theorem rkP_lt : ∀ a, a < 16 → ∀ b, b < 16 → decide ((P a).cps.toList < (P b).cps.toList) = decide (rkP a < rkP b) := by decide +kernel
theorem rkW_inj : ∀ a, a < 16 → ∀ b, b < 16 → rkW a = rkW b → a = b := by decide +kernel
theorem rkP_inj : ∀ a, a < 16 → ∀ b, b < 16 → rkP a = rkP b → a = b := by decide +kernel
end Mine
end
section
open PySem PySem.Spec PySem.Calls PySem.W PySem.W.X PyProof.Rows
set_option Elab.async false
set_option maxRecDepth 100000
set_option maxHeartbeats 0
namespace Mine
theorem getD_map {α : Type} (l : List α) (d : α) (f : α → Value) {i : Nat} (h : i < l.length) : (l.map f).getD i Value.none = f (l.getD i d) := by
  simp [h]
theorem pick_map {α : Type} {l : List α} (d : α) (f : α → Value) {p : Array Nat} (h : Pm l.length p) : pick (l.map f) Value.none p = (pick l d p).map f := by
  unfold pick
  rw [List.map_map]
  refine List.map_congr_left fun i hi => ?_
  have : i ∈ (List.range l.length).toArray.toList := (Array.perm_iff_toList_perm.mp h).mem_iff.mp hi
  exact getD_map l d f (by simpa using this)
theorem key_inj {α : Type} {l : List α} (d : α) {f : α → Nat} {m : α → Nat} (hn : (l.map m).Nodup) (hf : ∀ x ∈ l, ∀ y ∈ l, f x = f y → m x = m y) : ∀ i j, i < l.length → j < l.length → f (l.getD i d) = f (l.getD j d) → i = j := by
  intro i j hi hj e
  have ei : l.getD i d = l[i] := by simp [hi]
  have ej : l.getD j d = l[j] := by simp [hj]
  rw [ei, ej] at e
  have := hf _ (List.getElem_mem hi) _ (List.getElem_mem hj) e
  have e1 : (l.map m)[i]? = (l.map m)[j]? := by simp [hi, hj, this]
  exact (List.getElem?_inj (by simpa using hi) hn).mp e1
/-! ## a board's rows -/
noncomputable def rkE (e : Ent) : Nat := rkP e.a
noncomputable def e0 : Ent := ⟨0, 0, 0, 0⟩
noncomputable def sortES (es : List Ent) (p : Addr × Nat) : Job where
  code := .builtin "sorted" ⟨[.ref p.1], []⟩
  pre := [(p.1, lst (vals es) p.2)]
  post := fun _ => [lst (vals es) p.2]
  new := fun ν => [(ν 2, lst (vals (srt rkE es)) (ν 3))]
  r := fun ν => .ok (.ret (.ref (ν 2)))
  d := 900
  u := 8000
theorem strKindB : (Value.type "str" != Value.type "tuple") = true := by kernel_rfl
theorem katTups_es {h : Heap} : ∀ es : List Ent, (∀ e ∈ es, h.get? e.ta = some e.obj) → KatTups h (vals es) (es.map fun e => .str (P e.a) e.tn)
  | [], _ => KatTups.nil
  | e :: es, H => KatTups.cons (H e (.head _)) rfl rfl rfl (katTups_es es fun x hx => H x (.tail _ hx))
theorem str_eq_iff {a b : Nat} (ha : a < 16) (hb : b < 16) : decide (P a = P b) = (a == b) := by
  rw [← P_inj a ha b hb]
  by_cases h : P a = P b
  · simp [h]
  · have : ¬ (P a).cps = (P b).cps := fun e => h (by
      cases hp : P a; cases hq : P b; rw [hp, hq] at e; cases e; rfl)
    simp [h, this]
theorem sortE_ctr (w : World) {es : List Ent} (h16 : ∀ e ∈ es, e.a < 16) (hn : (masks es).Nodup) (hl : es.length < 64) (p : Addr × Nat) : Ctr (B w) (Tups w es) (sortES es p) := by
  intro A s R h0 hd hu hF hS hR
  obtain ⟨a, n⟩ := p
  have ho : s.heap.get? a = some (lst (vals es) n) := hS.heap 0 rfl
  have hlen : (vals es).length = es.length := by simp [vals]
  have hm : ∀ i, i < es.length → es.getD i e0 ∈ es := fun i hi => by rw [show es.getD i e0 = es[i] by simp [hi]]; exact List.getElem_mem hi
  refine sorted_any (κ := tuples' (Value.type "str" != Value.type "tuple")) (key := fun i => rkE (es.getD i e0)) ⟨_, ho, rfl, n, rfl⟩ (by rw [hlen]; exact hl) (fun i j hi hj e => key_inj e0 (m := Ent.a) hn (fun x hx y hy e => rkP_inj _ (h16 x hx) _ (h16 y hy) e) i j (by rw [← hlen]; exact hi) (by rw [← hlen]; exact hj) e) (fun h2 A h' Q keep hQ => ?_) (fun A h' i j C keep hi hj hC => ?_) fun q hq hup => ?_
  · refine kat_kind (fs := es.map fun e => .str (P e.a) e.tn) (T := .type "str") (katTups_es es fun e he => keep _ _ (hF e he).1) (by rw [List.length_map]; rw [hlen] at h2; omega) (fun v hv => ?_) (by kernel_rfl) hQ
    obtain ⟨e, _, rfl⟩ := List.mem_map.mp hv
    exact Looks.of_pure rfl
  · rw [hlen] at hi hj
    have gi := getD_map es e0 (fun e => Value.ref e.ta) hi
    have gj := getD_map es e0 (fun e => Value.ref e.ta) hj
    rw [show vals es = es.map fun e => Value.ref e.ta from rfl, gi, gj]
    have mi := hm i hi
    have mj := hm j hj
    have oi := keep _ _ (hF _ mi).1
    have oj := keep _ _ (hF _ mj).1
    have ai := h16 _ mi
    have aj := h16 _ mj
    generalize es.getD i e0 = x at *
    generalize es.getD j e0 = y at *
    refine kat_lt oi rfl oj rfl ?_
    show KatLex _ _ _ _ _ _ [(Value.str (P x.a) x.tn, Value.str (P y.a) y.tn), (Value.str (W x.a) x.tw, Value.str (W y.a) y.tw)] 0 _
    refine kat_cons (wpAny_eqBool_str ?_)
    rw [str_eq_iff ai aj]
    refine kat_go (fun h => ?_) fun h => ?_
    · have e : x.a = y.a := by simpa using h
      refine kat_yes (kat_cons (wpAny_eqBool_str ?_))
      rw [e, decide_eq_true rfl]
      refine kat_yes (kat_nil ?_)
      have e2 : decide (rkE x < rkE y) = false := by unfold rkE; rw [e]; simp
      rw [e2] at hC
      exact hC
    · refine kat_no ?_
      rw [strKindB]
      refine oneLt_str ?_
      rw [rkP_lt _ ai _ aj]
      exact hC
  · rw [hlen] at hq hup
    have hpk : pick (vals es) Value.none q = vals (srt rkE es) := by
      show pick (es.map fun e => Value.ref e.ta) Value.none q = _
      rw [pick_map e0 _ hq, pick_srt hq hup]
      rfl
    rw [hpk]
    obtain ⟨c, hc⟩ := sortedAll_at s.heap (vals es) (vals (srt rkE es)).toArray
    have keep : ∀ b o, s.heap.get? b = some o → (sortedAll s.heap (vals es) (vals (srt rkE es)).toArray).get? b = some o := fun b o e => sortedAll_old e
    have hnew : s.heap.get? (s.heap.objs.size + 1) = none := Heap.get?_none_of_le (Nat.le_succ _)
    generalize sortedAll s.heap (vals es) (vals (srt rkE es)).toArray = H at hc keep ⊢
    generalize s.heap.objs.size + 1 = b at hc hnew ⊢
    have I : Inv (B w) (cellsOf [(a, lst (vals es) n)]) s (stay ([(a, lst (vals es) n)] ++ [(b, lst (vals (srt rkE es)) c)]) H.objs.size (s.toks - 706)) { s with heap := H } :=
      inv_grow (V := B w) (L := [(a, lst (vals es) n)]) (X := [(b, lst (vals (srt rkE es)) c)]) (s' := { s with heap := H }) hS keep (Nat.le_refl _) rfl rfl rfl (fun p hp => by
        rw [List.mem_singleton] at hp
        subst hp
        exact ⟨hc, hnew⟩) (by simp)
    exact hR (nu { s with heap := H } [b, c]) { s with heap := H } I
noncomputable def sortEQ (es : List Ent) (j : Nat) : OracleAt := QF [j] (fun _ ps => seqAt 0 ps) (sortES es) 900 8000
theorem sortEQ_ok {w : World} {T₀ : CT} {s₀ : Shared} {es : List Ent} (h16 : ∀ e ∈ es, e.a < 16) (hn : (masks es).Nodup) (hl : es.length < 64) (j : Nat) (hF : ∀ M s, Inv (B w) T₀ s₀ M s → Tups w es s) : OracleOk (B w) T₀ s₀ (sortEQ es j) :=
  lift_ok (F := Tups w es) (by simp) hF (fun a => sortE_ctr w h16 hn hl a) (fun _ => Nat.le_refl _) (fun _ => Nat.le_refl _)
/-! ## words -/
noncomputable def rkP2 (p : Nat × Tok) : Nat := rkW p.1
noncomputable def sortWS (ws : List (Nat × Tok)) (p : Addr × Nat) : Job where
  code := .builtin "sorted" ⟨[.ref p.1], []⟩
  pre := [(p.1, lst (wds ws) p.2)]
  post := fun _ => [lst (wds ws) p.2]
  new := fun ν => [(ν 2, lst (wds (srt rkP2 ws)) (ν 3))]
  r := fun ν => .ok (.ret (.ref (ν 2)))
  d := 900
  u := 8000
theorem strsAre_wds : ∀ ws : List (Nat × Tok), StrsAre (wds ws) (ws.map fun p => W p.1)
  | [] => .nil
  | p :: ws => .cons _ _ (strsAre_wds ws)
theorem sortW_ctr (w : World) {ws : List (Nat × Tok)} (h16 : ∀ e ∈ ws, e.1 < 16) (hn : (ws.map Prod.fst).Nodup) (hl : ws.length < 64) (p : Addr × Nat) : Ctr (B w) (fun _ => True) (sortWS ws p) := by
  intro A s R h0 hd hu hF hS hR
  obtain ⟨a, n⟩ := p
  have ho : s.heap.get? a = some (lst (wds ws) n) := hS.heap 0 rfl
  have hlen : (wds ws).length = ws.length := by simp [wds]
  have hm : ∀ i, i < ws.length → ws.getD i (0, 0) ∈ ws := fun i hi => by rw [show ws.getD i (0, 0) = ws[i] by simp [hi]]; exact List.getElem_mem hi
  refine sorted_any (κ := oneType') (key := fun i => rkP2 (ws.getD i (0, 0))) ⟨_, ho, rfl, n, rfl⟩ (by rw [hlen]; exact hl) (fun i j hi hj e => key_inj (0, 0) (m := Prod.fst) hn (fun x hx y hy e => rkW_inj _ (h16 x hx) _ (h16 y hy) e) i j (by rw [← hlen]; exact hi) (by rw [← hlen]; exact hj) e) (fun h2 A h' Q keep hQ => ?_) (fun A h' i j C keep hi hj hC => ?_) fun q hq hup => ?_
  · rw [hlen] at h2
    match ws, h2 with
    | x :: y :: r, _ =>
      show wpAny _ _ (keyKind' (Value.str (W x.1) x.2 :: Value.str (W y.1) y.2 :: wds r).toArray) _ _ _
      have hk : keyKind' (Value.str (W x.1) x.2 :: Value.str (W y.1) y.2 :: wds r).toArray = pure oneType' := keyKind_strs (strsAre_wds (x :: y :: r))
      rw [hk]
      exact wpAny_pure hQ
    | [_], h2 => simp at h2
    | [], h2 => simp at h2
  · rw [hlen] at hi hj
    have gi := getD_map ws (0, 0) (fun p => Value.str (W p.1) p.2) hi
    have gj := getD_map ws (0, 0) (fun p => Value.str (W p.1) p.2) hj
    rw [show wds ws = ws.map fun p => Value.str (W p.1) p.2 from rfl, gi, gj]
    have ai := h16 _ (hm i hi)
    have aj := h16 _ (hm j hj)
    generalize ws.getD i (0, 0) = x at *
    generalize ws.getD j (0, 0) = y at *
    rw [keyLt'_oneType]
    refine oneLt_str ?_
    rw [rkW_lt _ ai _ aj]
    exact hC
  · rw [hlen] at hq hup
    have hpk : pick (wds ws) Value.none q = wds (srt rkP2 ws) := by
      show pick (ws.map fun p => Value.str (W p.1) p.2) Value.none q = _
      rw [pick_map (0, 0) _ hq, pick_srt hq hup]
      rfl
    rw [hpk]
    obtain ⟨c, hc⟩ := sortedAll_at s.heap (wds ws) (wds (srt rkP2 ws)).toArray
    have keep : ∀ b o, s.heap.get? b = some o → (sortedAll s.heap (wds ws) (wds (srt rkP2 ws)).toArray).get? b = some o := fun b o e => sortedAll_old e
    have hnew : s.heap.get? (s.heap.objs.size + 1) = none := Heap.get?_none_of_le (Nat.le_succ _)
    generalize sortedAll s.heap (wds ws) (wds (srt rkP2 ws)).toArray = H at hc keep ⊢
    generalize s.heap.objs.size + 1 = b at hc hnew ⊢
    have I : Inv (B w) (cellsOf [(a, lst (wds ws) n)]) s (stay ([(a, lst (wds ws) n)] ++ [(b, lst (wds (srt rkP2 ws)) c)]) H.objs.size (s.toks - 706)) { s with heap := H } :=
      inv_grow (V := B w) (L := [(a, lst (wds ws) n)]) (X := [(b, lst (wds (srt rkP2 ws)) c)]) (s' := { s with heap := H }) hS keep (Nat.le_refl _) rfl rfl rfl (fun p hp => by
        rw [List.mem_singleton] at hp
        subst hp
        exact ⟨hc, hnew⟩) (by simp)
    exact hR (nu { s with heap := H } [b, c]) { s with heap := H } I
noncomputable def sortWQ (ws : List (Nat × Tok)) (j : Nat) : OracleAt := QF [j] (fun _ ps => seqAt 0 ps) (sortWS ws) 900 8000
theorem sortWQ_ok {w : World} {T₀ : CT} {s₀ : Shared} {ws : List (Nat × Tok)} (h16 : ∀ e ∈ ws, e.1 < 16) (hn : (ws.map Prod.fst).Nodup) (hl : ws.length < 64) (j : Nat) : OracleOk (B w) T₀ s₀ (sortWQ ws j) :=
  lift_ok (F := fun _ => True) (by simp) (fun _ _ _ => trivial) (fun a => sortW_ctr w h16 hn hl a) (fun _ => Nat.le_refl _) (fun _ => Nat.le_refl _)
end Mine
end
section
open PySem PySem.Spec PySem.Calls PySem.W PySem.W.X PyProof.Rows
set_option Elab.async false
set_option maxRecDepth 100000
set_option maxHeartbeats 0
namespace Mine
/-! ## the words of what is due -/
structure WL where
  D : Addr
  it : Addr
  aL : Addr
  acc : Addr
  f : Addr
  na : Nat
  g : Nat → Nat
noncomputable def KvW (kv : List (Str × Value)) : Prop := kv = [] ∨ ∃ p q : Value, kv = [(("name" : Str), p), (("word" : Str), q)]
noncomputable def wkv (e : Ent) : List (Str × Value) := [(("name" : Str), Value.str (P e.a) e.tn), (("word" : Str), Value.str (W e.a) e.tw)]
noncomputable def wWalk : List Ent → Nat → List Value → Nat → List (Str × Value) → Nat × List Value × Nat × List (Str × Value)
  | [], i, ac, m, kv => (i, ac, m, kv)
  | e :: r, i, ac, m, _ => wWalk r (i + 1) (ac ++ [Value.str (W e.a) e.tw]) (m + 1) (wkv e)
noncomputable def wLoopS (w : World) (es : List Ent) (i : Nat) (ac : List Value) (m : Nat) (kv : List (Str × Value)) (o : Nat × List Value × Nat × List (Str × Value)) (x : WL) : Job where
  code := compCode w 294 6 x.it x.acc x.f x.D []
  pre := [(x.D, dct w x.g kv), (x.it, iterObj x.aL i), (x.aL, lst (vals es) x.na), (x.acc, lst ac m)]
  post := fun ν => [dct w (fun i => ν (i + 2)) o.2.2.2, iterEnd o.1, lst (vals es) x.na, lst o.2.1 o.2.2.1]
  new := fun _ => []
  r := fun _ => .ok .next
  d := 600
  u := 5000
theorem wLoop_noTup {w : World} {es : List Ent} {i : Nat} {ac : List Value} {m : Nat} {kv : List (Str × Value)} {o : Nat × List Value × Nat × List (Str × Value)} {x : WL} : noTup (wLoopS w es i ac m kv o x).pre := fun p hp => by
  simp only [wLoopS, List.mem_cons, List.not_mem_nil, or_false] at hp
  rcases hp with rfl | rfl | rfl | rfl <;> exact fun h => absurd h (by simp [dct, iterObj, lst])
theorem wLoop_ctr (w : World) (es : List Ent) : ∀ (rest : List Ent) (i : Nat) (ac : List Value) (m : Nat) (kv : List (Str × Value)) (x : WL), ac.length + rest.length ≤ 1000 → KvW kv → es.drop i = rest → Ctr (B w) (Tups w es) (wLoopS w es i ac m kv (wWalk rest i ac m kv) x)
  | [], i, ac, m, kv, x, _, hk, hd => by
    have hx : (vals es)[i]? = none := by
      have : es.length ≤ i := by simpa using hd
      simp [vals, this]
    have ok : ∀ T s, Par.Ok ⟨(B w).prog, (B w).w, (B w).kt, fun j => [endQ (vals es) i 1 2][j]?⟩ T s := fun T s => mk_ok (by simp only [List.mem_singleton, forall_eq]; exact endQ_ok hx (by decide))
    rcases hk with rfl | ⟨p, q, rfl⟩
    · exact ctr_of_run (V := B w) (n := 9) (H := 6614283190784) (J := [0, 1, 2, 3]) (xs := xsK 0 3) (nodupB rfl) (fun s _ _ => ok _ _) (by intro base tb ν; unfold Runs; kernel_rfl)
    · exact ctr_of_run (V := B w) (n := 9) (H := 6614283190784) (J := [0, 1, 2, 3]) (xs := xsK 0 3) (nodupB rfl) (fun s _ _ => ok _ _) (by intro base tb ν; unfold Runs; kernel_rfl)
  | e :: r, i, ac, m, kv, x, hl, hk, hd => by
    have hi := at_of_drop hd
    have hx : (vals es)[i]? = some (.ref e.ta) := by simp [vals, hi]
    have he : e ∈ es := List.mem_of_getElem? hi
    rw [List.length_cons] at hl
    have ok : ∀ T s, Par.Ok ⟨(B w).prog, (B w).w, (B w).kt, fun j => [nextQ (vals es) i (.ref e.ta) 1 2, appendQ ac 3][j]?⟩ T s := fun T s => mk_ok (all_cons (nextQ_ok hx (by decide)) (all_one (appendQ_ok (by omega) 3)))
    have hw : wWalk (e :: r) i ac m kv = wWalk r (i + 1) (ac ++ [Value.str (W e.a) e.tw]) (m + 1) (wkv e) := rfl
    rw [hw]
    have ih := fun ν : Nat → Nat => wLoop_ctr w es r (i + 1) (ac ++ [Value.str (W e.a) e.tw]) (m + 1) (wkv e) { x with g := fun i => ν (i + 2) } (by rw [List.length_append]; simp only [List.length_cons, List.length_nil]; omega) (.inr ⟨_, _, rfl⟩) (drop_next hd)
    rcases hk with rfl | ⟨p, q, rfl⟩
    · refine ctr_turn (V := B w) (n := 74) (H := 341776264903627394811709007944841713067616608844395250374121079005510007011345475915294550260085043926836593463078682322010624) (J := [0, 1, 2, 3]) (K := [4]) (xs := xsK 0 3)
          (fun ν => wLoopS w es (i + 1) (ac ++ [Value.str (W e.a) e.tw]) (m + 1) (wkv e) (wWalk r (i + 1) (ac ++ [Value.str (W e.a) e.tw]) (m + 1) (wkv e)) { x with g := fun i => ν (i + 2) }) [(e.ta, e.obj)] (nodupB rfl) rfl (fun s hT hS => hT.has hS wLoop_noTup he) (fun s _ _ => ok _ _) ?_
          (fun _ => rfl) ih (fun _ => Nat.le_refl _) (fun _ => Nat.le_refl _) (fun _ _ => rfl) (fun _ _ => rfl) (fun s M s' hT hS I => hT.keep hS wLoop_noTup I)
      intro base tb ν; unfold Runs; kernel_rfl
    · refine ctr_turn (V := B w) (n := 74) (H := 341776264903627394811709007944841713067616608844395250374121079005510007011345475915294550260085043926836593463078682322010624) (J := [0, 1, 2, 3]) (K := [4]) (xs := xsK 0 3)
          (fun ν => wLoopS w es (i + 1) (ac ++ [Value.str (W e.a) e.tw]) (m + 1) (wkv e) (wWalk r (i + 1) (ac ++ [Value.str (W e.a) e.tw]) (m + 1) (wkv e)) { x with g := fun i => ν (i + 2) }) [(e.ta, e.obj)] (nodupB rfl) rfl (fun s hT hS => hT.has hS wLoop_noTup he) (fun s _ _ => ok _ _) ?_
          (fun _ => rfl) ih (fun _ => Nat.le_refl _) (fun _ => Nat.le_refl _) (fun _ _ => rfl) (fun _ _ => rfl) (fun s M s' hT hS I => hT.keep hS wLoop_noTup I)
      intro base tb ν; unfold Runs; kernel_rfl
noncomputable def ewt (es : List Ent) : List (Nat × Tok) := es.map fun e => (e.a, e.tw)
theorem wWalk_out : ∀ (es : List Ent) (i : Nat) (ac : List Value) (m : Nat) (kv : List (Str × Value)), KvW kv → ∃ j n kv', wWalk es i ac m kv = (j, ac ++ wds (ewt es), n, kv') ∧ KvW kv'
  | [], i, ac, m, kv, h => ⟨i, m, kv, by simp [wWalk, wds, ewt], h⟩
  | e :: r, i, ac, m, kv, h => by
    obtain ⟨j, n, kv', e', h'⟩ := wWalk_out r (i + 1) (ac ++ [Value.str (W e.a) e.tw]) (m + 1) (wkv e) (.inr ⟨_, _, rfl⟩)
    exact ⟨j, n, kv', by rw [wWalk, e']; simp [wds, ewt], h'⟩
theorem wComp_eq (w : World) : theComp w 294 6 = .ListComp (cElt (theComp w 294 6)) (cGen (theComp w 294 6) :: cRest (theComp w 294 6)) (cScope (theComp w 294 6)) (cPos (theComp w 294 6)) := by kernel_rfl
theorem wComp_sync (w : World) : (cGen (theComp w 294 6)).is_async = 0 := by kernel_rfl
noncomputable def wHeadS (w : World) (es : List Ent) (o : Nat × List Value × Nat × List (Str × Value)) (x : WL) : Job := { wLoopS w es 0 [] 0 [] o x with code := compHead w 294 6 x.it x.acc x.f x.D [] }
theorem wHead_ctr (w : World) (es : List Ent) (hl : es.length ≤ 1000) {o : Nat × List Value × Nat × List (Str × Value)} (ho : wWalk es 0 [] 0 [] = o) (x : WL) : Ctr (B w) (Tups w es) (wHeadS w es o x) := by
  subst ho
  exact ctr_start 1 1 (wComp_eq w) (wComp_sync w) rfl rfl rfl (wLoop_ctr w es es 0 [] 0 [] x (by simpa using hl) (.inl rfl) rfl)
noncomputable def wHeadQ (w : World) (es : List Ent) (o : Nat × List Value × Nat × List (Str × Value)) (jD ji jl ja : Nat) : OracleAt :=
  QF [jD, ji, jl, ja] (fun c ps => some (WL.mk (adAt 0 ps) (adAt 1 ps) (adAt 2 ps) (adAt 3 ps) (match c with | .compStart _ _ _ _ e => (match e.frame with | some f => f | none => 0) | _ => 0) (ktoks (obAt 2 ps) 0) (ktoks (obAt 0 ps)))) (fun x => wHeadS w es o x) 600 5000
theorem wHead_ok {w : World} {T₀ : CT} {s₀ : Shared} {es : List Ent} (hl : es.length ≤ 1000) {o : Nat × List Value × Nat × List (Str × Value)} (ho : wWalk es 0 [] 0 [] = o) {jD ji jl ja : Nat} (hJ : [jD, ji, jl, ja].Nodup) (hF : ∀ M s, Inv (B w) T₀ s₀ M s → Tups w es s) : OracleOk (B w) T₀ s₀ (wHeadQ w es o jD ji jl ja) :=
  lift_ok (F := Tups w es) hJ hF (fun x => wHead_ctr w es hl ho x) (fun _ => Nat.le_refl _) (fun _ => Nat.le_refl _)
end Mine
end
section
open PySem PySem.Spec PySem.Calls PySem.W PySem.W.X PyProof.Rows
open PySem.Builtin.Str (occurrences subAt)
set_option Elab.async false
set_option maxRecDepth 100000
set_option maxHeartbeats 0
namespace Mine
/-! ## text.count -/
theorem sub_at (cs : List Nat) {i : Nat} (h : i < cs.length) : subAt ⟨cs.toArray⟩ ⟨#[10]⟩ i = decide (cs[i] = 10) := by
  unfold subAt
  have e : (cs.toArray.extract i (i + 1)) = #[cs[i]] := by
    apply Array.ext'
    simp [List.extract_eq_take_drop, List.take_one, h]
  show ((cs.toArray.extract i (i + 1)) == #[10]) = _
  rw [e]
  by_cases h : cs[i] = 10 <;> simp [h]
theorem occ_loop (cs : List Nat) : ∀ (k i : Nat) (st : Array Nat × Nat), i + k = cs.length + 1 → st.2 ≤ i → st.1.size ≤ i →
    (((forIn (m := Id) (List.range' i k) st (StrLaws.occBody ⟨cs.toArray⟩ ⟨#[10]⟩ cs.length (cs.length + 1))).run.fst.size : Nat) : Int) = st.1.size + tens (cs.drop i)
  | 0, i, st, hk, _, _ => by
    rw [List.drop_eq_nil_of_le (by omega)]
    simp [tens]
  | k + 1, i, st, hk, h1, h2 => by
    rw [List.range'_succ, List.forIn_cons]
    by_cases hi : i < cs.length
    · have hd : cs.drop i = cs[i] :: cs.drop (i + 1) := List.drop_eq_getElem_cons hi
      rw [hd, tens_cons]
      by_cases hc : cs[i] = 10
      · have hcond : ((st.1.size < cs.length + 1 ∧ st.2 ≤ i) ∧ i + (⟨#[10]⟩ : Str).length ≤ cs.length) ∧ subAt ⟨cs.toArray⟩ ⟨#[10]⟩ i = true := ⟨⟨⟨by omega, h1⟩, by show i + 1 ≤ _; omega⟩, by rw [sub_at cs hi]; exact decide_eq_true hc⟩
        simp only [StrLaws.occBody, if_pos hcond]
        have := occ_loop cs k (i + 1) (st.1.push i, i + (⟨#[10]⟩ : Str).length) (by omega) (Nat.le_refl _) (by simp; omega)
        refine this.trans ?_
        simp [hc]; omega
      · have hcond : ¬ (((st.1.size < cs.length + 1 ∧ st.2 ≤ i) ∧ i + (⟨#[10]⟩ : Str).length ≤ cs.length) ∧ subAt ⟨cs.toArray⟩ ⟨#[10]⟩ i = true) := fun h => by
          have := h.2
          rw [sub_at cs hi] at this
          exact hc (by simpa using this)
        simp only [StrLaws.occBody, if_neg hcond]
        refine (occ_loop cs k (i + 1) st (by omega) (by omega) (by omega)).trans ?_
        simp [hc]
    · have hcond : ¬ (((st.1.size < cs.length + 1 ∧ st.2 ≤ i) ∧ i + (⟨#[10]⟩ : Str).length ≤ cs.length) ∧ subAt ⟨cs.toArray⟩ ⟨#[10]⟩ i = true) := fun h => by
        have : i + 1 ≤ cs.length := h.1.2
        omega
      simp only [StrLaws.occBody, if_neg hcond]
      refine (occ_loop cs k (i + 1) st (by omega) (by omega) (by omega)).trans ?_
      rw [List.drop_eq_nil_of_le (by omega), List.drop_eq_nil_of_le (by omega)]
theorem occ_tens (cs : List Nat) : ((occurrences ⟨cs.toArray⟩ ⟨#[10]⟩ 0 cs.length (cs.length + 1)).length : Int) = tens cs := by
  rw [StrLaws.occ_eq]
  have := occ_loop cs (cs.length + 1) 0 (#[], 0) (by omega) (Nat.le_refl _) (Nat.le_refl _)
  simp at this
  simpa using this
noncomputable def countQ (cs : List Nat) (n : Int) : OracleAt := pureQ "str.count" exSS (fun a => argSS ((⟨cs.toArray⟩, a.1.2), (⟨#[10]⟩, a.2.2))) fun _ => .int n
theorem countQ_ok {w : World} {T₀ : CT} {s₀ : Shared} {cs : List Nat} {n : Int} (h : tens cs = n) : OracleOk (B w) T₀ s₀ (countQ cs n) :=
  pure_ok F.entry_str_count (by decide +kernel) (fun a => by
    have := gives_str_count (⟨cs.toArray⟩ : Str) ⟨#[10]⟩ a.1.2 a.2.2
    have e : (⟨cs.toArray⟩ : Str).length = cs.length := by simp [Str.length]
    rw [e, occ_tens, h] at this
    exact this) fun _ => trivial
end Mine
end
section
open PySem PySem.Spec PySem.Calls PySem.W PySem.W.X PyProof.Rows
set_option Elab.async false
set_option maxRecDepth 100000
set_option maxHeartbeats 0
namespace Mine
/-! ## the last two statements of law: their expressions -/
noncomputable def lawEnv (w : World) (f : Addr) : Env := envAt w 294 f [("lexer", f + 5), ("numbers", f + 4), ("bits", f + 3), ("order", f + 2), ("table", f + 1)]
noncomputable def lawTail (w : World) : List Stmt := (stmtsOf w 294).drop 13
noncomputable def lawCd (w : World) (f : Addr) : Code := .func (stmtsOf w 294) (lawEnv w f)
noncomputable def ifE : List Stmt → Expr
  | .If e _ _ _ :: _ => e
  | _ => .Name "" default
noncomputable def ifP : List Stmt → Pos
  | .If _ _ _ p :: _ => p
  | _ => default
noncomputable def ifB : List Stmt → List Stmt
  | .If _ b _ _ :: _ => b
  | _ => []
noncomputable def orL : Expr → Expr
  | .BoolOp _ [a, _] _ => a
  | e => e
noncomputable def orR : Expr → Expr
  | .BoolOp _ [_, b] _ => b
  | e => e
noncomputable def orP : Expr → Pos
  | .BoolOp _ _ p => p
  | _ => default
noncomputable def cmpL' : Expr → Expr
  | .Compare l _ _ _ => l
  | e => e
noncomputable def cmpR' : Expr → Expr
  | .Compare _ _ [r] _ => r
  | e => e
noncomputable def cmpP' : Expr → Pos
  | .Compare _ _ _ p => p
  | _ => default
noncomputable def retE' : List Stmt → Expr
  | [_, .Return (some e) _] => e
  | _ => .Name "" default
noncomputable def retP' : List Stmt → Pos
  | [_, .Return _ p] => p
  | _ => default
noncomputable def lE1 (w : World) : Expr := cmpL' (orL (ifE (lawTail w)))
noncomputable def lE2 (w : World) : Expr := cmpR' (orL (ifE (lawTail w)))
noncomputable def lE3 (w : World) : Expr := cmpL' (orR (ifE (lawTail w)))
noncomputable def lE4 (w : World) : Expr := cmpR' (orR (ifE (lawTail w)))
noncomputable def lE5 (w : World) : Expr := retE' (lawTail w)
noncomputable def exK (w : World) (f : Addr) (e : Expr) : Kap := [(lawCd w f, fun _ => eval e (lawEnv w f) >>= fun v => ret v)]
structure KH where
  kv : List (Str × Value)
  aB : Addr
  aD : Addr
  aL : Addr
noncomputable def endKv (aS aG aT aB aD aL : Addr) (Z : Int) (tZ : Tok) (k : Int) (tk : Tok) (cs : List Nat) (tt : Tok) : List (Str × Value) := [("script", .ref aS), ("second", .int Z tZ), ("given", .ref aG), ("first", .int k tk), ("turned", .ref aT), ("text", .str ⟨cs.toArray⟩ tt), ("board", .ref aB), ("due", .ref aD), ("line", .ref aL)]
noncomputable def itemsQ (w : World) (b : Bd) (vs : List Value) (J : List Nat) : OracleAt := QF J (fun _ ps => some (ktoks (obAt 2 ps) 0)) (itemsBS w b vs) 660 5800
noncomputable def eqIQ (x y : Int) (b : Bool) : OracleAt := pureQ "int.__eq__" exII (fun a => argII ((x, a.1.2), (y, a.2.2))) fun _ => .val (.bool b)
noncomputable def e5O (w : World) (x : Lx) (cs : List Nat) (n line : Int) : List OracleAt := [tokQ w x [] [] (fun _ => 0) 0 ⟨#[]⟩ (fun n => n) J9, countQ cs n, knQ "int.__add__" 1 n line, eqIQ line line true]
theorem eqIQ_ok {w : World} {T₀ : CT} {s₀ : Shared} {x y : Int} {b : Bool} (h : (x == y) = b) : OracleOk (B w) T₀ s₀ (eqIQ x y b) := pure_ok F.entry_int_eq (by decide +kernel) (fun a => h ▸ gives_int_eq _ _ _ _) fun _ => trivial
section
variable {w : World} {f : Addr} {g : Nat → Nat} {aS aG aT aB aD aL : Addr} {Z : Int} {tZ : Tok} {k : Int} {tk : Tok} {cs : List Nat} {tt : Tok} {b : Bd} {es : List Ent} {ws : List (Nat × Tok)} {eb : Nat} {b7 t7 : Nat}
theorem t1_run (ν : Nat → Nat) : RunsL [0, 1, 2, 3, 5] (fun G => [xA 5 G, ktoks (obG 5 G) 0]) (fun ν => .ret (.ok (.ret (.ref (ν 0)))))
    (fun ν => [(f, frm w g (endKv aS aG aT b.aB aD aL Z tZ k tk cs tt))] ++ b.cells w (vals es) eb ++ [(ν 0, lst (vals (srt rkE es)) (ν 1))])
    (goesOn (mkV w [itemsQ w b (vals es) [1, 2, 3], sortEQ es 4]) 33 1870744932008656453187936754289171691609562860814336 (.ok .next) (exK w f (lE1 w)) (stay ([(f, frm w g (endKv aS aG aT b.aB aD aL Z tZ k tk cs tt))] ++ b.cells w (vals es) eb) b7 t7) 316 1020 ν) := by
  unfold RunsL; kernel_rfl
theorem t2_run (ν : Nat → Nat) : RunsL [0, 1, 2] (fun G => [xA 2 G, ktoks (obG 2 G) 0]) (fun ν => .ret (.ok (.ret (.ref (ν 0)))))
    (fun ν => [(f, frm w g (endKv aS aG aT aB aD aL Z tZ k tk cs tt))] ++ [(aD, lst (vals es) eb)] ++ [(ν 0, lst (vals (srt rkE es)) (ν 1))])
    (goesOn (mkV w [sortEQ es 1]) 12 17179934720 (.ok .next) (exK w f (lE2 w)) (stay ([(f, frm w g (endKv aS aG aT aB aD aL Z tZ k tk cs tt))] ++ [(aD, lst (vals es) eb)]) b7 t7) 316 1020 ν) := by
  unfold RunsL; kernel_rfl
theorem t3_run (ν : Nat → Nat) : RunsL [0, 1, 2] (fun G => [xA 2 G, ktoks (obG 2 G) 0]) (fun ν => .ret (.ok (.ret (.ref (ν 0)))))
    (fun ν => [(f, frm w g (endKv aS aG aT aB aD aL Z tZ k tk cs tt))] ++ [(aL, lst (wds ws) eb)] ++ [(ν 0, lst (wds (srt rkP2 ws)) (ν 1))])
    (goesOn (mkV w [sortWQ ws 1]) 12 17179934720 (.ok .next) (exK w f (lE3 w)) (stay ([(f, frm w g (endKv aS aG aT aB aD aL Z tZ k tk cs tt))] ++ [(aL, lst (wds ws) eb)]) b7 t7) 316 1020 ν) := by
  unfold RunsL; kernel_rfl
theorem t4_run {p q : Value} {j n : Nat} (ν : Nat → Nat) : RunsL [0, 1, 5] (fun G => [xA 5 G, ktoks (obG 5 G) 0]) (fun ν => .ret (.ok (.ret (.ref (ν 0)))))
    (fun ν => [(f, frm w g (endKv aS aG aT aB aD aL Z tZ k tk cs tt))] ++ [(aD, lst (vals es) eb)] ++ [(ν 0, lst (wds (srt rkP2 (ewt es))) (ν 1))])
    (goesOn (mkV w [wHeadQ w es (j, wds (ewt es), n, [(("name" : Str), p), (("word" : Str), q)]) 4 2 1 3, sortWQ (ewt es) 3]) 35 111505434076690993358355160200523218864373760 (.ok .next) (exK w f (lE4 w)) (stay ([(f, frm w g (endKv aS aG aT aB aD aL Z tZ k tk cs tt))] ++ [(aD, lst (vals es) eb)]) b7 t7) 316 1020 ν) := by
  unfold RunsL; kernel_rfl
theorem t40_run {j n : Nat} (ν : Nat → Nat) : RunsL [0, 1, 5] (fun G => [xA 5 G, ktoks (obG 5 G) 0]) (fun ν => .ret (.ok (.ret (.ref (ν 0)))))
    (fun ν => [(f, frm w g (endKv aS aG aT aB aD aL Z tZ k tk cs tt))] ++ [(aD, lst (vals es) eb)] ++ [(ν 0, lst (wds (srt rkP2 (ewt es))) (ν 1))])
    (goesOn (mkV w [wHeadQ w es (j, wds (ewt es), n, []) 4 2 1 3, sortWQ (ewt es) 3]) 27 25961881985761629093089214835261440 (.ok .next) (exK w f (lE4 w)) (stay ([(f, frm w g (endKv aS aG aT aB aD aL Z tZ k tk cs tt))] ++ [(aD, lst (vals es) eb)]) b7 t7) 316 1020 ν) := by
  unfold RunsL; kernel_rfl
theorem t5_run {x : Lx} {l : Ls} {n line : Int} (ν : Nat → Nat) : RunsL [] (fun _ => []) (fun _ => .ret (.ok (.ret (.bool true))))
    (fun _ => [])
    (goesOn (mkV w (e5O w x cs n line)) 69 979890510752658012552433007253616043342253499239629947294735467796622696499003282619099271296729481482 (.ok .next) (exK w f (lE5 w)) (stay (x.all w { l with pb := [], line := line } [] ++ [(f + 5, cellObj (.ref (x.B + 13))), (f, frm w g (endKv aS aG aT aB aD aL Z tZ k tk cs tt))]) b7 t7) 316 1020 ν) := by
  unfold RunsL; kernel_rfl
end
theorem lawTail_eq (w : World) : lawTail w = [.If (.BoolOp .Or [.Compare (lE1 w) [.NotEq] [lE2 w] (cmpP' (orL (ifE (lawTail w)))), .Compare (lE3 w) [.NotEq] [lE4 w] (cmpP' (orR (ifE (lawTail w))))] (orP (ifE (lawTail w)))) (ifB (lawTail w)) [] (ifP (lawTail w)), .Return (some (lE5 w)) (retP' (lawTail w))] := by kernel_rfl
theorem lawMark1 (w : World) : behindInMarks .NotEq (lE2 w) = false := by kernel_rfl
theorem lawMark2 (w : World) : behindInMarks .NotEq (lE4 w) = false := by kernel_rfl
end Mine
end
section
open PySem PySem.Spec PySem.Calls PySem.W PySem.W.X PyProof.Rows
set_option Elab.async false
set_option maxRecDepth 100000
set_option maxHeartbeats 0
namespace Mine
/-! ## law: from the line to the last If, the run -/
structure LG where
  c : LF
  b : Nat
  t : Nat
  ν₀ : Nat → Nat
  ν : Nat → Nat
  z : IZ
noncomputable def LG.κ (w : World) (g : LG) : Kap := kapO (g.c.goG w g.b g.t g.ν₀)
noncomputable def LG.y (g : LG) : IL := g.c.il g.b
noncomputable def LG.l (g : LG) : Ls := { g.c.z.l with ep := g.z.ep }
noncomputable def LG.front (w : World) (g : LG) : List (Addr × Obj) := liPost w g.y g.l [] g.z.g g.z.kv (vals g.c.q.es) g.c.q.m (wds g.c.z.pb) g.z.m ++ g.c.rest w g.c.kvG g.ν
noncomputable def LG.kv (g : LG) : List (Str × Value) := endKv g.c.e.d.c.s.a.c.aS g.c.e.d.c.y.acc (g.c.e.d.ν₀ 66) g.c.z.b.aB g.c.y.acc (g.b + 1) g.c.e.d.c.Z (g.c.e.d.c.s.a.ν 0) (Int.ofNat g.c.e.d.k) (g.c.e.d.ν 0) g.c.e.cs g.c.e.tk
noncomputable def LG.goH (w : World) (g : LG) (n H b7 t7 : Nat) (ν : Nat → Nat) : Out := goesOn (mkV w []) n H (.ok .next) (g.κ w) (stay (g.front w) b7 t7) 316 1020 ν
noncomputable def LG.end (w : World) (g : LG) (ν : Nat → Nat) : List (Addr × Obj) := [(g.c.f, frm w ν g.kv)] ++ g.c.z.b.cells w (vals g.c.z.es) g.c.z.eb ++ [(g.c.y.acc, lst (vals g.c.q.es) g.c.q.m)] ++ [(g.b + 1, lst (wds g.c.z.pb) g.z.m)] ++ (g.c.x.all w { g.l with pb := [] } [] ++ [(g.c.f + 5, cellObj (.ref (g.c.x.B + 13)))])
section
variable {w : World} {c : LF} {b t : Nat} {ν₀ ν' g : Nat → Nat} {ep m : Nat} {v : Value} {b7 t7 : Nat}
theorem lH_run (ν : Nat → Nat) : RunsT [7, 20, 21, 22, 5, 4, 0, 1, 2, 14, 15, 16, 17, 18, 19, 6] (xK 7 10) 310 1010
    (fun ν => LG.end w ⟨c, b, t, ν₀, ν', ⟨ep, g, [(("one" : Str), v)], m⟩⟩ ν)
    (stripP (den (.func (lawTail w) (lawEnv w c.f)))) (lawCd w c.f)
    (LG.goH w ⟨c, b, t, ν₀, ν', ⟨ep, g, [(("one" : Str), v)], m⟩⟩ 13 4415294015488 b7 t7 ν) := by
  unfold RunsT; kernel_rfl
theorem lH0_run (ν : Nat → Nat) : RunsT [7, 20, 21, 22, 5, 4, 0, 1, 2, 14, 15, 16, 17, 18, 19, 6] (xK 7 10) 310 1010
    (fun ν => LG.end w ⟨c, b, t, ν₀, ν', ⟨ep, g, [], m⟩⟩ ν)
    (stripP (den (.func (lawTail w) (lawEnv w c.f)))) (lawCd w c.f)
    (LG.goH w ⟨c, b, t, ν₀, ν', ⟨ep, g, [], m⟩⟩ 9 67635200 b7 t7 ν) := by
  unfold RunsT; kernel_rfl
end
end Mine
end
section
open PySem PySem.Spec PySem.Calls PySem.W PySem.W.X PyProof.Rows
set_option Elab.async false
set_option maxRecDepth 100000
set_option maxHeartbeats 0
namespace Mine
/-! ## an expression with calls, at the level of the sources -/
theorem wp_unbind {M : Model} {A : Around} {t : Sem Value} {Q : PySem.Fin → Shared → Prop} {E : Value → Shared → Prop} {s : Shared} (h : wpAny M A (t >>= fun v => ret v) Q E s) : wpAny M A t (fun v s' => Q (.done (.ret v)) s') E s := fun Γ p hΓ => by
  have := h Γ p hΓ
  rw [Sem.wp_bind'] at this
  exact this
theorem go_t {w : World} {orcs : List OracleAt} {c : Code} {t : Sem Value} {front X : List (Addr × Obj)} {L : (Nat → Nat) → List (Addr × Obj)} {v : (Nat → Nat) → Value} {n H base tb d u : Nat} {J : List Nat} {A : Around} {Q : Value → Shared → Prop} {T₀ : CT} {s₀ s : Shared} (xs : Goal → List Nat)
    (hOk : Has (B w) s front X → ∀ Q ∈ orcs, OracleOk (B w) (cellsOf front) s Q)
    (hrun : ∀ ν, RunsL J xs (fun ν => .ret (.ok (.ret (v ν)))) L (goesOn (mkV w orcs) n H (.ok .next) [(c, fun _ => t >>= fun v => ret v)] (stay front base tb) (d + 6) (u + 10) ν)) (hJ : J.Nodup) (hc : c.isCaller = false) (hA : AOk A [] d u)
    (I : Inv (B w) T₀ s₀ (stay (front ++ X) base tb) s) (hR : ∀ ν b t s', Inv (B w) T₀ s₀ (stay (L ν ++ X) b t) s' → Q (v ν) s') : wpAny (model (B w).prog (B w).w) (A.under c) t Q (fun _ _ => False) s := by
  have h := go_back (V := B w) (orc := fun j => orcs[j]?) (A := A) (R := fun r s' => ∃ v, r = .ok (.ret v) ∧ Q v s') (e := fun _ ν => .ret (.ok (.ret (v ν)))) (L := fun _ => L) (fun _ => xs) hJ (fun hH _ => mk_ok (hOk hH)) hrun (show AOk A [(c, _)] (d + 6) (u + 10) from ⟨hc, d, u, rfl, rfl, hA⟩) I fun _ ν b t s' I' => ⟨_, rfl, hR ν b t s' I'⟩
  refine wpAny_mono (wp_unbind (show wpAny _ _ (t >>= fun v => ret v) _ _ _ from h)) (fun v s' hv => ?_) fun e s' he => ?_
  · obtain ⟨v', e, q⟩ := hv
    cases e
    exact q
  · obtain ⟨_, e, _⟩ := he
    cases e
/-! ## what the lists say -/
noncomputable def rowD (a : Nat) : PyData := .tuple [.str (P a), .str (W a)]
theorem strOk16 : ∀ a, a < 16 → PyData.strOk (P a) = true ∧ PyData.strOk (W a) = true := by decide +kernel
theorem rows_lay : ∀ ms : List Nat, (∀ a ∈ ms, a < 16) → PyData.canLayAll0 (ms.map rowD) = true
  | [], _ => rfl
  | a :: r, h => by
    have := strOk16 a (h a (.head _))
    simp [PyData.canLayAll0, PyData.canLay0, rowD, this.1, this.2, rows_lay r fun b hb => h b (.tail _ hb)]
theorem rows_depth : ∀ ms : List Nat, PyData.depthAll (ms.map rowD) ≤ 1
  | [] => by simp [PyData.depthAll]
  | a :: r => by
    have := rows_depth r
    simp [PyData.depthAll, PyData.depth, rowD]
    omega
theorem rows_shaped (ms : List Nat) (h : ∀ a ∈ ms, a < 16) : SeqAt.shaped (.list (ms.map rowD)) = true := by
  have := rows_depth ms
  simp [SeqAt.shaped, PyData.canLay0, PyData.depth, rows_lay ms h]
  omega
theorem rows_self (ms : List Nat) (h : ∀ a ∈ ms, a < 16) : PyData.eqv (.list (ms.map rowD)) (.list (ms.map rowD)) = true :=
  PySem.SeqAt.eqv_refl _ (by simp [PyData.canLay0, rows_lay ms h])
theorem reads_es {h : Heap} : ∀ es : List Ent, (∀ e ∈ es, h.get? e.ta = some e.obj) → ∃ as, ReadsAll h (vals es) ((masks es).map rowD) as
  | [], _ => ⟨_, ReadsAll.nil⟩
  | e :: es, H => by
    obtain ⟨as, q⟩ := reads_es es fun x hx => H x (.tail _ hx)
    exact ⟨_, ReadsAll.cons (reads_tuple_at (H e (.head _)) rfl rfl (ReadsAll.cons (Reads.str _ _) (ReadsAll.cons (Reads.str _ _) ReadsAll.nil))) q⟩
noncomputable def wrdD (a : Nat) : PyData := .str (W a)
theorem wrds_lay : ∀ ms : List Nat, (∀ a ∈ ms, a < 16) → PyData.canLayAll0 (ms.map wrdD) = true
  | [], _ => rfl
  | a :: r, h => by
    have := strOk16 a (h a (.head _))
    simp [PyData.canLayAll0, PyData.canLay0, wrdD, this.2, wrds_lay r fun b hb => h b (.tail _ hb)]
theorem wrds_depth : ∀ ms : List Nat, PyData.depthAll (ms.map wrdD) = 0
  | [] => by simp [PyData.depthAll]
  | a :: r => by simp [PyData.depthAll, PyData.depth, wrdD, wrds_depth r]
theorem wrds_shaped (ms : List Nat) (h : ∀ a ∈ ms, a < 16) : SeqAt.shaped (.list (ms.map wrdD)) = true := by
  simp [SeqAt.shaped, PyData.canLay0, PyData.depth, wrds_lay ms h, wrds_depth]
theorem wrds_self (ms : List Nat) (h : ∀ a ∈ ms, a < 16) : PyData.eqv (.list (ms.map wrdD)) (.list (ms.map wrdD)) = true :=
  PySem.SeqAt.eqv_refl _ (by simp [PyData.canLay0, wrds_lay ms h])
theorem reads_ws {h : Heap} : ∀ ws : List (Nat × Tok), ∃ as, ReadsAll h (wds ws) ((ws.map Prod.fst).map wrdD) as
  | [] => ⟨_, ReadsAll.nil⟩
  | p :: ws => by
    obtain ⟨as, q⟩ := reads_ws (h := h) ws
    exact ⟨_, ReadsAll.cons (Reads.str _ _) q⟩
section
variable {prog : Program} {w : World} {A : Around} {s : Shared} {Q : Value → Shared → Prop}
theorem ne_rows {a b : Addr} {es ds : List Ent} {n m : Nat} (ha : s.heap.get? a = some (lst (vals es) n)) (hb : s.heap.get? b = some (lst (vals ds) m)) (he : ∀ e ∈ es, s.heap.get? e.ta = some e.obj) (hd : ∀ e ∈ ds, s.heap.get? e.ta = some e.obj)
    (h : masks es = masks ds) (h16 : ∀ a ∈ masks ds, a < 16) (hu : A.units + 64 < cLine) (hQ : Q (.bool false) s) {E : Value → Shared → Prop} : wpAny (model prog w) A (compareOp .NotEq (.ref a) (.ref b)) Q E s := by
  obtain ⟨as, r1⟩ := reads_es es he
  obtain ⟨bs, r2⟩ := reads_es ds hd
  rw [h] at r1
  refine ne_dataH (reads_list_at ha rfl rfl r1) (reads_list_at hb rfl rfl r2) (rows_shaped _ h16) (rows_shaped _ h16) hu ?_
  rw [rows_self _ h16]
  exact hQ
theorem ne_wrds {a b : Addr} {es ds : List (Nat × Tok)} {n m : Nat} (ha : s.heap.get? a = some (lst (wds es) n)) (hb : s.heap.get? b = some (lst (wds ds) m))
    (h : es.map Prod.fst = ds.map Prod.fst) (h16 : ∀ a ∈ ds.map Prod.fst, a < 16) (hu : A.units + 64 < cLine) (hQ : Q (.bool false) s) {E : Value → Shared → Prop} : wpAny (model prog w) A (compareOp .NotEq (.ref a) (.ref b)) Q E s := by
  obtain ⟨as, r1⟩ := reads_ws (h := s.heap) es
  obtain ⟨bs, r2⟩ := reads_ws (h := s.heap) ds
  rw [h] at r1
  refine ne_dataH (reads_list_at ha rfl rfl r1) (reads_list_at hb rfl rfl r2) (wrds_shaped _ h16) (wrds_shaped _ h16) hu ?_
  rw [wrds_self _ h16]
  exact hQ
end
theorem srt_map_eq {α β : Type} {f : α → Nat} {g : β → Nat} {m : α → Nat} {k : β → Nat} {r : Nat → Nat} {as : List α} {bs : List β} (hf : ∀ a, f a = r (m a)) (hg : ∀ b, g b = r (k b)) (hp : (as.map m).Perm (bs.map k)) (hn : (bs.map k).Nodup) (hr : ∀ a ∈ bs.map k, ∀ b ∈ bs.map k, r a = r b → a = b) : (srt f as).map m = (srt g bs).map k := by
  have pa : ((srt f as).map m).Perm (bs.map k) := ((srt_perm f as).map m).trans hp
  have pb : ((srt g bs).map k).Perm (bs.map k) := (srt_perm g bs).map k
  have la : ((srt f as).map m).Pairwise fun x y => r x ≤ r y := by
    rw [List.pairwise_map]
    exact (srt_le f as).imp fun h => by rw [hf, hf] at h; exact h
  have lb : ((srt g bs).map k).Pairwise fun x y => r x ≤ r y := by
    rw [List.pairwise_map]
    exact (srt_le g bs).imp fun h => by rw [hg, hg] at h; exact h
  refine ord_uniq (f := r) (pa.trans pb.symm) ?_ lb
  have na : ((srt f as).map m).Nodup := pa.nodup_iff.mpr hn
  rw [List.nodup_iff_pairwise_ne] at na
  refine (List.Pairwise.and la na).imp_of_mem fun {x y} hx hy h => ?_
  have : r x ≠ r y := fun e => h.2 (hr x (pa.mem_iff.mp hx) y (pa.mem_iff.mp hy) e)
  omega
end Mine
end
section
open PySem PySem.Spec PySem.Calls PySem.W PySem.W.X PyProof.Rows
set_option Elab.async false
set_option maxRecDepth 100000
set_option maxHeartbeats 0
namespace Mine
/-! ## law's last two statements -/
section
variable {V : Par} {T₀ : CT} {s₀ s : Shared} {F S N S' X Y M : List (Addr × Obj)} {b t : Nat}
theorem Inv.left (I : Inv V T₀ s₀ (stay (F ++ X) b t) s) : Inv V T₀ s₀ (stay F b t) s :=
  I.pick (fun p hp => List.mem_append_left _ hp) (by have := stay_nodup I.sat; rw [List.map_append] at this; exact (List.nodup_append.mp this).1)
theorem Inv.mv (I : Inv V T₀ s₀ (stay ((F ++ S ++ N) ++ (S' ++ X)) b t) s) : Inv V T₀ s₀ (stay ((F ++ S') ++ (X ++ (N ++ S))) b t) s := by
  refine I.perm ?_
  simp only [List.append_assoc]
  refine List.Perm.append_left F ?_
  have e : S' ++ (X ++ (N ++ S)) = ((S' ++ X) ++ N) ++ S := by simp only [List.append_assoc]
  rw [e]
  exact List.perm_append_comm.trans (List.Perm.append_left S List.perm_append_comm)
theorem Inv.mv2 (I : Inv V T₀ s₀ (stay ((F ++ S ++ N) ++ ((S' ++ Y) ++ M)) b t) s) : Inv V T₀ s₀ (stay ((F ++ S') ++ (S ++ Y)) b t) s := by
  have e : ((F ++ S') ++ (S ++ Y)) ++ (M ++ N) = F ++ (S' ++ (S ++ (Y ++ (M ++ N)))) := by simp only [List.append_assoc]
  have e2 : (F ++ S ++ N) ++ ((S' ++ Y) ++ M) = F ++ (S ++ (N ++ (S' ++ (Y ++ M)))) := by simp only [List.append_assoc]
  refine Inv.left (X := M ++ N) ?_
  rw [e2] at I
  rw [e]
  refine I.perm (List.Perm.append_left F ((List.perm_append_comm_assoc S' S _).trans (List.Perm.append_left S ?_)))
  have e3 : S' ++ (Y ++ (M ++ N)) = (S' ++ (Y ++ M)) ++ N := by simp only [List.append_assoc]
  rw [e3]
  exact List.perm_append_comm
theorem Inv.mv3 (I : Inv V T₀ s₀ (stay ((F ++ S ++ N) ++ ((S' ++ Y) ++ M)) b t) s) : Inv V T₀ s₀ (stay ((S' ++ F) ++ Y) b t) s := by
  refine Inv.left (X := S) (F := (S' ++ F) ++ Y) ?_
  have I' := Inv.mv2 I
  refine I'.perm ?_
  have e : S' ++ F ++ Y ++ S = S' ++ F ++ (Y ++ S) := by simp only [List.append_assoc]
  rw [e]
  exact List.Perm.append List.perm_append_comm List.perm_append_comm
end
theorem tups_at {w : World} {T₀ : CT} {s₀ s : Shared} {L : List (Addr × Obj)} {b t : Nat} {es : List Ent} (I : Inv (B w) T₀ s₀ (stay L b t) s) (h : ∀ p ∈ tups es, p ∈ L) : Tups w es s := fun e he => I.sat.own_mem (h _ (List.mem_map.mpr ⟨e, he, rfl⟩))
theorem tups_keep {w : World} {s : Shared} {F X : List (Addr × Obj)} {es : List Ent} (hH : Has (B w) s F X) (h : ∀ p ∈ tups es, p ∈ X) : ∀ M s', Inv (B w) (cellsOf F) s M s' → Tups w es s' := fun M s' I e he => hH.keep I (e.ta, e.obj) (h _ (List.mem_map.mpr ⟨e, he, rfl⟩))
section
variable {w : World} {f : Addr} {g : Nat → Nat} {aS aG aT aD aL : Addr} {Z : Int} {tZ : Tok} {k : Int} {tk : Tok} {cs : List Nat} {tt : Tok} {b : Bd} {es ds : List Ent} {ws : List (Nat × Tok)} {eb md ml : Nat} {x : Lx} {l : Ls}
theorem law_tail {A : Around} {T₀ : CT} {s₀ s : Shared} {b0 t0 : Nat} (h16e : ∀ e ∈ es, e.a < 16) (h16d : ∀ e ∈ ds, e.a < 16) (h16w : ∀ p ∈ ws, p.1 < 16) (pe : (masks es).Perm (masks ds)) (pw : (ws.map Prod.fst).Perm (masks ds)) (nd : (masks ds).Nodup) (hl : ds.length < 64)
    (hline : l.line = 1 + tens cs) (hA : AOk A [] 310 1010)
    (I : Inv (B w) T₀ s₀ (stay (([(f, frm w g (endKv aS aG aT b.aB aD aL Z tZ k tk cs tt))] ++ b.cells w (vals es) eb) ++ ([(aD, lst (vals ds) md)] ++ ([(aL, lst (wds ws) ml)] ++ ((x.all w { l with pb := [] } [] ++ [(f + 5, cellObj (.ref (x.B + 13)))]) ++ (tups es ++ tups ds))))) b0 t0) s) :
    wpAny (model (B w).prog (B w).w) (A.under (lawCd w f)) (execs (lawTail w) (lawEnv w f)) (fun fl s' => fl = .ret (.bool true) ∧ ∃ b t, Inv (B w) T₀ s₀ (stay [] b t) s') (fun _ _ => False) s := by
  have hun : (A.under (lawCd w f)).units + 64 < cLine := by
    have h1 := units_le (lawCd w f)
    have h2 : A.units + 10 ≤ 1010 := hA.2.2
    show A.units + (lawCd w f).cUnits + 64 < 9900
    omega
  have hle : es.length < 64 := by
    have := pe.length_eq
    simp only [masks, List.length_map] at this
    omega
  have hlw : ws.length < 64 := by
    have := pw.length_eq
    simp only [masks, List.length_map] at this
    omega
  have nde : (masks es).Nodup := pe.nodup_iff.mpr nd
  have ndw : (ws.map Prod.fst).Nodup := pw.nodup_iff.mpr nd
  have m16 : ∀ a ∈ masks ds, a < 16 := fun a ha => by obtain ⟨e, he, rfl⟩ := List.mem_map.mp ha; exact h16d e he
  have ewt_fst : (ewt ds).map Prod.fst = masks ds := by simp [ewt, masks]
  have srtE : ∀ qs : List Ent, (∀ e ∈ qs, e.a < 16) → ∀ a ∈ masks (srt rkE qs), a < 16 := fun qs hq a ha => by
    obtain ⟨e, he, rfl⟩ := List.mem_map.mp ha
    exact hq e ((srt_perm rkE qs).mem_iff.mp he)
  rw [lawTail_eq]
  refine wpAny_execs_cons (wpAny_If (isTrue_or (wpAny_isTrue_Compare1 ?_ (lawMark1 w))))
  refine go_t (orcs := [itemsQ w b (vals es) [1, 2, 3], sortEQ es 4]) (fun G => [xA 5 G, ktoks (obG 5 G) 0]) (fun hH => all_cons (lift_ok (F := fun _ => True) (nodupB rfl) (fun _ _ _ => trivial) (fun n => itemsB_ctr w b (by simp [vals]; omega) n _) (fun _ => Nat.le_refl _) (fun _ => Nat.le_refl _)) (all_one (sortEQ_ok h16e nde hle 4 (tups_keep hH fun p hp => by simp [hp])))) (fun ν => t1_run ν) (nodupB rfl) rfl hA I fun ν1 b1 t1 s1 I1 => ?_
  replace I1 := Inv.mv I1
  refine go_t (orcs := [sortEQ ds 1]) (fun G => [xA 2 G, ktoks (obG 2 G) 0]) (fun hH => all_one (sortEQ_ok h16d nd hl 1 (tups_keep hH fun p hp => by simp [hp]))) (fun ν => t2_run ν) (nodupB rfl) rfl hA I1 fun ν2 b2 t2 s2 I2 => ?_
  have T1 : Tups w es s2 := tups_at I2 fun p hp => by simp [hp]
  have T2 : Tups w ds s2 := tups_at I2 fun p hp => by simp [hp]
  refine ne_rows (I2.sat.own_mem (p := (ν1 0, lst (vals (srt rkE es)) (ν1 1))) (by simp)).1 (I2.sat.own_mem (p := (ν2 0, lst (vals (srt rkE ds)) (ν2 1))) (by simp)).1 (fun e he => (T1 e ((srt_perm rkE es).mem_iff.mp he)).1) (fun e he => (T2 e ((srt_perm rkE ds).mem_iff.mp he)).1) (srt_map_eq (r := rkP) (fun _ => rfl) (fun _ => rfl) pe nd fun a ha c hc e => rkP_inj a (m16 a ha) c (m16 c hc) e) (srtE ds h16d) hun (wpAny_truthy_bool ?_)
  show wpAny _ _ (isTrue (.BoolOp .Or [_] _) _ _) _ _ s2
  refine isTrue_or (wpAny_isTrue_Compare1 ?_ (lawMark2 w))
  replace I2 := Inv.mv2 I2
  refine go_t (orcs := [sortWQ ws 1]) (fun G => [xA 2 G, ktoks (obG 2 G) 0]) (fun hH => all_one (sortWQ_ok h16w ndw hlw 1)) (fun ν => t3_run ν) (nodupB rfl) rfl hA I2 fun ν3 b3 t3 s3 I3 => ?_
  replace I3 := Inv.mv I3
  obtain ⟨j, n, kv', ho, hk⟩ := wWalk_out ds 0 [] 0 [] (.inl rfl)
  rw [List.nil_append] at ho
  have go4 : ∀ Q : Value → Shared → Prop, (∀ (ν : Nat → Nat) b' t' s', Inv (B w) T₀ s₀ (stay (([(f, frm w g (endKv aS aG aT b.aB aD aL Z tZ k tk cs tt))] ++ [(aD, lst (vals ds) md)] ++ [(ν 0, lst (wds (srt rkP2 (ewt ds))) (ν 1))]) ++ (((x.all w { l with pb := [] } [] ++ [(f + 5, cellObj (.ref (x.B + 13)))]) ++ (tups es ++ tups ds)) ++ ([(ν3 0, lst (wds (srt rkP2 ws)) (ν3 1))] ++ [(aL, lst (wds ws) ml)]))) b' t') s' → Q (.ref (ν 0)) s') →
      wpAny (model (B w).prog (B w).w) (A.under (lawCd w f)) (eval (lE4 w) (lawEnv w f)) Q (fun _ _ => False) s3 := fun Q hQ => by
    rcases hk with rfl | ⟨p, q, rfl⟩
    · exact go_t (orcs := [wHeadQ w ds (j, wds (ewt ds), n, []) 4 2 1 3, sortWQ (ewt ds) 3]) (fun G => [xA 5 G, ktoks (obG 5 G) 0]) (fun hH => all_cons (wHead_ok (by omega) ho (nodupB rfl) (tups_keep hH fun p hp => by simp [hp])) (all_one (sortWQ_ok (fun p hp => by obtain ⟨e, he, rfl⟩ := List.mem_map.mp hp; exact h16d e he) (by rw [ewt_fst]; exact nd) (by simp [ewt]; omega) 3))) (fun ν => t40_run ν) (nodupB rfl) rfl hA I3 hQ
    · exact go_t (orcs := [wHeadQ w ds (j, wds (ewt ds), n, [(("name" : Str), p), (("word" : Str), q)]) 4 2 1 3, sortWQ (ewt ds) 3]) (fun G => [xA 5 G, ktoks (obG 5 G) 0]) (fun hH => all_cons (wHead_ok (by omega) ho (nodupB rfl) (tups_keep hH fun p hp => by simp [hp])) (all_one (sortWQ_ok (fun p hp => by obtain ⟨e, he, rfl⟩ := List.mem_map.mp hp; exact h16d e he) (by rw [ewt_fst]; exact nd) (by simp [ewt]; omega) 3))) (fun ν => t4_run ν) (nodupB rfl) rfl hA I3 hQ
  refine go4 _ fun ν4 b4 t4 s4 I4 => ?_
  refine ne_wrds (I4.sat.own_mem (p := (ν3 0, lst (wds (srt rkP2 ws)) (ν3 1))) (by simp)).1 (I4.sat.own_mem (p := (ν4 0, lst (wds (srt rkP2 (ewt ds))) (ν4 1))) (by simp)).1 (srt_map_eq (r := rkW) (fun _ => rfl) (fun _ => rfl) (by rw [ewt_fst]; exact pw) (by rw [ewt_fst]; exact nd) fun a ha c hc e => by
    rw [ewt_fst] at ha hc
    exact rkW_inj a (m16 a ha) c (m16 c hc) e) (fun a ha => by
    have := ((srt_perm rkP2 (ewt ds)).map Prod.fst).mem_iff.mp ha
    rw [ewt_fst] at this
    exact m16 a this) hun (wpAny_truthy_bool ?_)
  show wpAny _ _ (isTrue (.BoolOp .Or [] _) _ _) _ _ s4
  refine isTrue_or_nil ?_
  show wpAny _ _ (execs [] _) _ _ s4
  refine wpAny_pure ?_
  show wpAny _ _ (execs [_] _) _ _ s4
  refine wpAny_execs_cons ?_
  rw [exec_Return_some]
  refine wpAny_bind (wpAny_standAt (wpAny_bind ?_))
  replace I4 := Inv.mv3 I4
  have I5 : Inv (B w) T₀ s₀ (stay ((x.all w { l with pb := [], line := l.line } [] ++ [(f + 5, cellObj (.ref (x.B + 13))), (f, frm w g (endKv aS aG aT b.aB aD aL Z tZ k tk cs tt))]) ++ (tups es ++ tups ds)) b4 t4) s4 := I4
  refine go_t (orcs := e5O w x cs (tens cs) l.line) (fun _ => []) (fun hH => all_cons (lift_ok (F := fun _ => True) (nodupB rfl) (fun _ _ _ => trivial) (fun l => tokE_ctr x l (.inl rfl) _) (fun _ => Nat.le_refl _) (fun _ => Nat.le_refl _)) (all_cons (countQ_ok rfl) (all_cons (plusQ_ok hline.symm) (all_one (eqIQ_ok (by simp)))))) (fun ν => t5_run ν) (nodupB rfl) rfl hA I5 fun ν5 b5 t5 s5 I6 => ?_
  exact wpAny_pure ⟨rfl, _, _, Inv.left I6⟩
end
end Mine
end
section
open PySem PySem.Spec PySem.Calls PySem.W PySem.W.X PyProof.Rows
set_option Elab.async false
set_option maxRecDepth 100000
set_option maxHeartbeats 0
namespace Mine
/-! ## slices -/
theorem slice_from (l : List Value) (a : Nat) : slicePick l.toArray (some (Int.ofNat a)) none none = (l.drop a).toArray := by
  by_cases h : a ≤ l.length
  · have := slicePick_from l.toArray a (by simpa using h)
    simpa using this
  · have e : slicePick l.toArray (some (Int.ofNat a)) none none = slicePick l.toArray (some (Int.ofNat l.length)) none none := by
      unfold slicePick
      have : sliceBounds (some (Int.ofNat a)) none none l.toArray.size = sliceBounds (some (Int.ofNat l.length)) none none l.toArray.size := by
        simp only [sliceBounds, Option.getD_none, List.size_toArray, Int.ofNat_eq_natCast]
        have h1 : ¬ ((a : Int) < 0) := by omega
        have h2 : ¬ ((l.length : Int) < 0) := by omega
        simp only [h1, h2, if_false, show (1 : Int) > 0 by decide, if_true]
        congr 1
        omega
      rw [this]
    have := slicePick_from l.toArray l.length (by simp)
    rw [e, List.drop_eq_nil_of_le (by omega)]
    simpa using this
theorem slice_upto (l : List Value) (a : Nat) : slicePick l.toArray none (some (Int.ofNat a)) none = (l.take a).toArray := by
  by_cases h : a ≤ l.length
  · have := slicePick_upto l.toArray a (by simpa using h)
    simpa using this
  · have e : slicePick l.toArray none (some (Int.ofNat a)) none = slicePick l.toArray none (some (Int.ofNat l.length)) none := by
      unfold slicePick
      have : sliceBounds none (some (Int.ofNat a)) none l.toArray.size = sliceBounds none (some (Int.ofNat l.length)) none l.toArray.size := by
        simp only [sliceBounds, Option.getD_none, List.size_toArray, Int.ofNat_eq_natCast]
        have h1 : ¬ ((a : Int) < 0) := by omega
        have h2 : ¬ ((l.length : Int) < 0) := by omega
        simp only [h1, h2, if_false, show (1 : Int) > 0 by decide, if_true]
        congr 1
        congr 1
        omega
      rw [this]
    have := slicePick_upto l.toArray l.length (by simp)
    rw [e, List.take_of_length_le (by omega)]
    simpa using this
theorem slice_ints (l : List (Int × Tok)) (lo hi st : Option Int) : ∃ o, slicePick (ivals l).toArray lo hi st = (ivals o).toArray := by
  have key : ∀ q : List Value, (∀ v ∈ q, ∃ i t, v = .int i t) → ∃ o, q = ivals o := by
    intro q
    induction q with
    | nil => intro _; exact ⟨[], rfl⟩
    | cons v q ih =>
      intro h
      obtain ⟨i, t, rfl⟩ := h v (.head _)
      obtain ⟨o, rfl⟩ := ih fun x hx => h x (.tail _ hx)
      exact ⟨(i, t) :: o, rfl⟩
  obtain ⟨o, ho⟩ := key (slicePick (ivals l).toArray lo hi st).toList (fun v hv => by
    unfold slicePick at hv
    rw [List.toList_toArray] at hv
    obtain ⟨i, _, hi⟩ := List.mem_filterMap.mp hv
    have : v ∈ ivals l := by
      have := Array.mem_of_getElem? hi
      simpa using this
    obtain ⟨p, _, rfl⟩ := List.mem_map.mp this
    exact ⟨p.1, p.2, rfl⟩)
  exact ⟨o, by rw [← ho]⟩
/-! ## the text's words -/
theorem its_a (X : Int) : ∀ (l : List Nat) (k : Nat), (itsFrom X k l).map It.a = l
  | [], _ => rfl
  | a :: l, k => by rw [itsFrom, List.map_cons, its_a X l]; rfl
theorem its_len (X : Int) (l : List Nat) (k : Nat) : (itsFrom X k l).length = l.length := by
  have := congrArg List.length (its_a X l k)
  simpa using this
theorem its_ok (X : Int) : ∀ (l : List Nat) (k : Nat), (∀ a ∈ l, a < 16) → ∀ i ∈ itsFrom X k l, ItOk i
  | [], _, _, i, hi => by cases hi
  | a :: l, k, h, i, hi => by
    rcases List.mem_cons.mp hi with rfl | hi
    · refine ⟨h a (.head _), ?_⟩
      show blanks.getD (rAt X k) 0 ∈ blanks
      have : rAt X k < 4 := by unfold rAt; omega
      revert this
      generalize rAt X k = r
      intro hr
      match r, hr with
      | 0, _ => decide
      | 1, _ => decide
      | 2, _ => decide
      | 3, _ => decide
    · exact its_ok X l (k + 1) (fun b hb => h b (.tail _ hb)) i hi
theorem spell_len : ∀ a, a < 16 → ∀ q b, (spell ⟨a, q, b⟩).length ≤ 10 := by
  refine all16 ?_ ?_ ?_ ?_ ?_ ?_ ?_ ?_ ?_ ?_ ?_ ?_ ?_ ?_ ?_ ?_ <;> (intro q b; cases q <;> exact Nat.le_of_ble_eq_true rfl)
theorem text_len : ∀ its : List It, (∀ i ∈ its, ItOk i) → (textOf its).length ≤ 11 * its.length
  | [], _ => by simp [textOf]
  | i :: its, h => by
    have h1 := spell_len i.a (h i (.head _)).1 i.q i.b
    have h2 := text_len its fun j hj => h j (.tail _ hj)
    obtain ⟨a, q, b⟩ := i
    rw [textOf, List.length_append, List.length_cons, List.length_cons]
    dsimp only at h1
    omega
/-! ## the game's side -/
theorem bit01 (T : Int) (k : Nat) : bitT T k = bI (bitT T k == 1) := by
  unfold bitT bI
  have h01 : T / Int.ofNat (2 ^ k) % 2 = 0 ∨ T / Int.ofNat (2 ^ k) % 2 = 1 := by omega
  rcases h01 with h | h <;> rw [h] <;> rfl
theorem game_due (T : Int) (fs : List Nat) : gmask (fun i => wonI i (bitT T) == 1) (mk4 fs) 16 = dueM fs (fun k => bitT T k == 1) := by
  unfold gmask dueM
  congr 1
  refine List.filter_congr fun k hk => ?_
  exact won_b (fun k => bitT T k == 1) (fun i _ => bit01 T i) k (List.mem_range.mp hk)
theorem down_due {fs : List Nat} (h : fs ∈ orders) (T : Int) {gw : List (Nat × Tok)} (hg : gw.map Prod.fst = gmask (fun k => bitT T k == 1) (mk4 fs) 16) {its : List It} (hi : ∀ x, x ∈ its.map It.a ↔ x ∈ gw.map Prod.fst) {line : Int} {z : DR} (hz : DownOk its fs line z) :
    (masks z.es).Perm (dueM fs fun k => bitT T k == 1) ∧ (z.pb.map Prod.fst).Perm (dueM fs fun k => bitT T k == 1) := by
  have hn : (ms0 its).Nodup := addM_nodup _ _ List.nodup_nil
  have hm : ∀ x, x ∈ ms0 its ↔ ∃ k, k < 16 ∧ (bitT T k == 1) = true ∧ mk4 fs k = x := fun x => by
    unfold ms0
    rw [addM_mem, hi, hg]
    unfold gmask
    simp only [List.not_mem_nil, false_or, List.mem_map, List.mem_filter, List.mem_range]
    constructor
    · rintro ⟨k, ⟨h1, h2⟩, h3⟩; exact ⟨k, h1, h2, h3⟩
    · rintro ⟨k, h1, h2, h3⟩; exact ⟨k, ⟨h1, h2⟩, h3⟩
  obtain ⟨p1, p2⟩ := board_due h (fun k => bitT T k == 1) hn hm
  have e := hz.eq
  rw [← e] at p1 p2
  exact ⟨p1, p2⟩
end Mine
end
section
open PySem PySem.Spec PySem.Calls PySem.W PySem.W.X PyProof.Rows
set_option Elab.async false
set_option maxRecDepth 100000
set_option maxHeartbeats 0
namespace Mine
/-! ## the stages of law, from the last one back -/
noncomputable abbrev Lw (w : World) (κ : Kap) (rr : Result) (pre : List (Addr × Obj)) : Prop := Ck (B w) (σ := Unit) κ rr pre (fun _ => True) (fun _ => []) (fun _ => .ok (.ret (.bool true))) 304 1000 316 1020
structure EndF (c : LF) : Prop where
  h16e : ∀ e ∈ c.z.es, e.a < 16
  h16d : ∀ e ∈ c.q.es, e.a < 16
  h16w : ∀ p ∈ c.z.pb, p.1 < 16
  pe : (masks c.z.es).Perm (masks c.q.es)
  pw : (c.z.pb.map Prod.fst).Perm (masks c.q.es)
  nd : (masks c.q.es).Nodup
  hl : c.q.es.length < 64
  line : c.z.l.line = 1 + tens c.e.cs
theorem lH_any (w : World) (g : LG) (hk : KvI g.z.kv) : ∃ n H, ∀ b7 t7 ν, RunsT [7, 20, 21, 22, 5, 4, 0, 1, 2, 14, 15, 16, 17, 18, 19, 6] (xK 7 10) 310 1010 (fun ν => LG.end w g ν) (stripP (den (.func (lawTail w) (lawEnv w g.c.f)))) (lawCd w g.c.f) (LG.goH w g n H b7 t7 ν) := by
  obtain ⟨c, b, t, ν₀, ν', ep, gg, kv, m⟩ := g
  rcases hk with hk | ⟨v, hk⟩
  · obtain rfl : kv = _ := hk
    exact ⟨_, _, fun b7 t7 ν => lH0_run ν⟩
  · obtain rfl : kv = _ := hk
    exact ⟨_, _, fun b7 t7 ν => lH_run ν⟩
theorem ck_H (w : World) (g : LG) (hk : KvI g.z.kv) (F : EndF g.c) : Lw w (g.κ w) (.ok .next) (g.front w ++ (tups g.c.z.es ++ tups g.c.q.es)) := by
  obtain ⟨n, H, run⟩ := lH_any w g hk
  intro A R T₀ s₀ s b7 t7 h0 hd hu hA I hR
  refine go_back (V := B w) (orc := fun j => ([] : List OracleAt)[j]?) (n := n) (H := H) (e := fun _ _ => .tree 310 1010) (L := fun _ ν => LG.end w g ν) (fun _ => xK 7 10) (nodupB rfl) (fun _ _ => mk_ok (fun Q hQ => by cases hQ)) (fun ν => (run b7 t7 ν).out.1) hA I fun ν₀ ν b' t' s' I' => ?_
  intro hA'
  obtain ⟨_, e1, e2, e3⟩ := (run b7 t7 ν₀).out
  show Mean (B w) A R (standO (LG.goH w g n H b7 t7 ν₀)).kap (standO (LG.goH w g n H b7 t7 ν₀)).cd (standO (LG.goH w g n H b7 t7 ν₀)).tr s'
  have hA2 : AOk A (standO (LG.goH w g n H b7 t7 ν₀)).kap 310 1010 := hA'
  rw [e3] at hA2
  rw [e1, e2, e3]
  have I2 := I'
  unfold LG.end LG.kv at I2
  simp only [List.append_assoc] at I2
  rw [← List.append_assoc] at I2
  refine mean_tail (wpAny_mono (law_tail (w := w) (l := g.l) F.h16e F.h16d F.h16w F.pe F.pw F.nd F.hl F.line hA2 (by simp only [List.append_assoc]; rw [← List.append_assoc]; exact I2)) (fun fl s2 hf => ?_) fun _ _ x => x.elim)
  obtain ⟨rfl, b2, t2, I3⟩ := hf
  exact hR () b2 t2 s2 trivial I3
/-! ## comprehensions of law from their beginnings -/
noncomputable def CompOk (e : Expr) : Prop := e = .ListComp (cElt e) (cGen e :: cRest e) (cScope e) (cPos e) ∧ (cGen e).is_async = 0
theorem comp0 (w : World) : CompOk (theComp w 294 0) := ⟨by kernel_rfl, by kernel_rfl⟩
theorem comp1 (w : World) : CompOk (theComp w 294 1) := ⟨by kernel_rfl, by kernel_rfl⟩
theorem comp3 (w : World) : CompOk (theComp w 294 3) := ⟨by kernel_rfl, by kernel_rfl⟩
theorem comp4 (w : World) : CompOk (theComp w 294 4) := ⟨by kernel_rfl, by kernel_rfl⟩
theorem comp5 (w : World) : CompOk (theComp w 294 5) := ⟨by kernel_rfl, by kernel_rfl⟩
theorem Cg.head {V : Par} {w : World} {k : Nat} {σ : Type} {P : σ → Prop} {out : σ → List (Addr × Obj)} {r : σ → Result} {d u : Nat} {pre : List (Addr × Obj)} {it acc f D : Addr} {cells : List (Str × Addr)} {o : Obj} (i : Nat) (hc : CompOk (theComp w 294 k)) (hp : (it, o) ∈ pre) (ho : o.cls = .type (iterType i)) (h : Cg V (compCode w 294 k it acc f D cells) pre P out r d u) : Cg V (compHead w 294 k it acc f D cells) pre P out r d u :=
  Cg.start i hc.1 hc.2 hp ho h
/-! ## the line -/
theorem ck_G (w : World) (c : LF) (F : EndF c) (hl : c.z.pb.length = c.q.es.length) : Lw w (c.κ w) (.ok .next) (c.front w ++ (tups c.z.es ++ tups c.q.es)) := by
  refine kcut (dd := 310) (uu := 1010) (d' := 316) (u' := 1020) (P' := fun _ _ _ _ => fun z : IZ => KvI z.kv) (out' := fun base _ _ ν z => liPost w (c.il base) { c.z.l with ep := z.ep } [] z.g z.kv (vals c.q.es) c.q.m (wds c.z.pb) z.m ++ (c.rest w c.kvG ν ++ (tups c.z.es ++ tups c.q.es))) (r' := fun _ _ _ _ _ => .ok .next)
    [] (fun _ _ _ => fun G => xK 6 9 G ++ xK 25 1 G) (fun s _ Q hQ => by cases hQ) (fun base tb ν => lG_run ν) (nodupB rfl) (fun base tb ν₀ ν => ?_) (by decide) (by decide) (fun base tb ν₀ ν z hz => ?_)
  · rw [List.append_assoc]
    refine Cg.beside _ ?_
    have := li_cg w (c.il base) c.q.es c.q.m (by have := F.hl; omega) c.z.pb 0 (by rw [hl]; omega) c.z.l (fun i => ν (i + 9)) [] [] 0 rfl (.inl rfl)
    exact Cg.head (o := iterObj c.y.acc 0) 1 (comp5 w) (by simp [liPre, Lx.cells, LF.il]) rfl this
  · rw [← List.append_assoc]
    exact ck_H w ⟨c, base, tb, ν₀, ν, z⟩ hz F
end Mine
end
section
open PySem PySem.Spec PySem.Calls PySem.W PySem.W.X PyProof.Rows
set_option Elab.async false
set_option maxRecDepth 100000
set_option maxHeartbeats 0
namespace Mine
/-! ## the board -/
structure BdF (e : LE) (z : DR) (D : List Nat) : Prop where
  h16e : ∀ x ∈ z.es, x.a < 16
  h16w : ∀ p ∈ z.pb, p.1 < 16
  pe : (masks z.es).Perm D
  pw : (z.pb.map Prod.fst).Perm D
  nd : D.Nodup
  d16 : ∀ a ∈ D, a < 16
  hl : D.length < 64
  line : z.l.line = 1 + tens e.cs
theorem perm_two {α : Type} {A B C D : List α} : (A ++ C ++ (D ++ B)).Perm ((A ++ B) ++ (C ++ D)) := by
  have e1 : A ++ C ++ (D ++ B) = A ++ ((C ++ D) ++ B) := by simp only [List.append_assoc]
  have e2 : (A ++ B) ++ (C ++ D) = A ++ (B ++ (C ++ D)) := by simp only [List.append_assoc]
  rw [e1, e2]
  exact List.Perm.append_left _ List.perm_append_comm
theorem ck_F (w : World) (e : LE) (z : DR) (D : List Nat) (F : BdF e z D) (h16 : ∀ i, i < 16 → e.d.c.y.ms i < 16) (hD : gmask (fun i => wonI i e.d.c.y.b == 1) e.d.c.y.ms 16 = D) : Lw w (e.κ w) (.ok (.ret (.ref z.b.aB))) (e.front w z ++ tups z.es) := by
  refine kcut (dd := 310) (uu := 1010) (d' := 316) (u' := 1020) (P' := fun base _ _ _ => fun q : DZ => masks q.es = dmask (e.gv base) 16) (out' := fun base _ _ ν q => (q.cells w (e.gv base) ++ tups q.es) ++ (e.rest w z (e.kvF z) ν ++ tups z.es)) (r' := fun _ _ _ _ _ => .ok .next)
    [] (fun _ _ _ => fun G => xK 13 8 G ++ xK 24 1 G) (fun s _ Q hQ => by cases hQ) (fun base tb ν => lF_run ν) (nodupB rfl) (fun base tb ν₀ ν => ?_) (by decide) (by decide) (fun base tb ν₀ ν q hq => ?_)
  · rw [List.append_assoc]
    refine Cg.beside _ ?_
    have := du_cg w (e.gv base) h16 16 0 rfl (fun i => ν (i + 8)) [] [] 0 rfl (.inl ⟨rfl, rfl⟩)
    rw [show tups [] = [] from rfl, List.append_nil] at this
    exact Cg.head (o := rangeIt (Int.ofNat 0) (Int.ofNat (16 - 0)) 1) 0 (comp4 w) (List.mem_cons_of_mem _ (List.mem_cons_self ..)) rfl this
  · have hm : masks q.es = D := hq.trans hD
    have E : EndF ⟨e, z, base, tb, ν₀, ν, q⟩ := ⟨F.h16e, fun x hx => F.d16 _ (by rw [← hm]; exact List.mem_map_of_mem hx), F.h16w, by show (masks z.es).Perm (masks q.es); rw [hm]; exact F.pe, by show (z.pb.map Prod.fst).Perm (masks q.es); rw [hm]; exact F.pw, by show (masks q.es).Nodup; rw [hm]; exact F.nd, by
      have := congrArg List.length hm
      simp only [masks, List.length_map] at this
      show q.es.length < 64
      rw [this]; exact F.hl, F.line⟩
    have hl : z.pb.length = q.es.length := by
      have h1 := F.pw.length_eq
      have h2 := congrArg List.length hm
      simp only [masks, List.length_map] at h1 h2
      omega
    refine Ck.perm (ck_G w ⟨e, z, base, tb, ν₀, ν, q⟩ E hl) ?_
    show List.Perm ((q.cells w (e.gv base) ++ e.rest w z (e.kvF z) ν) ++ (tups z.es ++ tups q.es)) _
    exact perm_two
/-! ## beside other cells -/
theorem Ck.beside {V : Par} {σ : Type} {κ : Kap} {rr : Result} {pre : List (Addr × Obj)} {P : σ → Prop} {out : σ → List (Addr × Obj)} {r : σ → Result} {d0 u0 d u : Nat} (Y : List (Addr × Obj)) (h : Ck V κ rr pre P out r d0 u0 d u) : Ck V κ rr (pre ++ Y) P (fun z => out z ++ Y) r d0 u0 d u := fun A R T₀ s₀ s b t h0 hd hu hA I hR =>
  h A R (cellsOf pre) s s s.heap.objs.size (s.toks - 706) h0 hd hu hA (Inv.start (Sat.left' I.again)) fun z b' t' s' hz I' => hR z b' t' s' hz (I.next (Inv.plus' (Sat.has' I.again) I'))
theorem Ck.map {V : Par} {σ τ : Type} {κ : Kap} {rr : Result} {pre : List (Addr × Obj)} {P : σ → Prop} {out : σ → List (Addr × Obj)} {r : σ → Result} {P' : τ → Prop} {out' : τ → List (Addr × Obj)} {r' : τ → Result} {d0 u0 d u : Nat} (h : Ck V κ rr pre P' out' r' d0 u0 d u) (hP : ∀ y, P' y → ∃ z, P z ∧ (out z).Perm (out' y) ∧ r z = r' y) : Ck V κ rr pre P out r d0 u0 d u := fun A R T₀ s₀ s b t h0 hd hu hA I hR =>
  h A R T₀ s₀ s b t h0 hd hu hA I fun y b' t' s' hy I' => by
    obtain ⟨z, hz, ho, hr⟩ := hP y hy
    rw [← hr]
    exact hR z b' t' s' hz (I'.perm ho)
noncomputable abbrev LwT (w : World) (κ : Kap) (rr : Result) (pre : List (Addr × Obj)) : Prop := Ck (B w) (σ := Nat) κ rr pre (fun _ => True) (fun a => [(234, tabX a)]) (fun _ => .ok (.ret (.bool true))) 304 1000 316 1020
/-! ## the text -/
theorem ck_E (w : World) (d : LD) (its : List It) (tk : Tok) (D : List Nat) (hi : ∀ i ∈ its, ItOk i) (h19 : its.length ≤ 19) (hfs : d.c.s.a.fs.map Prod.fst ∈ orders) (hz : ∀ z : DR, DownOk its (d.c.s.a.fs.map Prod.fst) 1 z → (masks z.es).Perm D ∧ (z.pb.map Prod.fst).Perm D) (nd : D.Nodup) (d16 : ∀ a ∈ D, a < 16) (hDl : D.length < 64) (h16 : ∀ i, i < 16 → d.c.y.ms i < 16) (hD : gmask (fun i => wonI i d.c.y.b == 1) d.c.y.ms 16 = D) :
    LwT w (d.κ w) (strR ⟨(textOf its).toArray⟩ tk) (d.front w) := by
  have hlen := text_len its hi
  rw [← List.append_nil (d.front w)]
  refine kcut (dd := 400) (uu := 3000) (d' := 316) (u' := 1020) (P' := fun _ _ _ _ => DownOk its (d.c.s.a.fs.map Prod.fst) 1) (out' := fun _ _ ν₀ ν z => z.cells w (lxOf ν₀) d.c.s.a.ao d.c.s.a.fs 0 ++ (d.rest w (d.kvE (textOf its) tk) (lxOf ν₀) ν ++ [(234, tabX (ν₀ 2 + 6))])) (r' := fun _ _ _ _ z => .ok (.ret (.ref z.b.aB)))
    [lexQ w (textOf its) 9] (fun _ _ _ => xK 0 7) (fun s _ => all_one (lexQ_ok (by omega) 9)) (fun base tb ν => lE_run ν) (nodupB rfl) (fun base tb ν₀ ν => ?_) (by decide) (by decide) (fun base tb ν₀ ν z hzz => ?_)
  · rw [List.append_nil, List.append_assoc]
    refine Cg.beside _ ?_
    exact down_cg (w := w) (x := lxOf ν₀) (l := lsOf0 ν₀) (aO := d.c.s.a.ao) (eo := 0) (fs := d.c.s.a.fs) (its := its) (g := dig (ν₀ 6) (ν₀ 7)) (fun p hp => (orders_flags _ hfs).2 p.1 (List.mem_map_of_mem hp)) rfl hi (by omega) h19
  · obtain ⟨p1, p2⟩ := hz z hzz
    have F : BdF ⟨d, textOf its, tk, base, tb, ν₀, ν⟩ z D := ⟨hzz.e16, hzz.p16, p1, p2, nd, d16, hDl, by
      rw [hzz.line, lineAll_tens its 1 [] hi, List.nil_append]⟩
    refine Ck.perm ((Ck.beside [(234, tabX (ν₀ 2 + 6))] (ck_F w ⟨d, textOf its, tk, base, tb, ν₀, ν⟩ z D F h16 hD)).map fun _ _ => ⟨ν₀ 2 + 6, trivial, List.Perm.refl _, rfl⟩) ?_
    show List.Perm (((LE.lexB w ⟨d, textOf its, tk, base, tb, ν₀, ν⟩ z ++ d.rest w (d.kvE (textOf its) tk) (lxOf ν₀) ν) ++ tups z.es) ++ [(234, tabX (ν₀ 2 + 6))]) ((LE.lexB w ⟨d, textOf its, tk, base, tb, ν₀, ν⟩ z ++ tups z.es) ++ (d.rest w (d.kvE (textOf its) tk) (lxOf ν₀) ν ++ [(234, tabX (ν₀ 2 + 6))]))
    rw [← List.append_assoc]
    refine List.Perm.append_right _ ?_
    rw [List.append_assoc, List.append_assoc]
    exact List.Perm.append_left _ List.perm_append_comm
/-! ## the words of the text -/
theorem ck_D (w : World) (c : LC) (k : Nat) (hZ : 0 ≤ c.Z) (hk : c.Z / 24 % 16 = Int.ofNat k) (h16 : ∀ p ∈ c.z.gw, p.1 < 16) (hl : c.z.gw.length ≤ 16) (hfs : c.s.a.fs.map Prod.fst ∈ orders) (D : List Nat) (hz : ∀ its : List It, (∀ x, x ∈ its.map It.a ↔ x ∈ c.z.gw.map Prod.fst) → ∀ z : DR, DownOk its (c.s.a.fs.map Prod.fst) 1 z → (masks z.es).Perm D ∧ (z.pb.map Prod.fst).Perm D) (nd : D.Nodup) (d16 : ∀ a ∈ D, a < 16) (hDl : D.length < 64) (hm16 : ∀ i, i < 16 → c.y.ms i < 16) (hD : gmask (fun i => wonI i c.y.b == 1) c.y.ms 16 = D) :
    LwT w (c.κ w) (.ok .next) (c.front w) := by
  have hwl : ∀ l : List (Nat × Tok), (wds l).length = l.length := fun l => by simp [wds]
  have wd : ∀ l n, (wds l).drop n = wds (l.drop n) := fun l n => by simp [wds]
  have wt : ∀ l n, (wds l).take n = wds (l.take n) := fun l n => by simp [wds]
  have wa : ∀ a b, wds a ++ wds b = wds (a ++ b) := fun a b => by simp [wds]
  have hdl : (c.z.gw.drop k).length ≤ 16 := by rw [List.length_drop]; omega
  have htl : (c.z.gw.take k).length ≤ 16 := by rw [List.length_take]; omega
  have hturn : (turn k c.z.gw).length = c.z.gw.length := by simp [turn]; omega
  generalize hws : c.z.gw.drop k ++ c.z.gw.take k ++ (turn k c.z.gw).take 2 = ws
  have hmem : ∀ x, x ∈ ws.map Prod.fst ↔ x ∈ c.z.gw.map Prod.fst := fun x => by
    have h0 : ∀ p, p ∈ ws ↔ p ∈ c.z.gw := fun p => by
      rw [← hws]
      have e : ∀ p, p ∈ turn k c.z.gw ↔ p ∈ c.z.gw := fun p => by
        unfold turn
        rw [List.mem_append, or_comm, ← List.mem_append, List.take_append_drop]
      constructor
      · intro h
        rcases List.mem_append.mp h with h | h
        · exact (e p).mp h
        · exact (e p).mp (List.mem_of_mem_take h)
      · intro h
        exact List.mem_append_left _ ((e p).mpr h)
    simp only [List.mem_map, h0]
  have ws16 : ∀ p ∈ ws, p.1 < 16 := fun p hp => by
    obtain ⟨q, hq, e⟩ := List.mem_map.mp ((hmem p.1).mp (List.mem_map_of_mem hp))
    rw [← e]; exact h16 q hq
  have hwsl : ws.length ≤ 18 := by
    rw [← hws]
    have := List.length_take_le 2 (turn k c.z.gw)
    simp only [List.length_append, List.length_drop, List.length_take] at *
    omega
  have hsum : wds (c.z.gw.drop k) ++ wds (c.z.gw.take k) ++ wds ((turn k c.z.gw).take 2) = wds ws := by rw [wa, wa, hws]
  rw [← List.append_nil (c.front w)]
  refine kcut (dd := 340) (uu := 2000) (d' := 316) (u' := 1020) (P' := fun _ _ _ _ => fun _ : Tok => True) (out' := fun _ _ ν₀ ν _ => [(ν₀ 98, lst (wds ws) 0)] ++ ([(c.f, frm w (fun i => ν (i + 1)) (c.kvD k ν₀ ν))] ++ c.keep w noCell ++ [(234, tab0)])) (r' := fun _ _ _ _ t => strR (txS (itsFrom (c.Z / 384) 0 (ws.map Prod.fst))) t)
    (txO c k) (fun _ _ _ => fun G => [xT 8 3 G] ++ xK 8 6 G) (fun s _ => ?_) (fun base tb ν => lD_run ν) (nodupB rfl) (fun base tb ν₀ ν => ?_) (by decide) (by decide) (fun base tb ν₀ ν t _ => ?_)
  · refine all_cons (fdQ_ok (by decide) (by decide) rfl) (all_cons (modQ_ok (by decide) hk) (all_cons (slQ_ok (by decide) (by rw [hwl]; omega) ?_ (by decide)) (all_cons (slQ_ok (by decide) (by rw [hwl]; omega) ?_ (by decide)) (all_cons (catQ_ok (by rw [hwl]; omega) (by rw [hwl]; omega) (by decide)) (all_cons (slQ_ok (by decide) (by rw [wa, hwl]; simp only [List.length_append]; omega) ?_ (by decide)) (all_cons (catQ_ok (by rw [wa, hwl]; simp only [List.length_append]; omega) (by rw [hwl]; have := List.length_take_le 2 (turn k c.z.gw); omega) (by decide)) (all_one (fdQ_ok (by decide) (by decide) rfl))))))))
    · rw [slice_from, wd]
    · rw [slice_upto, wt]
    · rw [show (some 2 : Option Int) = some (Int.ofNat 2) from rfl, slice_upto, wa, wt]; rfl
  · rw [List.append_nil, hsum]
    have := (text_cg w (ν₀ 98) 0 (ν₀ 114 + 706) (c.Z / 384) ws ws16 hwsl).beside ([(c.f, frm w (fun i => ν (i + 1)) (c.kvD k ν₀ ν))] ++ c.keep w noCell ++ [(234, tab0)])
    rw [List.append_assoc, List.append_assoc]
    rw [List.append_assoc] at this
    exact this
  · have h19 : (itsFrom (c.Z / 384) 0 (ws.map Prod.fst)).length ≤ 19 := by rw [its_len, List.length_map]; omega
    have ck := ck_E w ⟨c, k, base, tb, ν₀, ν⟩ (itsFrom (c.Z / 384) 0 (ws.map Prod.fst)) t D (its_ok _ _ _ fun a ha => by obtain ⟨p, hp, rfl⟩ := List.mem_map.mp ha; exact ws16 p hp) h19 hfs (hz _ fun x => by rw [its_a]; exact hmem x) nd d16 hDl hm16 hD
    intro A R T₀ s₀ s b' t' h0 hd hu hA I hR
    refine ck A R T₀ s₀ s b' t' h0 hd hu hA ?_ hR
    refine I.pick (fun p hp => List.mem_append_right _ hp) ?_
    have := stay_nodup I.sat
    rw [List.map_append] at this
    exact (List.nodup_append.mp this).2.1
end Mine
end
section
open PySem PySem.Spec PySem.Calls PySem.W PySem.W.X PyProof.Rows
set_option Elab.async false
set_option maxRecDepth 100000
set_option maxHeartbeats 0
namespace Mine
theorem gmask_len (b : Nat → Bool) (ms : Nat → Nat) : (gmask b ms 16).length ≤ 16 := by
  unfold gmask
  rw [List.length_map]
  exact Nat.le_trans (List.length_filter_le ..) (by simp)
/-! ## the given words -/
theorem ck_C (w : World) (s : LB) (n : NZ) (hZ : 0 ≤ s.a.c.Z) (hfs : s.a.fs.map Prod.fst ∈ orders) : LwT w (s.κ w) (.ok .next) (s.front w (fun k => N (mk4 (s.a.fs.map Prod.fst) k)) n) := by
  have lt16 : ∀ i, i < 16 → mk4 (s.a.fs.map Prod.fst) i < 16 := fun i hi => mk4_lt _ hfs i hi
  have gm16 : ∀ b : Nat → Bool, ∀ a ∈ gmask b (mk4 (s.a.fs.map Prod.fst)) 16, a < 16 := fun b a ha => by
    obtain ⟨k, hk, rfl⟩ := List.mem_map.mp ha
    exact lt16 k (List.mem_range.mp (List.mem_filter.mp hk).1)
  rw [← List.append_nil (s.front w _ n)]
  refine kcut (dd := 310) (uu := 1010) (d' := 316) (u' := 1020) (P' := fun _ _ _ _ => fun z : GZ => z.gw.map Prod.fst = gmask (fun k => bitT s.a.c.T k == 1) (mk4 (s.a.fs.map Prod.fst)) 16) (out' := fun base _ _ ν z => [((s.gv (mk4 (s.a.fs.map Prod.fst)) n base).D, dct w z.g [("k", z.v)]), ((s.gv (mk4 (s.a.fs.map Prod.fst)) n base).acc, lst (wds z.gw) z.m)] ++ giRest (s.gv (mk4 (s.a.fs.map Prod.fst)) n base) ++ s.rest w ν) (r' := fun _ _ _ _ _ => .ok .next)
    [] (fun _ _ _ => fun G => xK 6 3 G ++ xK 15 1 G) (fun s _ Q hQ => by cases hQ) (fun base tb ν => lC_run (ms := mk4 (s.a.fs.map Prod.fst)) ν) (nodupB rfl) (fun base tb ν₀ ν => ?_) (by decide) (by decide) (fun base tb ν₀ ν z hz => ?_)
  · rw [List.append_nil]
    refine Cg.beside _ ?_
    have := gi_cg w (s.gv (mk4 (s.a.fs.map Prod.fst)) n base) (fun k => bitT s.a.c.T k == 1) (fun i _ => bit01 _ i) lt16 16 0 rfl (fun i => ν (i + 3)) [] [] 0 rfl (.inl ⟨rfl, rfl⟩)
    exact Cg.head (o := rangeIt (Int.ofNat 0) (Int.ofNat (16 - 0)) 1) 0 (comp3 w) (List.mem_cons_of_mem _ (List.mem_cons_self ..)) rfl this
  · have hk : s.a.c.Z / 24 % 16 = Int.ofNat (s.a.c.Z / 24 % 16).toNat := by
      simp only [Int.ofNat_eq_natCast]
      omega
    exact ck_D w ⟨s, mk4 (s.a.fs.map Prod.fst), n, base, tb, ν₀, ν, z⟩ (s.a.c.Z / 24 % 16).toNat hZ hk (fun p hp => gm16 _ p.1 (by rw [← hz]; exact List.mem_map_of_mem hp)) (by
      have h1 := congrArg List.length hz
      have h2 := gmask_len (fun k => bitT s.a.c.T k == 1) (mk4 (s.a.fs.map Prod.fst))
      simp only [List.length_map] at h1
      show z.gw.length ≤ 16
      omega) hfs (dueM (s.a.fs.map Prod.fst) fun k => bitT s.a.c.T k == 1) (fun its hi zz hzz => down_due hfs s.a.c.T hz hi hzz) (dueM_nodup hfs _) (fun a ha => by
      obtain ⟨k, hk, rfl⟩ := List.mem_map.mp ha
      exact lt16 k (List.mem_range.mp (List.mem_filter.mp hk).1)) (by
      unfold dueM
      rw [List.length_map]
      exact Nat.lt_of_le_of_lt (List.length_filter_le ..) (by simp)) lt16 (game_due s.a.c.T (s.a.fs.map Prod.fst))
/-! ## the numbers -/
theorem ck_B (w : World) (a : LA) (z : BZ) (hZ : 0 ≤ a.c.Z) (hfs : a.fs.map Prod.fst ∈ orders) : LwT w (a.κ w) (.ok .next) (a.front w z) := by
  rw [← List.append_nil (a.front w z)]
  refine kcut (dd := 310) (uu := 1010) (d' := 316) (u' := 1020) (P' := fun _ _ _ _ => fun _ : NZ => True) (out' := fun base _ _ ν n => [((a.ny base).D, dct w n.g []), ((a.ny base).acc, lst (bv (numI (a.fs.map Prod.fst)) n.t 16) n.m), ((a.ny base).ck, cellObj n.v), ((a.ny base).f + 2, cellObj (.ref (a.ny base).ao)), ((a.ny base).ao, lst (ords a.fs) 0)] ++ a.restB w z ν) (r' := fun _ _ _ _ _ => .ok .next)
    [] (fun _ _ _ => fun G => xK 3 3 G ++ xK 13 1 G) (fun s _ Q hQ => by cases hQ) (fun base tb ν => lB_run ν) (nodupB rfl) (fun base tb ν₀ ν => ?_) (by decide) (by decide) (fun base tb ν₀ ν n _ => ?_)
  · rw [List.append_nil]
    refine Cg.beside _ ?_
    have := nu_cg w (a.ny base) a.fs rfl 16 0 rfl (fun i => ν (i + 3)) noCell (fun _ => 0) 0 (.inl ⟨rfl, rfl⟩)
    exact Cg.head (o := rangeIt (Int.ofNat 0) (Int.ofNat (16 - 0)) 1) 0 (comp1 w) (List.mem_cons_of_mem _ (List.mem_cons_self ..)) rfl this
  · have ck := ck_C w ⟨a, z, base, tb, ν₀, ν⟩ n hZ hfs
    rw [bv_congr (fun k hk => numI_eq _ hfs k hk)]
    exact ck
/-! ## law -/
theorem law_cg (w : World) (aS : Addr) (n0 : Nat) (l : List (Int × Tok)) (hl : l.length ≤ 63) : Cg (B w) (σ := Nat) (lawCode aS) [(aS, lst (ivals l) n0), (234, tab0)] (fun _ => True) (fun a => [(234, tabX a), (aS, lst (ivals l) n0)]) (fun _ => .ok (.ret (.bool true))) 304 1000 := by
  obtain ⟨o, ho⟩ := slice_ints l (some 0) (some 63) (some 2)
  obtain ⟨e, he⟩ := slice_ints l (some 1) (some 63) (some 2)
  have hli : (ivals l).length ≤ 10000 := by simp only [ivals, List.length_map]; omega
  generalize hT : (33128 + (o.map Prod.fst).sum) % 65536 = T
  generalize hZ : (1944 + (e.map Prod.fst).sum) % 98304 = Z
  have hZ0 : 0 ≤ Z := by omega
  have hm : (Z % 24).toNat < 24 := by omega
  have hmm : Z % 24 = Int.ofNat (Z % 24).toNat := by simp only [Int.ofNat_eq_natCast]; omega
  generalize (Z % 24).toNat = m at hm hmm
  rw [← List.append_nil [(aS, lst (ivals l) n0), (234, tab0)]]
  refine bcut (d := 304) (u := 1000) (dd := 310) (uu := 1010) (d' := 316) (u' := 1020) (P' := fun _ _ _ _ => fun _ : BZ => True)
    (out' := fun base tb ν₀ ν z => LA.front w ⟨⟨aS, n0, l, o, e, (o.map Prod.fst).sum, (e.map Prod.fst).sum, T, Z, m⟩, base, tb, ν₀, ν⟩ z ++ [(aS, lst (ivals l) n0)]) (r' := fun _ _ _ _ _ => .ok .next)
    (lawO ⟨aS, n0, l, o, e, (o.map Prod.fst).sum, (e.map Prod.fst).sum, T, Z, m⟩) (fun _ _ _ => xsLA) (fun s _ => ?_) (fun base tb ν => lA_run (c := ⟨aS, n0, l, o, e, (o.map Prod.fst).sum, (e.map Prod.fst).sum, T, Z, m⟩) base tb ν) (nodupB rfl) (fun base tb ν₀ ν => ?_) (by decide) (by decide) (fun base tb ν₀ ν z _ => ?_)
  · exact all_cons (slQ_ok (by decide) hli ho (by decide)) (all_cons (sumQ_ok rfl 9) (all_cons (plusQ_ok rfl) (all_cons (modQ_ok (by decide) hT) (all_cons (slQ_ok (by decide) hli he (by decide)) (all_cons (sumQ_ok rfl 11) (all_cons (plusQ_ok rfl) (all_cons (modQ_ok (by decide) hZ) (all_one (orderQ_ok hZ0 hm hmm)))))))))
  · rw [List.append_nil]
    refine Cg.beside _ ?_
    have := (bi_cg w (lawY base ν₀) T (ν 1) 16 0 rfl (fun i => ν (i + 16)) [] (fun _ => 0) 0 (.inl ⟨rfl, rfl⟩)).beside (lwA w ⟨aS, n0, l, o, e, (o.map Prod.fst).sum, (e.map Prod.fst).sum, T, Z, m⟩ base (ν₀ 130) (fun i => ν (i + 2)) (fun i => ν (i + 10)) (ν 0))
    exact Cg.head (o := rangeIt (Int.ofNat 0) (Int.ofNat (16 - 0)) 1) 0 (comp0 w) (List.mem_cons_of_mem _ (List.mem_cons_self ..)) rfl this
  · exact Ck.beside [(aS, lst (ivals l) n0)] <| ck_B w ⟨⟨aS, n0, l, o, e, (o.map Prod.fst).sum, (e.map Prod.fst).sum, T, Z, m⟩, base, tb, ν₀, ν⟩ z hZ0 (ordM_ok m hm)
end Mine
end
section
open PySem PySem.Spec PySem.Calls PySem.W PySem.W.X PyProof.Rows
set_option Elab.async false
set_option maxRecDepth 100000
set_option maxHeartbeats 0
namespace Mine
/-! ## from the contract to the claim -/
theorem ints_are : ∀ {vs : List Value} {ns : List Int}, IntsAre vs ns → ∃ l : List (Int × Tok), vs = ivals l ∧ l.length = ns.length
  | _, _, .nil => ⟨[], rfl, rfl⟩
  | _, _, .cons n t r => by
    obtain ⟨l, e, h⟩ := ints_are r
    exact ⟨(n, t) :: l, by rw [e]; rfl, by simp [h]⟩
theorem top_get (P : Params) (a : Nat) : (top P).get a = if a = 234 then none else (ktop P).get a := kdrop_get _ _ _
theorem k234 (P : Params) : (ktop P).get 234 = some tab0 := by kernel_rfl
theorem k295 (P : Params) : (ktop P).get 295 = none := by kernel_rfl
noncomputable def codeF (o : Option Obj) : Option (Value × Array Value) := match o with
  | some ⟨c, _, .fields vs, _⟩ => some (c, vs)
  | _ => none
theorem codeF_spec {o : Option Obj} {c : Value} {vs : Array Value} (h : codeF o = some (c, vs)) : ∃ x, o = some x ∧ x.cls = c ∧ x.data = .fields vs := by
  unfold codeF at h
  split at h
  · cases h; exact ⟨_, rfl, rfl, rfl⟩
  · cases h
noncomputable def at11 (o : Option (Value × Array Value)) : Option (Value × Option Value) := match o with
  | some (c, vs) => some (c, vs[11]?)
  | none => none
theorem k238 (P : Params) : at11 (codeF ((ktop P).get 238)) = some (.type "code", some (.ref 234)) := by kernel_rfl
theorem table234 {P : Params} {h : Heap} (H : KT.Holds h 1 0 (ktop P)) : isCodeTable h 234 := by
  have h1 := k238 P
  cases e : codeF ((ktop P).get 238) with
  | none => rw [e] at h1; cases h1
  | some p =>
    obtain ⟨c, vs⟩ := p
    obtain ⟨x, hx, hc, hd⟩ := codeF_spec e
    rw [e] at h1
    simp only [at11, Option.some.injEq, Prod.mk.injEq] at h1
    exact ⟨238, x, vs, kt_at H hx, hc.trans h1.1, hd, h1.2⟩
theorem law_final {w : World} {s₀ s₁ : Shared} {vs : List Value} {ns : List Int} {args : List WData} (ZH : KT.Holds s₁.heap 1 0 (ktop w.params)) (hg : s₁.gens = #[]) (htk : 706 ≤ s₁.toks)
    (hol : s₁.heap.get? 295 = some (lst vs 0)) (hI : IntsAre vs ns) (hc : ¬ (63 : Int) < ns.length) (hr : ∀ cls, PySem.Challenge.rw_rw0104_01.row.claim.raises args cls = false) (hp : PySem.Challenge.rw_rw0104_01.row.claim.post args (.bool true) args = true) :
    wpAny (model PySem.Challenge.rw_rw0104_01.row.prog w) callerA (call (.ref 294) [.ref 295])
      (fun v s' => GoodWG PySem.Challenge.rw_rw0104_01.row.claim (classAt s₀.heap) (ExcName.means s₀.heap) args s₁ (.ok (.ret v)) s')
      (fun e s' => GoodWG PySem.Challenge.rw_rw0104_01.row.claim (classAt s₀.heap) (ExcName.means s₀.heap) args s₁ (.error e) s') s₁ := by
  obtain ⟨l, rfl, hl⟩ := ints_are hI
  have hl63 : l.length ≤ 63 := by omega
  have h234 : s₁.heap.get? 234 = some tab0 := kt_at ZH (k234 _)
  have hS : Sat (B w) (stay [(295, lst (ivals l) 0), (234, tab0)] s₁.heap.objs.size (s₁.toks - 706)) s₁ := by
    refine sat_of (fun a o e => ?_) rfl (by omega) (fun p hp => ?_) (by simp)
    · have e' : (top w.params).get a = some o := e
      rw [top_get] at e'
      split at e'
      · cases e'
      · exact kt_at ZH e'
    · simp only [List.mem_cons, List.not_mem_nil, or_false] at hp
      rcases hp with rfl | rfl
      · exact ⟨hol, by show (top w.params).get 295 = none; rw [top_get, if_neg (by decide), k295]⟩
      · exact ⟨h234, by show (top w.params).get 234 = none; rw [top_get, if_pos rfl]⟩
  show wpAny (model (B w).prog (B w).w) callerA _ _ _ s₁
  refine wpAny_call (law_cg w 295 0 l hl63 callerA s₁ _ rfl (by decide +kernel) (by decide +kernel) hS fun a b t s' _ I => ?_)
  show GoodWG _ _ _ _ _ _ s'
  have g234 := (I.sat.own_mem (p := (234, tabX a)) (by simp)).1
  have g295 := (I.sat.own_mem (p := (295, lst (ivals l) 0)) (by simp)).1
  have keep : ∀ b o, s₁.heap.get? b = some o → b ≠ 234 → b ≠ 295 → s'.heap.get? b = some o := fun b o e h1 h2 => I.kp.keep b o e fun i a' o' e' => by
    have hm := mem_cells e'
    simp only [List.mem_cons, List.not_mem_nil, or_false, Prod.mk.injEq] at hm
    rcases hm with ⟨rfl, _⟩ | ⟨rfl, _⟩
    · exact fun q => h2 q.symm
    · exact fun q => h1 q.symm
  refine ⟨.inl ⟨_, _, [], rfl, hr, ReadsW.bool true, hp, fun _ => ⟨List.nodup_nil, fun _ hm => (nomatch hm)⟩⟩, ⟨fun b o e => ?_, fun b o e => ?_⟩, I.kp.os, ?_⟩
  · by_cases h1 : b = 234
    · subst h1
      rw [h234] at e
      cases e
      exact .inr (.inl ⟨table234 ZH, rfl, #[], #[.int 153 0, .int 4 0, .ref a], rfl, g234⟩)
    · by_cases h2 : b = 295
      · subst h2
        rw [hol] at e
        cases e
        exact .inl g295
      · exact .inl (keep b o e h1 h2)
  · by_cases h1 : b = 234
    · subst h1; exact ⟨_, g234⟩
    · by_cases h2 : b = 295
      · subst h2; exact ⟨_, g295⟩
      · exact ⟨_, keep b o e h1 h2⟩
  · rw [I.kp.gens]
    exact AllBare.of_eq hg
end Mine
end
open PySem PySem.W PySem.W.X PySem.W.ZRun PyProof.Rows
set_option maxRecDepth 100000 in
set_option maxHeartbeats 0 in
theorem PySem.Challenge.cw_rw0104_01_holds : PySem.Challenge.rw_rw0104_01.Holds := by
  w_on
  o_law
  refine Mine.holds_of_walk ?hw (by first | assumption | decide +kernel) ?hc
  case hw => w_witness2
  case hc =>
    intro w s₀ s₁ mg mb G y fa o pm cd doc dV kV ho hd hcd hD hmg hg args vals as L hpre hlay hrd hwl hlo
    have Z := z_facts Mine.kadr_eq y
    have ZA := And.left Z
    have ZI := And.left (And.right Z)
    have ZN := And.left (And.right (And.right Z))
    have ZT := And.right (And.right (And.right Z))
    clear Z
    have KX := Mine.kx_of ZI (Laid.keeps L)
    have ZH := Mine.zh_of Mine.ktop_eq ZA (Laid.keeps L)
    refine Ground.open G ?_
    intro T B D TE TW
    have e1 := mg_of KX (Top.g T) (Mine.fa_law w.params)
    have hfa : fa = 294 := Value.ref.inj (Option.some.inj (hmg.symm.trans e1))
    subst hfa
    clear y ZA ZI KX e1 hmg ho hd hcd hD T B D TE TW G
    wrow_args hpre hlay hrd hwl hlo
    have hat := (script_at L).1
    have htk := script_toks L ZT
    rw [ZN] at hat
    subst hat
    exact Mine.law_final ZH hg htk (script_obj L (by assumption)) (by assumption) (by omega) (fun _ => rfl) (by kernel_rfl)
