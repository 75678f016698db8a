import PyProof.Rows.All
import Wide.All
import OpenK.AllK
import Wide.FinOn
import PySem.Challenge.RW_ph0144_01
set_option Elab.async false

section
open PySem PySem.W PySem.W.X PySem.W.ZRun PyProof.Rows
set_option maxRecDepth 100000
set_option maxHeartbeats 8000000
noncomputable def hdz.view_474 : Program :=
  let p := (OpenRow.toRowW (OpenLaw.row Challenge.rw_ph0144_01)).1
  { p with main := { p.main with body := [0, 1, 3, 4, 5, 6, 7, 9, 11, 12, 13, 14].filterMap (p.main.body[·]?) } }
namespace Mine
noncomputable def hFdOf : Option Stmt → FuncData
  | some (.FunctionDef n a b _ _ _ s _ _ _) => { name := n, qualname := n, params := a, body := .stmts b, scope := s, globals := 0, closure := [], defaults := .none, kwdefaults := .none }
  | _ => { name := Str.empty, qualname := Str.empty, params := default, body := .stmts [], scope := default, globals := 0, closure := [], defaults := .none, kwdefaults := .none }
noncomputable def hClass : Option Stmt → List Stmt
  | some (.ClassDef _ _ _ b _ _ _ _ _ _ _) => b
  | _ => []
noncomputable def hFd (i : Nat) : FuncData := hFdOf (Challenge.pw_ph0144_01.main.body[i]?)
noncomputable def hFm (i j : Nat) : FuncData := hFdOf ((hClass (Challenge.pw_ph0144_01.main.body[i]?))[j]?)
noncomputable def hZe (P : Params) (s : Str) (n : Nat) (v : Value) : DictEntry := { hash := PyData.keyHash P s, key := .str s n, val := v }
end Mine
noncomputable def Mine.hz0 : Str := ⟨⟨[95,95,110,97,109,101,95,95]⟩⟩
noncomputable def Mine.hz1 : Str := ⟨⟨[98,117,105,108,116,105,110,115]⟩⟩
noncomputable def Mine.hz2 : Str := ⟨⟨[95,95,100,111,99,95,95]⟩⟩
noncomputable def Mine.hz3 : Str := ⟨⟨[95,95,112,97,99,107,97,103,101,95,95]⟩⟩
noncomputable def Mine.hz4 : Str := ⟨⟨[95,95,108,111,97,100,101,114,95,95]⟩⟩
noncomputable def Mine.hz5 : Str := ⟨⟨[95,95,115,112,101,99,95,95]⟩⟩
noncomputable def Mine.hz6 : Str := ⟨⟨[95,95,98,117,105,108,100,95,99,108,97,115,115,95,95]⟩⟩
noncomputable def Mine.hz7 : Str := ⟨⟨[95,95,105,109,112,111,114,116,95,95]⟩⟩
noncomputable def Mine.hz8 : Str := ⟨⟨[97,98,115]⟩⟩
noncomputable def Mine.hz9 : Str := ⟨⟨[97,108,108]⟩⟩
noncomputable def Mine.hz10 : Str := ⟨⟨[97,110,121]⟩⟩
noncomputable def Mine.hz11 : Str := ⟨⟨[97,115,99,105,105]⟩⟩
noncomputable def Mine.hz12 : Str := ⟨⟨[98,105,110]⟩⟩
noncomputable def Mine.hz13 : Str := ⟨⟨[98,114,101,97,107,112,111,105,110,116]⟩⟩
noncomputable def Mine.hz14 : Str := ⟨⟨[99,97,108,108,97,98,108,101]⟩⟩
noncomputable def Mine.hz15 : Str := ⟨⟨[99,104,114]⟩⟩
noncomputable def Mine.hz16 : Str := ⟨⟨[99,111,109,112,105,108,101]⟩⟩
noncomputable def Mine.hz17 : Str := ⟨⟨[100,101,108,97,116,116,114]⟩⟩
noncomputable def Mine.hz18 : Str := ⟨⟨[100,105,114]⟩⟩
noncomputable def Mine.hz19 : Str := ⟨⟨[100,105,118,109,111,100]⟩⟩
noncomputable def Mine.hz20 : Str := ⟨⟨[101,118,97,108]⟩⟩
noncomputable def Mine.hz21 : Str := ⟨⟨[101,120,101,99]⟩⟩
noncomputable def Mine.hz22 : Str := ⟨⟨[102,111,114,109,97,116]⟩⟩
noncomputable def Mine.hz23 : Str := ⟨⟨[103,101,116,97,116,116,114]⟩⟩
noncomputable def Mine.hz24 : Str := ⟨⟨[103,108,111,98,97,108,115]⟩⟩
noncomputable def Mine.hz25 : Str := ⟨⟨[104,97,115,97,116,116,114]⟩⟩
noncomputable def Mine.hz26 : Str := ⟨⟨[104,97,115,104]⟩⟩
noncomputable def Mine.hz27 : Str := ⟨⟨[104,101,120]⟩⟩
noncomputable def Mine.hz28 : Str := ⟨⟨[105,110,112,117,116]⟩⟩
noncomputable def Mine.hz29 : Str := ⟨⟨[105,115,105,110,115,116,97,110,99,101]⟩⟩
noncomputable def Mine.hz30 : Str := ⟨⟨[105,115,115,117,98,99,108,97,115,115]⟩⟩
noncomputable def Mine.hz31 : Str := ⟨⟨[105,116,101,114]⟩⟩
noncomputable def Mine.hz32 : Str := ⟨⟨[97,105,116,101,114]⟩⟩
noncomputable def Mine.hz33 : Str := ⟨⟨[108,101,110]⟩⟩
noncomputable def Mine.hz34 : Str := ⟨⟨[108,111,99,97,108,115]⟩⟩
noncomputable def Mine.hz35 : Str := ⟨⟨[109,97,120]⟩⟩
noncomputable def Mine.hz36 : Str := ⟨⟨[109,105,110]⟩⟩
noncomputable def Mine.hz37 : Str := ⟨⟨[110,101,120,116]⟩⟩
noncomputable def Mine.hz38 : Str := ⟨⟨[97,110,101,120,116]⟩⟩
noncomputable def Mine.hz39 : Str := ⟨⟨[111,99,116]⟩⟩
noncomputable def Mine.hz40 : Str := ⟨⟨[111,114,100]⟩⟩
noncomputable def Mine.hz41 : Str := ⟨⟨[112,111,119]⟩⟩
noncomputable def Mine.hz42 : Str := ⟨⟨[112,114,105,110,116]⟩⟩
noncomputable def Mine.hz43 : Str := ⟨⟨[114,101,112,114]⟩⟩
noncomputable def Mine.hz44 : Str := ⟨⟨[114,111,117,110,100]⟩⟩
noncomputable def Mine.hz45 : Str := ⟨⟨[115,101,116,97,116,116,114]⟩⟩
noncomputable def Mine.hz46 : Str := ⟨⟨[115,111,114,116,101,100]⟩⟩
noncomputable def Mine.hz47 : Str := ⟨⟨[115,117,109]⟩⟩
noncomputable def Mine.hz48 : Str := ⟨⟨[118,97,114,115]⟩⟩
noncomputable def Mine.hz49 : Str := ⟨⟨[78,111,110,101]⟩⟩
noncomputable def Mine.hz50 : Str := ⟨⟨[69,108,108,105,112,115,105,115]⟩⟩
noncomputable def Mine.hz51 : Str := ⟨⟨[78,111,116,73,109,112,108,101,109,101,110,116,101,100]⟩⟩
noncomputable def Mine.hz52 : Str := ⟨⟨[70,97,108,115,101]⟩⟩
noncomputable def Mine.hz53 : Str := ⟨⟨[84,114,117,101]⟩⟩
noncomputable def Mine.hz54 : Str := ⟨⟨[98,111,111,108]⟩⟩
noncomputable def Mine.hz55 : Str := ⟨⟨[109,101,109,111,114,121,118,105,101,119]⟩⟩
noncomputable def Mine.hz56 : Str := ⟨⟨[98,121,116,101,97,114,114,97,121]⟩⟩
noncomputable def Mine.hz57 : Str := ⟨⟨[98,121,116,101,115]⟩⟩
noncomputable def Mine.hz58 : Str := ⟨⟨[99,108,97,115,115,109,101,116,104,111,100]⟩⟩
noncomputable def Mine.hz59 : Str := ⟨⟨[99,111,109,112,108,101,120]⟩⟩
noncomputable def Mine.hz60 : Str := ⟨⟨[100,105,99,116]⟩⟩
noncomputable def Mine.hz61 : Str := ⟨⟨[101,110,117,109,101,114,97,116,101]⟩⟩
noncomputable def Mine.hz62 : Str := ⟨⟨[102,105,108,116,101,114]⟩⟩
noncomputable def Mine.hz63 : Str := ⟨⟨[102,108,111,97,116]⟩⟩
noncomputable def Mine.hz64 : Str := ⟨⟨[102,114,111,122,101,110,115,101,116]⟩⟩
noncomputable def Mine.hz65 : Str := ⟨⟨[112,114,111,112,101,114,116,121]⟩⟩
noncomputable def Mine.hz66 : Str := ⟨⟨[105,110,116]⟩⟩
noncomputable def Mine.hz67 : Str := ⟨⟨[108,105,115,116]⟩⟩
noncomputable def Mine.hz68 : Str := ⟨⟨[109,97,112]⟩⟩
noncomputable def Mine.hz69 : Str := ⟨⟨[111,98,106,101,99,116]⟩⟩
noncomputable def Mine.hz70 : Str := ⟨⟨[114,97,110,103,101]⟩⟩
noncomputable def Mine.hz71 : Str := ⟨⟨[114,101,118,101,114,115,101,100]⟩⟩
noncomputable def Mine.hz72 : Str := ⟨⟨[115,101,116]⟩⟩
noncomputable def Mine.hz73 : Str := ⟨⟨[115,108,105,99,101]⟩⟩
noncomputable def Mine.hz74 : Str := ⟨⟨[115,116,97,116,105,99,109,101,116,104,111,100]⟩⟩
noncomputable def Mine.hz75 : Str := ⟨⟨[115,116,114]⟩⟩
noncomputable def Mine.hz76 : Str := ⟨⟨[115,117,112,101,114]⟩⟩
noncomputable def Mine.hz77 : Str := ⟨⟨[116,117,112,108,101]⟩⟩
noncomputable def Mine.hz78 : Str := ⟨⟨[116,121,112,101]⟩⟩
noncomputable def Mine.hz79 : Str := ⟨⟨[122,105,112]⟩⟩
noncomputable def Mine.hz80 : Str := ⟨⟨[95,95,100,101,98,117,103,95,95]⟩⟩
noncomputable def Mine.hz81 : Str := ⟨⟨[66,97,115,101,69,120,99,101,112,116,105,111,110]⟩⟩
noncomputable def Mine.hz82 : Str := ⟨⟨[66,97,115,101,69,120,99,101,112,116,105,111,110,71,114,111,117,112]⟩⟩
noncomputable def Mine.hz83 : Str := ⟨⟨[69,120,99,101,112,116,105,111,110]⟩⟩
noncomputable def Mine.hz84 : Str := ⟨⟨[71,101,110,101,114,97,116,111,114,69,120,105,116]⟩⟩
noncomputable def Mine.hz85 : Str := ⟨⟨[75,101,121,98,111,97,114,100,73,110,116,101,114,114,117,112,116]⟩⟩
noncomputable def Mine.hz86 : Str := ⟨⟨[83,121,115,116,101,109,69,120,105,116]⟩⟩
noncomputable def Mine.hz87 : Str := ⟨⟨[65,114,105,116,104,109,101,116,105,99,69,114,114,111,114]⟩⟩
noncomputable def Mine.hz88 : Str := ⟨⟨[65,115,115,101,114,116,105,111,110,69,114,114,111,114]⟩⟩
noncomputable def Mine.hz89 : Str := ⟨⟨[65,116,116,114,105,98,117,116,101,69,114,114,111,114]⟩⟩
noncomputable def Mine.hz90 : Str := ⟨⟨[66,117,102,102,101,114,69,114,114,111,114]⟩⟩
noncomputable def Mine.hz91 : Str := ⟨⟨[69,79,70,69,114,114,111,114]⟩⟩
noncomputable def Mine.hz92 : Str := ⟨⟨[73,109,112,111,114,116,69,114,114,111,114]⟩⟩
noncomputable def Mine.hz93 : Str := ⟨⟨[76,111,111,107,117,112,69,114,114,111,114]⟩⟩
noncomputable def Mine.hz94 : Str := ⟨⟨[77,101,109,111,114,121,69,114,114,111,114]⟩⟩
noncomputable def Mine.hz95 : Str := ⟨⟨[78,97,109,101,69,114,114,111,114]⟩⟩
noncomputable def Mine.hz96 : Str := ⟨⟨[79,83,69,114,114,111,114]⟩⟩
noncomputable def Mine.hz97 : Str := ⟨⟨[82,101,102,101,114,101,110,99,101,69,114,114,111,114]⟩⟩
noncomputable def Mine.hz98 : Str := ⟨⟨[82,117,110,116,105,109,101,69,114,114,111,114]⟩⟩
noncomputable def Mine.hz99 : Str := ⟨⟨[83,116,111,112,65,115,121,110,99,73,116,101,114,97,116,105,111,110]⟩⟩
noncomputable def Mine.hz100 : Str := ⟨⟨[83,116,111,112,73,116,101,114,97,116,105,111,110]⟩⟩
noncomputable def Mine.hz101 : Str := ⟨⟨[83,121,110,116,97,120,69,114,114,111,114]⟩⟩
noncomputable def Mine.hz102 : Str := ⟨⟨[83,121,115,116,101,109,69,114,114,111,114]⟩⟩
noncomputable def Mine.hz103 : Str := ⟨⟨[84,121,112,101,69,114,114,111,114]⟩⟩
noncomputable def Mine.hz104 : Str := ⟨⟨[86,97,108,117,101,69,114,114,111,114]⟩⟩
noncomputable def Mine.hz105 : Str := ⟨⟨[87,97,114,110,105,110,103]⟩⟩
noncomputable def Mine.hz106 : Str := ⟨⟨[70,108,111,97,116,105,110,103,80,111,105,110,116,69,114,114,111,114]⟩⟩
noncomputable def Mine.hz107 : Str := ⟨⟨[79,118,101,114,102,108,111,119,69,114,114,111,114]⟩⟩
noncomputable def Mine.hz108 : Str := ⟨⟨[90,101,114,111,68,105,118,105,115,105,111,110,69,114,114,111,114]⟩⟩
noncomputable def Mine.hz109 : Str := ⟨⟨[66,121,116,101,115,87,97,114,110,105,110,103]⟩⟩
noncomputable def Mine.hz110 : Str := ⟨⟨[68,101,112,114,101,99,97,116,105,111,110,87,97,114,110,105,110,103]⟩⟩
noncomputable def Mine.hz111 : Str := ⟨⟨[69,110,99,111,100,105,110,103,87,97,114,110,105,110,103]⟩⟩
noncomputable def Mine.hz112 : Str := ⟨⟨[70,117,116,117,114,101,87,97,114,110,105,110,103]⟩⟩
noncomputable def Mine.hz113 : Str := ⟨⟨[73,109,112,111,114,116,87,97,114,110,105,110,103]⟩⟩
noncomputable def Mine.hz114 : Str := ⟨⟨[80,101,110,100,105,110,103,68,101,112,114,101,99,97,116,105,111,110,87,97,114,110,105,110,103]⟩⟩
noncomputable def Mine.hz115 : Str := ⟨⟨[82,101,115,111,117,114,99,101,87,97,114,110,105,110,103]⟩⟩
noncomputable def Mine.hz116 : Str := ⟨⟨[82,117,110,116,105,109,101,87,97,114,110,105,110,103]⟩⟩
noncomputable def Mine.hz117 : Str := ⟨⟨[83,121,110,116,97,120,87,97,114,110,105,110,103]⟩⟩
noncomputable def Mine.hz118 : Str := ⟨⟨[85,110,105,99,111,100,101,87,97,114,110,105,110,103]⟩⟩
noncomputable def Mine.hz119 : Str := ⟨⟨[85,115,101,114,87,97,114,110,105,110,103]⟩⟩
noncomputable def Mine.hz120 : Str := ⟨⟨[66,108,111,99,107,105,110,103,73,79,69,114,114,111,114]⟩⟩
noncomputable def Mine.hz121 : Str := ⟨⟨[67,104,105,108,100,80,114,111,99,101,115,115,69,114,114,111,114]⟩⟩
noncomputable def Mine.hz122 : Str := ⟨⟨[67,111,110,110,101,99,116,105,111,110,69,114,114,111,114]⟩⟩
noncomputable def Mine.hz123 : Str := ⟨⟨[70,105,108,101,69,120,105,115,116,115,69,114,114,111,114]⟩⟩
noncomputable def Mine.hz124 : Str := ⟨⟨[70,105,108,101,78,111,116,70,111,117,110,100,69,114,114,111,114]⟩⟩
noncomputable def Mine.hz125 : Str := ⟨⟨[73,110,116,101,114,114,117,112,116,101,100,69,114,114,111,114]⟩⟩
noncomputable def Mine.hz126 : Str := ⟨⟨[73,115,65,68,105,114,101,99,116,111,114,121,69,114,114,111,114]⟩⟩
noncomputable def Mine.hz127 : Str := ⟨⟨[78,111,116,65,68,105,114,101,99,116,111,114,121,69,114,114,111,114]⟩⟩
noncomputable def Mine.hz128 : Str := ⟨⟨[80,101,114,109,105,115,115,105,111,110,69,114,114,111,114]⟩⟩
noncomputable def Mine.hz129 : Str := ⟨⟨[80,114,111,99,101,115,115,76,111,111,107,117,112,69,114,114,111,114]⟩⟩
noncomputable def Mine.hz130 : Str := ⟨⟨[84,105,109,101,111,117,116,69,114,114,111,114]⟩⟩
noncomputable def Mine.hz131 : Str := ⟨⟨[73,110,100,101,110,116,97,116,105,111,110,69,114,114,111,114]⟩⟩
noncomputable def Mine.hz132 : Str := ⟨⟨[95,73,110,99,111,109,112,108,101,116,101,73,110,112,117,116,69,114,114,111,114]⟩⟩
noncomputable def Mine.hz133 : Str := ⟨⟨[73,110,100,101,120,69,114,114,111,114]⟩⟩
noncomputable def Mine.hz134 : Str := ⟨⟨[75,101,121,69,114,114,111,114]⟩⟩
noncomputable def Mine.hz135 : Str := ⟨⟨[77,111,100,117,108,101,78,111,116,70,111,117,110,100,69,114,114,111,114]⟩⟩
noncomputable def Mine.hz136 : Str := ⟨⟨[78,111,116,73,109,112,108,101,109,101,110,116,101,100,69,114,114,111,114]⟩⟩
noncomputable def Mine.hz137 : Str := ⟨⟨[80,121,116,104,111,110,70,105,110,97,108,105,122,97,116,105,111,110,69,114,114,111,114]⟩⟩
noncomputable def Mine.hz138 : Str := ⟨⟨[82,101,99,117,114,115,105,111,110,69,114,114,111,114]⟩⟩
noncomputable def Mine.hz139 : Str := ⟨⟨[85,110,98,111,117,110,100,76,111,99,97,108,69,114,114,111,114]⟩⟩
noncomputable def Mine.hz140 : Str := ⟨⟨[85,110,105,99,111,100,101,69,114,114,111,114]⟩⟩
noncomputable def Mine.hz141 : Str := ⟨⟨[66,114,111,107,101,110,80,105,112,101,69,114,114,111,114]⟩⟩
noncomputable def Mine.hz142 : Str := ⟨⟨[67,111,110,110,101,99,116,105,111,110,65,98,111,114,116,101,100,69,114,114,111,114]⟩⟩
noncomputable def Mine.hz143 : Str := ⟨⟨[67,111,110,110,101,99,116,105,111,110,82,101,102,117,115,101,100,69,114,114,111,114]⟩⟩
noncomputable def Mine.hz144 : Str := ⟨⟨[67,111,110,110,101,99,116,105,111,110,82,101,115,101,116,69,114,114,111,114]⟩⟩
noncomputable def Mine.hz145 : Str := ⟨⟨[84,97,98,69,114,114,111,114]⟩⟩
noncomputable def Mine.hz146 : Str := ⟨⟨[85,110,105,99,111,100,101,68,101,99,111,100,101,69,114,114,111,114]⟩⟩
noncomputable def Mine.hz147 : Str := ⟨⟨[85,110,105,99,111,100,101,69,110,99,111,100,101,69,114,114,111,114]⟩⟩
noncomputable def Mine.hz148 : Str := ⟨⟨[85,110,105,99,111,100,101,84,114,97,110,115,108,97,116,101,69,114,114,111,114]⟩⟩
noncomputable def Mine.hz149 : Str := ⟨⟨[69,120,99,101,112,116,105,111,110,71,114,111,117,112]⟩⟩
noncomputable def Mine.hz150 : Str := ⟨⟨[69,110,118,105,114,111,110,109,101,110,116,69,114,114,111,114]⟩⟩
noncomputable def Mine.hz151 : Str := ⟨⟨[73,79,69,114,114,111,114]⟩⟩
noncomputable def Mine.hz152 : Str := ⟨⟨[111,112,101,110]⟩⟩
noncomputable def Mine.hz153 : Str := ⟨⟨[113,117,105,116]⟩⟩
noncomputable def Mine.hz154 : Str := ⟨⟨[101,120,105,116]⟩⟩
noncomputable def Mine.hz155 : Str := ⟨⟨[99,111,112,121,114,105,103,104,116]⟩⟩
noncomputable def Mine.hz156 : Str := ⟨⟨[99,114,101,100,105,116,115]⟩⟩
noncomputable def Mine.hz157 : Str := ⟨⟨[108,105,99,101,110,115,101]⟩⟩
noncomputable def Mine.hz158 : Str := ⟨⟨[104,101,108,112]⟩⟩
noncomputable def Mine.hz159 : Str := ⟨⟨[95,95,109,97,105,110,95,95]⟩⟩
noncomputable def Mine.hz160 : Str := ⟨⟨[95,115,114,101]⟩⟩
noncomputable def Mine.hz161 : Str := ⟨⟨[105,109,112,111,114,116,46,108,111,97,100,101,100,46,95,115,114,101]⟩⟩
noncomputable def Mine.hz162 : Str := ⟨⟨[99,108,97,115,115,46,95,102,114,111,122,101,110,95,105,109,112,111,114,116,108,105,98,46,66,117,105,108,116,105,110,73,109,112,111,114,116,101,114]⟩⟩
noncomputable def Mine.hz163 : Str := ⟨⟨[119,97,116,99,104,101,100,46,105,109,112,111,114,116]⟩⟩
noncomputable def Mine.hz164 : Str := ⟨⟨[99,108,97,115,115,46,95,102,114,111,122,101,110,95,105,109,112,111,114,116,108,105,98,46,77,111,100,117,108,101,83,112,101,99]⟩⟩
noncomputable def Mine.hz165 : Str := ⟨⟨[115,121,115,46,109,111,100,117,108,101,115,46,98,111,111,107,101,100,45,101,112,111,99,104]⟩⟩
noncomputable def Mine.hz166 : Str := ⟨⟨[105,109,112,111,114,116,46,108,97,116,101,114,45,108,97,105,100,46,95,115,114,101]⟩⟩
noncomputable def Mine.hz167 : Str := ⟨⟨[119,97,116,99,104,101,100,46,108,105,98,114,97,114,121]⟩⟩
noncomputable def Mine.hz168 : Str := ⟨⟨[119,97,116,99,104,101,100,46,108,105,98,114,97,114,121,45,111,98,106,101,99,116,115]⟩⟩
noncomputable def Mine.hz169 : Str := ⟨⟨[119,97,116,99,104,101,100,46,108,105,98,114,97,114,121,45,100,101,101,112,46,95,115,114,101]⟩⟩
noncomputable def Mine.hz170 : Str := ⟨⟨[108,97,119,95,112,104,48,49,52,52,95,48,49]⟩⟩
noncomputable def Mine.hz171 : Str := ⟨⟨[95,95,97,110,110,111,116,97,116,105,111,110,115,95,95]⟩⟩
noncomputable def Mine.hz172 : Str := ⟨⟨[95,95,98,117,105,108,116,105,110,115,95,95]⟩⟩
noncomputable def Mine.hz173 : Str := ⟨⟨[95,95,102,105,108,101,95,95]⟩⟩
noncomputable def Mine.hz174 : Str := ⟨⟨[47,99,108,97,105,109,47,99,117,116,46,112,121]⟩⟩
noncomputable def Mine.hz175 : Str := ⟨⟨[95,95,99,97,99,104,101,100,95,95]⟩⟩
noncomputable def Mine.hz176 : Str := ⟨⟨[95,119,97,108,108]⟩⟩
noncomputable def Mine.hz177 : Str := ⟨⟨[95,116,119,105,110,95,114,101,95,49]⟩⟩
noncomputable def Mine.hz178 : Str := ⟨⟨[69,77,80,84,89,83,84,82,73,78,71]⟩⟩
noncomputable def Mine.hz179 : Str := ⟨⟨[95,86,97,108,117,101,70,111,114,109,97,116,116,101,114]⟩⟩
noncomputable def Mine.hz180 : Str := ⟨⟨[95,65,99,99,117,109,117,108,97,116,111,114]⟩⟩
noncomputable def Mine.hz181 : Str := ⟨⟨[115,101,97,114,99,104,95,114,101,118,101,114,115,101]⟩⟩
noncomputable def Mine.hz182 : Str := ⟨⟨[95,108,97,119,95,104,105,116]⟩⟩
noncomputable def Mine.hz183 : Str := ⟨⟨[95,108,97,119,95,102,105,110,100,101,114]⟩⟩
noncomputable def Mine.hz184 : Str := ⟨⟨[95,108,97,119,95,114,111,119,115]⟩⟩
noncomputable def Mine.hz185 : Str := ⟨⟨[108,97,119]⟩⟩
noncomputable def Mine.hz186 : Str := ⟨⟨[60,109,111,100,117,108,101,62]⟩⟩
noncomputable def Mine.hz187 : Str := ⟨⟨[116,101,109,112,108,97,116,101]⟩⟩
noncomputable def Mine.hz188 : Str := ⟨⟨[103,101,116,99,111,100,101,115,105,122,101]⟩⟩
noncomputable def Mine.hz189 : Str := ⟨⟨[97,115,99,105,105,95,105,115,99,97,115,101,100]⟩⟩
noncomputable def Mine.hz190 : Str := ⟨⟨[117,110,105,99,111,100,101,95,105,115,99,97,115,101,100]⟩⟩
noncomputable def Mine.hz191 : Str := ⟨⟨[97,115,99,105,105,95,116,111,108,111,119,101,114]⟩⟩
noncomputable def Mine.hz192 : Str := ⟨⟨[117,110,105,99,111,100,101,95,116,111,108,111,119,101,114]⟩⟩
noncomputable def Mine.hz193 : Str := ⟨⟨[77,65,71,73,67]⟩⟩
noncomputable def Mine.hz194 : Str := ⟨⟨[67,79,68,69,83,73,90,69]⟩⟩
noncomputable def Mine.hz195 : Str := ⟨⟨[77,65,88,82,69,80,69,65,84]⟩⟩
noncomputable def Mine.hz196 : Str := ⟨⟨[77,65,88,71,82,79,85,80,83]⟩⟩
noncomputable def Mine.hz197 : Str := ⟨⟨[95,95,109,111,100,117,108,101,95,95]⟩⟩
noncomputable def Mine.hz198 : Str := ⟨⟨[95,95,102,105,114,115,116,108,105,110,101,110,111,95,95]⟩⟩
noncomputable def Mine.hz199 : Str := ⟨⟨[95,79,82,73,71,73,78]⟩⟩
noncomputable def Mine.hz200 : Str := ⟨⟨[102,105,110,100,95,115,112,101,99]⟩⟩
noncomputable def Mine.hz201 : Str := ⟨⟨[99,114,101,97,116,101,95,109,111,100,117,108,101]⟩⟩
noncomputable def Mine.hz202 : Str := ⟨⟨[101,120,101,99,95,109,111,100,117,108,101]⟩⟩
noncomputable def Mine.hz203 : Str := ⟨⟨[103,101,116,95,99,111,100,101]⟩⟩
noncomputable def Mine.hz204 : Str := ⟨⟨[103,101,116,95,115,111,117,114,99,101]⟩⟩
noncomputable def Mine.hz205 : Str := ⟨⟨[105,115,95,112,97,99,107,97,103,101]⟩⟩
noncomputable def Mine.hz206 : Str := ⟨⟨[108,111,97,100,95,109,111,100,117,108,101]⟩⟩
noncomputable def Mine.hz207 : Str := ⟨⟨[95,95,115,116,97,116,105,99,95,97,116,116,114,105,98,117,116,101,115,95,95]⟩⟩
noncomputable def Mine.hz208 : Str := ⟨⟨[95,95,100,105,99,116,95,95]⟩⟩
noncomputable def Mine.hz209 : Str := ⟨⟨[95,95,119,101,97,107,114,101,102,95,95]⟩⟩
noncomputable def Mine.hz210 : Str := ⟨⟨[66,117,105,108,116,105,110,73,109,112,111,114,116,101,114]⟩⟩
noncomputable def Mine.hz211 : Str := ⟨⟨[115,101,108,102]⟩⟩
noncomputable def Mine.hz212 : Str := ⟨⟨[115,112,108,105,116,99,104,97,114,115]⟩⟩
noncomputable def Mine.hz213 : Str := ⟨⟨[95,86,97,108,117,101,70,111,114,109,97,116,116,101,114,46,95,95,105,110,105,116,95,95]⟩⟩
noncomputable def Mine.hz214 : Str := ⟨⟨[95,95,105,110,105,116,95,95]⟩⟩
noncomputable def Mine.hz215 : Str := ⟨⟨[99,112,121,51,49,51,46,101,109,97,105,108,46,104,101,97,100,101,114]⟩⟩
noncomputable def Mine.hz216 : Str := ⟨⟨[95,86,97,108,117,101,70,111,114,109,97,116,116,101,114,46,95,115,116,114]⟩⟩
noncomputable def Mine.hz217 : Str := ⟨⟨[95,115,116,114]⟩⟩
noncomputable def Mine.hz218 : Str := ⟨⟨[95,86,97,108,117,101,70,111,114,109,97,116,116,101,114,46,95,95,115,116,114,95,95]⟩⟩
noncomputable def Mine.hz219 : Str := ⟨⟨[95,95,115,116,114,95,95]⟩⟩
noncomputable def Mine.hz220 : Str := ⟨⟨[95,86,97,108,117,101,70,111,114,109,97,116,116,101,114,46,110,101,119,108,105,110,101]⟩⟩
noncomputable def Mine.hz221 : Str := ⟨⟨[110,101,119,108,105,110,101]⟩⟩
noncomputable def Mine.hz222 : Str := ⟨⟨[95,86,97,108,117,101,70,111,114,109,97,116,116,101,114,46,97,100,100,95,116,114,97,110,115,105,116,105,111,110]⟩⟩
noncomputable def Mine.hz223 : Str := ⟨⟨[97,100,100,95,116,114,97,110,115,105,116,105,111,110]⟩⟩
noncomputable def Mine.hz224 : Str := ⟨⟨[102,119,115]⟩⟩
noncomputable def Mine.hz225 : Str := ⟨⟨[115,116,114,105,110,103]⟩⟩
noncomputable def Mine.hz226 : Str := ⟨⟨[95,86,97,108,117,101,70,111,114,109,97,116,116,101,114,46,102,101,101,100]⟩⟩
noncomputable def Mine.hz227 : Str := ⟨⟨[102,101,101,100]⟩⟩
noncomputable def Mine.hz228 : Str := ⟨⟨[95,86,97,108,117,101,70,111,114,109,97,116,116,101,114,46,95,109,97,120,108,101,110,103,116,104,115]⟩⟩
noncomputable def Mine.hz229 : Str := ⟨⟨[95,109,97,120,108,101,110,103,116,104,115]⟩⟩
noncomputable def Mine.hz230 : Str := ⟨⟨[112,97,114,116]⟩⟩
noncomputable def Mine.hz231 : Str := ⟨⟨[95,86,97,108,117,101,70,111,114,109,97,116,116,101,114,46,95,97,115,99,105,105,95,115,112,108,105,116]⟩⟩
noncomputable def Mine.hz232 : Str := ⟨⟨[95,97,115,99,105,105,95,115,112,108,105,116]⟩⟩
noncomputable def Mine.hz233 : Str := ⟨⟨[95,86,97,108,117,101,70,111,114,109,97,116,116,101,114,46,95,97,112,112,101,110,100,95,99,104,117,110,107]⟩⟩
noncomputable def Mine.hz234 : Str := ⟨⟨[95,97,112,112,101,110,100,95,99,104,117,110,107]⟩⟩
noncomputable def Mine.hz235 : Str := ⟨⟨[95,95,99,108,97,115,115,95,95]⟩⟩
noncomputable def Mine.hz236 : Str := ⟨⟨[95,65,99,99,117,109,117,108,97,116,111,114,46,95,95,105,110,105,116,95,95]⟩⟩
noncomputable def Mine.hz237 : Str := ⟨⟨[95,65,99,99,117,109,117,108,97,116,111,114,46,112,117,115,104]⟩⟩
noncomputable def Mine.hz238 : Str := ⟨⟨[112,117,115,104]⟩⟩
noncomputable def Mine.hz239 : Str := ⟨⟨[95,65,99,99,117,109,117,108,97,116,111,114,46,112,111,112,95,102,114,111,109]⟩⟩
noncomputable def Mine.hz240 : Str := ⟨⟨[112,111,112,95,102,114,111,109]⟩⟩
noncomputable def Mine.hz241 : Str := ⟨⟨[95,65,99,99,117,109,117,108,97,116,111,114,46,112,111,112]⟩⟩
noncomputable def Mine.hz242 : Str := ⟨⟨[112,111,112]⟩⟩
noncomputable def Mine.hz243 : Str := ⟨⟨[95,65,99,99,117,109,117,108,97,116,111,114,46,95,95,108,101,110,95,95]⟩⟩
noncomputable def Mine.hz244 : Str := ⟨⟨[95,95,108,101,110,95,95]⟩⟩
noncomputable def Mine.hz245 : Str := ⟨⟨[95,65,99,99,117,109,117,108,97,116,111,114,46,95,95,115,116,114,95,95]⟩⟩
noncomputable def Mine.hz246 : Str := ⟨⟨[95,65,99,99,117,109,117,108,97,116,111,114,46,114,101,115,101,116]⟩⟩
noncomputable def Mine.hz247 : Str := ⟨⟨[114,101,115,101,116]⟩⟩
noncomputable def Mine.hz248 : Str := ⟨⟨[95,65,99,99,117,109,117,108,97,116,111,114,46,105,115,95,111,110,108,121,119,115]⟩⟩
noncomputable def Mine.hz249 : Str := ⟨⟨[105,115,95,111,110,108,121,119,115]⟩⟩
noncomputable def Mine.hz250 : Str := ⟨⟨[95,65,99,99,117,109,117,108,97,116,111,114,46,112,97,114,116,95,99,111,117,110,116]⟩⟩
noncomputable def Mine.hz251 : Str := ⟨⟨[112,97,114,116,95,99,111,117,110,116]⟩⟩
noncomputable def Mine.hz252 : Str := ⟨⟨[112,108,97,99,101]⟩⟩
noncomputable def Mine.hz253 : Str := ⟨⟨[115,105,122,101]⟩⟩
noncomputable def Mine.hz254 : Str := ⟨⟨[104,105,116]⟩⟩
noncomputable def Mine.hz255 : Str := ⟨⟨[115,105,103,110]⟩⟩
noncomputable def Mine.hz256 : Str := ⟨⟨[102,105,110,100,101,114]⟩⟩
noncomputable def hdz.zo_39 (P : Params) : Obj := { cls := .type "dict", data := .dict #[Mine.hZe P Mine.hz0 1 (.str Mine.hz1 160), Mine.hZe P Mine.hz2 2 (.builtin "builtins.__doc__:str#opaque"), Mine.hZe P Mine.hz3 3 (.builtin "builtins.__package__:str#opaque"), Mine.hZe P Mine.hz4 4 (.builtin "builtins.__loader__:shared#opaque"), Mine.hZe P Mine.hz5 5 (.builtin "builtins.__spec__#opaque"), Mine.hZe P Mine.hz6 6 (.builtin "__build_class__"), Mine.hZe P Mine.hz7 7 (.builtin "__import__"), Mine.hZe P Mine.hz8 8 (.builtin "abs"), Mine.hZe P Mine.hz9 9 (.builtin "all"), Mine.hZe P Mine.hz10 10 (.builtin "any"), Mine.hZe P Mine.hz11 11 (.builtin "ascii"), Mine.hZe P Mine.hz12 12 (.builtin "bin"), Mine.hZe P Mine.hz13 13 (.builtin "breakpoint"), Mine.hZe P Mine.hz14 14 (.builtin "callable"), Mine.hZe P Mine.hz15 15 (.builtin "chr"), Mine.hZe P Mine.hz16 16 (.builtin "compile"), Mine.hZe P Mine.hz17 17 (.builtin "delattr"), Mine.hZe P Mine.hz18 18 (.builtin "dir"), Mine.hZe P Mine.hz19 19 (.builtin "divmod"), Mine.hZe P Mine.hz20 20 (.builtin "eval"), Mine.hZe P Mine.hz21 21 (.builtin "exec"), Mine.hZe P Mine.hz22 22 (.builtin "format"), Mine.hZe P Mine.hz23 23 (.builtin "getattr"), Mine.hZe P Mine.hz24 24 (.builtin "globals"), Mine.hZe P Mine.hz25 25 (.builtin "hasattr"), Mine.hZe P Mine.hz26 26 (.builtin "hash"), Mine.hZe P Mine.hz27 27 (.builtin "hex"), Mine.hZe P ⟨⟨[105,100]⟩⟩ 28 (.builtin "id"), Mine.hZe P Mine.hz28 29 (.builtin "input"), Mine.hZe P Mine.hz29 30 (.builtin "isinstance"), Mine.hZe P Mine.hz30 31 (.builtin "issubclass"), Mine.hZe P Mine.hz31 32 (.builtin "iter"), Mine.hZe P Mine.hz32 33 (.builtin "aiter"), Mine.hZe P Mine.hz33 34 (.builtin "len"), Mine.hZe P Mine.hz34 35 (.builtin "locals"), Mine.hZe P Mine.hz35 36 (.builtin "max"), Mine.hZe P Mine.hz36 37 (.builtin "min"), Mine.hZe P Mine.hz37 38 (.builtin "next"), Mine.hZe P Mine.hz38 39 (.builtin "anext"), Mine.hZe P Mine.hz39 40 (.builtin "oct"), Mine.hZe P Mine.hz40 41 (.builtin "ord"), Mine.hZe P Mine.hz41 42 (.builtin "pow"), Mine.hZe P Mine.hz42 43 (.builtin "print"), Mine.hZe P Mine.hz43 44 (.builtin "repr"), Mine.hZe P Mine.hz44 45 (.builtin "round"), Mine.hZe P Mine.hz45 46 (.builtin "setattr"), Mine.hZe P Mine.hz46 47 (.builtin "sorted"), Mine.hZe P Mine.hz47 48 (.builtin "sum"), Mine.hZe P Mine.hz48 49 (.builtin "vars"), Mine.hZe P Mine.hz49 50 (.none), Mine.hZe P Mine.hz50 51 (Value.ellipsis), Mine.hZe P Mine.hz51 52 (Value.notImplemented), Mine.hZe P Mine.hz52 53 (.bool false), Mine.hZe P Mine.hz53 54 (.bool true), Mine.hZe P Mine.hz54 55 (.type "bool"), Mine.hZe P Mine.hz55 56 (.type "memoryview"), Mine.hZe P Mine.hz56 57 (.type "bytearray"), Mine.hZe P Mine.hz57 58 (.type "bytes"), Mine.hZe P Mine.hz58 59 (.type "classmethod"), Mine.hZe P Mine.hz59 60 (.type "complex"), Mine.hZe P Mine.hz60 61 (.type "dict"), Mine.hZe P Mine.hz61 62 (.type "enumerate"), Mine.hZe P Mine.hz62 63 (.type "filter"), Mine.hZe P Mine.hz63 64 (.type "float"), Mine.hZe P Mine.hz64 65 (.type "frozenset"), Mine.hZe P Mine.hz65 66 (.type "property"), Mine.hZe P Mine.hz66 67 (.type "int"), Mine.hZe P Mine.hz67 68 (.type "list"), Mine.hZe P Mine.hz68 69 (.type "map"), Mine.hZe P Mine.hz69 70 (.type "object"), Mine.hZe P Mine.hz70 71 (.type "range"), Mine.hZe P Mine.hz71 72 (.type "reversed"), Mine.hZe P Mine.hz72 73 (.type "set"), Mine.hZe P Mine.hz73 74 (.type "slice"), Mine.hZe P Mine.hz74 75 (.type "staticmethod"), Mine.hZe P Mine.hz75 76 (.type "str"), Mine.hZe P Mine.hz76 77 (.type "super"), Mine.hZe P Mine.hz77 78 (.type "tuple"), Mine.hZe P Mine.hz78 79 (.type "type"), Mine.hZe P Mine.hz79 80 (.type "zip"), Mine.hZe P Mine.hz80 81 (.bool true), Mine.hZe P Mine.hz81 82 (.type "BaseException"), Mine.hZe P Mine.hz82 83 (.type "BaseExceptionGroup"), Mine.hZe P Mine.hz83 84 (.type "Exception"), Mine.hZe P Mine.hz84 85 (.type "GeneratorExit"), Mine.hZe P Mine.hz85 86 (.type "KeyboardInterrupt"), Mine.hZe P Mine.hz86 87 (.type "SystemExit"), Mine.hZe P Mine.hz87 88 (.type "ArithmeticError"), Mine.hZe P Mine.hz88 89 (.type "AssertionError"), Mine.hZe P Mine.hz89 90 (.type "AttributeError"), Mine.hZe P Mine.hz90 91 (.type "BufferError"), Mine.hZe P Mine.hz91 92 (.type "EOFError"), Mine.hZe P Mine.hz92 93 (.type "ImportError"), Mine.hZe P Mine.hz93 94 (.type "LookupError"), Mine.hZe P Mine.hz94 95 (.type "MemoryError"), Mine.hZe P Mine.hz95 96 (.type "NameError"), Mine.hZe P Mine.hz96 97 (.type "OSError"), Mine.hZe P Mine.hz97 98 (.type "ReferenceError"), Mine.hZe P Mine.hz98 99 (.type "RuntimeError"), Mine.hZe P Mine.hz99 100 (.type "StopAsyncIteration"), Mine.hZe P Mine.hz100 101 (.type "StopIteration"), Mine.hZe P Mine.hz101 102 (.type "SyntaxError"), Mine.hZe P Mine.hz102 103 (.type "SystemError"), Mine.hZe P Mine.hz103 104 (.type "TypeError"), Mine.hZe P Mine.hz104 105 (.type "ValueError"), Mine.hZe P Mine.hz105 106 (.type "Warning"), Mine.hZe P Mine.hz106 107 (.type "FloatingPointError"), Mine.hZe P Mine.hz107 108 (.type "OverflowError"), Mine.hZe P Mine.hz108 109 (.type "ZeroDivisionError"), Mine.hZe P Mine.hz109 110 (.type "BytesWarning"), Mine.hZe P Mine.hz110 111 (.type "DeprecationWarning"), Mine.hZe P Mine.hz111 112 (.type "EncodingWarning"), Mine.hZe P Mine.hz112 113 (.type "FutureWarning"), Mine.hZe P Mine.hz113 114 (.type "ImportWarning"), Mine.hZe P Mine.hz114 115 (.type "PendingDeprecationWarning"), Mine.hZe P Mine.hz115 116 (.type "ResourceWarning"), Mine.hZe P Mine.hz116 117 (.type "RuntimeWarning"), Mine.hZe P Mine.hz117 118 (.type "SyntaxWarning"), Mine.hZe P Mine.hz118 119 (.type "UnicodeWarning"), Mine.hZe P Mine.hz119 120 (.type "UserWarning"), Mine.hZe P Mine.hz120 121 (.type "BlockingIOError"), Mine.hZe P Mine.hz121 122 (.type "ChildProcessError"), Mine.hZe P Mine.hz122 123 (.type "ConnectionError"), Mine.hZe P Mine.hz123 124 (.type "FileExistsError"), Mine.hZe P Mine.hz124 125 (.type "FileNotFoundError"), Mine.hZe P Mine.hz125 126 (.type "InterruptedError"), Mine.hZe P Mine.hz126 127 (.type "IsADirectoryError"), Mine.hZe P Mine.hz127 128 (.type "NotADirectoryError"), Mine.hZe P Mine.hz128 129 (.type "PermissionError"), Mine.hZe P Mine.hz129 130 (.type "ProcessLookupError"), Mine.hZe P Mine.hz130 131 (.type "TimeoutError"), Mine.hZe P Mine.hz131 132 (.type "IndentationError"), Mine.hZe P Mine.hz132 133 (.type "_IncompleteInputError"), Mine.hZe P Mine.hz133 134 (.type "IndexError"), Mine.hZe P Mine.hz134 135 (.type "KeyError"), Mine.hZe P Mine.hz135 136 (.type "ModuleNotFoundError"), Mine.hZe P Mine.hz136 137 (.type "NotImplementedError"), Mine.hZe P Mine.hz137 138 (.type "PythonFinalizationError"), Mine.hZe P Mine.hz138 139 (.type "RecursionError"), Mine.hZe P Mine.hz139 140 (.type "UnboundLocalError"), Mine.hZe P Mine.hz140 141 (.type "UnicodeError"), Mine.hZe P Mine.hz141 142 (.type "BrokenPipeError"), Mine.hZe P Mine.hz142 143 (.type "ConnectionAbortedError"), Mine.hZe P Mine.hz143 144 (.type "ConnectionRefusedError"), Mine.hZe P Mine.hz144 145 (.type "ConnectionResetError"), Mine.hZe P Mine.hz145 146 (.type "TabError"), Mine.hZe P Mine.hz146 147 (.type "UnicodeDecodeError"), Mine.hZe P Mine.hz147 148 (.type "UnicodeEncodeError"), Mine.hZe P Mine.hz148 149 (.type "UnicodeTranslateError"), Mine.hZe P Mine.hz149 150 (.type "ExceptionGroup"), Mine.hZe P Mine.hz150 151 (.type "OSError"), Mine.hZe P Mine.hz151 152 (.type "OSError"), Mine.hZe P Mine.hz152 153 (.builtin "open"), Mine.hZe P Mine.hz153 154 (.builtin "builtins.quit#opaque"), Mine.hZe P Mine.hz154 155 (.builtin "builtins.exit#opaque"), Mine.hZe P Mine.hz155 156 (.builtin "builtins.copyright#opaque"), Mine.hZe P Mine.hz156 157 (.builtin "builtins.credits#opaque"), Mine.hZe P Mine.hz157 158 (.builtin "builtins.license#opaque"), Mine.hZe P Mine.hz158 159 (.builtin "builtins.help#opaque")] 159 }
noncomputable def hdz.zo_40 (P : Params) : Obj := { cls := .type "dict", data := .dict #[Mine.hZe P Mine.hz1 162 (.ref 4), Mine.hZe P Mine.hz159 163 (.ref 5), Mine.hZe P Mine.hz160 244 (.ref 12)] 3 }
noncomputable def hdz.zo_41 (P : Params) : Obj := { cls := .none, data := .dict #[Mine.hZe P Mine.hz161 183 (.bool true), Mine.hZe P Mine.hz162 185 (.ref 14), Mine.hZe P Mine.hz163 206 (.ref 18), Mine.hZe P Mine.hz164 216 (.ref 22), Mine.hZe P Mine.hz165 245 (.int 3 0), Mine.hZe P Mine.hz166 270 (.bool true), Mine.hZe P Mine.hz167 272 (.ref 27), Mine.hZe P Mine.hz168 0 (.str ⟨⟨[12]⟩⟩ 0), Mine.hZe P Mine.hz169 273 (.str ⟨⟨[4,0,0,11,4,0,0,11,4,0,0,3,4,0,0,11,8,4,100,105,99,116,2]⟩⟩ 0)] 9 }
noncomputable def hdz.zo_42 (P : Params) : Obj := { cls := .type "dict", data := .dict #[Mine.hZe P Mine.hz0 165 (.str Mine.hz170 544), Mine.hZe P Mine.hz2 166 (.none), Mine.hZe P Mine.hz3 167 (.none), Mine.hZe P Mine.hz4 168 (.builtin "__main__.__loader__#opaque"), Mine.hZe P Mine.hz5 169 (.none), Mine.hZe P Mine.hz171 170 (.ref 6), Mine.hZe P Mine.hz172 171 (.ref 4), Mine.hZe P Mine.hz173 173 (.str Mine.hz174 172), Mine.hZe P Mine.hz175 174 (.none), Mine.hZe P Mine.hz160 275 (.ref 12), Mine.hZe P Mine.hz176 288 (.ref 38), Mine.hZe P Mine.hz177 318 (.ref 43), Mine.hZe P ⟨⟨[78,76]⟩⟩ 320 (.str ⟨⟨[10]⟩⟩ 319), Mine.hZe P Mine.hz178 322 (.str ⟨⟨[]⟩⟩ 321), Mine.hZe P Mine.hz179 432 (.ref 116), Mine.hZe P Mine.hz180 528 (.ref 200), Mine.hZe P Mine.hz181 543 (.ref 211), Mine.hZe P Mine.hz182 556 (.ref 218), Mine.hZe P Mine.hz183 568 (.ref 225), Mine.hZe P Mine.hz184 584 (.ref 232), Mine.hZe P Mine.hz185 590 (.ref 237)] 21 }
noncomputable def hdz.zo_43 (P : Params) : Obj := { cls := .type "module", dict := some 0 }
noncomputable def hdz.zo_44 (P : Params) : Obj := { cls := .type "module", dict := some 3 }
noncomputable def hdz.zo_45 (P : Params) : Obj := { cls := .type "dict", data := .dict #[] }
noncomputable def hdz.zo_46 (P : Params) : Obj := { cls := .type "tuple", data := .seq #[] }
noncomputable def hdz.zo_47 (P : Params) : Obj := { cls := .none, data := .fields #[] }
noncomputable def hdz.zo_48 (P : Params) : Obj := { cls := .type "code", data := .fields #[.str Mine.hz186 176, .str Mine.hz186 177, .str Mine.hz174 178, .int 1 0, .int 0 0, .int 0 0, .int 0 0, .int 0 0, .ref 7, .bool false, .int 175 0, .ref 8, .none, .none, .none, .none, .int 179 0, .int 1 0, .str Mine.hz174 180] }
noncomputable def hdz.zo_49 (P : Params) : Obj := { cls := .type "frame", slots := #[some (.ref 9), some (.ref 3), some (.ref 3), none, some (.str Mine.hz159 164), none, some (.ref 0)] }
noncomputable def hdz.zo_50 (P : Params) : Obj := { cls := .type "dict", data := .dict #[Mine.hZe P Mine.hz0 247 (.str Mine.hz160 246), Mine.hZe P Mine.hz2 248 (.none), Mine.hZe P Mine.hz3 250 (.str ⟨⟨[]⟩⟩ 249), Mine.hZe P Mine.hz4 251 (.builtin "off-the-table:_sre.__loader__:shared#opaque"), Mine.hZe P Mine.hz5 252 (.builtin "off-the-table:_sre.__spec__:shared#opaque"), Mine.hZe P Mine.hz16 253 (.builtin "_sre.compile"), Mine.hZe P Mine.hz187 254 (.builtin "off-the-table:_sre.template:shared#opaque"), Mine.hZe P Mine.hz188 255 (.builtin "off-the-table:_sre.getcodesize:shared#opaque"), Mine.hZe P Mine.hz189 256 (.builtin "off-the-table:_sre.ascii_iscased:shared#opaque"), Mine.hZe P Mine.hz190 257 (.builtin "off-the-table:_sre.unicode_iscased:shared#opaque"), Mine.hZe P Mine.hz191 258 (.builtin "off-the-table:_sre.ascii_tolower:shared#opaque"), Mine.hZe P Mine.hz192 259 (.builtin "off-the-table:_sre.unicode_tolower:shared#opaque"), Mine.hZe P Mine.hz193 261 (.int 20230612 260), Mine.hZe P Mine.hz194 263 (.int 4 262), Mine.hZe P Mine.hz195 265 (.int 4294967295 264), Mine.hZe P Mine.hz196 267 (.int 1073741823 266), Mine.hZe P Mine.hz155 269 (.str ⟨⟨[32,83,82,69,32,50,46,50,46,50,32,67,111,112,121,114,105,103,104,116,32,40,99,41,32,49,57,57,55,45,50,48,48,50,32,98,121,32,83,101,99,114,101,116,32,76,97,98,115,32,65,66,32]⟩⟩ 268)] 17 }
noncomputable def hdz.zo_51 (P : Params) : Obj := { cls := .type "module", dict := some 11 }
noncomputable def hdz.zo_52 (P : Params) : Obj := { cls := .type "dict", data := .dict #[Mine.hZe P Mine.hz197 189 (.str ⟨⟨[95,102,114,111,122,101,110,95,105,109,112,111,114,116,108,105,98]⟩⟩ 186), Mine.hZe P Mine.hz198 190 (.int 971 187), Mine.hZe P Mine.hz2 191 (.builtin "_frozen_importlib.BuiltinImporter.__doc__:str#opaque"), Mine.hZe P Mine.hz199 192 (.str ⟨⟨[98,117,105,108,116,45,105,110]⟩⟩ 188), Mine.hZe P Mine.hz200 193 (.builtin "_frozen_importlib.BuiltinImporter.find_spec#opaque"), Mine.hZe P Mine.hz201 194 (.builtin "_frozen_importlib.BuiltinImporter.create_module#opaque"), Mine.hZe P Mine.hz202 195 (.builtin "_frozen_importlib.BuiltinImporter.exec_module#opaque"), Mine.hZe P Mine.hz203 196 (.builtin "_frozen_importlib.BuiltinImporter.get_code#opaque"), Mine.hZe P Mine.hz204 197 (.builtin "_frozen_importlib.BuiltinImporter.get_source#opaque"), Mine.hZe P Mine.hz205 198 (.builtin "_frozen_importlib.BuiltinImporter.is_package#opaque"), Mine.hZe P Mine.hz206 199 (.builtin "_frozen_importlib.BuiltinImporter.load_module#opaque"), Mine.hZe P Mine.hz207 200 (.ref 15), Mine.hZe P Mine.hz208 202 (.ref 16), Mine.hZe P Mine.hz209 204 (.ref 17)] 14 }
noncomputable def hdz.zo_53 (P : Params) : Obj := { cls := .type "type", data := .cls { name := Mine.hz210, bases := [.type "object"], mro := [.ref 14, .type "object"], ns := 13, qualname := Mine.hz210 } }
noncomputable def hdz.zo_57 (P : Params) : Obj := { cls := .type "tuple", data := .seq #[.str ⟨⟨[107]⟩⟩ 285] }
noncomputable def hdz.zo_59 (P : Params) : Obj := { cls := .none, data := .func (Mine.hFd 1) }
noncomputable def hdz.zo_60 (P : Params) : Obj := { cls := .type "code", data := .fields #[.str Mine.hz176 282, .str Mine.hz176 283, .str Mine.hz174 284, .int 2 0, .int 1 0, .int 0 0, .int 0 0, .int 3 0, .ref 32, .bool true, .int 276 0, .ref 33, .none, .ref 34, .ref 35, .ref 36, .int 286 0, .int 2 0, .str Mine.hz174 287] }
noncomputable def hdz.zo_61 (P : Params) : Obj := { cls := .type "function", data := .func { Mine.hFd 1 with globals := 3, pyModule := .str Mine.hz159 164, code := .ref 37 } }
noncomputable def hdz.zo_62 (P : Params) : Obj := { cls := .type "tuple", data := .seq #[.int 14 0, .int 4 0, .int 0 0, .int 1 0, .int 4294967295 0, .int 17 0, .int 0 0, .int 24 0, .int 11 0, .int 1 0, .int 4294967295 0, .int 13 0, .int 6 0, .int 16 0, .int 32 0, .int 16 0, .int 9 0, .int 0 0, .int 1 0, .int 17 0, .int 1 0, .int 1 0] }
noncomputable def hdz.zo_63 (P : Params) : Obj := { cls := .type "re.Pattern", data := .fields #[.str ⟨⟨[40,91,32,9,93,43,41]⟩⟩ 292, .int 32 317, .int 1 0, .none, .none, .ref 42, .int 0 0] }
noncomputable def hdz.zo_66 (P : Params) : Obj := { cls := .type "tuple", data := .seq #[.str Mine.hz211 338, .str ⟨⟨[104,101,97,100,101,114,108,101,110]⟩⟩ 339, .str ⟨⟨[109,97,120,108,101,110]⟩⟩ 340, .str ⟨⟨[99,111,110,116,105,110,117,97,116,105,111,110,95,119,115]⟩⟩ 341, .str Mine.hz212 342] }
noncomputable def hdz.zo_68 (P : Params) : Obj := { cls := .none, data := .func { Mine.hFm 6 0 with qualname := Mine.hz213 } }
noncomputable def hdz.zo_69 (P : Params) : Obj := { cls := .type "code", data := .fields #[.str Mine.hz214 335, .str Mine.hz213 336, .str Mine.hz174 337, .int 11 0, .int 5 0, .int 0 0, .int 0 0, .int 3 0, .ref 51, .bool true, .int 276 0, .ref 52, .none, .ref 53, .ref 54, .ref 55, .int 343 0, .int 11 0, .str Mine.hz174 344] }
noncomputable def hdz.zo_70 (P : Params) : Obj := { cls := .type "function", data := .func { Mine.hFm 6 0 with qualname := Mine.hz213, globals := 3, pyModule := .str Mine.hz215 289, code := .ref 56 } }
noncomputable def hdz.zo_73 (P : Params) : Obj := { cls := .type "tuple", data := .seq #[.str Mine.hz211 349, .str ⟨⟨[108,105,110,101,115,101,112]⟩⟩ 350] }
noncomputable def hdz.zo_75 (P : Params) : Obj := { cls := .none, data := .func { Mine.hFm 6 1 with qualname := Mine.hz216 } }
noncomputable def hdz.zo_76 (P : Params) : Obj := { cls := .type "code", data := .fields #[.str Mine.hz217 346, .str Mine.hz216 347, .str Mine.hz174 348, .int 19 0, .int 2 0, .int 0 0, .int 0 0, .int 3 0, .ref 58, .bool true, .int 276 0, .ref 59, .none, .ref 60, .ref 61, .ref 62, .int 351 0, .int 19 0, .str Mine.hz174 352] }
noncomputable def hdz.zo_77 (P : Params) : Obj := { cls := .type "function", data := .func { Mine.hFm 6 1 with qualname := Mine.hz216, globals := 3, pyModule := .str Mine.hz215 289, code := .ref 63 } }
noncomputable def hdz.zo_80 (P : Params) : Obj := { cls := .type "tuple", data := .seq #[.str Mine.hz211 357] }
noncomputable def hdz.zo_82 (P : Params) : Obj := { cls := .none, data := .func { Mine.hFm 6 2 with qualname := Mine.hz218 } }
noncomputable def hdz.zo_83 (P : Params) : Obj := { cls := .type "code", data := .fields #[.str Mine.hz219 354, .str Mine.hz218 355, .str Mine.hz174 356, .int 23 0, .int 1 0, .int 0 0, .int 0 0, .int 3 0, .ref 65, .bool true, .int 276 0, .ref 66, .none, .ref 67, .ref 68, .ref 69, .int 358 0, .int 23 0, .str Mine.hz174 359] }
noncomputable def hdz.zo_84 (P : Params) : Obj := { cls := .type "function", data := .func { Mine.hFm 6 2 with qualname := Mine.hz218, globals := 3, pyModule := .str Mine.hz215 289, code := .ref 70 } }
noncomputable def hdz.zo_87 (P : Params) : Obj := { cls := .type "tuple", data := .seq #[.str Mine.hz211 364, .str ⟨⟨[101,110,100,95,111,102,95,108,105,110,101]⟩⟩ 365] }
noncomputable def hdz.zo_89 (P : Params) : Obj := { cls := .none, data := .func { Mine.hFm 6 3 with qualname := Mine.hz220 } }
noncomputable def hdz.zo_90 (P : Params) : Obj := { cls := .type "code", data := .fields #[.str Mine.hz221 361, .str Mine.hz220 362, .str Mine.hz174 363, .int 26 0, .int 1 0, .int 0 0, .int 0 0, .int 3 0, .ref 72, .bool true, .int 276 0, .ref 73, .none, .ref 74, .ref 75, .ref 76, .int 366 0, .int 26 0, .str Mine.hz174 367] }
noncomputable def hdz.zo_91 (P : Params) : Obj := { cls := .type "function", data := .func { Mine.hFm 6 3 with qualname := Mine.hz220, globals := 3, pyModule := .str Mine.hz215 289, code := .ref 77 } }
noncomputable def hdz.zo_94 (P : Params) : Obj := { cls := .type "tuple", data := .seq #[.str Mine.hz211 372] }
noncomputable def hdz.zo_96 (P : Params) : Obj := { cls := .none, data := .func { Mine.hFm 6 4 with qualname := Mine.hz222 } }
noncomputable def hdz.zo_97 (P : Params) : Obj := { cls := .type "code", data := .fields #[.str Mine.hz223 369, .str Mine.hz222 370, .str Mine.hz174 371, .int 37 0, .int 1 0, .int 0 0, .int 0 0, .int 3 0, .ref 79, .bool true, .int 276 0, .ref 80, .none, .ref 81, .ref 82, .ref 83, .int 373 0, .int 37 0, .str Mine.hz174 374] }
noncomputable def hdz.zo_98 (P : Params) : Obj := { cls := .type "function", data := .func { Mine.hFm 6 4 with qualname := Mine.hz222, globals := 3, pyModule := .str Mine.hz215 289, code := .ref 84 } }
noncomputable def hdz.zo_101 (P : Params) : Obj := { cls := .type "tuple", data := .seq #[.str Mine.hz211 379, .str Mine.hz224 380, .str Mine.hz225 381, .str ⟨⟨[99,104,97,114,115,101,116]⟩⟩ 382] }
noncomputable def hdz.zo_103 (P : Params) : Obj := { cls := .none, data := .func { Mine.hFm 6 5 with qualname := Mine.hz226 } }
noncomputable def hdz.zo_104 (P : Params) : Obj := { cls := .type "code", data := .fields #[.str Mine.hz227 376, .str Mine.hz226 377, .str Mine.hz174 378, .int 40 0, .int 4 0, .int 0 0, .int 0 0, .int 3 0, .ref 86, .bool true, .int 276 0, .ref 87, .none, .ref 88, .ref 89, .ref 90, .int 383 0, .int 40 0, .str Mine.hz174 384] }
noncomputable def hdz.zo_105 (P : Params) : Obj := { cls := .type "function", data := .func { Mine.hFm 6 5 with qualname := Mine.hz226, globals := 3, pyModule := .str Mine.hz215 289, code := .ref 91 } }
noncomputable def hdz.zo_108 (P : Params) : Obj := { cls := .type "tuple", data := .seq #[.str Mine.hz211 389] }
noncomputable def hdz.zo_110 (P : Params) : Obj := { cls := .none, data := .func { Mine.hFm 6 6 with qualname := Mine.hz228 } }
noncomputable def hdz.zo_111 (P : Params) : Obj := { cls := .type "code", data := .fields #[.str Mine.hz229 386, .str Mine.hz228 387, .str Mine.hz174 388, .int 43 0, .int 1 0, .int 0 0, .int 0 0, .int 3 0, .ref 93, .bool true, .int 276 0, .ref 94, .none, .ref 95, .ref 96, .ref 97, .int 390 0, .int 43 0, .str Mine.hz174 391] }
noncomputable def hdz.zo_112 (P : Params) : Obj := { cls := .type "function", data := .func { Mine.hFm 6 6 with qualname := Mine.hz228, globals := 3, pyModule := .str Mine.hz215 289, code := .ref 98 } }
noncomputable def hdz.zo_115 (P : Params) : Obj := { cls := .type "tuple", data := .seq #[.str Mine.hz211 396, .str Mine.hz224 397, .str Mine.hz225 398, .str Mine.hz212 399, .str ⟨⟨[112,97,114,116,115]⟩⟩ 400, .str Mine.hz230 401] }
noncomputable def hdz.zo_117 (P : Params) : Obj := { cls := .none, data := .func { Mine.hFm 6 7 with qualname := Mine.hz231 } }
noncomputable def hdz.zo_118 (P : Params) : Obj := { cls := .type "code", data := .fields #[.str Mine.hz232 393, .str Mine.hz231 394, .str Mine.hz174 395, .int 46 0, .int 4 0, .int 0 0, .int 0 0, .int 3 0, .ref 100, .bool true, .int 276 0, .ref 101, .none, .ref 102, .ref 103, .ref 104, .int 402 0, .int 46 0, .str Mine.hz174 403] }
noncomputable def hdz.zo_119 (P : Params) : Obj := { cls := .type "function", data := .func { Mine.hFm 6 7 with qualname := Mine.hz231, globals := 3, pyModule := .str Mine.hz215 289, code := .ref 105 } }
noncomputable def hdz.zo_122 (P : Params) : Obj := { cls := .type "tuple", data := .seq #[.str Mine.hz211 408, .str Mine.hz224 409, .str Mine.hz225 410, .str ⟨⟨[99,104]⟩⟩ 411, .str ⟨⟨[105]⟩⟩ 412, .str ⟨⟨[112,114,101,118,112,97,114,116]⟩⟩ 413, .str Mine.hz230 414, .str ⟨⟨[114,101,109,97,105,110,100,101,114]⟩⟩ 415] }
noncomputable def hdz.zo_124 (P : Params) : Obj := { cls := .none, data := .func { Mine.hFm 6 8 with qualname := Mine.hz233 } }
noncomputable def hdz.zo_125 (P : Params) : Obj := { cls := .type "code", data := .fields #[.str Mine.hz234 405, .str Mine.hz233 406, .str Mine.hz174 407, .int 55 0, .int 3 0, .int 0 0, .int 0 0, .int 3 0, .ref 107, .bool true, .int 276 0, .ref 108, .none, .ref 109, .ref 110, .ref 111, .int 416 0, .int 55 0, .str Mine.hz174 417] }
noncomputable def hdz.zo_126 (P : Params) : Obj := { cls := .type "function", data := .func { Mine.hFm 6 8 with qualname := Mine.hz233, globals := 3, pyModule := .str Mine.hz215 289, code := .ref 112 } }
noncomputable def hdz.zo_127 (P : Params) : Obj := { cls := .type "tuple", data := .seq #[.str ⟨⟨[95,99,111,110,116,105,110,117,97,116,105,111,110,95,119,115]⟩⟩ 419, .str ⟨⟨[95,99,111,110,116,105,110,117,97,116,105,111,110,95,119,115,95,108,101,110]⟩⟩ 420, .str ⟨⟨[95,99,117,114,114,101,110,116,95,108,105,110,101]⟩⟩ 421, .str ⟨⟨[95,108,105,110,101,115]⟩⟩ 422, .str ⟨⟨[95,109,97,120,108,101,110]⟩⟩ 423, .str ⟨⟨[95,115,112,108,105,116,99,104,97,114,115]⟩⟩ 424] }
noncomputable def hdz.zo_128 (P : Params) : Obj := { cls := .type "dict", data := .dict #[Mine.hZe P Mine.hz197 330 (.str Mine.hz215 289), Mine.hZe P Mine.hz198 334 (.int 9 333), Mine.hZe P Mine.hz214 345 (.ref 57), Mine.hZe P Mine.hz217 353 (.ref 64), Mine.hZe P Mine.hz219 360 (.ref 71), Mine.hZe P Mine.hz221 368 (.ref 78), Mine.hZe P Mine.hz223 375 (.ref 85), Mine.hZe P Mine.hz227 385 (.ref 92), Mine.hZe P Mine.hz229 392 (.ref 99), Mine.hZe P Mine.hz232 404 (.ref 106), Mine.hZe P Mine.hz234 418 (.ref 113), Mine.hZe P Mine.hz207 425 (.ref 114), Mine.hZe P Mine.hz208 427 (.ref 117), Mine.hZe P Mine.hz209 429 (.ref 118), Mine.hZe P Mine.hz2 430 (.none)] 4 }
noncomputable def hdz.zo_129 (P : Params) : Obj := { cls := .type "type", data := .cls { name := Mine.hz179, bases := [.type "object"], mro := [.ref 116, .type "object"], ns := 115, qualname := Mine.hz179 }, slots := #[none, none, some (.str Mine.hz179 323), some (.str Mine.hz179 331), some (.builtin "object.__new__"), some (.bool true)] }
noncomputable def hdz.zo_130 (P : Params) : Obj := { cls := .type "getset_descriptor", data := .fields #[.str Mine.hz208 426, .ref 116, .builtin "function.__dict__", .builtin "function.__dict__#set"] }
noncomputable def hdz.zo_131 (P : Params) : Obj := { cls := .type "getset_descriptor", data := .fields #[.str Mine.hz209 428, .ref 116, .builtin "ExceptionGroup.__weakref__", .none] }
noncomputable def hdz.zo_132 (P : Params) : Obj := { cls := .type "tuple", data := .seq #[.type "list"] }
noncomputable def hdz.zo_133 (P : Params) : Obj := { cls := .type "cell", data := .cell (some (.ref 200)) }
noncomputable def hdz.zo_134 (P : Params) : Obj := { cls := .type "tuple", data := .seq #[.int 0 445] }
noncomputable def hdz.zo_135 (P : Params) : Obj := { cls := .type "tuple", data := .seq #[.ref 124] }
noncomputable def hdz.zo_136 (P : Params) : Obj := { cls := .type "tuple", data := .seq #[.str Mine.hz235 449] }
noncomputable def hdz.zo_138 (P : Params) : Obj := { cls := .type "tuple", data := .seq #[.str Mine.hz211 450, .str ⟨⟨[105,110,105,116,105,97,108,95,115,105,122,101]⟩⟩ 451] }
noncomputable def hdz.zo_140 (P : Params) : Obj := { cls := .none, data := .func { Mine.hFm 7 0 with qualname := Mine.hz236 } }
noncomputable def hdz.zo_141 (P : Params) : Obj := { cls := .type "code", data := .fields #[.str Mine.hz214 446, .str Mine.hz236 447, .str Mine.hz174 448, .int 83 0, .int 2 0, .int 0 0, .int 0 0, .int 3 0, .ref 131, .bool true, .int 276 0, .ref 132, .none, .ref 133, .ref 134, .ref 135, .int 452 0, .int 83 0, .str Mine.hz174 453] }
noncomputable def hdz.zo_142 (P : Params) : Obj := { cls := .type "function", data := .func { Mine.hFm 7 0 with qualname := Mine.hz236, globals := 3, closure := [(Mine.hz235, 124)], defaults := .ref 129, pyModule := .str Mine.hz215 289, code := .ref 136, closureTuple := .ref 130 } }
noncomputable def hdz.zo_145 (P : Params) : Obj := { cls := .type "tuple", data := .seq #[.str Mine.hz211 458, .str Mine.hz224 459, .str Mine.hz225 460] }
noncomputable def hdz.zo_147 (P : Params) : Obj := { cls := .none, data := .func { Mine.hFm 7 1 with qualname := Mine.hz237 } }
noncomputable def hdz.zo_148 (P : Params) : Obj := { cls := .type "code", data := .fields #[.str Mine.hz238 455, .str Mine.hz237 456, .str Mine.hz174 457, .int 87 0, .int 3 0, .int 0 0, .int 0 0, .int 3 0, .ref 138, .bool true, .int 276 0, .ref 139, .none, .ref 140, .ref 141, .ref 142, .int 461 0, .int 87 0, .str Mine.hz174 462] }
noncomputable def hdz.zo_149 (P : Params) : Obj := { cls := .type "function", data := .func { Mine.hFm 7 1 with qualname := Mine.hz237, globals := 3, pyModule := .str Mine.hz215 289, code := .ref 143 } }
noncomputable def hdz.zo_150 (P : Params) : Obj := { cls := .type "tuple", data := .seq #[.int 0 464] }
noncomputable def hdz.zo_153 (P : Params) : Obj := { cls := .type "tuple", data := .seq #[.str Mine.hz211 468, .str ⟨⟨[105]⟩⟩ 469, .str ⟨⟨[112,111,112,112,101,100]⟩⟩ 470] }
noncomputable def hdz.zo_155 (P : Params) : Obj := { cls := .none, data := .func { Mine.hFm 7 2 with qualname := Mine.hz239 } }
noncomputable def hdz.zo_156 (P : Params) : Obj := { cls := .type "code", data := .fields #[.str Mine.hz240 465, .str Mine.hz239 466, .str Mine.hz174 467, .int 90 0, .int 2 0, .int 0 0, .int 0 0, .int 3 0, .ref 146, .bool true, .int 276 0, .ref 147, .none, .ref 148, .ref 149, .ref 150, .int 471 0, .int 90 0, .str Mine.hz174 472] }
noncomputable def hdz.zo_157 (P : Params) : Obj := { cls := .type "function", data := .func { Mine.hFm 7 2 with qualname := Mine.hz239, globals := 3, defaults := .ref 145, pyModule := .str Mine.hz215 289, code := .ref 151 } }
noncomputable def hdz.zo_159 (P : Params) : Obj := { cls := .type "tuple", data := .seq #[.str Mine.hz235 477] }
noncomputable def hdz.zo_161 (P : Params) : Obj := { cls := .type "tuple", data := .seq #[.str Mine.hz211 478] }
noncomputable def hdz.zo_163 (P : Params) : Obj := { cls := .none, data := .func { Mine.hFm 7 3 with qualname := Mine.hz241 } }
noncomputable def hdz.zo_164 (P : Params) : Obj := { cls := .type "code", data := .fields #[.str Mine.hz242 474, .str Mine.hz241 475, .str Mine.hz174 476, .int 95 0, .int 1 0, .int 0 0, .int 0 0, .int 3 0, .ref 154, .bool true, .int 276 0, .ref 155, .none, .ref 156, .ref 157, .ref 158, .int 479 0, .int 95 0, .str Mine.hz174 480] }
noncomputable def hdz.zo_165 (P : Params) : Obj := { cls := .type "function", data := .func { Mine.hFm 7 3 with qualname := Mine.hz241, globals := 3, closure := [(Mine.hz235, 124)], pyModule := .str Mine.hz215 289, code := .ref 159, closureTuple := .ref 153 } }
noncomputable def hdz.zo_168 (P : Params) : Obj := { cls := .type "tuple", data := .seq #[.str Mine.hz211 485] }
noncomputable def hdz.zo_170 (P : Params) : Obj := { cls := .none, data := .func { Mine.hFm 7 4 with qualname := Mine.hz243 } }
noncomputable def hdz.zo_171 (P : Params) : Obj := { cls := .type "code", data := .fields #[.str Mine.hz244 482, .str Mine.hz243 483, .str Mine.hz174 484, .int 100 0, .int 1 0, .int 0 0, .int 0 0, .int 3 0, .ref 161, .bool true, .int 276 0, .ref 162, .none, .ref 163, .ref 164, .ref 165, .int 486 0, .int 100 0, .str Mine.hz174 487] }
noncomputable def hdz.zo_172 (P : Params) : Obj := { cls := .type "function", data := .func { Mine.hFm 7 4 with qualname := Mine.hz243, globals := 3, pyModule := .str Mine.hz215 289, code := .ref 166 } }
noncomputable def hdz.zo_175 (P : Params) : Obj := { cls := .type "tuple", data := .seq #[.str Mine.hz211 492] }
noncomputable def hdz.zo_177 (P : Params) : Obj := { cls := .none, data := .func { Mine.hFm 7 5 with qualname := Mine.hz245 } }
noncomputable def hdz.zo_178 (P : Params) : Obj := { cls := .type "code", data := .fields #[.str Mine.hz219 489, .str Mine.hz245 490, .str Mine.hz174 491, .int 103 0, .int 1 0, .int 0 0, .int 0 0, .int 3 0, .ref 168, .bool true, .int 276 0, .ref 169, .none, .ref 170, .ref 171, .ref 172, .int 493 0, .int 103 0, .str Mine.hz174 494] }
noncomputable def hdz.zo_179 (P : Params) : Obj := { cls := .type "function", data := .func { Mine.hFm 7 5 with qualname := Mine.hz245, globals := 3, pyModule := .str Mine.hz215 289, code := .ref 173 } }
noncomputable def hdz.zo_180 (P : Params) : Obj := { cls := .type "tuple", data := .seq #[.none] }
noncomputable def hdz.zo_183 (P : Params) : Obj := { cls := .type "tuple", data := .seq #[.str Mine.hz211 499, .str ⟨⟨[115,116,97,114,116,118,97,108]⟩⟩ 500] }
noncomputable def hdz.zo_185 (P : Params) : Obj := { cls := .none, data := .func { Mine.hFm 7 6 with qualname := Mine.hz246 } }
noncomputable def hdz.zo_186 (P : Params) : Obj := { cls := .type "code", data := .fields #[.str Mine.hz247 496, .str Mine.hz246 497, .str Mine.hz174 498, .int 106 0, .int 2 0, .int 0 0, .int 0 0, .int 3 0, .ref 176, .bool true, .int 276 0, .ref 177, .none, .ref 178, .ref 179, .ref 180, .int 501 0, .int 106 0, .str Mine.hz174 502] }
noncomputable def hdz.zo_187 (P : Params) : Obj := { cls := .type "function", data := .func { Mine.hFm 7 6 with qualname := Mine.hz246, globals := 3, defaults := .ref 175, pyModule := .str Mine.hz215 289, code := .ref 181 } }
noncomputable def hdz.zo_190 (P : Params) : Obj := { cls := .type "tuple", data := .seq #[.str Mine.hz211 507] }
noncomputable def hdz.zo_192 (P : Params) : Obj := { cls := .none, data := .func { Mine.hFm 7 7 with qualname := Mine.hz248 } }
noncomputable def hdz.zo_193 (P : Params) : Obj := { cls := .type "code", data := .fields #[.str Mine.hz249 504, .str Mine.hz248 505, .str Mine.hz174 506, .int 112 0, .int 1 0, .int 0 0, .int 0 0, .int 3 0, .ref 183, .bool true, .int 276 0, .ref 184, .none, .ref 185, .ref 186, .ref 187, .int 508 0, .int 112 0, .str Mine.hz174 509] }
noncomputable def hdz.zo_194 (P : Params) : Obj := { cls := .type "function", data := .func { Mine.hFm 7 7 with qualname := Mine.hz248, globals := 3, pyModule := .str Mine.hz215 289, code := .ref 188 } }
noncomputable def hdz.zo_196 (P : Params) : Obj := { cls := .type "tuple", data := .seq #[.str Mine.hz235 514] }
noncomputable def hdz.zo_198 (P : Params) : Obj := { cls := .type "tuple", data := .seq #[.str Mine.hz211 515] }
noncomputable def hdz.zo_200 (P : Params) : Obj := { cls := .none, data := .func { Mine.hFm 7 8 with qualname := Mine.hz250 } }
noncomputable def hdz.zo_201 (P : Params) : Obj := { cls := .type "code", data := .fields #[.str Mine.hz251 511, .str Mine.hz250 512, .str Mine.hz174 513, .int 115 0, .int 1 0, .int 0 0, .int 0 0, .int 3 0, .ref 191, .bool true, .int 276 0, .ref 192, .none, .ref 193, .ref 194, .ref 195, .int 516 0, .int 115 0, .str Mine.hz174 517] }
noncomputable def hdz.zo_202 (P : Params) : Obj := { cls := .type "function", data := .func { Mine.hFm 7 8 with qualname := Mine.hz250, globals := 3, closure := [(Mine.hz235, 124)], pyModule := .str Mine.hz215 289, code := .ref 196, closureTuple := .ref 190 } }
noncomputable def hdz.zo_203 (P : Params) : Obj := { cls := .type "tuple", data := .seq #[.str ⟨⟨[95,105,110,105,116,105,97,108,95,115,105,122,101]⟩⟩ 519] }
noncomputable def hdz.zo_204 (P : Params) : Obj := { cls := .type "dict", data := .dict #[Mine.hZe P Mine.hz197 440 (.str Mine.hz215 289), Mine.hZe P Mine.hz198 444 (.int 81 443), Mine.hZe P Mine.hz214 454 (.ref 137), Mine.hZe P Mine.hz238 463 (.ref 144), Mine.hZe P Mine.hz240 473 (.ref 152), Mine.hZe P Mine.hz242 481 (.ref 160), Mine.hZe P Mine.hz244 488 (.ref 167), Mine.hZe P Mine.hz219 495 (.ref 174), Mine.hZe P Mine.hz247 503 (.ref 182), Mine.hZe P Mine.hz249 510 (.ref 189), Mine.hZe P Mine.hz251 518 (.ref 197), Mine.hZe P Mine.hz207 520 (.ref 198), Mine.hZe P Mine.hz208 523 (.ref 201), Mine.hZe P Mine.hz209 525 (.ref 202), Mine.hZe P Mine.hz2 526 (.none)] 5 }
noncomputable def hdz.zo_205 (P : Params) : Obj := { cls := .type "type", data := .cls { name := Mine.hz180, bases := [.type "list"], mro := [.ref 200, .type "list", .type "object"], ns := 199, qualname := Mine.hz180 }, slots := #[some (.ref 121), none, some (.str Mine.hz180 433), some (.str Mine.hz180 441), some (.builtin "list.__new__"), some (.bool true)] }
noncomputable def hdz.zo_206 (P : Params) : Obj := { cls := .type "getset_descriptor", data := .fields #[.str Mine.hz208 522, .ref 200, .builtin "function.__dict__", .builtin "function.__dict__#set"] }
noncomputable def hdz.zo_207 (P : Params) : Obj := { cls := .type "getset_descriptor", data := .fields #[.str Mine.hz209 524, .ref 200, .builtin "ExceptionGroup.__weakref__", .none] }
noncomputable def hdz.zo_210 (P : Params) : Obj := { cls := .type "tuple", data := .seq #[.str ⟨⟨[112,114,111,103]⟩⟩ 534, .str ⟨⟨[99,104,97,114,115]⟩⟩ 535, .str ⟨⟨[99,111,108]⟩⟩ 536, .str ⟨⟨[109]⟩⟩ 537, .str ⟨⟨[102,111,117,110,100]⟩⟩ 538, .str ⟨⟨[105]⟩⟩ 539, .str ⟨⟨[106]⟩⟩ 540] }
noncomputable def hdz.zo_212 (P : Params) : Obj := { cls := .none, data := .func (Mine.hFd 9) }
noncomputable def hdz.zo_213 (P : Params) : Obj := { cls := .type "code", data := .fields #[.str Mine.hz181 531, .str Mine.hz181 532, .str Mine.hz174 533, .int 118 0, .int 3 0, .int 0 0, .int 0 0, .int 3 0, .ref 205, .bool true, .int 276 0, .ref 206, .none, .ref 207, .ref 208, .ref 209, .int 541 0, .int 118 0, .str Mine.hz174 542] }
noncomputable def hdz.zo_214 (P : Params) : Obj := { cls := .type "function", data := .func { Mine.hFd 9 with globals := 3, pyModule := .str ⟨⟨[99,112,121,51,49,51,46,105,100,108,101,108,105,98,46,115,101,97,114,99,104,101,110,103,105,110,101]⟩⟩ 529, code := .ref 210 } }
noncomputable def hdz.zo_217 (P : Params) : Obj := { cls := .type "tuple", data := .seq #[.str Mine.hz252 549, .str Mine.hz253 550, .str Mine.hz254 551] }
noncomputable def hdz.zo_218 (P : Params) : Obj := { cls := .type "tuple", data := .seq #[.str Mine.hz252 552, .str Mine.hz253 553] }
noncomputable def hdz.zo_219 (P : Params) : Obj := { cls := .none, data := .func (Mine.hFd 11) }
noncomputable def hdz.zo_220 (P : Params) : Obj := { cls := .type "code", data := .fields #[.str Mine.hz182 546, .str Mine.hz182 547, .str Mine.hz174 548, .int 134 0, .int 2 0, .int 0 0, .int 0 0, .int 3 0, .ref 212, .bool true, .int 276 0, .ref 213, .none, .ref 214, .ref 215, .ref 216, .int 554 0, .int 134 0, .str Mine.hz174 555] }
noncomputable def hdz.zo_221 (P : Params) : Obj := { cls := .type "function", data := .func { Mine.hFd 11 with globals := 3, pyModule := .str Mine.hz170 544, code := .ref 217 } }
noncomputable def hdz.zo_224 (P : Params) : Obj := { cls := .type "tuple", data := .seq #[.str Mine.hz255 560, .str Mine.hz253 561, .str ⟨⟨[95,108,97,119,95,115,101,97,114,99,104]⟩⟩ 562, .str Mine.hz256 563] }
noncomputable def hdz.zo_225 (P : Params) : Obj := { cls := .type "tuple", data := .seq #[.str Mine.hz255 564, .str Mine.hz253 565] }
noncomputable def hdz.zo_226 (P : Params) : Obj := { cls := .none, data := .func (Mine.hFd 12) }
noncomputable def hdz.zo_227 (P : Params) : Obj := { cls := .type "code", data := .fields #[.str Mine.hz183 557, .str Mine.hz183 558, .str Mine.hz174 559, .int 138 0, .int 2 0, .int 0 0, .int 0 0, .int 3 0, .ref 219, .bool true, .int 276 0, .ref 220, .none, .ref 221, .ref 222, .ref 223, .int 566 0, .int 138 0, .str Mine.hz174 567] }
noncomputable def hdz.zo_228 (P : Params) : Obj := { cls := .type "function", data := .func { Mine.hFd 12 with globals := 3, pyModule := .str Mine.hz170 544, code := .ref 224 } }
noncomputable def hdz.zo_231 (P : Params) : Obj := { cls := .type "tuple", data := .seq #[.str ⟨⟨[116,101,120,116]⟩⟩ 572, .str ⟨⟨[119,105,100,116,104]⟩⟩ 573, .str ⟨⟨[104,101,97,100]⟩⟩ 574, .str Mine.hz255 575, .str Mine.hz253 576, .str Mine.hz256 577, .str ⟨⟨[114,111,119,115]⟩⟩ 578, .str ⟨⟨[114,101,115,116]⟩⟩ 579, .str Mine.hz254 580, .str Mine.hz252 581] }
noncomputable def hdz.zo_233 (P : Params) : Obj := { cls := .none, data := .func (Mine.hFd 13) }
noncomputable def hdz.zo_234 (P : Params) : Obj := { cls := .type "code", data := .fields #[.str Mine.hz184 569, .str Mine.hz184 570, .str Mine.hz174 571, .int 149 0, .int 5 0, .int 0 0, .int 0 0, .int 3 0, .ref 226, .bool true, .int 276 0, .ref 227, .none, .ref 228, .ref 229, .ref 230, .int 582 0, .int 149 0, .str Mine.hz174 583] }
noncomputable def hdz.zo_235 (P : Params) : Obj := { cls := .type "function", data := .func { Mine.hFd 13 with globals := 3, pyModule := .str Mine.hz170 544, code := .ref 231 } }
noncomputable def hdz.zo_238 (P : Params) : Obj := { cls := .none, data := .func (Mine.hFd 14) }
noncomputable def hdz.zo_239 (P : Params) : Obj := { cls := .type "code", data := .fields #[.str Mine.hz185 585, .str Mine.hz185 586, .str Mine.hz174 587, .int 172 0, .int 1 0, .int 0 0, .int 0 0, .int 3 0, .ref 233, .bool true, .int 276 0, .ref 234, .none, .none, .none, .ref 235, .int 588 0, .int 172 0, .str Mine.hz174 589] }
noncomputable def hdz.zo_240 (P : Params) : Obj := { cls := .type "function", data := .func { Mine.hFd 14 with globals := 3, pyModule := .str Mine.hz170 544, code := .ref 236 } }
noncomputable def hdz.heap_240 : Params → Frag := fun P => (nat_lit 0, hdz.zo_39 P) :: (nat_lit 1, hdz.zo_40 P) :: (nat_lit 2, hdz.zo_41 P) :: (nat_lit 3, hdz.zo_42 P) :: (nat_lit 4, hdz.zo_43 P) :: (nat_lit 5, hdz.zo_44 P) :: (nat_lit 6, hdz.zo_45 P) :: (nat_lit 7, hdz.zo_46 P) :: (nat_lit 8, hdz.zo_47 P) :: (nat_lit 9, hdz.zo_48 P) :: (nat_lit 10, hdz.zo_49 P) :: (nat_lit 11, hdz.zo_50 P) :: (nat_lit 12, hdz.zo_51 P) :: (nat_lit 13, hdz.zo_52 P) :: (nat_lit 14, hdz.zo_53 P) :: (nat_lit 15, hdz.zo_46 P) :: (nat_lit 32, hdz.zo_46 P) :: (nat_lit 33, hdz.zo_47 P) :: (nat_lit 34, hdz.zo_57 P) :: (nat_lit 35, hdz.zo_46 P) :: (nat_lit 36, hdz.zo_59 P) :: (nat_lit 37, hdz.zo_60 P) :: (nat_lit 38, hdz.zo_61 P) :: (nat_lit 42, hdz.zo_62 P) :: (nat_lit 43, hdz.zo_63 P) :: (nat_lit 51, hdz.zo_46 P) :: (nat_lit 52, hdz.zo_47 P) :: (nat_lit 53, hdz.zo_66 P) :: (nat_lit 54, hdz.zo_46 P) :: (nat_lit 55, hdz.zo_68 P) :: (nat_lit 56, hdz.zo_69 P) :: (nat_lit 57, hdz.zo_70 P) :: (nat_lit 58, hdz.zo_46 P) :: (nat_lit 59, hdz.zo_47 P) :: (nat_lit 60, hdz.zo_73 P) :: (nat_lit 61, hdz.zo_46 P) :: (nat_lit 62, hdz.zo_75 P) :: (nat_lit 63, hdz.zo_76 P) :: (nat_lit 64, hdz.zo_77 P) :: (nat_lit 65, hdz.zo_46 P) :: (nat_lit 66, hdz.zo_47 P) :: (nat_lit 67, hdz.zo_80 P) :: (nat_lit 68, hdz.zo_46 P) :: (nat_lit 69, hdz.zo_82 P) :: (nat_lit 70, hdz.zo_83 P) :: (nat_lit 71, hdz.zo_84 P) :: (nat_lit 72, hdz.zo_46 P) :: (nat_lit 73, hdz.zo_47 P) :: (nat_lit 74, hdz.zo_87 P) :: (nat_lit 75, hdz.zo_46 P) :: (nat_lit 76, hdz.zo_89 P) :: (nat_lit 77, hdz.zo_90 P) :: (nat_lit 78, hdz.zo_91 P) :: (nat_lit 79, hdz.zo_46 P) :: (nat_lit 80, hdz.zo_47 P) :: (nat_lit 81, hdz.zo_94 P) :: (nat_lit 82, hdz.zo_46 P) :: (nat_lit 83, hdz.zo_96 P) :: (nat_lit 84, hdz.zo_97 P) :: (nat_lit 85, hdz.zo_98 P) :: (nat_lit 86, hdz.zo_46 P) :: (nat_lit 87, hdz.zo_47 P) :: (nat_lit 88, hdz.zo_101 P) :: (nat_lit 89, hdz.zo_46 P) :: (nat_lit 90, hdz.zo_103 P) :: (nat_lit 91, hdz.zo_104 P) :: (nat_lit 92, hdz.zo_105 P) :: (nat_lit 93, hdz.zo_46 P) :: (nat_lit 94, hdz.zo_47 P) :: (nat_lit 95, hdz.zo_108 P) :: (nat_lit 96, hdz.zo_46 P) :: (nat_lit 97, hdz.zo_110 P) :: (nat_lit 98, hdz.zo_111 P) :: (nat_lit 99, hdz.zo_112 P) :: (nat_lit 100, hdz.zo_46 P) :: (nat_lit 101, hdz.zo_47 P) :: (nat_lit 102, hdz.zo_115 P) :: (nat_lit 103, hdz.zo_46 P) :: (nat_lit 104, hdz.zo_117 P) :: (nat_lit 105, hdz.zo_118 P) :: (nat_lit 106, hdz.zo_119 P) :: (nat_lit 107, hdz.zo_46 P) :: (nat_lit 108, hdz.zo_47 P) :: (nat_lit 109, hdz.zo_122 P) :: (nat_lit 110, hdz.zo_46 P) :: (nat_lit 111, hdz.zo_124 P) :: (nat_lit 112, hdz.zo_125 P) :: (nat_lit 113, hdz.zo_126 P) :: (nat_lit 114, hdz.zo_127 P) :: (nat_lit 115, hdz.zo_128 P) :: (nat_lit 116, hdz.zo_129 P) :: (nat_lit 117, hdz.zo_130 P) :: (nat_lit 118, hdz.zo_131 P) :: (nat_lit 121, hdz.zo_132 P) :: (nat_lit 124, hdz.zo_133 P) :: (nat_lit 129, hdz.zo_134 P) :: (nat_lit 130, hdz.zo_135 P) :: (nat_lit 131, hdz.zo_136 P) :: (nat_lit 132, hdz.zo_47 P) :: (nat_lit 133, hdz.zo_138 P) :: (nat_lit 134, hdz.zo_46 P) :: (nat_lit 135, hdz.zo_140 P) :: (nat_lit 136, hdz.zo_141 P) :: (nat_lit 137, hdz.zo_142 P) :: (nat_lit 138, hdz.zo_46 P) :: (nat_lit 139, hdz.zo_47 P) :: (nat_lit 140, hdz.zo_145 P) :: (nat_lit 141, hdz.zo_46 P) :: (nat_lit 142, hdz.zo_147 P) :: (nat_lit 143, hdz.zo_148 P) :: (nat_lit 144, hdz.zo_149 P) :: (nat_lit 145, hdz.zo_150 P) :: (nat_lit 146, hdz.zo_46 P) :: (nat_lit 147, hdz.zo_47 P) :: (nat_lit 148, hdz.zo_153 P) :: (nat_lit 149, hdz.zo_46 P) :: (nat_lit 150, hdz.zo_155 P) :: (nat_lit 151, hdz.zo_156 P) :: (nat_lit 152, hdz.zo_157 P) :: (nat_lit 153, hdz.zo_135 P) :: (nat_lit 154, hdz.zo_159 P) :: (nat_lit 155, hdz.zo_47 P) :: (nat_lit 156, hdz.zo_161 P) :: (nat_lit 157, hdz.zo_46 P) :: (nat_lit 158, hdz.zo_163 P) :: (nat_lit 159, hdz.zo_164 P) :: (nat_lit 160, hdz.zo_165 P) :: (nat_lit 161, hdz.zo_46 P) :: (nat_lit 162, hdz.zo_47 P) :: (nat_lit 163, hdz.zo_168 P) :: (nat_lit 164, hdz.zo_46 P) :: (nat_lit 165, hdz.zo_170 P) :: (nat_lit 166, hdz.zo_171 P) :: (nat_lit 167, hdz.zo_172 P) :: (nat_lit 168, hdz.zo_46 P) :: (nat_lit 169, hdz.zo_47 P) :: (nat_lit 170, hdz.zo_175 P) :: (nat_lit 171, hdz.zo_46 P) :: (nat_lit 172, hdz.zo_177 P) :: (nat_lit 173, hdz.zo_178 P) :: (nat_lit 174, hdz.zo_179 P) :: (nat_lit 175, hdz.zo_180 P) :: (nat_lit 176, hdz.zo_46 P) :: (nat_lit 177, hdz.zo_47 P) :: (nat_lit 178, hdz.zo_183 P) :: (nat_lit 179, hdz.zo_46 P) :: (nat_lit 180, hdz.zo_185 P) :: (nat_lit 181, hdz.zo_186 P) :: (nat_lit 182, hdz.zo_187 P) :: (nat_lit 183, hdz.zo_46 P) :: (nat_lit 184, hdz.zo_47 P) :: (nat_lit 185, hdz.zo_190 P) :: (nat_lit 186, hdz.zo_46 P) :: (nat_lit 187, hdz.zo_192 P) :: (nat_lit 188, hdz.zo_193 P) :: (nat_lit 189, hdz.zo_194 P) :: (nat_lit 190, hdz.zo_135 P) :: (nat_lit 191, hdz.zo_196 P) :: (nat_lit 192, hdz.zo_47 P) :: (nat_lit 193, hdz.zo_198 P) :: (nat_lit 194, hdz.zo_46 P) :: (nat_lit 195, hdz.zo_200 P) :: (nat_lit 196, hdz.zo_201 P) :: (nat_lit 197, hdz.zo_202 P) :: (nat_lit 198, hdz.zo_203 P) :: (nat_lit 199, hdz.zo_204 P) :: (nat_lit 200, hdz.zo_205 P) :: (nat_lit 201, hdz.zo_206 P) :: (nat_lit 202, hdz.zo_207 P) :: (nat_lit 205, hdz.zo_46 P) :: (nat_lit 206, hdz.zo_47 P) :: (nat_lit 207, hdz.zo_210 P) :: (nat_lit 208, hdz.zo_46 P) :: (nat_lit 209, hdz.zo_212 P) :: (nat_lit 210, hdz.zo_213 P) :: (nat_lit 211, hdz.zo_214 P) :: (nat_lit 212, hdz.zo_46 P) :: (nat_lit 213, hdz.zo_47 P) :: (nat_lit 214, hdz.zo_217 P) :: (nat_lit 215, hdz.zo_218 P) :: (nat_lit 216, hdz.zo_219 P) :: (nat_lit 217, hdz.zo_220 P) :: (nat_lit 218, hdz.zo_221 P) :: (nat_lit 219, hdz.zo_46 P) :: (nat_lit 220, hdz.zo_47 P) :: (nat_lit 221, hdz.zo_224 P) :: (nat_lit 222, hdz.zo_225 P) :: (nat_lit 223, hdz.zo_226 P) :: (nat_lit 224, hdz.zo_227 P) :: (nat_lit 225, hdz.zo_228 P) :: (nat_lit 226, hdz.zo_46 P) :: (nat_lit 227, hdz.zo_47 P) :: (nat_lit 228, hdz.zo_231 P) :: (nat_lit 229, hdz.zo_46 P) :: (nat_lit 230, hdz.zo_233 P) :: (nat_lit 231, hdz.zo_234 P) :: (nat_lit 232, hdz.zo_235 P) :: (nat_lit 233, hdz.zo_46 P) :: (nat_lit 234, hdz.zo_47 P) :: (nat_lit 235, hdz.zo_238 P) :: (nat_lit 236, hdz.zo_239 P) :: (nat_lit 237, hdz.zo_240 P) :: []
end

section
namespace Mine
theorem om0 {a' b' c' : Int} : (((a' + b') + c') = (a' + (b' + c'))) := by lia
theorem om1 {a' : Nat} : (((a' + (1 : Nat)) - (1 : Nat)) = a') := by lia
theorem om2 {b' c' : Nat} {a' : Int} (h0' : ((0 : Int) ≤ a')) : ((0 : Int) ≤ ((((b' : Nat) : Int) + ((c' : Nat) : Int)) + a')) := by lia
theorem om3 {a' b' c' : Int} (h0' : (a' = (b' + c'))) (h1' : ((0 : Int) ≤ c')) : (b' ≤ a') := by lia
theorem om4 {a' b' : Int} (h0' : ((0 : Int) ≤ a')) : (b' ≤ (b' + a')) := by lia
theorem om5 {a' b' d' e' : Nat} {c' : Int} (h0' : ((((a' : Nat) : Int) + ((b' : Nat) : Int)) ≤ c')) : ((((a' : Nat) : Int) + ((b' : Nat) : Int)) ≤ ((((d' : Nat) : Int) + ((e' : Nat) : Int)) + c')) := by lia
theorem om9 {a' b' c' d' : Nat} (h0' : (a' < b')) : ((0 : Int) ≤ (((c' : Nat) : Int) + ((d' : Nat) : Int))) := by exact Int.natCast_nonneg _
theorem om11 {a' c' d' : Nat} {b' : Int} (h0' : (((a' : Nat) : Int) = b')) : (((((c' + d') + a') : Nat) : Int) = ((((c' : Nat) : Int) + ((d' : Nat) : Int)) + b')) := by lia
theorem om12 {a' b' c' d' : Nat} (h0' : ((a' + (b' * c')) ≤ d')) : (¬((a' + (b' * c')) > d')) := by exact Nat.not_lt.mpr (by assumption)
theorem om14 {b' c' d' : Nat} {a' : Int} (h0' : (a' ≤ (1000000 : Int))) (h1' : ((((b' : Nat) : Int) + ((c' : Nat) : Int)) ≤ a')) (h2' : ((1000000 : Nat) ≤ d')) : (((b' + (c' + (0 : Nat))) + (0 : Nat)) ≤ d') := by lia
theorem om15 {b' c' d' : Nat} {a' : Int} (h0' : (a' ≤ (1000000 : Int))) (h1' : (b' = c')) (h2' : (((c' : Nat) : Int) = a')) (h3' : ((1000000 : Nat) ≤ d')) : (c' ≤ d') := by lia
theorem om16 {a' b' c' : Nat} (h0' : ((a' + (b' + (1 : Nat))) < c')) : (((a' + (1 : Nat)) + b') < c') := by lia
theorem om17 {a' b' c' : Nat} (h0' : ((a' + ((5 : Nat) * (b' + (1 : Nat)))) < c')) : (((a' + (3 : Nat)) + ((5 : Nat) * b')) < c') := by lia
theorem om18 {a' b' c' : Nat} (h0' : ((a' + ((5 : Nat) * (b' + (1 : Nat)))) < c')) : (((a' + (1 : Nat)) + ((5 : Nat) * b')) < c') := by lia
theorem om19 {a' b' c' d' : Nat} (h0' : (a' ≤ b')) (h1' : ((c' + b') < d')) : ((c' + a') < d') := by lia
theorem om20 {a' b' c' d' : Nat} (h0' : (a' ≤ b')) (h1' : ((c' + ((5 : Nat) * b')) < d')) : ((c' + ((5 : Nat) * a')) < d') := by lia
theorem om21 {a' : Int} (h0' : (((0 : Int) ≤ a') ∧ (a' ≤ (1000000 : Int)))) : (((-(1000 : Int)) ≤ a') ∧ (a' ≤ (1000000 : Int))) := by lia
theorem om22 {a' b' : Int} (h0' : (((0 : Int) ≤ a') ∧ (a' ≤ (1000000 : Int)))) (h1' : (b' ≤ (1000000 : Int))) (h2' : ((0 : Int) ≤ b')) : (¬((a' + b') < (0 : Int))) := by lia
theorem om24 {a' b' : Nat} (h0' : ((a' + ((5 : Nat) * (1 : Nat))) < b')) : (a' < b') := by lia
theorem om25 {a' b' : Nat} (h0' : (a' < b')) : ((1 : Nat) ≤ (b' - a')) := by lia
theorem om26 {a' b' : Nat} (h0' : (a' < (b' + (1 : Nat)))) (h1' : (b' ≤ a')) : (a' = b') := by lia
theorem om27 {a' b' c' : Nat} (h0' : (a' = (b' + (1 : Nat)))) (h1' : (c' < b')) : (c' < (a' - (1 : Nat))) := by omega
theorem om28 {a' : Nat} (h0' : (a' ≤ (999 : Nat))) : (a' ≤ (100000 : Nat)) := by exact Nat.le_trans (by assumption) (by decide)
theorem om29 {a' : Nat} (h0' : (a' ≤ (1000 : Nat))) : (a' ≤ (100000 : Nat)) := by exact Nat.le_trans (by assumption) (by decide)
theorem om30 {a' : Int} (h0' : (((0 : Int) ≤ a') ∧ (a' ≤ (1000 : Int)))) : (((0 : Int) ≤ a') ∧ (a' ≤ (1000000 : Int))) := by lia
theorem om31 {a' b' : Int} (h0' : (a' ≤ (100000 : Int))) (h1' : (b' = a')) : (b' ≤ (1000000 : Int)) := by lia
theorem om32 {a' b' c' : Int} (h0' : ((0 : Int) < (a' + b'))) (h1' : (c' = b')) : ((0 : Int) < (a' + c')) := by lia
theorem om33 {a' : Nat} (h0' : (a' ≤ (1001 : Nat))) : (a' ≤ (100000 : Nat)) := by exact Nat.le_trans (by assumption) (by decide)
theorem om34 {a' b' c' : Int} (h0' : (a' ≤ (100000 : Int))) (h1' : ((0 : Int) < (b' + a'))) (h2' : (c' = a')) (h3' : (b' = (0 : Int))) : (c' ≠ (0 : Int)) := by lia
theorem om35 {a' b' : Nat} (h0' : (a' ≤ (1000 : Nat))) (h1' : (b' = a')) : (b' ≤ (100000 : Nat)) := by lia
theorem om36 {a' b' : Nat} (h0' : (a' < b')) : ((b' - (a' + (1 : Nat))) < (b' - a')) := by omega
theorem om37 {a' : Nat} (h0' : ((((((a' : Nat) : Int) - (0 : Int)) - (1 : Int)) / (-(-(1 : Int)))) = (((a' : Nat) : Int) - (1 : Int)))) : (((((((a' : Nat) : Int) - (0 : Int)) - (1 : Int)) / (-(-(1 : Int)))) + (1 : Int)) = ((a' : Nat) : Int)) := by lia
theorem om38 {a' : Nat} (h0' : (¬(((a' : Nat) : Int) > (0 : Int)))) : ((0 : Int) = ((a' : Nat) : Int)) := by lia
theorem om43 {a' : Nat} (h0' : ((1 : Nat) ≤ a')) (h1' : (a' ≤ (0 : Nat))) : False := by lia
theorem om44 {a' b' : Nat} (h0' : (a' < (b' + (1 : Nat)))) : (a' ≤ b') := by lia
theorem om45 {a' b' : Nat} (h0' : (a' ≤ (b' + (1 : Nat)))) (h1' : (a' ≥ (b' + (1 : Nat)))) : (a' = (b' + (1 : Nat))) := by lia
theorem om46 {a' : Nat} (h0' : ((0 : Nat) < a')) : (((0 : Int) ≤ ((-(1 : Int)) + ((a' : Nat) : Int))) ∧ (((-(1 : Int)) + ((a' : Nat) : Int)) < ((a' : Nat) : Int))) := by lia
theorem om47 {a' : Nat} (h0' : ((0 : Nat) < a')) : ((Int.toNat ((-(1 : Int)) + ((a' : Nat) : Int))) = (a' - (1 : Nat))) := by lia
theorem om48 {a' b' c' : Nat} (h0' : (a' ≤ b')) (h1' : (c' < (min a' b'))) : (c' < a') := by lia
theorem om49 {a' b' c' d' : Nat} (h0' : (a' ≤ b')) (h1' : (c' < a')) (h2' : (d' = b')) : (c' < ((min a' d') - (0 : Nat))) := by lia
theorem om50 {a' b' c' : Nat} (h0' : ((a' + b') < c')) : (b' < ((min c' c') - a')) := by lia
theorem om51 {a' b' : Nat} (h0' : (a' ≤ (900 : Nat))) (h1' : (b' = a')) : (b' ≤ (100000 : Nat)) := by lia
theorem om52 {a' : Int} (h0' : (a' ≤ (100000 : Int))) : (a' ≤ (1000000 : Int)) := by lia
theorem om53 {a' b' c' : Int} (h0' : ((a' + b') ≤ c')) : (¬(c' < (a' + b'))) := by lia
theorem om54 {a' b' c' : Int} (h0' : (¬((a' + b') ≤ c'))) : (c' < (a' + b')) := by lia
theorem om55 {a' : Nat} : (((((a' + (1 : Nat)) : Nat) : Int) - (1 : Int)) = ((a' : Nat) : Int)) := by lia
theorem om56 {a' b' c' d' : Nat} (h0' : (a' ≤ (900 : Nat))) (h1' : (b' = a')) (h2' : (c' = (a' + (1 : Nat)))) (h3' : (d' = (a' + (1 : Nat)))) : (a' ≤ (100000 : Nat)) := by exact Nat.le_trans (by assumption) (by decide)
theorem om57 {a' b' c' d' e' : Nat} (h0' : (a' ≤ (900 : Nat))) (h1' : (b' = a')) (h2' : (c' = (a' + (1 : Nat)))) (h3' : (d' = (a' + (1 : Nat)))) (h4' : ((a' - (0 : Nat)) < e')) (h5' : (e' ≤ a')) : False := by lia
theorem om58 {a' b' c' d' e' : Nat} (h0' : (a' = b')) (h1' : (c' = (b' + (1 : Nat)))) (h2' : (d' = (b' + (1 : Nat)))) (h3' : (e' < b')) : (((b' - e') + e') = b') := by lia
theorem om59 {a' b' c' d' e' f' : Nat} (h0' : (a' = b')) (h1' : (c' = (b' + (1 : Nat)))) (h2' : (d' = (b' + (1 : Nat)))) (h3' : ((e' + f') = b')) : ((((b' : Nat) : Int) + (((f' : Nat) : Int) * (-(1 : Int)))) = ((e' : Nat) : Int)) := by lia
theorem om60 {a' b' c' d' e' f' : Nat} (h0' : (a' = b')) (h1' : (c' = (b' + (1 : Nat)))) (h2' : (d' = (b' + (1 : Nat)))) (h3' : ((e' + f') = b')) : (e' < d') := by lia
theorem om62 {a' : Nat} (h0' : (a' ≠ (0 : Nat))) : (((a' : Nat) : Int) ≠ (0 : Int)) := by lia
theorem om63 {a' b' c' d' e' f' : Nat} (h0' : (a' = b')) (h1' : (c' = (b' + (1 : Nat)))) (h2' : (d' = (b' + (1 : Nat)))) (h3' : (e' < b')) (h4' : ((f' + e') = b')) : ((1 : Nat) ≤ f') := by lia
theorem om64 {a' b' c' d' e' f' : Nat} (h0' : (a' = b')) (h1' : (c' = (b' + (1 : Nat)))) (h2' : (d' = (b' + (1 : Nat)))) (h3' : ((e' + f') = b')) : (e' ≤ b') := by lia
theorem om65 {a' b' c' d' e' f' g' : Nat} (h0' : (a' = b')) (h1' : (c' = (b' + (1 : Nat)))) (h2' : (d' = (b' + (1 : Nat)))) (h3' : (e' < b')) (h4' : ((f' + e') = b')) (h5' : (f' < g')) : ((b' - e') < g') := by lia
theorem om66 {a' b' c' d' e' f' : Nat} (h0' : (a' = b')) (h1' : (c' = (b' + (1 : Nat)))) (h2' : (d' = (b' + (1 : Nat)))) (h3' : (e' < b')) (h4' : ((f' + e') = b')) : ((f' - (1 : Nat)) < d') := by lia
theorem om67 {a' b' c' d' e' f' : Nat} (h0' : (a' = b')) (h1' : (c' = (b' + (1 : Nat)))) (h2' : (d' = (b' + (1 : Nat)))) (h3' : (e' < b')) (h4' : ((f' + e') = b')) : ((((f' : Nat) : Int) - (1 : Int)) = (((f' - (1 : Nat)) : Nat) : Int)) := by lia
theorem om68 {a' b' c' d' e' f' g' : Nat} (h0' : (a' = b')) (h1' : (c' = (b' + (1 : Nat)))) (h2' : (d' = (b' + (1 : Nat)))) (h3' : (e' < b')) (h4' : ((f' + e') = b')) (h5' : ((b' - (e' + (1 : Nat))) < g')) (h6' : ((b' - e') ≥ g')) : (g' = f') := by lia
theorem om70 {a' b' c' d' e' : Nat} (h0' : (a' ≤ (900 : Nat))) (h1' : (b' = a')) (h2' : (c' = (a' + (1 : Nat)))) (h3' : (d' = (a' + (1 : Nat)))) (h4' : ((0 : Nat) < e')) (h5' : (e' ≤ a')) : ((a' - a') < e') := by lia
theorem om71 {a' b' : Nat} (h0' : (a' < (b' + (1 : Nat)))) (h1' : (a' ≥ b')) : (a' = b') := by lia
theorem om72 {a' b' c' d' : Nat} (h0' : (a' ≤ (900 : Nat))) (h1' : (b' = a')) (h2' : (c' = (a' + (1 : Nat)))) (h3' : (d' = (a' + (1 : Nat)))) : (d' ≤ (1000 : Nat)) := by lia
theorem om73 {a' b' c' : Int} (h0' : (a' ≤ (100000 : Int))) (h1' : (a' = (b' + c'))) (h2' : ((0 : Int) ≤ c')) : (b' ≤ (100000 : Int)) := by lia
theorem om74 {a' b' c' d' : Nat} (h0' : (a' ≤ (900 : Nat))) (h1' : (b' = a')) (h2' : (c' = (a' + (1 : Nat)))) (h3' : (d' = (a' + (1 : Nat)))) : (a' ≤ (1000 : Nat)) := by exact Nat.le_trans (by assumption) (by decide)
theorem om75 {a' : Nat} (h0' : (a' ≤ (900 : Nat))) : (a' ≤ (1000 : Nat)) := by exact Nat.le_trans (by assumption) (by decide)
theorem om76 {a' b' : Int} (h0' : (((0 : Int) ≤ a') ∧ (a' ≤ (1000 : Int)))) (h1' : (b' ≤ (100000 : Int))) (h2' : ((0 : Int) < a')) (h3' : ((0 : Int) ≤ b')) : ((0 : Int) < (a' + b')) := by lia
theorem om77 {a' : Int} (h0' : (((0 : Int) ≤ a') ∧ (a' ≤ (1000 : Int)))) (h1' : ((0 : Int) < a')) : (a' ≠ (0 : Int)) := by lia
theorem om78 {d' e' : Nat} {a' b' c' : Int} (h0' : (a' ≤ (100000 : Int))) (h1' : (b' ≤ (100000 : Int))) (h2' : ((0 : Int) ≤ b')) (h3' : (a' = (b' + c'))) (h4' : (c' = (((d' : Nat) : Int) + ((e' : Nat) : Int)))) : (((d' : Nat) : Int) ≤ (100000 : Int)) := by lia
theorem om80 {a' b' c' d' : Nat} (h0' : (a' ≤ (900 : Nat))) (h1' : (b' = a')) (h2' : (c' = (a' + (1 : Nat)))) (h3' : (d' = (a' + (1 : Nat)))) : (c' ≤ (100000 : Nat)) := by lia
theorem om81 {a' b' c' d' e' : Nat} (h0' : (a' = b')) (h1' : (c' = (b' + (1 : Nat)))) (h2' : (d' = (b' + (1 : Nat)))) (h3' : (e' ≤ b')) : (e' ≤ c') := by lia
theorem om82 {a' b' c' d' e' : Nat} (h0' : (a' = b')) (h1' : (c' = (b' + (1 : Nat)))) (h2' : (d' = (b' + (1 : Nat)))) (h3' : (e' ≤ b')) : (e' ≤ d') := by lia
theorem om83 {a' b' : Int} (h0' : (a' ≤ (100000 : Int))) (h1' : (b' ≤ a')) : (b' ≤ (1000000 : Int)) := by lia
theorem om84 {a' b' c' d' e' : Nat} (h0' : (a' ≤ (900 : Nat))) (h1' : (b' = a')) (h2' : (c' = (a' + (1 : Nat)))) (h3' : (d' = (a' + (1 : Nat)))) (h4' : (e' ≤ a')) : ((min e' (a' + (1 : Nat))) ≤ (100000 : Nat)) := by lia
theorem om85 {a' b' c' d' e' : Nat} (h0' : (a' ≤ (900 : Nat))) (h1' : (b' = a')) (h2' : (c' = (a' + (1 : Nat)))) (h3' : (d' = (a' + (1 : Nat)))) (h4' : (e' ≤ a')) : (((min e' (b' + (1 : Nat))) + ((b' + (1 : Nat)) - e')) ≤ (100000 : Nat)) := by lia
theorem om86 {a' : Nat} (h0' : (a' ≤ (1000 : Nat))) : (a' ≤ ((16777216 : Nat) + (1 : Nat))) := by exact Nat.le_trans (by assumption) (by decide)
theorem om88 {a' b' : Nat} : (((a' + (1 : Nat)) + b') = (a' + (b' + (1 : Nat)))) := by lia
theorem om89 {a' b' : Nat} (h0' : (a' < b')) : ((min (4294967295 : Nat) (Int.toNat (((b' : Nat) : Int) - ((a' : Nat) : Int)))) = (((min (4294967295 : Nat) (Int.toNat (((b' : Nat) : Int) - ((a' : Nat) : Int)))) - (1 : Nat)) + (1 : Nat))) := by lia
theorem om90 {a' b' : Nat} (h0' : (a' < b')) : (¬((((1 : Nat) : Nat) : Int) > (((b' : Nat) : Int) - ((a' : Nat) : Int)))) := by lia
theorem om91 {a' : Nat} : ((((1 : Nat) : Nat) : Int) > (((a' : Nat) : Int) - ((a' : Nat) : Int))) := by lia
theorem om92 {a' b' : Nat} (h0' : (a' < b')) : ((Int.toNat (((b' : Nat) : Int) - ((a' : Nat) : Int))) = (b' - a')) := by lia
theorem om93 {a' b' : Nat} (h0' : (a' < b')) : ((min (4294967295 : Nat) (b' - a')) = (((min (4294967295 : Nat) (b' - a')) - (1 : Nat)) + (1 : Nat))) := by lia
theorem om94 {a' : Nat} : (((-(1 : Int)) + (((a' + (1 : Nat)) : Nat) : Int)) = ((a' : Nat) : Int)) := by lia
theorem om95 {a' : Nat} : (((a' : Nat) : Int) < (((a' + (1 : Nat)) : Nat) : Int)) := by lia
theorem om96 {a' : Nat} (h0' : (a' ≤ (100000 : Nat))) : ((((a' + (1 : Nat)) : Nat) : Int) ≠ (0 : Int)) := by lia
theorem om97 {a' b' : Nat} {c' d' : Int} (h0' : ((a' + b') ≤ (100000 : Nat))) (h1' : (c' = ((a' : Nat) : Int))) : ((max (0 : Int) (min d' ((a' : Nat) : Int))) ≤ ((a' : Nat) : Int)) := by lia
theorem om98 {b' : Nat} {a' : Int} (h0' : (a' ≤ ((b' : Nat) : Int))) : ((Int.toNat (max a' ((b' : Nat) : Int))) = b') := by lia
theorem om99 {a' b' : Nat} {c' : Int} (h0' : ((a' + b') ≤ (100000 : Nat))) (h1' : (c' ≤ ((a' : Nat) : Int))) (h2' : ((Int.toNat (max c' ((a' : Nat) : Int))) = a')) : ((Int.toNat c') ≤ a') := by lia
theorem om100 {a' b' d' : Nat} {c' : Int} (h0' : ((a' + b') ≤ (100000 : Nat))) (h1' : ((Int.toNat (max c' ((a' : Nat) : Int))) = a')) (h2' : ((Int.toNat c') ≤ a')) (h3' : ((Int.toNat c') = d')) : ((((min (Int.toNat c') a') - (0 : Nat)) + b') ≤ (a' + b')) := by lia
theorem om101 {b' : Nat} {a' : Int} : (((0 : Int) ≤ (max (0 : Int) (min a' ((b' : Nat) : Int)))) ∧ ((max (0 : Int) (min a' ((b' : Nat) : Int))) ≤ ((b' : Nat) : Int))) := by omega
theorem om102 {a' b' : Nat} (h0' : (((0 : Int) ≤ ((a' : Nat) : Int)) ∧ (((a' : Nat) : Int) ≤ ((b' : Nat) : Int)))) : (a' ≤ b') := by lia
theorem om105 {a' b' c' : Nat} (h0' : (((0 : Int) ≤ ((a' : Nat) : Int)) ∧ (((a' : Nat) : Int) ≤ ((b' : Nat) : Int)))) : ((Int.toNat (((a' : Nat) : Int) + ((1 : Int) * ((c' : Nat) : Int)))) = (a' + c')) := by lia
theorem om106 {a' b' c' : Nat} (h0' : (¬((a' + b') < c'))) : (c' < (a' + (b' + (1 : Nat)))) := by exact Nat.not_le.mp (by assumption)
theorem om107 {a' b' : Nat} (h0' : (((0 : Int) ≤ ((a' : Nat) : Int)) ∧ (((a' : Nat) : Int) ≤ ((b' : Nat) : Int)))) (h1' : (b' < (a' + (b' - a')))) : False := by lia
theorem om108 {a' b' : Int} (h0' : ((0 : Int) ≤ a')) (h1' : (a' < b')) : ((-b') ≤ a') := by lia
theorem om110 {a' b' c' : Nat} (h0' : (a' = ((2 : Nat) * b'))) (h1' : (c' < b')) : (((2 : Nat) * c') < a') := by lia
theorem om111 {a' b' c' : Nat} (h0' : (a' = ((2 : Nat) * b'))) (h1' : (c' < b')) : ((((2 : Nat) * c') + (1 : Nat)) < a') := by lia
theorem om112 {a' : Nat} : (((((2 : Nat) * a') + (1 : Nat)) + (1 : Nat)) = ((2 : Nat) * (a' + (1 : Nat)))) := by lia
theorem om113 {a' : Nat} : ((max (0 : Int) (min (0 : Int) ((a' : Nat) : Int))) = (0 : Int)) := by lia
theorem om114 {a' b' : Nat} : ((a' + b') ≤ (b' + a')) := by lia
theorem om115 {a' : Nat} (h0' : (a' ≤ (100000 : Nat))) (h1' : ((0 : Nat) < a')) : ((a' - (1 : Nat)) ≠ a') := by lia
theorem om116 {a' : Nat} : (((2 : Nat) * (a' + (1 : Nat))) = ((((2 : Nat) * a') + (1 : Nat)) + (1 : Nat))) := by lia
theorem om117 {a' : Nat} : ((((((2 : Nat) * a') + (1 : Nat)) + (1 : Nat)) + (1 : Nat)) = (((((2 : Nat) * a') + (1 : Nat)) + (1 : Nat)) + (1 : Nat))) := by lia
theorem om118 {a' b' c' d' : Nat} (h0' : (((a' + b') + c') = d')) : ((((a' + (1 : Nat)) + b') + c') = (d' + (1 : Nat))) := by lia
theorem om119 {a' b' c' : Nat} (h0' : ((a' + b') = c')) : (((a' + (1 : Nat)) + b') = (c' + (1 : Nat))) := by lia
theorem om120 {a' b' c' d' : Nat} (h0' : ((((a' + (1 : Nat)) + b') + c') = d')) : (((1 : Nat) + (((a' + (1 : Nat)) + b') + c')) = (d' + (1 : Nat))) := by lia
theorem om121 {a' b' c' : Nat} (h0' : (a' ≤ b')) : (a' ≤ (c' + b')) := by lia
theorem om122 {a' b' c' : Nat} (h0' : ((a' + b') ≤ c')) : ((((a' : Nat) : Int) + ((b' : Nat) : Int)) ≤ ((c' : Nat) : Int)) := by lia
theorem om123 {a' b' c' : Int} (h0' : (a' = (b' + c'))) (h1' : ((0 : Int) ≤ b')) : (c' ≤ a') := by lia
theorem om124 {a' : Nat} : (a' ≤ (a' + (1 : Nat))) := by lia
theorem om125 {a' b' c' : Int} (h0' : (a' = (b' + c'))) : (a' ≤ ((b' + c') + (1 : Int))) := by lia
theorem om126 {a' b' c' d' : Int} (h0' : (a' = (b' + c'))) (h1' : (d' ≤ a')) : (d' ≤ ((b' + c') + (1 : Int))) := by lia
theorem om127 {a' b' : Nat} : (((1 : Int) + ((a' : Nat) : Int)) ≤ ((((b' : Nat) : Int) + ((a' : Nat) : Int)) + (1 : Int))) := by lia
theorem om128 {a' b' : Nat} : (((((a' : Nat) : Int) + ((b' : Nat) : Int)) + (0 : Int)) ≤ ((((a' : Nat) : Int) + ((b' : Nat) : Int)) + (1 : Int))) := by lia
theorem om129 {a' b' c' : Int} (h0' : ((0 : Int) ≤ a')) (h1' : (b' ≤ (c' + (1 : Int)))) : (b' ≤ ((a' + c') + (1 : Int))) := by lia
theorem om130 {a' b' c' d' : Nat} (h0' : (a' ≤ (250 : Nat))) (h1' : (a' = (b' + c'))) (h2' : ((1000000 : Nat) ≤ d')) : ((b' + c') ≤ d') := by lia
theorem om131 {a' b' c' : Nat} (h0' : (a' ≤ (250 : Nat))) (h1' : (a' = (b' + c'))) : (a' ≤ (100000 : Nat)) := by exact Nat.le_trans (by assumption) (by decide)
theorem om132 {a' b' c' d' e' f' : Nat} (h0' : (a' ≤ (250 : Nat))) (h1' : (a' = (b' + c'))) (h2' : ((d' + (1 : Nat)) ≤ (((2 : Nat) * e') + (1 : Nat)))) (h3' : (f' = d')) (h4' : (e' = a')) : (f' ≤ (1000 : Nat)) := by lia
theorem om134 {a' : Nat} (h0' : (a' ≤ (1000 : Nat))) : (a' ≤ (99999 : Nat)) := by exact Nat.le_trans (by assumption) (by decide)
theorem om135 {a' : Nat} : ((((a' + (1 : Nat)) : Nat) : Int) ≠ (0 : Int)) := by lia
theorem om136 {a' : Nat} (h0' : (a' ≤ (1000 : Nat))) : (a' ≤ (99998 : Nat)) := by exact Nat.le_trans (by assumption) (by decide)
theorem om137 {a' b' : Nat} (h0' : ((a' < b') ∨ (b' < a'))) (h1' : (a' = b')) : False := by lia
theorem om138 {a' b' c' d' e' : Nat} (h0' : (a' ≤ (250 : Nat))) (h1' : (a' = (b' + c'))) (h2' : (d' ≤ e')) (h3' : (e' = a')) : (d' ≤ (250 : Nat)) := by lia
theorem om139 {a' b' c' d' e' f' : Nat} (h0' : ((238 : Nat) ≤ a')) (h1' : (b' = c')) (h2' : (d' = (c' + (3 : Nat)))) (h3' : (e' < c')) (h4' : (c' > f')) (h5' : (e' > a')) : ((238 : Nat) ≤ (c' + (2 : Nat))) := by lia
theorem om140 {a' b' c' : Nat} (h0' : (a' = (b' + (3 : Nat)))) (h1' : (c' < b')) : (c' ≤ (b' + (2 : Nat))) := by lia
theorem om141 {a' b' c' : Nat} (h0' : (a' = (b' + (3 : Nat)))) (h1' : (b' > c')) : ((c' < (b' + (2 : Nat))) ∨ ((b' + (2 : Nat)) < c')) := by omega
theorem om142 {a' b' c' d' e' f' : Nat} (h0' : ((238 : Nat) ≤ a')) (h1' : (b' = c')) (h2' : (d' = (c' + (3 : Nat)))) (h3' : (e' < c')) (h4' : (c' > f')) (h5' : (e' > a')) : ((238 : Nat) ≤ (c' + (1 : Nat))) := by lia
theorem om143 {a' b' c' : Nat} (h0' : (a' = (b' + (3 : Nat)))) (h1' : (c' < b')) : (c' ≤ (b' + (1 : Nat))) := by lia
theorem om144 {a' b' c' : Nat} (h0' : (a' = (b' + (3 : Nat)))) (h1' : (b' > c')) : ((c' < (b' + (1 : Nat))) ∨ ((b' + (1 : Nat)) < c')) := by omega
theorem om145 {a' b' c' d' : Nat} (h0' : ((238 : Nat) ≤ a')) (h1' : (b' > a')) (h2' : (b' < c')) (h3' : (c' > d')) : ((238 : Nat) ≤ c') := by lia
theorem om146 {a' b' : Nat} (h0' : (a' > b')) : ((b' < a') ∨ (a' < b')) := by omega
theorem om154 {a' b' c' d' : Nat} (h0' : (a' = (b' + (3 : Nat)))) (h1' : (b' > c')) (h2' : ((b' + (3 : Nat)) ≤ d')) : ((d' < c') ∨ (c' < d')) := by lia
theorem om155 {a' b' c' : Nat} (h0' : (a' = ((2 : Nat) * b'))) (h1' : (b' ≤ (250 : Nat))) (h2' : (c' < b')) : ((((c' : Nat) : Int) * (300 : Int)) ≤ (75000 : Int)) := by lia
theorem om158 {a' b' c' d' e' f' i' : Nat} {g' h' j' : Int} (h0' : (a' ≤ (250 : Nat))) (h1' : (a' = (b' + c'))) (h2' : (d' = ((2 : Nat) * e'))) (h3' : (e' ≤ (250 : Nat))) (h4' : (f' < e')) (h5' : (g' ≤ (((f' : Nat) : Int) * (300 : Int)))) (h6' : (h' ≤ ((i' : Nat) : Int))) (h7' : (i' = a')) (h8' : (j' = (g' + h'))) (h9' : ((((f' : Nat) : Int) * (300 : Int)) ≤ (75000 : Int))) : (j' ≤ (100000 : Int)) := by lia
theorem om159 {a' b' c' d' : Nat} (h0' : (a' = ((2 : Nat) * b'))) (h1' : (b' ≤ (250 : Nat))) (h2' : (c' < b')) (h3' : (d' ≤ c')) (h4' : ((((c' : Nat) : Int) * (300 : Int)) ≤ (75000 : Int))) : (d' ≤ (900 : Nat)) := by lia
theorem om160 {a' b' c' : Nat} (h0' : (a' ≤ b')) (h1' : (c' ≤ (a' + (1 : Nat)))) : (c' ≤ (b' + (1 : Nat))) := by lia
theorem om161 {a' b' c' e' g' : Nat} {d' f' h' i' : Int} (h0' : (a' ≤ (250 : Nat))) (h1' : (a' = (b' + c'))) (h2' : (d' ≤ (((e' : Nat) : Int) * (300 : Int)))) (h3' : (f' ≤ ((g' : Nat) : Int))) (h4' : (g' = a')) (h5' : (h' = (d' + f'))) (h6' : (i' ≤ ((d' + f') + (1 : Int)))) : (i' ≤ ((((e' + (1 : Nat)) : Nat) : Int) * (300 : Int))) := by lia
theorem om162 {a' b' c' d' : Nat} (h0' : (a' = (b' + (3 : Nat)))) (h1' : (c' > (b' + (2 : Nat)))) (h2' : (c' ≤ d')) : ((b' + (3 : Nat)) ≤ d') := by lia
theorem om163 {a' b' c' d' : Nat} (h0' : (a' ≤ b')) (h1' : (c' ≤ (a' + (1 : Nat)))) (h2' : (d' = c')) : (d' ≤ (b' + (1 : Nat))) := by lia
theorem om170 {a' : Nat} (h0' : (a' ≤ (500 : Nat))) (h1' : ((0 : Nat) < a')) : (((a' : Nat) : Int) > (0 : Int)) := by lia
theorem om172 {a' b' c' d' : Nat} (h0' : (a' = b')) (h1' : (c' < (d' + b'))) : ((((d' : Nat) : Int) + ((b' : Nat) : Int)) > ((c' : Nat) : Int)) := by lia
theorem om173 {a' b' c' d' : Nat} (h0' : (a' = b')) (h1' : (¬(c' < (d' + b')))) : (¬((((d' : Nat) : Int) + ((b' : Nat) : Int)) > ((c' : Nat) : Int))) := by lia
theorem om174 {a' : Nat} (h0' : (a' ≤ (500 : Nat))) (h1' : (¬((0 : Nat) < a'))) : (¬(((a' : Nat) : Int) > (0 : Int))) := by lia
theorem om175 {a' b' : Nat} (h0' : (a' ≤ (900 : Nat))) (h1' : (b' = a')) : (a' ≤ (1000 : Nat)) := by exact Nat.le_trans (by assumption) (by decide)
theorem om176 {a' b' : Nat} : ((Int.toNat ((((a' : Nat) : Int) - ((b' : Nat) : Int)) + (1 : Int))) = ((a' + (1 : Nat)) - b')) := by lia
theorem om177 {a' b' c' : Nat} (h0' : (a' = b')) (h1' : (a' < c')) (h2' : ((c' - a') = (0 : Nat))) : False := by lia
theorem om178 {a' b' c' d' : Nat} (h0' : (a' = b')) (h1' : (a' < c')) (h2' : ((c' - a') = (d' + (1 : Nat)))) : (((d' + (1 : Nat)) + a') = c') := by lia
theorem om179 {a' b' c' d' : Nat} (h0' : (a' = b')) (h1' : (((c' + (1 : Nat)) + a') = d')) : ((c' + (1 : Nat)) ≤ (d' + (1 : Nat))) := by lia
theorem om180 {a' b' c' d' e' : Nat} (h0' : (a' ≤ (900 : Nat))) (h1' : (b' = a')) (h2' : (c' = d')) (h3' : (((e' + (1 : Nat)) + c') = b')) : ((e' + (1 : Nat)) ≤ (901 : Nat)) := by lia
theorem om181 {a' b' c' d' e' : Nat} (h0' : (a' ≤ (900 : Nat))) (h1' : (b' = a')) (h2' : (c' = d')) (h3' : (((e' + (1 : Nat)) + c') = b')) : ((((0 : Nat) + (1 : Nat)) + (e' + (1 : Nat))) ≤ (902 : Nat)) := by lia
theorem om182 {a' b' c' d' : Nat} (h0' : (a' = b')) (h1' : (((c' + (1 : Nat)) + a') = d')) : (((c' + (1 : Nat)) + (1 : Nat)) ≤ (d' + (1 : Nat))) := by lia
theorem om183 {a' b' c' d' e' : Nat} (h0' : (a' ≤ (900 : Nat))) (h1' : (b' = a')) (h2' : (c' = d')) (h3' : (((e' + (1 : Nat)) + c') = b')) : (((e' + (1 : Nat)) + (1 : Nat)) ≤ (901 : Nat)) := by lia
theorem om184 {a' b' c' d' e' : Nat} (h0' : (a' ≤ (900 : Nat))) (h1' : (b' = a')) (h2' : (c' = d')) (h3' : (((e' + (1 : Nat)) + c') = b')) : ((((0 : Nat) + (1 : Nat)) + ((e' + (1 : Nat)) + (1 : Nat))) ≤ (902 : Nat)) := by lia
theorem om185 {a' b' c' d' e' f' : Nat} (h0' : (a' ≤ (900 : Nat))) (h1' : (b' = a')) (h2' : (c' = d')) (h3' : (c' < b')) (h4' : (((e' + (1 : Nat)) + c') = b')) (h5' : ((1000000 : Nat) ≤ f')) : (((1 : Nat) + (e' + (1 : Nat))) ≤ f') := by lia
theorem om186 {a' b' : Nat} (h0' : (a' ≤ (900 : Nat))) (h1' : (b' = a')) : (((0 : Nat) + b') ≤ (902 : Nat)) := by lia
theorem om188 {a' b' c' : Nat} (h0' : (a' = b')) (h1' : (b' ≤ c')) : (¬(((b' : Nat) : Int) > ((c' : Nat) : Int))) := by lia
theorem om189 {a' b' c' : Nat} (h0' : (a' ≤ (901 : Nat))) (h1' : ((b' + a') ≤ (902 : Nat))) (h2' : (c' = a')) : (b' ≤ (902 : Nat)) := by lia
theorem om190 {a' b' c' : Nat} (h0' : (a' = b')) (h1' : (¬(b' ≤ c'))) : (((b' : Nat) : Int) > ((c' : Nat) : Int)) := by lia
theorem om191 {a' b' c' d' : Nat} (h0' : (a' ≤ (500 : Nat))) (h1' : (b' ≤ c')) (h2' : (b' ≤ (901 : Nat))) (h3' : (d' = b')) (h4' : (¬(b' ≤ a'))) : (c' = ((c' - (1 : Nat)) + (1 : Nat))) := by lia
theorem om192 {a' b' : Nat} (h0' : (a' ≤ (901 : Nat))) (h1' : (b' = a')) : (b' ≤ (1000 : Nat)) := by lia
theorem om193 {a' : Nat} (h0' : (a' ≤ (500 : Nat))) : ((Int.toNat (((a' : Nat) : Int) + (1 : Int))) = (a' + (1 : Nat))) := by lia
theorem om194 {a' b' c' : Nat} (h0' : (a' = b')) (h1' : (((1 : Nat) ≤ c') ∧ (c' < b'))) : (c' ≤ b') := by lia
theorem om195 {a' b' c' : Nat} (h0' : (a' ≤ (901 : Nat))) (h1' : ((b' + a') ≤ (902 : Nat))) (h2' : (c' = a')) : (b' ≤ (100000 : Nat)) := by lia
theorem om196 {a' b' c' : Nat} (h0' : (a' = b')) (h1' : (((1 : Nat) ≤ c') ∧ (c' < b'))) : ((b' - c') < b') := by omega
theorem om197 {a' b' c' d' : Nat} (h0' : (a' = b')) (h1' : (b' ≤ (c' + (1 : Nat)))) (h2' : (((1 : Nat) ≤ d') ∧ (d' < b'))) : ((b' - d') ≤ c') := by lia
theorem om198 {a' b' c' d' : Nat} (h0' : (a' ≤ (500 : Nat))) (h1' : (b' ≤ (901 : Nat))) (h2' : (c' = b')) (h3' : (¬(b' ≤ a'))) (h4' : (((1 : Nat) ≤ d') ∧ (d' < b'))) : ((b' - d') ≤ (901 : Nat)) := by lia
theorem om199 {a' b' c' d' : Nat} (h0' : ((a' + b') ≤ (902 : Nat))) (h1' : (c' = b')) (h2' : (((1 : Nat) ≤ d') ∧ (d' < b'))) : (((a' + ((0 : Nat) + (1 : Nat))) + (b' - d')) ≤ (902 : Nat)) := by lia
theorem om200 {a' : Nat} (h0' : (a' ≤ (902 : Nat))) : (a' ≤ (999 : Nat)) := by exact Nat.le_trans (by assumption) (by decide)
theorem om201 {a' b' : Nat} (h0' : (((a' : Nat) : Int) = ((b' : Nat) : Int))) : (b' = a') := by lia
theorem om202 {a' b' : Nat} (h0' : ((238 : Nat) ≤ a')) (h1' : ((a' + b') = (213 : Nat))) : False := by lia
theorem om203 {a' b' : Nat} (h0' : ((a' + (2 : Nat)) < b')) : (a' < b') := by lia
theorem om204 {a' : Nat} (h0' : ((238 : Nat) ≤ a')) (h1' : ((a' + (2 : Nat)) = (213 : Nat))) : False := by lia
theorem om205 {a' : Nat} (h0' : ((238 : Nat) ≤ a')) (h1' : ((a' + (1 : Nat)) = (213 : Nat))) : False := by lia
theorem om206 {a' : Nat} (h0' : ((238 : Nat) ≤ a')) : ((238 : Nat) ≤ (a' + (2 : Nat))) := by lia
theorem om207 {a' : Nat} : (a' ≤ (a' + (2 : Nat))) := by lia
theorem om208 {a' : Nat} (h0' : ((a' + (3 : Nat)) < (3 : Nat))) : (¬((a' + (3 : Nat)) < (3 : Nat))) := by lia
theorem om209 {a' b' : Nat} (h0' : ((a' + (1 : Nat)) < (b' + (1 : Nat)))) : (a' < b') := by lia
theorem om210 {a' b' : Nat} : ((a' + (b' + (1 : Nat))) = ((a' + (1 : Nat)) + b')) := by lia
theorem om211 {a' b' : Nat} (h0' : (((a' : Nat) : Int) < ((b' : Nat) : Int))) (h1' : ((((((b' : Nat) : Int) - ((a' : Nat) : Int)) - (1 : Int)) / (1 : Int)) = ((((b' : Nat) : Int) - ((a' : Nat) : Int)) - (1 : Int)))) : (((((((b' : Nat) : Int) - ((a' : Nat) : Int)) - (1 : Int)) / (1 : Int)) + (1 : Int)) = (((b' - a') : Nat) : Int)) := by lia
theorem om212 {a' b' : Nat} (h0' : (a' ≤ b')) (h1' : (¬(((a' : Nat) : Int) < ((b' : Nat) : Int)))) : ((0 : Int) = (((b' - a') : Nat) : Int)) := by lia
theorem om213 {a' b' : Nat} (h0' : (a' ≤ b')) (h1' : (((b' : Nat) : Int) < ((a' : Nat) : Int))) : (((((((a' : Nat) : Int) - ((b' : Nat) : Int)) - (1 : Int)) / (1 : Int)) + (1 : Int)) = (0 : Int)) := by omega
theorem om216 {a' : Nat} : (¬(((a' : Nat) : Int) < (0 : Int))) := by lia
theorem om217 {a' b' : Nat} (h0' : ((238 : Nat) ≤ a')) (h1' : (a' < b')) : (b' ≠ (220 : Nat)) := by lia
theorem om221 {a' b' c' d' e' : Nat} (h0' : ((a' + (2 : Nat)) < b')) (h1' : (b' < c')) (h2' : (d' ≤ e')) (h3' : (d' > c')) : (a' < e') := by lia
theorem om222 {a' b' c' d' : Nat} (h0' : (a' < b')) (h1' : (c' ≤ d')) (h2' : (c' > b')) : (a' < d') := by lia
theorem om223 {a' b' c' d' e' : Nat} (h0' : ((a' + (2 : Nat)) < b')) (h1' : (b' < c')) (h2' : (d' ≤ e')) (h3' : (d' > c')) : ((a' + (2 : Nat)) < e') := by lia
theorem om224 {a' b' c' d' e' : Nat} (h0' : ((a' + (2 : Nat)) < b')) (h1' : (b' < c')) (h2' : (d' ≤ e')) (h3' : (d' > c')) : ((a' + (1 : Nat)) < e') := by lia
theorem om225 {a' b' c' d' e' : Nat} (h0' : ((238 : Nat) ≤ a')) (h1' : ((a' + (2 : Nat)) < b')) (h2' : (b' < c')) (h3' : (d' ≤ e')) (h4' : (d' > c')) : ((238 : Nat) ≤ e') := by lia
theorem om226 {a' b' c' d' e' : Nat} (h0' : ((a' + (2 : Nat)) < b')) (h1' : (b' < c')) (h2' : (d' ≤ e')) (h3' : (d' > c')) : (a' ≤ e') := by lia
theorem om227 {a' b' c' : Nat} (h0' : ((a' + (2 : Nat)) < b')) (h1' : (b' < c')) : (a' ≤ c') := by lia
theorem om228 {a' b' : Nat} (h0' : ((a' + (2 : Nat)) < b')) : (a' ≤ b') := by lia
theorem om229 {a' : Nat} (h0' : (a' ≤ (2000 : Nat))) (h1' : ((1 : Int) > ((a' : Nat) : Int))) : ((max a' (1 : Nat)) = (1 : Nat)) := by lia
theorem om230 {a' : Nat} (h0' : (a' ≤ (2000 : Nat))) (h1' : (¬((1 : Int) > ((a' : Nat) : Int)))) : ((max a' (1 : Nat)) = a') := by lia
theorem om231 {a' : Nat} (h0' : (a' ≤ (2000 : Nat))) : ((max a' (1 : Nat)) ≤ (100000 : Nat)) := by lia
theorem om232 {a' b' c' d' e' : Nat} (h0' : (a' < (b' - (max c' (1 : Nat))))) (h1' : (d' = ((max c' (1 : Nat)) + a'))) (h2' : (e' = b')) : (d' < e') := by lia
theorem om233 {a' b' c' : Nat} (h0' : (a' ≤ (1000 : Nat))) (h1' : (b' = a')) (h2' : (c' < b')) : ((c' - (1 : Nat)) < b') := by omega
theorem om234 {a' b' c' : Nat} (h0' : (a' = ((max b' (1 : Nat)) + c'))) : (((((max b' (1 : Nat)) : Nat) : Int) + (((c' : Nat) : Int) * (1 : Int))) = ((a' : Nat) : Int)) := by lia
theorem om235 {a' b' c' : Nat} (h0' : (a' ≤ (2000 : Nat))) (h1' : (b' = ((max a' (1 : Nat)) + c'))) : ((((b' : Nat) : Int) - (1 : Int)) = (((b' - (1 : Nat)) : Nat) : Int)) := by lia
theorem om236 {a' b' c' d' : Nat} (h0' : (a' = ((max b' (1 : Nat)) + c'))) (h1' : (d' < (c' + (1 : Nat)))) (h2' : (d' ≥ c')) : (((max b' (1 : Nat)) + d') = a') := by lia
theorem om237 {a' b' : Nat} : (a' < (a' + (b' + (1 : Nat)))) := by lia
theorem om238 {a' b' c' : Nat} (h0' : (a' < ((b' + (1 : Nat)) + c'))) : (a' < (b' + (c' + (1 : Nat)))) := by lia
theorem om239 {a' b' : Nat} (h0' : (a' ≤ b')) (h1' : (a' ≥ b')) : (b' = a') := by lia
theorem om240 {a' b' c' : Nat} (h0' : (a' < (b' + (c' + (1 : Nat))))) : (a' < ((b' + (1 : Nat)) + c')) := by lia
theorem om241 {a' b' : Nat} : (a' ≤ (a' + b')) := by lia
theorem om242 {a' b' c' : Nat} (h0' : (a' ≤ b')) (h1' : (c' < (a' + (b' - a')))) : (c' < b') := by lia
theorem om243 {a' b' : Nat} (h0' : (a' ≤ b')) : ((a' + (b' - a')) = b') := by lia
theorem om244 {a' b' c' : Nat} (h0' : (a' ≤ (1000 : Nat))) (h1' : (b' = a')) (h2' : (((1 : Nat) ≤ c') ∧ (c' < b'))) : ((max (0 : Nat) (1 : Nat)) ≤ c') := by lia
theorem om245 {a' b' : Nat} (h0' : (((1 : Nat) ≤ a') ∧ (a' < b'))) : (a' < ((max (0 : Nat) (1 : Nat)) + (b' - (max (0 : Nat) (1 : Nat))))) := by omega
theorem om246 {a' b' c' : Nat} (h0' : ((max (0 : Nat) (1 : Nat)) ≤ a')) (h1' : (a' < ((max (0 : Nat) (1 : Nat)) + (b' - (max (0 : Nat) (1 : Nat)))))) (h2' : (((1 : Nat) ≤ c') ∧ (c' < b'))) : ((max (0 : Nat) (1 : Nat)) ≤ c') := by lia
theorem om248 {a' : Nat} : (((a' : Nat) : Int) = (((a' : Nat) : Int) + (0 : Int))) := by lia
theorem om249 {a' : Nat} : ((((a' + (1 : Nat)) : Nat) : Int) = ((((a' : Nat) : Int) + (0 : Int)) + (1 : Int))) := by lia
theorem om250 {a' : Nat} : (((a' : Nat) : Int) ≠ (((a' : Nat) : Int) + (1 : Int))) := by lia
theorem om251 {a' b' c' : Nat} (h0' : (a' ≤ (1000 : Nat))) (h1' : (b' = a')) (h2' : (((1 : Nat) ≤ c') ∧ (c' < b'))) : ((c' + (1 : Nat)) ≤ (2000 : Nat)) := by lia
theorem om252 {a' b' c' : Nat} {d' : Int} (h0' : (a' ≤ (1000 : Nat))) (h1' : (b' = a')) (h2' : (((1 : Nat) ≤ c') ∧ (c' < b'))) (h3' : (((c' : Nat) : Int) < d')) : (c' < (Int.toNat d')) := by lia
theorem om253 {a' b' c' : Nat} (h0' : (((1 : Nat) ≤ a') ∧ (a' < b'))) (h1' : (a' < c')) : ((max (a' + (1 : Nat)) (1 : Nat)) ≤ c') := by lia
theorem om254 {a' b' c' : Nat} (h0' : (((1 : Nat) ≤ a') ∧ (a' < b'))) : (a' < ((max (c' + (1 : Nat)) (1 : Nat)) + (b' - (max (c' + (1 : Nat)) (1 : Nat))))) := by omega
theorem om255 {a' b' c' d' : Nat} (h0' : (a' = b')) (h1' : (((1 : Nat) ≤ c') ∧ (c' < a'))) (h2' : ((max (c' + (1 : Nat)) (1 : Nat)) ≤ d')) (h3' : (((1 : Nat) ≤ d') ∧ (d' < a'))) : ((b' - d') < (b' - c')) := by lia
theorem om256 {a' b' c' : Nat} (h0' : (((1 : Nat) ≤ a') ∧ (a' < b'))) (h1' : ((max (a' + (1 : Nat)) (1 : Nat)) ≤ c')) (h2' : (c' < ((max (a' + (1 : Nat)) (1 : Nat)) + (b' - (max (a' + (1 : Nat)) (1 : Nat)))))) : (a' < c') := by lia
theorem om257 {a' b' c' d' : Nat} (h0' : (((1 : Nat) ≤ a') ∧ (a' < b'))) (h1' : ((max (a' + (1 : Nat)) (1 : Nat)) ≤ c')) (h2' : (c' < ((max (a' + (1 : Nat)) (1 : Nat)) + (b' - (max (a' + (1 : Nat)) (1 : Nat)))))) (h3' : (a' < d')) : ((max (a' + (1 : Nat)) (1 : Nat)) ≤ d') := by lia
theorem om258 {b' c' : Nat} {a' : Int} (h0' : (((Int.toNat a') ≤ b') ∧ (b' < c'))) (h1' : (((b' : Nat) : Int) < a')) : False := by lia
theorem om259 {a' b' d' : Nat} {c' : Int} (h0' : (((1 : Nat) ≤ a') ∧ (a' < b'))) (h1' : (¬(((a' : Nat) : Int) < c'))) (h2' : ((a' ≤ d') ∧ (d' < (Int.toNat c')))) : False := by lia
theorem om260 {a' b' : Nat} (h0' : (a' ≤ b')) : (((a' : Nat) : Int) ≤ ((b' : Nat) : Int)) := by lia
theorem om261 {a' b' c' : Nat} (h0' : (a' ≤ b')) (h1' : (b' = c')) : (((a' : Nat) : Int) ≤ ((c' : Nat) : Int)) := by lia
theorem om262 {a' b' c' : Nat} (h0' : (a' ≤ b')) (h1' : (b' = c')) : ((b' - (Int.toNat ((a' : Nat) : Int))) ≤ (Int.toNat (((c' : Nat) : Int) - ((a' : Nat) : Int)))) := by omega
theorem om263 {a' b' c' : Nat} (h0' : (a' ≤ ((2 : Nat) * b'))) (h1' : (c' ≤ (2 : Nat))) : ((c' + a') ≤ ((2 : Nat) * (b' + (1 : Nat)))) := by lia
theorem om264 {a' : Nat} : (((min (5 : Nat) a') + ((((((((((((((0 : Nat) + (1 : Nat)) + (1 : Nat)) + (1 : Nat)) + (1 : Nat)) + (1 : Nat)) + (1 : Nat)) + (1 : Nat)) + (1 : Nat)) + (1 : Nat)) + (1 : Nat)) + (1 : Nat)) + (1 : Nat)) + (1 : Nat))) ≤ (18 : Nat)) := by lia
theorem om265 {a' b' : Nat} (h0' : (a' ≤ ((2 : Nat) * b'))) (h1' : (b' ≤ (18 : Nat))) : ((a' + ((0 : Nat) + (1 : Nat))) ≤ (37 : Nat)) := by lia
theorem om266 {a' : Nat} (h0' : ((5 : Nat) ≤ a')) : ((5 : Int) ≤ ((a' : Nat) : Int)) := by lia
theorem om267 {a' b' : Nat} (h0' : (¬((5 : Nat) ≤ a'))) (h1' : (b' = a')) : (¬(((a' : Nat) : Int) < (0 : Int))) := by lia
theorem om268 {a' b' : Nat} (h0' : (¬((5 : Nat) ≤ a'))) (h1' : (b' = a')) : ((min (5 : Int) ((a' : Nat) : Int)) = ((a' : Nat) : Int)) := by lia
theorem om269 {a' b' : Nat} (h0' : (a' = b')) (h1' : ((min (5 : Int) ((b' : Nat) : Int)) = ((b' : Nat) : Int))) : ((min ((b' : Nat) : Int) ((b' : Nat) : Int)) = ((b' : Nat) : Int)) := by lia
theorem om270 {a' b' : Nat} (h0' : (¬((5 : Nat) ≤ a'))) (h1' : (b' = a')) : (a' ≤ (5 : Nat)) := by lia
theorem om271 {a' : Nat} : (((a' : Nat) : Int) ≤ ((a' : Nat) : Int)) := by lia
theorem om272 {a' : Nat} (h0' : (((((((((a' + (1 : Nat)) + (1 : Nat)) + (1 : Nat)) + (1 : Nat)) + (1 : Nat)) + (1 : Nat)) + (1 : Nat)) + (1 : Nat)) < (8 : Nat))) : False := by lia
theorem om273 {a' : Nat} (h0' : ((238 : Nat) ≤ a')) (h1' : ((213 : Nat) = (a' + (1 : Nat)))) : False := by lia
theorem om274 {a' : Nat} (h0' : ((238 : Nat) ≤ a')) (h1' : ((220 : Nat) = (a' + (1 : Nat)))) : False := by lia
theorem om275 {a' : Nat} (h0' : (a' ≤ (63 : Nat))) : (a' ≤ (1000 : Nat)) := by exact Nat.le_trans (by assumption) (by decide)
theorem om276 {a' : Nat} (h0' : (a' ≤ (63 : Nat))) : (((min (5 : Nat) a') + ((((((((((((((0 : Nat) + (1 : Nat)) + (1 : Nat)) + (1 : Nat)) + (1 : Nat)) + (1 : Nat)) + (1 : Nat)) + (1 : Nat)) + (1 : Nat)) + (1 : Nat)) + (1 : Nat)) + (1 : Nat)) + (1 : Nat)) + (1 : Nat))) ≤ (18 : Nat)) := by lia
theorem om277 {a' b' : Nat} (h0' : (a' = b')) (h1' : (b' ≤ (18 : Nat))) : (a' ≤ (1000 : Nat)) := by lia
theorem om278 {a' : Int} (h0' : (((0 : Int) ≤ a') ∧ (a' < (8 : Int)))) : ((Int.toNat a') < (8 : Nat)) := by lia
theorem om280 {a' b' c' : Nat} (h0' : (a' = b')) (h1' : (a' ≤ c')) : (b' ≤ c') := by lia
theorem om281 {a' b' c' d' : Nat} (h0' : (a' ≤ ((2 : Nat) * b'))) (h1' : (c' ≤ (2 : Nat))) (h2' : (d' = c')) : ((d' + a') ≤ ((2 : Nat) * (b' + (1 : Nat)))) := by lia
theorem om282 {a' b' : Nat} (h0' : (a' ≤ (18 : Nat))) (h1' : (b' ≤ ((2 : Nat) * a'))) : ((b' + (a' * (0 : Nat))) ≤ (1000 : Nat)) := by lia
theorem om283 {a' : Int} (h0' : ((0 : Int) ≤ a')) (h1' : (a' < (7 : Int))) : (((2 : Int) + a') = (((Int.toNat ((2 : Int) + a')) : Nat) : Int)) := by lia
theorem om284 {a' : Int} (h0' : ((0 : Int) ≤ a')) (h1' : (a' < (7 : Int))) : ((2 : Nat) ≤ (Int.toNat ((2 : Int) + a'))) := by lia
theorem om285 {a' : Int} (h0' : ((0 : Int) ≤ a')) (h1' : (a' < (7 : Int))) : ((Int.toNat ((2 : Int) + a')) ≤ (8 : Nat)) := by lia
theorem om286 {a' : Int} (h0' : ((0 : Int) ≤ a')) (h1' : (a' < (3 : Int))) : ((a' = (0 : Int)) ∨ ((a' = (1 : Int)) ∨ (a' = (2 : Int)))) := by lia
theorem om289 {a' : Int} (h0' : ((0 : Int) ≤ a')) (h1' : (a' < (4 : Int))) : (a' = (((Int.toNat a') : Nat) : Int)) := by lia
theorem om290 {a' : Int} (h0' : ((0 : Int) ≤ a')) (h1' : (a' < (4 : Int))) : ((Int.toNat a') ≤ (3 : Nat)) := by lia
theorem om291 {a' : Nat} (h0' : (a' ≤ (3 : Nat))) : (((0 : Int) ≤ ((a' : Nat) : Int)) ∧ (((a' : Nat) : Int) ≤ (1000 : Int))) := by lia
theorem om292 {a' : Nat} (h0' : (a' ≤ (37 : Nat))) : (a' ≤ (250 : Nat)) := by exact Nat.le_trans (by assumption) (by decide)
theorem om293 {a' : Int} (h0' : ((0 : Int) ≤ a')) (h1' : (a' ≤ (3 : Int))) : (((0 : Int) ≤ a') ∧ (a' ≤ (1000 : Int))) := by lia
theorem om294 {a' : Int} (h0' : (a' ≤ (1000 : Int))) : (a' ≤ (100000 : Int)) := by lia
theorem om295 {a' : Nat} (h0' : (a' ≤ (100 : Nat))) : (a' ≤ (1000 : Nat)) := by exact Nat.le_trans (by assumption) (by decide)
theorem om296 {a' : Int} (h0' : ((0 : Int) ≤ a')) (h1' : (a' < (2 : Int))) : ((a' = (0 : Int)) ∨ (a' = (1 : Int))) := by lia
theorem om297 {a' : Nat} (h0' : (a' ≤ (37 : Nat))) : (a' ≤ (900 : Nat)) := by exact Nat.le_trans (by assumption) (by decide)
theorem om298 {a' : Nat} (h0' : ((2 : Nat) ≤ a')) (h1' : (a' ≤ (8 : Nat))) : (a' ≤ (500 : Nat)) := by exact Nat.le_trans (by assumption) (by decide)
theorem om299 {a' : Nat} (h0' : (a' ≤ (3 : Nat))) : (a' ≤ (500 : Nat)) := by exact Nat.le_trans (by assumption) (by decide)
theorem om300 {a' b' c' : Nat} (h0' : (a' ≤ (63 : Nat))) (h1' : (b' ≤ c')) (h2' : (c' = a')) : ((b' + (13 : Nat)) ≤ (1000 : Nat)) := by lia
theorem om301 {a' b' c' d' : Nat} (h0' : (a' = (b' + c'))) : ((d' + a') ≤ (((d' + b') + c') + (1 : Nat))) := by lia
theorem om302 {a' b' c' d' e' : Nat} (h0' : ((a' + b') = (c' + d'))) : (((e' + a') + b') ≤ (((e' + c') + d') + (1 : Nat))) := by lia
theorem om303 {a' b' c' : Nat} : (((a' + b') + (c' + (1 : Nat))) ≤ (((a' + b') + c') + (1 : Nat))) := by exact Nat.lt_succ_self _
theorem om304 {a' b' c' : Nat} (h0' : (a' ≤ (b' - (1 : Nat)))) (h1' : (b' = (c' + (1 : Nat)))) : (a' ≤ c') := by lia
theorem om305 {a' b' c' d' e' f' g' h' i' j' k' : Nat} (h0' : ((a' + b') ≤ (((c' + d') + e') + (1 : Nat)))) (h1' : ((f' + g') ≤ (((a' + b') + h') + i'))) (h2' : (j' = (e' + h'))) (h3' : (k' = (i' + (1 : Nat)))) : ((f' + g') ≤ (((c' + d') + j') + k')) := by lia
theorem om306 {a' b' c' d' e' : Nat} (h0' : (a' ≤ (b' + (1 : Nat)))) (h1' : (c' ≤ (a' + d'))) (h2' : (e' = (d' + (1 : Nat)))) : (c' ≤ (b' + e')) := by lia
theorem om309 {a' : Nat} {b' c' : Int} (h0' : ((1 : Nat) ≤ a')) (h1' : (b' = ((a' : Nat) : Int))) (h2' : (((0 : Int) ≤ c') ∧ (c' ≤ (3 : Int)))) : ((0 : Int) < (c' + b')) := by lia
theorem om310 {a' b' c' : Nat} (h0' : (a' ≤ (37 : Nat))) (h1' : (b' ≤ ((0 : Nat) + c'))) (h2' : (c' ≤ a')) : (b' ≤ (100 : Nat)) := by lia
theorem om311 {a' b' c' d' e' f' : Nat} {g' : Int} (h0' : (a' ≤ (37 : Nat))) (h1' : ((b' + c') ≤ (((d' + e') + a') + f'))) (h2' : (f' ≤ a')) (h3' : ((d' + e') = (0 : Nat))) (h4' : (g' = ((c' : Nat) : Int))) : (g' ≤ (1000 : Int)) := by lia
theorem om312 {a' b' : Nat} : (¬(((0 : Nat) < (0 : Nat)) ∧ (a' < ((0 : Nat) + b')))) := by omega
theorem om313 {a' b' c' d' e' f' g' : Nat} {h' : Int} (h0' : (a' ≤ (37 : Nat))) (h1' : ((b' + c') ≤ (((d' + e') + a') + f'))) (h2' : (g' ≤ ((0 : Nat) + f'))) (h3' : (f' ≤ a')) (h4' : ((d' + e') = (0 : Nat))) (h5' : (h' = ((c' : Nat) : Int))) : (((b' + c') + ((g' + ((0 : Nat) + (1 : Nat))) * (1 : Nat))) ≤ (1000 : Nat)) := by lia
theorem om314 {a' b' c' d' e' : Nat} (h0' : (a' < b')) (h1' : ((1 : Nat) ≤ c')) : (d' < (d' + (e' + c'))) := by lia
theorem om315 {a' b' : Nat} (h0' : (a' ≤ b')) (h1' : (a' ≥ b')) : (a' = b') := by lia
theorem om316 {a' b' c' : Nat} (h0' : (((1 : Nat) ≤ a') ∧ (a' < b'))) (h1' : (a' < c')) : ((a' - (1 : Nat)) < c') := by omega
theorem om317 {a' b' : Nat} (h0' : (a' = b')) : (b' ≤ a') := by lia
theorem om318 {a' b' c' : Nat} (h0' : (((1 : Nat) ≤ a') ∧ (a' < b'))) (h1' : (c' < a')) : (c' ≤ (a' - (1 : Nat))) := by omega
theorem om319 {a' b' : Nat} (h0' : (a' < b')) : (((b' - a') - (1 : Nat)) = ((b' - (1 : Nat)) - a')) := by lia
theorem om320 {a' b' c' : Nat} (h0' : (a' < b')) (h1' : ((b' - a') = c')) : (b' = (a' + c')) := by lia
theorem om321 {a' b' : Nat} (h0' : ((1 : Nat) ≤ a')) (h1' : (a' < b')) : ((a' - (1 : Nat)) < b') := by omega
theorem om322 {a' : Nat} (h0' : ((1 : Nat) ≤ a')) : (((a' - (1 : Nat)) + (1 : Nat)) = a') := by lia
theorem om323 {a' b' : Nat} (h0' : ((1 : Nat) ≤ a')) (h1' : (a' < b')) : (((min (a' - (1 : Nat)) b') + (1 : Nat)) = a') := by lia
theorem om324 {a' b' c' : Nat} : ((a' + (b' + c')) = ((a' + b') + c')) := by lia
theorem om325 {a' b' c' : Nat} (h0' : ((1 : Nat) ≤ a')) : ((b' + c') ≤ ((b' + c') + a')) := by lia
theorem om326 {a' b' c' : Nat} (h0' : ((1 : Nat) ≤ a')) : (a' ≤ (((b' + c') + a') - (b' + c'))) := by lia
theorem om327 {a' b' c' : Nat} : (((((a' + b') + c') - (a' + b')) - c') = (0 : Nat)) := by lia
theorem om328 {a' b' c' d' : Nat} (h0' : ((1 : Nat) ≤ a')) : (((((b' + c') + d') - (b' + c')) - d') < a') := by lia
theorem om329 {a' b' c' d' : Nat} (h0' : (a' = ((b' + c') + d'))) (h1' : ((1 : Nat) ≤ d')) : ((b' + c') ≤ (((b' + c') + d') - (1 : Nat))) := by lia
theorem om330 {a' b' c' : Nat} (h0' : ((1 : Nat) ≤ a')) : (((((b' + c') + a') - (1 : Nat)) - (b' + c')) < a') := by omega
theorem om331 {a' b' c' : Nat} (h0' : ((1 : Nat) ≤ a')) : (((((b' + c') + a') - (1 : Nat)) - (b' + c')) = (a' - (1 : Nat))) := by lia
theorem om332 {a' b' : Nat} : ((((32 : Nat) = a') ∨ ((32 : Nat) = b')) ↔ ((a' = (32 : Nat)) ∨ (b' = (32 : Nat)))) := by lia
theorem om333 {a' b' : Nat} : ((((9 : Nat) = a') ∨ ((9 : Nat) = b')) ↔ ((a' = (9 : Nat)) ∨ (b' = (9 : Nat)))) := by lia
theorem om335 {a' b' : Nat} (h0' : (a' ≤ (b' + (1 : Nat)))) (h1' : (b' < a')) : (a' = (b' + (1 : Nat))) := by lia
theorem om336 {a' b' : Nat} (h0' : (a' < b')) : ((a' - (1 : Nat)) < b') := by omega
theorem om337 {a' b' : Nat} (h0' : ((1 : Nat) ≤ a')) : ((b' + (a' - (1 : Nat))) = ((b' + a') - (1 : Nat))) := by lia
theorem om338 {a' : Nat} : ((a' + (1 : Nat)) = ((1 : Nat) + a')) := by lia
theorem om339 {a' b' : Nat} (h0' : (a' < b')) (h1' : (b' ≤ a')) : False := by lia
theorem om340 {a' b' : Nat} (h0' : (((1 : Nat) ≤ a') ∧ (a' < b'))) : ((a' - (1 : Nat)) < (b' - (1 : Nat))) := by omega
theorem om341 {a' b' : Nat} (h0' : (((1 : Nat) ≤ a') ∧ (a' < b'))) : (((1 : Nat) + (a' - (1 : Nat))) = a') := by lia
theorem om342 {a' b' c' d' : Nat} (h0' : (((1 : Nat) ≤ a') ∧ (a' < b'))) (h1' : (c' < (a' - (1 : Nat)))) (h2' : (((1 : Nat) + c') = d')) (h3' : (a' ≤ d')) : False := by omega
theorem om343 {a' b' c' : Nat} (h0' : (a' < b')) (h1' : (b' ≤ c')) : ((a' + (1 : Nat)) ≤ c') := by lia
theorem om344 {a' b' c' : Nat} (h0' : (¬((a' + b') ≤ c'))) : (¬((((a' : Nat) : Int) + ((b' : Nat) : Int)) ≤ ((c' : Nat) : Int))) := by lia
theorem om345 {a' b' : Nat} (h0' : (¬(a' ≤ b'))) : (¬(((0 : Int) + ((a' : Nat) : Int)) ≤ ((b' : Nat) : Int))) := by lia
theorem om346 {a' : Nat} (h0' : ((0 : Nat) < a')) : ((0 : Int) < ((a' : Nat) : Int)) := by lia
theorem om347 {a' b' : Nat} (h0' : (a' ≤ b')) : (((0 : Nat) + a') ≤ b') := by lia
theorem om348 {a' b' : Nat} (h0' : (a' < b')) : (a' ≤ (b' - (1 : Nat))) := by omega
theorem om349 {a' b' : Nat} (h0' : (¬(a' ≤ b'))) : (¬(((0 : Nat) + a') ≤ b')) := by lia
theorem om350 {a' b' c' d' : Nat} (h0' : (a' ≤ (b' - (1 : Nat)))) (h1' : (b' = (c' + (1 : Nat)))) : (a' < ((c' + (1 : Nat)) + d')) := by lia
theorem om351 {a' b' c' d' : Nat} (h0' : (a' ≤ b')) (h1' : (¬(c' ≤ d'))) (h2' : (c' ≤ a')) : (b' = ((b' - (1 : Nat)) + (1 : Nat))) := by lia
theorem om352 {a' b' c' : Nat} (h0' : (a' ≤ (b' - (1 : Nat)))) (h1' : (b' = (c' + (1 : Nat)))) : (a' ≤ b') := by lia
theorem om353 {a' b' : Nat} : ((a' + (1 : Nat)) ≤ ((a' + (1 : Nat)) + b')) := by lia
theorem om354 {a' b' : Nat} (h0' : (a' = (b' + (1 : Nat)))) : (b' ≤ a') := by lia
theorem om355 {a' b' : Nat} (h0' : (a' = (b' + (1 : Nat)))) : ((b' + (1 : Nat)) ≤ a') := by lia
theorem om356 {a' b' c' : Nat} (h0' : (a' ≤ (b' - (1 : Nat)))) (h1' : (b' = (c' + (1 : Nat)))) : (a' < b') := by lia
theorem om357 {a' b' c' d' : Nat} (h0' : (¬(a' ≤ b'))) (h1' : (a' ≤ c')) (h2' : (d' = a')) : (b' < c') := by lia
theorem om358 {a' b' c' d' : Nat} (h0' : (a' = b')) (h1' : (b' ≤ c')) (h2' : (d' ≤ a')) : (d' ≤ c') := by lia
theorem om359 {a' b' c' d' : Nat} (h0' : (¬(a' ≤ b'))) (h1' : (c' = a')) (h2' : (c' ≤ d')) : ((b' + (1 : Nat)) ≤ d') := by lia
theorem om360 {a' b' c' : Nat} (h0' : (a' = (b' + (1 : Nat)))) (h1' : (b' ≥ c')) : (c' < a') := by lia
theorem om361 {a' b' c' : Nat} (h0' : (a' = (b' + (1 : Nat)))) (h1' : (b' ≥ c')) : (c' ≤ (a' - (1 : Nat))) := by lia
theorem om362 {a' b' c' : Nat} (h0' : (a' ≤ (b' - (1 : Nat)))) (h1' : (b' = (c' + (1 : Nat)))) (h2' : (a' ≥ c')) : (a' = c') := by lia
theorem om363 {a' b' c' : Nat} (h0' : (a' = b')) (h1' : (¬(b' ≤ c'))) : (c' < a') := by lia
theorem om364 {a' b' c' : Nat} (h0' : (a' = (b' + (1 : Nat)))) (h1' : (c' < b')) : (c' < a') := by lia
theorem om365 {a' b' : Nat} (h0' : ((1 : Nat) ≤ a')) : (b' < (b' + a')) := by lia
theorem om366 {a' b' c' d' : Nat} (h0' : (a' = (b' + (1 : Nat)))) (h1' : ((1 : Nat) ≤ c')) (h2' : (c' < (a' - d'))) : ((d' + c') ≤ (a' - (1 : Nat))) := by omega
theorem om367 {a' b' c' : Nat} (h0' : (a' ≤ (b' + (1 : Nat)))) (h1' : ((1 : Nat) ≤ c')) : ((a' - c') ≤ b') := by lia
theorem om368 {a' b' c' : Nat} (h0' : ((a' + b') ≤ c')) : (¬(((0 : Nat) < a') ∧ (c' < (a' + b')))) := by lia
theorem om369 {a' b' c' : Nat} (h0' : ((0 : Nat) < a')) (h1' : ((a' + b') ≤ c')) : (b' ≤ c') := by lia
theorem om370 {a' b' c' d' e' : Nat} (h0' : (a' = b')) (h1' : (¬((c' + b') ≤ d'))) (h2' : (a' ≤ e')) : (((d' + (1 : Nat)) - c') ≤ e') := by omega
theorem om371 {a' b' c' d' e' : Nat} (h0' : (a' ≤ b')) (h1' : (c' = a')) (h2' : (¬((d' + a') ≤ e'))) : (e' < (d' + b')) := by lia
theorem om372 {a' b' c' d' : Nat} (h0' : (a' = (b' + (1 : Nat)))) (h1' : (c' ≤ (a' - (1 : Nat)))) : (c' < ((b' + (1 : Nat)) + d')) := by lia
theorem om373 {a' : Nat} (h0' : ((1 : Nat) ≤ a')) (h1' : (a' = (0 : Nat))) : False := by lia
theorem om374 {a' b' c' : Nat} (h0' : (a' = (b' + (1 : Nat)))) (h1' : (c' ≤ (a' - (1 : Nat)))) : (c' ≤ a') := by lia
theorem om375 {a' b' c' : Nat} (h0' : (a' = (b' + (1 : Nat)))) (h1' : (c' ≤ (a' - (1 : Nat)))) : (c' < a') := by omega
theorem om376 {a' b' c' : Nat} (h0' : (a' = (b' + (1 : Nat)))) (h1' : (c' ≤ (a' - (1 : Nat)))) : (c' ≤ b') := by lia
theorem om377 {a' b' c' d' e' : Nat} (h0' : (a' = b')) (h1' : ((c' + b') ≤ d')) (h2' : (e' ≤ a')) : (e' < ((d' + (1 : Nat)) - c')) := by omega
theorem om378 {a' b' c' : Nat} (h0' : (a' = b')) : ((c' - b') ≤ (c' + (1 : Nat))) := by lia
theorem om379 {a' : Nat} (h0' : ((1 : Nat) ≤ a')) : (((1 : Nat) + (a' - (1 : Nat))) = a') := by lia
theorem om380 {a' b' : Nat} : (a' < ((a' + (1 : Nat)) + b')) := by lia
theorem om381 {a' b' c' d' : Nat} (h0' : (a' = b')) (h1' : ((c' + b') ≤ d')) : (a' < ((d' + (1 : Nat)) - c')) := by omega
theorem om384 {a' : Nat} (h0' : ((1 : Nat) ≤ a')) (h1' : (a' = (0 : Nat))) : False := by lia
theorem om385 {a' : Nat} (h0' : (a' ≤ (4 : Nat))) : ((4 : Nat) = (a' + ((4 : Nat) - a'))) := by omega
theorem om386 {a' : Nat} (h0' : ((4 : Nat) ≤ a')) : (a' = ((4 : Nat) + (a' - (4 : Nat)))) := by omega
theorem om387 {a' : Nat} (h0' : ((4 : Nat) ≥ a')) : ((4 : Nat) = (a' + ((4 : Nat) - a'))) := by omega
theorem om388 {a' : Nat} (h0' : ((4 : Nat) < a')) : (((4 : Nat) + (a' - (4 : Nat))) = a') := by lia
theorem om389 {a' b' : Nat} (h0' : ((1 : Nat) ≤ (a' + (1 : Nat)))) (h1' : (b' ≤ ((4 : Nat) * (a' + (1 : Nat))))) (h2' : ((4 : Nat) < b')) : ((1 : Nat) ≤ a') := by lia
theorem om390 {a' b' : Nat} (h0' : (a' ≤ ((4 : Nat) * (b' + (1 : Nat))))) (h1' : ((4 : Nat) < a')) : ((a' - (4 : Nat)) ≤ ((4 : Nat) * b')) := by lia
theorem om391 : ((4 : Nat) ≤ (((3 : Nat) * (0 : Nat)) + (7 : Nat))) := by decide
theorem om392 {a' b' c' : Nat} (h0' : ((a' + (b' + (1 : Nat))) = c')) : (a' < c') := by lia
theorem om393 {a' : Nat} : ((7 : Nat) ≤ (((3 : Nat) * (a' + (1 : Nat))) + (7 : Nat))) := by lia
theorem om394 {a' b' c' : Nat} (h0' : ((a' + (b' + (1 : Nat))) = c')) : (((a' + (1 : Nat)) + b') = c') := by lia
theorem om395 {a' b' : Nat} (h0' : (a' ≤ (((3 : Nat) * b') + (7 : Nat)))) : (((3 : Nat) + a') ≤ (((3 : Nat) * (b' + (1 : Nat))) + (7 : Nat))) := by lia
theorem om396 {a' b' : Nat} (h0' : (a' < b')) : ((a' ≤ b') ∧ (¬((b' - a') = (0 : Nat)))) := by lia
theorem om397 {a' b' : Nat} (h0' : (a' ≤ b')) : ((a' < b') ∨ ((a' - b') = (0 : Nat))) := by lia
theorem om398 {a' b' : Nat} (h0' : (a' < b')) : ((a' + (b' - a')) = b') := by lia
theorem om401 {a' b' : Nat} (h0' : (a' ≥ b')) : ((b' - a') = (0 : Nat)) := by lia
theorem om402 {a' b' c' : Nat} (h0' : (a' < b')) : (c' ≤ (c' + a')) := by lia
theorem om403 {a' b' c' d' e' : Nat} (h0' : (a' < b')) (h1' : (a' < (min (c' - d') (e' - d')))) : ((d' + a') < c') := by lia
theorem om404 {a' b' : Nat} (h0' : (a' ≤ b')) : (b' = (a' + (b' - a'))) := by lia
theorem om405 {a' : Nat} (h0' : (a' < (0 : Nat))) : (¬(a' < (0 : Nat))) := by lia
theorem om406 {a' b' c' : Nat} (h0' : (a' ≤ (1000000 : Nat))) (h1' : (b' ≤ c')) : ((min (4294967295 : Nat) (a' - c')) = (a' - c')) := by lia
theorem om407 {a' b' : Nat} (h0' : (a' = b')) (h1' : ((0 : Nat) ≥ a')) : (a' = (0 : Nat)) := by lia
theorem om408 {a' b' c' : Nat} (h0' : (a' = b')) (h1' : ((1 : Nat) ≤ a')) : (c' < (c' + a')) := by lia
theorem om409 {a' b' c' : Nat} (h0' : (a' = b')) (h1' : ((1 : Nat) ≤ a')) : (c' ≤ (c' + a')) := by lia
theorem om410 {a' b' c' d' : Nat} (h0' : (a' = b')) (h1' : (a' ≤ (c' - d'))) (h2' : ((1 : Nat) ≤ a')) (h3' : ((min ((d' + a') - d') (c' - d')) = (0 : Nat))) : False := by lia
theorem om411 {a' b' c' d' : Nat} (h0' : (a' < b')) (h1' : (a' < (c' - d'))) : ((d' + a') < (d' + (c' - d'))) := by lia
theorem om412 {a' b' c' d' : Nat} (h0' : (a' ≤ (1000000 : Nat))) (h1' : ((1000000 : Nat) ≤ b')) : ((min (c' - d') (a' - d')) ≤ b') := by lia
theorem om413 {a' : Nat} : ((2 : Nat) ≤ ((2 : Nat) * (a' + (1 : Nat)))) := by lia
theorem om414 {a' b' : Nat} (h0' : (((a' + (1 : Nat)) + (1 : Nat)) ≤ (((2 : Nat) * b') + (1 : Nat)))) : (((a' + (1 : Nat)) + (1 : Nat)) ≤ (((2 : Nat) * (b' + (1 : Nat))) + (1 : Nat))) := by lia
theorem om415 {a' b' : Nat} (h0' : (a' ≤ (((2 : Nat) * b') + (1 : Nat)))) : (((a' + (1 : Nat)) + (1 : Nat)) ≤ (((2 : Nat) * (b' + (1 : Nat))) + (1 : Nat))) := by lia
theorem om416 {a' b' : Nat} (h0' : ((a' + (1 : Nat)) ≤ (((2 : Nat) * b') + (1 : Nat)))) : ((a' + (1 : Nat)) ≤ (((2 : Nat) * (b' + (1 : Nat))) + (1 : Nat))) := by lia
theorem om417 {a' b' c' d' : Nat} (h0' : (a' < b')) (h1' : (b' = (c' + d'))) (h2' : (a' = c')) : (¬((c' + d') < c')) := by lia
theorem om418 {a' b' c' d' e' f' g' : Nat} (h0' : (a' ≤ b')) (h1' : (b' < c')) (h2' : (c' = (d' + e'))) (h3' : (b' = d')) (h4' : (f' < ((g' + (1 : Nat)) + a'))) : (f' < (g' + c')) := by lia
theorem om419 {a' b' c' : Nat} (h0' : (a' ≤ (1000000 : Nat))) (h1' : (b' ≤ (((2 : Nat) * a') + (1 : Nat)))) (h2' : (a' ≤ (100000 : Nat))) (h3' : ((1000000 : Nat) ≤ c')) : (b' ≤ c') := by lia
theorem om420 {a' : Nat} (h0' : (a' ≤ (1000000 : Nat))) : (a' < ((((2 : Nat) * a') + (3 : Nat)) + (0 : Nat))) := by lia
end Mine
end

section
open PySem PySem.W PySem.Calls PyProof.Rows
set_option maxRecDepth 100000
set_option maxHeartbeats 8000000
namespace Mine
noncomputable section
noncomputable abbrev tabA : List Addr := [162, 169, 213, 220]
noncomputable abbrev tabG : List Addr := [162, 169]
noncomputable def Hi (a : Addr) : Prop := (238 : Nat) ≤ a ∨ a = 213 ∨ a = 220
noncomputable def KK (w : World) : Frag := (hdz.heap_240 w.params).filter fun p => !(tabA.contains p.1)
theorem kk_low (w : World) : ((KK w).all fun p => Nat.blt p.1 238 && !(tabA.contains p.1)) = true := by kernel_rfl
theorem kk_lt {w : World} {a : Addr} {o : Obj} (h : (KK w).lookup a = some o) : a < (238 : Nat) ∧ a ∉ tabA := by
  have := List.all_eq_true.mp (kk_low w) (a, o) (mem_of_lookupK h)
  rw [Bool.and_eq_true] at this
  refine ⟨Nat.le_of_ble_eq_true this.1, ?_⟩
  have h2 := this.2
  simpa using h2
theorem lookup_filter {K : Frag} {f : Addr → Bool} {a : Addr} {o : Obj} (h : K.lookup a = some o) (hf : f a = true) : (K.filter fun p => f p.1).lookup a = some o := by
  induction K with
  | nil => cases h
  | cons q r ih =>
    obtain ⟨b, x⟩ := q
    rw [List.lookup_cons] at h
    cases hb : a == b with
    | true =>
      rw [hb] at h; cases h
      have : a = b := eq_of_beq hb
      subst this
      rw [List.filter_cons_of_pos (by exact hf), List.lookup_cons, hb]
    | false =>
      rw [hb] at h
      cases hfb : f b with
      | true => rw [List.filter_cons_of_pos (by exact hfb), List.lookup_cons, hb]; exact ih h
      | false => rw [List.filter_cons_of_neg (by simp [hfb])]; exact ih h
theorem kk_of {w : World} {a : Addr} {o : Obj} (h : (hdz.heap_240 w.params).lookup a = some o) (ha : (!(tabA.contains a)) = true) : (KK w).lookup a = some o := lookup_filter (f := fun b => !(tabA.contains b)) h ha

structure Gd (w : World) (h : Heap) : Prop where
  X : (KK w).In h
  T : ∃ p loose mg mb, TopRead p loose mg mb h
theorem Gd.low {w : World} {h h' : Heap} (G : Gd w h) (k : ∀ b o, b < (238 : Nat) → b ∉ tabA → h.get? b = some o → h'.get? b = some o) : Gd w h' := by
  obtain ⟨X, p, loose, mg, mb, T⟩ := G
  refine ⟨fun a o e => k a o (kk_lt e).1 (kk_lt e).2 (X a o e), p, loose, mg, mb, ?_⟩
  obtain ⟨tg, tb, ⟨mc, tl1, tl2⟩, t1, t2⟩ := T
  exact ⟨tg.at' fun o e => k _ o (by decide) (by decide) e, tb.at' fun o e => k _ o (by decide) (by decide) e, ⟨mc, tl1.at' fun o e => k _ o (by decide) (by decide) e, tl2⟩, t1, t2⟩
theorem Gd.keeps {w : World} {h h' : Heap} (G : Gd w h) (k : ∀ b o, h.get? b = some o → h'.get? b = some o) : Gd w h' := G.low fun b o _ _ e => k b o e
theorem Gd.lim {w : World} {h : Heap} (G : Gd w h) : h.NoLimit := let ⟨_, _, _, _, _, T⟩ := G; T.nolimit
theorem Gd.look {w : World} {h : Heap} {a : Addr} {o : Obj} (G : Gd w h) (e : (hdz.heap_240 w.params).lookup a = some o) (ha : (!(tabA.contains a)) = true) : h.get? a = some o := G.X _ _ (kk_of e ha)

noncomputable def Tabs (h : Heap) : Prop := ∀ P ∈ tabG, ∃ ps : Array Value, h.get? P = some (tabObj ps) ∧ TriplesOk ps.toList
theorem Tabs.keeps {h h' : Heap} (t : Tabs h) (k : ∀ b o, b ∈ tabG → h.get? b = some o → h'.get? b = some o) : Tabs h' := fun P hP => let ⟨ps, e, o⟩ := t P hP; ⟨ps, k P _ hP e, o⟩

structure Ok (w : World) (s : Shared) : Prop where
  gd : Gd w s.heap
  tabs : Tabs s.heap
  bare : AllBare s.gens
structure St (ws : List Addr) (s s' : Shared) : Prop where
  keep : ∀ b o, b ∉ ws → b ∉ tabG → s.heap.get? b = some o → s'.heap.get? b = some o
  grow : s.heap.objs.size ≤ s'.heap.objs.size
  os : s'.os = s.os
theorem St.trans {ws ws' : List Addr} {s s' s'' : Shared} (a : St ws s s') (b : St ws' s' s'') : St (ws ++ ws') s s'' :=
  ⟨fun x o hx ht e => b.keep x o (fun h => hx (List.mem_append_right _ h)) ht (a.keep x o (fun h => hx (List.mem_append_left _ h)) ht e), Nat.le_trans a.grow b.grow, b.os.trans a.os⟩
theorem St.sub {ws ws' : List Addr} {s s' : Shared} (a : St ws s s') (h : ∀ x ∈ ws, x ∈ ws') : St ws' s s' := ⟨fun x o hx => a.keep x o fun q => hx (h x q), a.grow, a.os⟩

structure Bg (w : World) (g : Heap) (ws : List Addr) (s : Shared) : Prop where
  gd : Gd w g
  tab : ∀ P ∈ tabG, g.get? P = none
  own : ∀ a ∈ ws, g.get? a = none
  all : ∀ b o, b ∉ ws → b ∉ tabG → s.heap.get? b = some o → g.get? b = some o
  of_ : ∀ b o, g.get? b = some o → s.heap.get? b = some o

theorem not_tab {a : Addr} (h : (238 : Nat) ≤ a) : a ∉ tabG := by
  intro q
  simp only [tabG, List.mem_cons, List.not_mem_nil, or_false] at q
  rcases q with rfl | rfl <;> exact absurd h (by decide)
theorem Hi.not_tab {a : Addr} (h : Hi a) : a ∉ tabG := by
  rcases h with h | rfl | rfl
  · exact Mine.not_tab h
  · decide
  · decide
theorem tabG_sub {a : Addr} (h : a ∉ tabA) : a ∉ tabG := fun q => h (by
  simp only [tabG, tabA, List.mem_cons, List.not_mem_nil, or_false] at q ⊢
  rcases q with rfl | rfl
  · exact .inl rfl
  · exact .inr (.inl rfl))
theorem Hi.free {a : Addr} (h : Hi a) (h1 : a < (238 : Nat)) (h2 : a ∉ tabA) : False := by
  rcases h with h | rfl | rfl
  · exact absurd h1 (Nat.not_lt.mpr h)
  · exact h2 (by decide)
  · exact h2 (by decide)

theorem base_ofH {w : World} {s : Shared} {own : List (Addr × Obj)} (G : Gd w s.heap) (hown : ∀ p ∈ own, Hi p.1 ∧ s.heap.get? p.1 = some p.2) :
    Bg w (hideAll s.heap (own.map (·.1) ++ tabG)) (own.map (·.1)) s ∧ (238 : Nat) ≤ s.heap.objs.size := by
  have hnn : ∀ b o, b ∉ own.map (·.1) → b ∉ tabG → s.heap.get? b = some o → (hideAll s.heap (own.map (·.1) ++ tabG)).get? b = some o := fun b o h1 h2 e =>
    hideAll_get _ e fun q => (List.mem_append.mp q).elim h1 h2
  refine ⟨⟨G.low fun b o hb ht e => hnn b o (fun q => ?_) (tabG_sub ht) e, fun P hP => hideAll_none _ (List.mem_append_right _ hP), fun a ha => hideAll_none _ (List.mem_append_left _ ha), hnn, fun b o e => of_hideAll _ e⟩, ?_⟩
  · obtain ⟨r, hr, e⟩ := List.mem_map.mp q
    exact ((hown r hr).1).free (e ▸ hb) (e ▸ ht)
  · have e : ∃ o, (KK w).lookup 237 = some o := by
      have : ((KK w).lookup 237).isSome = true := by kernel_rfl
      exact Option.isSome_iff_exists.mp this
    obtain ⟨o, e⟩ := e
    exact Heap.lt_size (G.X _ _ e)
theorem base_of {w : World} {s : Shared} {own : List (Addr × Obj)} (G : Gd w s.heap) (hown : ∀ p ∈ own, (238 : Nat) ≤ p.1 ∧ s.heap.get? p.1 = some p.2) :
    Bg w (hideAll s.heap (own.map (·.1) ++ tabG)) (own.map (·.1)) s ∧ (238 : Nat) ≤ s.heap.objs.size := base_ofH G fun p hp => ⟨.inl (hown p hp).1, (hown p hp).2⟩

theorem enter {prog : Program} {w : World} {A : Around} {s : Shared} {E : Value → Shared → Prop} {Q : Value → Shared → Prop}
    {name qual : Str} {params : Arguments} {body : List Stmt} {scope : Scope} {cl : List (Str × Addr)} {dV kV doc pm cdv ct oc : Value} {an od : Option Addr} {osl : Array (Option Value)} {f : Addr} {args : List Value} {binds : List (Str × Value)}
    (own : List (Addr × Obj)) (O : Ok w s) (hroom : A.depth < recursionLimit)
    (hown : ∀ p ∈ own, Hi p.1 ∧ s.heap.get? p.1 = some p.2)
    (ho : (hdz.heap_240 w.params).lookup f = some ⟨oc, od, .func (fnX name qual params body scope cl dV kV doc pm an cdv ct), osl⟩) (hf : (!(tabA.contains f)) = true) (hcd : codeIn (KK w) cdv qual = true)
    (hbind : BindsTo s (fnX name qual params body scope cl dV kV doc pm an cdv ct) ⟨args, []⟩ binds) (hloc : ∀ y ∈ binds, scope.names.lookup y.1 = some .local)
    (hcell : ∀ x ∈ scope.names, x.2 ≠ .cell) (hco : scope.isCoroutine = false) (hgen : scope.isGenerator = false) (hk : scope.kind = .function)
    (h : ∀ g L h₁, Bg w g (own.map (·.1)) s → (238 : Nat) ≤ L → s.heap.objs.size = L → Tabs h₁ → Fr g L h₁ (fun y => binds.reverse.lookup y) → News g L h₁ own →
      wpAny (model prog w) (A.deeper (envX qual scope L f cdv cl)) (execs body (envX qual scope L f cdv cl))
        (fun fl s' => Q (match fl with | .ret v => v | _ => .none) s') (fun _ _ => False) { s with heap := h₁, toks := s.toks + binds.length }) :
    wpAny (model prog w) A (call (.ref f) args) Q E s := by
  obtain ⟨G, tp, bare⟩ := O
  refine wpAny_call (codeAny_call_def (fd := fnX name qual params body scope cl dV kV doc pm an cdv ct) (body := body) (binds := binds) hroom (G.look ho hf) rfl G.lim (codeRec_of G.X hcd) rfl hbind hcell hloc (fun h₁ hns hk₁ => ?_) hco hgen hk)
  obtain ⟨B, big⟩ := base_ofH G hown
  exact wpAny_mono (h _ _ h₁ B big rfl (tp.keeps fun b o _ e => hk₁ b o e) ⟨hns, fun b o e => hk₁ b o (B.of_ b o e), Nat.le_of_eq (hideAll_size _ _)⟩
    (fun q hq => ⟨hk₁ _ _ (hown q hq).2, Nat.ne_of_lt (Heap.lt_size (hown q hq).2), B.own _ (List.mem_map_of_mem hq)⟩)) (fun fl s' hq => hq) fun _ _ e => e.elim

section
variable {prog : Program} {w : World} {A : Around} {E : Value → Shared → Prop} {s : Shared} {K : Frag} {x C : Addr} {ox : Obj} {od : Option Obj}

theorem call_bi {id owner n : String} {b : Builtin} {self : Value} {rest : List Value} {Q : Value → Shared → Prop} (hp : plainId id = true)
    (hk : builtinKind id = some .method ∨ builtinKind id = some .slot) (hs : splitId id = some (owner, n)) (hi : Looks (model prog w) s.heap (isInstance self (.type owner)) true)
    (hb : entryFor table id = some b) (ha : argsOk id ⟨self :: rest, []⟩)
    (hc : wpAny (model prog w) A.in1 (b ⟨self :: rest, []⟩) (fun fin s' => ∃ v, fin = .done (.ret v) ∧ Q v s') E s) :
    wpAny (model prog w) A (call (.builtin id) (self :: rest)) Q E s := by
  refine wpAny_call (codeAny_call_builtin hp hb ?_)
  have key : ∀ {Q' : Unit → Shared → Prop} {E'}, Q' () s → wpAny (model prog w) A.in1 (checkBuiltinCall id ⟨self :: rest, []⟩) Q' E' s := by
    intro Q' E' q
    rcases hk with hk | hk <;>
    · simp only [checkBuiltinCall, hk, hs]
      refine wpAny_bind (hi.here ?_)
      simp only [Bool.not_true, Bool.false_eq_true, if_false]
      cases hsig : Manifest.signature? id with
      | none => exact wpAny_pure q
      | some sig =>
        simp only [argsOk, hsig] at ha
        have h2 : Bind.checkArgs id sig ⟨self :: rest, []⟩ = pure () := ha
        show wpAny _ _ (Bind.checkArgs id sig ⟨self :: rest, []⟩) _ _ s
        rw [h2]; exact wpAny_pure q
  refine key (wpAny_mono hc (fun fin s' h' => ?_) fun _ _ h' => h')
  obtain ⟨v, rfl, hv⟩ := h'; exact hv

theorem inst_is {T : String} (X : K.In s.heap) (I : InstAt s.heap x ox C od) (hs : subIn K (.ref C) (.type T) = some true) : Looks (model prog w) s.heap (isInstance (.ref x) (.type T)) true :=
  I.type.andThen (looks_subIn X hs)

end
end
end Mine
end

section
open PySem PySem.W PySem.Calls PyProof.Rows
set_option maxRecDepth 100000
set_option maxHeartbeats 8000000
namespace Mine
section
variable {prog : Program} {w : World} {A : Around} {E : Value → Shared → Prop} {s : Shared} {K : Frag} {x C : Addr} {ox : Obj} {od : Option Obj}
theorem ga_bind (self : Value) : bindSpecial (.builtin "list.__getattribute__") self = pure (.builtin "list.__getattribute__", [self]) := F.slot_list_getattribute.bind self

theorem get_l {name : Str} {v : Value} {ex : Bool} {Q : Value → Shared → Prop} (X : K.In s.heap) (I : InstAt s.heap x ox C od) (hga : findIn K (.ref C) "__getattribute__" = some (some (.builtin "list.__getattribute__")))
    (hgt : findIn K (.ref C) "__getattr__" = some none) (hsub : subIn K (.ref C) (.type "list") = some true)
    (hf : findObj K C od name = some (.value v)) (hh : handedIn v = true) (h : Q v { s with toks := s.toks + 1 }) : wpAny (model prog w) A (getAttr (.ref x) name ex) Q E s := by
  obtain ⟨hp, g, d, t, os⟩ := s
  have L0 := I.type (M := model prog w)
  have L1 := looks_findIn (M := model prog w) X hga
  have L2 := looks_findIn (M := model prog w) X hgt
  have L3 := looks_find (M := model prog w) X I hf
  unfold getAttr getAttrBy
  refine wpAny_bind (wpAny_mkText (wpAny_holding (wpAny_bind (L0.at (wpAny_bind (L1.at ?_))))))
  show wpAny _ _ (getAttrByItsOwn _ _ _ _ _ _) _ _ _
  unfold getAttrByItsOwn hookBefore
  refine wpAny_bind ?_
  show wpAny _ _ (typeLookup (.ref C) "__getattr__") _ _ _
  refine L2.at ?_
  refine wpAny_bind (wpAny_attempt (wpAny_holding ?_))
  unfold callGetattribute
  rw [if_neg (by simp [onTheHeap])]
  unfold boundAndCalled
  refine wpAny_bind (wpAny_of_eq (ga_bind _) ?_)
  show wpAny _ _ (call (.builtin "list.__getattribute__") (Value.ref x :: [Value.str name t])) _ _ _
  refine call_bi (owner := "list") (n := "__getattribute__") (by decide +kernel) (.inr (by decide +kernel)) (by decide +kernel) (inst_is (K := K) X (s := ⟨hp, g, d, t + 1, os⟩) I hsub) F.entry_list_ga (F.args_list_getattribute_2 _ _) ?_
  refine wpAny_bind (wpAny_pure (wpAny_bind (wpAny_pure (wpAny_bind (L0.at (wpAny_bind (L3.at ?_)))))))
  refine wpAny_pure ⟨v, rfl, ?_⟩
  show wpAny _ _ (handedOut v) _ _ _
  rw [handedOut_of hh]
  exact wpAny_pure h

theorem method_l {name : Str} {pl : Sem Bool} {f : Value} {tf : Value} {Q : Value × List Value → Shared → Prop} (X : K.In s.heap) (I : InstAt s.heap x ox C od) (hga : findIn K (.ref C) "__getattribute__" = some (some (.builtin "list.__getattribute__")))
    (hgt : findIn K (.ref C) "__getattr__" = some none) (hf : findIn K (.ref C) name = some (some f)) (ht : Looks (model prog w) s.heap (typeOf f) tf) (hm : (tf != .type "function" && tf != .type "method_descriptor" && tf != .type "wrapper_descriptor") = false)
    (hs : shadowIn od name = some false) (h : Q (f, [.ref x]) s) :
    wpAny (model prog w) A (getMethod (.ref x) name pl) Q E s := by
  have hcan : (Manifest.canonical "list.__getattribute__" != "object.__getattribute__") = false := by decide +kernel
  unfold getMethod specialOf
  refine wpAny_bind (wpAny_bind (I.type.here ((looks_findIn X hga).here ?_)))
  dsimp only
  rw [hcan, if_neg (by decide)]
  refine wpAny_bind (wpAny_bind (I.type.here ((looks_findIn X hgt).here ?_)))
  refine wpAny_bind (wpAny_bind (I.type.here ((looks_findIn X hf).here (wpAny_bind (ht.here ?_)))))
  rw [hm, if_neg (by decide)]
  refine wpAny_bind (wpAny_loadPart I.at_ ?_)
  have hd := I.dict
  cases e : ox.dict with
  | none => exact wpAny_bind (wpAny_rule (wpAny_pure h))
  | some dx =>
    cases od with
    | none => rw [e] at hd; exact hd.elim
    | some o =>
      rw [e] at hd
      obtain ⟨r, a, b⟩ := Option.map_eq_some_iff.mp hs
      refine wpAny_bind (wpAny_bind (wpAny_loadPart hd ?_))
      rw [nsLook_of a]
      refine wpAny_pure ?_
      rw [b]
      exact wpAny_bind (wpAny_rule (wpAny_pure h))
theorem method_lb {name : Str} {pl : Sem Bool} {id : String} {Q : Value × List Value → Shared → Prop} (X : K.In s.heap) (I : InstAt s.heap x ox C od) (hga : findIn K (.ref C) "__getattribute__" = some (some (.builtin "list.__getattribute__")))
    (hgt : findIn K (.ref C) "__getattr__" = some none) (hf : findIn K (.ref C) name = some (some (.builtin id))) (ht : typeOf (.builtin id) = pure (.type "method_descriptor"))
    (hs : shadowIn od name = some false) (h : Q (.builtin id, [.ref x]) s) :
    wpAny (model prog w) A (getMethod (.ref x) name pl) Q E s := method_l X I hga hgt hf (.of_pure ht) (by decide +kernel) hs h
theorem method_lf {name : Str} {pl : Sem Bool} {f : Addr} {Q : Value × List Value → Shared → Prop} (X : K.In s.heap) (I : InstAt s.heap x ox C od) (hga : findIn K (.ref C) "__getattribute__" = some (some (.builtin "list.__getattribute__")))
    (hgt : findIn K (.ref C) "__getattr__" = some none) (hf : findIn K (.ref C) name = some (some (.ref f))) (ht : typeIn K (.ref f) = some (.type "function"))
    (hs : shadowIn od name = some false) (h : Q (.ref f, [.ref x]) s) :
    wpAny (model prog w) A (getMethod (.ref x) name pl) Q E s := method_l X I hga hgt hf (looks_typeIn X ht) (by decide +kernel) hs h
theorem mdesc_append : typeOf (.builtin "list.append") = pure (.type "method_descriptor") := by show builtinType _ = _; rw [builtinType_eq_fast]; kernel_rfl
theorem mdesc_pop : typeOf (.builtin "list.pop") = pure (.type "method_descriptor") := by show builtinType _ = _; rw [builtinType_eq_fast]; kernel_rfl
end
end Mine
end

section
open PySem PySem.W PySem.Calls PyProof.Rows
set_option maxRecDepth 100000
set_option maxHeartbeats 8000000
namespace Mine
structure Cx (w : World) (g : Heap) (ws : List Addr) (s₀ : Shared) (L : Addr) (m : Str → Option Value) (news : List (Addr × Obj)) (s : Shared) : Prop where
  B : Bg w g ws s₀
  big : (238 : Nat) ≤ L
  hL : s₀.heap.objs.size = L
  F : Fr g L s.heap m
  N : News g L s.heap news
  T : Tabs s.heap
  bare : AllBare s.gens
  os : s.os = s₀.os
  hi : ∀ p ∈ news, Hi p.1

section
variable {w : World} {g : Heap} {ws : List Addr} {s₀ s s' : Shared} {L : Addr} {m m' : Str → Option Value} {news news' : List (Addr × Obj)}
theorem Cx.get (c : Cx w g ws s₀ L m news s) {a : Addr} {o : Obj} (h : (a, o) ∈ news) : s.heap.get? a = some o := (c.N _ h).1
theorem Cx.base (c : Cx w g ws s₀ L m news s) {a : Addr} {o : Obj} (h : g.get? a = some o) : s.heap.get? a = some o := c.F.keep _ _ h
theorem Cx.X (c : Cx w g ws s₀ L m news s) : (KK w).In s.heap := c.B.gd.X.keeps c.F.keep
theorem Cx.gd (c : Cx w g ws s₀ L m news s) : Gd w s.heap := c.B.gd.keeps c.F.keep
theorem Cx.ok (c : Cx w g ws s₀ L m news s) : Ok w s := ⟨c.gd, c.T, c.bare⟩
theorem Cx.st (c : Cx w g ws s₀ L m news s) : St ws s₀ s := by
  refine ⟨fun b o h1 h2 e => c.F.keep b o (c.B.all b o h1 h2 e), ?_, c.os⟩
  obtain ⟨oL, _, _, e, _⟩ := c.F.ns
  exact Nat.le_of_lt (c.hL ▸ Heap.lt_size e)
theorem Cx.ext (c : Cx w g ws s₀ L m news s) (k : ∀ b o, s.heap.get? b = some o → s'.heap.get? b = some o) (hb : s'.gens = s.gens) (ho : s'.os = s.os) : Cx w g ws s₀ L m news s' :=
  ⟨c.B, c.big, c.hL, ⟨c.F.ns.keeps k, fun b o e => k b o (c.F.keep b o e), c.F.above⟩, fun p hp => ⟨k _ _ (c.N p hp).1, (c.N p hp).2⟩, c.T.keeps fun b o _ e => k b o e, hb ▸ c.bare, ho.trans c.os, c.hi⟩
theorem Cx.callH {ws' : List Addr} (c : Cx w g ws s₀ L m news s) (S : St ws' s s') (O : Ok w s') (hw : ∀ a ∈ ws', a ≠ L ∧ g.get? a = none) (hn : ∀ p ∈ news', s'.heap.get? p.1 = some p.2 ∧ p.1 ≠ L ∧ g.get? p.1 = none) (hi : ∀ p ∈ news', Hi p.1) : Cx w g ws s₀ L m news' s' := by
  refine ⟨c.B, c.big, c.hL, ⟨c.F.ns.at' fun o e => S.keep L o (fun q => (hw L q).1 rfl) (not_tab c.big) e, fun b o e => S.keep b o (fun q => ?_) (fun q => ?_) (c.F.keep b o e), c.F.above⟩, hn, O.tabs, O.bare, S.os.trans c.os, hi⟩
  · rw [(hw b q).2] at e; cases e
  · rw [c.B.tab b q] at e; cases e
theorem Cx.call {ws' : List Addr} (c : Cx w g ws s₀ L m news s) (S : St ws' s s') (O : Ok w s') (hw : ∀ a ∈ ws', a ≠ L ∧ g.get? a = none) (hn : ∀ p ∈ news', s'.heap.get? p.1 = some p.2 ∧ p.1 ≠ L ∧ g.get? p.1 = none) (hi : ∀ p ∈ news', (238 : Nat) ≤ p.1) : Cx w g ws s₀ L m news' s' :=
  c.callH S O hw hn fun p hp => .inl (hi p hp)
theorem Cx.call0 (c : Cx w g ws s₀ L m news s) (S : St [] s s') (O : Ok w s') : Cx w g ws s₀ L m news s' :=
  c.callH S O (fun _ h => nomatch h) (fun p hp => ⟨S.keep _ _ (fun h => nomatch h) (c.hi p hp).not_tab (c.N p hp).1, (c.N p hp).2⟩) c.hi
theorem Cx.call1 {a : Addr} {o o' : Obj} (c : Cx w g ws s₀ L m news s) (U : Upd a o o' news news') (S : St [a] s s') (O : Ok w s') (e : s'.heap.get? a = some o') : Cx w g ws s₀ L m news' s' := by
  obtain ⟨pre, post, rfl, rfl, h1, h2⟩ := U.split
  have z := c.N (a, o) (List.mem_append.mpr (.inr (.head _)))
  have hi := c.hi
  have all : ∀ p ∈ pre ++ (a, o') :: post, (s'.heap.get? p.1 = some p.2 ∧ p.1 ≠ L ∧ g.get? p.1 = none) ∧ Hi p.1 := fun p hp => by
    have old : ∀ p ∈ pre ++ (a, o) :: post, p.1 ≠ a → (s'.heap.get? p.1 = some p.2 ∧ p.1 ≠ L ∧ g.get? p.1 = none) ∧ Hi p.1 := fun p hp hne =>
      ⟨⟨S.keep _ _ (by simp [hne]) (hi p hp).not_tab (c.N p hp).1, (c.N p hp).2⟩, hi p hp⟩
    rcases List.mem_append.mp hp with q | q
    · exact old p (List.mem_append_left _ q) (h1 p q)
    · cases q with
      | head => exact ⟨⟨e, z.2⟩, hi (a, o) (List.mem_append.mpr (.inr (.head _)))⟩
      | tail _ q => exact old p (List.mem_append_right _ (.tail _ q)) (h2 p q)
  exact c.callH S O (fun b hb => by rw [List.mem_singleton] at hb; subst hb; exact z.2) (fun p hp => (all p hp).1) fun p hp => (all p hp).2
theorem Cx.new (c : Cx w g ws s₀ L m news s) {a : Addr} {o : Obj} (h : s.heap.get? a = some o) (hs : (s₀.heap.objs.size : Nat) < a) : Cx w g ws s₀ L m ((a, o) :: news) s := by
  refine ⟨c.B, c.big, c.hL, c.F, fun p hp => ?_, c.T, c.bare, c.os, fun p hp => by cases hp with | head => exact .inl (Nat.le_trans c.big (c.hL ▸ Nat.le_of_lt hs)) | tail _ hp => exact c.hi p hp⟩
  cases hp with
  | tail _ hp => exact c.N p hp
  | head =>
    refine ⟨h, fun e => ?_, ?_⟩
    · rw [← c.hL] at e
      exact absurd hs (by show ¬ (s₀.heap.objs.size : Nat) < a; rw [show a = s₀.heap.objs.size from e]; exact Nat.lt_irrefl _)
    · cases z : g.get? a with
      | none => rfl
      | some o' => exact absurd (Heap.lt_size (c.B.of_ _ _ z)) (Nat.lt_asymm hs)
theorem Cx.drop (c : Cx w g ws s₀ L m news s) (h : ∀ p ∈ news', p ∈ news) : Cx w g ws s₀ L m news' s := ⟨c.B, c.big, c.hL, c.F, fun p hp => c.N p (h p hp), c.T, c.bare, c.os, fun p hp => c.hi p (h p hp)⟩
theorem Cx.lt (c : Cx w g ws s₀ L m news s) : (s₀.heap.objs.size : Nat) < s.heap.objs.size := by
  obtain ⟨oL, _, _, e, _⟩ := c.F.ns
  exact c.hL ▸ Heap.lt_size e
theorem Cx.updH {a : Addr} {o o' : Obj} (c : Cx w g ws s₀ L m news s) (U : Upd a o o' news news') (ha : Hi a) (hs : Heap.SameBut a s.heap s'.heap) (ho : s'.heap.get? a = some o') (hb : s'.gens = s.gens) (hq : s'.os = s.os) : Cx w g ws s₀ L m news' s' := by
  obtain ⟨pre, post, rfl, rfl, h1, h2⟩ := U.split
  have z := c.N (a, o) (List.mem_append.mpr (.inr (.head _)))
  exact ⟨c.B, c.big, c.hL, c.F.change hs z.2.1 z.2.2, news_set c.N h1 h2 hs ho, c.T.keeps fun b o hb e => (hs.2 b fun q => ha.not_tab (q ▸ hb)).trans e, hb ▸ c.bare, hq.trans c.os, fun p hp => by rcases List.mem_append.mp hp with q | q; exact c.hi p (List.mem_append_left _ q); cases q with | head => exact ha | tail _ q => exact c.hi p (List.mem_append_right _ (.tail _ q))⟩
theorem Cx.upd {a : Addr} {o o' : Obj} (c : Cx w g ws s₀ L m news s) (U : Upd a o o' news news') (ha : (238 : Nat) ≤ a) (hs : Heap.SameBut a s.heap s'.heap) (ho : s'.heap.get? a = some o') (hb : s'.gens = s.gens) (hq : s'.os = s.os) : Cx w g ws s₀ L m news' s' :=
  c.updH U (.inl ha) hs ho hb hq

variable {prog : Program} {A : Around} {E : Value → Shared → Prop} {cn : Str} {cs : Scope} {a : Addr} {ccd : Value} {cl : List (Str × Addr)}
theorem c_store {x : Str} {v : Value} {Q : Unit → Shared → Prop} (c : Cx w g ws s₀ L m news s)
    (h : ∀ s', Cx w g ws s₀ L (fun y => if y = x then some v else m y) news s' → Q () s')
    (hk : cs.kind = .function := by rfl) (hx : (envX cn cs L a ccd cl).kindOf x = some .local := by rfl) : wpAny (model prog w) A (storeName (envX cn cs L a ccd cl) x v) Q E s :=
  wpAny_storeName_local hx c.F.ns (fun h' hn hs => h _ ⟨c.B, c.big, c.hL, c.F.set hn hs, c.N.set hs, c.T.keeps fun b o hb e => (hs.2 b fun q => not_tab c.big ((show b = L from q) ▸ hb)).trans e, c.bare, c.os, c.hi⟩) (by show (cs.kind == .class || (cs.kind == .module && L != mainGlobals)) = false; rw [hk]; rfl)
theorem c_name {x : Str} {pos : Pos} {v : Value} {Q : Value → Shared → Prop} (c : Cx w g ws s₀ L m news s) (hv : m x = some v) (h : Q v s)
    (hk : cs.kind = .function := by rfl) (hx : (envX cn cs L a ccd cl).kindOf x = some .local := by rfl) (hd : (x == ("__debug__" : Str)) = false := by decide) :
    wpAny (model prog w) A (eval (.Name x pos) (envX cn cs L a ccd cl)) Q E s := nameX_L c.F hv h hk hx hd
theorem c_glob {x : Str} {pos : Pos} {v : Value} {Q : Value → Shared → Prop} (c : Cx w g ws s₀ L m news s) (e : nsIn (KK w) mainGlobals x = some (some v)) (h : Q v s)
    (hk : cs.kind = .function := by rfl) (hx : (envX cn cs L a ccd cl).kindOf x = some .globalImplicit := by rfl) (hd : (x == ("__debug__" : Str)) = false := by decide) :
    wpAny (model prog w) A (eval (.Name x pos) (envX cn cs L a ccd cl)) Q E s := let ⟨_, _, _, _, T⟩ := c.B.gd.T; nameX_K c.F c.B.gd.X T e h hk hx hd
theorem c_built {x : Str} {pos : Pos} {v : Value} {Q : Value → Shared → Prop} (c : Cx w g ws s₀ L m news s) (e : nsIn (KK w) mainGlobals x = some none) (hv : bootBuiltins x = some v) (hn : x ≠ "__name__") (h : Q v s)
    (hk : cs.kind = .function := by rfl) (hx : (envX cn cs L a ccd cl).kindOf x = some .globalImplicit := by rfl) (hd : (x == ("__debug__" : Str)) = false := by decide) :
    wpAny (model prog w) A (eval (.Name x pos) (envX cn cs L a ccd cl)) Q E s := let ⟨_, _, _, _, T⟩ := c.B.gd.T; nameX_B c.F c.B.gd.X T e hv hn h hk hx hd
theorem c_int {i : Int} {k : Nat} {pos : Pos} {env : Env} {Q : Value → Shared → Prop} (c : Cx w g ws s₀ L m news s) (h : ∀ s' t, Cx w g ws s₀ L m news s' → Q (.int i t) s') :
    wpAny (model prog w) A (eval (.Constant (.int i) k pos) env) Q E s := wpAny_Constant_int (h _ _ (c.ext (fun _ _ e => e) rfl rfl))
theorem c_str {x : Str} {k : Nat} {pos : Pos} {env : Env} {Q : Value → Shared → Prop} (c : Cx w g ws s₀ L m news s) (h : ∀ s' t, Cx w g ws s₀ L m news s' → Q (.str x t) s') :
    wpAny (model prog w) A (eval (.Constant (.str x) k pos) env) Q E s := fun _ _ _ => h _ _ (c.ext (fun _ _ e => e) rfl rfl)
theorem c_tuple {vs : List Value} {Q : Value → Shared → Prop} (c : Cx w g ws s₀ L m news s) (h : ∀ s' t, Cx w g ws s₀ L m ((t, { cls := .type "tuple", data := .seq vs.toArray }) :: news) s' → (s.heap.objs.size : Nat) = t → Q (.ref t) s') (hsz : vs.length ≤ sizeLine := by size_fits) :
    wpAny (model prog w) A (newTuple vs) Q E s :=
  wpAny_newObj_type (h _ _ (Cx.new (c.ext (s' := { s with heap := s.heap.push { cls := .type "tuple", data := .seq vs.toArray } }) (fun _ _ e => Heap.get?_push_of_some _ e) rfl rfl) (Heap.get?_push_size _ rfl) c.lt) rfl) (by show vs.toArray.size ≤ sizeLine; rw [List.size_toArray]; exact hsz)
theorem c_list {vs : List Value} {Q : Value → Shared → Prop} (c : Cx w g ws s₀ L m news s) (h : ∀ s' t, Cx w g ws s₀ L m ((t, { cls := .type "list", data := .seq vs.toArray }) :: news) s' → (s.heap.objs.size : Nat) = t → Q (.ref t) s') (hsz : vs.length ≤ sizeLine := by size_fits) :
    wpAny (model prog w) A (newList vs) Q E s :=
  wpAny_newObj_type (h _ _ (Cx.new (c.ext (s' := { s with heap := s.heap.push { cls := .type "list", data := .seq vs.toArray } }) (fun _ _ e => Heap.get?_push_of_some _ e) rfl rfl) (Heap.get?_push_size _ rfl) c.lt) rfl) (by show vs.toArray.size ≤ sizeLine; rw [List.size_toArray]; exact hsz)

theorem c_enterH {Q : Value → Shared → Prop}
    {name qual : Str} {params : Arguments} {body : List Stmt} {scope : Scope} {cl : List (Str × Addr)} {dV kV doc pm cdv ct oc : Value} {an od : Option Addr} {osl : Array (Option Value)} {f : Addr} {args : List Value} {binds : List (Str × Value)}
    (own : List (Addr × Obj)) (O : Ok w s) (hroom : A.depth < recursionLimit)
    (hown : ∀ p ∈ own, Hi p.1 ∧ s.heap.get? p.1 = some p.2)
    (h : ∀ g L s₁, Cx w g (own.map (·.1)) s L (fun y => binds.reverse.lookup y) own s₁ →
      wpAny (model prog w) (A.deeper (envX qual scope L f cdv cl)) (execs body (envX qual scope L f cdv cl))
        (fun fl s' => Q (match fl with | .ret v => v | _ => .none) s') (fun _ _ => False) s₁)
    (ho : (hdz.heap_240 w.params).lookup f = some ⟨oc, od, .func (fnX name qual params body scope cl dV kV doc pm an cdv ct), osl⟩ := by k_is) (hf : (!(tabA.contains f)) = true := by rfl) (hcd : codeIn (KK w) cdv qual = true := by kernel_rfl)
    (hbind : BindsTo s (fnX name qual params body scope cl dV kV doc pm an cdv ct) ⟨args, []⟩ binds := by exact BindsTo.of_eq (by kernel_rfl)) (hloc : ∀ y ∈ binds, scope.names.lookup y.1 = some .local := by exact locs (by kernel_rfl))
    (hcell : ∀ x ∈ scope.names, x.2 ≠ .cell := by decide) (hco : scope.isCoroutine = false := by rfl) (hgen : scope.isGenerator = false := by rfl) (hk : scope.kind = .function := by rfl)
    :
    wpAny (model prog w) A (PySem.call (.ref f) args) Q E s := by
  have hbare := O.bare
  refine enter own O hroom hown ho hf hcd hbind hloc hcell hco hgen hk fun g L h₁ B big hL tp F N => ?_
  exact h g L _ ⟨B, big, hL, F, N, tp, hbare, rfl, fun q hq => (hown q hq).1⟩
theorem c_enter {Q : Value → Shared → Prop}
    {name qual : Str} {params : Arguments} {body : List Stmt} {scope : Scope} {cl : List (Str × Addr)} {dV kV doc pm cdv ct oc : Value} {an od : Option Addr} {osl : Array (Option Value)} {f : Addr} {args : List Value} {binds : List (Str × Value)}
    (own : List (Addr × Obj)) (O : Ok w s) (hroom : A.depth < recursionLimit)
    (hown : ∀ p ∈ own, (238 : Nat) ≤ p.1 ∧ s.heap.get? p.1 = some p.2)
    (h : ∀ g L s₁, Cx w g (own.map (·.1)) s L (fun y => binds.reverse.lookup y) own s₁ →
      wpAny (model prog w) (A.deeper (envX qual scope L f cdv cl)) (execs body (envX qual scope L f cdv cl))
        (fun fl s' => Q (match fl with | .ret v => v | _ => .none) s') (fun _ _ => False) s₁)
    (ho : (hdz.heap_240 w.params).lookup f = some ⟨oc, od, .func (fnX name qual params body scope cl dV kV doc pm an cdv ct), osl⟩ := by k_is) (hf : (!(tabA.contains f)) = true := by rfl) (hcd : codeIn (KK w) cdv qual = true := by kernel_rfl)
    (hbind : BindsTo s (fnX name qual params body scope cl dV kV doc pm an cdv ct) ⟨args, []⟩ binds := by exact BindsTo.of_eq (by kernel_rfl)) (hloc : ∀ y ∈ binds, scope.names.lookup y.1 = some .local := by exact locs (by kernel_rfl))
    (hcell : ∀ x ∈ scope.names, x.2 ≠ .cell := by decide) (hco : scope.isCoroutine = false := by rfl) (hgen : scope.isGenerator = false := by rfl) (hk : scope.kind = .function := by rfl)
    :
    wpAny (model prog w) A (PySem.call (.ref f) args) Q E s := by
  refine c_enterH own O hroom (fun p hp => ⟨.inl (hown p hp).1, (hown p hp).2⟩) h ho hf hcd hbind hloc hcell hco hgen hk
end
end Mine
end

section
open PySem PySem.W PySem.Calls PyProof.Rows
set_option maxRecDepth 100000
set_option maxHeartbeats 8000000
namespace Mine
namespace S
theorem slot_wd : Slot "wrapper_descriptor" "__get__" "wrapper_descriptor.__get__" :=
  .of (owner := "wrapper_descriptor") (n := "__get__") (by rw [typeLookup_type, builtinLookup_eq_fast]; kernel_rfl) (by decide +kernel) (by decide +kernel) (by decide +kernel)
    (by first | exact .inl (by decide +kernel) | exact .inr (by decide +kernel)) (by rw [isSubtype_type]; kernel_rfl)
theorem slot_md : Slot "method_descriptor" "__get__" "method_descriptor.__get__" :=
  .of (owner := "method_descriptor") (n := "__get__") (by rw [typeLookup_type, builtinLookup_eq_fast]; kernel_rfl) (by decide +kernel) (by decide +kernel) (by decide +kernel)
    (by first | exact .inl (by decide +kernel) | exact .inr (by decide +kernel)) (by rw [isSubtype_type]; kernel_rfl)
theorem entry_wd : entryFor table "wrapper_descriptor.__get__" = some Builtin.«wrapper_descriptor.__get__» := entryFor_of_tree (by kernel_rfl)
theorem entry_md : entryFor table "method_descriptor.__get__" = some Builtin.«method_descriptor.__get__» := entryFor_of_tree (by kernel_rfl)
theorem args_wd (a b c : Value) : argsOk "wrapper_descriptor.__get__" ⟨[a, b, c], []⟩ := by unfold argsOk; kernel_rfl
theorem args_md (a b c : Value) : argsOk "method_descriptor.__get__" ⟨[a, b, c], []⟩ := by unfold argsOk; kernel_rfl
theorem type_len : typeOf (.builtin "list.__len__") = pure (.type "wrapper_descriptor") := by show builtinType _ = _; rw [builtinType_eq_fast]; kernel_rfl
theorem type_init : typeOf (.builtin "list.__init__") = pure (.type "wrapper_descriptor") := by show builtinType _ = _; rw [builtinType_eq_fast]; kernel_rfl
theorem owner_len : ".".intercalate ("list.__len__".cutAt ('.')).dropLast = "list" := by decide +kernel
theorem owner_init : ".".intercalate ("list.__init__".cutAt ('.')).dropLast = "list" := by decide +kernel
theorem owner_pop : ".".intercalate ("list.pop".cutAt ('.')).dropLast = "list" := by decide +kernel
theorem told_pop : Manifest.toldItsClass.contains "list.pop" = false := by decide +kernel
end S
section
variable {prog : Program} {w : World} {A : Around} {E : Value → Shared → Prop} {s : Shared} {x C : Addr}
theorem run_wd {id : String} {P : Fin → Shared → Prop} (hid : ".".intercalate (id.cutAt '.').dropLast = "list") (hi : Looks (model prog w) s.heap (isInstance (.ref x) (.type "list")) true)
    (h : P (.done (.ret (.ref s.heap.objs.size))) { s with heap := s.heap.push { cls := .type "method-wrapper", data := .fields #[.builtin id, .ref x] } }) :
    wpAny (model prog w) A (Builtin.«wrapper_descriptor.__get__» ⟨[.builtin id, .ref x, .ref C], []⟩) P E s := by
  unfold Builtin.«wrapper_descriptor.__get__»
  refine wpAny_bind (wpAny_of_eq (a := (.builtin id, some (.ref x), some (.ref C))) (by rfl) ?_)
  refine wpAny_bind (wpAny_bind (wpAny_pure (wpAny_bind ?_)))
  show wpAny _ _ (isInstance (.ref x) (.type (".".intercalate (id.cutAt '.').dropLast))) _ _ _
  rw [hid]
  refine hi.here (wpAny_pure ?_)
  exact wpAny_bind (wpAny_newObj_type (wpAny_pure h))
theorem run_md {id : String} {P : Fin → Shared → Prop} (hid : ".".intercalate (id.cutAt '.').dropLast = "list") (ht : Manifest.toldItsClass.contains id = false) (hi : Looks (model prog w) s.heap (isInstance (.ref x) (.type "list")) true)
    (h : P (.done (.ret (.ref s.heap.objs.size))) { s with heap := s.heap.push { cls := .type "builtin_function_or_method", data := .fields #[.builtin id, .ref x] } }) :
    wpAny (model prog w) A (Builtin.«method_descriptor.__get__» ⟨[.builtin id, .ref x, .ref C], []⟩) P E s := by
  unfold Builtin.«method_descriptor.__get__»
  refine wpAny_bind (wpAny_of_eq (a := (.builtin id, some (.ref x), some (.ref C))) (by rfl) ?_)
  dsimp only
  rw [ht, if_neg (by decide)]
  refine wpAny_bind (wpAny_bind (wpAny_pure (wpAny_bind ?_)))
  show wpAny _ _ (isInstance (.ref x) (.type (".".intercalate (id.cutAt '.').dropLast))) _ _ _
  rw [hid]
  refine hi.here (wpAny_pure ?_)
  exact wpAny_bind (wpAny_newObj_type (wpAny_pure h))
end
end Mine
namespace Mine
section
variable {prog : Program} {w : World} {A : Around} {E : Value → Shared → Prop} {s : Shared} {x so : Addr}
noncomputable abbrev supObj (x : Addr) : Obj := { cls := .type "super", dict := none, data := .fields #[.ref 200, .ref x, .ref 200], slots := #[] }
noncomputable abbrev bndObj (T : String) (id : String) (x : Addr) : Obj := { cls := .type T, data := .fields #[.builtin id, .ref x] }
theorem mro200 (w : World) : (clsIn (KK w) 200).map (·.mro) = some [.ref 200, .type "list", .type "object"] := by kernel_rfl
theorem looks_mro200 {h : Heap} (X : (KK w).In h) : Looks (model prog w) h (mroOf (.ref 200)) [.ref 200, .type "list", .type "object"] := by
  have := mro200 w
  cases hc : clsIn (KK w) 200 with
  | none => rw [hc] at this; cases this
  | some cd =>
    rw [hc] at this
    have e : cd.mro = _ := Option.some.inj this
    rw [← e]
    exact fun A Q E s k q => wpAny_bind ((looks_clsIn X hc) A _ E s k (wpAny_pure q))

theorem super_ga {name : Str} {tk : Tok} {id T gid : String} {o' : Obj} {Q : Fin → Shared → Prop} (X : (KK w).In s.heap) (hso : s.heap.get? so = some (supObj x)) (hx : x ≠ 200)
    (hf : alongIn (KK w) name [.type "list", .type "object"] = some (some (.builtin id))) (hn : (name == ("__class__" : Str)) = false) (ht : typeOf (.builtin id) = pure (.type T)) (hg : typeLookup (.type T) "__get__" = pure (some (.builtin gid)))
    (hcall : ∀ {A' : Around} {Q' : Value → Shared → Prop} {E' : Value → Shared → Prop}, Q' (.ref s.heap.objs.size) { s with heap := s.heap.push o' } → wpAny (model prog w) A' (call (.builtin gid) [.builtin id, .ref x, .ref 200]) Q' E' s)
    (hq : Q (.done (.ret (.ref s.heap.objs.size))) { s with heap := s.heap.push o' }) :
    wpAny (model prog w) A (Builtin.«super.__getattribute__» ⟨[.ref so, .str name tk], []⟩) Q E s := by
  obtain ⟨h, g, d, t, os⟩ := s
  have hC := looks_mro200 (prog := prog) X
  have hno : Looks (model prog w) h (opaqueClassAbove (.ref 200)) none := looks_opaque X (by kernel_rfl)
  have hl : ([.ref 200, .type "list", .type "object"] : List Value).dropWhile (· != .ref 200) = [.ref 200, .type "list", .type "object"] := by rfl
  have hne : (Value.ref x == Value.ref 200) = false := by simp [hx]
  have hdt : (supObj x).data = .fields #[.ref 200, .ref x, .ref 200] := rfl
  have f0 : (#[.ref 200, .ref x, .ref 200] : Array Value)[0]? = some (.ref 200) := rfl
  have f1 : (#[.ref 200, .ref x, .ref 200] : Array Value)[1]? = some (.ref x) := rfl
  have f2 : (#[.ref 200, .ref x, .ref 200] : Array Value)[2]? = some (.ref 200) := rfl
  unfold Builtin.«super.__getattribute__»
  repeat (first
    | (with_reducible refine wpAny_field hso hdt f0 ?_) | (with_reducible refine wpAny_field hso hdt f1 ?_) | (with_reducible refine wpAny_field hso hdt f2 ?_)
    | (with_reducible refine ks_wpAny_notOpaque hno ?_)
    | (with_reducible refine Looks.at hC ?_; rw [hl])
    | (refine ks_forIn_along X (fun _ _ => rfl) rfl ?_ hf)
    | (with_reducible refine wpAny_of_eq ht ?_)
    | (with_reducible refine wpAny_of_eq hg ?_)
    | (with_reducible refine hcall ?_)
    | (simp only [hn, hne, Bool.or_false, Bool.false_eq_true, if_false])
    | wp_step
    | dsimp only)
  all_goals exact hq

theorem super_method {name : Str} {pl : Sem Bool} {id T gid : String} {o' : Obj} {Q : Value × List Value → Shared → Prop} (X : (KK w).In s.heap) (hso : s.heap.get? so = some (supObj x)) (hx : x ≠ 200)
    (hf : alongIn (KK w) name [.type "list", .type "object"] = some (some (.builtin id))) (hn : (name == ("__class__" : Str)) = false) (ht : typeOf (.builtin id) = pure (.type T)) (hg : typeLookup (.type T) "__get__" = pure (some (.builtin gid)))
    (hcall : ∀ {s' : Shared} {A' : Around} {Q' : Value → Shared → Prop} {E' : Value → Shared → Prop}, s'.heap = s.heap → Q' (.ref s'.heap.objs.size) { s' with heap := s'.heap.push o' } → wpAny (model prog w) A' (call (.builtin gid) [.builtin id, .ref x, .ref 200]) Q' E' s')
    (hq : Q (.ref s.heap.objs.size, []) { s with heap := s.heap.push o', toks := s.toks + 1 }) :
    wpAny (model prog w) A (getMethod (.ref so) name pl) Q E s := by
  obtain ⟨h, g, d, t, os⟩ := s
  have hlk := PySem.F.ks_slot_super_ga.lookup
  have hcan := PySem.F.ks_canon_super_ga
  have hT : ∀ t', (⟨h, g, d, t', os⟩ : Shared).TypeIs (.ref so) "super" := fun _ => ⟨_, hso, rfl⟩
  unfold getMethod
  refine wpAny_bind (wpAny_specialOf (hT _) hlk ?_)
  show wpAny _ _ (if (Manifest.canonical "super.__getattribute__" != "object.__getattribute__") = true then _ else _) _ _ _
  rw [if_pos hcan]
  unfold getAttr getAttrBy
  refine wpAny_bind (wpAny_bind (wpAny_mkText (wpAny_holding (wpAny_bind (wpAny_typeOf (hT _) (wpAny_bind (wpAny_of_eq hlk ?_)))))))
  show wpAny _ _ (getAttrByItsOwn (.ref so) (.str name t) (.type "super") (.builtin "super.__getattribute__") true false) _ _ _
  unfold getAttrByItsOwn hookBefore callGetattribute boundAndCalled
  refine wpAny_bind (wpAny_of_eq (show (if onTheHeap (.type "super") then typeLookup (.type "super") "__getattr__" else pure none) = pure none from rfl) ?_)
  refine wpAny_bind (wpAny_attempt (wpAny_holding ?_))
  show wpAny _ _ (bindSpecial (.builtin "super.__getattribute__") (.ref so) >>= _) _ _ _
  refine wpAny_bind (wpAny_of_eq (PySem.F.ks_slot_super_ga.bind _) ?_)
  refine wpAny_call_entry PySem.F.ks_slot_super_ga (hT _) PySem.F.ks_entry_super_ga (super_ga (s := ⟨h, g, d, t + 1, os⟩) X hso hx hf hn ht hg (fun q => hcall rfl q) ⟨_, rfl, ?_⟩) (PySem.F.ks_gaArgs_super _ _)
  exact wpAny_pure (wpAny_pure hq)

theorem super_slot {name : Str} {pl : Sem Bool} {id : String} {Q : Value × List Value → Shared → Prop} (X : (KK w).In s.heap) (hso : s.heap.get? so = some (supObj x)) (hx : x ≠ 200)
    (hi : Looks (model prog w) s.heap (isInstance (.ref x) (.type "list")) true)
    (hf : alongIn (KK w) name [.type "list", .type "object"] = some (some (.builtin id))) (hn : (name == ("__class__" : Str)) = false) (ht : typeOf (.builtin id) = pure (.type "wrapper_descriptor")) (hid : ".".intercalate (id.cutAt '.').dropLast = "list")
    (hq : Q (.ref s.heap.objs.size, []) { s with heap := s.heap.push (bndObj "method-wrapper" id x), toks := s.toks + 1 }) :
    wpAny (model prog w) A (getMethod (.ref so) name pl) Q E s :=
  super_method X hso hx hf hn ht S.slot_wd.lookup (fun {s' A' Q' E'} e q => wpAny_call_entry (T := "wrapper_descriptor") (name := "__get__") S.slot_wd ht S.entry_wd (run_wd hid (e ▸ hi) ⟨_, rfl, q⟩) (S.args_wd _ _ _)) hq
theorem super_meth {name : Str} {pl : Sem Bool} {id : String} {Q : Value × List Value → Shared → Prop} (X : (KK w).In s.heap) (hso : s.heap.get? so = some (supObj x)) (hx : x ≠ 200)
    (hi : Looks (model prog w) s.heap (isInstance (.ref x) (.type "list")) true)
    (hf : alongIn (KK w) name [.type "list", .type "object"] = some (some (.builtin id))) (hn : (name == ("__class__" : Str)) = false) (ht : typeOf (.builtin id) = pure (.type "method_descriptor")) (hid : ".".intercalate (id.cutAt '.').dropLast = "list") (htold : Manifest.toldItsClass.contains id = false)
    (hq : Q (.ref s.heap.objs.size, []) { s with heap := s.heap.push (bndObj "builtin_function_or_method" id x), toks := s.toks + 1 }) :
    wpAny (model prog w) A (getMethod (.ref so) name pl) Q E s :=
  super_method X hso hx hf hn ht S.slot_md.lookup (fun {s' A' Q' E'} e q => wpAny_call_entry (T := "method_descriptor") (name := "__get__") S.slot_md ht S.entry_md (run_md hid htold (e ▸ hi) ⟨_, rfl, q⟩) (S.args_md _ _ _)) hq
end
end Mine
end

section
open PySem PySem.W PySem.Calls PyProof.Rows
set_option maxRecDepth 100000
set_option maxHeartbeats 8000000
namespace Mine
section
variable {prog : Program} {w : World} {A : Around} {E : Value → Shared → Prop} {s : Shared} {x q : Addr}
theorem keeper_bnd {T id : String} (hT : T = "method-wrapper" ∨ T = "builtin_function_or_method") (h : Heap) (hq : h.get? q = some (bndObj T id x)) : ∃ k, (k = Keeper.frame ∨ k = Keeper.machine ∨ k = Keeper.boundFrame) ∧ Looks (model prog w) h (keeperOf (.ref q)) k := by
  refine ⟨.machine, .inr (.inl rfl), ?_⟩
  intro A Q E s k z
  unfold keeperOf
  refine wpAny_bind (wpAny_load (k _ _ hq) ?_)
  dsimp only
  rcases hT with rfl | rfl
  · rw [if_pos (by decide +kernel), if_pos (by decide +kernel)]; exact wpAny_pure z
  · rw [if_pos (by decide +kernel), if_pos (by decide +kernel)]; exact wpAny_pure z

theorem bound0 {T id : String} {b : Builtin} {pos : Pos} {env : Env} {Q : Value → Shared → Prop} (hT : T = "method-wrapper" ∨ T = "builtin_function_or_method") (hq : s.heap.get? q = some (bndObj T id x)) (hp : plainId id = true)
    (hchk : ∀ {A' : Around} {Q' : Unit → Shared → Prop} {E' : Value → Shared → Prop}, Q' () s → wpAny (model prog w) A' (checkBoundCall id ⟨[.ref x], []⟩) Q' E' s) (hb : entryFor table id = some b)
    (hc : wpAny (model prog w) A.in1 (b ⟨[.ref x], []⟩) (fun fin s' => ∃ v, fin = .done (.ret v) ∧ Q v s') E s) :
    wpAny (model prog w) A (callWith pos (.ref q) [] (backTo pos (starEach [] env)) []) Q E s := by
  refine callWith_of (P := fun h => h.get? q = some (bndObj T id x)) rfl (fun h hq => keeper_bnd hT h hq) (evalArgs_nil3 ⟨hq, ?_⟩)
  refine wpAny_call (codeAny_of_tree ?_)
  show wpAny _ A.in1 (callAny (.ref q) ⟨[], []⟩) _ _ _
  unfold callAny
  refine wpAny_bind (wpAny_load hq ?_)
  dsimp only
  have fin : wpAny (model prog w) A.in1 (do checkBoundCall id ⟨[.ref x], []⟩; again (.builtin id ⟨[.ref x], []⟩))
      (fun fin s' => match fin with | .done f => (match (Except.ok f : Result) with | .ok (.ret v) => Q v s' | .ok _ => False | .error e => E e s') | .again c' => c'.quiet = true ∧ codeAny (model prog w) A c' (fun r s' => match r with | .ok (.ret v) => Q v s' | .ok _ => False | .error e => E e s') s') (fun e s' => E e s') s := by
    refine wpAny_bind (hchk (wpAny_pure ⟨plainId_quiet hp _, codeAny_builtin hb ?_⟩))
    rw [Around.under_plainId hp]
    refine wpAny_mono hc (fun fin s' h' => ?_) fun _ _ h' => h'
    obtain ⟨v, rfl, hv⟩ := h'; exact hv
  rcases hT with rfl | rfl <;> exact fin

theorem chk_slot {id : String} {rest : List Value} {Q : Unit → Shared → Prop} (hk : builtinKind id = some .slot) (ha : argsOk id ⟨.ref x :: rest, []⟩) (q : Q () s) :
    wpAny (model prog w) A (checkBoundCall id ⟨.ref x :: rest, []⟩) Q E s := by
  unfold checkBoundCall
  cases hsig : Manifest.signature? id with
  | none => exact wpAny_pure q
  | some sig =>
    simp only [argsOk, hsig] at ha
    have h2 : Bind.checkArgs id sig ⟨.ref x :: rest, []⟩ = pure () := ha
    rw [hk]
    show wpAny _ _ (Bind.checkArgs id sig ⟨.ref x :: rest, []⟩) _ _ _
    rw [h2]; exact wpAny_pure q
end
end Mine
end

section
open PySem PySem.W PySem.Calls PyProof.Rows
set_option maxRecDepth 100000
set_option maxHeartbeats 8000000
namespace Mine
noncomputable abbrev PG : Program := PySem.Challenge.pw_ph0144_01
theorem pg_file : ((PG.main.file : Str) == Str.ofString "/claim/cut.py") = true := by kernel_rfl
theorem pg_super : (PG.main.scope.names.lookup ("super" : Str)).isSome = false := by kernel_rfl
section
variable {w : World} {g : Heap} {ws : List Addr} {s₀ s s' : Shared} {L : Addr} {m m' : Str → Option Value} {news news' : List (Addr × Obj)}
variable {A : Around} {E : Value → Shared → Prop}

theorem c_enterS {Q : Value → Shared → Prop}
    {name qual : Str} {params : Arguments} {body : List Stmt} {scope : Scope} {cl : List (Str × Addr)} {dV kV doc pm cdv ct oc : Value} {an od : Option Addr} {osl : Array (Option Value)} {f : Addr} {args : List Value} {binds : List (Str × Value)}
    (own : List (Addr × Obj)) (O : Ok w s) (hroom : A.depth < recursionLimit)
    (hown : ∀ p ∈ own, (238 : Nat) ≤ p.1 ∧ s.heap.get? p.1 = some p.2)
    (h : ∀ g L s₁, Cx w g (own.map (·.1)) s L (fun y => binds.reverse.lookup y) own s₁ →
      _root_.PySem.wpAt (model PG w) (A.deeper (envX qual scope L f cdv cl)) (.func body (envX qual scope L f cdv cl)) (execs body (envX qual scope L f cdv cl))
        (fun fl s' => Q (match fl with | .ret v => v | _ => .none) s') (fun _ _ => False) s₁)
    (ho : (hdz.heap_240 w.params).lookup f = some ⟨oc, od, .func (fnX name qual params body scope cl dV kV doc pm an cdv ct), osl⟩ := by k_is) (hf : (!(tabA.contains f)) = true := by rfl) (hcd : codeIn (KK w) cdv qual = true := by kernel_rfl)
    (hbind : BindsTo s (fnX name qual params body scope cl dV kV doc pm an cdv ct) ⟨args, []⟩ binds := by exact BindsTo.of_eq (by kernel_rfl)) (hloc : ∀ y ∈ binds, scope.names.lookup y.1 = some .local := by exact locs (by kernel_rfl))
    (hcell : ∀ x ∈ scope.names, x.2 ≠ .cell := by decide) (hco : scope.isCoroutine = false := by rfl) (hgen : scope.isGenerator = false := by rfl) (hk : scope.kind = .function := by rfl) :
    wpAny (model PG w) A (PySem.call (.ref f) args) Q E s := by
  obtain ⟨G, tp, bare⟩ := O
  refine wpAny_call (ks_codeAny_call_defAt (fd := fnX name qual params body scope cl dV kV doc pm an cdv ct) (body := body) (binds := binds) hroom (G.look ho hf) rfl G.lim (codeRec_of G.X hcd) rfl hbind hcell hloc (fun h₁ hns hk₁ => ?_) hco hgen hk)
  obtain ⟨B, big⟩ := base_of G hown
  exact ks_wpAt_mono (h _ _ _ ⟨B, big, rfl, ⟨hns, fun b o e => hk₁ b o (B.of_ b o e), Nat.le_of_eq (hideAll_size _ _)⟩,
    (fun q hq => ⟨hk₁ _ _ (hown q hq).2, Nat.ne_of_lt (Heap.lt_size (hown q hq).2), B.own _ (List.mem_map_of_mem hq)⟩), tp.keeps fun b o _ e => hk₁ b o e, bare, rfl, fun q hq => .inl (hown q hq).1⟩) (fun fl s' hq => hq) fun _ _ e => e.elim

theorem c_super {body : List Stmt} {q : Str} {scope : Scope} {p0 p1 : Pos} {attr : Str} {whole : Sem Value} {fd : FuncData} {ar : Arg} {vs : Array Value} {tf : Tok} {oc ccl cl : Value} {od cdd cld : Option Addr} {osl ccs csl : Array (Option Value)} {f cda cc x : Addr} {ox : Obj} {odx : Option Obj} {Q : Value → Shared → Prop}
    (c : Cx w g ws s₀ L m news s) (hv : m ar.arg = some (.ref x)) (I : InstAt s.heap x ox 200 odx)
    (h : ∀ so s', Cx w g ws s₀ L m ((so, supObj x) :: news) s' → (s.heap.objs.size : Nat) = so → Q (.ref so) s')
    (hf : (hdz.heap_240 w.params).lookup f = some ⟨oc, od, .func fd, osl⟩ := by k_is) (hf' : (!(tabA.contains f)) = true := by rfl) (hp : (fd.params.posonlyargs ++ fd.params.args).head? = some ar := by rfl)
    (hcode : (hdz.heap_240 w.params).lookup cda = some ⟨ccl, cdd, .fields vs, ccs⟩ := by k_is) (hcode' : (!(tabA.contains cda)) = true := by rfl) (hvs : vs[2]? = some (.str (Str.ofString "/claim/cut.py") tf) := by rfl)
    (hcell : (hdz.heap_240 w.params).lookup cc = some ⟨cl, cld, .cell (some (.ref 200)), csl⟩ := by k_is) (hcell' : (!(tabA.contains cc)) = true := by rfl)
    (hat : (attr == ("__class__" : Str)) = false := by decide) (hks : scope.names.lookup ("super" : Str) = some .globalImplicit := by rfl) (hkc : scope.names.lookup ("__class__" : Str) = some .free := by rfl) (hka : scope.names.lookup ar.arg = some .local := by rfl) (hk : scope.kind = .function := by rfl) :
    _root_.PySem.wpAt (model PG w) A (.func body (ksEnv q scope L f (.ref cda) cc)) (attributeBase (.Call (.Name "super" p0) [] [] p1) attr (ksEnv q scope L f (.ref cda) cc) whole) Q E s := by
  have X := c.X
  have hsuper : nsIn (KK w) mainGlobals "super" = some none := by kernel_rfl
  have hboot : bootBuiltins "super" = some (.type "super") := by rfl
  obtain ⟨p, loose, mg, mb, T⟩ := c.B.gd.T
  obtain ⟨oD, cdD, hD1, hD2⟩ : ∃ oD cdD, s.heap.get? 200 = some oD ∧ oD.data = .cls cdD := by
    have := mro200 w
    cases hc : clsIn (KK w) 200 with
    | none => rw [hc] at this; cases this
    | some cd =>
      unfold clsIn at hc
      split at hc
      · rename_i c' d' cd' sl ho
        exact ⟨_, _, X _ _ ho, rfl⟩
      · cases hc
  have hsub : mroIn (KK w) 200 (.ref 200) = some true := by kernel_rfl
  have hex := c.ext (s' := s) (fun _ _ e => e) rfl rfl
  obtain ⟨hh, gg, dd, t, os⟩ := s
  refine ks_wpAt_super_base (env := ksEnv q scope L f (.ref cda) cc) hks hkc hat rfl (c.gd.look hf hf') rfl hp rfl (c.gd.look hcode hcode') rfl hvs pg_file pg_super ?_
  refine ks_loadName_global hk hks (loadGlobal_builtin (env := ksEnv q scope L f (.ref cda) cc) (T.g.keeps c.F.keep) (mg_none_of c.B.gd.X T.g hsuper) (T.b.keeps c.F.keep) ((T.builtins _ (by decide +kernel)).trans hboot) ⟨rfl, ?_⟩)
  refine wpAny_loadName_free hk hkc rfl ⟨_, c.gd.look hcell hcell', rfl⟩ ?_
  refine wpAny_loadName_local hk hka c.F.ns hv ?_
  refine ks_wpAny_isType_cls hD1 hD2 ⟨rfl, ?_⟩
  refine ks_wpAny_call_super hD1 hD2 I.at_ I.cls (fun cc' e => ?_) (looks_mroIn X hsub) (fun h' e k => ?_)
  · have := I.no
    unfold notCls at this
    rw [e] at this
    exact Bool.noConfusion this
  · exact h _ _ (Cx.new (c.ext (s' := ⟨h', gg, dd, t, os⟩) k rfl rfl) e c.lt) rfl
end
end Mine
end

section
open PySem PySem.W PySem.Calls PyProof.Rows
set_option maxRecDepth 100000
set_option maxHeartbeats 8000000
namespace Mine
theorem fill : (PySem.Challenge.rw_ph0144_01, hdz.heap_240) = (PySem.Challenge.rw_ph0144_01, hdz.heap_240) := by k_fill; rfl
noncomputable abbrev accObj (d : Addr) (its : Array Value) (n : Nat) : Obj := { cls := .ref 200, dict := some d, data := .seq its n }
noncomputable abbrev accDict (hh : Int) (tk : Tok) (i : Int) (t : Tok) : Obj := dictOf [⟨hh, .str (Str.ofString "_initial_size") tk, .int i t⟩] 1
noncomputable abbrev tupObj (its : Array Value) : Obj := { cls := .type "tuple", data := .seq its }
structure AccAt (h : Heap) (a d : Addr) (its : Array Value) (n : Nat) (i : Int) : Prop where
  la : (238 : Nat) ≤ a
  ld : (238 : Nat) ≤ d
  oa : h.get? a = some (accObj d its n)
  od : ∃ hh tk t, h.get? d = some (accDict hh tk i t)
theorem AccAt.ne {h : Heap} {a d : Addr} {its : Array Value} {n : Nat} {i : Int} (x : AccAt h a d its n i) : d ≠ a := by
  obtain ⟨_, _, oa, hh, tk, t, od⟩ := x
  intro e
  rw [e, oa] at od
  cases od
theorem own1 {a : Addr} {o : Obj} {s : Shared} (la : (238 : Nat) ≤ a) (oa : s.heap.get? a = some o) : ∀ p ∈ [(a, o)], (238 : Nat) ≤ p.1 ∧ s.heap.get? p.1 = some p.2 := fun p hp => by cases hp with | head => exact ⟨la, oa⟩ | tail _ h => cases h

section
variable {prog : Program} {w : World} {A : Around} {E : Value → Shared → Prop} {s : Shared} {a d : Addr} {its : Array Value} {n : Nat} {i : Int} {hh : Int} {tk t : Tok}
theorem accI {h : Heap} (ea : h.get? a = some (accObj d its n)) (ed : h.get? d = some (accDict hh tk i t)) : InstAt h a (accObj d its n) 200 (some (accDict hh tk i t)) := ⟨ea, rfl, rfl, ed⟩
theorem acc_append {x : Value} {Q : Value → Shared → Prop} (X : (KK w).In s.heap) (I : InstAt s.heap a (accObj d its n) 200 (some (accDict hh tk i t))) (hsz : its.size ≤ 100000)
    (h : ∀ s', Heap.SameBut a s.heap s'.heap → s'.heap.get? a = some (accObj d (its.push x) (n + 1)) → s'.gens = s.gens → s'.os = s.os → Q .none s') :
    wpAny (model prog w) A (call (.builtin "list.append") [.ref a, x]) Q E s := by
  refine call_bi (owner := "list") (n := "append") (by decide +kernel) (.inl (by decide +kernel)) (by decide +kernel) (inst_is (K := KK w) (C := 200) X I (by kernel_rfl)) PySem.F.entry_list_append (PySem.F.args_list_append_2 _ _) ?_
  show wpAny _ _ (updateSeq a (·.push x) >>= fun _ => ret .none) _ _ _
  have hz : its.size ≤ sizeLine := Nat.le_trans hsz (by decide)
  refine wpAny_bind (wpAny_updateSeq (xs := its) (n := n) I.at_ rfl (wpAny_pure ⟨.none, rfl, h _ (Heap.SameBut.update ..) ?_ rfl rfl⟩))
  rw [Heap.get?_update_self _ I.at_ rfl]
  simp [Obj.mapSeq]
end

theorem push_ok {prog : Program} {w : World} {A : Around} {s : Shared} {E : Value → Shared → Prop} {Q : Value → Shared → Prop} {a d : Addr} {its : Array Value} {n : Nat} {i : Int} {f p : Value}
    (O : Ok w s) (hroom : A.depth < recursionLimit) (Y : AccAt s.heap a d its n i) (hsz : its.size ≤ 100000)
    (h : ∀ s' t, Ok w s' → St [a] s s' → AccAt s'.heap a d (its.push (.ref t)) (n + 1) i → s'.heap.get? t = some (tupObj #[f, p]) → (s.heap.objs.size : Nat) < t → Q .none s') :
    wpAny (model prog w) A (call (.ref 144) [.ref a, f, p]) Q E s := by
  have hne := Y.ne
  obtain ⟨la, ld, oa, hh, tk, t, od⟩ := Y
  refine c_enter (binds := [("self", .ref a), ("fws", f), ("string", p)]) [(a, accObj d its n)] O hroom (own1 la oa) fun g L s₁ c => ?_
  have gd : g.get? d = some (accDict hh tk i t) := c.B.all d _ (by simp [hne]) (not_tab ld) od
  refine wpAny_execs_cons (wpAny_Expr (MethodCall_ (c_name c rfl ?_)))
  refine method_lb (K := KK w) (C := 200) c.X (accI (c.get (.head _)) (c.base gd)) (by kernel_rfl) (by kernel_rfl) (id := "list.append") (by kernel_rfl) mdesc_append (by rfl) ?_
  refine callWith_method1 (spliced_more (Tuple_ (spliced_more (c_name c rfl (spliced_more (c_name c rfl (spliced_none ?_)))))))
  refine c_tuple c fun s₂ u c₂ hu => ?_
  refine spliced_none ?_
  have lu : (s.heap.objs.size : Nat) < u := hu ▸ c.lt
  have hua : u ≠ a := fun e => absurd (Heap.lt_size oa) (by rw [← e]; exact Nat.lt_asymm lu)
  refine acc_append c₂.X (accI (c₂.get (.tail _ (.head _))) (c₂.base gd)) hsz fun s₃ hs₃ e₃ hg₃ ho₃ => ?_
  have c₃ := c₂.upd (Upd.tail hua (Upd.head (fun _ h => nomatch h))) la hs₃ e₃ hg₃ ho₃
  refine wpAny_execs_nil ?_
  exact h s₃ u c₃.ok c₃.st ⟨la, ld, e₃, hh, tk, t, c₃.base gd⟩ (c₃.get (.head _)) lu
end Mine
end

section
open PySem PySem.W PySem.Calls PyProof.Rows
set_option maxRecDepth 100000
set_option maxHeartbeats 8000000
namespace Mine
theorem fill2 : (PySem.Challenge.rw_ph0144_01, hdz.heap_240) = (PySem.Challenge.rw_ph0144_01, hdz.heap_240) := by k_fill; rfl
theorem no_own {s : Shared} : ∀ p ∈ ([] : List (Addr × Obj)), (238 : Nat) ≤ p.1 ∧ s.heap.get? p.1 = some p.2 := fun _ h => nomatch h
theorem ne200 {a : Addr} (h : (238 : Nat) ≤ a) : a ≠ 200 := by rintro rfl; exact absurd h (by decide)
theorem args_len (x : Value) : argsOk "list.__len__" ⟨[x], []⟩ := by unfold argsOk; kernel_rfl
theorem chk_len {w : World} {x : Addr} {A' : Around} {Q' : Unit → Shared → Prop} {E' : Value → Shared → Prop} {s : Shared} (q : Q' () s) : wpAny (model PG w) A' (checkBoundCall "list.__len__" ⟨[.ref x], []⟩) Q' E' s := by
  with_reducible refine chk_slot ?_ ?_ ?_
  · decide +kernel
  · exact args_len _
  · exact q
section
variable {w : World} {A : Around} {E : Value → Shared → Prop} {s : Shared} {Q : Value → Shared → Prop} {a d : Addr} {its : Array Value} {n : Nat} {i : Int}
theorem part_count_ok (O : Ok w s) (hroom : A.depth < recursionLimit) (Y : AccAt s.heap a d its n i)
    (h : ∀ s' t, Ok w s' → St [] s s' → Q (.int its.size t) s') :
    wpAny (model PG w) A (call (.ref 197) [.ref a]) Q E s := by
  obtain ⟨la, ld, oa, hh, tk, t, od⟩ := Y
  refine c_enterS (binds := [("self", .ref a)]) [] O hroom no_own fun g L s₁ c => ?_
  have gd : g.get? d = some (accDict hh tk i t) := c.B.all d _ (fun h => nomatch h) (not_tab ld) od
  have ga : g.get? a = some (accObj d its n) := c.B.all a _ (fun h => nomatch h) (not_tab la) oa
  have I : ∀ {m news s'}, Cx w g [] s L m news s' → InstAt s'.heap a (accObj d its n) 200 (some (accDict hh tk i t)) := fun c => accI (c.base ga) (c.base gd)
  refine ks_wpAt_execs_cons (ks_wpAt_Return_some (ks_wpAt_MethodCall ?_))
  refine c_super c rfl (I c) fun so s₂ c₂ hso => ?_
  refine super_slot c₂.X (c₂.get (.head _)) (ne200 la) (inst_is (K := KK w) (C := 200) c₂.X (I c₂) (by kernel_rfl)) (by kernel_rfl) (by decide) S.type_len S.owner_len ?_
  have c₃ := Cx.new (a := s₂.heap.objs.size) (o := bndObj "method-wrapper" "list.__len__" a) (c₂.ext (s' := { s₂ with heap := s₂.heap.push (bndObj "method-wrapper" "list.__len__" a), toks := s₂.toks + 1 }) (fun _ _ e => Heap.get?_push_of_some _ e) rfl rfl) (Heap.get?_push_size _ rfl) c₂.lt
  refine bound0 (.inl rfl) (c₃.get (.head _)) (by decide +kernel) chk_len PySem.F.entry_list_len ?_
  · refine wpAny_bind (wpAny_pure ?_)
    refine wpAny_bind ?_
    unfold seqSize
    refine wpAny_bind (wpAny_loadPart (c₃.base ga) ?_)
    refine wpAny_pure ?_
    refine wpAny_bind (wpAny_mkInt (wpAny_pure ⟨_, rfl, ?_⟩))
    have c₄ := c₃.ext (s' := { s₂ with heap := s₂.heap.push (bndObj "method-wrapper" "list.__len__" a), toks := s₂.toks + 1 + 1 }) (fun _ _ e => e) rfl rfl
    exact h _ _ c₄.ok c₄.st
end
end Mine
end

section
open PySem PySem.W PySem.Calls PyProof.Rows
set_option maxRecDepth 100000
set_option maxHeartbeats 8000000
namespace Mine
section
variable {w : World} {A : Around} {E : Value → Shared → Prop} {s : Shared} {Q : Value → Shared → Prop} {a d : Addr} {its : Array Value} {n : Nat} {i : Int} {hh : Int} {tk t : Tok}
theorem pop_sig : ∃ sig, Manifest.signature? "list.pop" = some sig ∧ ∀ x : Value, Bind.checkArgs "list.pop" { sig with full := toString "_Accumulator" ++ toString "." ++ toString "pop" } ⟨[x], []⟩ = pure () := by
  have h : (Manifest.signature? "list.pop").isSome = true := by decide +kernel
  obtain ⟨sig, hs⟩ := Option.isSome_iff_exists.mp h
  refine ⟨sig, hs, fun x => ?_⟩
  have h2 : (match Manifest.signature? "list.pop" with | some sig => Bind.checkArgs "list.pop" { sig with full := toString "_Accumulator" ++ toString "." ++ toString "pop" } ⟨[x], []⟩ | none => pure ()) = pure () := by kernel_rfl
  rw [hs] at h2
  exact h2
theorem qual200 (w : World) : (clsIn (KK w) 200).map (·.qualname.toString) = some "_Accumulator" := by kernel_rfl
theorem chk_pop {Q' : Unit → Shared → Prop} (X : (KK w).In s.heap) (I : InstAt s.heap a (accObj d its n) 200 (some (accDict hh tk i t))) (q : Q' () s) : wpAny (model PG w) A (checkBoundCall "list.pop" ⟨[.ref a], []⟩) Q' E s := by
  obtain ⟨sig, hs, ha⟩ := pop_sig
  have hq := qual200 w
  have hk : builtinKind "list.pop" = some .method := by decide +kernel
  have hv : Manifest.varargsMethods.contains "list.pop" = false := by decide +kernel
  have hlast : Bind.lastOf "list.pop" = "pop" := by decide +kernel
  have hi : Looks (model PG w) s.heap (isInstance (.ref a) (.type "module")) false := I.type.andThen (looks_subIn X (by kernel_rfl))
  obtain ⟨h, g, dd, tt, os⟩ := s
  cases hc : clsIn (KK w) 200 with
  | none => rw [hc] at hq; cases hq
  | some cd =>
    rw [hc] at hq
    have hqn : cd.qualname.toString = "_Accumulator" := Option.some.inj hq
    have hcd := looks_clsIn (M := model PG w) X hc
    have hty : Looks (model PG w) h (typeOf (.ref 200)) (.type "type") := looks_typeIn X (by kernel_rfl)
    unfold checkBoundCall
    rw [hs, hk, hlast]
    dsimp only
    rw [if_neg (by decide)]
    refine wpAny_bind (hi.at ?_)
    rw [hv, if_neg (by decide)]
    refine wpAny_bind (ks_wpAny_isType_inst I.at_ (fun c e => by cases e) ?_)
    rw [if_neg (by decide)]
    refine wpAny_bind (I.type.at ?_)
    dsimp only
    refine wpAny_bind (hcd.at (wpAny_bind (hty.at ?_)))
    rw [if_pos (by decide), hqn]
    exact wpAny_of_eq (ha _) q

theorem acc_pop {x : Value} {A : Around} {E : Value → Shared → Prop} {Q : Value → Shared → Prop} (ha : s.heap.get? a = some (accObj d (its.push x) n)) (hsz : its.size ≤ 100000)
    (h : ∀ s', Heap.SameBut a s.heap s'.heap → s'.heap.get? a = some (accObj d its (n + 1)) → s'.gens = s.gens → s'.os = s.os → Q x s') :
    wpAny (model PG w) A (Builtin.«list.pop» ⟨[.ref a], []⟩) (fun fin s' => ∃ v, fin = .done (.ret v) ∧ Q v s') E s := by
  unfold Builtin.«list.pop»
  refine wpAny_bind (wpAny_of_eq (a := (.ref a, [])) (by rfl) ?_)
  refine wpAny_bind (wpAny_of_eq (a := (-1 : Int)) (by rfl) ?_)
  dsimp only
  rw [if_neg (by decide +kernel)]
  have hz : (its.push x).size ≤ sizeLine := by rw [Array.size_push]; exact Nat.le_trans (Nat.succ_le_succ hsz) (by decide)
  refine wpAny_bind (wpAny_listItems ha rfl ?_)
  have e1 : (its.push x).isEmpty = false := by simp
  have e2 : seqIndex? (-1) (its.push x).size = some its.size := by
    unfold seqIndex?
    rw [Array.size_push]
    have : ((-1 : Int) < 0) = True := by simp
    simp only [this, if_true]
    have h2 : (-1 : Int) + ((its.size + 1 : Nat) : Int) = (its.size : Int) := by (exact om94)
    rw [h2]
    have h3 : (decide ((0 : Int) ≤ (its.size : Int)) && decide ((its.size : Int) < ((its.size + 1 : Nat) : Int))) = true := by
      rw [Bool.and_eq_true]; exact ⟨decide_eq_true (by (exact Int.natCast_nonneg _)), decide_eq_true (by (exact om95))⟩
    rw [if_pos h3]
    rfl
  have e3 : (its.push x)[its.size]? = some x := by simp
  rw [e1, if_neg (by decide), e2]
  simp only [Option.bind_some, e3, Option.map_some]
  show wpAny _ _ (updateSeq a (fun xs => xs.eraseIdxIfInBounds its.size) >>= fun _ => ret x) _ _ _
  have e4 : (its.push x).eraseIdxIfInBounds its.size = its := by
    apply Array.ext'
    simp only [Array.eraseIdxIfInBounds, Array.size_push, Nat.lt_succ_self, dif_pos, Array.toList_eraseIdx, Array.toList_push]
    rw [List.eraseIdx_append_of_length_le (by simp)]
    simp
  refine wpAny_bind (wpAny_updateSeq (xs := its.push x) (n := n) ha rfl (wpAny_pure ⟨x, rfl, h _ (Heap.SameBut.update ..) ?_ rfl rfl⟩) hz (by rw [e4]; exact Nat.le_succ_of_le (Nat.le_trans hsz (by decide))))
  rw [Heap.get?_update_self _ ha rfl]
  simp only [Obj.mapSeq, e4, Array.size_push]
  rw [if_neg (by simp)]

theorem acc_meth {name : Str} {f : Addr} {pl : Sem Bool} {Q : Value × List Value → Shared → Prop} (X : (KK w).In s.heap) (I : InstAt s.heap a (accObj d its n) 200 (some (accDict hh tk i t))) (h : Q (.ref f, [.ref a]) s)
    (hf : findIn (KK w) (.ref 200) name = some (some (.ref f)) := by kernel_rfl) (ht : typeIn (KK w) (.ref f) = some (.type "function") := by kernel_rfl)
    (hs : shadowIn (some (accDict hh tk i t)) name = some false := by rfl) :
    wpAny (model PG w) A (getMethod (.ref a) name pl) Q E s := method_lf (K := KK w) X I (by kernel_rfl) (by kernel_rfl) hf ht hs h

theorem pop_ok {x : Value} (O : Ok w s) (hroom : A.depth + 1 < recursionLimit) (Y : AccAt s.heap a d (its.push x) n i) (hsz : its.size ≤ 100000)
    (h : ∀ s', Ok w s' → St [a] s s' → AccAt s'.heap a d its (n + 1) i → Q x s') :
    wpAny (model PG w) A (call (.ref 160) [.ref a]) Q E s := by
  have hne := Y.ne
  obtain ⟨la, ld, oa, hh, tk, t, od⟩ := Y
  refine c_enterS (binds := [("self", .ref a)]) [(a, accObj d (its.push x) n)] O (Nat.lt_of_succ_lt hroom) (own1 la oa) fun g L s₁ c => ?_
  have gd : g.get? d = some (accDict hh tk i t) := c.B.all d _ (by simp [hne]) (not_tab ld) od
  have I : ∀ {m news s' its n}, Cx w g [a] s L m news s' → (a, accObj d its n) ∈ news → InstAt s'.heap a (accObj d its n) 200 (some (accDict hh tk i t)) := fun c q => accI (c.get q) (c.base gd)
  refine ks_wpAt_execs_cons (ks_wpAt_If (wpAt_of_wpAny (wpAny_isTrue_Compare1 (MethodCall_ (c_name c rfl ?_)))))
  refine acc_meth (f := 197) c.X (I c (.head _)) ?_
  refine callWith_K0 (K := KK w) c.X (by kernel_rfl) ?_
  refine part_count_ok c.ok hroom ⟨la, ld, c.get (.head _), hh, tk, t, c.base gd⟩ fun s₂ t₂ O₂ S₂ => ?_
  have c₂ := c.call0 S₂ O₂
  refine c_int c₂ fun s₃ t₃ c₃ => ?_
  refine eq_int (wpAny_truthy_bool ?_)
  have e1 : ((((its.push x).size : Nat) : Int) == 0) = false := by rw [Array.size_push]; exact beq_eq_false_iff_ne.mpr (by (exact om96 hsz))
  rw [e1, if_neg (by decide)]
  refine wpAt_of_wpAny (wpAny_execs_nil ?_)
  refine ks_wpAt_execs_cons (ks_wpAt_Return_some (ks_wpAt_MethodCall ?_))
  refine c_super c₃ rfl (I c₃ (.head _)) fun so s₄ c₄ hso => ?_
  refine super_meth c₄.X (c₄.get (.head _)) (ne200 la) (inst_is (K := KK w) (C := 200) c₄.X (I c₄ (.tail _ (.head _))) (by kernel_rfl)) (by kernel_rfl) (by decide) mdesc_pop S.owner_pop S.told_pop ?_
  have c₅ := Cx.new (a := s₄.heap.objs.size) (o := bndObj "builtin_function_or_method" "list.pop" a) (c₄.ext (s' := { s₄ with heap := s₄.heap.push (bndObj "builtin_function_or_method" "list.pop" a), toks := s₄.toks + 1 }) (fun _ _ e => Heap.get?_push_of_some _ e) rfl rfl) (Heap.get?_push_size _ rfl) c₄.lt
  refine bound0 (.inr rfl) (c₅.get (.head _)) (by decide +kernel) (fun q => ?_) PySem.F.entry_list_pop ?_
  · exact chk_pop c₅.X (I c₅ (.tail _ (.tail _ (.head _)))) q
  refine acc_pop (c₅.get (.tail _ (.tail _ (.head _)))) hsz fun s₆ hs₆ e₆ hg₆ ho₆ => ?_
  have c₆ := (c₅.drop (news' := [(a, accObj d (its.push x) n)]) (fun p hp => .tail _ (.tail _ hp))).upd (Upd.head (fun _ h => nomatch h)) la hs₆ e₆ hg₆ ho₆
  exact h s₆ c₆.ok c₆.st ⟨la, ld, e₆, hh, tk, t, c₆.base gd⟩
end
end Mine
end

section
open PySem PySem.W PySem.Calls PyProof.Rows
set_option maxRecDepth 100000
set_option maxHeartbeats 8000000
namespace Mine
section
variable {w : World} {A : Around} {E : Value → Shared → Prop} {s : Shared} {a d : Addr} {its ys : Array Value} {n ny : Nat} {i : Int} {hh : Int} {tk t : Tok} {sl l : Addr} {vl : Value} {lo : Option Int}
noncomputable abbrev listObj (its : Array Value) (n : Nat) : Obj := { cls := .type "list", data := .seq its n }
noncomputable abbrev sliceObj (l u st : Value) : Obj := { cls := .type "slice", data := .fields #[l, u, st] }

theorem acc_spec {name : Str} {id : String} {args : List Value} {Q : Option Value → Shared → Prop} (X : (KK w).In s.heap) (I : InstAt s.heap a (accObj d its n) 200 (some (accDict hh tk i t))) (hf : findIn (KK w) (.ref 200) name = some (some (.builtin id)))
    (hb : ∀ self, bindSpecial (.builtin id) self = pure (.builtin id, [self])) (h : wpAny (model PG w) A (call (.builtin id) (.ref a :: args)) (fun v => Q (some v)) E s) :
    wpAny (model PG w) A (callSpecial? (.ref a) name args) Q E s :=
  wpAny_bind (wpAny_bind (I.type.here ((looks_findIn X hf).here (wpAny_holding (wpAny_bind (wpAny_of_eq (hb _) (wpAny_bind (wpAny_mono h (fun _ _ z => wpAny_pure z) fun _ _ z => z))))))))
theorem acc_seqKey {k : Value} {name : Str} {Q : Value → Shared → Prop} (X : (KK w).In s.heap) (I : InstAt s.heap a (accObj d its n) 200 (some (accDict hh tk i t))) (h : Q k s) : wpAny (model PG w) A (sequenceKey (.ref a) k name) Q E s := by
  unfold sequenceKey
  refine wpAny_bind (I.type.here ?_)
  refine wpAny_bind ((anyM_none X (C := 200) (by kernel_rfl)).here ?_)
  rw [if_pos (show (!false) = true from rfl)]
  exact wpAny_pure h

noncomputable def cutAt (its : Array Value) (lo : Option Int) : Nat := (sliceBounds lo none none its.size).1.toNat
theorem set_slice {Q : Value → Shared → Prop} (ha : s.heap.get? a = some (accObj d its n)) (hs : s.heap.get? sl = some (sliceObj vl .none .none)) (pl : IsPart vl lo) (hl : s.heap.get? l = some (listObj ys ny)) (hsz : its.size + ys.size ≤ 100000)
    (h : ∀ s' n', Heap.SameBut a s.heap s'.heap → s'.heap.get? a = some (accObj d (its.extract 0 (cutAt its lo) ++ ys) n') → s'.gens = s.gens → s'.os = s.os → Q .none s') :
    wpAny (model PG w) A (Builtin.«list.__setitem__» ⟨[.ref a, .ref sl, .ref l], []⟩) (fun fin s' => ∃ v, fin = .done (.ret v) ∧ Q v s') E s := by
  have hTs : s.TypeIs (.ref sl) "slice" := ⟨_, hs, rfl⟩
  have hTl : s.TypeIs (.ref l) "list" := ⟨_, hl, rfl⟩
  have hne : l ≠ a := fun e => by rw [e, ha] at hl; cases hl
  unfold Builtin.«list.__setitem__»
  refine wpAny_bind (wpAny_of_eq (a := (.ref a, [.ref sl, .ref l])) (by rfl) ?_)
  dsimp only
  refine wpAny_bind ?_
  unfold Builtin.List.listSubscript?
  refine wpAny_bind (wpAny_specialOf hTs slice_no_index ?_)
  simp only [Option.isNone_none, if_true]
  refine wpAny_pure ?_
  refine wpAny_bind (wpAny_typeOf hTs ?_)
  rw [if_neg (by decide), listSliceParts_eq]
  refine wpAny_bind (wpAny_bind (wpAny_field hs rfl (x := .none) rfl (wpAny_bind (wpAny_listPart IsPart.none ?_))))
  rw [if_neg (by decide)]
  refine wpAny_bind (wpAny_field hs rfl (x := vl) rfl (wpAny_bind (wpAny_listPart pl ?_)))
  refine wpAny_bind (wpAny_field hs rfl (x := .none) rfl (wpAny_bind (wpAny_listPart IsPart.none (wpAny_pure ?_))))
  dsimp only
  have hsame : Builtin.List.listSameRef (.ref a) (.ref l) = false := by simp [Builtin.List.listSameRef, Ne.symm hne]
  rw [hsame, if_neg (by decide)]
  refine wpAny_bind ?_
  unfold Builtin.List.listAllItems
  refine wpAny_bind (wpAny_typeOf hTl ?_)
  rw [if_pos (by decide)]
  refine wpAny_listItems hl rfl ?_
  refine wpAny_bind (wpAny_listItems ha rfl ?_)
  refine wpAny_bind (wpAny_of_eq (sliceIndices_raw lo none none its.size (by simp)) ?_)
  have e1 : (sliceBounds lo none none its.size).2.1 = (its.size : Int) := rfl
  have e2 : (sliceBounds lo none none its.size).2.2 = 1 := rfl
  have e3 : (sliceBounds lo none none its.size).1 ≤ (its.size : Int) := by
    unfold sliceBounds
    cases lo with
    | none => simp
    | some k => simp only [Option.getD_none]; simp only [show ((1 : Int) > 0) = True from by simp, if_true]; (exact om97 hsz e1)
  generalize hsb : sliceBounds lo none none its.size = sb at e1 e2 e3 ⊢
  obtain ⟨st, sp, stp⟩ := sb
  dsimp only at e1 e2 e3 ⊢
  subst e1 e2
  rw [if_pos (by decide)]
  refine wpAny_bind (wpAny_rule ?_)
  have e4 : Builtin.List.listTooLong (its.size + ys.size) = false := by
    unfold Builtin.List.listTooLong
    exact decide_eq_false (Nat.not_lt.mpr (Nat.le_trans hsz (by decide)))
  rw [e4, if_neg (by decide)]
  have e5 : (max st (its.size : Int)).toNat = its.size := by (exact om98 e3)
  have e6 : st.toNat ≤ its.size := by (exact om99 hsz e3 e5)
  have ecut : st.toNat = cutAt its lo := by unfold cutAt; rw [hsb]
  rw [e5]
  have hf : (its.extract 0 st.toNat ++ ys ++ its.extract its.size its.size) = its.extract 0 (cutAt its lo) ++ ys := by
    rw [← ecut]; apply Array.ext'; simp
  have hz : its.size ≤ sizeLine := Nat.le_trans (Nat.le_trans (Nat.le_add_right _ _) hsz) (by decide)
  have hz2 : (its.extract 0 st.toNat ++ ys ++ its.extract its.size its.size).size ≤ sizeLine + 1 := by
    rw [hf, ← ecut]
    simp only [Array.size_append, Array.size_extract]
    exact Nat.le_succ_of_le (Nat.le_trans (by (exact om100 hsz e5 e6 ecut)) (Nat.le_trans hsz (by decide)))
  show wpAny _ _ (updateSeq a (fun xs => xs.extract 0 st.toNat ++ ys ++ xs.extract its.size xs.size) >>= _) _ _ _
  refine wpAny_bind (wpAny_updateSeq (xs := its) (n := n) ha rfl ?_ hz hz2)
  refine wpAny_bind (wpAny_letGo (wpAny_pure ⟨.none, rfl, h _ (if (its.extract 0 (cutAt its lo) ++ ys).size == its.size then n else n + 1) (Heap.SameBut.update ..) ?_ rfl rfl⟩))
  rw [Heap.get?_update_self _ ha rfl]
  simp only [Obj.mapSeq, hf]

theorem pick_from {its : Array Value} {lo : Option Int} : slicePick its lo none none = its.extract (cutAt its lo) its.size := by
  have e1 : (sliceBounds lo none none its.size).2.1 = (its.size : Int) := rfl
  have e2 : (sliceBounds lo none none its.size).2.2 = 1 := rfl
  have e0 : 0 ≤ (sliceBounds lo none none its.size).1 ∧ (sliceBounds lo none none its.size).1 ≤ (its.size : Int) := by
    unfold sliceBounds
    cases lo with
    | none => simp
    | some k => simp only [Option.getD_none]; simp only [show ((1 : Int) > 0) = True from by simp, if_true]; (exact om101)
  unfold slicePick cutAt
  generalize sliceBounds lo none none its.size = sb at e1 e2 e0 ⊢
  obtain ⟨st, sp, stp⟩ := sb
  dsimp only at e1 e2 e0 ⊢
  subst e1 e2
  obtain ⟨k, rfl⟩ := Int.eq_ofNat_of_zero_le e0.1
  have hk : k ≤ its.size := by (exact om102 e0)
  have hr : sliceRange (k : Int) (its.size : Int) 1 = (List.range (its.size - k)).map fun j => k + j := by
    unfold sliceRange
    have hc : ((if (1 : Int) > 0 then (if (k : Int) < (its.size : Int) then ((its.size : Int) - (k : Int) + 1 - 1) / 1 else 0) else (if (k : Int) > (its.size : Int) then ((k : Int) - (its.size : Int) - 1 - 1) / (-1) else 0)) : Int).toNat = its.size - k := by
      rw [if_pos (by decide)]
      split <;> lia
    simp only [hc]
    apply List.map_congr_left
    intro j _
    (exact om105 e0)
  rw [hr]
  apply Array.ext'
  simp only [List.filterMap_map, Int.toNat_natCast, Array.toList_extract]
  apply List.ext_getElem?
  intro j
  have key : ∀ m, (List.range m).filterMap (fun j => its[k + j]?) = ((its.toList.drop k).take m) ∨ its.size < k + m := by
    intro m
    induction m with
    | zero => left; simp
    | succ m ih =>
      rcases ih with ih | ih
      · by_cases hlt : k + m < its.size
        · left
          rw [List.range_succ, List.filterMap_append, ih]
          have : its[k + m]? = some its[k + m] := by simp [hlt]
          simp only [List.filterMap_cons, this, List.filterMap_nil]
          rw [List.take_add_one]
          congr 1
          simp [hlt]
        · right; (exact om106 hlt)
      · right; (exact Nat.le_succ_of_le (by assumption))
  rcases key (its.size - k) with e | e
  · have : (fun j => its[k + j]?) = ((fun x => its[x]?) ∘ fun j => k + j) := rfl
    rw [← this, e]
  · (exact (om107 e0 e).elim)

theorem get_slice {Q : Value → Shared → Prop} (ha : s.heap.get? a = some (accObj d its n)) (hs : s.heap.get? sl = some (sliceObj vl .none .none)) (pl : IsPart vl lo) (hsz : its.size ≤ 100000)
    (h : Q (.ref s.heap.objs.size) { s with heap := s.heap.push (listObj (its.extract (cutAt its lo) its.size) 0) }) :
    wpAny (model PG w) A (Builtin.«list.__getitem__» ⟨[.ref a, .ref sl], []⟩) (fun fin s' => ∃ v, fin = .done (.ret v) ∧ Q v s') E s := by
  have hTs : s.TypeIs (.ref sl) "slice" := ⟨_, hs, rfl⟩
  show wpAny _ _ (Builtin.List.listSubscript? (.ref sl) >>= _) _ _ s
  refine wpAny_bind ?_
  unfold Builtin.List.listSubscript?
  refine wpAny_bind (wpAny_specialOf hTs slice_no_index ?_)
  simp only [Option.isNone_none, if_true]
  refine wpAny_pure ?_
  show wpAny _ _ (typeOf (.ref sl) >>= _) _ _ s
  refine wpAny_bind (wpAny_typeOf hTs ?_)
  rw [if_neg (by decide), listSliceParts_eq]
  refine wpAny_bind (wpAny_bind (wpAny_field hs rfl (x := .none) rfl (wpAny_bind (wpAny_listPart IsPart.none ?_))))
  rw [if_neg (by decide)]
  refine wpAny_bind (wpAny_field hs rfl (x := vl) rfl (wpAny_bind (wpAny_listPart pl ?_)))
  refine wpAny_bind (wpAny_field hs rfl (x := .none) rfl (wpAny_bind (wpAny_listPart IsPart.none (wpAny_pure ?_))))
  refine wpAny_bind (wpAny_listItems ha rfl ?_)
  refine wpAny_bind (wpAny_of_eq (sliceIndices_raw lo none none its.size (by simp)) ?_)
  have hz : (slicePick its lo none none).size ≤ sizeLine := Nat.le_trans (slicePick_size_le ..) (Nat.le_trans hsz (by decide))
  refine wpAny_bind (wpAny_newObj_type (wpAny_pure ⟨_, rfl, ?_⟩) hz)
  rw [← pick_from] at h
  exact h
end
end Mine
end

section
open PySem PySem.W PySem.Calls PyProof.Rows
set_option maxRecDepth 100000
set_option maxHeartbeats 8000000
namespace Mine
section
variable {w : World} {A : Around} {E : Value → Shared → Prop} {s : Shared} {a d : Addr} {its ys : Array Value} {n ny : Nat} {i : Int} {hh : Int} {tk t : Tok} {sl l : Addr} {vl : Value} {lo : Option Int}

theorem acc_tail {value slice : Expr} {j : Value} {ops : List Value} {Q : Value → Shared → Prop} (X : (KK w).In s.heap) (I : InstAt s.heap a (accObj d its n) 200 (some (accDict hh tk i t))) (hs : subscripted slice false (.ref a) j = operate ops (getItem (.ref a) j))
    (h : wpAny (model PG w) A.in1 (Builtin.«list.__getitem__» ⟨[.ref a, j], []⟩) (fun fin s' => ∃ v, fin = .done (.ret v) ∧ Q v s') E s) :
    wpAny (model PG w) A (subscriptTail value slice (.ref a) j) Q E s := by
  unfold subscriptTail getitemInPython
  have hf : findIn (KK w) (.ref 200) "__getitem__" = some (some (.builtin "list.__getitem__")) := by kernel_rfl
  refine wpAny_bind (wpAny_bind (wpAny_bind (I.type.here ((looks_findIn X hf).here ?_))))
  refine wpAny_pure ?_
  rw [hs]
  refine wpAny_bind (wpAny_operate' ?_)
  unfold getItem
  refine wpAny_holding (wpAny_bind (acc_seqKey X I ?_))
  refine wpAny_bind (acc_spec X I hf PySem.F.slot_list_getitem.bind ?_)
  refine call_bi (owner := "list") (n := "__getitem__") (by decide +kernel) (.inl (by decide +kernel)) (by decide +kernel) (inst_is (K := KK w) (C := 200) X I (by kernel_rfl)) PySem.F.entry_list_getitem (PySem.F.args_list_getitem_2 _ _) ?_
  refine wpAny_mono h (fun fin s' z => ?_) fun _ _ z => z
  obtain ⟨v, e, q⟩ := z
  exact ⟨v, e, wpAny_pure (wpAny_bind (wpAny_letTemporaryGo (wpAny_pure q)))⟩

theorem acc_setItem {j v : Value} {Q : Unit → Shared → Prop} (X : (KK w).In s.heap) (I : InstAt s.heap a (accObj d its n) 200 (some (accDict hh tk i t)))
    (h : wpAny (model PG w) A.in1 (Builtin.«list.__setitem__» ⟨[.ref a, j, v], []⟩) (fun fin s' => ∃ v, fin = .done (.ret v) ∧ Q () s') E s) :
    wpAny (model PG w) A (setItem (.ref a) j v) Q E s := by
  have hf : findIn (KK w) (.ref 200) "__setitem__" = some (some (.builtin "list.__setitem__")) := by kernel_rfl
  unfold setItem
  refine wpAny_holding (wpAny_bind (acc_seqKey X I ?_))
  refine wpAny_bind (acc_spec X I hf PySem.F.slot_list_setitem.bind ?_)
  refine call_bi (owner := "list") (n := "__setitem__") (by decide +kernel) (.inr (by decide +kernel)) (by decide +kernel) (inst_is (K := KK w) (C := 200) X I (by kernel_rfl)) PySem.F.entry_list_setitem (PySem.F.args_list_setitem_3 _ _ _) ?_
  refine wpAny_mono h (fun fin s' z => ?_) fun _ _ z => z
  obtain ⟨v, e, q⟩ := z
  exact ⟨v, e, wpAny_pure q⟩

theorem get_int {k : Int} {u : Tok} {v : Value} {Q : Value → Shared → Prop} (ha : s.heap.get? a = some (accObj d its n)) (h0 : 0 ≤ k) (h63 : k < 2 ^ 63) (hv : its[k.toNat]? = some v) (h : Q v s) :
    wpAny (model PG w) A (Builtin.«list.__getitem__» ⟨[.ref a, .int k u], []⟩) (fun fin s' => ∃ v, fin = .done (.ret v) ∧ Q v s') E s := by
  show wpAny _ _ (Builtin.List.listSubscript? (.int k u) >>= _) _ _ s
  refine wpAny_bind ?_
  unfold Builtin.List.listSubscript?
  refine wpAny_bind (wpAny_specialOf (T := "int") (typeIs_int s k u) int_index ?_)
  simp only [Option.isNone_some, Bool.false_eq_true, if_false]
  refine wpAny_bind (wpAny_of_eq (a := k) rfl ?_)
  have hfit : Builtin.List.listFitsIndex k = true := by
    unfold Builtin.List.listFitsIndex
    rw [Bool.and_eq_true]
    exact ⟨decide_eq_true (by (exact om108 h0 h63)), decide_eq_true h63⟩
  rw [hfit]
  refine wpAny_pure ?_
  obtain ⟨m, rfl⟩ := Int.eq_ofNat_of_zero_le h0
  dsimp only
  refine wpAny_bind ?_
  show wpAny _ _ (seqItemAt a m >>= _) _ _ s
  unfold seqItemAt
  refine wpAny_bind (wpAny_bind (wpAny_loadPart ha ?_))
  refine wpAny_pure (wpAny_pure ?_)
  have hv' : its[m]? = some v := hv
  rw [hv']
  exact wpAny_pure ⟨v, rfl, h⟩

theorem cut_nat {k : Nat} (hk : k ≤ its.size) : cutAt its (some (k : Int)) = k := by
  unfold cutAt sliceBounds
  simp only [Option.getD_none]
  simp only [show ((1 : Int) > 0) = True from by simp, if_true]
  lia
theorem cut_none : cutAt its none = 0 := by
  unfold cutAt sliceBounds
  simp
theorem pop_from_ok {k : Nat} {u : Tok} {Q : Value → Shared → Prop} (O : Ok w s) (hroom : A.depth < recursionLimit) (Y : AccAt s.heap a d its n i) (hsz : its.size ≤ 100000) (hk : k ≤ its.size)
    (h : ∀ s' l n', Ok w s' → St [a] s s' → AccAt s'.heap a d (its.extract 0 k) n' i → s'.heap.get? l = some (listObj (its.extract k its.size) 0) → (s.heap.objs.size : Nat) < l → Q (.ref l) s') :
    wpAny (model PG w) A (call (.ref 152) [.ref a, .int k u]) Q E s := by
  have hne := Y.ne
  obtain ⟨la, ld, oa, hh, tk, t, od⟩ := Y
  refine c_enter (binds := [("self", .ref a), ("i", .int k u)]) [(a, accObj d its n)] O hroom (own1 la oa) (fun g L s₁ c => ?_) (hbind := BindsTo.of_defaults rfl (O.gd.look (by k_is) rfl) rfl rfl rfl)
  have gd : g.get? d = some (accDict hh tk i t) := c.B.all d _ (by simp [hne]) (not_tab ld) od
  have I : ∀ {m news s' its n}, Cx w g [a] s L m news s' → (a, accObj d its n) ∈ news → InstAt s'.heap a (accObj d its n) 200 (some (accDict hh tk i t)) := fun c q => accI (c.get q) (c.base gd)
  refine wpAny_execs_cons (wpAny_Assign_Name (Subscript_ (c_name c rfl (wpAny_Slice (wpAny_evalPart_some (c_name c rfl (wpAny_evalPart_none (wpAny_evalPart_none ?_))))))))
  have c₂ := Cx.new (a := s₁.heap.objs.size) (o := sliceObj (.int k u) .none .none) (c.ext (s' := { s₁ with heap := s₁.heap.push (sliceObj (.int k u) .none .none) }) (fun _ _ e => Heap.get?_push_of_some _ e) rfl rfl) (Heap.get?_push_size _ rfl) c.lt
  refine acc_tail (ops := [.ref s₁.heap.objs.size, .ref a]) c₂.X (I c₂ (.tail _ (.head _))) rfl ?_
  refine get_slice (c₂.get (.tail _ (.head _))) (c₂.get (.head _)) (IsPart.int k u) hsz ?_
  rw [cut_nat hk]
  generalize hs₂ : ({ s₁ with heap := s₁.heap.push (sliceObj (.int k u) .none .none) } : Shared) = s₂ at c₂ ⊢
  have c₃ := Cx.new (a := s₂.heap.objs.size) (o := listObj (its.extract k its.size) 0) (c₂.ext (s' := { s₂ with heap := s₂.heap.push (listObj (its.extract k its.size) 0) }) (fun _ _ e => Heap.get?_push_of_some _ e) rfl rfl) (Heap.get?_push_size _ rfl) c₂.lt
  have l₃ := c₂.lt
  have hs₁ : s₁.heap.objs.size < s₂.heap.objs.size := by rw [← hs₂]; exact Nat.lt_of_lt_of_eq (Nat.lt_succ_self _) (Heap.size_push _ _).symm
  generalize s₂.heap.objs.size = l at c₃ l₃ hs₁ ⊢
  refine c_store c₃ fun s₄ c₄ => ?_
  refine wpAny_execs_cons (wpAny_Assign_Subscript (List_ (spliced_none (c_list c₄ fun s₅ e c₅ he => ?_))))
  refine c_name c₅ rfl ?_
  refine wpAny_Slice (wpAny_evalPart_some (c_name c₅ rfl (wpAny_evalPart_none (wpAny_evalPart_none ?_))))
  have c₆ := Cx.new (a := s₅.heap.objs.size) (o := sliceObj (.int k u) .none .none) (c₅.ext (s' := { s₅ with heap := s₅.heap.push (sliceObj (.int k u) .none .none) }) (fun _ _ e => Heap.get?_push_of_some _ e) rfl rfl) (Heap.get?_push_size _ rfl) c₅.lt
  refine acc_setItem c₆.X (I c₆ (.tail _ (.tail _ (.tail _ (.tail _ (.head _)))))) ?_
  refine set_slice (lo := some (k : Int)) (c₆.get (.tail _ (.tail _ (.tail _ (.tail _ (.head _)))))) (c₆.get (.head _)) (IsPart.int k u) (c₆.get (.tail _ (.head _))) (by simpa using hsz) fun s₇ n₇ hs₇ e₇ hg₇ ho₇ => ?_
  have hal : l ≠ a := fun q => absurd (Heap.lt_size oa) (by rw [← q]; exact Nat.lt_asymm l₃)
  have c₇ := (c₆.drop (news' := [(l, listObj (its.extract k its.size) 0), (a, accObj d its n)]) (fun p hp => .tail _ (.tail _ (by cases hp with | head => exact .head _ | tail _ hp => exact .tail _ (.tail _ hp))))).upd (Upd.tail hal (Upd.head (fun _ h => nomatch h))) la hs₇ e₇ hg₇ ho₇
  refine wpAny_execs_cons (wpAny_Return_some (c_name c₇ rfl ?_))
  have hc : its.extract 0 (cutAt its (some (k : Int))) ++ #[] = its.extract 0 k := by rw [cut_nat hk]; simp
  refine h s₇ l n₇ c₇.ok c₇.st ⟨la, ld, ?_, hh, tk, t, c₇.base gd⟩ (c₇.get (.head _)) l₃
  rw [← hc]; exact e₇
end
end Mine
end

section
open PySem PySem.W PySem.Calls PyProof.Rows Builtin Builtin.ObjectAttr
set_option maxRecDepth 100000
set_option maxHeartbeats 8000000
namespace Mine
theorem refuse_list (self : Value) : refuseLoop self "__setattr__" [.ref 200, .type "list", .type "object"] = pure () := by
  rw [refuseLoop_ref]
  have h : builtinOwn "list" "__setattr__" = none := by rw [builtinOwn_eq_fast]; decide +kernel
  have : refuseLoop self "__setattr__" [.type "list", .type "object"] = refuseLoop self "__setattr__" [.type "object"] := by
    conv => lhs; unfold refuseLoop
    simp only [List.forIn_cons, classOwn, h]
    rw [if_neg (by decide), if_neg (by decide)]
    rfl
  rw [this]
  exact PySem.F.store_object.passes self
section
variable {w : World} {A : Around} {E : Value → Shared → Prop} {s : Shared} {a d : Addr} {its : Array Value} {n : Nat} {hh : Int} {tk t : Tok} {es : List DictEntry} {k : Nat}
theorem acc_setAttr {v : Value} {Q : Unit → Shared → Prop} (X : (KK w).In s.heap) (ha : s.heap.get? a = some (accObj d its n)) (hd : s.heap.get? d = some (dictOf es k)) (hl : (lookIn "_initial_size" (dictOf es k)).isSome = true)
    {es' : List DictEntry} {k' : Nat} (e : Obj.putName "_initial_size" (PyData.keyHash w.params "_initial_size") (.str "_initial_size" (s.toks + 1)) v (dictOf es k) = dictOf es' k') (hz : es'.length ≤ 1000)
    (h : ∀ s', Heap.SameBut d s.heap s'.heap → s'.heap.get? d = some (dictOf es' k') → s'.gens = s.gens → s'.os = s.os → Q () s') :
    wpAny (model PG w) A (setAttr (.ref a) "_initial_size" v) Q E s := by
  have I : InstAt s.heap a (accObj d its n) 200 (some (dictOf es k)) := ⟨ha, rfl, rfl, hd⟩
  have SF := PySem.F.store_object
  refine set_plain (K := KK w) X I (by kernel_rfl) ?_
  have sub : Looks (model PG w) s.heap (isInstance (.ref a) (.type "object")) true := I.type.andThen (looks_subIn X (by kernel_rfl))
  refine codeAny_call_builtin SF.slot.plain SF.entry (@check_slot (model PG w) _ _ { s with toks := s.toks + 1 } "object.__setattr__" "object" "__setattr__" (.ref a) [.str "_initial_size" s.toks, v] [] _ SF.kind SF.split sub (SF.args (.ref a) (.str "_initial_size" s.toks) v) ?_)
  have hm := looks_mro200 (prog := PG) X
  rw [osa_eq, refuse_eq]
  obtain ⟨hp, g, dd, tt, os⟩ := s
  refine wpAny_bind (wpAny_bind (I.type.at (wpAny_bind (hm.at ?_))))
  rw [refuse_list]
  have hf : findIn (KK w) (.ref 200) "_initial_size" = some none := by kernel_rfl
  refine wpAny_pure (wpAny_bind (I.type.at (wpAny_bind ((looks_findIn X hf).at (wpAny_bind (wpAny_pure ?_))))))
  dsimp only
  have hcd : (clsIn (KK w) 200).map (·.hasDict) = some true := by kernel_rfl
  cases hc : clsIn (KK w) 200 with
  | none => rw [hc] at hcd; cases hcd
  | some cd =>
    rw [hc] at hcd
    have hd' : cd.hasDict = true := Option.some.inj hcd
    have D' := Heap.get?_update_self (h := hp) (Obj.putName "_initial_size" (PyData.keyHash w.params "_initial_size") (.str "_initial_size" (tt + 1)) v) hd (by rw [e]; rfl)
    refine wpAny_bind (wpAny_pure (wpAny_bind (wpAny_bind (wpAny_loadPart ha (wpAny_bind ((looks_clsIn X hc).at ?_))))))
    rw [hd']
    refine wpAny_pure (a := some d) (wpAny_bind (wpAny_pure (wpAny_bind ?_)))
    unfold nsSet
    refine wpAny_bind (wpAny_bind (wpAny_askSetting (wpAny_pure (wpAny_bind (wpAny_mkText (wpAny_bind (wpAny_loadPart hd ?_)))))))
    have c : (!es.toArray.any (·.key.isStr "_initial_size") && es.toArray.any (·.refKey)) = false := by
      unfold lookIn at hl
      dsimp only at hl
      rw [← Array.any_toList, ← Array.any_toList]
      split at hl
      · rename_i en he
        rw [List.any_eq_true.mpr ⟨en, List.mem_of_find?_eq_some he, List.find?_some he⟩]; rfl
      · split at hl
        · cases hl
        · rename_i z; rw [Bool.not_eq_true] at z; rw [z, Bool.and_false]
    dsimp only
    rw [aRefKeyMayBeTheName_at, c]
    refine wpAny_updatePart hd ?_
    rw [e] at D'
    refine wpAny_bind (wpAny_lookBehind D' (pastItsLine_dict (by rw [List.size_toArray, sizeLine_eq]; (exact om86 hz))) ?_)
    exact wpAny_pure (h _ (Heap.SameBut.update ..) D' rfl rfl)
end
end Mine
end

section
open PySem PySem.W PySem.Calls PyProof.Rows
set_option maxRecDepth 100000
set_option maxHeartbeats 8000000
namespace Mine
theorem own2 {a b : Addr} {o o' : Obj} {s : Shared} (la : (238 : Nat) ≤ a) (oa : s.heap.get? a = some o) (lb : (238 : Nat) ≤ b) (ob : s.heap.get? b = some o') : ∀ p ∈ [(a, o), (b, o')], (238 : Nat) ≤ p.1 ∧ s.heap.get? p.1 = some p.2 := fun p hp => by
  cases hp with | head => exact ⟨la, oa⟩ | tail _ hp => cases hp with | head => exact ⟨lb, ob⟩ | tail _ h => cases h
section
variable {w : World} {A : Around} {E : Value → Shared → Prop} {s : Shared} {a d : Addr} {its ys : Array Value} {n ny : Nat} {i : Int} {l : Addr} {u : Tok} {Q : Value → Shared → Prop}
theorem put_init {hh : Int} {tk t : Tok} {k : Int} {v : Value} {tt : Tok} : Obj.putName "_initial_size" k (.str "_initial_size" tt) v (accDict hh tk i t) = dictOf [⟨hh, .str (Str.ofString "_initial_size") tk, v⟩] 1 := by rfl

theorem reset_ok (O : Ok w s) (hroom : A.depth < recursionLimit) (Y : AccAt s.heap a d its n i) (ll : (238 : Nat) ≤ l) (ol : s.heap.get? l = some (listObj ys ny)) (hsz : its.size + ys.size ≤ 100000)
    (h : ∀ s' n', Ok w s' → St [a, d] s s' → AccAt s'.heap a d ys n' 0 → Q .none s') :
    wpAny (model PG w) A (call (.ref 182) [.ref a, .ref l]) Q E s := by
  have hne := Y.ne
  obtain ⟨la, ld, oa, hh, tk, t, od⟩ := Y
  have hla : l ≠ a := fun e => by rw [e, oa] at ol; cases ol
  have hld : l ≠ d := fun e => by rw [e, od] at ol; have := congrArg (fun o => o.map Obj.data) ol; cases this
  refine c_enter (binds := [("self", .ref a), ("startval", .ref l)]) [(a, accObj d its n), (d, accDict hh tk i t)] O hroom (own2 la oa ld od) (fun g L s₁ c => ?_) (hbind := BindsTo.of_defaults rfl (O.gd.look (by k_is) rfl) rfl rfl rfl)
  have gl : g.get? l = some (listObj ys ny) := c.B.all l _ (by simp [hla, hld]) (not_tab ll) ol
  refine wpAny_execs_cons (wpAny_If (wpAny_isTrue_Compare1 (c_name c rfl ?_)))
  refine wpAny_Constant_none ?_
  refine is_ref_none (wpAny_truthy_bool ?_)
  rw [if_neg (by decide)]
  refine wpAny_execs_nil ?_
  refine wpAny_execs_cons (wpAny_Assign_Subscript (c_name c rfl (c_name c rfl ?_)))
  refine wpAny_Slice (wpAny_evalPart_none (wpAny_evalPart_none (wpAny_evalPart_none ?_)))
  have c₂ := Cx.new (a := s₁.heap.objs.size) (o := sliceObj .none .none .none) (c.ext (s' := { s₁ with heap := s₁.heap.push (sliceObj .none .none .none) }) (fun _ _ e => Heap.get?_push_of_some _ e) rfl rfl) (Heap.get?_push_size _ rfl) c.lt
  refine acc_setItem c₂.X (accI (c₂.get (.tail _ (.head _))) (c₂.get (.tail _ (.tail _ (.head _))))) ?_
  refine set_slice (lo := none) (c₂.get (.tail _ (.head _))) (c₂.get (.head _)) IsPart.none (c₂.base gl) hsz fun s₃ n₃ hs₃ e₃ hg₃ ho₃ => ?_
  have hc : its.extract 0 (cutAt its none) ++ ys = ys := by rw [cut_none]; simp
  rw [hc] at e₃
  have c₃ := (c₂.drop (news' := [(a, accObj d its n), (d, accDict hh tk i t)]) (fun p hp => .tail _ hp)).upd (Upd.head (fun p hp => by cases hp with | head => exact hne | tail _ h => cases h)) la hs₃ e₃ hg₃ ho₃
  refine wpAny_execs_cons (plainObj_wpAny_Assign_Attribute (c_int c₃ fun s₄ t₄ c₄ => c_name c₄ rfl ?_))
  refine acc_setAttr c₄.X (c₄.get (.head _)) (c₄.get (.tail _ (.head _))) rfl put_init (by simp) fun s₅ hs₅ e₅ hg₅ ho₅ => ?_
  have c₅ := c₄.upd (Upd.tail (Ne.symm hne) (Upd.head (fun _ h => nomatch h))) ld hs₅ e₅ hg₅ ho₅
  refine wpAny_execs_nil ?_
  exact h s₅ n₃ c₅.ok c₅.st ⟨la, ld, c₅.get (.head _), hh, tk, t₄, e₅⟩

theorem reset0_ok (O : Ok w s) (hroom : A.depth < recursionLimit) (Y : AccAt s.heap a d its n i) (hsz : its.size ≤ 100000)
    (h : ∀ s' n', Ok w s' → St [a, d] s s' → AccAt s'.heap a d #[] n' 0 → Q .none s') :
    wpAny (model PG w) A (call (.ref 182) [.ref a]) Q E s := by
  have hne := Y.ne
  obtain ⟨la, ld, oa, hh, tk, t, od⟩ := Y
  refine c_enter (binds := [("self", .ref a), ("startval", .none)]) [(a, accObj d its n), (d, accDict hh tk i t)] O hroom (own2 la oa ld od) (fun g L s₁ c => ?_) (hbind := BindsTo.of_defaults rfl (O.gd.look (by k_is) rfl) rfl rfl rfl)
  refine wpAny_execs_cons (wpAny_If (wpAny_isTrue_Compare1 (c_name c rfl ?_)))
  refine wpAny_Constant_none ?_
  refine is_none_none (wpAny_truthy_bool ?_)
  rw [if_pos (by decide)]
  refine wpAny_execs_cons (wpAny_Assign_Name (List_ (spliced_none (c_list c fun s₂ l c₂ hl => ?_))))
  refine c_store c₂ fun s₃ c₃ => ?_
  refine wpAny_execs_nil ?_
  refine wpAny_execs_cons (wpAny_Assign_Subscript (c_name c₃ rfl (c_name c₃ rfl ?_)))
  refine wpAny_Slice (wpAny_evalPart_none (wpAny_evalPart_none (wpAny_evalPart_none ?_)))
  have c₄ := Cx.new (a := s₃.heap.objs.size) (o := sliceObj .none .none .none) (c₃.ext (s' := { s₃ with heap := s₃.heap.push (sliceObj .none .none .none) }) (fun _ _ e => Heap.get?_push_of_some _ e) rfl rfl) (Heap.get?_push_size _ rfl) c₃.lt
  refine acc_setItem c₄.X (accI (c₄.get (.tail _ (.tail _ (.head _)))) (c₄.get (.tail _ (.tail _ (.tail _ (.head _)))))) ?_
  refine set_slice (lo := none) (c₄.get (.tail _ (.tail _ (.head _)))) (c₄.get (.head _)) IsPart.none (c₄.get (.tail _ (.head _))) (by simpa using hsz) fun s₅ n₅ hs₅ e₅ hg₅ ho₅ => ?_
  have hc : its.extract 0 (cutAt its none) ++ #[] = #[] := by rw [cut_none]; simp
  rw [hc] at e₅
  have c₅ := (c₄.drop (news' := [(a, accObj d its n), (d, accDict hh tk i t)]) (fun p hp => .tail _ (.tail _ hp))).upd (Upd.head (fun p hp => by cases hp with | head => exact hne | tail _ h => cases h)) la hs₅ e₅ hg₅ ho₅
  refine wpAny_execs_cons (plainObj_wpAny_Assign_Attribute (c_int c₅ fun s₆ t₆ c₆ => c_name c₆ rfl ?_))
  refine acc_setAttr c₆.X (c₆.get (.head _)) (c₆.get (.tail _ (.head _))) rfl put_init (by simp) fun s₇ hs₇ e₇ hg₇ ho₇ => ?_
  have c₇ := c₆.upd (Upd.tail (Ne.symm hne) (Upd.head (fun _ h => nomatch h))) ld hs₇ e₇ hg₇ ho₇
  refine wpAny_execs_nil ?_
  exact h s₇ n₅ c₇.ok c₇.st ⟨la, ld, c₇.get (.head _), hh, tk, t₆, e₇⟩

theorem pop0_ok (O : Ok w s) (hroom : A.depth + 1 < recursionLimit) (Y : AccAt s.heap a d #[] n i)
    (h : ∀ s' x t1 t2, Ok w s' → St [] s s' → s'.heap.get? x = some (tupObj #[.str (Str.ofString "") t1, .str (Str.ofString "") t2]) → (s.heap.objs.size : Nat) < x → Q (.ref x) s') :
    wpAny (model PG w) A (call (.ref 160) [.ref a]) Q E s := by
  obtain ⟨la, ld, oa, hh, tk, t, od⟩ := Y
  refine c_enterS (binds := [("self", .ref a)]) [] O (Nat.lt_of_succ_lt hroom) no_own fun g L s₁ c => ?_
  have gd : g.get? d = some (accDict hh tk i t) := c.B.all d _ (fun h => nomatch h) (not_tab ld) od
  have ga : g.get? a = some (accObj d #[] n) := c.B.all a _ (fun h => nomatch h) (not_tab la) oa
  refine ks_wpAt_execs_cons (ks_wpAt_If (wpAt_of_wpAny (wpAny_isTrue_Compare1 (MethodCall_ (c_name c rfl ?_)))))
  refine acc_meth (f := 197) c.X (accI (c.base ga) (c.base gd)) ?_
  refine callWith_K0 (K := KK w) c.X (by kernel_rfl) ?_
  refine part_count_ok c.ok hroom ⟨la, ld, c.base ga, hh, tk, t, c.base gd⟩ fun s₂ t₂ O₂ S₂ => ?_
  have c₂ := c.call0 S₂ O₂
  refine c_int c₂ fun s₃ t₃ c₃ => ?_
  refine eq_int (wpAny_truthy_bool ?_)
  rw [if_pos (by decide)]
  refine wpAt_of_wpAny (wpAny_execs_cons (wpAny_Return_some (Tuple_ (spliced_more (c_str c₃ fun s₄ t1 c₄ => spliced_more (c_str c₄ fun s₅ t2 c₅ => spliced_none ?_))))))
  refine c_tuple c₅ fun s₆ x c₆ hx => ?_
  exact h s₆ x t1 t2 c₆.ok c₆.st (c₆.get (.head _)) (hx ▸ c₅.lt)
end
end Mine
end

section
open PySem PySem.W PySem.Calls PyProof.Rows
set_option maxRecDepth 100000
set_option maxHeartbeats 8000000
namespace Mine
noncomputable def Pair (h : Heap) (v : Value) (p : Str × Str) : Prop := ∃ T t1 t2, v = .ref T ∧ (238 : Nat) ≤ T ∧ h.get? T = some (tupObj #[.str p.1 t1, .str p.2 t2])
structure PairsAt (h : Heap) (its : Array Value) (ps : List (Str × Str)) : Prop where
  size : its.size = ps.length
  at_ : ∀ (j : Nat) p, ps[j]? = some p → ∃ v, its[j]? = some v ∧ Pair h v p
noncomputable def refsOf : List Value → List Addr
  | [] => []
  | .ref a :: r => a :: refsOf r
  | _ :: r => refsOf r
theorem mem_refs {l : List Value} {T : Addr} (h : Value.ref T ∈ l) : T ∈ refsOf l := by
  induction l with
  | nil => cases h
  | cons x r ih =>
    cases h with
    | head => exact .head _
    | tail _ h => cases x <;> first | exact ih h | exact .tail _ (ih h)
theorem PairsAt.of {h h' : Heap} {its : Array Value} {ps : List (Str × Str)} (P : PairsAt h its ps) (k : ∀ b ∈ refsOf its.toList, ∀ o, h.get? b = some o → h'.get? b = some o) : PairsAt h' its ps := by
  refine ⟨P.size, fun j p hp => ?_⟩
  obtain ⟨v, hv, T, t1, t2, rfl, hT, e⟩ := P.at_ j p hp
  exact ⟨_, hv, T, t1, t2, rfl, hT, k T (mem_refs (by rw [← Array.getElem?_toList] at hv; exact List.mem_of_getElem? hv)) _ e⟩
theorem PairsAt.keeps {h h' : Heap} {its : Array Value} {ps : List (Str × Str)} (P : PairsAt h its ps) (k : ∀ b o, h.get? b = some o → h'.get? b = some o) : PairsAt h' its ps := P.of fun b _ o e => k b o e

section
variable {prog : Program} {w : World} {A : Around} {E : Value → Shared → Prop} {s : Shared} {a d it : Addr} {its : Array Value} {n k : Nat} {i : Int}
theorem next_item {x : Value} {Q : Option Value → Shared → Prop} (hit : s.heap.IsListIter it a k) (ha : s.heap.get? a = some (accObj d its n)) (hx : its[k]? = some x)
    (hQ : ∀ h', h'.IsListIter it a (k + 1) → Heap.SameBut it s.heap h' → Q (some x) { s with heap := h' }) : wpAny (model prog w) A (pyNext (.ref it)) Q E s := by
  obtain ⟨o, ho, hc, hd⟩ := id hit
  unfold pyNext
  refine wpAny_bind (wpAny_attempt (wpAny_callSpecial?_slot (name := Str.ofString "__next__") hit.typeIs slot_listiter_next
    (wpAny_call_entry slot_listiter_next hit.typeIs entry_listiter_next ?_ (args_listiter_next _))))
  show wpAny _ _ (field (.ref it) 0 >>= _) _ _ s
  refine wpAny_bind (wpAny_field ho hd (x := .ref a) rfl ?_)
  show wpAny _ _ (if (Value.ref a == Value.none) = true then _ else _) _ _ s
  rw [if_neg (show ¬ ((Value.ref a == Value.none) = true) from Bool.false_ne_true)]
  show wpAny _ _ (field (.ref it) 1 >>= _) _ _ s
  refine wpAny_bind (wpAny_field ho hd (x := .int k 0) rfl ?_)
  show wpAny _ _ (seqItems? (.ref a) >>= _) _ _ s
  refine wpAny_bind (wpAny_seqItems ha rfl ?_)
  simp only [Int.toNat_natCast, hx]
  refine wpAny_bind (wpAny_setField ho hd (by simp) (wpAny_pure ⟨x, rfl, wpAny_pure (hQ _ ?_ (Heap.SameBut.update ..))⟩))
  exact ⟨_, Heap.get?_update_self _ ho (Obj.isFreed_of_fields (Obj.data_mapFields hd _)), (Obj.cls_mapFields ..).trans hc, by
    rw [Obj.data_mapFields hd]; simp [rawInt]⟩
theorem next_end {Q : Option Value → Shared → Prop} (hh : A.handled = none) (hit : s.heap.IsListIter it a k) (ha : s.heap.get? a = some (accObj d its n)) (hx : its[k]? = none)
    (hQ : ∀ h', Heap.ExtBut it s.heap h' → Q none { s with heap := h' }) : wpAny (model prog w) A (pyNext (.ref it)) Q E s := by
  obtain ⟨o, ho, hc, hd⟩ := id hit
  unfold pyNext
  refine wpAny_bind (wpAny_attempt (wpAny_callSpecial?_slot (name := Str.ofString "__next__") hit.typeIs slot_listiter_next
    (wpAny_call_entry slot_listiter_next hit.typeIs entry_listiter_next ?_ (args_listiter_next _))))
  show wpAny _ _ (field (.ref it) 0 >>= _) _ _ s
  refine wpAny_bind (wpAny_field ho hd (x := .ref a) rfl ?_)
  show wpAny _ _ (if (Value.ref a == Value.none) = true then _ else _) _ _ s
  rw [if_neg (show ¬ ((Value.ref a == Value.none) = true) from Bool.false_ne_true)]
  show wpAny _ _ (field (.ref it) 1 >>= _) _ _ s
  refine wpAny_bind (wpAny_field ho hd (x := .int k 0) rfl ?_)
  show wpAny _ _ (seqItems? (.ref a) >>= _) _ _ s
  refine wpAny_bind (wpAny_seqItems ha rfl ?_)
  simp only [Int.toNat_natCast, hx]
  refine wpAny_bind (wpAny_rule (wpAny_bind (wpAny_setField ho hd (by simp) ?_)))
  show wpAny _ _ (newExc (.type "StopIteration") [] >>= _) _ _ _
  refine wpAny_bind ?_
  simp only [newExc, newTuple]
  refine wpAny_bind (wpAny_newObj_type ?_ (by size_fits))
  refine wpAny_bind (m := firstArgMember _ _) (wpAny_of_eq (a := Value.none) (by first | rfl | (simp only [firstArgMember]; rfl)) ?_)
  refine wpAny_newObj_type ?_ (by size_fits)
  simp only [raiseNew]
  refine wpAny_bind (wpAny_handled ?_)
  rw [show A.in1.handled = none from hh]
  refine wpAny_bind (wpAny_pure (wpAny_throw ?_))
  refine wpAny_bind (wpAny_isInstance (T := "StopIteration") (b := true) ⟨_, Heap.get?_push_size _ rfl, rfl⟩ isSubtype_stop ?_)
  exact wpAny_pure (hQ _ (((Heap.SameBut.update ..).extBut.push _).push _))

noncomputable def AccSt (it a d : Addr) (its : Array Value) (n : Nat) (ps : List (Str × Str)) (i : Nat) (h : Heap) : Prop := h.IsListIter it a i ∧ h.get? a = some (accObj d its n) ∧ PairsAt h its ps

theorem acc_walks {ps : List (Str × Str)} (hh : A.handled = none) (hia : a ≠ it) (hir : it ∉ refsOf its.toList) :
    WalksU prog w A it (it :: a :: refsOf its.toList) [it] ps.length (fun j vals => ∃ p t1 t2, ps[j]? = some p ∧ vals = #[.str p.1 t1, .str p.2 t2]) (AccSt it a d its n ps)
      (fun j T h => AccSt it a d its n ps (j + 1) h ∧ T ∈ refsOf its.toList) where
  sub := fun b hb => by rw [List.mem_singleton] at hb; subst hb; exact .head _
  frame := fun j h h' st hk => ⟨st.1.at fun o e => hk it (.head _) o e, hk a (.tail _ (.head _)) _ st.2.1, st.2.2.of fun b hb o e => hk b (.tail _ (.tail _ hb)) o e⟩
  item := fun j s Q E hj st hQ => by
    obtain ⟨v, hv, T, t1, t2, rfl, hT, e⟩ := st.2.2.at_ j _ (List.getElem?_eq_getElem hj)
    have hm : T ∈ refsOf its.toList := mem_refs (by rw [← Array.getElem?_toList] at hv; exact List.mem_of_getElem? hv)
    have hne : ∀ b ∈ refsOf its.toList, b ≠ it := fun b hb q => hir (q ▸ hb)
    refine next_item st.1 st.2.1 hv fun h' hit' hs' => ?_
    refine hQ T _ h' s.toks ⟨_, t1, t2, List.getElem?_eq_getElem hj, rfl⟩ ⟨_, hs'.extBut T _ (hne T hm) e, rfl, 0, rfl⟩ ⟨⟨hit', hs'.extBut a _ hia st.2.1, st.2.2.of fun b hb o e => hs'.extBut b o (hne b hb) e⟩, hm⟩ fun b o hb e => hs'.extBut b o (fun q => hb (by rw [q]; exact .head _)) e
  go := fun elts kk pos j T s Q E hm hQ => by
    obtain ⟨⟨hit, ha, hP⟩, hT⟩ := hm
    obtain ⟨o, ho, hc, hd⟩ := id hit
    show wpAny _ _ (do
      let o ← load it
      match o.cls, o.data with
      | .type n, .fields vs =>
        if ["enumerate", "zip", "dict_itemiterator", "dict_reverseitemiterator", "odict_iterator", "itertools.zip_longest", "itertools.pairwise"].contains n && vs[0]? == some (rawInt T) then
          rule "for.unpacks-the-owned-tuple"
          updateField it 0 .none
      | _, _ => pure ()) _ _ _
    refine wpAny_bind (wpAny_load ho ?_)
    rw [hc, hd]
    dsimp only
    rw [if_neg (by simp)]
    exact wpAny_pure (hQ s.heap ⟨hit, ha, hP⟩ fun _ _ _ e => e)
  apart := fun j T h hm => by
    intro q
    rw [List.mem_singleton] at q
    exact hir (q ▸ hm.2)
  done := fun s Q E st hQ => next_end hh st.1 st.2.1 (by rw [← st.2.2.size]; simp) fun h' he' => hQ h' s.toks fun b o hb e => he' b o (fun q => hb (by rw [q]; exact .head _)) e
  self := fun _ _ _ _ st hQ => wpAny_pyIter_listiter st.1 hQ
end
end Mine
end

section
open PySem PySem.W PySem.Calls PyProof.Rows
set_option maxRecDepth 100000
set_option maxHeartbeats 8000000
namespace Mine
section
variable {prog : Program} {w : World} {A : Around} {E : Value → Shared → Prop} {s : Shared} {a d it : Addr} {its : Array Value} {n : Nat} {od : Option Obj}
theorem acc_iter {Q : Value → Shared → Prop} (X : (KK w).In s.heap) (I : InstAt s.heap a (accObj d its n) 200 od)
    (h : Q (.ref s.heap.objs.size) { s with heap := s.heap.push { cls := .type "list_iterator", data := .fields #[.ref a, .int 0 0] } }) : wpAny (model prog w) A (pyIter (.ref a)) Q E s := by
  have L1 := looks_findIn (M := model prog w) X (K := KK w) (t := .ref 200) (name := "__iter__") (r := some (.builtin "list.__iter__")) (by kernel_rfl)
  unfold pyIter specialOf
  refine wpAny_bind (wpAny_bind (I.type.here (L1.here ?_)))
  dsimp only
  simp only [callSpecialIfBoundUnlessNone?, bindSpecialIfBound?]
  refine wpAny_bind (wpAny_holding (wpAny_bind (wpAny_bind (m := specialOf _ _) ?_)))
  refine wpAny_bind (I.type.here (L1.here ?_))
  simp only [slot_list_iter.bind]
  refine wpAny_bind (wpAny_askSetting (wpAny_ite ?_))
  have fin : ∀ {Q' : Value → Shared → Prop} {E'}, (∀ s', s' = { s with heap := s.heap.push { cls := .type "list_iterator", data := .fields #[.ref a, .int 0 0] } } → Q' (.ref s.heap.objs.size) s') → wpAny (model prog w) A (call (.builtin "list.__iter__") [.ref a]) Q' E' s := by
    intro Q' E' hq
    refine call_bi (owner := "list") (n := "__iter__") (by decide +kernel) (.inr (by decide +kernel)) (by decide +kernel) (inst_is (K := KK w) (C := 200) X I (by kernel_rfl)) entry_list_iter (args_list_iter _) ?_
    show wpAny _ _ (do ret (← newFields "list_iterator" [.ref a, rawInt 0])) _ _ s
    exact wpAny_bind (wpAny_newObj_type (wpAny_pure ⟨_, rfl, hq _ rfl⟩))
  have fin2 : wpAny (model prog w) A (if (Value.builtin "list.__iter__" == Value.none) = true then ((do rule "iter.none"; raiseError "TypeError" s!"'{← typeNameOf (.ref a)}' object is not iterable" : Sem Value) >>= fun v => pure (some v)) else (call (.builtin "list.__iter__") [.ref a] >>= fun v => pure (some v)))
      (fun r s' => r = some (.ref s.heap.objs.size) ∧ s' = { s with heap := s.heap.push { cls := .type "list_iterator", data := .fields #[.ref a, .int 0 0] } }) E s := by
    simp only [builtin_beq_none, Bool.false_eq_true, if_false]
    exact wpAny_bind (fin fun s' e => wpAny_pure ⟨rfl, e⟩)
  have post : ∀ (r : Option Value) s', (r = some (.ref s.heap.objs.size) ∧ s' = { s with heap := s.heap.push { cls := .type "list_iterator", data := .fields #[.ref a, .int 0 0] } }) → wpAny (model prog w) A (match r with
      | some it => do
        match ← specialOf it "__next__" with
        | none => rule "iter.non-iterator"; raiseError "TypeError" s!"iter() returned non-iterator of type '{← typeNameOf it}'"
        | some _ => pure it
      | none => do
        match ← bindSpecialIfBound? (.ref a) "__getitem__" with
        | none => rule "iter.not-iterable"; raiseError "TypeError" s!"'{← typeNameOf (.ref a)}' object is not iterable"
        | some _ => rule "iter.getitem-fallback"; newFields "iterator" [.ref a, ← mkInt 0]) Q E s' := by
    rintro r s' ⟨rfl, rfl⟩
    exact wpAny_bind (wpAny_specialOf (T := "list_iterator") ⟨_, Heap.get?_push_size _ rfl, rfl⟩ slot_listiter_next.lookup (wpAny_pure h))
  split
  · exact wpAny_bind (wpAny_pure (wpAny_pure (wpAny_mono fin2 post fun _ _ e => e)))
  · exact wpAny_tryCatch (wpAny_bind (wpAny_pure (wpAny_pure (wpAny_mono fin2 post fun _ _ e => e))))

theorem bfor {r : Addr} {Q : Addr → Shared → Prop} (X : (KK w).In s.heap) (h : Q builtinsNs s) : wpAny (model prog w) A (builtinsFor mainGlobals r) Q E s := by
  have ho : (KK w).lookup 4 = some ⟨.type "module", some builtinsNs, .plain, #[]⟩ := by kernel_rfl
  unfold builtinsFor
  refine wpAny_bind ((looks_nsIn X (r := some (.ref 4)) (by kernel_rfl)).here ?_)
  show wpAny _ A (if ((4 : Addr) == builtinsNs) = true then _ else _) Q E s
  rw [if_neg (by decide)]
  exact wpAny_bind (wpAny_load (X _ _ ho) (wpAny_pure h))
end
section
variable {prog : Program} {w : World} {A : Around} {E : Value → Shared → Prop} {g : Heap} {ws : List Addr} {s₀ s s' : Shared} {L : Addr} {m : Str → Option Value} {news : List (Addr × Obj)} {cc P : Addr}
theorem Cx.grown {h' : Heap} {tk : Nat} (c : Cx w g ws s₀ L m news s) (hP : P ∈ tabG) (hx : Heap.ExtBut P s.heap h') (hsz : s.heap.objs.size ≤ h'.objs.size) (T : Tabs h') : Cx w g ws s₀ L m news { s with heap := h', toks := tk } :=
  c.call0 ⟨fun b o _ ht e => hx b o (fun q => ht (q ▸ hP)) e, hsz, rfl⟩ ⟨c.gd.low fun b o _ ht e => hx b o (fun q => tabG_sub ht (q ▸ hP)) e, T, c.bare⟩
theorem tabs_upd {h h' : Heap} {ps : Array Value} (t : Tabs h) (hx : Heap.ExtBut P h h') (e : h'.get? P = some (tabObj ps)) (ht : TriplesOk ps.toList) : Tabs h' := fun R hR => by
  by_cases q : R = P
  · subst q; exact ⟨ps, e, ht⟩
  · obtain ⟨ps', e', o'⟩ := t R hR
    exact ⟨ps', hx R _ q e', o'⟩
theorem gcode {env : Env} {pos : Pos} {qn : Str} {scope : Scope} {Q : Value → Shared → Prop} (c : Cx w g ws s₀ L m news s) (hP : P ∈ tabG) (hcode : env.code = .ref cc) (hd : codeHdIn (KK w) cc P = true)
    (h : ∀ cv h' tk, Heap.ExtBut P s.heap h' → s.heap.objs.size ≤ h'.objs.size → Tabs h' → Q cv { s with heap := h', toks := tk }) :
    wpAny (model prog w) A (genexprCode env pos qn scope) Q E s := by
  obtain ⟨ps, e, ht⟩ := c.T P hP
  have C := codeHd_of_K c.X hd
  cases hf : codeAmong pos ps.toList with
  | some cv => exact wpAny_genexprCode_hit hcode (C.code e ht) hf (h cv s.heap s.toks (fun _ _ _ e => e) (Nat.le_refl _) c.T)
  | none =>
    refine wpAny_genexprCodeX hcode (C.code e ht) (C.tab e) hf fun c' h' tk hx hge hlt hcd _ htab _ => h _ h' tk hx (Nat.le_trans hge (Nat.le_of_lt hlt)) ?_
    obtain ⟨o, vs, file, tf, flags, tg, inF, text, tt, op, ho, hd, h11, h2, h7, h9, h10, hop, hpd, htr, hne⟩ := hcd
    exact tabs_upd c.T hx htab.2 htr
theorem Cx.moved {wr : List Addr} {q : Nat} (c : Cx w g ws s₀ L m [] s) (hm : Moved wr (GenOnlyQ q) s s') (hw : ∀ b ∈ wr, (L : Nat) < b) : Cx w g ws s₀ L m [] s' :=
  ⟨c.B, c.big, c.hL, c.F.moved hm hw, (fun _ h => nomatch h), c.T.keeps fun b o hb e => hm.heap b o (fun q => not_tab (Nat.le_trans c.big (Nat.le_of_lt (hw b q))) hb) e, c.bare.movedS hm, hm.os.trans c.os, fun _ h => nomatch h⟩

variable {a d : Addr} {its : Array Value} {n : Nat} {i : Int} {hh : Int} {tk t : Tok} {ps : List (Str × Str)}
theorem passing_all (n₀ : Nat) : passing (fun _ => true) n₀ 0 = List.range n₀ := by
  simp [passing]
theorem walksS_toF {I : Addr} {fp wr : List Addr} {G : Array GenState → Array GenState → Prop} {n : Nat} {F F' : Nat → Value → Prop} {St : Nat → Shared → Prop}
    (W : WalksS prog w A I fp wr G n F St) (h : ∀ j y, F j y → F' j y) : WalksS prog w A I fp wr G n F' St :=
  ⟨W.sub, W.grefl, W.gtrans, W.frame, fun i s Q E hi st hQ => W.item i s Q E hi st fun v s' hv => hQ v s' (h i v hv), W.done, W.self⟩

theorem of_refs {l : List Value} {T : Addr} (h : T ∈ refsOf l) : Value.ref T ∈ l := by
  induction l with
  | nil => cases h
  | cons x r ih =>
    cases x <;> first | exact .tail _ (ih h) | (cases h with | head => exact .head _ | tail _ h => exact .tail _ (ih h))
theorem PairsAt.refs {h : Heap} (Ps : PairsAt h its ps) {b : Addr} (hb : b ∈ refsOf its.toList) : ∃ o, h.get? b = some o := by
  obtain ⟨j, hj, e⟩ := List.getElem_of_mem (of_refs hb)
  have hj' : j < ps.length := by rw [← Ps.size]; simpa using hj
  obtain ⟨v, hv, T, t1, t2, rfl, _, eT⟩ := Ps.at_ j _ (List.getElem?_eq_getElem hj')
  rw [← Array.getElem?_toList, List.getElem?_eq_getElem hj, e] at hv
  cases hv
  exact ⟨_, eT⟩
theorem PairsAt.high {h h' : Heap} (P : PairsAt h its ps) (k : ∀ b o, (238 : Nat) ≤ b → h.get? b = some o → h'.get? b = some o) : PairsAt h' its ps := by
  refine ⟨P.size, fun j p hp => ?_⟩
  obtain ⟨v, hv, T, t1, t2, rfl, hT, e⟩ := P.at_ j p hp
  exact ⟨_, hv, T, t1, t2, rfl, hT, k T _ hT e⟩
theorem acc_gen {cn : Str} {cs : Scope} {fa : Addr} {cl : List (Str × Addr)} {Q : Value → Shared → Prop} {elt iter : Expr} {scope : Scope} {pos pa pb pt : Pos} {kt : Nat} {xa xb : Str} (c : Cx w g ws s₀ L m [] s) (ha : A.handled = none) (hroom : A.depth < recursionLimit)
    (hP : P ∈ tabG) (hd : codeHdIn (KK w) cc P = true) (ga : g.get? a = some (accObj d its n)) (gd : g.get? d = some (accDict hh tk i t)) (Ps : PairsAt g its ps) (F : Nat → Value → Prop)
    (hit : ∀ {Q' : Value → Shared → Prop}, Q' (.ref a) s → wpAny (model prog w) A (eval iter (envX cn cs L fa (.ref cc) cl)) Q' E s)
    (hclos : closureFor scope (envX cn cs L fa (.ref cc) cl) = pure [])
    (helt : ∀ (A' : Around) E' C cv j p t1 t2 (s₂ : Shared) m₂, A'.handled = none → A'.depth ≤ A.depth + 1 → ps[j]? = some p → s₂.heap.Ns C m₂ → m₂ xa = some (.str p.1 t1) → m₂ xb = some (.str p.2 t2) → Gd w s₂.heap →
      wpAny (model prog w) A' (eval elt (genEnv scope [] C cv builtinsNs (envX cn cs L fa (.ref cc) cl))) (fun y s₃ => F j y ∧ Keeps s₂ s₃) E' s₂)
    (h : ∀ b s₅, Cx w g ws s₀ L m [] s₅ → Gen prog w A L b ps.length F s₅ → Q (.ref b) s₅)
    (hs : ∀ x, genFold iter (envX cn cs L fa (.ref cc) cl) x = pure x := by intro x; rfl)
    (hco : scope.isCoroutine = false := by rfl) (hcell : ∀ y ∈ scope.names, y.2 ≠ .cell := by decide) (h0 : scope.names.lookup (".0" : Str) = some NameKind.local := by rfl)
    (hxa : scope.names.lookup xa = some NameKind.local := by rfl) (hxb : scope.names.lookup xb = some NameKind.local := by rfl) (hab : xa ≠ xb := by decide) (hkind : scope.kind = .function := by rfl) :
    wpAny (model prog w) A (eval (.GeneratorExp elt [⟨.Tuple [.Name xa pa, .Name xb pb] kt pt, iter, [], 0⟩] scope pos) (envX cn cs L fa (.ref cc) cl)) Q E s := by
  refine wpAny_GeneratorExp_walksQTD ha hco hclos hcell h0 hxa hxb hab hkind hroom (hit ?_) hs
  have hL : (L : Nat) < s.heap.objs.size := by obtain ⟨oL, _, _, e, _⟩ := c.F.ns; exact Heap.lt_size e
  have la : (a : Nat) < L := c.hL ▸ Heap.lt_size (c.B.of_ _ _ ga)
  refine acc_iter c.X (accI (c.base ga) (c.base gd)) ?_
  have c₂ := c.ext (s' := { s with heap := s.heap.push { cls := .type "list_iterator", data := .fields #[.ref a, .int 0 0] } }) (fun _ _ e => Heap.get?_push_of_some _ e) rfl rfl
  refine ⟨c₂.gd.lim, gcode c₂ hP rfl hd fun cv h₃ tk₃ hx₃ hsz₃ T₃ => ?_⟩
  have c₃ := c₂.grown (tk := tk₃) hP hx₃ hsz₃ T₃
  refine bfor c₃.X ?_
  have hrefs : ∀ b ∈ refsOf its.toList, ∃ o, g.get? b = some o := fun b hb => Ps.refs hb
  have hnot : s.heap.objs.size ∉ refsOf its.toList := fun q => by
    obtain ⟨o, e⟩ := hrefs _ q
    exact absurd (Heap.lt_size (c.base e)) (Nat.lt_irrefl _)
  have hsz' : s.heap.objs.size + 1 ≤ h₃.objs.size := by
    have : (s.heap.push { cls := .type "list_iterator", data := .fields #[.ref a, .int 0 0] }).objs.size ≤ h₃.objs.size := hsz₃
    rwa [Heap.size_push] at this
  refine ⟨s.heap.objs.size, _, _, ps.length, _, _, _, (fun _ => true), F, rfl, (fun A' hA' => acc_walks (d := d) (n := n) hA' (Nat.ne_of_lt (Nat.lt_trans la hL)) hnot), ?_, ⟨?_, c₃.base ga, Ps.keeps fun b o e => c₃.base e⟩, ?_, c₃.gd.lim, ?_, ?_, ?_⟩
  · rintro j vals ⟨p, t1, t2, _, rfl⟩; exact ⟨_, _, rfl⟩
  · exact ⟨_, hx₃ _ _ (fun q => not_tab (Nat.le_trans c.big (Nat.le_of_lt hL)) (q ▸ hP)) (Heap.get?_push_size _ rfl), rfl, rfl⟩
  · intro b hb
    show (b : Nat) < h₃.objs.size
    rcases List.mem_cons.mp hb with rfl | hb
    · exact hsz'
    · rcases List.mem_cons.mp hb with rfl | hb
      · exact Nat.lt_of_lt_of_le (Nat.lt_trans la hL) (Nat.le_of_succ_le hsz')
      · obtain ⟨o, e⟩ := hrefs _ hb
        exact Heap.lt_size (c₃.base e)
  · intro q
    rw [List.mem_singleton] at q
    have hc := c.gd.lim
    obtain ⟨_, hn, _⟩ := hc
    exact absurd (q ▸ hn.lt) (Nat.lt_irrefl _)
  · intro href hhref
    have G : Gd w href := c₃.gd.keeps hhref
    have low : ∀ s₂ : Shared, (∀ b ∈ List.range h₃.objs.size, b ∉ [s.heap.objs.size] → ∀ o, href.get? b = some o → s₂.heap.get? b = some o) → Gd w s₂.heap := fun s₂ hk => G.low fun b o hb _ e => by
      have h1 : (238 : Nat) ≤ s.heap.objs.size := Nat.le_trans c.big (Nat.le_of_lt hL)
      have hb' : (b : Nat) < s.heap.objs.size := Nat.lt_of_lt_of_le hb h1
      exact hk b (List.mem_range.mpr (Nat.lt_of_lt_of_le hb' (Nat.le_of_succ_le hsz'))) (by rw [List.mem_singleton]; exact Nat.ne_of_lt hb') o e
    refine ⟨fun A' E' j va vb s₂ m₂ _ _ _ _ _ _ _ _ => ?_, fun A' E' j va vb s₂ m₂ hA hD _ hp _ hn ha hb hk => ?_⟩
    · exact wpAny_pure ⟨rfl, s₂.heap, s₂.toks, rfl, fun _ _ e => e⟩
    · obtain ⟨p, t1, t2, hp, e⟩ := hp
      have e1 : va = .str p.1 t1 := congrArg (fun x : Array Value => x.getD 0 .none) e
      have e2 : vb = .str p.2 t2 := congrArg (fun x : Array Value => x.getD 1 .none) e
      subst e1 e2
      exact helt A' E' _ cv j p t1 t2 s₂ m₂ hA hD hp hn ha hb (low s₂ hk)
  · intro b h₅ tk₅ gs hgb hab hsz₅ hk₅ W hat
    have c₅ : Cx w g ws s₀ L m [] { s with gens := s.gens.push gs, toks := tk₅, heap := h₅ } :=
      ⟨c.B, c.big, c.hL, c₃.F.keeps hk₅, (fun _ h => nomatch h), T₃.keeps fun b o _ e => hk₅ b o e, c.bare.push hgb, c.os, fun _ h => nomatch h⟩
    have W' := walksS_toF W (F' := F) fun j y hy => by
      obtain ⟨i, hi, hF⟩ := hy
      rw [passing_all] at hi
      obtain ⟨hj, e⟩ := List.getElem?_eq_some_iff.mp hi
      rw [List.getElem_range] at e
      exact e ▸ hF
    rw [passing_all, List.length_range] at W'
    refine h b _ c₅ ⟨_, _, _, _, W', hat, (fun i s' st => st.1.typeIs), List.mem_cons_self, ?_, ?_⟩
    · intro b' hb
      show (b' : Nat) < h₅.objs.size
      rw [hsz₅]
      rcases List.mem_cons.mp hb with rfl | hb
      · exact Nat.lt_succ_self _
      · rcases List.mem_cons.mp hb with rfl | hb
        · exact Nat.lt_succ_of_lt hab
        · exact Nat.lt_succ_of_lt (Nat.lt_trans (List.mem_range.mp hb) hab)
    · intro b' hb
      rcases List.mem_cons.mp hb with rfl | hb
      · exact Nat.lt_of_lt_of_le hL (Nat.le_of_succ_le hsz')
      · rw [List.mem_singleton] at hb; subst hb; exact hL
end
end Mine
end

section
open PySem PySem.W PySem.Calls PyProof.Rows
set_option maxRecDepth 100000
set_option maxHeartbeats 8000000
namespace Mine
section
variable {prog : Program} {w : World} {A : Around} {E : Value → Shared → Prop} {s : Shared}
theorem walksS_late {I : Addr} {fp wr : List Addr} {G : Array GenState → Array GenState → Prop} {n : Nat} {F : Nat → Value → Prop} {St : Nat → Shared → Prop}
    (W : WalksS prog w A I fp wr G n F St) : WalksS prog w A I fp wr G (n + 1) (fun j y => ∃ k, j = k + 1 ∧ F k y) (fun j s => ∃ k, j = k + 1 ∧ St k s) where
  sub := W.sub
  grefl := W.grefl
  gtrans := W.gtrans
  frame := fun i s h' tk ⟨k, e, st⟩ h1 h2 => ⟨k, e, W.frame k s h' tk st h1 h2⟩
  item := fun i s Q E hi ⟨k, e, st⟩ hQ => by
    subst e
    exact W.item k s Q E (Nat.lt_of_succ_lt_succ hi) st fun v s' hv st' hm => hQ v s' ⟨k, rfl, hv⟩ ⟨k + 1, rfl, st'⟩ hm
  done := fun s Q E ⟨k, e, st⟩ hQ => by
    cases e
    exact W.done s Q E st hQ
  self := fun i s Q E ⟨k, _, st⟩ hQ => W.self k s Q E st hQ
theorem starEach_gen {elt : Expr} {gens : List Comprehension} {scope : Scope} {pos : Pos} {rest : List Expr} {env : Env} : starEach (.GeneratorExp elt gens scope pos :: rest) env = (false, eval (.GeneratorExp elt gens scope pos) env) :: starEach rest env := by
  first | rfl | (rw [starEach]; intro _ _ e; cases e) | rw [starEach]
theorem gen_later {K a : Addr} {n : Nat} {F : Nat → Value → Prop} {h' : Heap} {tk : Nat} (X : Gen prog w A K a n F s) (ht : s.toks ≤ tk) (k : ∀ b o, s.heap.get? b = some o → h'.get? b = some o) (hsz : s.heap.objs.size ≤ h'.objs.size) : Gen prog w A K a n F { s with heap := h', toks := tk } :=
  let ⟨fp, wr, g, St, W, h1, h2, h3, h4, h5⟩ := X; ⟨fp, wr, g, St, W, W.frame 0 s h' tk h1 ht fun b _ o e => k b o e, h2, h3, fun b hb => Nat.lt_of_lt_of_le (h4 b hb) hsz, h5⟩
theorem args_sum2 (a b : Value) : argsOk "sum" ⟨[a, b], []⟩ := by unfold argsOk; kernel_rfl
noncomputable def shifted (i : Int) (val : Nat → Int) : Nat → Int
  | 0 => i
  | j + 1 => val j
theorem preSum_shifted (i : Int) (val : Nat → Int) : ∀ j, preSum (shifted i val) (j + 1) = i + preSum val j
  | 0 => by simp [preSum, shifted]
  | j + 1 => by rw [preSum, preSum_shifted i val j]; simp only [shifted, preSum]; (exact om0)
theorem sum_start {a K : Addr} {n : Nat} {F : Nat → Value → Prop} {i : Int} {t : Tok} {Q : Value → Shared → Prop} (X : Gen prog w A K a n F s) (val : Nat → Int) (hval : ∀ j v, F j v → ∃ t, v = .int (val j) t) (hi : InLong i) (hfit : ∀ j, j < n → InLong (val j) ∧ InLong (i + preSum val (j + 1)))
    (hQ : ∀ s' t' wr q, Moved wr (GenOnlyQ q) s s' → (∀ b ∈ wr, (K : Nat) < b) → Q (.int (i + preSum val n) t') s') : wpAny (model prog w) A (call (.builtin "sum") [.ref a, .int i t]) Q E s := by
  obtain ⟨fp, wr, g, St, W, hst, _, _, hfp, hwr⟩ := X
  have W := W.in4_1
  refine call_function_tree PySem.F.kind_sum PySem.F.plain_sum PySem.F.entry_sum (args_sum2 _ _) ?_
  unfold Builtin.«sum»
  simp only [List.length_cons, List.length_nil]
  rw [if_neg (by decide)]
  refine wpAny_bind (wpAny_of_eq (show Builtin.Builtins.bindParams "sum" ["start"] 0 ⟨[.int i t], []⟩ = pure [some (.int i t)] from rfl) ?_)
  refine wpAny_bind (W.self 0 _ _ _ hst ?_)
  have hfl : (decide (-(2 ^ 63) ≤ i) && decide (i < 2 ^ 63)) = true := by
    unfold InLong at hi
    simp only [Bool.and_eq_true, decide_eq_true_eq]
    assumption
  dsimp only
  rw [if_pos (by exact hfl)]
  refine wpAny_bind (wpAny_rule (wpAny_bind (wpAny_mkInt (wpAny_bind (wpAny_pure ?_)))))
  simp only [List.forIn_cons, List.forIn_nil]
  refine wpAny_bind (wpAny_bind (wpAny_bind (wpAny_isInstance (T := "int") (b := false) (typeIs_int _ _ _) PySem.sub_int_str ?_)))
  simp only [Bool.false_eq_true, if_false]
  refine wpAny_pure (wpAny_bind (wpAny_bind (wpAny_isInstance (T := "int") (b := false) (typeIs_int _ _ _) sub_int_bytes ?_)))
  simp only [Bool.false_eq_true, if_false]
  refine wpAny_pure (wpAny_bind (wpAny_bind (wpAny_isInstance (T := "int") (b := false) (typeIs_int _ _ _) sub_int_bytearray ?_)))
  simp only [Bool.false_eq_true, if_false]
  refine wpAny_pure (wpAny_pure ?_)
  refine wpAny_bind (wpAny_newObj_type ?_)
  have hSf : s.heap.objs.size ∉ fp := fun hm => Nat.lt_irrefl _ (hfp _ hm)
  refine wpAny_pure ⟨plainId_quiet PySem.F.plain_sum_loop _, codeAny_sum_loopS (walksS_late W) (shifted i val) ?_ ?_ s.heap.objs.size hSf n 1 _ s.toks 0 (by (exact om1)) (by (exact Nat.zero_lt_succ _))
    ⟨0, rfl, W.frame 0 s _ _ hst (by first | exact Nat.le_refl _ | exact Nat.le_succ _ | omega) fun b _ o e => Heap.get?_push_of_some _ e⟩ ?_ fun s' t' hm => ?_⟩
  · rintro j v ⟨k, rfl, hF⟩; exact hval k v hF
  · intro j hj
    cases j with
    | zero => simp only [shifted, preSum]; rw [Int.zero_add]; exact ⟨hi, hi⟩
    | succ j => rw [preSum_shifted]; exact hfit j (Nat.lt_of_succ_lt_succ hj)
  · rw [show preSum (shifted i val) 1 = i by simp [preSum, shifted]]; exact Heap.get?_push_size _ rfl
  · rw [preSum_shifted]
    exact hQ s' t' wr g (hm.drop_new (by first | exact Nat.le_refl _ | exact Nat.le_succ _ | omega)) hwr
end
section
variable {w : World} {A : Around} {E : Value → Shared → Prop} {s : Shared} {Q : Value → Shared → Prop} {a d : Addr} {its : Array Value} {n : Nat} {i : Int} {ps : List (Str × Str)}
theorem Keeps.toks {s : Shared} {tk : Nat} : Keeps s { s with toks := tk } := ⟨s.heap, tk, rfl, fun _ _ e => e⟩
noncomputable def sizeOf' (p : Str × Str) : Int := (p.1.length : Int) + p.2.length
noncomputable def sizes (ps : List (Str × Str)) : Int := (ps.map sizeOf').sum
theorem sizes_cons (p : Str × Str) (ps : List (Str × Str)) : sizes (p :: ps) = sizeOf' p + sizes ps := by simp [sizes]
theorem sizes_nonneg (ps : List (Str × Str)) : 0 ≤ sizes ps := by
  induction ps with
  | nil => simp [sizes]
  | cons p r ih => rw [sizes_cons]; unfold sizeOf'; (exact om2 ih)
theorem sizes_append (a b : List (Str × Str)) : sizes (a ++ b) = sizes a + sizes b := by simp [sizes]
theorem preSum_take (ps : List (Str × Str)) : ∀ j, j ≤ ps.length → preSum (fun k => ((ps[k]?).map sizeOf').getD 0) j = sizes (ps.take j)
  | 0, _ => by simp [preSum, sizes]
  | j + 1, h => by
    rw [preSum, preSum_take ps j (by (exact Nat.le_of_lt (by assumption))), List.take_add_one, sizes_append]
    have : ps[j]? = some ps[j] := List.getElem?_eq_getElem (by assumption)
    rw [this]
    simp [sizes]
theorem sizes_take_le (ps : List (Str × Str)) (j : Nat) : sizes (ps.take j) ≤ sizes ps := by
  have := sizes_append (ps.take j) (ps.drop j)
  rw [List.take_append_drop] at this
  have := sizes_nonneg (ps.drop j)
  (exact om3 (by assumption) this)
theorem sizes_mem {ps : List (Str × Str)} {j : Nat} {p : Str × Str} (h : ps[j]? = some p) : sizeOf' p ≤ sizes ps := by
  induction ps generalizing j with
  | nil => simp at h
  | cons q r ih =>
    rw [sizes_cons]
    cases j with
    | zero => simp at h; subst h; have := sizes_nonneg r; (exact om4 this)
    | succ j => simp at h; have := ih h; unfold sizeOf' at *; (exact om5 this)

section
variable {prog : Program} {A' : Around} {E' : Value → Shared → Prop} {env : Env} {C : Addr} {m₂ : Str → Option Value} {x : Str} {v : Value} {pos : Pos}
theorem g_name (hn : s.heap.Ns C m₂) (hv : m₂ x = some v) (h : Q v s) (hC : env.locals = C := by rfl) (hk : env.scope.kind = .function := by rfl) (hx : env.kindOf x = some .local := by rfl) (hd : (x == ("__debug__" : Str)) = false := by decide) :
    wpAny (model prog w) A' (eval (.Name x pos) env) Q E' s := wpAny_Name (wpAny_loadName_local hk hx (hC ▸ hn) hv h) hd
theorem g_built (G : Gd w s.heap) (e : nsIn (KK w) mainGlobals x = some none) (hv : bootBuiltins x = some v) (hn : x ≠ "__name__") (h : Q v s) (hg : env.globals = mainGlobals := by rfl) (hb : env.builtins = builtinsNs := by rfl)
    (hk : env.scope.kind = .function := by rfl) (hx : env.kindOf x = some .globalImplicit := by rfl) (hd : (x == ("__debug__" : Str)) = false := by decide) :
    wpAny (model prog w) A' (eval (.Name x pos) env) Q E' s :=
  let ⟨_, _, _, _, T⟩ := G.T; Name_function_global hk hx (loadGlobal_builtin (env := env) (hg ▸ T.g) (mg_none_of G.X T.g e) (hb ▸ T.b) ((T.builtins x hn).trans hv) h) hd
theorem g_glob (G : Gd w s.heap) (e : nsIn (KK w) mainGlobals x = some (some v)) (h : Q v s) (hg : env.globals = mainGlobals := by rfl)
    (hk : env.scope.kind = .function := by rfl) (hx : env.kindOf x = some .globalImplicit := by rfl) (hd : (x == ("__debug__" : Str)) = false := by decide) :
    wpAny (model prog w) A' (eval (.Name x pos) env) Q E' s :=
  let ⟨_, _, _, _, T⟩ := G.T; Name_function_global hk hx (loadGlobal_global (env := env) (hg ▸ T.g) (mg_of G.X T.g e) h) hd
end
theorem len_ok (O : Ok w s) (ha : A.handled = none) (hroom : A.depth + 1 < recursionLimit) (Y : AccAt s.heap a d its n i) (Ps : PairsAt s.heap its ps) (hi : -1000 ≤ i ∧ i ≤ 1000000) (hsz : sizes ps ≤ 1000000)
    (h : ∀ s' t, Ok w s' → St [] s s' → Q (.int (i + sizes ps) t) s') :
    wpAny (model PG w) A (call (.ref 167) [.ref a]) Q E s := by
  obtain ⟨la, ld, oa, hh, tk, t, od⟩ := Y
  refine c_enter (binds := [("self", .ref a)]) [] O (Nat.lt_of_succ_lt hroom) no_own fun g L s₁ c => ?_
  have gd : g.get? d = some (accDict hh tk i t) := c.B.all d _ (fun h => nomatch h) (not_tab ld) od
  have ga : g.get? a = some (accObj d its n) := c.B.all a _ (fun h => nomatch h) (not_tab la) oa
  have Pg : PairsAt g its ps := Ps.high fun b o hb e => c.B.all b _ (fun h => nomatch h) (not_tab hb) e
  refine wpAny_execs_cons ?_
  refine wpAny_Return_some ?_
  refine Call_ ?_
  refine c_built c (v := .builtin "sum") ?_ ?_ ?_ ?_
  · kernel_rfl
  · kernel_rfl
  · decide
  refine callWith_builtin1 (he := starEach_gen) ?_
  refine spliced_more (he := starEach_gen) ?_
  refine acc_gen (P := 162) (F := fun j y => ∃ t, y = .int (((ps[j]?).map sizeOf').getD 0) t) c ha hroom (by decide) (by kernel_rfl) ga gd Pg ?_ ?_ ?_ ?_
  · intro Q' q; exact c_name c rfl q
  · kernel_rfl
  · intro A' E' C cv j p t1 t2 s₂ m₂ hA hD hp hn h1 h2 G₂
    have hp' := sizes_mem hp
    unfold sizeOf' at hp'
    refine wpAny_BinOp (Call_ ?_)
    refine g_built G₂ (v := .builtin "len") ?_ ?_ ?_ ?_
    · kernel_rfl
    · kernel_rfl
    · decide
    refine callWith_builtin1 (spliced_more (g_name hn h1 (spliced_none ?_)))
    refine P.len_str (by lia) ?_
    refine Call_ ?_
    refine g_built (s := { s₂ with toks := s₂.toks + 1 + 1 }) G₂ (v := .builtin "len") ?_ ?_ ?_ ?_
    · kernel_rfl
    · kernel_rfl
    · decide
    refine callWith_builtin1 (spliced_more (g_name (s := { s₂ with toks := s₂.toks + 1 + 1 }) hn h2 (spliced_none ?_)))
    refine P.len_str (by lia) ?_
    refine add_int ?_
    exact ⟨⟨_, by rw [hp]; rfl⟩, Keeps.toks⟩
  · intro b s₂ c₂ X₂
    refine spliced_more ?_
    refine Attribute_any_ ?_
    refine c_name c₂ rfl ?_
    refine get_l (K := KK w) (C := 200) c₂.X (accI (c₂.base ga) (c₂.base gd)) ?_ ?_ ?_ (v := .int i t) ?_ ?_ ?_
    · kernel_rfl
    · kernel_rfl
    · kernel_rfl
    · kernel_rfl
    · rfl
    refine spliced_none ?_
    have X₃ := gen_later (tk := s₂.toks + 1) X₂ (Nat.le_succ _) (fun _ _ e => e) (Nat.le_refl _)
    have c₃ := c₂.ext (s' := { s₂ with toks := s₂.toks + 1 }) (fun _ _ e => e) rfl rfl
    refine sum_start X₃ (fun k => ((ps[k]?).map sizeOf').getD 0) ?_ ?_ ?_ ?_
    · exact fun j v e => e
    · unfold InLong; lia
    · intro j hj
      rw [preSum_take ps (j + 1) hj]
      have h1 := sizes_take_le ps (j + 1)
      have h2 := sizes_nonneg (ps.take (j + 1))
      have h3 := sizes_mem (List.getElem?_eq_getElem hj)
      have h4 : 0 ≤ sizeOf' ps[j] := by unfold sizeOf'; (exact om9 hj)
      rw [List.getElem?_eq_getElem hj]
      unfold InLong
      simp only [Option.map_some, Option.getD_some]
      lia
    · intro s₄ t₄ wr q hm hw
      rw [preSum_take ps ps.length (Nat.le_refl _), List.take_length]
      have c₄ := c₃.moved hm hw
      exact h _ _ c₄.ok c₄.st
end
end Mine
end

section
open PySem PySem.W PySem.Calls PyProof.Rows
set_option maxRecDepth 100000
set_option maxHeartbeats 8000000
namespace Mine
noncomputable def ofL (l : List Nat) : Str := ⟨l.toArray⟩
theorem ofL_toList (x : Str) : ofL x.cps.toList = x := by cases x; simp [ofL]
theorem ofL_len (l : List Nat) : (ofL l).length = l.length := by simp [ofL, Str.length]
noncomputable def flat (ps : List (Str × Str)) : List Nat := ps.flatMap fun p => p.1.cps.toList ++ p.2.cps.toList
theorem ofL_append (a b : Str) : a ++ b = ofL (a.cps.toList ++ b.cps.toList) := by
  show (⟨a.cps ++ b.cps⟩ : Str) = _
  unfold ofL
  congr 1
  apply Array.ext'
  simp
theorem join_empty : ∀ l : List Str, Txt.join (ofL []) l = ofL (l.flatMap fun x => x.cps.toList)
  | [] => rfl
  | [x] => by
    show x = _
    simp [ofL_toList]
  | x :: y :: r => by
    have e : Txt.join (ofL []) (x :: y :: r) = x ++ ofL [] ++ Txt.join (ofL []) (y :: r) := by
      unfold Txt.join
      rw [StrLaws.glued_eq_join, StrLaws.glued_eq_join]; rfl
    rw [e]
    rw [join_empty (y :: r), ofL_append, ofL_append]
    simp [ofL]
section
variable {prog : Program} {w : World} {A : Around} {E : Value → Shared → Prop} {s : Shared} {x : Str} {t : Tok} {Q : Value → Shared → Prop}
theorem join_tup {T : Addr} {l : List (Str × Tok)} (hT : s.heap.get? T = some (tupObj (strValues l).toArray)) (hok : JoinOk x (l.map (·.1)) = true)
    (hq : ∀ t' k, Q (.str (Txt.join x (l.map (·.1))) t') { s with toks := k }) : wpAny (model prog w) A (call (.builtin "str.join") [.str x t, .ref T]) Q E s := by
  obtain ⟨other, e⟩ := join_tree x t T
  refine wpAny_call (codeAny_call_builtin F.slot_str_join.plain F.entry_str_join (F.slot_str_join.check _ _ _ _ _ _ _ _ (typeIs_str _ _ _) (F.args_str_join_2 _ _) ?_))
  rw [e]
  refine wpAny_bind (wpAny_typeOf (T := "tuple") ⟨_, hT, rfl⟩ ?_)
  rw [if_pos (by decide)]
  refine wpAny_bind (wpAny_seqItems hT rfl ?_)
  dsimp only
  unfold JoinOk at hok
  rw [Bool.not_eq_true'] at hok
  have g : Gives (joinTail x (strValues l)) (joinMade x l) := by
    have g0 := gives_joinTail x l hok
    cases l with
    | nil => exact g0
    | cons p r => cases r with
      | nil => exact g0
      | cons q r' => exact g0
  exact g prog w A (wants Q E) s (post_join l ⟨joinFit_length hok, hq⟩)
end
section
variable {w : World} {A : Around} {E : Value → Shared → Prop} {s : Shared} {Q : Value → Shared → Prop} {a d : Addr} {its : Array Value} {n : Nat} {i : Int} {ps : List (Str × Str)}
theorem flat_length (ps : List (Str × Str)) : ((flat ps).length : Int) = sizes ps := by
  induction ps with
  | nil => rfl
  | cons p r ih =>
    rw [sizes_cons]
    unfold flat at *
    rw [List.flatMap_cons, List.length_append, List.length_append]
    unfold sizeOf' Str.length
    simp only [Array.length_toList]
    (exact om11 ih)
theorem str_of {r : Option (Option Value)} {l : List Nat} (h : (match r with | some (some (.str x _)) => x.cps.toList == l | _ => false) = true) : ∃ t, r = some (some (.str (ofL l) t)) := by
  split at h
  · rename_i x t
    refine ⟨t, ?_⟩
    rw [← eq_of_beq h, ofL_toList]
  · cases h
theorem empty_at (w : World) : ∃ t, nsIn (KK w) mainGlobals "EMPTYSTRING" = some (some (.str (ofL []) t)) := str_of (by kernel_rfl)
theorem joinOk_of {sep : Str} {l : List Str} (h : (l.map (·.length)).sum + l.length * sep.length ≤ sizeLine) : JoinOk sep l = true := by
  unfold JoinOk Builtin.Str.tooLong
  rw [StrLaws.joinTotal]
  simp only [Bool.not_eq_true', decide_eq_false_iff_not]
  (exact om12 h)
theorem join_mov {prog : Program} {K b : Addr} {n : Nat} {F : Nat → Value → Prop} {sep : Str} {t : Tok} (X : Gen prog w A K b n F s) (tx : Nat → Str) (htx : ∀ j v, F j v → ∃ u, v = .str (tx j) u)
    (hok : JoinOk sep ((List.range n).map tx) = true)
    (hQ : ∀ s' t' k wr q, Moved wr (GenOnlyQ q) s s' → (∀ b ∈ wr, (K : Nat) < b) → Q (.str (Txt.join sep ((List.range n).map tx)) t') { s' with toks := k })
    (hsz : n ≤ sizeLine) : wpAny (model prog w) A (call (.builtin "str.join") [.str sep t, .ref b]) Q E s := by
  obtain ⟨fp, wr, g, St, W, hst, hT, ha, hfp, hwr⟩ := X
  have W := W.in4_2
  refine SC.joinGen W hT hst hfp ha (fun j v hv => let ⟨u, e⟩ := htx j v hv; ⟨_, u, e⟩) (fun s' lt hm hacc => ?_) hsz
  have hl : lt.map (·.1) = (List.range n).map tx := by
    apply List.ext_getElem?
    intro j
    have hsz : lt.length = n := by simpa [strValues] using hacc.1
    by_cases hj : j < n
    · have hj' : j < lt.length := hsz ▸ hj
      obtain ⟨u, hv⟩ := htx j _ (hacc.2 j (.str lt[j].1 lt[j].2) (by simp [strValues, List.getElem?_eq_getElem hj']))
      injection hv with h1 _
      simp [List.getElem?_eq_getElem hj', hj, h1]
    · have hj' : ¬ j < lt.length := hsz ▸ hj
      simp [hj, hj']
  rw [hl]
  exact ⟨hok, fun t' k => hQ _ t' k wr g hm hwr⟩
theorem str_ok (O : Ok w s) (ha : A.handled = none) (hroom : A.depth + 1 < recursionLimit) (Y : AccAt s.heap a d its n i) (Ps : PairsAt s.heap its ps) (hsz : sizes ps ≤ 1000000) (hlen : ps.length ≤ 100000)
    (h : ∀ s' t, Ok w s' → St [] s s' → Q (.str (ofL (flat ps)) t) s') :
    wpAny (model PG w) A (call (.ref 174) [.ref a]) Q E s := by
  obtain ⟨la, ld, oa, hh, tk, t, od⟩ := Y
  refine c_enter (binds := [("self", .ref a)]) [] O (Nat.lt_of_succ_lt hroom) no_own fun g L s₁ c => ?_
  have gd : g.get? d = some (accDict hh tk i t) := c.B.all d _ (fun h => nomatch h) (not_tab ld) od
  have ga : g.get? a = some (accObj d its n) := c.B.all a _ (fun h => nomatch h) (not_tab la) oa
  have Pg : PairsAt g its ps := Ps.high fun b o hb e => c.B.all b _ (fun h => nomatch h) (not_tab hb) e
  obtain ⟨te, he⟩ := empty_at w
  refine wpAny_execs_cons ?_
  refine wpAny_Return_some ?_
  refine MethodCall_ ?_
  refine c_glob c he ?_
  refine GM.join ?_
  refine callWith_method1 (he := starEach_gen) ?_
  refine spliced_more (he := starEach_gen) ?_
  refine acc_gen (P := 169) (F := fun j y => ∃ t, y = .str (((ps[j]?).map fun p => ofL (p.1.cps.toList ++ p.2.cps.toList)).getD (ofL [])) t) c ha hroom (by decide) (by kernel_rfl) ga gd Pg ?_ ?_ ?_ ?_
  · intro Q' q; exact c_name c rfl q
  · kernel_rfl
  · intro A' E' C cv j p t1 t2 s₂ m₂ hA hD hp hn h1 h2 G₂
    have hp' := sizes_mem hp
    unfold sizeOf' at hp'
    refine MethodCall_ ?_
    refine g_glob G₂ he ?_
    refine GM.join ?_
    refine callWith_method1 (spliced_more (Tuple_ (spliced_more (g_name hn h1 (spliced_more (g_name hn h2 (spliced_none ?_)))))))
    refine wpAny_newObj_type ?_
    refine spliced_none ?_
    refine join_tup (l := [(p.1, t1), (p.2, t2)]) (Heap.get?_push_size _ rfl) ?_ ?_
    · refine joinOk_of ?_
      simp only [List.map_cons, List.map_nil, List.sum_cons, List.sum_nil, ofL_len, List.length_nil, Nat.mul_zero]
      have : (1000000 : Nat) ≤ sizeLine := by decide
      (exact om14 hsz hp' this)
    · intro t' k
      refine ⟨⟨t', ?_⟩, _, _, rfl, fun _ _ e => Heap.get?_push_of_some _ e⟩
      rw [hp]
      simp [join_empty]
  · intro b s₂ c₂ X₂
    refine spliced_none ?_
    have hcong : (List.range ps.length).map (fun j => ((ps[j]?).map fun p => ofL (p.1.cps.toList ++ p.2.cps.toList)).getD (ofL [])) = ps.map fun p => ofL (p.1.cps.toList ++ p.2.cps.toList) := by
      apply List.ext_getElem?
      intro j
      by_cases hj : j < ps.length
      · simp [hj]
      · simp [hj]
    refine join_mov X₂ (fun j => ((ps[j]?).map fun p => ofL (p.1.cps.toList ++ p.2.cps.toList)).getD (ofL [])) (fun j v e => e) ?_ ?_ ?_
    · rw [hcong]
      refine joinOk_of ?_
      have e : ((ps.map fun p => ofL (p.1.cps.toList ++ p.2.cps.toList)).map (·.length)).sum = (flat ps).length := by
        unfold flat
        rw [List.length_flatMap, List.map_map]
        congr 1
      rw [e, ofL_len, List.length_nil, Nat.mul_zero, Nat.add_zero]
      have := flat_length ps
      have : (1000000 : Nat) ≤ sizeLine := by decide
      (exact om15 hsz e (by assumption) this)
    · intro s₄ t₄ k wr q hm hw
      have c₄ := (c₂.moved hm hw).ext (s' := { s₄ with toks := k }) (fun _ _ e => e) rfl rfl
      rw [hcong, join_empty]
      have e : (ps.map fun p => ofL (p.1.cps.toList ++ p.2.cps.toList)).flatMap (fun x => x.cps.toList) = flat ps := by
        unfold flat
        rw [List.flatMap_map]
        simp only [ofL]
      rw [e]
      exact h _ _ c₄.ok c₄.st
    · exact Nat.le_trans hlen (by decide)
end
end Mine
end

section
open PySem PySem.W PySem.Calls PyProof.Rows
set_option maxRecDepth 100000
set_option maxHeartbeats 8000000
namespace Mine
structure Rm (A : Around) (k : Nat) : Prop where
  hd : A.handled = none
  dp : A.depth + k < recursionLimit
  un : A.units + 5 * k < cLine
theorem Rm.deep {A : Around} {k : Nat} {env : Env} (r : Rm A (k + 1)) : Rm (A.deeper env) k := ⟨r.hd, by have := r.dp; show A.depth + 1 + k < _; (exact om16 this), by have := r.un; show A.units + 3 + 5 * k < _; (exact om17 this)⟩
theorem Rm.in1 {A : Around} {k : Nat} (r : Rm A (k + 1)) : Rm A.in1 k := ⟨r.hd, by have := r.dp; show A.depth + k < _; (exact Nat.le_of_lt (by assumption)), by have := r.un; show A.units + 1 + 5 * k < _; (exact om18 this)⟩
theorem Rm.le {A : Around} {k j : Nat} (r : Rm A k) (h : j ≤ k := by decide) : Rm A j := ⟨r.hd, by have := r.dp; (exact om19 h this), by have := r.un; (exact om20 h this)⟩
theorem Rm.room {A : Around} {k : Nat} (r : Rm A k) (j : Nat := 0) (h : j ≤ k := by decide) : A.depth + j < recursionLimit := by have := r.dp; (exact om19 h this)
section
variable {w : World} {A : Around} {E : Value → Shared → Prop} {s : Shared} {Q : Value → Shared → Prop} {a d : Addr} {its : Array Value} {n : Nat} {i : Int} {ps : List (Str × Str)} {od : Option Obj}
theorem special_def {name : Str} {f : Addr} {Q : Option Value → Shared → Prop} (X : (KK w).In s.heap) (I : InstAt s.heap a (accObj d its n) 200 od)
    (hf : findIn (KK w) (.ref 200) name = some (some (.ref f))) (ht : typeIn (KK w) (.ref f) = some (.type "function"))
    (h : wpAny (model PG w) A (call (.ref f) [.ref a]) (fun v s' => Q (some v) s') E s) : wpAny (model PG w) A (callSpecial? (.ref a) name) Q E s := by
  unfold callSpecial? specialOf
  refine wpAny_bind (wpAny_bind (I.type.here ((looks_findIn X hf).here ?_)))
  dsimp only
  refine wpAny_holding (wpAny_bind ?_)
  unfold bindSpecial
  refine wpAny_bind ((looks_typeIn X ht).here ?_)
  rw [if_pos (by decide)]
  exact wpAny_pure (wpAny_bind (wpAny_mono h (fun v s' q => wpAny_pure q) fun _ _ e => e))
theorem len_body (O : Ok w s) (r : Rm A 3) (Y : AccAt s.heap a d its n i) (Ps : PairsAt s.heap its ps) (hi : 0 ≤ i ∧ i ≤ 1000000) (hsz : sizes ps ≤ 1000000)
    (h : ∀ s' t, Ok w s' → St [] s s' → Q (.int (i + sizes ps) t) s') :
    wpAny (model PG w) A.in1 (Builtin.«len» ⟨[.ref a], []⟩) (fun fin s' => ∃ v, fin = .done (.ret v) ∧ Q v s') E s := by
  have hs0 := sizes_nonneg ps
  obtain ⟨hh, tk, t, od⟩ := id Y.od
  unfold Builtin.«len»
  refine wpAny_bind (m := oneArg "len" _) (wpAny_pure ?_)
  refine wpAny_bind (special_def (f := 167) O.gd.X (accI Y.oa od) ?_ ?_ ?_)
  · kernel_rfl
  · kernel_rfl
  refine len_ok O r.hd ((r.in1).room 1) Y Ps (by (exact om21 hi)) hsz fun s' t' O' S' => ?_
  refine wpAny_bind (wpAny_holding (wpAny_pure ?_))
  refine wpAny_bind (wpAny_letGo ?_)
  show wpAny _ _ (if i + sizes ps < 0 then _ else _) _ _ _
  rw [if_neg (by (exact om22 hi hsz hs0))]
  show wpAny _ _ (if i + sizes ps ≥ 2 ^ 63 then _ else _) _ _ _
  rw [if_neg (by lia)]
  refine wpAny_bind (wpAny_mkInt (wpAny_pure ⟨_, rfl, h _ _ ⟨O'.gd, O'.tabs, O'.bare⟩ ⟨S'.keep, S'.grow, S'.os⟩⟩))
theorem len_call (O : Ok w s) (r : Rm A 3) (Y : AccAt s.heap a d its n i) (Ps : PairsAt s.heap its ps) (hi : 0 ≤ i ∧ i ≤ 1000000) (hsz : sizes ps ≤ 1000000)
    (h : ∀ s' t, Ok w s' → St [] s s' → Q (.int (i + sizes ps) t) s') :
    wpAny (model PG w) A (call (.builtin "len") [.ref a]) Q E s :=
  Calls.call_function_entry kind_len plain_len entry_len (args_len1 _) (len_body O r Y Ps hi hsz h)
theorem str_call (O : Ok w s) (r : Rm A 3) (Y : AccAt s.heap a d its n i) (Ps : PairsAt s.heap its ps) (hsz : sizes ps ≤ 1000000) (hlen : ps.length ≤ 100000)
    (h : ∀ s' t, Ok w s' → St [] s s' → Q (.str (ofL (flat ps)) t) s') :
    wpAny (model PG w) A (call (.type "str") [.ref a]) Q E s := by
  obtain ⟨hh, tk, t, od⟩ := id Y.od
  refine callType_newIn F.called_str (by decide) (F.typeCall_str_1 _) (F.newCall_str_1 _) (fun obj => F.args_object_init_2 obj _) F.entry_str_new
    (S := fun A' R s' => s' = s ∧ Rm A' 2 ∧ ∀ s'' t, Ok w s'' → St [] s s'' → R (.ok (.ret (.str (ofL (flat ps)) t))) s'') (MeetsIn.of_wp fun A' R s' hS => ?_) ⟨rfl, r.in1, fun s'' t O' S' => ⟨typeIs_str _ _ _, h _ _ O' S'⟩⟩
  obtain ⟨rfl, r', hR⟩ := hS
  rw [str_new_tree]
  refine wpAny_bind (wpAny_pure ?_)
  refine wpAny_bind (wpAny_of_eq isSubtype_str_str ?_)
  refine wpAny_bind ?_
  unfold Builtin.Str.strOf
  rw [if_neg (show ¬ Builtin.Str.isExactStr (.ref a) = true from Bool.false_ne_true)]
  refine wpAny_bind (wpAny_cRoomFor (by have := r'.in1.un; (exact om24 this)) ?_)
  refine wpAny_bind (special_def (f := 174) O.gd.X (accI Y.oa od) ?_ ?_ ?_)
  · kernel_rfl
  · kernel_rfl
  refine str_ok O r'.hd (r'.room 1) Y Ps hsz hlen fun s'' t' O' S' => ?_
  exact wpAny_pure (wpAny_pure ⟨_, rfl, hR _ _ O' S'⟩)
theorem truthy_acc {Q : Bool → Shared → Prop} (O : Ok w s) (r : Rm A 3) (Y : AccAt s.heap a d its n i) (Ps : PairsAt s.heap its ps) (hi : 0 ≤ i ∧ i ≤ 1000000) (hsz : sizes ps ≤ 1000000)
    (h : ∀ s', Ok w s' → St [] s s' → Q (i + sizes ps != 0) s') : wpAny (model PG w) A (truthy (.ref a)) Q E s := by
  obtain ⟨hh, tk, t, od⟩ := id Y.od
  have I := accI Y.oa od
  have nb := looks_findIn (M := model PG w) O.gd.X (K := KK w) (t := .ref 200) (name := "__bool__") (r := none) (by kernel_rfl)
  have ln := looks_findIn (M := model PG w) O.gd.X (K := KK w) (t := .ref 200) (name := "__len__") (r := some (.ref 167)) (by kernel_rfl)
  have key : wpAny (model PG w) A (runValue (.builtin "len" ⟨[.ref a], []⟩)) (fun v s' => ∃ t, v = .int (i + sizes ps) t ∧ Ok w s' ∧ St [] s s') E s := by
    refine wpAny_runValue (codeAny_builtin entry_len ?_)
    rw [Around.under_plainId plain_len _]
    exact wpAny_mono (len_body (Q := fun v s' => ∃ t, v = .int (i + sizes ps) t ∧ Ok w s' ∧ St [] s s') O r Y Ps hi hsz fun s' t O' S' => ⟨t, rfl, O', S'⟩)
      (fun fin s' h' => by obtain ⟨r, rfl, hq⟩ := h'; exact hq) fun _ _ e => e
  unfold truthy
  refine wpAny_bind (m := callSpecial? _ _) ?_
  unfold callSpecial? specialOf
  refine wpAny_bind (wpAny_bind (I.type.here (nb.here (wpAny_pure ?_))))
  dsimp only
  refine wpAny_bind (wpAny_bind (I.type.here (ln.here ?_)))
  rw [if_neg (by decide)]
  refine wpAny_bind (wpAny_mono key (fun v s' h' => ?_) fun _ _ e => e)
  obtain ⟨t', rfl, O', S'⟩ := h'
  exact wpAny_pure (h s' O' S')
end
end Mine
end

section
open PySem PySem.W PySem.Calls PyProof.Rows
set_option maxRecDepth 100000
set_option maxHeartbeats 8000000
namespace Mine
section
variable {w : World} {A : Around} {E : Value → Shared → Prop} {s : Shared} {Q : Value → Shared → Prop} {a d : Addr} {its : Array Value} {n : Nat} {i : Int} {ps : List (Str × Str)} {hh : Int} {tk t : Tok}
theorem acc_init {Q : Value → Shared → Prop} {ex : Bool} (X : (KK w).In s.heap) (I : InstAt s.heap a (accObj d its n) 200 (some (accDict hh tk i t))) (h : Q (.int i t) { s with toks := s.toks + 1 }) :
    wpAny (model PG w) A (getAttr (.ref a) "_initial_size" ex) Q E s := by
  refine get_l (K := KK w) (C := 200) X I ?_ ?_ ?_ (v := .int i t) ?_ ?_ h
  · kernel_rfl
  · kernel_rfl
  · kernel_rfl
  · kernel_rfl
  · rfl
theorem callWith_type_1 {M : Model} {pos : Pos} {T : String} {e : Expr} {env : Env} {Q : Value → Shared → Prop} (h : wpAny M A (eval e env) (fun v s₁ => wpAny M A (call (.type T) [v]) Q E s₁) E s) (he : starEach [e] env = (false, eval e env) :: starEach [] env := by rfl) :
    wpAny M A (callWith pos (.type T) [] (backTo pos (starEach [e] env)) []) Q E s := by
  rw [he]
  exact PySem.callWith_type rfl (Calls.evalArgs_plain (Calls.spliced_cons (wpAny_mono h (fun _ _ h₁ => Calls.spliced_nil h₁) fun _ _ e => e)))
theorem onlyws_ok (O : Ok w s) (r : Rm A 5) (Y : AccAt s.heap a d its n i) (Ps : PairsAt s.heap its ps) (hi : 0 ≤ i ∧ i ≤ 1000000) (hsz : sizes ps ≤ 1000000) (hlen : ps.length ≤ 100000)
    (h : ∀ s', Ok w s' → St [] s s' → Q (.bool (i == 0 && (sizes ps == 0 || Txt.isspace (ofL (flat ps))))) s') :
    wpAny (model PG w) A (call (.ref 189) [.ref a]) Q E s := by
  obtain ⟨la, ld, oa, hh, tk, t, od⟩ := Y
  refine c_enter (binds := [("self", .ref a)]) [] O r.room no_own fun g L s₁ c => ?_
  have gd : g.get? d = some (accDict hh tk i t) := c.B.all d _ (fun h => nomatch h) (not_tab ld) od
  have ga : g.get? a = some (accObj d its n) := c.B.all a _ (fun h => nomatch h) (not_tab la) oa
  have Pg : PairsAt g its ps := Ps.high fun b o hb e => c.B.all b _ (fun h => nomatch h) (not_tab hb) e
  have Yc : ∀ {m news s'}, Cx w g [] s L m news s' → AccAt s'.heap a d its n i := fun c => ⟨la, ld, c.base ga, hh, tk, t, c.base gd⟩
  have Pc : ∀ {m news s'}, Cx w g [] s L m news s' → PairsAt s'.heap its ps := fun c => Pg.keeps fun b o e => c.base e
  refine wpAny_execs_cons ?_
  refine wpAny_Return_some ?_
  refine BoolOp_and ?_
  refine wpAny_Compare1 ?_
  refine Attribute_any_ ?_
  refine c_name c rfl ?_
  refine acc_init c.X (accI (c.base ga) (c.base gd)) ?_
  have c₂ := c.ext (s' := { s₁ with toks := s₁.toks + 1 }) (fun _ _ e => e) rfl rfl
  refine c_int c₂ fun s₃ t₃ c₃ => ?_
  refine eq_int (wpAny_truthy_bool ?_)
  cases hi0 : (i == 0) with
  | false =>
    rw [if_neg (by decide)]
    rw [hi0] at h
    exact h _ c₃.ok c₃.st
  | true =>
    rw [if_pos rfl]
    have hi00 : i = 0 := eq_of_beq hi0
    subst hi00
    rw [hi0] at h
    refine BoolOp_one ?_
    refine BoolOp_or ?_
    refine UnaryOp_ ?_
    refine c_name c₃ rfl ?_
    unfold unaryOp
    refine wpAny_holding ?_
    dsimp only
    rw [if_pos (by decide)]
    refine wpAny_bind (truthy_acc c₃.ok r.deep.le (Yc c₃) (Pc c₃) (by assumption) hsz fun s₄ O₄ S₄ => wpAny_pure ?_)
    have c₄ := c₃.call0 S₄ O₄
    refine wpAny_truthy_bool ?_
    cases hz : (sizes ps == 0) with
    | true =>
      have e0 : sizes ps = 0 := eq_of_beq hz
      have e1 : (!((0 : Int) + sizes ps != 0)) = true := by rw [e0]; rfl
      rw [e1, if_pos rfl]
      rw [hz] at h
      exact h _ c₄.ok c₄.st
    | false =>
      have e0 : sizes ps ≠ 0 := ne_of_beq_false hz
      have e1 : (!((0 : Int) + sizes ps != 0)) = false := by
        rw [Int.zero_add, bne_iff_ne.mpr e0]; rfl
      rw [e1, if_neg (by decide)]
      rw [hz] at h
      refine BoolOp_one ?_
      refine MethodCall_ ?_
      refine Call_ ?_
      refine c_built c₄ (v := .type "str") ?_ ?_ ?_ ?_
      · kernel_rfl
      · kernel_rfl
      · decide
      refine callWith_type_1 ?_
      refine c_name c₄ rfl ?_
      refine str_call c₄.ok r.deep.le (Yc c₄) (Pc c₄) hsz hlen fun s₅ t₅ O₅ S₅ => ?_
      have c₅ := c₄.call0 S₅ O₅
      refine GM.isspace ?_
      refine callWith_method0 ?_
      refine SC.isspace ?_
      exact h _ c₅.ok c₅.st
end
end Mine
end

section
open PySem PySem.W PySem.Calls PyProof.Rows
set_option maxRecDepth 100000
set_option maxHeartbeats 8000000
namespace Mine
section
variable {w : World} {A : Around} {E : Value → Shared → Prop} {s : Shared} {Q : Value → Shared → Prop} {R : Result → Shared → Prop}
theorem cls200 (w : World) : ∃ cd sl, (KK w).lookup 200 = some ⟨.type "type", none, .cls cd, sl⟩ ∧ cd.abstract = false ∧ cd.hasDel = false ∧ cd.mro = [.ref 200, .type "list", .type "object"] ∧ (sl.toList[4]?).join = some (.builtin "list.__new__") := by
  have h1 : ∃ o, (KK w).lookup 200 = some o := by
    have : ((KK w).lookup 200).isSome = true := by kernel_rfl
    exact Option.isSome_iff_exists.mp this
  obtain ⟨o, ho⟩ := h1
  have e1 : (((KK w).lookup 200).map (·.cls)) = some (.type "type") := by kernel_rfl
  have e2 : (((KK w).lookup 200).map (·.dict)) = some none := by kernel_rfl
  have e3 : (clsIn (KK w) 200).map (·.abstract) = some false := by kernel_rfl
  have e4 : (clsIn (KK w) 200).map (·.hasDel) = some false := by kernel_rfl
  have e5 : (clsIn (KK w) 200).map (·.mro) = some [.ref 200, .type "list", .type "object"] := by kernel_rfl
  have e6 : (((KK w).lookup 200).map fun o => (o.slots.toList[4]?).join) = some (some (.builtin "list.__new__")) := by kernel_rfl
  obtain ⟨c, d, dt, sl⟩ := o
  rw [ho] at e1 e2 e6
  unfold clsIn at e3 e4 e5
  rw [ho] at e3 e4 e5
  cases dt with
  | cls cd =>
    simp only [Option.map_some, Option.some.injEq] at e1 e2 e3 e4 e5 e6
    subst e1 e2
    exact ⟨cd, sl, ho, e3, e4, e5, e6⟩
  | _ => simp at e3
theorem made200 {h : Heap} (X : (KK w).In h) : Looks (model PG w) h (Bind.madeBy (.ref 200)) (some "list.__new__") := by
  obtain ⟨cd, sl, ho, e1, e2, e5, e6⟩ := cls200 w
  have hm : Looks (model PG w) h (mroOf (.ref 200)) cd.mro := (looks_clsIn X (by unfold clsIn; rw [ho])).andThen .now
  intro A Q E s k q
  unfold Bind.madeBy
  refine wpAny_bind (hm A _ E s k ?_)
  rw [e5, List.forIn_cons]
  refine wpAny_bind (wpAny_bind (wpAny_bind (wpAny_bind (wpAny_loadPart (k _ _ (X _ _ ho)) (wpAny_pure ?_)))))
  dsimp only
  rw [← Array.getElem?_toList, e6]
  exact wpAny_pure (wpAny_pure (wpAny_pure q))
theorem base200 {h : Heap} (X : (KK w).In h) : Looks (model PG w) h (Bind.staticBase (.ref 200)) (.ref 200) := by
  obtain ⟨cd, sl, ho, e1, e2, e5, e6⟩ := cls200 w
  have hm : Looks (model PG w) h (mroOf (.ref 200)) cd.mro := (looks_clsIn X (by unfold clsIn; rw [ho])).andThen .now
  intro A Q E s k q
  unfold Bind.staticBase
  refine wpAny_bind (hm A _ E s k ?_)
  rw [e5, List.forIn_cons]
  exact wpAny_bind (wpAny_bind (wpAny_bind (made200 X A _ E s k (wpAny_pure (wpAny_pure (wpAny_pure q))))))
theorem args_list_new (v : Value) : argsOk "list.__new__" ⟨[.ref 200, v], []⟩ := by unfold argsOk; kernel_rfl
theorem acc_new {v : Value} {h : Heap} {g : Array GenState} {d : Drawn} {t : Nat} {os : OsState} (X : (KK w).In h)
    (hq : R (.ok (.ret (.ref (h.objs.size + 1)))) ⟨(h.push emptyDict).push (accObj h.objs.size #[] 0), g, d, t, os⟩) :
    codeAny (model PG w) A (.call (.builtin "list.__new__") ⟨[.ref 200, v], []⟩) R ⟨h, g, d, t, os⟩ := by
  obtain ⟨cd, sl, ho, e1, e2, e5, e6⟩ := cls200 w
  have ho' := X _ _ ho
  have hs := args_list_new v
  have ty : Looks (model PG w) h (isSubtype (.ref 200) (.type "list")) true := looks_subIn X (by kernel_rfl)
  have kd : builtinKind "list.__new__" = some .builtinFn := by decide +kernel
  have sp : splitId "list.__new__" = some ("list", "__new__") := by decide +kernel
  refine codeAny_of_tree ?_
  show wpAny _ A.in1 (do checkBuiltinCall "list.__new__" ⟨[.ref 200, v], []⟩; again (.builtin "list.__new__" ⟨[.ref 200, v], []⟩)) _ _ _
  refine wpAny_bind ?_
  unfold checkBuiltinCall
  rw [kd, sp]
  dsimp only
  rw [if_pos (by decide)]
  refine wpAny_bind (ks_wpAny_isType_cls ho' rfl ?_)
  simp only [Bool.not_true, Bool.false_eq_true, if_false]
  refine wpAny_bind (ty.at ?_)
  simp only [Bool.not_true, Bool.false_eq_true, if_false]
  refine wpAny_bind ((base200 X).at (wpAny_bind ((made200 X).at ?_)))
  dsimp only
  rw [if_neg (by decide +kernel)]
  have chk : ∀ {Q' : Unit → Shared → Prop} {E'}, Q' () ⟨h, g, d, t, os⟩ → wpAny (model PG w) A.in1 (match Manifest.signature? "list.__new__" with | some sig => Bind.checkArgs "list.__new__" sig ⟨[.ref 200, v], []⟩ | none => pure ()) Q' E' ⟨h, g, d, t, os⟩ := by
    intro Q' E' q
    cases hsig : Manifest.signature? "list.__new__" with
    | none => exact wpAny_pure q
    | some sig =>
      simp only [argsOk, hsig] at hs
      have h2 : Bind.checkArgs "list.__new__" sig ⟨[.ref 200, v], []⟩ = pure () := hs
      show wpAny _ _ (Bind.checkArgs "list.__new__" sig ⟨[.ref 200, v], []⟩) _ _ _
      rw [h2]; exact wpAny_pure q
  refine chk (wpAny_pure ⟨plainId_quiet F.plain_list_new _, codeAny_builtin_stack F.entry_list_new rfl fun p st => ?_⟩)
  rw [Around.under_plainId F.plain_list_new _]
  have hown := owner_list_new
  simp only [hown]
  refine wpAny_bind (ks_wpAny_isType_cls ho' rfl ?_)
  simp only [Bool.not_true, Bool.false_eq_true, if_false]
  refine wpAny_bind (ty.at ?_)
  simp only [Bool.not_true, Bool.false_eq_true, if_false]
  refine wpAny_bind (wpAny_pure ?_)
  rw [if_neg (by decide)]
  refine wpAny_bind ?_
  refine wpAny_newObj_type ?_
  dsimp only
  refine wpAny_bind ?_
  show wpAny _ _ (newObjAsIs _ _ _) _ _ _
  unfold newObjAsIs classHasDel
  refine wpAny_bind (wpAny_alloc (wpAny_bind (wpAny_bind (wpAny_load (Heap.get?_push_of_some _ (Heap.get?_push_of_some _ ho')) (wpAny_pure ?_)))))
  rw [e2]
  refine wpAny_pure (wpAny_pure ?_)
  show R _ _
  rw [Heap.size_push]
  exact hq
theorem acc_make {v : Value} {h : Heap} {g : Array GenState} {d : Drawn} {t : Nat} {os : OsState} (X : (KK w).In h)
    (hq : codeAny (model PG w) (A.under (.builtin "type.__call__" ⟨[.ref 200, v], []⟩)) (.call (.ref 137) ⟨[.ref (h.objs.size + 1), v], []⟩) (InitBack (h.objs.size + 1) R) ⟨(h.push emptyDict).push (accObj h.objs.size #[] 0), g, d, t, os⟩) :
    codeAny (model PG w) A (.call (.ref 200) ⟨[v], []⟩) R ⟨h, g, d, t, os⟩ := by
  obtain ⟨cd, sl, ho, e1, e2, e5, e6⟩ := cls200 w
  have hC := X _ _ ho
  have made := made200 X
  have self : Looks (model PG w) h (isSubtype (.ref 200) (.ref 200)) true := looks_subIn X (by kernel_rfl)
  have call : Looks (model PG w) h (specialOf (.ref 200) "__call__") (some (.builtin "type.__call__")) := looks_specialIn X (by kernel_rfl)
  have typ : Looks (model PG w) h (isInstance (.ref 200) (.type "type")) true := looks_instIn X (by kernel_rfl)
  have hi : Looks (model PG w) h (typeLookup (.ref 200) "__init__") (some (.ref 137)) := looks_findIn X (by kernel_rfl)
  have hb : ∀ self, Looks (model PG w) h (bindSpecial (.ref 137) self) (.ref 137, [self]) := fun self => bind_fn X self (by kernel_rfl)
  have e4 : cd.mro.isEmpty = false := by rw [e5]; rfl
  refine codeAny_of_tree ?_
  show wpAny _ _ (callAny (.ref 200) _) _ _ _
  refine nd_load hC ?_
  show wpAny _ _ (callAny.viaDunder (.ref 200) _) _ _ _
  unfold callAny.viaDunder
  refine wpAny_bind (call.at ?_)
  dsimp only
  rw [tc_bind]
  refine wpAny_bind (wpAny_pure (wpAny_bind (wpAny_pure ?_)))
  refine wpAny_pure (a := Fin.again (.call (.builtin "type.__call__") ⟨[.ref 200, v], []⟩)) (And.intro rfl ?_)
  refine codeAny_call_builtin_at (Code.quiet_builtin _ (by decide +kernel)) entry_typeCall (check_slot tc_kind tc_split typ (tc_args _ _ _) ?_)
  unfold Builtin.«type.__call__»
  have hm : Looks (model PG w) h (mroOf (.ref 200)) cd.mro := ((Looks.ld (part := none) hC).andThen .now).andThen .now
  repeat (first | simp only [e4, Bool.false_eq_true, if_false] | with_reducible refine wpAny_call ?_ | lk)
  refine acc_new X ?_
  have k : ∀ b o, h.get? b = some o → ((h.push emptyDict).push (accObj h.objs.size #[] 0)).get? b = some o := fun b o e => Heap.get?_push_of_some _ (Heap.get?_push_of_some _ e)
  have hx : ((h.push emptyDict).push (accObj h.objs.size #[] 0)).get? (h.objs.size + 1) = some (accObj h.objs.size #[] 0) := by heap_get
  have t1 : Looks (model PG w) ((h.push emptyDict).push (accObj h.objs.size #[] 0)) (typeOf (.ref (h.objs.size + 1))) (.ref 200) := (Looks.ld hx).andThen .now
  have s1 := self.keeps k
  have i1 := hi.keeps k
  have b1 := (hb (.ref (h.objs.size + 1))).keeps k
  unfold isInstance callSpecial? specialOf
  repeat (first | with_reducible refine wpAny_call ?_ | lk)
  refine codeAny_mono hq fun r s' z => ?_
  rcases r with e | (v | _ | _ | _) <;> first | exact z | exact z.elim | skip
  obtain ⟨rfl, z⟩ := z
  exact wpAny_pure (wpAny_pure z)
end
end Mine
end

section
open PySem PySem.W PySem.Calls PyProof.Rows
set_option maxRecDepth 100000
set_option maxHeartbeats 8000000
namespace Mine
section
variable {w : World} {A : Around} {E : Value → Shared → Prop} {s : Shared} {Q : Value → Shared → Prop} {a d : Addr} {i : Int} {t : Tok}
theorem args_init (x : Value) : argsOk "list.__init__" ⟨[x], []⟩ := by unfold argsOk; kernel_rfl
theorem chk_init {w : World} {x : Addr} {A' : Around} {Q' : Unit → Shared → Prop} {E' : Value → Shared → Prop} {s : Shared} (q : Q' () s) : wpAny (model PG w) A' (checkBoundCall "list.__init__" ⟨[.ref x], []⟩) Q' E' s := by
  with_reducible refine chk_slot ?_ ?_ ?_
  · decide +kernel
  · exact args_init _
  · exact q
theorem put_new {h : Int} {v : Value} {tt : Tok} : Obj.putName "_initial_size" h (.str "_initial_size" tt) v emptyDict = dictOf [⟨h, .str (Str.ofString "_initial_size") tt, v⟩] 1 := by rfl
theorem c_enterSC {R : Result → Shared → Prop}
    {name qual : Str} {params : Arguments} {body : List Stmt} {scope : Scope} {cl : List (Str × Addr)} {dV kV doc pm cdv ct oc : Value} {an od : Option Addr} {osl : Array (Option Value)} {f : Addr} {args : List Value} {binds : List (Str × Value)}
    (own : List (Addr × Obj)) (O : Ok w s) (hroom : A.depth < recursionLimit)
    (hown : ∀ p ∈ own, (238 : Nat) ≤ p.1 ∧ s.heap.get? p.1 = some p.2)
    (h : ∀ g L s₁, Cx w g (own.map (·.1)) s L (fun y => binds.reverse.lookup y) own s₁ →
      _root_.PySem.wpAt (model PG w) (A.deeper (envX qual scope L f cdv cl)) (.func body (envX qual scope L f cdv cl)) (execs body (envX qual scope L f cdv cl))
        (fun fl s' => R (.ok (.ret (match fl with | .ret v => v | _ => .none))) s') (fun _ _ => False) s₁)
    (ho : (hdz.heap_240 w.params).lookup f = some ⟨oc, od, .func (fnX name qual params body scope cl dV kV doc pm an cdv ct), osl⟩ := by k_is) (hf : (!(tabA.contains f)) = true := by rfl) (hcd : codeIn (KK w) cdv qual = true := by kernel_rfl)
    (hbind : BindsTo s (fnX name qual params body scope cl dV kV doc pm an cdv ct) ⟨args, []⟩ binds := by exact BindsTo.of_eq (by kernel_rfl)) (hloc : ∀ y ∈ binds, scope.names.lookup y.1 = some .local := by exact locs (by kernel_rfl))
    (hcell : ∀ x ∈ scope.names, x.2 ≠ .cell := by decide) (hco : scope.isCoroutine = false := by rfl) (hgen : scope.isGenerator = false := by rfl) (hk : scope.kind = .function := by rfl) :
    codeAny (model PG w) A (.call (.ref f) ⟨args, []⟩) R s := by
  obtain ⟨G, tp, bare⟩ := O
  refine (ks_codeAny_call_defAt (fd := fnX name qual params body scope cl dV kV doc pm an cdv ct) (body := body) (binds := binds) hroom (G.look ho hf) rfl G.lim (codeRec_of G.X hcd) rfl hbind hcell hloc (fun h₁ hns hk₁ => ?_) hco hgen hk)
  obtain ⟨B, big⟩ := base_of G hown
  exact ks_wpAt_mono (h _ _ _ ⟨B, big, rfl, ⟨hns, fun b o e => hk₁ b o (B.of_ b o e), Nat.le_of_eq (hideAll_size _ _)⟩,
    (fun q hq => ⟨hk₁ _ _ (hown q hq).2, Nat.ne_of_lt (Heap.lt_size (hown q hq).2), B.own _ (List.mem_map_of_mem hq)⟩), tp.keeps fun b o _ e => hk₁ b o e, bare, rfl, fun q hq => .inl (hown q hq).1⟩) (fun fl s' hq => hq) fun _ _ e => e.elim

theorem init_ok {R : Result → Shared → Prop} (O : Ok w s) (hroom : A.depth < recursionLimit) (la : (238 : Nat) ≤ a) (ld : (238 : Nat) ≤ d) (hne : d ≠ a) (oa : s.heap.get? a = some (accObj d #[] 0)) (od : s.heap.get? d = some emptyDict)
    (h : ∀ s' n', Ok w s' → St [a, d] s s' → AccAt s'.heap a d #[] n' i → R (.ok (.ret .none)) s') :
    codeAny (model PG w) A (.call (.ref 137) ⟨[.ref a, .int i t], []⟩) R s := by
  refine c_enterSC (binds := [("self", .ref a), ("initial_size", .int i t)]) [(a, accObj d #[] 0), (d, emptyDict)] O hroom (own2 la oa ld od) (fun g L s₁ c => ?_) (hbind := BindsTo.of_defaults rfl (O.gd.look (by k_is) rfl) rfl rfl rfl)
  refine ks_wpAt_execs_cons (wpAt_of_wpAny (plainObj_wpAny_Assign_Attribute (c_name c rfl (c_name c rfl ?_))))
  refine acc_setAttr (es := []) (k := 0) c.X (c.get (.head _)) (c.get (.tail _ (.head _))) rfl put_new (by simp) fun s₂ hs₂ e₂ hg₂ ho₂ => ?_
  have c₂ := c.upd (Upd.tail (Ne.symm hne) (Upd.head (fun _ h => nomatch h))) ld hs₂ e₂ hg₂ ho₂
  refine ks_wpAt_execs_cons (ks_wpAt_Expr_any (ks_wpAt_MethodCall ?_))
  have I : ∀ {m news s' hh tk t its n}, Cx w g [a, d] s L m news s' → (a, accObj d its n) ∈ news → (d, accDict hh tk i t) ∈ news → InstAt s'.heap a (accObj d its n) 200 (some (accDict hh tk i t)) := fun c q q' => accI (c.get q) (c.get q')
  refine c_super c₂ rfl (I c₂ (.head _) (.tail _ (.head _))) fun so s₃ c₃ hso => ?_
  refine super_slot c₃.X (c₃.get (.head _)) (ne200 la) (inst_is (K := KK w) (C := 200) c₃.X (I c₃ (.tail _ (.head _)) (.tail _ (.tail _ (.head _)))) (by kernel_rfl)) (by kernel_rfl) (by decide) S.type_init S.owner_init ?_
  have c₄ := Cx.new (a := s₃.heap.objs.size) (o := bndObj "method-wrapper" "list.__init__" a) (c₃.ext (s' := { s₃ with heap := s₃.heap.push (bndObj "method-wrapper" "list.__init__" a), toks := s₃.toks + 1 }) (fun _ _ e => Heap.get?_push_of_some _ e) rfl rfl) (Heap.get?_push_size _ rfl) c₃.lt
  refine bound0 (.inl rfl) (c₄.get (.head _)) (by decide +kernel) chk_init PySem.F.entry_list_init ?_
  have ga := c₄.get (.tail _ (.tail _ (.head _)))
  unfold Builtin.«list.__init__»
  dsimp only
  rw [if_neg (by decide), if_neg (by decide)]
  refine wpAny_bind (wpAny_listItems ga rfl ?_)
  refine wpAny_bind (m := updateSeq a _) (wpAny_updateSeq (xs := #[]) (n := 0) ga rfl ?_)
  refine wpAny_bind (wpAny_letGo ?_)
  refine wpAny_pure ⟨_, rfl, ?_⟩
  have hs₅ : Heap.SameBut a (s₃.heap.push (bndObj "method-wrapper" "list.__init__" a)) ((s₃.heap.push (bndObj "method-wrapper" "list.__init__" a)).update a (Obj.mapSeq fun _ => #[])) := Heap.SameBut.update ..
  have e₅ : ((s₃.heap.push (bndObj "method-wrapper" "list.__init__" a)).update a (Obj.mapSeq fun _ => #[])).get? a = some (accObj d #[] 0) := by
    rw [Heap.get?_update_self _ ga rfl]; rfl
  refine wpAt_of_wpAny (wpAny_execs_nil ?_)
  have c₅ := (c₄.drop (news' := [(a, accObj d #[] 0), (d, _)]) (fun p hp => .tail _ (.tail _ hp))).upd (s' := { s₃ with heap := (s₃.heap.push (bndObj "method-wrapper" "list.__init__" a)).update a (Obj.mapSeq fun _ => #[]), toks := s₃.toks + 1 })
    (Upd.head (fun p hp => by cases hp with | head => exact hne | tail _ h => cases h)) la hs₅ e₅ rfl rfl
  exact h _ 0 c₅.ok c₅.st ⟨la, ld, e₅, _, _, _, c₅.get (.tail _ (.head _))⟩
theorem make_ok (O : Ok w s) (r : Rm A 4)
    (h : ∀ s' a d n, Ok w s' → St [] s s' → AccAt s'.heap a d #[] n i → (s.heap.objs.size : Nat) ≤ a → (s.heap.objs.size : Nat) ≤ d → Q (.ref a) s') :
    wpAny (model PG w) A (call (.ref 200) [.int i t]) Q E s := by
  obtain ⟨hp, g, dd, tt, os⟩ := s
  have big : (238 : Nat) ≤ hp.objs.size := (base_of (own := []) O.gd no_own).2
  refine wpAny_call (acc_make O.gd.X ?_)
  have hx : ((hp.push emptyDict).push (accObj hp.objs.size #[] 0)).get? (hp.objs.size + 1) = some (accObj hp.objs.size #[] 0) := by heap_get
  have hd : ((hp.push emptyDict).push (accObj hp.objs.size #[] 0)).get? hp.objs.size = some emptyDict := by heap_get
  have k : ∀ b o, hp.get? b = some o → ((hp.push emptyDict).push (accObj hp.objs.size #[] 0)).get? b = some o := fun b o e => Heap.get?_push_of_some _ (Heap.get?_push_of_some _ e)
  have O₁ : Ok w ⟨(hp.push emptyDict).push (accObj hp.objs.size #[] 0), g, dd, tt, os⟩ := ⟨O.gd.keeps k, O.tabs.keeps fun b o _ e => k b o e, O.bare⟩
  refine init_ok O₁ (r.room 1) (Nat.le_succ_of_le big) big (Nat.ne_of_lt (Nat.lt_succ_self _)) hx hd fun s' n' O' S' Y' => ⟨rfl, ?_⟩
  refine h s' _ _ n' O' ⟨fun b o _ ht e => S'.keep b o ?_ ht (k b o e), Nat.le_trans ?_ S'.grow, S'.os⟩ Y' (Nat.le_succ _) (Nat.le_refl _)
  · intro q
    have := Heap.lt_size e
    simp only [List.mem_cons, List.not_mem_nil, or_false] at q
    rcases q with rfl | rfl
    · exact absurd this (Nat.not_lt.mpr (Nat.le_succ _))
    · exact absurd this (Nat.lt_irrefl _)
  · show hp.objs.size ≤ ((hp.push emptyDict).push (accObj hp.objs.size #[] 0)).objs.size
    rw [Heap.size_push, Heap.size_push]
    exact Nat.le_succ_of_le (Nat.le_succ _)
end
end Mine
end

section
open PySem PySem.W PySem.Calls PyProof.Rows
set_option maxRecDepth 100000
set_option maxHeartbeats 8000000
namespace Mine
structure FP where
  (h1 h2 h3 h4 h5 h6 : Int)
  (t1 t2 t3 t4 t5 t6 u1 u2 u3 u4 : Tok)
noncomputable abbrev fmDict (p : FP) (W : Int) (ws sp : Str) (ls a : Addr) : Obj := dictOf [⟨p.h1, .str (Str.ofString "_maxlen") p.t1, .int W p.u1⟩, ⟨p.h2, .str (Str.ofString "_continuation_ws") p.t2, .str ws p.u2⟩, ⟨p.h3, .str (Str.ofString "_continuation_ws_len") p.t3, .int ws.length p.u3⟩,
  ⟨p.h4, .str (Str.ofString "_splitchars") p.t4, .str sp p.u4⟩, ⟨p.h5, .str (Str.ofString "_lines") p.t5, .ref ls⟩, ⟨p.h6, .str (Str.ofString "_current_line") p.t6, .ref a⟩] 6
structure FmAt (h : Heap) (f fd ls a : Addr) (W : Int) (ws sp : Str) : Prop where
  lf : (238 : Nat) ≤ f
  lfd : (238 : Nat) ≤ fd
  of : h.get? f = some (instObj 116 fd)
  ofd : ∃ p, h.get? fd = some (fmDict p W ws sp ls a)
noncomputable def LinesAt (h : Heap) (ls : Addr) (lines : List Str) : Prop := (238 : Nat) ≤ ls ∧ ∃ l n, h.get? ls = some (listObj (strValues l).toArray n) ∧ l.map (·.1) = lines
section
variable {w : World} {A : Around} {E : Value → Shared → Prop} {s : Shared} {f fd ls a : Addr} {W : Int} {ws sp : Str} {p : FP}
theorem fmI {h : Heap} (e : h.get? f = some (instObj 116 fd)) (e' : h.get? fd = some (fmDict p W ws sp ls a)) : InstAt h f (instObj 116 fd) 116 (some (fmDict p W ws sp ls a)) := ⟨e, rfl, rfl, e'⟩
theorem fm_get {name : Str} {v : Value} {ex : Bool} {Q : Value → Shared → Prop} (X : (KK w).In s.heap) (I : InstAt s.heap f (instObj 116 fd) 116 (some (fmDict p W ws sp ls a)))
    (hf : findObj (KK w) 116 (some (fmDict p W ws sp ls a)) name = some (.value v)) (hh : handedIn v = true) (h : Q v { s with toks := s.toks + 1 }) : wpAny (model PG w) A (getAttr (.ref f) name ex) Q E s := by
  refine get_value (K := KK w) (C := 116) X I ?_ hf hh h
  · kernel_rfl
theorem fm_cur {ex : Bool} {Q : Value → Shared → Prop} (X : (KK w).In s.heap) (I : InstAt s.heap f (instObj 116 fd) 116 (some (fmDict p W ws sp ls a))) (h : Q (.ref a) { s with toks := s.toks + 1 }) : wpAny (model PG w) A (getAttr (.ref f) "_current_line" ex) Q E s := by
  refine fm_get X I ?_ ?_ h
  · kernel_rfl
  · rfl
theorem fm_lines {ex : Bool} {Q : Value → Shared → Prop} (X : (KK w).In s.heap) (I : InstAt s.heap f (instObj 116 fd) 116 (some (fmDict p W ws sp ls a))) (h : Q (.ref ls) { s with toks := s.toks + 1 }) : wpAny (model PG w) A (getAttr (.ref f) "_lines" ex) Q E s := by
  refine fm_get X I ?_ ?_ h
  · kernel_rfl
  · rfl
theorem fm_maxlen {ex : Bool} {Q : Value → Shared → Prop} (X : (KK w).In s.heap) (I : InstAt s.heap f (instObj 116 fd) 116 (some (fmDict p W ws sp ls a))) (h : Q (.int W p.u1) { s with toks := s.toks + 1 }) : wpAny (model PG w) A (getAttr (.ref f) "_maxlen" ex) Q E s := by
  refine fm_get X I ?_ ?_ h
  · kernel_rfl
  · rfl
theorem fm_split {ex : Bool} {Q : Value → Shared → Prop} (X : (KK w).In s.heap) (I : InstAt s.heap f (instObj 116 fd) 116 (some (fmDict p W ws sp ls a))) (h : Q (.str sp p.u4) { s with toks := s.toks + 1 }) : wpAny (model PG w) A (getAttr (.ref f) "_splitchars" ex) Q E s := by
  refine fm_get X I ?_ ?_ h
  · kernel_rfl
  · rfl
theorem fm_meth {name : Str} {q : Addr} {pl : Sem Bool} {Q : Value × List Value → Shared → Prop} (X : (KK w).In s.heap) (I : InstAt s.heap f (instObj 116 fd) 116 (some (fmDict p W ws sp ls a))) (h : Q (.ref q, [.ref f]) s)
    (hf : findIn (KK w) (.ref 116) name = some (some (.ref q)) := by kernel_rfl) (ht : typeIn (KK w) (.ref q) = some (.type "function") := by kernel_rfl)
    (hs : shadowIn (some (fmDict p W ws sp ls a)) name = some false := by rfl) :
    wpAny (model PG w) A (getMethod (.ref f) name pl) Q E s := by
  refine method_fn (K := KK w) (C := 116) X I ?_ ?_ hf ht hs h
  · kernel_rfl
  · kernel_rfl
theorem ne_pair {T U : Addr} {a1 a2 b1 b2 : Str} {t1 t2 u1 u2 : Tok} {Q : Value → Shared → Prop} (r : Rm A 1) (hT : s.heap.get? T = some (tupObj #[.str a1 t1, .str a2 t2])) (hU : s.heap.get? U = some (tupObj #[.str b1 u1, .str b2 u2]))
    (h : Q (.bool (!(a1 == b1 && a2 == b2))) s) : wpAny (model PG w) A (compareOp .NotEq (.ref T) (.ref U)) Q E s := by
  have hu : A.units < cLine := by have := r.un; (exact om24 this)
  show wpAny (model PG w) A (richCompare .NotEq (.ref T) (.ref U)) Q E s
  refine SeqAt.RcNeAt.tuples (items := #[.str a1 t1, .str a2 t2]) (items2 := #[.str b1 u1, .str b2 u2]) (e := fun j => match j with | 0 => a1 == b1 | _ => a2 == b2) ⟨_, hT, rfl, 0, rfl⟩ ⟨_, hU, rfl, 0, rfl⟩ hu (fun j h1 h2 => ?_) PG w E Q ?_
  · match j, h1, h2 with
    | 0, _, _ => exact SeqAt.EqAt.str_str _ _ _ _
    | 1, _, _ => exact SeqAt.EqAt.str_str _ _ _ _
    | j + 2, h1, _ => exact absurd h1 (by simp)
  · have : ((List.range (min (#[Value.str a1 t1, .str a2 t2] : Array Value).size (#[Value.str b1 u1, .str b2 u2] : Array Value).size)).all (fun j => match j with | 0 => a1 == b1 | _ => a2 == b2) && (#[Value.str a1 t1, .str a2 t2] : Array Value).size == (#[Value.str b1 u1, .str b2 u2] : Array Value).size) = (a1 == b1 && a2 == b2) := by
      show (List.all [0, 1] _ && true) = _
      simp
    rw [this]
    exact h
end
end Mine
end

section
open PySem PySem.W PySem.Calls PyProof.Rows
set_option maxRecDepth 100000
set_option maxHeartbeats 8000000
namespace Mine
section
variable {w : World} {A : Around} {E : Value → Shared → Prop} {s : Shared} {f fd ls a d : Addr} {W : Int} {ws sp : Str} {p : FP} {its : Array Value} {n : Nat} {i : Int} {ps : List (Str × Str)} {Q : Value → Shared → Prop}
theorem star_tup {T : Addr} {vs : Array Value} {Q : List Value → Shared → Prop} (hT : s.heap.get? T = some (tupObj vs)) (hz : vs.size ≤ 1000)
    (h : ∀ h', (∀ b o, s.heap.get? b = some o → h'.get? b = some o) → Q vs.toList { s with heap := h' }) : StarOf (model PG w) A E (.ref T) Q s := by
  have hT' : s.TypeIs (.ref T) "tuple" := ⟨_, hT, rfl⟩
  have z : wpAny (model PG w) A (collect (.ref T)) Q E s := wpAny_collect_seq T (.inr rfl) hT rfl rfl h (Nat.le_trans hz (by decide))
  unfold StarOf notIterableAtAll
  exact wpAny_bind (wpAny_specialOf hT' PySem.F.slot_tuple_iter.lookup (wpAny_pure ⟨rfl, z⟩))
theorem list_app {l : Addr} {vs : Array Value} {n : Nat} {x : Value} (hl : s.heap.get? l = some (listObj vs n)) (hsz : vs.size ≤ 100000)
    (h : ∀ s', Heap.SameBut l s.heap s'.heap → s'.heap.get? l = some (listObj (vs.push x) (n + 1)) → s'.gens = s.gens → s'.os = s.os → Q .none s') :
    wpAny (model PG w) A (call (.builtin "list.append") [.ref l, x]) Q E s := by
  refine wpAny_call_entry slot_list_append ⟨_, hl, rfl⟩ PySem.F.entry_list_append ?_ (PySem.F.args_list_append_2 _ _)
  show wpAny _ _ (updateSeq l (·.push x) >>= fun _ => ret .none) _ _ _
  have hz : vs.size ≤ sizeLine := Nat.le_trans hsz (by decide)
  refine wpAny_bind (wpAny_updateSeq (xs := vs) (n := n) hl rfl (wpAny_pure ⟨.none, rfl, h _ (Heap.SameBut.update ..) ?_ rfl rfl⟩))
  rw [Heap.get?_update_self _ hl rfl]
  simp [Obj.mapSeq]
theorem PairsAt.push {h : Heap} {v : Value} {q : Str × Str} (P : PairsAt h its ps) (hv : Pair h v q) : PairsAt h (its.push v) (ps ++ [q]) := by
  refine ⟨by simp [P.size], fun j r hr => ?_⟩
  rcases Nat.lt_trichotomy j ps.length with hj | hj | hj
  · rw [List.getElem?_append_left hj] at hr
    obtain ⟨u, hu, e⟩ := P.at_ j r hr
    refine ⟨u, ?_, e⟩
    rw [Array.getElem?_push_lt (by rw [P.size]; exact hj)]
    rw [Array.getElem?_eq_getElem (by rw [P.size]; exact hj)] at hu
    exact hu
  · subst hj
    rw [List.getElem?_append_right (Nat.le_refl _), Nat.sub_self] at hr
    cases hr
    exact ⟨v, by rw [← P.size]; simp, hv⟩
  · rw [List.getElem?_append_right (Nat.le_of_lt hj)] at hr
    have : [q][j - ps.length]? = none := List.getElem?_eq_none (by simp; (exact om25 hj))
    rw [this] at hr; cases hr
theorem PairsAt.pop {h : Heap} {q : Str × Str} (P : PairsAt h its (ps ++ [q])) : ∃ its' v, its = its'.push v ∧ PairsAt h its' ps ∧ Pair h v q := by
  have hs : its.size = ps.length + 1 := by rw [P.size]; simp
  obtain ⟨v, hv, pv⟩ := P.at_ ps.length q (by simp)
  refine ⟨its.pop, v, ?_, ⟨by simp [hs], fun j r hr => ?_⟩, pv⟩
  · have h1 := Array.getElem?_eq_some_iff.mp hv
    obtain ⟨h1, h2⟩ := h1
    apply Array.ext
    · simp [hs]
    · intro j hj1 hj2
      rw [Array.getElem_push]
      split
      · simp
      · have : j = ps.length := by simp [hs] at *; (exact om26 hj1 (by assumption))
        subst this; exact h2
  · have hj : j < ps.length := (List.getElem?_eq_some_iff.mp hr).1
    obtain ⟨u, hu, e⟩ := P.at_ j r (by rw [List.getElem?_append_left hj]; exact hr)
    refine ⟨u, ?_, e⟩
    rw [Array.getElem?_pop, if_pos (by (exact om27 hs hj))]
    exact hu
theorem PairsAt.nil {h : Heap} (P : PairsAt h its []) : its = #[] := Array.eq_empty_of_size_eq_zero P.size
theorem PairsAt.st {ws : List Addr} {s' : Shared} (P : PairsAt s.heap its ps) (S : St ws s s') (hw : ∀ b ∈ ws, ∀ vs, s.heap.get? b ≠ some (tupObj vs)) : PairsAt s'.heap its ps := by
  refine ⟨P.size, fun j q hq => ?_⟩
  obtain ⟨v, hv, T, t1, t2, rfl, hT, e⟩ := P.at_ j q hq
  exact ⟨_, hv, T, t1, t2, rfl, hT, S.keep T _ (fun hb => hw T hb _ e) (not_tab hT) e⟩
theorem fm_cur' {g : Heap} {wss : List Addr} {s₀ : Shared} {L : Addr} {m : Str → Option Value} {news : List (Addr × Obj)} {x : Str} {pos pos' : Pos} {cn : Str} {cs : Scope} {fa : Addr} {ccd : Value} {cl : List (Str × Addr)} (c : Cx w g wss s₀ L m news s) (hx : m x = some (.ref f)) (gf : g.get? f = some (instObj 116 fd)) (gfd : g.get? fd = some (fmDict p W ws sp ls a))
    (h : ∀ s', Cx w g wss s₀ L m news s' → s'.heap = s.heap → Q (.ref a) s') (hk : cs.kind = .function := by rfl) (hx' : (envX cn cs L fa ccd cl).kindOf x = some .local := by rfl) (hd : (x == ("__debug__" : Str)) = false := by decide) :
    wpAny (model PG w) A (eval (.Attribute (.Name x pos) "_current_line" pos') (envX cn cs L fa ccd cl)) Q E s := by
  refine Attribute_name ?_
  refine c_name c hx ?_ hk hx' hd
  exact fm_cur c.X (fmI (c.base gf) (c.base gfd)) (h _ (c.ext (s' := { s with toks := s.toks + 1 }) (fun _ _ e => e) rfl rfl) rfl)
end
end Mine
end

section
open PySem PySem.W PySem.Calls PyProof.Rows
set_option maxRecDepth 100000
set_option maxHeartbeats 8000000
namespace Mine
theorem enterC {prog : Program} {w : World} {A : Around} {s : Shared} {R : Result → Shared → Prop}
    {name qual : Str} {params : Arguments} {body : List Stmt} {scope : Scope} {cl : List (Str × Addr)} {dV kV doc pm cdv ct oc : Value} {an od : Option Addr} {osl : Array (Option Value)} {f : Addr} {args : List Value} {binds : List (Str × Value)}
    (own : List (Addr × Obj)) (O : Ok w s) (hroom : A.depth < recursionLimit)
    (hown : ∀ p ∈ own, (238 : Nat) ≤ p.1 ∧ s.heap.get? p.1 = some p.2)
    (ho : (hdz.heap_240 w.params).lookup f = some ⟨oc, od, .func (fnX name qual params body scope cl dV kV doc pm an cdv ct), osl⟩) (hf : (!(tabA.contains f)) = true) (hcd : codeIn (KK w) cdv qual = true)
    (hbind : BindsTo s (fnX name qual params body scope cl dV kV doc pm an cdv ct) ⟨args, []⟩ binds) (hloc : ∀ y ∈ binds, scope.names.lookup y.1 = some .local)
    (hcell : ∀ x ∈ scope.names, x.2 ≠ .cell) (hco : scope.isCoroutine = false) (hgen : scope.isGenerator = false) (hk : scope.kind = .function)
    (h : ∀ g L h₁, Bg w g (own.map (·.1)) s → (238 : Nat) ≤ L → s.heap.objs.size = L → Tabs h₁ → Fr g L h₁ (fun y => binds.reverse.lookup y) → News g L h₁ own →
      wpAny (model prog w) (A.deeper (envX qual scope L f cdv cl)) (execs body (envX qual scope L f cdv cl))
        (fun fl s' => R (.ok (.ret (match fl with | .ret v => v | _ => .none))) s') (fun _ _ => False) { s with heap := h₁, toks := s.toks + binds.length }) :
    codeAny (model prog w) A (.call (.ref f) ⟨args, []⟩) R s := by
  obtain ⟨G, tp, bare⟩ := O
  refine (codeAny_call_def (fd := fnX name qual params body scope cl dV kV doc pm an cdv ct) (body := body) (binds := binds) hroom (G.look ho hf) rfl G.lim (codeRec_of G.X hcd) rfl hbind hcell hloc (fun h₁ hns hk₁ => ?_) hco hgen hk)
  obtain ⟨B, big⟩ := base_of G hown
  exact wpAny_mono (h _ _ h₁ B big rfl (tp.keeps fun b o _ e => hk₁ b o e) ⟨hns, fun b o e => hk₁ b o (B.of_ b o e), Nat.le_of_eq (hideAll_size _ _)⟩
    (fun q hq => ⟨hk₁ _ _ (hown q hq).2, Nat.ne_of_lt (Heap.lt_size (hown q hq).2), B.own _ (List.mem_map_of_mem hq)⟩)) (fun fl s' hq => hq) fun _ _ e => e.elim

theorem c_enterC {prog : Program} {w : World} {A : Around} {s : Shared} {R : Result → Shared → Prop}
    {name qual : Str} {params : Arguments} {body : List Stmt} {scope : Scope} {cl : List (Str × Addr)} {dV kV doc pm cdv ct oc : Value} {an od : Option Addr} {osl : Array (Option Value)} {f : Addr} {args : List Value} {binds : List (Str × Value)}
    (own : List (Addr × Obj)) (O : Ok w s) (hroom : A.depth < recursionLimit)
    (hown : ∀ p ∈ own, (238 : Nat) ≤ p.1 ∧ s.heap.get? p.1 = some p.2)
    (h : ∀ g L s₁, Cx w g (own.map (·.1)) s L (fun y => binds.reverse.lookup y) own s₁ →
      wpAny (model prog w) (A.deeper (envX qual scope L f cdv cl)) (execs body (envX qual scope L f cdv cl))
        (fun fl s' => R (.ok (.ret (match fl with | .ret v => v | _ => .none))) s') (fun _ _ => False) s₁)
    (ho : (hdz.heap_240 w.params).lookup f = some ⟨oc, od, .func (fnX name qual params body scope cl dV kV doc pm an cdv ct), osl⟩ := by k_is) (hf : (!(tabA.contains f)) = true := by rfl) (hcd : codeIn (KK w) cdv qual = true := by kernel_rfl)
    (hbind : BindsTo s (fnX name qual params body scope cl dV kV doc pm an cdv ct) ⟨args, []⟩ binds := by exact BindsTo.of_eq (by kernel_rfl)) (hloc : ∀ y ∈ binds, scope.names.lookup y.1 = some .local := by exact locs (by kernel_rfl))
    (hcell : ∀ x ∈ scope.names, x.2 ≠ .cell := by decide) (hco : scope.isCoroutine = false := by rfl) (hgen : scope.isGenerator = false := by rfl) (hk : scope.kind = .function := by rfl)
    :
    codeAny (model prog w) A (.call (.ref f) ⟨args, []⟩) R s := by
  have hbare := O.bare
  refine enterC own O hroom hown ho hf hcd hbind hloc hcell hco hgen hk fun g L h₁ B big hL tp F N => ?_
  exact h g L _ ⟨B, big, hL, F, N, tp, hbare, rfl, fun q hq => .inl (hown q hq).1⟩
theorem push_okC {prog : Program} {w : World} {A : Around} {s : Shared} {R : Result → Shared → Prop} {a d : Addr} {its : Array Value} {n : Nat} {i : Int} {f p : Value}
    (O : Ok w s) (hroom : A.depth < recursionLimit) (Y : AccAt s.heap a d its n i) (hsz : its.size ≤ 100000)
    (h : ∀ s' t, Ok w s' → St [a] s s' → AccAt s'.heap a d (its.push (.ref t)) (n + 1) i → s'.heap.get? t = some (tupObj #[f, p]) → (s.heap.objs.size : Nat) < t → R (.ok (.ret .none)) s') :
    codeAny (model prog w) A (.call (.ref 144) ⟨[.ref a, f, p], []⟩) R s := by
  have hne := Y.ne
  obtain ⟨la, ld, oa, hh, tk, t, od⟩ := Y
  refine c_enterC (binds := [("self", .ref a), ("fws", f), ("string", p)]) [(a, accObj d its n)] O hroom (own1 la oa) fun g L s₁ c => ?_
  have gd : g.get? d = some (accDict hh tk i t) := c.B.all d _ (by simp [hne]) (not_tab ld) od
  refine wpAny_execs_cons (wpAny_Expr (MethodCall_ (c_name c rfl ?_)))
  refine method_lb (K := KK w) (C := 200) c.X (accI (c.get (.head _)) (c.base gd)) (by kernel_rfl) (by kernel_rfl) (id := "list.append") (by kernel_rfl) mdesc_append (by rfl) ?_
  refine callWith_method1 (spliced_more (Tuple_ (spliced_more (c_name c rfl (spliced_more (c_name c rfl (spliced_none ?_)))))))
  refine c_tuple c fun s₂ u c₂ hu => ?_
  refine spliced_none ?_
  have lu : (s.heap.objs.size : Nat) < u := hu ▸ c.lt
  have hua : u ≠ a := fun e => absurd (Heap.lt_size oa) (by rw [← e]; exact Nat.lt_asymm lu)
  refine acc_append c₂.X (accI (c₂.get (.tail _ (.head _))) (c₂.base gd)) hsz fun s₃ hs₃ e₃ hg₃ ho₃ => ?_
  have c₃ := c₂.upd (Upd.tail hua (Upd.head (fun _ h => nomatch h))) la hs₃ e₃ hg₃ ho₃
  refine wpAny_execs_nil ?_
  exact h s₃ u c₃.ok c₃.st ⟨la, ld, e₃, hh, tk, t, c₃.base gd⟩ (c₃.get (.head _)) lu
section
variable {prog : Program} {w : World} {A : Around} {E : Value → Shared → Prop} {s : Shared} {K : Frag} {x C : Addr} {ox : Obj} {od : Option Obj}
theorem get_lm {name : Str} {f : Addr} {ex : Bool} {Q : Value → Shared → Prop} (X : K.In s.heap) (I : InstAt s.heap x ox C od) (hga : findIn K (.ref C) "__getattribute__" = some (some (.builtin "list.__getattribute__")))
    (hgt : findIn K (.ref C) "__getattr__" = some none) (hsub : subIn K (.ref C) (.type "list") = some true)
    (hf : findObj K C od name = some (.bind (.builtin "function.__get__") (.ref f))) (ht : typeIn K (.ref f) = some (.type "function")) (h : Q (.ref s.heap.objs.size) { s with heap := s.heap.push (methodObj (.ref f) (.ref x)), toks := s.toks + 1 }) : wpAny (model prog w) A (getAttr (.ref x) name ex) Q E s := by
  obtain ⟨hp, g, d, t, os⟩ := s
  have L0 := I.type (M := model prog w)
  have L1 := looks_findIn (M := model prog w) X hga
  have L2 := looks_findIn (M := model prog w) X hgt
  have L3 := looks_find (M := model prog w) X I hf
  unfold getAttr getAttrBy
  refine wpAny_bind (wpAny_mkText (wpAny_holding (wpAny_bind (L0.at (wpAny_bind (L1.at ?_))))))
  show wpAny _ _ (getAttrByItsOwn _ _ _ _ _ _) _ _ _
  unfold getAttrByItsOwn hookBefore
  refine wpAny_bind ?_
  show wpAny _ _ (typeLookup (.ref C) "__getattr__") _ _ _
  refine L2.at ?_
  refine wpAny_bind (wpAny_attempt (wpAny_holding ?_))
  unfold callGetattribute
  rw [if_neg (by simp [onTheHeap])]
  unfold boundAndCalled
  refine wpAny_bind (wpAny_of_eq (ga_bind _) ?_)
  show wpAny _ _ (call (.builtin "list.__getattribute__") (Value.ref x :: [Value.str name t])) _ _ _
  refine call_bi (owner := "list") (n := "__getattribute__") (by decide +kernel) (.inr (by decide +kernel)) (by decide +kernel) (inst_is (K := K) X (s := ⟨hp, g, d, t + 1, os⟩) I hsub) F.entry_list_ga (F.args_list_getattribute_2 _ _) ?_
  refine wpAny_bind (wpAny_pure (wpAny_bind (wpAny_pure (wpAny_bind (L0.at (wpAny_bind (L3.at ?_)))))))
  dsimp only
  show wpAny _ _ (holding [.ref f] (call (.builtin "function.__get__") [.ref f, .ref x, .ref C]) >>= ret) _ _ _
  refine wpAny_bind (wpAny_holding (wpAny_call (fn_get (K := K) (s := ⟨hp, g, d, t + 1, os⟩) X ht ?_)))
  refine wpAny_pure ⟨_, rfl, ?_⟩
  exact handed_on rfl h
theorem callWith_SM {q f : Addr} {self : Value} {e : Expr} {p pos : Pos} {env : Env} {Q : Value → Shared → Prop} (hf : fnIn K f = true) (h : wpAny (model prog w) A (eval e env) (fun v s₁ => StarOf (model prog w) A E v (fun vs s₂ => MethP K q f self s₂.heap ∧ codeAny (model prog w) A (.call (.ref f) ⟨self :: vs, []⟩) (fun r s' => match r with | .ok (.ret v) => Q v s' | .ok _ => False | .error e => E e s') s₂) s₁) E s)
    (he : starEach [.Starred e p] env = [(true, eval e env)] := by rfl) :
    wpAny (model prog w) A (callWith pos (.ref q) [] (backTo pos (starEach [.Starred e p] env)) []) Q E s := by
  rw [he]
  refine ks_call rfl (keeps_M (self := self) hf) (ks_lone (wpAny_mono h (fun v s₁ h₁ => ?_) fun _ _ x => x))
  unfold StarOf at h₁ ⊢
  refine wpAny_mono h₁ (fun b s₂ h₂ => ⟨h₂.1, wpAny_mono h₂.2 (fun vs s₃ h₃ => ⟨h₃.1, ?_⟩) fun _ _ x => x⟩) fun _ _ x => x
  exact wpAny_call (method_call h₃.1.1 h₃.2)
end
end Mine
end

section
open PySem PySem.W PySem.Calls PyProof.Rows
set_option maxRecDepth 100000
set_option maxHeartbeats 8000000
namespace Mine
section
variable {w : World} {g : Heap} {ws : List Addr} {s₀ s s' : Shared} {L : Addr} {m m' : Str → Option Value} {news news' : List (Addr × Obj)}
variable {prog : Program} {A : Around} {E : Value → Shared → Prop} {cn : Str} {cs : Scope} {a : Addr} {ccd : Value} {cl : List (Str × Addr)}
theorem Cx.neL (c : Cx w g ws s₀ L m news s) {T : Addr} {vs : Array Value} (e : s.heap.get? T = some (tupObj vs)) : T ≠ L := by
  rintro rfl
  obtain ⟨oL, es, ep, h1, h2, _⟩ := c.F.ns
  rw [e] at h1; cases h1; cases h2
theorem Cx.pairs (c : Cx w g ws s₀ L m news s) {its : Array Value} {ps : List (Str × Str)} (P : PairsAt s.heap its ps) (k : ∀ b o, b ≠ L → s.heap.get? b = some o → s'.heap.get? b = some o) : PairsAt s'.heap its ps := by
  refine ⟨P.size, fun j q hq => ?_⟩
  obtain ⟨v, hv, T, t1, t2, rfl, hT, e⟩ := P.at_ j q hq
  exact ⟨_, hv, T, t1, t2, rfl, hT, k T _ (c.neL e) e⟩
theorem c_storeK {x : Str} {v : Value} {Q : Unit → Shared → Prop} (c : Cx w g ws s₀ L m news s)
    (h : ∀ s', Cx w g ws s₀ L (fun y => if y = x then some v else m y) news s' → (∀ b o, b ≠ L → s.heap.get? b = some o → s'.heap.get? b = some o) → Q () s')
    (hk : cs.kind = .function := by rfl) (hx : (envX cn cs L a ccd cl).kindOf x = some .local := by rfl) : wpAny (model prog w) A (storeName (envX cn cs L a ccd cl) x v) Q E s :=
  wpAny_storeName_local hx c.F.ns (fun h' hn hs => h _ ⟨c.B, c.big, c.hL, c.F.set hn hs, c.N.set hs, c.T.keeps fun b o hb e => (hs.2 b fun q => not_tab c.big ((show b = L from q) ▸ hb)).trans e, c.bare, c.os, c.hi⟩ fun b o hb e => hs.extBut b o hb e) (by show (cs.kind == .class || (cs.kind == .module && L != mainGlobals)) = false; rw [hk]; rfl)
theorem c_tupleK {vs : List Value} {Q : Value → Shared → Prop} (c : Cx w g ws s₀ L m news s) (h : ∀ s' t, Cx w g ws s₀ L m news s' → (∀ b o, s.heap.get? b = some o → s'.heap.get? b = some o) → s'.heap.get? t = some (tupObj vs.toArray) → (s.heap.objs.size : Nat) = t → Q (.ref t) s') (hsz : vs.length ≤ sizeLine := by size_fits) :
    wpAny (model prog w) A (newTuple vs) Q E s :=
  wpAny_newObj_type (h _ _ (c.ext (s' := { s with heap := s.heap.push { cls := .type "tuple", data := .seq vs.toArray } }) (fun _ _ e => Heap.get?_push_of_some _ e) rfl rfl) (fun _ _ e => Heap.get?_push_of_some _ e) (Heap.get?_push_size _ rfl) rfl) (by show vs.toArray.size ≤ sizeLine; rw [List.size_toArray]; exact hsz)
theorem c_strK {x : Str} {k : Nat} {pos : Pos} {env : Env} {Q : Value → Shared → Prop} (c : Cx w g ws s₀ L m news s) (h : ∀ s' t, Cx w g ws s₀ L m news s' → s'.heap = s.heap → Q (.str x t) s') :
    wpAny (model prog w) A (eval (.Constant (.str x) k pos) env) Q E s := fun _ _ _ => h _ _ (c.ext (fun _ _ e => e) rfl rfl) rfl
theorem c_intK {i : Int} {k : Nat} {pos : Pos} {env : Env} {Q : Value → Shared → Prop} (c : Cx w g ws s₀ L m news s) (h : ∀ s' t, Cx w g ws s₀ L m news s' → s'.heap = s.heap → Q (.int i t) s') :
    wpAny (model prog w) A (eval (.Constant (.int i) k pos) env) Q E s := wpAny_Constant_int (h _ _ (c.ext (fun _ _ e => e) rfl rfl) rfl)
end
theorem StarCall_ {M : Model} {A : Around} {E : Value → Shared → Prop} {s : Shared} {env : Env} {o e : Expr} {name : Str} {apos pos p : Pos} {Q : Value → Shared → Prop}
    (h : wpAny M A (eval o env) (fun ov s₁ => wpAny M A (getAttr ov name true) (fun f s₂ => wpAny M A (callWith pos f [] (backTo pos (starEach [.Starred e p] env)) []) Q E s₂) E s₁) E s)
    (hb : attributeBase o name env (eval o env) = eval o env := by rfl) (he : starEach [.Starred e p] env = [(true, eval e env)] := by rfl) : wpAny M A (eval (.Call (.Attribute o name apos) [.Starred e p] [] pos) env) Q E s := by
  rw [arm_eval_Call, hb]
  refine wpAny_bind (wpAny_mono h (fun ov s₁ h₁ => wpAny_bind (wpAny_standAt ?_)) fun _ _ x => x)
  unfold methodCall
  rw [he]
  rw [he] at h₁
  refine wpAny_bind (wpAny_holding ?_)
  show wpAny M A (do pure (← getAttr ov name true, [])) _ _ _
  refine wpAny_bind (wpAny_mono h₁ (fun f s₂ h₂ => wpAny_pure (wpAny_bind (wpAny_pure h₂))) fun _ _ x => x)
section
variable {w : World} {A : Around} {E : Value → Shared → Prop} {s : Shared} {f fd ls a d : Addr} {W : Int} {ws sp : Str} {its : Array Value} {n : Nat} {i : Int} {ps : List (Str × Str)} {lines : List Str} {Q : Value → Shared → Prop}
theorem fm_lines' {p : FP} {g : Heap} {wss : List Addr} {s₀ : Shared} {L : Addr} {m : Str → Option Value} {news : List (Addr × Obj)} {x : Str} {pos pos' : Pos} {cn : Str} {cs : Scope} {fa : Addr} {ccd : Value} {cl : List (Str × Addr)} (c : Cx w g wss s₀ L m news s) (hx : m x = some (.ref f)) (gf : g.get? f = some (instObj 116 fd)) (gfd : g.get? fd = some (fmDict p W ws sp ls a))
    (h : ∀ s', Cx w g wss s₀ L m news s' → s'.heap = s.heap → Q (.ref ls) s') (hk : cs.kind = .function := by rfl) (hx' : (envX cn cs L fa ccd cl).kindOf x = some .local := by rfl) (hd : (x == ("__debug__" : Str)) = false := by decide) :
    wpAny (model PG w) A (eval (.Attribute (.Name x pos) "_lines" pos') (envX cn cs L fa ccd cl)) Q E s := by
  refine Attribute_name ?_
  refine c_name c hx ?_ hk hx' hd
  exact fm_lines c.X (fmI (c.base gf) (c.base gfd)) (h _ (c.ext (s' := { s with toks := s.toks + 1 }) (fun _ _ e => e) rfl rfl) rfl)
theorem PairsAt.high' {h h' : Heap} (P : PairsAt h its ps) (k : ∀ b o vs, o = tupObj vs → (238 : Nat) ≤ b → h.get? b = some o → h'.get? b = some o) : PairsAt h' its ps := by
  refine ⟨P.size, fun j p hp => ?_⟩
  obtain ⟨v, hv, T, t1, t2, rfl, hT, e⟩ := P.at_ j p hp
  exact ⟨_, hv, T, t1, t2, rfl, hT, k T _ _ rfl hT e⟩
theorem empty_str : Str.ofString "" = ofL [] := by decide +kernel
theorem pop_any (O : Ok w s) (hroom : A.depth + 1 < recursionLimit) (Y : AccAt s.heap a d its n i) (Ps : PairsAt s.heap its ps) (hlen : ps.length ≤ 1000)
    (h : ∀ s' T q ps0 its0 n0 t1 t2, Ok w s' → St [a] s s' → AccAt s'.heap a d its0 n0 i → PairsAt s'.heap its0 ps0 → s'.heap.get? T = some (tupObj #[.str q.1 t1, .str q.2 t2]) → (238 : Nat) ≤ T →
      (ps = ps0 ++ [q] ∨ (ps = [] ∧ ps0 = [] ∧ q = (ofL [], ofL []))) → (∀ v ∈ its0.toList, v ∈ its.toList) → Q (.ref T) s') :
    wpAny (model PG w) A (call (.ref 160) [.ref a]) Q E s := by
  rcases List.eq_nil_or_concat ps with e | ⟨ps0, q, e⟩
  · subst e
    have e0 := Ps.nil
    subst e0
    refine pop0_ok O hroom Y fun s' T t1 t2 O' S' e' lt => ?_
    have big : (238 : Nat) ≤ s.heap.objs.size := (base_of (own := []) O.gd no_own).2
    obtain ⟨la, ld, oa, hh, tk, t, od⟩ := Y
    rw [empty_str] at e'
    exact h s' T (ofL [], ofL []) [] #[] n t1 t2 O' (S'.sub (fun _ h => nomatch h)) ⟨la, ld, S'.keep a _ (fun h => nomatch h) (not_tab la) oa, hh, tk, t, S'.keep d _ (fun h => nomatch h) (not_tab ld) od⟩ ⟨rfl, fun j p hp => by simp at hp⟩ e' (Nat.le_of_lt (Nat.lt_of_le_of_lt big lt)) (.inr ⟨rfl, rfl, rfl⟩) (fun _ h => h)
  · rw [List.concat_eq_append] at e
    subst e
    obtain ⟨its', v, rfl, P', T, t1, t2, rfl, hT, eT⟩ := Ps.pop
    have hs : its'.size ≤ 100000 := by rw [P'.size]; simp at hlen; (exact om28 hlen)
    have na : ∀ b ∈ [a], ∀ vs, s.heap.get? b ≠ some (tupObj vs) := fun b hb vs e => by
      rw [List.mem_singleton] at hb; subst hb; rw [Y.oa] at e; cases e
    refine pop_ok O hroom Y hs fun s' O' S' Y' => ?_
    exact h s' T q ps0 its' (n + 1) t1 t2 O' S' Y' (P'.st S' na) (S'.keep T _ (fun hb => na T hb _ eT) (not_tab hT) eT) hT (.inl (by simp)) (fun v h => by rw [Array.toList_push]; exact List.mem_append_left _ h)
theorem newline_ok (O : Ok w s) (r : Rm A 8) (F : FmAt s.heap f fd ls a W ws sp) (Y : AccAt s.heap a d its n i) (Ps : PairsAt s.heap its ps) (Ls : LinesAt s.heap ls lines)
    (hi : 0 ≤ i ∧ i ≤ 1000) (hsz : sizes ps ≤ 100000) (hlen : ps.length ≤ 1000) (hll : lines.length ≤ 1000)
    (hlast : ∀ q, ps.getLast? = some q → q.2 ≠ ofL []) (hpos : 0 < i + sizes ps) (hws : i ≠ 0 ∨ Txt.isspace (ofL (flat ps)) = false)
    (h : ∀ s' n', Ok w s' → St [a, d, ls] s s' → AccAt s'.heap a d #[] n' 0 → LinesAt s'.heap ls (lines ++ [ofL (flat ps)]) → Q .none s') :
    wpAny (model PG w) A (call (.ref 78) [.ref f]) Q E s := by
  have hne := Y.ne
  obtain ⟨la, ld, oa, hh, tk, t, od⟩ := Y
  obtain ⟨lf, lfd, of, p, ofd⟩ := F
  obtain ⟨lls, ll, nl, ols, hl⟩ := Ls
  have dls : ls ≠ a := fun e => by rw [e, oa] at ols; cases ols
  have dld : ls ≠ d := fun e => by rw [e, od] at ols; have := congrArg (fun o => o.map Obj.data) ols; cases this
  have fa : f ≠ a := fun e => by rw [e, oa] at of; have := congrArg (fun o => o.map Obj.data) of; cases this
  have fd' : f ≠ d := fun e => by rw [e, od] at of; have := congrArg (fun o => o.map Obj.data) of; cases this
  have fls : f ≠ ls := fun e => by rw [e, ols] at of; have := congrArg (fun o => o.map Obj.data) of; cases this
  have da : fd ≠ a := fun e => by rw [e, oa] at ofd; have := congrArg (fun o => o.map Obj.data) ofd; cases this
  have dd : fd ≠ d := fun e => by
    rw [e, od] at ofd
    have := congrArg (fun o => o.map fun (x : Obj) => match x.data with | .dict es _ => es.size | _ => 0) ofd
    cases this
  have dl : fd ≠ ls := fun e => by rw [e, ols] at ofd; have := congrArg (fun o => o.map Obj.data) ofd; cases this
  have own3 : ∀ q ∈ [(a, accObj d its n), (d, accDict hh tk i t), (ls, listObj (strValues ll).toArray nl)], (238 : Nat) ≤ q.1 ∧ s.heap.get? q.1 = some q.2 := fun q hq => by
    cases hq with | head => exact ⟨la, oa⟩ | tail _ hq => cases hq with | head => exact ⟨ld, od⟩ | tail _ hq => cases hq with | head => exact ⟨lls, ols⟩ | tail _ h => cases h
  refine c_enter (binds := [("self", .ref f)]) [(a, accObj d its n), (d, accDict hh tk i t), (ls, listObj (strValues ll).toArray nl)] O r.room own3 fun g L s₁ c => ?_
  have gf : g.get? f = some (instObj 116 fd) := c.B.all f _ (by simp [fa, fd', fls]) (not_tab lf) of
  have gfd : g.get? fd = some (fmDict p W ws sp ls a) := c.B.all fd _ (by simp [da, dd, dl]) (not_tab lfd) ofd
  refine wpAny_execs_cons ?_
  refine wpAny_Assign_Name ?_
  refine MethodCall_ ?_
  refine fm_cur' c rfl gf gfd fun s₂ c₂ e₂ => ?_
  refine acc_meth (f := 160) c₂.X (accI (c₂.get (.head _)) (c₂.get (.tail _ (.head _)))) ?_
  refine callWith_K0 (K := KK w) c₂.X (by kernel_rfl) ?_
  have P₁ : PairsAt g its ps := Ps.high' fun b o vs e hb eo => c.B.all b _ (fun q => by
    subst e
    simp only [List.map_cons, List.map_nil, List.mem_cons, List.not_mem_nil, or_false] at q
    rcases q with rfl | rfl | rfl
    · rw [oa] at eo; cases eo
    · rw [od] at eo; have := congrArg (fun o => o.map Obj.data) eo; cases this
    · rw [ols] at eo; have := congrArg (fun o => o.map Obj.cls) eo; simp at this) (not_tab hb) eo
  · have P₂ : PairsAt s₂.heap its ps := P₁.keeps fun b o e => c₂.base e
    refine pop_any c₂.ok (r.deep.room 1) ⟨la, ld, c₂.get (.head _), hh, tk, t, c₂.get (.tail _ (.head _))⟩ P₂ hlen fun s₃ T q ps0 its0 n0 t1 t2 O₃ S₃ Y₃ P₃ eT hT hcase _ => ?_
    have c₃ := c₂.call1 (Upd.head (fun x hx => by
      cases hx with | head => exact hne | tail _ hx => cases hx with | head => exact dls | tail _ h => cases h)) S₃ O₃ Y₃.oa
    refine c_storeK c₃ fun s₄ c₄ k₄ => ?_
    have P₄ := c₃.pairs P₃ k₄
    have eT₄ := k₄ T _ (c₃.neL eT) eT
    refine wpAny_execs_cons (wpAny_If (wpAny_isTrue_Compare1 ?_))
    refine c_name c₄ rfl ?_
    refine Tuple_ (spliced_more (c_strK c₄ fun s₅ t₅ c₅ e₅ => spliced_more (c_strK c₅ fun s₆ t₆ c₆ e₆ => spliced_none ?_)))
    refine c_tupleK c₆ fun s₇ u c₇ k₇ eu _ => ?_
    have eT₇ : s₇.heap.get? T = some (tupObj #[.str q.1 t1, .str q.2 t2]) := k₇ T _ (by rw [e₆, e₅]; exact eT₄)
    have hq : (q.1 == (Str.ofString " ") && q.2 == (Str.ofString "")) = false := by
      rcases hcase with e | ⟨_, _, rfl⟩
      · have := hlast q (by rw [e]; simp)
        rw [empty_str, beq_eq_false_iff_ne.mpr this, Bool.and_false]
      · decide +kernel
    refine ne_pair r.deep.le eT₇ eu ?_
    refine wpAny_truthy_bool ?_
    have hq' : (!(q.1 == (Str.ofString " ") && q.2 == (Str.ofString ""))) = true := by
      have : ((Str.ofString " ")) = Str.ofString " " := by decide +kernel
      rw [this]
      have : ((Str.ofString "")) = Str.ofString "" := by decide +kernel
      rw [this, hq]; rfl
    rw [hq', if_pos rfl]
    refine wpAny_execs_cons ?_
    refine wpAny_Expr ?_
    refine StarCall_ ?_
    refine fm_cur' c₇ rfl gf gfd fun s₈ c₈ e₈ => ?_
    refine get_lm (K := KK w) (C := 200) (f := 144) c₈.X (accI (c₈.get (.head _)) (c₈.get (.tail _ (.head _)))) ?_ ?_ ?_ ?_ ?_ ?_
    · kernel_rfl
    · kernel_rfl
    · kernel_rfl
    · kernel_rfl
    · kernel_rfl
    have c₈' := c₈.ext (s' := { s₈ with heap := s₈.heap.push (methodObj (.ref 144) (.ref a)), toks := s₈.toks + 1 }) (fun _ _ e => Heap.get?_push_of_some _ e) rfl rfl
    refine callWith_SM (K := KK w) (self := .ref a) (f := 144) ?_ ?_
    · kernel_rfl
    refine c_name c₈' rfl ?_
    have eT₈ : s₈.heap.get? T = some (tupObj #[.str q.1 t1, .str q.2 t2]) := by rw [e₈]; exact eT₇
    refine star_tup (Heap.get?_push_of_some _ eT₈) (by simp) fun h₉ k₉ => ?_
    have c₉ := c₈'.ext (s' := { s₈ with heap := h₉, toks := s₈.toks + 1 }) k₉ rfl rfl
    refine ⟨⟨k₉ _ _ (Heap.get?_push_size _ rfl), c₉.X⟩, ?_⟩
    have P₉ : PairsAt h₉ its0 ps0 := (P₄.keeps fun b o e => k₉ b o (Heap.get?_push_of_some _ (show s₈.heap.get? b = some o by rw [e₈]; exact k₇ b o (by rw [e₆, e₅]; exact e))))
    have hl0 : ps0.length ≤ 1000 := by
      rcases hcase with e | ⟨_, rfl, _⟩
      · rw [e] at hlen; simp at hlen; (exact Nat.le_succ_of_le (by assumption))
      · simp
    refine push_okC c₉.ok (show A.depth + 1 < recursionLimit from r.room 1) ⟨la, ld, c₉.get (.head _), hh, tk, t, c₉.get (.tail _ (.head _))⟩ (by rw [P₉.size]; (exact om29 hl0)) fun s₁₀ T' O₁₀ S₁₀ Y₁₀ eT' ltT => ?_
    have P₁₀ : PairsAt s₁₀.heap (its0.push (.ref T')) (ps0 ++ [q]) := by
      have big : (238 : Nat) ≤ T' := by
        have h1 : (s.heap.objs.size : Nat) < h₉.objs.size := c₉.lt
        have h2 : (238 : Nat) ≤ s.heap.objs.size := (base_of (own := []) O.gd no_own).2
        exact Nat.le_of_lt (Nat.lt_of_le_of_lt h2 (Nat.lt_trans h1 ltT))
      refine (P₉.st S₁₀ fun b hb vs e => ?_).push ⟨T', t1, t2, rfl, big, eT'⟩
      rw [List.mem_singleton] at hb; subst hb
      rw [c₉.get (.head _)] at e; cases e
    have c₁₀ := c₉.call1 (Upd.head (fun x hx => by
      cases hx with | head => exact hne | tail _ hx => cases hx with | head => exact dls | tail _ h => cases h)) S₁₀ O₁₀ Y₁₀.oa
    have hflat : flat (ps0 ++ [q]) = flat ps := by
      rcases hcase with e | ⟨e, rfl, rfl⟩
      · rw [e]
      · rw [e]; rfl
    have hsizes : sizes (ps0 ++ [q]) = sizes ps := by rw [← flat_length, ← flat_length, hflat]
    have hl1 : (ps0 ++ [q]).length ≤ 1001 := by simp; assumption
    generalize hps1 : ps0 ++ [q] = ps1 at *
    generalize hits1 : its0.push (.ref T') = its1 at *
    refine wpAny_execs_nil ?_
    refine wpAny_execs_cons ?_
    refine wpAny_If (wpAny_isTrue_Compare1 ?_)
    refine Call_ ?_
    refine c_built c₁₀ (v := .builtin "len") ?_ ?_ ?_ ?_
    · kernel_rfl
    · kernel_rfl
    · decide
    refine PyProof.Rows.callWith_builtin1 ?_
    refine spliced_more ?_
    refine fm_cur' c₁₀ rfl gf gfd fun s₁₁ c₁₁ e₁₁ => ?_
    refine spliced_none ?_
    refine len_call (ps := ps1) c₁₁.ok r.deep.le ⟨la, ld, c₁₁.get (.head _), hh, tk, t, c₁₁.get (.tail _ (.head _))⟩ (by rw [e₁₁]; exact P₁₀) (by (exact om30 hi)) (by (exact om31 hsz hsizes)) fun s₁₂ t₁₂ O₁₂ S₁₂ => ?_
    have c₁₂ := c₁₁.call0 S₁₂ O₁₂
    have P₁₂ : PairsAt s₁₂.heap its1 ps1 := PairsAt.st (s := s₁₁) (by rw [e₁₁]; exact P₁₀) S₁₂ fun _ h => nomatch h
    refine c_intK c₁₂ fun s₁₃ t₁₃ c₁₃ e₁₃ => ?_
    refine gt_int (wpAny_truthy_bool ?_)
    rw [decide_eq_true (show (0 : Int) < i + sizes ps1 by (exact om32 hpos hsizes)), if_pos rfl]
    refine wpAny_execs_cons ?_
    refine wpAny_If ?_
    refine isTrue_and ?_
    refine isTrue_plain ?_
    refine MethodCall_ ?_
    refine fm_cur' c₁₃ rfl gf gfd fun s₁₄ c₁₄ e₁₄ => ?_
    refine acc_meth (f := 189) c₁₄.X (accI (c₁₄.get (.head _)) (c₁₄.get (.tail _ (.head _)))) ?_
    refine callWith_K0 (K := KK w) c₁₄.X (by kernel_rfl) ?_
    have P₁₄ : PairsAt s₁₄.heap its1 ps1 := by rw [e₁₄, e₁₃]; exact P₁₂
    refine onlyws_ok (ps := ps1) c₁₄.ok r.deep.le ⟨la, ld, c₁₄.get (.head _), hh, tk, t, c₁₄.get (.tail _ (.head _))⟩ P₁₄ (by (exact om30 hi)) (by (exact om31 hsz hsizes)) (by (exact om33 hl1)) fun s₁₅ O₁₅ S₁₅ => ?_
    have c₁₅ := c₁₄.call0 S₁₅ O₁₅
    have P₁₅ : PairsAt s₁₅.heap its1 ps1 := PairsAt.st P₁₄ S₁₅ fun _ h => nomatch h
    refine wpAny_truthy_bool ?_
    have hb : (i == 0 && (sizes ps1 == 0 || Txt.isspace (ofL (flat ps1)))) = false := by
      rcases hws with e | e
      · rw [beq_eq_false_iff_ne.mpr e]; rfl
      · rw [hflat, e, Bool.or_false]
        cases hz : (i == 0) with
        | false => rfl
        | true =>
          have : i = 0 := eq_of_beq hz
          rw [Bool.true_and]
          exact beq_eq_false_iff_ne.mpr (by (exact om34 hsz hpos hsizes this))
    rw [hb, if_neg (by decide), if_neg (by decide)]
    refine wpAny_execs_cons ?_
    refine wpAny_Expr ?_
    refine MethodCall_ ?_
    refine fm_lines' c₁₅ rfl gf gfd fun s₁₆ c₁₆ e₁₆ => ?_
    have els := c₁₆.get (.tail _ (.tail _ (.head _)))
    refine getMethod_list_append els rfl rfl ?_
    refine callWith_method1 ?_
    refine spliced_more ?_
    refine Call_ ?_
    refine c_built c₁₆ (v := .type "str") ?_ ?_ ?_ ?_
    · kernel_rfl
    · kernel_rfl
    · decide
    refine callWith_type_1 ?_
    refine fm_cur' c₁₆ rfl gf gfd fun s₁₇ c₁₇ e₁₇ => ?_
    refine str_call (ps := ps1) c₁₇.ok r.deep.le ⟨la, ld, c₁₇.get (.head _), hh, tk, t, c₁₇.get (.tail _ (.head _))⟩ (by rw [e₁₇, e₁₆]; exact P₁₅) (by (exact om31 hsz hsizes)) (by (exact om33 hl1)) fun s₁₈ t₁₈ O₁₈ S₁₈ => ?_
    have c₁₈ := c₁₇.call0 S₁₈ O₁₈
    refine spliced_none ?_
    have hll' : (strValues ll).toArray.size = lines.length := by rw [← hl]; simp [strValues]
    refine list_app (c₁₈.get (.tail _ (.tail _ (.head _)))) (by (exact om35 hll hll')) fun s₁₉ hs₁₉ e₁₉ hg₁₉ ho₁₉ => ?_
    have c₁₉ := c₁₈.upd (Upd.tail (Ne.symm dls) (Upd.tail (Ne.symm dld) (Upd.head (fun _ h => nomatch h)))) lls hs₁₉ e₁₉ hg₁₉ ho₁₉
    refine wpAny_execs_nil ?_
    refine wpAny_execs_nil ?_
    refine wpAny_execs_cons ?_
    refine wpAny_Expr ?_
    refine MethodCall_ ?_
    refine fm_cur' c₁₉ rfl gf gfd fun s₂₀ c₂₀ e₂₀ => ?_
    refine acc_meth (f := 182) c₂₀.X (accI (c₂₀.get (.head _)) (c₂₀.get (.tail _ (.head _)))) ?_
    refine callWith_K0 (K := KK w) c₂₀.X (by kernel_rfl) ?_
    refine reset0_ok c₂₀.ok (show A.depth + 1 < recursionLimit from r.room 1) ⟨la, ld, c₂₀.get (.head _), hh, tk, t, c₂₀.get (.tail _ (.head _))⟩ (by rw [P₁₀.size]; (exact om33 hl1)) fun s₂₁ n₂₁ O₂₁ S₂₁ Y₂₁ => ?_
    refine wpAny_execs_nil ?_
    have S₂₀ := c₂₀.st
    refine h s₂₁ n₂₁ O₂₁ ((S₂₀.trans S₂₁).sub fun x hx => ?_) Y₂₁ ⟨lls, ll ++ [(ofL (flat ps), t₁₈)], nl + 1, S₂₁.keep ls _ (by simp [dls, dld]) (not_tab lls) ?_, ?_⟩
    · simp only [List.map_cons, List.map_nil, List.mem_append, List.mem_cons, List.not_mem_nil, or_false] at hx ⊢
      rcases hx with (rfl | rfl | rfl) | rfl | rfl <;> simp
    · have e := c₂₀.get (.tail _ (.tail _ (.head _)))
      rw [e, ← hflat]
      simp [strValues]
    · simp [hl]
end
end Mine
end

section
open PySem PySem.W PySem.Calls PyProof.Rows
set_option maxRecDepth 100000
set_option maxHeartbeats 8000000
namespace Mine
noncomputable def Ro (L : Addr) (s s' : Shared) : Prop := ∀ b o, (238 : Nat) ≤ b → b ≠ L → s.heap.get? b = some o → s'.heap.get? b = some o
theorem Ro.refl {L : Addr} {s : Shared} : Ro L s s := fun _ _ _ _ e => e
theorem Ro.trans {L : Addr} {s s' s'' : Shared} (a : Ro L s s') (b : Ro L s' s'') : Ro L s s'' := fun x o h1 h2 e => b x o h1 h2 (a x o h1 h2 e)
theorem Ro.ext {L : Addr} {s s' s'' : Shared} (a : Ro L s s') (k : ∀ b o, s'.heap.get? b = some o → s''.heap.get? b = some o) : Ro L s s'' := fun x o h1 h2 e => k x o (a x o h1 h2 e)
theorem Ro.st {L : Addr} {s s' s'' : Shared} (a : Ro L s s') (S : St [] s' s'') : Ro L s s'' := fun x o h1 h2 e => S.keep x o (fun h => nomatch h) (not_tab h1) (a x o h1 h2 e)
theorem Ro.but {L : Addr} {s s' s'' : Shared} (a : Ro L s s') (k : ∀ b o, b ≠ L → s'.heap.get? b = some o → s''.heap.get? b = some o) : Ro L s s'' := fun x o h1 h2 e => k x o h2 (a x o h1 h2 e)
theorem Ro.eq {L : Addr} {s s' s'' : Shared} (a : Ro L s s') (k : s''.heap = s'.heap) : Ro L s s'' := fun x o h1 h2 e => k ▸ a x o h1 h2 e
section
variable {prog : Program} {w : World} {A : Around} {g : Heap} {ws : List Addr} {s₀ s : Shared} {L I : Addr} {m : Str → Option Value} {news : List (Addr × Obj)}
theorem Cx.turn {h' : Heap} {tk : Nat} (c : Cx w g ws s₀ L m news s) (hI : (238 : Nat) ≤ I) (hgI : g.get? I = none) (hLI : L ≠ I) (hnI : ∀ p ∈ news, p.1 ≠ I) (k : ∀ b o, b ≠ I → s.heap.get? b = some o → h'.get? b = some o) : Cx w g ws s₀ L m news { s with heap := h', toks := tk } :=
  ⟨c.B, c.big, c.hL, ⟨c.F.ns.at' fun o e => k L o hLI e, fun b o e => k b o (fun q => by rw [q, hgI] at e; cases e) (c.F.keep b o e), c.F.above⟩, fun p hp => ⟨k _ _ (hnI p hp) (c.N p hp).1, (c.N p hp).2⟩, c.T.keeps fun b o hb e => k b o (fun q => not_tab hI (q ▸ hb)) e, c.bare, c.os, c.hi⟩
theorem r_for {R : Result → Shared → Prop} {target : Expr} {body orelse : List Stmt} {env : Env} {n : Nat} {P : Nat → Value → Prop} {S : Nat → Heap → Prop} (W : Walks prog w A I [I] [I] n P S) (sa : Shared)
    (hI : (238 : Nat) ≤ I) (hgI : g.get? I = none) (hLI : L ≠ I) (hnI : ∀ p ∈ news, p.1 ≠ I) (hsI : sa.heap.get? I = none) (J : Nat → (Str → Option Value) → Prop)
    (turn : ∀ j v m s, j < n → J j m → Cx w g ws s₀ L m news s → Ro L sa s → P j v → wpAny (model prog w) A (assign target env v) (fun _ s₂ => wpAny (model prog w) A (execs body env) (fun f s₃ => match f with
        | .next | .cont => ∃ m', J (j + 1) m' ∧ Cx w g ws s₀ L m' news s₃ ∧ Ro L s s₃
        | .brk => R (.ok .next) s₃
        | .ret v => R (.ok (.ret v)) s₃) (notedBy (model prog w) A env fun e s' => R (.error e) s') s₂) (notedBy (model prog w) A env fun e s' => R (.error e) s') s)
    (done : ∀ m s, J n m → Cx w g ws s₀ L m news s → Ro L sa s → wpAny (model prog w) A (execs orelse env) (fun f s₃ => R (.ok f) s₃) (notedBy (model prog w) A env fun e s' => R (.error e) s') s)
    (c : Cx w g ws s₀ L m news s) (ro : Ro L sa s) (h0 : J 0 m) (hS : S 0 s.heap) (ht : ∀ v, letOwnedTupleGo target (.ref I) v = pure () := by intro _; rfl) :
    codeAny (model prog w) A (.forLoop target (.ref I) body orelse env) R s := by
  have hro : ∀ {s : Shared} {h' : Heap} {tk : Nat}, Ro L sa s → (∀ b o, b ∉ [I] → s.heap.get? b = some o → h'.get? b = some o) → Ro L sa { s with heap := h', toks := tk } := fun ro k b o h1 h2 e =>
    k b o (fun q => by rw [List.mem_singleton] at q; rw [q, hsI] at e; cases e) (ro b o h1 h2 e)
  refine codeAny_forLoop (I := fun k s => ∃ j m, k = n - j ∧ j ≤ n ∧ J j m ∧ Cx w g ws s₀ L m news s ∧ Ro L sa s ∧ S j s.heap) (fun k s hk => ?_) n ⟨0, m, rfl, Nat.zero_le _, h0, c, ro, hS⟩ ht
  obtain ⟨j, m, rfl, hj, hJ, c, ro, hS⟩ := hk
  rcases Nat.lt_or_ge j n with hlt | hge
  · refine W.item j s _ _ hlt hS fun v h' tk hP hS' k => ?_
    have c' := c.turn (tk := tk) hI hgI hLI hnI fun b o hb e => k b o (by simpa using hb) e
    refine wpAny_mono (turn j v m _ hlt hJ c' (hro ro k) hP) (fun _ s₂ h₂ => wpAny_mono h₂ (fun f s₃ h₃ => ?_) fun _ _ e => e) fun _ _ e => e
    cases f with
    | next => obtain ⟨m', hJ', c₃, r₃⟩ := h₃; exact ⟨n - (j + 1), by (exact om36 hlt), j + 1, m', rfl, hlt, hJ', c₃, (hro ro k).trans r₃, W.frame _ _ _ hS' fun b hb o e => by rw [List.mem_singleton] at hb; subst hb; exact r₃ b o hI (Ne.symm hLI) e⟩
    | cont => obtain ⟨m', hJ', c₃, r₃⟩ := h₃; exact ⟨n - (j + 1), by (exact om36 hlt), j + 1, m', rfl, hlt, hJ', c₃, (hro ro k).trans r₃, W.frame _ _ _ hS' fun b hb o e => by rw [List.mem_singleton] at hb; subst hb; exact r₃ b o hI (Ne.symm hLI) e⟩
    | brk => exact h₃
    | ret v => exact h₃
  · have : j = n := Nat.le_antisymm hj hge
    subst this
    refine W.done s _ _ hS fun h' tk k => ?_
    exact done m _ hJ (c.turn (tk := tk) hI hgI hLI hnI fun b o hb e => k b o (by simpa using hb) e) (hro ro k)
end
end Mine
end

section
open PySem PySem.W PySem.Calls PyProof.Rows
set_option maxRecDepth 100000
set_option maxHeartbeats 8000000
namespace Mine
section
variable {w : World} {A : Around} {E : Value → Shared → Prop} {s : Shared} {a d : Addr} {its : Array Value} {n : Nat} {i : Int} {Q : Value → Shared → Prop}
theorem tail_builtin {value slice : Expr} {o i : Value} {T id : String} {Q : Value → Shared → Prop} (hT : s.TypeIs o T)
    (hl : typeLookup (.type T) "__getitem__" = pure (some (.builtin id))) (h : wpAny (model PG w) A (getItem o i) Q E s)
    (hs : subscripted slice false o i = operate [o, i] (getItem o i) := by with_unfolding_all rfl) :
    wpAny (model PG w) A (subscriptTail value slice o i) Q E s := by
  unfold subscriptTail
  refine wpAny_bind ?_
  rw [getitemInPython_of_ne hT.not_modules]
  refine wpAny_bind (wpAny_specialOf hT hl ?_)
  have fin : wpAny (model PG w) A (subscripted slice false o i) (fun r s₃ => wpAny (model PG w) A (letTemporaryGo value o r >>= fun _ => pure r) Q E s₃) E s := by
    rw [hs]
    exact wpAny_operating (wpAny_mono h (fun r s₃ h₃ => wpAny_bind (wpAny_letTemporaryGo (wpAny_pure h₃))) fun _ _ x => x)
  first
    | exact wpAny_pure (wpAny_bind fin)
    | exact wpAny_bind (wpAny_pure (wpAny_bind fin))
    | exact wpAny_bind fin
theorem pair_item {value slice : Expr} {T : Addr} {x y : Value} {k : Int} {u : Tok} {j : Nat} {v : Value} (hT : s.heap.get? T = some (tupObj #[x, y])) (hlo : -(2 ^ 63) ≤ k) (hhi : k < 2 ^ 63) (hj : seqIndex? k 2 = some j) (hv : (#[x, y] : Array Value)[j]? = some v) (h : Q v s)
    (hs : subscripted slice false (.ref T) (.int k u) = operate [.ref T, .int k u] (getItem (.ref T) (.int k u)) := by with_unfolding_all rfl) : wpAny (model PG w) A (subscriptTail value slice (.ref T) (.int k u)) Q E s := by
  have ht : IsTup s.heap T #[x, y] := ⟨_, hT, rfl, _, rfl⟩
  exact tail_builtin ht.typeIs slot_tuple_getitem.lookup (getItem_tuple ht hlo hhi hj hv h) hs
theorem sign_item {value slice : Expr} {x : Str} {t u : Tok} {k : Int} {c : Nat} (hr : (decide (k < -(2 ^ 63 : Int)) || decide (k ≥ 2 ^ 63)) = false) (hc : (seqIndex? k x.length).bind (x.cps[·]?) = some c) (h : Q (.str ⟨#[c]⟩ s.toks) { s with toks := s.toks + 1 })
    (hs : subscripted slice false (.str x t) (.int k u) = operate [.str x t, .int k u] (getItem (.str x t) (.int k u)) := by with_unfolding_all rfl) : wpAny (model PG w) A (subscriptTail value slice (.str x t) (.int k u)) Q E s :=
  tail_builtin (typeIs_str s x t) PySem.F.slot_str_getitem.lookup (P.getItem_str hr hc h) hs
theorem acc_item {value slice : Expr} {hh : Int} {tk t : Tok} {k : Int} {u : Tok} {v : Value} (X : (KK w).In s.heap) (I : InstAt s.heap a (accObj d its n) 200 (some (accDict hh tk i t))) (h0 : 0 ≤ k) (h63 : k < 2 ^ 63) (hv : its[k.toNat]? = some v) (h : Q v s)
    (hs : subscripted slice false (.ref a) (.int k u) = operate [.ref a, .int k u] (getItem (.ref a) (.int k u)) := by with_unfolding_all rfl) : wpAny (model PG w) A (subscriptTail value slice (.ref a) (.int k u)) Q E s :=
  acc_tail X I hs (get_int I.at_ h0 h63 hv h)
end
noncomputable def hitAt (c : Nat) (ps : List (Str × Str)) (k : Nat) : Bool :=
  (Unicode.isSpace c && (((ps[k]?).bind fun p => p.1.cps.toList.head?) == some c)) || (((ps[k - 1]?).bind fun p => p.2.cps.toList.getLast?) == some c)
noncomputable def findK (c : Nat) (ps : List (Str × Str)) : Nat → Option Nat
  | 0 => none
  | k + 1 => if hitAt c ps (k + 1) then some (k + 1) else findK c ps k
noncomputable def findAll (cs : List Nat) (ps : List (Str × Str)) : Option Nat := cs.findSome? fun c => findK c ps (ps.length - 1)
noncomputable def chunk (W : Int) (cs : List Nat) (st : List Str × List (Str × Str) × Int) (q : Str × Str) : List Str × List (Str × Str) × Int :=
  if st.2.2 + sizes (st.2.1 ++ [q]) ≤ W then (st.1, st.2.1 ++ [q], st.2.2)
  else match findAll cs (st.2.1 ++ [q]) with
    | some k => (st.1 ++ [ofL (flat ((st.2.1 ++ [q]).take k))], (st.2.1 ++ [q]).drop k, 0)
    | none => if 0 < st.2.2 then (st.1 ++ [ofL (flat st.2.1)], [(if q.1 = ofL [] then ofL [32] else q.1, q.2)], 0) else (st.1, st.2.1 ++ [q], st.2.2)
end Mine
end

section
open PySem PySem.W PySem.Calls PyProof.Rows
set_option maxRecDepth 100000
set_option maxHeartbeats 8000000
namespace Mine
theorem wpAny_mid {α : Type} {M : Model} {A : Around} {m : Sem α} {P : α → Shared → Prop} {E : Value → Shared → Prop} {s : Shared} (h : ∀ P' : α → Shared → Prop, (∀ a s', P a s' → P' a s') → wpAny M A m P' E s) : wpAny M A m P E s := h P fun _ _ x => x
section
variable {w : World} {A : Around} {E : Value → Shared → Prop} {g : Heap} {ws : List Addr} {s₀ s : Shared} {L I : Addr} {m : Str → Option Value} {news : List (Addr × Obj)} {Q : Value → Shared → Prop}
theorem Cx.fresh (c : Cx w g ws s₀ L m news s) (hI : (s.heap.objs.size : Nat) ≤ I) : (238 : Nat) ≤ I ∧ g.get? I = none ∧ L ≠ I ∧ (∀ p ∈ news, p.1 ≠ I) := by
  have none_of : ∀ b o, s.heap.get? b = some o → b ≠ I := fun b o e q => absurd (Heap.lt_size e) (by rw [q]; exact Nat.not_lt.mpr hI)
  have hL : (L : Nat) < s.heap.objs.size := by obtain ⟨oL, _, _, e, _⟩ := c.F.ns; exact Heap.lt_size e
  refine ⟨Nat.le_trans c.big (Nat.le_trans (Nat.le_of_lt hL) hI), ?_, fun q => ?_, fun p hp => none_of _ _ (c.N p hp).1⟩
  · cases e : g.get? I with
    | none => rfl
    | some o => exact absurd rfl (none_of _ _ (c.base e))
  · exact absurd hL (Nat.not_lt.mpr (by rw [q]; exact hI))
theorem Ro.none {sa : Shared} (ro : Ro L sa s) (hI : (s.heap.objs.size : Nat) ≤ I) (h238 : (238 : Nat) ≤ I) (hLI : L ≠ I) : sa.heap.get? I = none := by
  cases e : sa.heap.get? I with
  | none => rfl
  | some o => exact absurd (Heap.lt_size (ro I o h238 (Ne.symm hLI) e)) (Nat.not_lt.mpr hI)
theorem down_size (k : Nat) : Builtin.Range.rangeSize k 0 (-1) = k := by
  unfold Builtin.Range.rangeSize
  rw [if_neg (by decide)]
  split
  · rename_i h
    have : ((k : Int) - 0 - 1) / (- -1) = k - 1 := by simp
    (exact om37 this)
  · (exact om38 (by assumption))
theorem down_small {k : Nat} (hk : k ≤ 100000) : Builtin.Range.small k 0 (-1) = true := by
  unfold Builtin.Range.small
  rw [down_size]
  unfold Builtin.Range.rangeFitsLong
  simp only [Bool.and_eq_true, Bool.or_eq_true, decide_eq_true_eq]
  refine ⟨⟨⟨⟨?_, ?_⟩, ?_⟩, ?_⟩, .inr ?_⟩
  all_goals first | lia | (rw [if_neg (by decide)]; decide) | decide
theorem down_iter {k : Nat} {t u v : Tok} (hk : k ≤ 100000) (h : ∀ s', (∀ b o, s.heap.get? b = some o → s'.heap.get? b = some o) → s'.gens = s.gens → s'.os = s.os → IsRangeIter s'.heap I k k (-1) → (s.heap.objs.size : Nat) ≤ I → Q (.ref I) s')
    (hI : I = s.heap.objs.size + 1) :
    wpAny (model PG w) A (call (.type "range") [.int k t, .int 0 u, .int (-1) v]) (fun x s₁ => wpAny (model PG w) A (pyIter x) Q E s₁) E s := by
  refine call_range_3 (by decide) ?_ (.inl (PyProof.noPylong_small (by lia)))
  refine wpAny_pyIter_range (a := k) (b := 0) (c := -1) (t := t) (u := u) (v := v) (IsRange.new ..) (down_small hk) ?_
  have e : (s.heap.push { cls := .type "range", data := .fields #[.int k t, .int 0 u, .int (-1) v] }).objs.size = I := by rw [Heap.size_push, hI]
  show Q (.ref (s.heap.push { cls := .type "range", data := .fields #[.int k t, .int 0 u, .int (-1) v] }).objs.size) _
  rw [e, down_size]
  refine h _ (fun b o e => Heap.get?_push_of_some _ (Heap.get?_push_of_some _ e)) rfl rfl ?_ (by rw [hI]; exact Nat.le_succ _)
  rw [← e]
  exact Heap.get?_push_size _ rfl
end
end Mine
end

section
open PySem PySem.W PySem.Calls PyProof.Rows
set_option maxRecDepth 100000
set_option maxHeartbeats 8000000
namespace Mine
section
variable {w : World} {A : Around} {E : Value → Shared → Prop} {s : Shared} {f fd ls a d : Addr} {W : Int} {ws sp : Str} {its : Array Value} {n : Nat} {i : Int} {ps : List (Str × Str)} {lines : List Str} {Q : Value → Shared → Prop}
theorem fm_ne {p : FP} {hh : Int} {tk t : Tok} {h : Heap} {vs : Array Value} {nl : Nat} (oa : h.get? a = some (accObj d its n)) (od : h.get? d = some (accDict hh tk i t)) (of : h.get? f = some (instObj 116 fd)) (ofd : h.get? fd = some (fmDict p W ws sp ls a)) (ols : h.get? ls = some (listObj vs nl)) :
    ls ≠ a ∧ ls ≠ d ∧ f ≠ a ∧ f ≠ d ∧ f ≠ ls ∧ fd ≠ a ∧ fd ≠ d ∧ fd ≠ ls ∧ d ≠ a := by
  refine ⟨fun e => ?_, fun e => ?_, fun e => ?_, fun e => ?_, fun e => ?_, fun e => ?_, fun e => ?_, fun e => ?_, fun e => ?_⟩
  · rw [e, oa] at ols; cases ols
  · rw [e, od] at ols; have := congrArg (fun o => o.map Obj.data) ols; cases this
  · rw [e, oa] at of; have := congrArg (fun o => o.map Obj.data) of; cases this
  · rw [e, od] at of; have := congrArg (fun o => o.map Obj.data) of; cases this
  · rw [e, ols] at of; have := congrArg (fun o => o.map Obj.data) of; cases this
  · rw [e, oa] at ofd; have := congrArg (fun o => o.map Obj.data) ofd; cases this
  · rw [e, od] at ofd
    have := congrArg (fun o => o.map fun (x : Obj) => match x.data with | .dict es _ => es.size | _ => 0) ofd
    cases this
  · rw [e, ols] at ofd; have := congrArg (fun o => o.map Obj.data) ofd; cases this
  · rw [e, oa] at od; cases od
theorem own3 {x y z : Addr} {ox oy oz : Obj} (lx : (238 : Nat) ≤ x) (ex : s.heap.get? x = some ox) (ly : (238 : Nat) ≤ y) (ey : s.heap.get? y = some oy) (lz : (238 : Nat) ≤ z) (ez : s.heap.get? z = some oz) :
    ∀ q ∈ [(x, ox), (y, oy), (z, oz)], (238 : Nat) ≤ q.1 ∧ s.heap.get? q.1 = some q.2 := fun q hq => by
  cases hq with | head => exact ⟨lx, ex⟩ | tail _ hq => cases hq with | head => exact ⟨ly, ey⟩ | tail _ hq => cases hq with | head => exact ⟨lz, ez⟩ | tail _ h => cases h
theorem pairs_g {p : FP} {g : Heap} {wss : List Addr} {hh : Int} {tk t : Tok} {vs : Array Value} {nl : Nat} (B : Bg w g wss s) (hws : ∀ x ∈ wss, x = a ∨ x = d ∨ x = ls) (oa : s.heap.get? a = some (accObj d its n)) (od : s.heap.get? d = some (accDict hh tk i t)) (ols : s.heap.get? ls = some (listObj vs nl)) {its' : Array Value} (Ps : PairsAt s.heap its' ps) : PairsAt g its' ps :=
  Ps.high' fun b o vs e hb eo => B.all b _ (fun q => by
    subst e
    rcases hws b q with rfl | rfl | rfl
    · rw [oa] at eo; cases eo
    · rw [od] at eo; have := congrArg (fun o => o.map Obj.data) eo; cases this
    · rw [ols] at eo; have := congrArg (fun o => o.map Obj.cls) eo; simp at this) (not_tab hb) eo
theorem fm_maxlen' {p : FP} {g : Heap} {wss : List Addr} {s₀ : Shared} {L : Addr} {m : Str → Option Value} {news : List (Addr × Obj)} {x : Str} {pos pos' : Pos} {cn : Str} {cs : Scope} {fa : Addr} {ccd : Value} {cl : List (Str × Addr)} (c : Cx w g wss s₀ L m news s) (hx : m x = some (.ref f)) (gf : g.get? f = some (instObj 116 fd)) (gfd : g.get? fd = some (fmDict p W ws sp ls a))
    (h : ∀ s', Cx w g wss s₀ L m news s' → s'.heap = s.heap → Q (.int W p.u1) s') (hk : cs.kind = .function := by rfl) (hx' : (envX cn cs L fa ccd cl).kindOf x = some .local := by rfl) (hd : (x == ("__debug__" : Str)) = false := by decide) :
    wpAny (model PG w) A (eval (.Attribute (.Name x pos) "_maxlen" pos') (envX cn cs L fa ccd cl)) Q E s := by
  refine Attribute_name ?_
  refine c_name c hx ?_ hk hx' hd
  exact fm_maxlen c.X (fmI (c.base gf) (c.base gfd)) (h _ (c.ext (s' := { s with toks := s.toks + 1 }) (fun _ _ e => e) rfl rfl) rfl)
theorem fm_split' {p : FP} {g : Heap} {wss : List Addr} {s₀ : Shared} {L : Addr} {m : Str → Option Value} {news : List (Addr × Obj)} {x : Str} {pos pos' : Pos} {cn : Str} {cs : Scope} {fa : Addr} {ccd : Value} {cl : List (Str × Addr)} (c : Cx w g wss s₀ L m news s) (hx : m x = some (.ref f)) (gf : g.get? f = some (instObj 116 fd)) (gfd : g.get? fd = some (fmDict p W ws sp ls a))
    (h : ∀ s', Cx w g wss s₀ L m news s' → s'.heap = s.heap → Q (.str sp p.u4) s') (hk : cs.kind = .function := by rfl) (hx' : (envX cn cs L fa ccd cl).kindOf x = some .local := by rfl) (hd : (x == ("__debug__" : Str)) = false := by decide) :
    wpAny (model PG w) A (eval (.Attribute (.Name x pos) "_splitchars" pos') (envX cn cs L fa ccd cl)) Q E s := by
  refine Attribute_name ?_
  refine c_name c hx ?_ hk hx' hd
  exact fm_split c.X (fmI (c.base gf) (c.base gfd)) (h _ (c.ext (s' := { s with toks := s.toks + 1 }) (fun _ _ e => e) rfl rfl) rfl)

noncomputable abbrev sSelf : Str := (Str.ofString "self")
noncomputable abbrev sCh : Str := (Str.ofString "ch")
noncomputable abbrev sFws : Str := (Str.ofString "fws")
noncomputable abbrev sPrev : Str := (Str.ofString "prevpart")
noncomputable abbrev sPart : Str := (Str.ofString "part")
noncomputable abbrev sI : Str := (Str.ofString "i")
theorem findK_some {c : Nat} {ps : List (Str × Str)} {k : Nat} (h1 : 1 ≤ k) (hk : hitAt c ps k = true) : ∀ K, k ≤ K → (∀ q, k < q → q ≤ K → hitAt c ps q = false) → findK c ps K = some k
  | 0, h, _ => by (exact (om43 h1 h).elim)
  | K + 1, h, hq => by
    unfold findK
    rcases Nat.lt_or_ge k (K + 1) with hlt | hge
    · rw [hq (K + 1) hlt (Nat.le_refl _), if_neg (by decide)]
      exact findK_some h1 hk K (by (exact om44 hlt)) fun q a b => hq q a (by (exact Nat.le_succ_of_le (by assumption)))
    · have : k = K + 1 := by (exact om45 h hge)
      subst this
      rw [hk, if_pos rfl]
theorem findK_none {c : Nat} {ps : List (Str × Str)} : ∀ K, (∀ q, 0 < q → q ≤ K → hitAt c ps q = false) → findK c ps K = none
  | 0, _ => rfl
  | K + 1, hq => by
    unfold findK
    rw [hq (K + 1) (by (exact Nat.zero_lt_succ _)) (Nat.le_refl _), if_neg (by decide)]
    exact findK_none K fun q a b => hq q a (by (exact Nat.le_succ_of_le (by assumption)))
theorem isspace_one (c : Nat) : Txt.isspace ⟨#[c]⟩ = Unicode.isSpace c := by
  show ((1 : Nat) > 0 && (#[c] : Array Nat).all Unicode.isSpace) = _
  simp
theorem seq0 {l : List Nat} {c : Nat} (h : l.head? = some c) (x : Str) (e : x.cps.toList = l) : (seqIndex? 0 x.length).bind (x.cps[·]?) = some c := by
  cases l with
  | nil => cases h
  | cons d r =>
    cases h
    have hl : x.length = r.length + 1 := by unfold Str.length; rw [← Array.length_toList, e]; rfl
    have : seqIndex? 0 x.length = some 0 := by unfold seqIndex?; rw [hl]; simp
    rw [this, Option.bind_some, ← Array.getElem?_toList, e]; rfl
theorem seqLast {l : List Nat} {c : Nat} (h : l.getLast? = some c) (x : Str) (e : x.cps.toList = l) : (seqIndex? (-1) x.length).bind (x.cps[·]?) = some c := by
  have hl : x.length = l.length := by unfold Str.length; rw [← Array.length_toList, e]
  have hpos : 0 < l.length := by cases l with | nil => cases h | cons _ _ => simp
  have : seqIndex? (-1) x.length = some (l.length - 1) := by
    unfold seqIndex?
    rw [hl]
    have h1 : ((-1 : Int) < 0) = True := by simp
    simp only [h1, if_true]
    rw [if_pos (by simp only [Bool.and_eq_true, decide_eq_true_eq]; (exact om46 hpos))]
    congr 1; (exact om47 hpos)
  rw [this, Option.bind_some, ← Array.getElem?_toList, e, ← List.getLast?_eq_getElem?, h]
theorem findSome_at {F : Nat → Option Nat} : ∀ {cs : List Nat} {j ch k : Nat}, cs[j]? = some ch → (∀ j' c', j' < j → cs[j']? = some c' → F c' = none) → F ch = some k → cs.findSome? F = some k
  | [], _, _, _, h, _, _ => by simp at h
  | c :: cs, 0, ch, k, h, _, hk => by simp at h; subst h; simp [hk]
  | c :: cs, j + 1, ch, k, h, hno, hk => by
    have := hno 0 c (by (exact Nat.zero_lt_succ _)) rfl
    rw [List.findSome?_cons, this]
    exact findSome_at (j := j) (by simpa using h) (fun j' c' a b => hno (j' + 1) c' (by (exact Nat.lt_succ_of_le (by assumption))) (by simpa using b)) hk
theorem findSome_no {F : Nat → Option Nat} {cs : List Nat} (h : ∀ (j : Nat) c', cs[j]? = some c' → F c' = none) : cs.findSome? F = none := by
  rw [List.findSome?_eq_none_iff]
  intro c hc
  obtain ⟨j, hj, e⟩ := List.getElem_of_mem hc
  exact h j c (by rw [List.getElem?_eq_getElem hj, e])
theorem PairsAt.take {h : Heap} (P : PairsAt h its ps) {k : Nat} (hk : k ≤ ps.length) : PairsAt h (its.extract 0 k) (ps.take k) := by
  refine ⟨by simp [P.size], fun j q hq => ?_⟩
  have hj : j < k := by
    have := (List.getElem?_eq_some_iff.mp hq).1
    simp at this; (exact om48 hk this)
  rw [List.getElem?_take_of_lt hj] at hq
  obtain ⟨v, hv, e⟩ := P.at_ j q hq
  refine ⟨v, ?_, e⟩
  rw [Array.getElem?_extract_of_lt (by have := P.size; (exact om49 hk hj this))]
  obtain ⟨_, e'⟩ := Array.getElem?_eq_some_iff.mp hv
  simpa using e'
theorem PairsAt.drop {h : Heap} (P : PairsAt h its ps) {k : Nat} (hk : k ≤ ps.length) : PairsAt h (its.extract k its.size) (ps.drop k) := by
  refine ⟨by simp [P.size], fun j q hq => ?_⟩
  rw [List.getElem?_drop] at hq
  obtain ⟨v, hv, e⟩ := P.at_ (k + j) q hq
  refine ⟨v, ?_, e⟩
  have : k + j < its.size := (Array.getElem?_eq_some_iff.mp hv).1
  rw [Array.getElem?_extract_of_lt (by (exact om50 this))]
  exact congrArg some (Array.getElem?_eq_some_iff.mp hv).2
theorem append_ok {f0 p0 : Str} {tf tp : Tok} (O : Ok w s) (r : Rm A 12) (F : FmAt s.heap f fd ls a W ws sp) (Y : AccAt s.heap a d its n i) (Ps : PairsAt s.heap its ps) (Ls : LinesAt s.heap ls lines)
    (hi : 0 ≤ i ∧ i ≤ 1000) (hsz : sizes (ps ++ [(f0, p0)]) ≤ 100000) (hlen : ps.length ≤ 900) (hll : lines.length ≤ 900)
    (hne : ∀ q ∈ ps ++ [(f0, p0)], q.2 ≠ ofL [])
    (h : ∀ s' its' n' ps' i' lines', chunk W sp.cps.toList (lines, ps, i) (f0, p0) = (lines', ps', i') → Ok w s' → St [a, d, ls] s s' → AccAt s'.heap a d its' n' i' → PairsAt s'.heap its' ps' → LinesAt s'.heap ls lines' → (∀ U, Value.ref U ∈ its'.toList → Value.ref U ∈ its.toList ∨ s.heap.objs.size ≤ U) → Q .none s') :
    wpAny (model PG w) A (call (.ref 113) [.ref f, .str f0 tf, .str p0 tp]) Q E s := by
  obtain ⟨la, ld, oa, hh, tk, t, od⟩ := Y
  obtain ⟨lf, lfd, of, p, ofd⟩ := F
  obtain ⟨lls, ll, nl, ols, hl⟩ := Ls
  obtain ⟨dls, dld, fa, fd', fls, da, dd, dl, hda⟩ := fm_ne oa od of ofd ols
  refine c_enter (binds := [("self", .ref f), ("fws", .str f0 tf), ("string", .str p0 tp)]) [(a, accObj d its n), (d, accDict hh tk i t), (ls, listObj (strValues ll).toArray nl)] O r.room (own3 la oa ld od lls ols) fun g L s₁ c => ?_
  have gf : g.get? f = some (instObj 116 fd) := c.B.all f _ (by simp [fa, fd', fls]) (not_tab lf) of
  have gfd : g.get? fd = some (fmDict p W ws sp ls a) := c.B.all fd _ (by simp [da, dd, dl]) (not_tab lfd) ofd
  have Pg : PairsAt g its ps := pairs_g (p := p) c.B (fun x hx => by simpa using hx) oa od ols Ps
  have big : (238 : Nat) ≤ s.heap.objs.size := (base_of (own := []) O.gd no_own).2
  refine wpAny_execs_cons ?_
  refine wpAny_Expr ?_
  refine MethodCall_ ?_
  refine fm_cur' c rfl gf gfd fun s₂ c₂ e₂ => ?_
  refine acc_meth (f := 144) c₂.X (accI (c₂.get (.head _)) (c₂.get (.tail _ (.head _)))) ?_
  refine callWith_K (K := KK w) c₂.X (by kernel_rfl) ?_
  refine spliced_more (c_name c₂ rfl (spliced_more (c_name c₂ rfl (spliced_none ?_))))
  refine ⟨c₂.X, ?_⟩
  have hs1 : its.size = ps.length := Ps.size
  refine push_ok c₂.ok (show A.depth + 1 < recursionLimit from r.room 1) ⟨la, ld, c₂.get (.head _), hh, tk, t, c₂.get (.tail _ (.head _))⟩ (by (exact om51 hlen hs1)) fun s₃ T O₃ S₃ Y₃ eT ltT => ?_
  have c₃ := (c₂.call1 (Upd.head (fun x hx => by
      cases hx with | head => exact hda | tail _ hx => cases hx with | head => exact dls | tail _ h => cases h)) S₃ O₃ Y₃.oa).new eT (Nat.lt_trans c₂.lt ltT)
  have bigT : (238 : Nat) ≤ T := Nat.le_of_lt (Nat.lt_of_le_of_lt big (Nat.lt_trans c₂.lt ltT))
  have Pc : ∀ {m s'}, Cx w g [a, d, ls] s L m [(T, tupObj #[.str f0 tf, .str p0 tp]), (a, accObj d (its.push (.ref T)) (n + 1)), (d, accDict hh tk i t), (ls, listObj (strValues ll).toArray nl)] s' → PairsAt s'.heap (its.push (.ref T)) (ps ++ [(f0, p0)]) := fun c =>
    (Pg.keeps fun b o e => c.base e).push ⟨T, tf, tp, rfl, bigT, c.get (.head _)⟩
  have Yc : ∀ {m s'}, Cx w g [a, d, ls] s L m [(T, tupObj #[.str f0 tf, .str p0 tp]), (a, accObj d (its.push (.ref T)) (n + 1)), (d, accDict hh tk i t), (ls, listObj (strValues ll).toArray nl)] s' → AccAt s'.heap a d (its.push (.ref T)) (n + 1) i := fun c =>
    ⟨la, ld, c.get (.tail _ (.head _)), hh, tk, t, c.get (.tail _ (.tail _ (.head _)))⟩
  refine wpAny_execs_cons ?_
  refine wpAny_If (wpAny_isTrue_Compare1 ?_)
  refine Call_ ?_
  refine c_built c₃ (v := .builtin "len") ?_ ?_ ?_ ?_
  · kernel_rfl
  · kernel_rfl
  · decide
  refine PyProof.Rows.callWith_builtin1 ?_
  refine spliced_more ?_
  refine fm_cur' c₃ rfl gf gfd fun s₄ c₄ e₄ => ?_
  refine spliced_none ?_
  refine len_call c₄.ok r.deep.le (Yc c₄) (Pc c₄) (by (exact om30 hi)) (by (exact om52 hsz)) fun s₅ t₅ O₅ S₅ => ?_
  have c₅ := c₄.call0 S₅ O₅
  refine fm_maxlen' c₅ rfl gf gfd fun s₆ c₆ e₆ => ?_
  refine gt_int (wpAny_truthy_bool ?_)
  have memT : ∀ U, Value.ref U ∈ (its.push (.ref T)).toList → Value.ref U ∈ its.toList ∨ s.heap.objs.size ≤ U := fun U hU => by
    rw [Array.toList_push] at hU
    rcases List.mem_append.mp hU with h1 | h1
    · exact .inl h1
    · rw [List.mem_singleton] at h1; cases h1; exact .inr (Nat.le_of_lt (Nat.lt_trans c₂.lt ltT))
  by_cases hW : i + sizes (ps ++ [(f0, p0)]) ≤ W
  · rw [decide_eq_false (by (exact om53 hW)), if_neg (by decide)]
    refine wpAny_execs_nil ?_
    refine wpAny_execs_nil ?_
    refine h s₆ _ (n + 1) (ps ++ [(f0, p0)]) i lines ?_ c₆.ok c₆.st (Yc c₆) (Pc c₆) ⟨lls, ll, nl, c₆.get (.tail _ (.tail _ (.tail _ (.head _)))), hl⟩ memT
    unfold chunk
    rw [if_pos hW]
  · rw [decide_eq_true (by (exact om54 hW)), if_pos rfl]
    have hK : (its.push (.ref T)).size = ps.length + 1 := by simp [hs1]
    have hK1 : (ps ++ [(f0, p0)]).length = ps.length + 1 := by simp
    refine wpAny_execs_cons ?_
    refine wpAny_mono (Q := fun fl s' => match fl with
      | .next => ∃ k u m, findAll sp.cps.toList (ps ++ [(f0, p0)]) = some k ∧ 1 ≤ k ∧ k ≤ ps.length ∧ m sSelf = some (.ref f) ∧ m sI = some (.int (k : Nat) u) ∧ Cx w g [a, d, ls] s L m [(T, tupObj #[.str f0 tf, .str p0 tp]), (a, accObj d (its.push (.ref T)) (n + 1)), (d, accDict hh tk i t), (ls, listObj (strValues ll).toArray nl)] s'
      | .ret v => Q v s'
      | _ => False) ?_ ?_ fun _ _ e => e
    · refine wpAny_mid fun Po hPo => ?_
      have ha' : ∀ D, [(T, tupObj #[.str f0 tf, .str p0 tp]), (a, accObj d (its.push (.ref T)) (n + 1)), (d, accDict hh tk i t), (ls, listObj (strValues ll).toArray nl)] = D → (a, accObj d (its.push (.ref T)) (n + 1)) ∈ D ∧ (d, accDict hh tk i t) ∈ D := fun D e => by rw [← e]; exact ⟨.tail _ (.head _), .tail _ (.tail _ (.head _))⟩
      generalize hD : ([(T, tupObj #[.str f0 tf, .str p0 tp]), (a, accObj d (its.push (.ref T)) (n + 1)), (d, accDict hh tk i t), (ls, listObj (strValues ll).toArray nl)] : List (Addr × Obj)) = D at c₆ Yc Pc hPo
      obtain ⟨ma, md⟩ := ha' D hD
      clear ha'
      refine wpAny_For ?_
      refine fm_split' c₆ rfl gf gfd fun s₇ c₇ e₇ => ?_
      refine wpAny_pyIter_str fun o S Wk hS => ?_
      have c₈ := c₇.ext (s' := { s₇ with heap := s₇.heap.push o }) (fun _ _ e => Heap.get?_push_of_some _ e) rfl rfl
      obtain ⟨hI1, hI2, hI3, hI4⟩ := c₇.fresh (Nat.le_refl _)
      refine r_for (Wk _ (by exact r.hd)) s₇ hI1 hI2 hI3 hI4 (Ro.refl.none (Nat.le_refl _) hI1 hI3) (fun j m => m sSelf = some (.ref f) ∧ ∀ j' c', j' < j → sp.cps[j']? = some c' → findK c' (ps ++ [(f0, p0)]) ps.length = none) ?_ ?_ c₈ (Ro.refl.ext fun _ _ e => Heap.get?_push_of_some _ e) ⟨rfl, fun j' c' h => absurd h (Nat.not_lt_zero _)⟩ hS
      · intro j v m s₉ hj hJ c₉ ro₉ hP
        obtain ⟨hself, hno⟩ := hJ
        obtain ⟨ch, uch, hch, rfl⟩ := hP
        refine wpAny_assign_Name (c_storeK c₉ fun s₁₀ c₁₀ k₁₀ => ?_)
        have hself' : (fun y => if y = sCh then some (Value.str ⟨#[ch]⟩ uch) else m y) sSelf = some (.ref f) := (if_neg (by decide)).trans hself
        have hch' : (fun y => if y = sCh then some (Value.str ⟨#[ch]⟩ uch) else m y) sCh = some (Value.str ⟨#[ch]⟩ uch) := if_pos rfl
        have ro₁₀ : Ro L s₉ s₁₀ := Ro.refl.but k₁₀
        refine wpAny_execs_cons ?_
        refine wpAny_mono (Q := fun fl s' => match fl with
          | .next => ∃ k u m, findK ch (ps ++ [(f0, p0)]) ps.length = some k ∧ 1 ≤ k ∧ k ≤ ps.length ∧ m sSelf = some (.ref f) ∧ m sI = some (.int (k : Nat) u) ∧ Cx w g [a, d, ls] s L m D s'
          | .cont => findK ch (ps ++ [(f0, p0)]) ps.length = none ∧ ∃ m, m sSelf = some (.ref f) ∧ Cx w g [a, d, ls] s L m D s' ∧ Ro L s₉ s'
          | _ => False) ?_ ?_ fun _ _ e => e
        · refine wpAny_mid fun P' hPm => ?_
          refine wpAny_For ?_
          refine Call_ ?_
          refine c_built c₁₀ (v := .type "range") ?_ ?_ ?_ ?_
          · kernel_rfl
          · kernel_rfl
          · decide
          refine PyProof.Rows.callWith_type1 ?_
          refine spliced_more ?_
          refine wpAny_BinOp ?_
          refine MethodCall_ ?_
          refine fm_cur' c₁₀ hself' gf gfd fun s₁₁ c₁₁ e₁₁ => ?_
          refine acc_meth (f := 197) c₁₁.X (accI (c₁₁.get ma) (c₁₁.get md)) ?_
          refine callWith_K0 (K := KK w) c₁₁.X (by kernel_rfl) ?_
          refine part_count_ok c₁₁.ok (show A.depth + 1 < recursionLimit from r.room 1) (Yc c₁₁) fun s₁₂ t₁₂ O₁₂ S₁₂ => ?_
          have c₁₂ := c₁₁.call0 S₁₂ O₁₂
          refine c_intK c₁₂ fun s₁₃ t₁₃ c₁₃ e₁₃ => ?_
          refine sub_int ?_
          have c₁₄ := c₁₃.ext (s' := { s₁₃ with toks := s₁₃.toks + 1 }) (fun _ _ e => e) rfl rfl
          refine spliced_more ?_
          refine c_intK c₁₄ fun s₁₅ t₁₅ c₁₅ e₁₅ => ?_
          refine spliced_more ?_
          refine UnaryOp_ ?_
          refine c_intK c₁₅ fun s₁₆ t₁₆ c₁₆ e₁₆ => ?_
          refine PyProof.Rows.neg_int ?_
          have c₁₇ := c₁₆.ext (s' := { s₁₆ with toks := s₁₆.toks + 1 }) (fun _ _ e => e) rfl rfl
          refine spliced_none ?_
          have ro₁₇ : Ro L s₉ { s₁₆ with toks := s₁₆.toks + 1 } := ((((ro₁₀.eq e₁₁).st S₁₂).eq e₁₃).eq e₁₅).eq e₁₆
          rw [show (((its.push (.ref T)).size : Nat) : Int) - 1 = ((ps.length : Nat) : Int) by rw [hK]; (exact om55)]
          refine down_iter (I := s₁₆.heap.objs.size + 1) (by (exact om56 hlen hs1 hK hK1)) (fun s₁₈ k₁₈ hg₁₈ ho₁₈ it₁₈ le₁₈ => ?_) rfl
          have c₁₈ := c₁₇.ext (s' := s₁₈) k₁₈ hg₁₈ ho₁₈
          obtain ⟨hJ1, hJ2, hJ3, hJ4⟩ := c₁₇.fresh (I := s₁₆.heap.objs.size + 1) le₁₈
          have ro₁₈ : Ro L s₉ s₁₈ := ro₁₇.ext k₁₈
          refine r_for (Walks.range (by exact r.hd) _ ps.length (-1) ps.length) s₉ hJ1 hJ2 hJ3 hJ4 (ro₁₇.none le₁₈ hJ1 hJ3) (fun j' m => m sSelf = some (.ref f) ∧ m sCh = some (Value.str ⟨#[ch]⟩ uch) ∧ ∀ q, ps.length - j' < q → q ≤ ps.length → hitAt ch (ps ++ [(f0, p0)]) q = false) ?_ ?_ c₁₈ ro₁₈ ⟨hself', hch', fun q a b => by (exact (om57 hlen hs1 hK hK1 a b).elim)⟩ (by simpa using it₁₈)
          · intro j' v m' s₂₁ hj' hJ' c₂₁ ro₂₁ hP'
            obtain ⟨tv, rfl⟩ := hP'
            obtain ⟨hself₁, hch₁, hno₁⟩ := hJ'
            obtain ⟨k, hk⟩ : ∃ k, k + j' = ps.length := ⟨ps.length - j', by (exact om58 hs1 hK hK1 hj')⟩
            rw [show (ps.length : Int) + (j' : Int) * (-1) = ((k : Nat) : Int) by (exact om59 hs1 hK hK1 hk)]
            refine wpAny_assign_Name (c_storeK c₂₁ fun s₂₂ c₂₂ k₂₂ => ?_)
            have hself₂ : (fun y => if y = sI then some (Value.int (k : Nat) tv) else m' y) sSelf = some (.ref f) := (if_neg (by decide)).trans hself₁
            have hch₂ : (fun y => if y = sI then some (Value.int (k : Nat) tv) else m' y) sCh = some (Value.str ⟨#[ch]⟩ uch) := (if_neg (by decide)).trans hch₁
            have hi₂ : (fun y => if y = sI then some (Value.int (k : Nat) tv) else m' y) sI = some (Value.int (k : Nat) tv) := if_pos rfl
            have ro₂₂ : Ro L s₂₁ s₂₂ := Ro.refl.but k₂₂
            refine wpAny_execs_cons ?_
            refine wpAny_mono (Q := fun fl s' => match fl with
              | .next => (Unicode.isSpace ch && ((((ps ++ [(f0, p0)])[k]?).bind fun p => p.1.cps.toList.head?) == some ch)) = false ∧ ∃ m, m sSelf = some (.ref f) ∧ m sCh = some (Value.str ⟨#[ch]⟩ uch) ∧ m sI = some (Value.int (k : Nat) tv) ∧ Cx w g [a, d, ls] s L m D s' ∧ Ro L s₂₁ s'
              | .brk => (Unicode.isSpace ch && ((((ps ++ [(f0, p0)])[k]?).bind fun p => p.1.cps.toList.head?) == some ch)) = true ∧ ∃ m, m sSelf = some (.ref f) ∧ m sI = some (Value.int (k : Nat) tv) ∧ Cx w g [a, d, ls] s L m D s'
              | _ => False) ?_ ?_ fun _ _ e => e
            · refine wpAny_If ?_
              refine isTrue_plain ?_
              refine MethodCall_ ?_
              refine c_name c₂₂ hch₂ ?_
              refine GM.isspace ?_
              refine callWith_method0 ?_
              refine SC.isspace ?_
              refine wpAny_truthy_bool ?_
              rw [isspace_one]
              cases hsp : Unicode.isSpace ch with
              | false =>
                rw [if_neg (by decide)]
                refine wpAny_execs_nil ?_
                exact ⟨by simp, (fun y => if y = sI then some (Value.int (k : Nat) tv) else m' y), hself₂, hch₂, hi₂, c₂₂, ro₂₂⟩
              | true =>
                rw [if_pos rfl]
                obtain ⟨vk, hvk, Tk, t1, t2, rfl, hTk, eTk⟩ := (Pc c₂₂).at_ k _ (List.getElem?_eq_getElem (by (exact om60 hs1 hK hK1 hk)))
                refine wpAny_execs_cons ?_
                refine wpAny_Assign_Name ?_
                refine Subscript_ ?_
                refine Subscript_ ?_
                refine fm_cur' c₂₂ hself₂ gf gfd fun s₂₃ c₂₃ e₂₃ => ?_
                refine c_name c₂₃ hi₂ ?_
                refine acc_item c₂₃.X (accI (c₂₃.get ma) (c₂₃.get md)) (by (exact Int.natCast_nonneg _)) (by omega) hvk ?_
                refine c_intK c₂₃ fun s₂₄ t₂₄ c₂₄ e₂₄ => ?_
                refine pair_item (j := 0) (by rw [e₂₄, e₂₃]; exact eTk) (by decide) (by decide) rfl rfl ?_
                refine c_storeK c₂₄ fun s₂₅ c₂₅ k₂₅ => ?_
                have ro₂₅ : Ro L s₂₁ s₂₅ := ((ro₂₂.eq e₂₃).eq e₂₄).but k₂₅
                have hq0 : (ps ++ [(f0, p0)])[k]? = some (ps ++ [(f0, p0)])[k] := List.getElem?_eq_getElem (by (exact om60 hs1 hK hK1 hk))
                have hqs := sizes_mem hq0
                unfold sizeOf' at hqs
                rw [hq0, Option.bind_some]
                generalize (ps ++ [(f0, p0)])[k] = q at *
                obtain ⟨m₂₅, hm₂₅⟩ : ∃ m₂₅, m₂₅ = (fun y => if y = sFws then some (Value.str q.1 t1) else (fun y => if y = sI then some (Value.int (k : Nat) tv) else m' y) y) := ⟨_, rfl⟩
                have hfws₅ : m₂₅ sFws = some (Value.str q.1 t1) := by rw [hm₂₅]; exact if_pos rfl
                have hself₅ : m₂₅ sSelf = some (.ref f) := by rw [hm₂₅]; exact (if_neg (by decide)).trans hself₂
                have hch₅ : m₂₅ sCh = some (Value.str ⟨#[ch]⟩ uch) := by rw [hm₂₅]; exact (if_neg (by decide)).trans hch₂
                have hi₅ : m₂₅ sI = some (Value.int (k : Nat) tv) := by rw [hm₂₅]; exact (if_neg (by decide)).trans hi₂
                replace c₂₅ : Cx w g [a, d, ls] s L m₂₅ D s₂₅ := hm₂₅ ▸ c₂₅
                refine wpAny_execs_cons ?_
                refine wpAny_If ?_
                refine isTrue_and ?_
                refine isTrue_plain ?_
                refine c_name c₂₅ hfws₅ ?_
                refine P.truthy_str (by lia) ?_
                have c₂₆ := c₂₅.ext (s' := { s₂₅ with toks := s₂₅.toks + 1 + 1 }) (fun _ _ e => e) rfl rfl
                cases hhd : q.1.cps.toList.head? with
                | none =>
                  have hl0 : q.1.length = 0 := by unfold Str.length; rw [← Array.length_toList, List.head?_eq_none_iff.mp hhd]; rfl
                  rw [hl0, if_neg (by decide), if_neg (by decide)]
                  refine wpAny_execs_nil ?_
                  refine wpAny_execs_nil ?_
                  exact ⟨by simp, m₂₅, hself₅, hch₅, hi₅, c₂₆, ro₂₅⟩
                | some c0 =>
                  have hl0 : ((q.1.length : Int) != 0) = true := by
                    have : q.1.length ≠ 0 := fun e => by
                      have : q.1.cps.toList = [] := List.length_eq_zero_iff.mp (by rw [Array.length_toList]; exact e)
                      rw [this] at hhd; cases hhd
                    exact bne_iff_ne.mpr (by (exact om62 this))
                  rw [hl0, if_pos rfl]
                  refine isTrue_and ?_
                  refine wpAny_isTrue_Compare1 ?_
                  refine Subscript_ ?_
                  refine c_name c₂₆ hfws₅ ?_
                  refine c_intK c₂₆ fun s₂₇ t₂₇ c₂₇ e₂₇ => ?_
                  refine sign_item (c := c0) (by decide) (seq0 hhd _ rfl) ?_
                  have c₂₈ := c₂₇.ext (s' := { s₂₇ with toks := s₂₇.toks + 1 }) (fun _ _ e => e) rfl rfl
                  have ro₂₈ : Ro L s₂₁ { s₂₇ with toks := s₂₇.toks + 1 } := ro₂₅.eq e₂₇
                  refine c_name c₂₈ hch₅ ?_
                  refine P.eq_str (wpAny_truthy_bool ?_)
                  have hb : ((#[c0] : Array Nat).toList == (#[ch] : Array Nat).toList) = (some c0 == some ch) := by
                    show ([c0] == [ch]) = _
                    simp
                  rw [hb]
                  cases hcc : (some c0 == some ch) with
                  | true =>
                    rw [if_pos rfl]
                    refine isTrue_and_nil ?_
                    rw [if_pos rfl]
                    refine wpAny_execs_cons (wpAny_Break ?_)
                    exact ⟨by simp, m₂₅, hself₅, hi₅, c₂₈⟩
                  | false =>
                    rw [if_neg (by decide), if_neg (by decide)]
                    refine wpAny_execs_nil ?_
                    refine wpAny_execs_nil ?_
                    exact ⟨by simp, m₂₅, hself₅, hch₅, hi₅, c₂₈, ro₂₈⟩
            · intro fl s₃₀ hmid
              have hkhit : ∀ b, (Unicode.isSpace ch && ((((ps ++ [(f0, p0)])[k]?).bind fun p => p.1.cps.toList.head?) == some ch)) = b → hitAt ch (ps ++ [(f0, p0)]) k = (b || ((((ps ++ [(f0, p0)])[k - 1]?).bind fun p => p.2.cps.toList.getLast?) == some ch)) := fun b e => by unfold hitAt; rw [e]
              have hfound : hitAt ch (ps ++ [(f0, p0)]) k = true → findK ch (ps ++ [(f0, p0)]) ps.length = some k := fun e => findK_some (by (exact om63 hs1 hK hK1 hj' hk)) e _ (by (exact om64 hs1 hK hK1 hk)) fun q a b => hno₁ q (by (exact om65 hs1 hK hK1 hj' hk a)) b
              match fl, hmid with
              | .brk, hm =>
                obtain ⟨hb, m₃, e4, e5, e6⟩ := hm
                refine hPm _ _ ?_
                exact ⟨k, tv, m₃, hfound (by rw [hkhit _ hb]; rfl), by (exact om63 hs1 hK hK1 hj' hk), by (exact om64 hs1 hK hK1 hk), e4, e5, e6⟩
              | .next, hm =>
                obtain ⟨hb, m₃, hself₃, hch₃, hi₃, c₃₀, ro₃₀⟩ := hm
                obtain ⟨vk, hvk, Tk, t1, t2, rfl, hTk, eTk⟩ := (Pc c₃₀).at_ (k - 1) _ (List.getElem?_eq_getElem (by (exact om66 hs1 hK hK1 hj' hk)))
                refine wpAny_execs_cons ?_
                refine wpAny_Assign_Name ?_
                refine Subscript_ ?_
                refine Subscript_ ?_
                refine fm_cur' c₃₀ hself₃ gf gfd fun s₃₁ c₃₁ e₃₁ => ?_
                refine wpAny_BinOp ?_
                refine c_name c₃₁ hi₃ ?_
                refine c_intK c₃₁ fun s₃₂ t₃₂ c₃₂ e₃₂ => ?_
                refine sub_int ?_
                have c₃₃ := c₃₂.ext (s' := { s₃₂ with toks := s₃₂.toks + 1 }) (fun _ _ e => e) rfl rfl
                rw [show ((k : Nat) : Int) - 1 = (((k - 1 : Nat)) : Int) by (exact om67 hs1 hK hK1 hj' hk)]
                refine acc_item c₃₃.X (accI (c₃₃.get ma) (c₃₃.get md)) (by (exact Int.natCast_nonneg _)) (by omega) hvk ?_
                refine c_intK c₃₃ fun s₃₄ t₃₄ c₃₄ e₃₄ => ?_
                have eTk' : s₃₄.heap.get? Tk = some (tupObj #[.str (ps ++ [(f0, p0)])[k - 1].1 t1, .str (ps ++ [(f0, p0)])[k - 1].2 t2]) := by rw [e₃₄]; show s₃₂.heap.get? Tk = _; rw [e₃₂, e₃₁]; exact eTk
                refine pair_item (j := 1) eTk' (by decide) (by decide) rfl rfl ?_
                refine c_storeK c₃₄ fun s₃₅ c₃₅ k₃₅ => ?_
                have ro₃₄ : Ro L s₂₁ s₃₄ := fun b o h1 h2 e => by rw [e₃₄]; show s₃₂.heap.get? b = _; rw [e₃₂, e₃₁]; exact ro₃₀ b o h1 h2 e
                have ro₃₅ : Ro L s₂₁ s₃₅ := ro₃₄.but k₃₅
                have hq0 : (ps ++ [(f0, p0)])[k - 1]? = some (ps ++ [(f0, p0)])[k - 1] := List.getElem?_eq_getElem (by (exact om66 hs1 hK hK1 hj' hk))
                have hqs := sizes_mem hq0
                unfold sizeOf' at hqs
                rw [hq0, Option.bind_some] at hkhit
                have hkk := hkhit _ hb
                rw [Bool.false_or] at hkk
                generalize (ps ++ [(f0, p0)])[k - 1] = q at *
                obtain ⟨m₃₅, hm₃₅⟩ : ∃ m₃₅, m₃₅ = (fun y => if y = sPrev then some (Value.str q.2 t2) else m₃ y) := ⟨_, rfl⟩
                have hprev₅ : m₃₅ sPrev = some (Value.str q.2 t2) := by rw [hm₃₅]; exact if_pos rfl
                have hself₅ : m₃₅ sSelf = some (.ref f) := by rw [hm₃₅]; exact (if_neg (by decide)).trans hself₃
                have hch₅ : m₃₅ sCh = some (Value.str ⟨#[ch]⟩ uch) := by rw [hm₃₅]; exact (if_neg (by decide)).trans hch₃
                have hi₅ : m₃₅ sI = some (Value.int (k : Nat) tv) := by rw [hm₃₅]; exact (if_neg (by decide)).trans hi₃
                replace c₃₅ : Cx w g [a, d, ls] s L m₃₅ D s₃₅ := hm₃₅ ▸ c₃₅
                have hstep : hitAt ch (ps ++ [(f0, p0)]) k = false → ∀ q, ps.length - (j' + 1) < q → q ≤ ps.length → hitAt ch (ps ++ [(f0, p0)]) q = false := fun e q h1 h2 => by
                  rcases Nat.lt_or_ge (ps.length - j') q with h | h
                  · exact hno₁ q h h2
                  · have : q = k := by (exact om68 hs1 hK hK1 hj' hk h1 h)
                    rw [this]; exact e
                refine wpAny_execs_cons ?_
                refine wpAny_If ?_
                refine isTrue_and ?_
                refine isTrue_plain ?_
                refine c_name c₃₅ hprev₅ ?_
                refine P.truthy_str (by lia) ?_
                have c₃₆ := c₃₅.ext (s' := { s₃₅ with toks := s₃₅.toks + 1 + 1 }) (fun _ _ e => e) rfl rfl
                cases hhd : q.2.cps.toList.getLast? with
                | none =>
                  have hl0 : q.2.length = 0 := by unfold Str.length; rw [← Array.length_toList, List.getLast?_eq_none_iff.mp hhd]; rfl
                  rw [hl0, if_neg (by decide), if_neg (by decide)]
                  refine wpAny_execs_nil ?_
                  refine wpAny_execs_nil ?_
                  rw [hhd] at hkk
                  exact ⟨m₃₅, ⟨hself₅, hch₅, hstep (by rw [hkk]; rfl)⟩, c₃₆, ro₃₅⟩
                | some c0 =>
                  have hl0 : ((q.2.length : Int) != 0) = true := by
                    have : q.2.length ≠ 0 := fun e => by
                      have : q.2.cps.toList = [] := List.length_eq_zero_iff.mp (by rw [Array.length_toList]; exact e)
                      rw [this] at hhd; cases hhd
                    exact bne_iff_ne.mpr (by (exact om62 this))
                  rw [hl0, if_pos rfl]
                  refine isTrue_and ?_
                  refine wpAny_isTrue_Compare1 ?_
                  refine Subscript_ ?_
                  refine c_name c₃₆ hprev₅ ?_
                  refine UnaryOp_ ?_
                  refine c_intK c₃₆ fun s₃₇ t₃₇ c₃₇ e₃₇ => ?_
                  refine PyProof.Rows.neg_int ?_
                  refine sign_item (c := c0) (by decide) (seqLast hhd _ rfl) ?_
                  have c₃₈ := c₃₇.ext (s' := { s₃₇ with toks := s₃₇.toks + 1 + 1 }) (fun _ _ e => e) rfl rfl
                  have ro₃₈ : Ro L s₂₁ { s₃₇ with toks := s₃₇.toks + 1 + 1 } := ro₃₅.eq e₃₇
                  refine c_name c₃₈ hch₅ ?_
                  refine P.eq_str (wpAny_truthy_bool ?_)
                  have hbb : ((#[c0] : Array Nat).toList == (#[ch] : Array Nat).toList) = (some c0 == some ch) := by
                    show ([c0] == [ch]) = _
                    simp
                  rw [hbb]
                  rw [hhd] at hkk
                  cases hcc : (some c0 == some ch) with
                  | true =>
                    rw [if_pos rfl]
                    refine isTrue_and_nil ?_
                    rw [if_pos rfl]
                    refine wpAny_execs_cons (wpAny_Break ?_)
                    refine hPm _ _ ?_
                    exact ⟨k, tv, m₃₅, hfound (by rw [hkk, hcc]), by (exact om63 hs1 hK hK1 hj' hk), by (exact om64 hs1 hK hK1 hk), hself₅, hi₅, c₃₈⟩
                  | false =>
                    rw [if_neg (by decide), if_neg (by decide)]
                    refine wpAny_execs_nil ?_
                    refine wpAny_execs_nil ?_
                    exact ⟨m₃₅, ⟨hself₅, hch₅, hstep (by rw [hkk, hcc])⟩, c₃₈, ro₃₈⟩
          · intro m' s₂₁ hJ' c₂₁ ro₂₁
            obtain ⟨hself₁, hch₁, hno₁⟩ := hJ'
            refine wpAny_execs_cons (wpAny_Continue ?_)
            refine hPm _ _ ?_
            exact ⟨findK_none _ fun q a b => hno₁ q (by (exact om70 hlen hs1 hK hK1 a b)) b, m', hself₁, c₂₁, ro₂₁⟩
        · intro fl s₂₀ hmid
          match fl, hmid with
          | .next, hm =>
            refine wpAny_execs_cons (wpAny_Break ?_)
            obtain ⟨k, u, m', e1, e2, e3, e4, e5, e6⟩ := hm
            refine hPo _ _ ?_
            refine ⟨k, u, m', ?_, e2, e3, e4, e5, e6⟩
            unfold findAll
            rw [hK1, Nat.add_sub_cancel]
            exact findSome_at (j := j) (by rw [Array.getElem?_toList]; exact hch) (fun j' c' h1 h2 => hno j' c' h1 (by rw [← Array.getElem?_toList]; exact h2)) e1
          | .cont, hm =>
            obtain ⟨e1, m', e4, e6, e7⟩ := hm
            refine ⟨m', ⟨e4, fun j₁ c' hj₁ hc' => ?_⟩, e6, e7⟩
            rcases Nat.lt_or_ge j₁ j with hlt | hge
            · exact hno j₁ c' hlt hc'
            · have : j₁ = j := by (exact om71 hj₁ hge)
              subst this
              rw [hch] at hc'; cases hc'
              exact e1
      · intro m s₉ hJ c₉ ro₉
        subst hD
        obtain ⟨hself, hno⟩ := hJ
        have hfind : findAll sp.cps.toList (ps ++ [(f0, p0)]) = none := by
          unfold findAll
          rw [hK1, Nat.add_sub_cancel]
          refine findSome_no fun j c' hc => hno j c' ?_ (by rw [← Array.getElem?_toList]; exact hc)
          have := (List.getElem?_eq_some_iff.mp hc).1
          simpa using this
        refine wpAny_execs_cons ?_
        refine Assign_Tuple ?_
        refine MethodCall_ ?_
        refine fm_cur' c₉ hself gf gfd fun s₁₀ c₁₀ e₁₀ => ?_
        refine acc_meth (f := 160) c₁₀.X (accI (c₁₀.get (.tail _ (.head _))) (c₁₀.get (.tail _ (.tail _ (.head _))))) ?_
        refine callWith_K0 (K := KK w) c₁₀.X (by kernel_rfl) ?_
        refine pop_any c₁₀.ok (r.deep.room 1) (Yc c₁₀) (Pc c₁₀) (by (exact om72 hlen hs1 hK hK1)) fun s₁₁ U q ps0 its0 n0 t1 t2 O₁₁ S₁₁ Y₁₁ P₁₁ eU hU hcase hmem => ?_
        obtain ⟨rfl, rfl⟩ : ps0 = ps ∧ q = (f0, p0) := by
          rcases hcase with e | ⟨e, _, _⟩
          · have := List.append_inj' e rfl
            exact ⟨this.1.symm, by simpa using this.2.symm⟩
          · simp at e
        have hTa : T ≠ a := fun e => by
          have := c₁₀.get (.head _)
          rw [e, c₁₀.get (.tail _ (.head _))] at this; cases this
        have c₁₁ := c₁₀.call1 (Upd.tail hTa (Upd.head (fun x hx => by
          cases hx with | head => exact hda | tail _ hx => cases hx with | head => exact dls | tail _ h => cases h))) S₁₁ O₁₁ Y₁₁.oa
        refine wpAny_assign_Tuple (by exact r.hd) ⟨_, eU, rfl, _, rfl⟩ rfl rfl fun h₁₂ hx₁₂ => ?_
        have k₁₂ : ∀ b o, s₁₁.heap.get? b = some o → h₁₂.get? b = some o := fun b o e => hx₁₂ b o (Nat.ne_of_lt (Heap.lt_size e)) e
        have c₁₂ := c₁₁.ext (s' := { s₁₁ with heap := h₁₂ }) k₁₂ rfl rfl
        show wpAny _ _ (do holding [_] (assign (.Name _ _) _ _); do holding [] (assign (.Name _ _) _ _); pure ()) _ _ _
        refine wpAny_bind (wpAny_holding (wpAny_assign_Name (c_storeK c₁₂ fun s₁₃ c₁₃ k₁₃ => ?_)))
        refine wpAny_bind (wpAny_holding (wpAny_assign_Name (c_storeK c₁₃ fun s₁₄ c₁₄ k₁₄ => wpAny_pure ?_)))
        have P₁₄ : PairsAt s₁₄.heap its0 ps0 := c₁₃.pairs (c₁₂.pairs (s' := s₁₃) (P₁₁.keeps k₁₂) k₁₃) k₁₄
        obtain ⟨m₁₄, hm₁₄⟩ : ∃ m₁₄, m₁₄ = (fun y => if y = sPart then some (Value.str p0 t2) else (fun y => if y = sFws then some (Value.str f0 t1) else m y) y) := ⟨_, rfl⟩
        have hpart : m₁₄ sPart = some (Value.str p0 t2) := by rw [hm₁₄]; exact if_pos rfl
        have hfws : m₁₄ sFws = some (Value.str f0 t1) := by rw [hm₁₄]; exact (if_neg (by decide)).trans (if_pos rfl)
        have hself₁ : m₁₄ sSelf = some (.ref f) := by rw [hm₁₄]; exact (if_neg (by decide)).trans ((if_neg (by decide)).trans hself)
        replace c₁₄ : Cx w g [a, d, ls] s L m₁₄ [(a, accObj d its0 n0), (d, accDict hh tk i t), (ls, listObj (strValues ll).toArray nl)] s₁₄ := (show Cx w g [a, d, ls] s L m₁₄ _ s₁₄ from hm₁₄ ▸ c₁₄).drop fun p hp => .tail _ hp
        have hsz0 : sizes ps0 ≤ 100000 := by
          have := sizes_append ps0 [(f0, p0)]
          have := sizes_nonneg [(f0, p0)]
          (exact om73 hsz (by assumption) this)
        refine wpAny_execs_cons ?_
        refine wpAny_mono (Q := fun fl s' => match fl with
          | .next => ∃ m fv tfv its2 n2 ps2 hh2 tk2 i2 t2' ll2 nl2, m sSelf = some (.ref f) ∧ m sFws = some (Value.str fv tfv) ∧ m sPart = some (Value.str p0 t2) ∧ chunk W sp.cps.toList (lines, ps0, i) (f0, p0) = (ll2.map (·.1), ps2 ++ [(fv, p0)], i2) ∧ its2.size ≤ 1000 ∧ (∀ U, Value.ref U ∈ its2.toList → Value.ref U ∈ its.toList ∨ s.heap.objs.size ≤ U) ∧
              Cx w g [a, d, ls] s L m [(a, accObj d its2 n2), (d, accDict hh2 tk2 i2 t2'), (ls, listObj (strValues ll2).toArray nl2)] s' ∧ PairsAt s'.heap its2 ps2
          | _ => False) ?_ ?_ fun _ _ e => e
        · refine wpAny_mid fun P' hPm => ?_
          refine wpAny_If (wpAny_isTrue_Compare1 ?_)
          refine Attribute_any_ ?_
          refine fm_cur' c₁₄ hself₁ gf gfd fun s₁₅ c₁₅ e₁₅ => ?_
          refine acc_init c₁₅.X (accI (c₁₅.get (.head _)) (c₁₅.get (.tail _ (.head _)))) ?_
          have c₁₆ := c₁₅.ext (s' := { s₁₅ with toks := s₁₅.toks + 1 }) (fun _ _ e => e) rfl rfl
          refine c_intK c₁₆ fun s₁₇ t₁₇ c₁₇ e₁₇ => ?_
          have P₁₇ : PairsAt s₁₇.heap its0 ps0 := by rw [e₁₇]; show PairsAt s₁₅.heap its0 ps0; rw [e₁₅]; exact P₁₄
          refine gt_int (wpAny_truthy_bool ?_)
          by_cases hi0 : 0 < i
          · rw [decide_eq_true hi0, if_pos rfl]
            refine wpAny_execs_cons ?_
            refine wpAny_Expr ?_
            refine MethodCall_ ?_
            refine c_name c₁₇ hself₁ ?_
            refine fm_meth (q := 78) c₁₇.X (fmI (c₁₇.base gf) (c₁₇.base gfd)) ?_
            refine callWith_K0 (K := KK w) c₁₇.X (by kernel_rfl) ?_
            have hlast : ∀ q, ps0.getLast? = some q → q.2 ≠ ofL [] := fun q hq => hne q (List.mem_append_left _ (List.mem_of_getLast? hq))
            have hs0 := sizes_nonneg ps0
            refine newline_ok (lines := lines) c₁₇.ok r.deep.le ⟨lf, lfd, c₁₇.base gf, p, c₁₇.base gfd⟩ ⟨la, ld, c₁₇.get (.head _), hh, tk, t, c₁₇.get (.tail _ (.head _))⟩ P₁₇ ⟨lls, ll, nl, c₁₇.get (.tail _ (.tail _ (.head _))), hl⟩ hi hsz0 (by (exact om74 hlen hs1 hK hK1)) (by (exact om75 hll)) hlast (by (exact om76 hi hsz0 hi0 hs0)) (.inl (by (exact om77 hi hi0))) fun s₁₈ n₁₈ O₁₈ S₁₈ Y₁₈ L₁₈ => ?_
            obtain ⟨_, _, oa₁₈, hh', tk', t', od₁₈⟩ := Y₁₈
            obtain ⟨_, ll', nl', ols₁₈, hl'⟩ := L₁₈
            have na := (c₁₇.N (a, accObj d its0 n0) (.head _)).2
            have nd := (c₁₇.N (d, accDict hh tk i t) (.tail _ (.head _))).2
            have nls := (c₁₇.N (ls, listObj (strValues ll).toArray nl) (.tail _ (.tail _ (.head _)))).2
            have c₁₈ : Cx w g [a, d, ls] s L m₁₄ [(a, accObj d #[] n₁₈), (d, accDict hh' tk' 0 t'), (ls, listObj (strValues ll').toArray nl')] s₁₈ := c₁₇.call S₁₈ O₁₈ (fun x hx => by
                simp only [List.mem_cons, List.not_mem_nil, or_false] at hx
                rcases hx with rfl | rfl | rfl <;> assumption) (fun q hq => by
                simp only [List.mem_cons, List.not_mem_nil, or_false] at hq
                rcases hq with rfl | rfl | rfl
                · exact ⟨oa₁₈, na⟩
                · exact ⟨od₁₈, nd⟩
                · exact ⟨ols₁₈, nls⟩) (fun q hq => by
                simp only [List.mem_cons, List.not_mem_nil, or_false] at hq
                rcases hq with rfl | rfl | rfl <;> assumption)
            have hchunk : ∀ fv, fv = (if f0 = ofL [] then ofL [32] else f0) → chunk W sp.cps.toList (lines, ps0, i) (f0, p0) = (ll'.map (·.1), [] ++ [(fv, p0)], 0) := fun fv e => by
              unfold chunk
              rw [if_neg hW]
              simp only [hfind]
              rw [if_pos hi0, hl', e]
              rfl
            have hf0s : (f0.length : Int) ≤ 100000 := by
              have := sizes_append ps0 [(f0, p0)]
              have h2 : sizes [(f0, p0)] = (f0.length : Int) + p0.length := by simp [sizes, sizeOf']
              (exact om78 hsz hsz0 hs0 this h2)
            refine wpAny_execs_cons ?_
            refine wpAny_If ?_
            refine isTrue_not ?_
            refine isTrue_plain ?_
            refine c_name c₁₈ hfws ?_
            refine P.truthy_str (by lia) ?_
            have c₁₉ := c₁₈.ext (s' := { s₁₈ with toks := s₁₈.toks + 1 + 1 }) (fun _ _ e => e) rfl rfl
            by_cases hf0 : f0 = ofL []
            · have hl0 : (!((f0.length : Int) != 0)) = true := by rw [hf0]; rfl
              rw [hl0, if_pos rfl]
              refine wpAny_execs_cons ?_
              refine wpAny_Assign_Name ?_
              refine c_strK c₁₉ fun s₂₀ t₂₀ c₂₀ e₂₀ => ?_
              refine c_storeK c₂₀ fun s₂₁ c₂₁ k₂₁ => ?_
              refine wpAny_execs_nil ?_
              refine wpAny_execs_nil ?_
              refine hPm _ _ ?_
              refine ⟨_, ofL [32], t₂₀, #[], n₁₈, [], hh', tk', 0, t', ll', nl', ?_, ?_, ?_, hchunk _ (by rw [if_pos hf0]), by simp, (fun _ h => nomatch h), c₂₁, ⟨rfl, fun j q hq => by simp at hq⟩⟩
              · exact (if_neg (by decide)).trans hself₁
              · exact if_pos rfl
              · exact (if_neg (by decide)).trans hpart
            · have hl0 : (!((f0.length : Int) != 0)) = false := by
                have : f0.length ≠ 0 := fun e => hf0 (by
                  rw [← ofL_toList f0]
                  have : f0.cps.toList = [] := List.length_eq_zero_iff.mp (by rw [Array.length_toList]; exact e)
                  rw [this])
                rw [bne_iff_ne.mpr (show (f0.length : Int) ≠ 0 by (exact om62 this))]; rfl
              rw [hl0, if_neg (by decide)]
              refine wpAny_execs_nil ?_
              refine wpAny_execs_nil ?_
              refine hPm _ _ ?_
              exact ⟨m₁₄, f0, t1, #[], n₁₈, [], hh', tk', 0, t', ll', nl', hself₁, hfws, hpart, hchunk _ (by rw [if_neg hf0]), by simp, (fun _ h => nomatch h), c₁₉, ⟨rfl, fun j q hq => by simp at hq⟩⟩
          · rw [decide_eq_false hi0, if_neg (by decide)]
            refine wpAny_execs_nil ?_
            refine hPm _ _ ?_
            refine ⟨m₁₄, f0, t1, its0, n0, ps0, hh, tk, i, t, ll, nl, hself₁, hfws, hpart, ?_, by rw [P₁₇.size]; (exact om74 hlen hs1 hK hK1), (fun U hU => memT U (hmem _ hU)), c₁₇, P₁₇⟩
            unfold chunk
            rw [if_neg hW]
            simp only [hfind]
            rw [if_neg hi0, hl]
        · intro fl s₂₀ hmid
          match fl, hmid with
          | .next, hm =>
            obtain ⟨m₂, fv, tfv, its2, n2, ps2, hh2, tk2, i2, t2', ll2, nl2, hs2, hf2, hp2, hchunk, hsz2, hmem2, c₂₀, P₂₀⟩ := hm
            refine wpAny_execs_cons ?_
            refine wpAny_Expr ?_
            refine MethodCall_ ?_
            refine fm_cur' c₂₀ hs2 gf gfd fun s₂₁ c₂₁ e₂₁ => ?_
            refine acc_meth (f := 144) c₂₁.X (accI (c₂₁.get (.head _)) (c₂₁.get (.tail _ (.head _)))) ?_
            refine callWith_K (K := KK w) c₂₁.X (by kernel_rfl) ?_
            refine spliced_more (c_name c₂₁ hf2 (spliced_more (c_name c₂₁ hp2 (spliced_none ?_))))
            refine ⟨c₂₁.X, ?_⟩
            refine push_ok c₂₁.ok (show A.depth + 1 < recursionLimit from r.room 1) ⟨la, ld, c₂₁.get (.head _), hh2, tk2, t2', c₂₁.get (.tail _ (.head _))⟩ (by (exact om29 hsz2)) fun s₂₂ T₂ O₂₂ S₂₂ Y₂₂ eT₂ ltT₂ => ?_
            have S₂₁ := c₂₁.st
            refine wpAny_execs_cons (wpAny_Return_none ?_)
            refine hPo _ _ ?_
            refine h s₂₂ _ _ _ _ _ hchunk O₂₂ ((S₂₁.trans S₂₂).sub fun x hx => ?_) Y₂₂ ((PairsAt.st (s := s₂₁) (by rw [e₂₁]; exact P₂₀) S₂₂ fun b hb vs e => ?_).push ⟨T₂, tfv, t2, rfl, Nat.le_of_lt (Nat.lt_of_le_of_lt big (Nat.lt_trans c₂₁.lt ltT₂)), eT₂⟩) ⟨lls, ll2, nl2, S₂₂.keep ls _ (by simp [dls]) (not_tab lls) (c₂₁.get (.tail _ (.tail _ (.head _)))), rfl⟩ (fun U hU => by
              rw [Array.toList_push] at hU
              rcases List.mem_append.mp hU with h1 | h1
              · exact hmem2 U h1
              · rw [List.mem_singleton] at h1; cases h1; exact .inr (Nat.le_of_lt (Nat.lt_trans c₂₁.lt ltT₂)))
            · simp only [List.mem_append, List.mem_cons, List.not_mem_nil, or_false] at hx ⊢
              rcases hx with (rfl | rfl | rfl) | rfl <;> simp
            · rw [List.mem_singleton] at hb; subst hb; rw [c₂₁.get (.head _)] at e; cases e
    · intro fl s₇ hmid
      match fl, hmid with
      | .ret v, hm => exact hm
      | .next, hm =>
        obtain ⟨k, u, m, hfind, hk1, hk2, hself, hi', c₇⟩ := hm
        refine wpAny_execs_cons ?_
        refine wpAny_Assign_Name ?_
        refine MethodCall_ ?_
        refine fm_cur' c₇ hself gf gfd fun s₈ c₈ e₈ => ?_
        refine acc_meth (f := 152) c₈.X (accI (c₈.get (.tail _ (.head _))) (c₈.get (.tail _ (.tail _ (.head _))))) ?_
        refine callWith_K (K := KK w) c₈.X (by kernel_rfl) ?_
        refine spliced_more (c_name c₈ hi' (spliced_none ?_))
        refine ⟨c₈.X, ?_⟩
        have P₈ := Pc c₈
        refine pop_from_ok (k := k) c₈.ok (show A.depth + 1 < recursionLimit from r.room 1) (Yc c₈) (by (exact om80 hlen hs1 hK hK1)) (by (exact om81 hs1 hK hK1 hk2)) fun s₉ l n₉ O₉ S₉ Y₉ el ltl => ?_
        have hTa : T ≠ a := fun e => by
          have := c₈.get (.head _)
          rw [e, c₈.get (.tail _ (.head _))] at this; cases this
        have c₉ := (c₈.call1 (Upd.tail hTa (Upd.head (fun x hx => by
          cases hx with | head => exact hda | tail _ hx => cases hx with | head => exact dls | tail _ h => cases h))) S₉ O₉ Y₉.oa).new el (Nat.lt_trans c₈.lt ltl)
        have P₉ : PairsAt s₉.heap (its.push (.ref T)) (ps ++ [(f0, p0)]) := P₈.st S₉ fun b hb vs e => by
          rw [List.mem_singleton] at hb; subst hb; rw [c₈.get (.tail _ (.head _))] at e; cases e
        refine c_storeK c₉ fun s₁₀ c₁₀ k₁₀ => ?_
        have P₁₀ := c₉.pairs P₉ k₁₀
        have hself₁ : (fun y => if y = (Str.ofString "remainder") then some (Value.ref l) else m y) sSelf = some (.ref f) := (if_neg (by decide)).trans hself
        have hk3 : k ≤ (ps ++ [(f0, p0)]).length := by (exact om82 hs1 hK hK1 hk2)
        have hPt := P₁₀.take hk3
        have hst := sizes_take_le (ps ++ [(f0, p0)]) k
        have hls : (strValues ll).toArray.size = lines.length := by rw [← hl]; simp [strValues]
        refine wpAny_execs_cons ?_
        refine wpAny_Expr ?_
        refine MethodCall_ ?_
        refine fm_lines' c₁₀ hself₁ gf gfd fun s₁₁ c₁₁ e₁₁ => ?_
        refine getMethod_list_append (c₁₁.get (.tail _ (.tail _ (.tail _ (.tail _ (.head _)))))) rfl rfl ?_
        refine callWith_method1 ?_
        refine spliced_more ?_
        refine Call_ ?_
        refine c_built c₁₁ (v := .type "str") ?_ ?_ ?_ ?_
        · kernel_rfl
        · kernel_rfl
        · decide
        refine callWith_type_1 ?_
        refine fm_cur' c₁₁ hself₁ gf gfd fun s₁₂ c₁₂ e₁₂ => ?_
        have P₁₂ : PairsAt s₁₂.heap (its.push (.ref T)) (ps ++ [(f0, p0)]) := by rw [e₁₂, e₁₁]; exact P₁₀
        refine str_call (ps := (ps ++ [(f0, p0)]).take k) c₁₂.ok r.deep.le ⟨la, ld, c₁₂.get (.tail _ (.tail _ (.head _))), hh, tk, t, c₁₂.get (.tail _ (.tail _ (.tail _ (.head _))))⟩ (by rw [e₁₂, e₁₁]; exact hPt) (by (exact om83 hsz hst)) (by simp; (exact om84 hlen hs1 hK hK1 hk2)) fun s₁₃ t₁₃ O₁₃ S₁₃ => ?_
        have c₁₃ := c₁₂.call0 S₁₃ O₁₃
        have P₁₃ : PairsAt s₁₃.heap (its.push (.ref T)) (ps ++ [(f0, p0)]) := P₁₂.st S₁₃ fun _ h => nomatch h
        refine spliced_none ?_
        refine list_app (c₁₃.get (.tail _ (.tail _ (.tail _ (.tail _ (.head _)))))) (by (exact om51 hll hls)) fun s₁₄ hs₁₄ e₁₄ hg₁₄ ho₁₄ => ?_
        have hlls : l ≠ ls := fun e => by
          have := c₁₃.get (.head _)
          rw [e] at this
          have h2 := Heap.lt_size ols
          exact absurd h2 (by rw [← e]; exact Nat.not_lt.mpr (Nat.le_of_lt (Nat.lt_trans c₈.lt ltl)))
        have hTls : T ≠ ls := fun e => absurd (Heap.lt_size ols) (by rw [← e]; exact Nat.not_lt.mpr (Nat.le_of_lt (Nat.lt_trans c₂.lt ltT)))
        have c₁₄ := c₁₃.upd (Upd.tail hlls (Upd.tail hTls (Upd.tail (Ne.symm dls) (Upd.tail (Ne.symm dld) (Upd.head (fun _ h => nomatch h)))))) lls hs₁₄ e₁₄ hg₁₄ ho₁₄
        have P₁₄ : PairsAt s₁₄.heap (its.push (.ref T)) (ps ++ [(f0, p0)]) := P₁₃.high' fun b o vs e hb eo => hs₁₄.extBut b o (fun q => by
          rw [q] at eo
          have := c₁₃.get (.tail _ (.tail _ (.tail _ (.tail _ (.head _)))))
          rw [eo, e] at this
          have := congrArg (fun o => o.map Obj.cls) this; simp at this) eo
        refine wpAny_execs_cons ?_
        refine wpAny_Expr ?_
        refine MethodCall_ ?_
        refine fm_cur' c₁₄ hself₁ gf gfd fun s₁₅ c₁₅ e₁₅ => ?_
        refine acc_meth (f := 182) c₁₅.X (accI (c₁₅.get (.tail _ (.tail _ (.head _)))) (c₁₅.get (.tail _ (.tail _ (.tail _ (.head _)))))) ?_
        refine callWith_K (K := KK w) c₁₅.X (by kernel_rfl) ?_
        refine spliced_more (c_name c₁₅ (if_pos rfl) (spliced_none ?_))
        refine ⟨c₁₅.X, ?_⟩
        have P₁₅ : PairsAt s₁₅.heap (its.push (.ref T)) (ps ++ [(f0, p0)]) := by rw [e₁₅]; exact P₁₄
        have ll238 : (238 : Nat) ≤ l := Nat.le_of_lt (Nat.lt_of_le_of_lt big (Nat.lt_trans c₈.lt ltl))
        refine reset_ok c₁₅.ok (show A.depth + 1 < recursionLimit from r.room 1) ⟨la, ld, c₁₅.get (.tail _ (.tail _ (.head _))), hh, tk, t, c₁₅.get (.tail _ (.tail _ (.tail _ (.head _))))⟩ ll238 (c₁₅.get (.head _)) (by simp; (exact om85 hlen hs1 hK hK1 hk2)) fun s₁₆ n₁₆ O₁₆ S₁₆ Y₁₆ => ?_
        refine wpAny_execs_nil ?_
        refine wpAny_execs_nil ?_
        have S₁₅ := c₁₅.st
        have P₁₆ : PairsAt s₁₆.heap (its.push (.ref T)) (ps ++ [(f0, p0)]) := P₁₅.st S₁₆ fun b hb vs e => by
          simp only [List.mem_cons, List.not_mem_nil, or_false] at hb
          rcases hb with rfl | rfl
          · rw [c₁₅.get (.tail _ (.tail _ (.head _)))] at e; cases e
          · rw [c₁₅.get (.tail _ (.tail _ (.tail _ (.head _))))] at e; have := congrArg (fun o => o.map Obj.data) e; cases this
        refine h s₁₆ _ n₁₆ ((ps ++ [(f0, p0)]).drop k) 0 (lines ++ [ofL (flat ((ps ++ [(f0, p0)]).take k))]) ?_ O₁₆ ((S₁₅.trans S₁₆).sub fun x hx => ?_) Y₁₆ (P₁₆.drop hk3) ⟨lls, ll ++ [(ofL (flat ((ps ++ [(f0, p0)]).take k)), t₁₃)], nl + 1, S₁₆.keep ls _ (by simp [dls, dld]) (not_tab lls) ?_, ?_⟩ (fun U hU => memT U (by rw [Array.toList_extract] at hU; exact List.mem_of_mem_drop (List.mem_of_mem_take hU)))
        · unfold chunk
          rw [if_neg hW]
          simp only [hfind]
        · simp only [List.map_cons, List.map_nil, List.mem_append, List.mem_cons, List.not_mem_nil, or_false] at hx ⊢
          rcases hx with (rfl | rfl | rfl) | rfl | rfl <;> simp
        · have e := c₁₅.get (.tail _ (.tail _ (.tail _ (.tail _ (.head _)))))
          rw [e]
          simp [strValues]
        · simp [hl]
end
end Mine
end

section
open PySem PySem.W PySem.Calls PyProof.Rows
set_option maxRecDepth 100000
set_option maxHeartbeats 8000000
namespace Mine
section
variable {w : World} {A : Around} {E : Value → Shared → Prop} {s : Shared} {f fd ls a d : Addr} {W : Int} {ws sp : Str} {its : Array Value} {n : Nat} {i : Int} {ps : List (Str × Str)} {lines : List Str} {Q : Value → Shared → Prop}
theorem str2_ok {sep : Str} {ts : Tok} (O : Ok w s) (r : Rm A 10) (F : FmAt s.heap f fd ls a W ws sp) (Y : AccAt s.heap a d its n i) (Ps : PairsAt s.heap its ps) (Ls : LinesAt s.heap ls lines)
    (hi : 0 ≤ i ∧ i ≤ 1000) (hsz : sizes ps ≤ 100000) (hlen : ps.length ≤ 1000) (hll : lines.length ≤ 1000)
    (hlast : ∀ q, ps.getLast? = some q → q.2 ≠ ofL []) (hpos : 0 < i + sizes ps) (hws : i ≠ 0 ∨ Txt.isspace (ofL (flat ps)) = false) (hjoin : JoinOk sep (lines ++ [ofL (flat ps)]) = true)
    (h : ∀ s' t', Ok w s' → St [a, d, ls] s s' → Q (.str (Txt.join sep (lines ++ [ofL (flat ps)])) t') s') :
    wpAny (model PG w) A (call (.ref 64) [.ref f, .str sep ts]) Q E s := by
  obtain ⟨la, ld, oa, hh, tk, t, od⟩ := Y
  obtain ⟨lf, lfd, of, p, ofd⟩ := F
  obtain ⟨lls, ll, nl, ols, hl⟩ := Ls
  obtain ⟨dls, dld, fa, fd', fls, da, dd, dl, hda⟩ := fm_ne oa od of ofd ols
  refine c_enter (binds := [("self", .ref f), ("linesep", .str sep ts)]) [(a, accObj d its n), (d, accDict hh tk i t), (ls, listObj (strValues ll).toArray nl)] O r.room (own3 la oa ld od lls ols) fun g L s₁ c => ?_
  have gf : g.get? f = some (instObj 116 fd) := c.B.all f _ (by simp [fa, fd', fls]) (not_tab lf) of
  have gfd : g.get? fd = some (fmDict p W ws sp ls a) := c.B.all fd _ (by simp [da, dd, dl]) (not_tab lfd) ofd
  have Pg : PairsAt g its ps := pairs_g (p := p) c.B (fun x hx => by simpa using hx) oa od ols Ps
  refine wpAny_execs_cons ?_
  refine wpAny_Expr ?_
  refine MethodCall_ ?_
  refine c_name c rfl ?_
  refine fm_meth (q := 78) c.X (fmI (c.base gf) (c.base gfd)) ?_
  refine callWith_K0 (K := KK w) c.X (by kernel_rfl) ?_
  refine newline_ok (lines := lines) c.ok r.deep.le ⟨lf, lfd, c.base gf, p, c.base gfd⟩ ⟨la, ld, c.get (.head _), hh, tk, t, c.get (.tail _ (.head _))⟩ (Pg.keeps fun b o e => c.base e) ⟨lls, ll, nl, c.get (.tail _ (.tail _ (.head _))), hl⟩ hi hsz hlen hll hlast hpos hws fun s₂ n₂ O₂ S₂ Y₂ L₂ => ?_
  obtain ⟨_, _, oa₂, hh', tk', t', od₂⟩ := Y₂
  obtain ⟨_, ll', nl', ols₂, hl'⟩ := L₂
  have na := (c.N (a, accObj d its n) (.head _)).2
  have nd := (c.N (d, accDict hh tk i t) (.tail _ (.head _))).2
  have nls := (c.N (ls, listObj (strValues ll).toArray nl) (.tail _ (.tail _ (.head _)))).2
  have c₂ := c.call (news' := [(a, accObj d #[] n₂), (d, accDict hh' tk' 0 t'), (ls, listObj (strValues ll').toArray nl')]) S₂ O₂ (fun x hx => by
      simp only [List.mem_cons, List.not_mem_nil, or_false] at hx
      rcases hx with rfl | rfl | rfl <;> assumption) (fun q hq => by
      simp only [List.mem_cons, List.not_mem_nil, or_false] at hq
      rcases hq with rfl | rfl | rfl
      · exact ⟨oa₂, na⟩
      · exact ⟨od₂, nd⟩
      · exact ⟨ols₂, nls⟩) (fun q hq => by
      simp only [List.mem_cons, List.not_mem_nil, or_false] at hq
      rcases hq with rfl | rfl | rfl <;> assumption)
  refine wpAny_execs_cons ?_
  refine wpAny_Return_some ?_
  refine MethodCall_ ?_
  refine c_name c₂ rfl ?_
  refine GM.join ?_
  refine callWith_method1 ?_
  refine spliced_more ?_
  refine fm_lines' c₂ rfl gf gfd fun s₃ c₃ e₃ => ?_
  refine spliced_none ?_
  refine SC.join (l := ll') ⟨_, c₃.get (.tail _ (.tail _ (.head _))), rfl, _, rfl⟩ hl' hjoin fun t'' k => ?_
  have c₄ := c₃.ext (s' := { s₃ with toks := k }) (fun _ _ e => e) rfl rfl
  exact h _ _ c₄.ok c₄.st
end
end Mine
end

section
open PySem PySem.W PySem.Calls PyProof.Rows
set_option maxRecDepth 100000
set_option maxHeartbeats 8000000
namespace Mine
section
variable {w : World} {A : Around} {E : Value → Shared → Prop} {s : Shared} {f fd : Addr} {es es' : List DictEntry} {k k' : Nat}
theorem fm_setAttr {name : Str} {v : Value} {Q : Unit → Shared → Prop} (X : (KK w).In s.heap) (hx : s.heap.get? f = some (instObj 116 fd)) (hd : s.heap.get? fd = some (dictOf es k)) (hl : (lookIn name (dictOf es k)).isSome = true)
    (e : Obj.putName name (PyData.keyHash w.params name) (.str name (s.toks + 1)) v (dictOf es k) = dictOf es' k') (hz : es'.length ≤ 1000)
    (h : ∀ s', Heap.SameBut fd s.heap s'.heap → s'.heap.get? fd = some (dictOf es' k') → s'.gens = s.gens → s'.os = s.os → Q () s') (ht : takerIn (KK w) 116 name = some none := by kernel_rfl) :
    wpAny (model PG w) A (setAttr (.ref f) name v) Q E s := by
  have I : InstAt s.heap f (instObj 116 fd) 116 (some (dictOf es k)) := ⟨hx, rfl, rfl, hd⟩
  refine set_plain (K := KK w) X I (by kernel_rfl) ?_
  refine osa_open (K := KK w) (s := { s with toks := s.toks + 1 }) X I (by kernel_rfl) ht fun b => ?_
  have hcd : (clsIn (KK w) 116).map (·.hasDict) = some true := by kernel_rfl
  obtain ⟨hp, g, dd, tt, os⟩ := s
  cases hc : clsIn (KK w) 116 with
  | none => rw [hc] at hcd; cases hcd
  | some cd =>
    rw [hc] at hcd
    have hd' : cd.hasDict = true := Option.some.inj hcd
    have D' := Heap.get?_update_self (h := hp) (Obj.putName name (PyData.keyHash w.params name) (.str name (tt + 1)) v) hd (by rw [e]; rfl)
    dsimp only
    refine wpAny_bind (wpAny_pure (wpAny_bind (wpAny_bind (wpAny_loadPart hx (wpAny_bind ((looks_clsIn X hc).at ?_))))))
    rw [hd']
    refine wpAny_pure (a := some fd) (wpAny_bind (wpAny_pure (wpAny_bind ?_)))
    unfold nsSet
    refine wpAny_bind (wpAny_bind (wpAny_askSetting (wpAny_pure (wpAny_bind (wpAny_mkText (wpAny_bind (wpAny_loadPart hd ?_)))))))
    have c : (!es.toArray.any (·.key.isStr name) && es.toArray.any (·.refKey)) = false := by
      unfold lookIn at hl
      dsimp only at hl
      rw [← Array.any_toList, ← Array.any_toList]
      split at hl
      · rename_i en he
        rw [List.any_eq_true.mpr ⟨en, List.mem_of_find?_eq_some he, List.find?_some he⟩]; rfl
      · split at hl
        · cases hl
        · rename_i z; rw [Bool.not_eq_true] at z; rw [z, Bool.and_false]
    dsimp only
    rw [aRefKeyMayBeTheName_at, c]
    refine wpAny_updatePart hd ?_
    rw [e] at D'
    refine wpAny_bind (wpAny_lookBehind D' (pastItsLine_dict (by rw [List.size_toArray, sizeLine_eq]; (exact om86 hz))) ?_)
    exact wpAny_pure (h _ (Heap.SameBut.update ..) D' rfl rfl)
end
end Mine
end

section
open PySem PySem.W PySem.Calls PyProof.Rows
set_option maxRecDepth 100000
set_option maxHeartbeats 8000000
namespace Mine
section
variable {w : World} {A : Around} {s : Shared} {f fd : Addr} {R : Result → Shared → Prop} {W i : Int} {ws sp : Str} {t1 t2 t3 t4 : Tok}
theorem finit_ok (O : Ok w s) (r : Rm A 8) (lf : (238 : Nat) ≤ f) (lfd : (238 : Nat) ≤ fd) (hne : fd ≠ f) (of : s.heap.get? f = some (instObj 116 fd)) (ofd : s.heap.get? fd = some emptyDict) (hw : ws.length ≤ 1000)
    (h : ∀ s' ls a d n, Ok w s' → St [fd] s s' → FmAt s'.heap f fd ls a W ws sp → AccAt s'.heap a d #[] n i → LinesAt s'.heap ls [] → (s.heap.objs.size : Nat) ≤ ls → (s.heap.objs.size : Nat) ≤ a → (s.heap.objs.size : Nat) ≤ d → R (.ok (.ret .none)) s') :
    codeAny (model PG w) A (.call (.ref 57) ⟨[.ref f, .int i t1, .int W t2, .str ws t3, .str sp t4], []⟩) R s := by
  refine c_enterC (binds := [("self", .ref f), ("headerlen", .int i t1), ("maxlen", .int W t2), ("continuation_ws", .str ws t3), ("splitchars", .str sp t4)]) [(fd, emptyDict)] O r.room (own1 lfd ofd) fun g L s₁ c => ?_
  have gf : g.get? f = some (instObj 116 fd) := c.B.all f _ (by simp [Ne.symm hne]) (not_tab lf) of
  refine wpAny_execs_cons (plainObj_wpAny_Assign_Attribute (c_name c rfl (c_name c rfl ?_)))
  refine fm_setAttr (es := []) (k := 0) c.X (c.base gf) (c.get (.head _)) rfl rfl (by simp) fun s₂ hs₂ e₂ hg₂ ho₂ => ?_
  have c₂ := c.upd (Upd.head (fun _ h => nomatch h)) lfd hs₂ e₂ hg₂ ho₂
  refine wpAny_execs_cons (plainObj_wpAny_Assign_Attribute (c_name c₂ rfl (c_name c₂ rfl ?_)))
  refine fm_setAttr c₂.X (c₂.base gf) (c₂.get (.head _)) rfl rfl (by simp) fun s₃ hs₃ e₃ hg₃ ho₃ => ?_
  have c₃ := c₂.upd (Upd.head (fun _ h => nomatch h)) lfd hs₃ e₃ hg₃ ho₃
  refine wpAny_execs_cons ?_
  refine plainObj_wpAny_Assign_Attribute ?_
  refine Call_ ?_
  refine c_built c₃ (v := .builtin "len") ?_ ?_ ?_ ?_
  · kernel_rfl
  · kernel_rfl
  · decide
  refine PyProof.Rows.callWith_builtin1 (spliced_more (c_name c₃ rfl (spliced_none ?_)))
  refine P.len_str (by lia) ?_
  have c₄ := c₃.ext (s' := { s₃ with toks := s₃.toks + 1 + 1 }) (fun _ _ e => e) rfl rfl
  refine c_name c₄ rfl ?_
  refine fm_setAttr (s := { s₃ with toks := s₃.toks + 1 + 1 }) c₄.X (c₄.base gf) (c₄.get (.head _)) rfl rfl (by simp) fun s₅ hs₅ e₅ hg₅ ho₅ => ?_
  have c₅ := c₄.upd (Upd.head (fun _ h => nomatch h)) lfd hs₅ e₅ hg₅ ho₅
  refine wpAny_execs_cons (plainObj_wpAny_Assign_Attribute (c_name c₅ rfl (c_name c₅ rfl ?_)))
  refine fm_setAttr c₅.X (c₅.base gf) (c₅.get (.head _)) rfl rfl (by simp) fun s₆ hs₆ e₆ hg₆ ho₆ => ?_
  have c₆ := c₅.upd (Upd.head (fun _ h => nomatch h)) lfd hs₆ e₆ hg₆ ho₆
  refine wpAny_execs_cons ?_
  refine plainObj_wpAny_Assign_Attribute ?_
  refine List_ (spliced_none (c_list c₆ fun s₇ ls c₇ hls => ?_))
  have big : (238 : Nat) ≤ s.heap.objs.size := (base_of (own := []) O.gd no_own).2
  have lls : (s.heap.objs.size : Nat) < ls := hls ▸ c₆.lt
  have lsfd : ls ≠ fd := fun e => absurd (Heap.lt_size ofd) (by rw [← e]; exact Nat.lt_asymm lls)
  refine c_name c₇ rfl ?_
  refine fm_setAttr c₇.X (c₇.base gf) (c₇.get (.tail _ (.head _))) rfl rfl (by simp) fun s₈ hs₈ e₈ hg₈ ho₈ => ?_
  have c₈ := c₇.upd (Upd.tail lsfd (Upd.head (fun _ h => nomatch h))) lfd hs₈ e₈ hg₈ ho₈
  refine wpAny_execs_cons ?_
  refine plainObj_wpAny_Assign_Attribute ?_
  refine Call_ ?_
  refine c_glob c₈ (v := .ref 200) ?_ ?_
  · kernel_rfl
  refine callWith_K (K := KK w) c₈.X (by kernel_rfl) ?_
  refine spliced_more (c_name c₈ rfl (spliced_none ?_))
  refine ⟨c₈.X, ?_⟩
  refine make_ok c₈.ok r.deep.le fun s₉ a d n O₉ S₉ Y₉ la ld => ?_
  have c₉ := c₈.call0 S₉ O₉
  have afd : a ≠ fd := fun e => absurd (Heap.lt_size ofd) (by rw [← e]; exact Nat.not_lt.mpr (Nat.le_of_lt (Nat.lt_of_lt_of_le c₈.lt la)))
  have dfd : d ≠ fd := fun e => absurd (Heap.lt_size ofd) (by rw [← e]; exact Nat.not_lt.mpr (Nat.le_of_lt (Nat.lt_of_lt_of_le c₈.lt ld)))
  refine c_name c₉ rfl ?_
  refine fm_setAttr c₉.X (c₉.base gf) (c₉.get (.tail _ (.head _))) rfl rfl (by simp) fun s₁₀ hs₁₀ e₁₀ hg₁₀ ho₁₀ => ?_
  have c₁₀ := c₉.upd (Upd.tail lsfd (Upd.head (fun _ h => nomatch h))) lfd hs₁₀ e₁₀ hg₁₀ ho₁₀
  refine wpAny_execs_nil ?_
  obtain ⟨la', ld', oa, hh, tk, t, od⟩ := Y₉
  refine h s₁₀ ls a d n c₁₀.ok c₁₀.st ⟨lf, lfd, c₁₀.base gf, ⟨_, _, _, _, _, _, _, _, _, _, _, _, _, _, _, _⟩, e₁₀⟩ ⟨la', ld', hs₁₀.extBut a _ afd oa, hh, tk, t, hs₁₀.extBut d _ dfd od⟩ ⟨Nat.le_of_lt (Nat.lt_of_le_of_lt big lls), [], 0, c₁₀.get (.head _), rfl⟩ (Nat.le_of_lt lls) (Nat.le_trans (Nat.le_of_lt c₈.lt) la) (Nat.le_trans (Nat.le_of_lt c₈.lt) ld)
end
end Mine
end

section
open PySem PySem.W PySem.Calls PyProof.Rows
set_option maxRecDepth 100000
set_option maxHeartbeats 8000000
namespace Mine
section
variable {w : World} {A : Around} {E : Value → Shared → Prop} {s : Shared} {Q : Value → Shared → Prop} {W i : Int} {ws sp : Str} {t1 t2 t3 t4 : Tok}
theorem rm_under {k : Nat} {C : Addr} {vals : List Value} (r : Rm A (k + 1)) : Rm (A.under (.builtin "type.__call__" ⟨.ref C :: vals, []⟩)) k :=
  ⟨r.hd, by have := r.dp; show A.depth + 1 + k < _; (exact om16 this), by have := r.un; first | (show A.units + 3 + 5 * k < _; omega) | (show A.units + 2 + 5 * k < _; omega) | (show A.units + 4 + 5 * k < _; omega) | (show A.units + 5 + 5 * k < _; omega) | (show A.units + 1 + 5 * k < _; (exact om18 this))⟩
theorem fmake_ok (O : Ok w s) (r : Rm A 9) (hw : ws.length ≤ 1000)
    (h : ∀ s' f fd ls a d n, Ok w s' → St [] s s' → FmAt s'.heap f fd ls a W ws sp → AccAt s'.heap a d #[] n i → LinesAt s'.heap ls [] → (s.heap.objs.size : Nat) ≤ f → (s.heap.objs.size : Nat) ≤ fd → (s.heap.objs.size : Nat) ≤ ls → (s.heap.objs.size : Nat) ≤ a → (s.heap.objs.size : Nat) ≤ d → Q (.ref f) s') :
    wpAny (model PG w) A (call (.ref 116) [.int i t1, .int W t2, .str ws t3, .str sp t4]) Q E s := by
  obtain ⟨hp, g, dd, tt, os⟩ := s
  have big : (238 : Nat) ≤ hp.objs.size := (base_of (own := []) O.gd no_own).2
  refine wpAny_call (make_core (C := 116) (makes_of (K := KK w) O.gd.X (by kernel_rfl)) (looks_findIn O.gd.X (r := some (.ref 57)) (by kernel_rfl)) (fun self => bind_fn O.gd.X self (by kernel_rfl)) (.inl rfl) ?_)
  have hx : ((hp.push emptyDict).push (instObj 116 hp.objs.size)).get? (hp.objs.size + 1) = some (instObj 116 hp.objs.size) := by heap_get
  have hd : ((hp.push emptyDict).push (instObj 116 hp.objs.size)).get? hp.objs.size = some emptyDict := by heap_get
  have k : ∀ b o, hp.get? b = some o → ((hp.push emptyDict).push (instObj 116 hp.objs.size)).get? b = some o := fun b o e => Heap.get?_push_of_some _ (Heap.get?_push_of_some _ e)
  have O₁ : Ok w ⟨(hp.push emptyDict).push (instObj 116 hp.objs.size), g, dd, tt, os⟩ := ⟨O.gd.keeps k, O.tabs.keeps fun b o _ e => k b o e, O.bare⟩
  have hz : hp.objs.size ≤ ((hp.push emptyDict).push (instObj 116 hp.objs.size)).objs.size := by
    rw [Heap.size_push, Heap.size_push]
    exact Nat.le_succ_of_le (Nat.le_succ _)
  refine finit_ok O₁ (rm_under r) (Nat.le_succ_of_le big) big (Nat.ne_of_lt (Nat.lt_succ_self _)) hx hd hw fun s' ls a d n O' S' F' Y' L' gl ga gd => ⟨rfl, ?_⟩
  refine h s' _ _ ls a d n O' ⟨fun b o _ ht e => S'.keep b o ?_ ht (k b o e), Nat.le_trans ?_ S'.grow, S'.os⟩ F' Y' L' (Nat.le_succ _) (Nat.le_refl _) (Nat.le_trans hz gl) (Nat.le_trans hz ga) (Nat.le_trans hz gd)
  · intro q
    rw [List.mem_singleton] at q
    exact absurd (Heap.lt_size e) (by rw [q]; exact Nat.lt_irrefl _)
  · show hp.objs.size ≤ ((hp.push emptyDict).push (instObj 116 hp.objs.size)).objs.size
    rw [Heap.size_push, Heap.size_push]
    exact Nat.le_succ_of_le (Nat.le_succ _)
end
end Mine
end

section
namespace Mine
noncomputable def isW (c : Nat) : Bool := c == 32 || c == 9
end Mine
end

section
open PySem PySem.W PySem.Calls PyProof.Rows
set_option maxRecDepth 100000
set_option maxHeartbeats 8000000
namespace Mine
open PySem.Sre
noncomputable abbrev rxCode : Array Nat := #[14, 4, 0, 1, 4294967295, 17, 0, 24, 11, 1, 4294967295, 13, 6, 16, 32, 16, 9, 0, 1, 17, 1, 1]
theorem acc_rx (c : Nat) (σ : Sre.Seen) : ∃ σ', accepts rxCode 11 c σ = .ok (isW c, σ') := by
  unfold accepts
  show ∃ σ', inSet rxCode c 22 13 true σ = _
  unfold inSet
  show ∃ σ', (if c == 32 then Except.ok (true, _) else inSet rxCode c 21 15 true _) = _
  unfold isW
  cases h1 : (c == 32) with
  | true => exact ⟨_, rfl⟩
  | false =>
    simp only [Bool.false_eq_true, if_false, Bool.false_or]
    unfold inSet
    show ∃ σ', (if c == 9 then Except.ok (true, _) else inSet rxCode c 20 17 true _) = _
    cases h2 : (c == 9) with
    | true => exact ⟨_, rfl⟩
    | false => exact ⟨_, rfl⟩
noncomputable def whites (text : Array Nat) : Nat → Nat → Nat
  | 0, _ => 0
  | n + 1, p => if isW (text.getD p 0) then whites text n (p + 1) + 1 else 0
theorem run_rx (text : Array Nat) : ∀ n p found σ, ∃ σ', Sre.run rxCode text 11 n p found σ = .ok (found + whites text n p, σ')
  | 0, p, found, σ => ⟨σ, rfl⟩
  | n + 1, p, found, σ => by
    obtain ⟨σ', e⟩ := acc_rx (text.getD p 0) σ
    unfold Sre.run whites
    rw [e]
    cases h : isW (text.getD p 0) with
    | true =>
      obtain ⟨σ'', e'⟩ := run_rx text n (p + 1) (found + 1) σ'
      refine ⟨σ'', ?_⟩
      show Sre.run rxCode text 11 n (p + 1) (found + 1) σ' = _
      rw [e', if_pos rfl]
      congr 2; (exact om88)
    | false => exact ⟨σ', rfl⟩
end Mine
end

section
open PySem PySem.W PySem.Calls PyProof.Rows
set_option maxRecDepth 100000
set_option maxHeartbeats 8000000
namespace Mine
open PySem.Sre
noncomputable def rxAt (text : Array Nat) (s : Nat) (x y : Option Nat) (first : Bool) (σ : Sre.Seen) : Sre.M :=
  { code := rxCode, text, lim := text.size, start := s, lastStart := text.size, pc := 5, pos := s, handed := s, outermost := first, marks := #[x, y], frames := [{ wait := .nextStart, pc := 5, pos := s, outermost := first }], weight := 1, seen := σ }
theorem step_mark (text : Array Nat) (s : Nat) (x y : Option Nat) (first : Bool) (σ : Sre.Seen) :
    ∃ σ', (rxAt text s x y first σ).step = { rxAt text s (some s) y first σ' with lastmark := 0, pc := 7 } := ⟨_, rfl⟩
theorem step_next (text : Array Nat) (s : Nat) (x y : Option Nat) (first : Bool) (σ : Sre.Seen) (hs : s < text.size) (hw : isW (text.getD s 0) = false) :
    ∃ σ', (rxAt text s x y first σ).step.step.step = rxAt text (s + 1) (some s) y false σ' := by
  obtain ⟨σ₁, e₁⟩ := step_mark text s x y first σ
  rw [e₁]
  obtain ⟨n, hn⟩ : ∃ n, min 4294967295 (((text.size : Int) - s).toNat) = n + 1 := ⟨min 4294967295 (((text.size : Int) - s).toNat) - 1, by (exact om89 hs)⟩
  have hroom : ¬ ((1 : Nat) : Int) > (text.size : Int) - s := by (exact om90 hs)
  obtain ⟨σ₂, e₂⟩ := run_rx text (n + 1) s 0 ((σ₁.add 24).add 13)
  have hw0 : whites text (n + 1) s = 0 := by unfold whites; rw [hw]; rfl
  rw [hw0] at e₂
  have h2 : ({ rxAt text s (some s) y first σ₁ with lastmark := 0, pc := 7 } : Sre.M).step = { rxAt text s (some s) y first σ₂ with lastmark := 0, pc := 7, answer := some false } := by
    show (if ((1 : Nat) : Int) > (text.size : Int) - s then _ else _) = _
    rw [if_neg hroom]
    show (match Sre.run rxCode text 11 (min 4294967295 (((text.size : Int) - s).toNat)) s 0 ((σ₁.add 24).add 13) with | .error why => _ | .ok (n, seen) => _) = _
    rw [hn, e₂]
    rfl
  rw [h2]
  refine ⟨σ₂, ?_⟩
  show (if s < text.size then _ else _) = _
  rw [if_pos hs]
  rfl
theorem step_end (text : Array Nat) (x y : Option Nat) (first : Bool) (σ : Sre.Seen) :
    ((rxAt text text.size x y first σ).step.step.step.step).outcome = some .failed := by
  obtain ⟨σ₁, e₁⟩ := step_mark text text.size x y first σ
  rw [e₁]
  have hroom : ((1 : Nat) : Int) > (text.size : Int) - (text.size : Nat) := by (exact om91)
  have h2 : ({ rxAt text text.size (some text.size) y first σ₁ with lastmark := 0, pc := 7 } : Sre.M).step = { rxAt text text.size (some text.size) y first (σ₁.add 24) with lastmark := 0, pc := 7, answer := some false } := by
    show (if ((1 : Nat) : Int) > (text.size : Int) - (text.size : Nat) then _ else _) = _
    rw [if_pos hroom]
    rfl
  rw [h2]
  have h3 : ({ rxAt text text.size (some text.size) y first (σ₁.add 24) with lastmark := 0, pc := 7, answer := some false } : Sre.M).step = { rxAt text text.size (some text.size) y first (σ₁.add 24) with lastmark := 0, answer := some false, frames := [], weight := 0 } := by
    show (if text.size < text.size then _ else _) = _
    rw [if_neg (Nat.lt_irrefl _)]
    rfl
  rw [h3]
  rfl
end Mine
end

section
open PySem PySem.W PySem.Calls PyProof.Rows
set_option maxRecDepth 100000
set_option maxHeartbeats 8000000
namespace Mine
open PySem.Sre
noncomputable def rxFr (s : Nat) (first : Bool) : List Sre.Frame := [{ wait := .nextStart, pc := 5, pos := s, outermost := first }]
noncomputable def rxGb (s k : Nat) (first : Bool) : Sre.Frame := { wait := .giveBack, pc := 7, pos := s + k, outermost := first, count := k, kept := { lastmark := 0, lastindex := -1, whole := false, marks := #[] } }
noncomputable def rxRun (text : Array Nat) (s k : Nat) (y : Option Nat) (first : Bool) (σ : Sre.Seen) : Sre.M :=
  { code := rxCode, text, lim := text.size, start := s, lastStart := text.size, pc := 19, pos := s + k, handed := s + k, outermost := first, marks := #[some s, y], lastmark := 0, frames := rxGb s k first :: rxFr s first, weight := 2, seen := σ }
noncomputable def rxTwo (text : Array Nat) (s k : Nat) (first : Bool) (σ : Sre.Seen) : Sre.M :=
  { code := rxCode, text, lim := text.size, start := s, lastStart := text.size, pc := 21, pos := s + k, handed := s + k, outermost := first, marks := #[some s, some (s + k)], lastmark := 1, lastindex := 1, frames := rxGb s k first :: rxFr s first, weight := 2, seen := σ }
theorem step_run (text : Array Nat) (s : Nat) (y : Option Nat) (first : Bool) (σ : Sre.Seen) (hs : s < text.size) (hw : isW (text.getD s 0) = true) :
    ∃ σ', ({ rxAt text s (some s) y first σ with lastmark := 0, pc := 7 } : Sre.M).step = rxRun text s (whites text (min 4294967295 (text.size - s)) s) y first σ' := by
  have hnn : (((text.size : Int) - s).toNat) = text.size - s := by (exact om92 hs)
  have hroom : ¬ ((1 : Nat) : Int) > (text.size : Int) - s := by (exact om90 hs)
  obtain ⟨σ₂, e₂⟩ := run_rx text (min 4294967295 (text.size - s)) s 0 ((σ.add 24).add 13)
  have hpos : 1 ≤ whites text (min 4294967295 (text.size - s)) s := by
    obtain ⟨n, hn⟩ : ∃ n, min 4294967295 (text.size - s) = n + 1 := ⟨min 4294967295 (text.size - s) - 1, by (exact om93 hs)⟩
    rw [hn]; unfold whites; rw [hw]; simp
  generalize whites text (min 4294967295 (text.size - s)) s = k at *
  rw [Nat.zero_add] at e₂
  refine ⟨σ₂, ?_⟩
  show (if ((1 : Nat) : Int) > (text.size : Int) - s then _ else _) = _
  rw [if_neg hroom]
  show (match Sre.run rxCode text 11 (min 4294967295 (((text.size : Int) - s).toNat)) s 0 ((σ.add 24).add 13) with | .error why => _ | .ok (n, seen) => _) = _
  rw [hnn, e₂]
  show (if k < 1 then _ else _) = _
  rw [if_neg (by (exact Nat.not_lt.mpr (by assumption)))]
  rfl
theorem step_two (text : Array Nat) (s k : Nat) (y : Option Nat) (first : Bool) (σ : Sre.Seen) : ∃ σ', (rxRun text s k y first σ).step = rxTwo text s k first σ' := ⟨σ.add 17, by kernel_rfl⟩
theorem step_suc (text : Array Nat) (s k : Nat) (first : Bool) (σ : Sre.Seen) : ∃ σ', (rxTwo text s k first σ).step = { rxTwo text s k first σ' with answer := some true } := by
  cases first <;> exact ⟨_, rfl⟩
theorem step_gb (text : Array Nat) (s k : Nat) (first : Bool) (σ : Sre.Seen) : ({ rxTwo text s k first σ with answer := some true } : Sre.M).step = { rxTwo text s k first σ with answer := some true, frames := rxFr s first, weight := 1, pc := 7 } := rfl
theorem step_ns (text : Array Nat) (s k : Nat) (first : Bool) (σ : Sre.Seen) : ({ rxTwo text s k first σ with answer := some true, frames := rxFr s first, weight := 1, pc := 7 } : Sre.M).step = { rxTwo text s k first σ with answer := some true, frames := [], weight := 0, pc := 5, pos := s } := rfl
theorem step_fin (text : Array Nat) (s k : Nat) (first : Bool) (σ : Sre.Seen) : ({ rxTwo text s k first σ with answer := some true, frames := [], weight := 0, pc := 5, pos := s } : Sre.M).step = { rxTwo text s k first σ with answer := some true, frames := [], weight := 0, pc := 5, pos := s, outcome := some .matched } := rfl
theorem step_hit (text : Array Nat) (s : Nat) (x y : Option Nat) (first : Bool) (σ : Sre.Seen) (hs : s < text.size) (hw : isW (text.getD s 0) = true) :
    ∃ σ', (rxAt text s x y first σ).step.step.step.step.step.step.step = { rxTwo text s (whites text (min 4294967295 (text.size - s)) s) first σ' with answer := some true, frames := [], weight := 0, pc := 5, pos := s, outcome := some .matched } := by
  obtain ⟨σ₁, e₁⟩ := step_mark text s x y first σ
  obtain ⟨σ₂, e₂⟩ := step_run text s y first σ₁ hs hw
  obtain ⟨σ₃, e₃⟩ := step_two text s (whites text (min 4294967295 (text.size - s)) s) y first σ₂
  obtain ⟨σ₄, e₄⟩ := step_suc text s (whites text (min 4294967295 (text.size - s)) s) first σ₃
  rw [e₁, e₂, e₃, e₄, step_gb, step_ns, step_fin]
  exact ⟨_, rfl⟩
end Mine
end

section
open PySem PySem.W PySem.Calls PyProof.Rows
set_option maxRecDepth 100000
set_option maxHeartbeats 8000000
namespace Mine
open PySem.Sre PySem.Builtin.Re
noncomputable def stepsOf : Nat → Sre.M → Sre.M
  | 0, m => m
  | n + 1, m => stepsOf n m.step
theorem step_over {m : Sre.M} (h : m.outcome.isSome = true) : m.step = m := by
  unfold Sre.M.step; rw [if_pos h]
theorem steps_over {m : Sre.M} (h : m.outcome.isSome = true) : ∀ n, stepsOf n m = m
  | 0 => rfl
  | n + 1 => by show stepsOf n m.step = m; rw [step_over h]; exact steps_over h n
theorem steps_add (m : Sre.M) : ∀ a b, stepsOf (a + b) m = stepsOf b (stepsOf a m) := by
  intro a
  induction a generalizing m with
  | zero => intro b; rw [Nat.zero_add]; rfl
  | succ a ih => intro b; rw [Nat.succ_add]; exact ih m.step b
theorem runFor_steps : ∀ (n : Nat) (m : Sre.M), m.runFor n = stepsOf n m
  | 0, _ => rfl
  | n + 1, m => by
    show (if m.outcome.isSome then m else Sre.M.runFor n m.step) = stepsOf n m.step
    cases h : m.outcome.isSome with
    | true => rw [if_pos rfl, step_over h, steps_over h]
    | false => rw [if_neg (by decide)]; exact runFor_steps n m.step
theorem drive_ok {M : Model} {A : Around} {E : Value → Shared → Prop} {s : Shared} {Q : Sre.M → Shared → Prop} : ∀ (turns n : Nat) (m : Sre.M), 1 ≤ turns → n ≤ 4 * turns → (stepsOf n m).outcome.isSome = true → Q (stepsOf n m) s →
    wpAny M A (reDrive turns m) Q E s
  | 0, _, _, h, _, _, _ => absurd h (by decide)
  | turns + 1, n, m, _, hn, ho, hq => by
    show wpAny M A (if (m.runFor 4).outcome.isSome then pure (m.runFor 4) else _) Q E s
    rw [runFor_steps]
    cases h4 : (stepsOf 4 m).outcome.isSome with
    | true =>
      rw [if_pos rfl]
      refine wpAny_pure ?_
      rcases Nat.le_total n 4 with h | h
      · have e : stepsOf 4 m = stepsOf n m := by
          rw [show 4 = n + (4 - n) by (exact om385 h), steps_add, steps_over ho]
        rw [e]; exact hq
      · have e : stepsOf n m = stepsOf 4 m := by
          rw [show n = 4 + (n - 4) by (exact om386 h), steps_add, steps_over h4]
        rw [← e]; exact hq
    | false =>
      rw [if_neg (by decide)]
      have hn4 : 4 < n := by
        rcases Nat.lt_or_ge 4 n with h | h
        · exact h
        · have e : stepsOf 4 m = stepsOf n m := by
            rw [show 4 = n + (4 - n) by (exact om387 h), steps_add, steps_over ho]
          rw [e, ho] at h4; cases h4
      have e : stepsOf n m = stepsOf (n - 4) (stepsOf 4 m) := by rw [← steps_add, show 4 + (n - 4) = n by (exact om388 hn4)]
      rw [e] at ho hq
      refine wpAny_bind (wpAny_rule ?_)
      have e4 : m.runFor reTurnSteps = stepsOf 4 m := runFor_steps 4 m
      rw [e4]
      exact drive_ok turns (n - 4) (stepsOf 4 m) (by (exact om389 (by assumption) hn hn4)) (by (exact om390 hn hn4)) ho hq
theorem seen_loop {M : Model} {A : Around} {E : Value → Shared → Prop} {s : Shared} {Q : PUnit → Shared → Prop} (σ : Sre.Seen) (f : Nat → String) (l : List Nat) (h : Q ⟨⟩ s) :
    wpAny M A (forIn l PUnit.unit fun i _ => if σ.has i = true then do rule (f i); pure (ForInStep.yield PUnit.unit) else pure (ForInStep.yield PUnit.unit)) Q E s := by
  refine wpAny_forIn_list _ (fun _ _ s' => s' = s) Q (fun x rest b s' e => ?_) (fun b s' e => ?_) l _ rfl
  · subst e
    split
    · exact wpAny_bind (wpAny_rule (wpAny_pure rfl))
    · exact wpAny_pure rfl
  · subst e; exact h
theorem run_end {M : Model} {A : Around} {E : Value → Shared → Prop} {s : Shared} {Q : Option Sre.M → Shared → Prop} {m m' : Sre.M} (n : Nat) (hn : n ≤ 4 * 2 ^ 64) (he : stepsOf n m = m')
    (h : (m'.outcome = some .matched ∧ Q (some m') s) ∨ (m'.outcome = some .failed ∧ Q none s)) : wpAny M A (reRunToEnd m) Q E s := by
  have ho : (stepsOf n m).outcome.isSome = true := by rw [he]; rcases h with h | h <;> rw [h.1] <;> rfl
  refine wpAny_bind (drive_ok (2 ^ 64) n m (by decide) hn ho ?_)
  rw [he]
  refine wpAny_bind (seen_loop _ _ _ ?_)
  rcases h with h | h
  · rw [h.1]; exact wpAny_pure h.2
  · rw [h.1]; exact wpAny_pure h.2
noncomputable def nextW (text : Array Nat) : Nat → Nat → Option Nat
  | 0, _ => none
  | n + 1, p => if isW (text.getD p 0) then some p else nextW text n (p + 1)
theorem search_at (text : Array Nat) : ∀ (n s : Nat) (x y : Option Nat) (first : Bool) (σ : Sre.Seen), s + n = text.size →
    match nextW text n s with
    | some p => s ≤ p ∧ p < text.size ∧ ∃ k σ' f', k ≤ 3 * n + 7 ∧ stepsOf k (rxAt text s x y first σ) = { rxTwo text p (whites text (min 4294967295 (text.size - p)) p) f' σ' with answer := some true, frames := [], weight := 0, pc := 5, pos := p, outcome := some .matched }
    | none => ∃ k m', k ≤ 3 * n + 7 ∧ stepsOf k (rxAt text s x y first σ) = m' ∧ m'.outcome = some .failed
  | 0, s, x, y, first, σ, h => by
    have : s = text.size := by assumption
    subst this
    exact ⟨4, _, by (exact om391), rfl, step_end text x y first σ⟩
  | n + 1, s, x, y, first, σ, h => by
    unfold nextW
    cases hw : isW (text.getD s 0) with
    | true =>
      rw [if_pos rfl]
      obtain ⟨σ', e⟩ := step_hit text s x y first σ (by (exact om392 h)) hw
      exact ⟨Nat.le_refl _, by (exact om392 h), 7, σ', first, by (exact om393), e⟩
    | false =>
      rw [if_neg (by decide)]
      obtain ⟨σ', e⟩ := step_next text s x y first σ (by (exact om392 h)) hw
      have ih := search_at text n (s + 1) (some s) y false σ' (by (exact om394 h))
      cases hf : nextW text n (s + 1) with
      | none =>
        rw [hf] at ih
        obtain ⟨k, m', hk, hm, ho⟩ := ih
        refine ⟨3 + k, m', by (exact om395 hk), ?_, ho⟩
        rw [steps_add]
        show stepsOf k (rxAt text s x y first σ).step.step.step = _
        rw [e]; exact hm
      | some p =>
        rw [hf] at ih
        obtain ⟨h1, h2, k, σ'', f', hk, hm⟩ := ih
        refine ⟨by (exact Nat.le_of_lt (by assumption)), h2, 3 + k, σ'', f', by (exact om395 hk), ?_⟩
        rw [steps_add]
        show stepsOf k (rxAt text s x y first σ).step.step.step = _
        rw [e]; exact hm
theorem search_start (text : Array Nat) (s : Nat) (h : s < text.size) : ∃ σ, forSearch rxCode text 1 s text.size false = rxAt text s none none true σ := by
  refine ⟨({} : Sre.Seen).add 14, ?_⟩
  unfold forSearch
  show (if (decide (s > text.size) || decide (text.size - s < 1)) = true then _ else _) = _
  rw [if_neg (by simp; (exact om396 h))]
  rfl
theorem search_none (text : Array Nat) (s : Nat) (h : text.size ≤ s) : (forSearch rxCode text 1 s text.size false).step.outcome = some .failed := by
  unfold forSearch
  show (if (decide (s > text.size) || decide (text.size - s < 1)) = true then _ else _ : Sre.M).step.outcome = _
  rw [if_pos (by simp; (exact om397 h))]
  rfl
structure Found (text : Array Nat) (p : Nat) (m : Sre.M) : Prop where
  start : m.start = p
  handed : m.handed = p + whites text (min 4294967295 (text.size - p)) p
  marks : m.marks = #[some p, some (p + whites text (min 4294967295 (text.size - p)) p)]
  last : m.lastmark = 1
theorem next_found {M : Model} {A : Around} {E : Value → Shared → Prop} {s : Shared} {Q : Option Sre.M → Shared → Prop} {t : ReTarget} {start : Nat} (hc : t.code = rxCode) (hg : t.groups = 1) (hl : t.lim = t.text.size) (hsz : t.text.size ≤ 1000000)
    (h1 : nextW t.text (t.text.size - start) start = none → Q none s) (h2 : ∀ p m, nextW t.text (t.text.size - start) start = some p → start ≤ p → p < t.text.size → Found t.text p m → Q (some m) s) :
    wpAny M A (reNextFound t start false) Q E s := by
  show wpAny M A (reRunToEnd (forSearch t.code t.text t.groups start t.lim false)) Q E s
  rw [hc, hg, hl]
  rcases Nat.lt_or_ge start t.text.size with h | h
  · obtain ⟨σ, e⟩ := search_start t.text start h
    rw [e]
    have z := search_at t.text (t.text.size - start) start none none true σ (by (exact om398 h))
    cases hf : nextW t.text (t.text.size - start) start with
    | none =>
      rw [hf] at z
      obtain ⟨k, m', hk, hm, ho⟩ := z
      exact run_end k (by lia) hm (.inr ⟨ho, h1 hf⟩)
    | some p =>
      rw [hf] at z
      obtain ⟨a1, a2, k, σ', f', hk, hm⟩ := z
      exact run_end k (by lia) hm (.inl ⟨rfl, h2 p _ hf a1 a2 ⟨rfl, rfl, rfl, rfl⟩⟩)
  · refine run_end 1 (by decide) rfl (.inr ⟨search_none t.text start h, h1 ?_⟩)
    rw [show t.text.size - start = 0 by (exact om401 h)]; rfl
end Mine
end

section
open PySem
set_option maxRecDepth 100000
set_option maxHeartbeats 8000000
namespace Mine
noncomputable def segs : List Nat → List (List Nat)
  | [] => [[]]
  | c :: l => if isW c then (match segs l with
      | [[]] => [[], [c], []]
      | [] :: w :: r => [] :: (c :: w) :: r
      | rest => [] :: [c] :: rest)
    else match segs l with
      | [] => [[c]]
      | s0 :: rest => (c :: s0) :: rest
noncomputable def pairs : List Nat → List (List Nat × List Nat)
  | [] => []
  | c :: l => if isW c then (match pairs l with
      | [] => [([c], [])]
      | (w, n) :: r => (c :: w, n) :: r)
    else match pairs l with
      | [] => [([], [c])]
      | ([], n) :: r => ([], c :: n) :: r
      | (w, n) :: r => ([], [c]) :: (w, n) :: r
noncomputable def flatP : List (List Nat × List Nat) → List (List Nat)
  | [] => []
  | (w, n) :: r => w :: n :: flatP r
noncomputable def fixS : List (List Nat) → List (List Nat)
  | [] => []
  | [] :: rest => rest
  | s0 :: rest => [] :: s0 :: rest
theorem segs_shape (l : List Nat) : ∃ s0 rest, segs l = s0 :: rest ∧ (∀ w r, rest = w :: r → w ≠ []) ∧ (rest = [] ∨ ∃ w n r, rest = w :: n :: r) ∧ (s0 = [] → rest = [] → l = []) := by
  induction l with
  | nil => exact ⟨[], [], rfl, (by intro w r h; cases h), .inl rfl, fun _ _ => rfl⟩
  | cons c l ih =>
    obtain ⟨s0, rest, e, h, h2, h3⟩ := ih
    unfold segs
    rw [e]
    cases hc : isW c with
    | true =>
      rw [if_pos rfl]
      cases s0 with
      | nil =>
        rcases h2 with rfl | ⟨w, n, r, rfl⟩
        · exact ⟨_, _, rfl, (by intro w r e; cases e; exact List.cons_ne_nil _ _), .inr ⟨_, _, _, rfl⟩, by intro _ e; cases e⟩
        · exact ⟨_, _, rfl, (by intro w r e; cases e; exact List.cons_ne_nil _ _), .inr ⟨_, _, _, rfl⟩, by intro _ e; cases e⟩
      | cons x s0 => exact ⟨_, _, rfl, (by intro w r e; cases e; exact List.cons_ne_nil _ _), .inr ⟨_, _, _, rfl⟩, by intro _ e; cases e⟩
    | false =>
      rw [if_neg (by decide)]
      exact ⟨_, _, rfl, h, h2, by intro e; cases e⟩
theorem pairs_nil {l : List Nat} (h : pairs l = []) : l = [] := by
  cases l with
  | nil => rfl
  | cons c l =>
    unfold pairs at h
    split at h
    · split at h <;> cases h
    · split at h <;> cases h
theorem flat_pairs (l : List Nat) : flatP (pairs l) = fixS (segs l) := by
  induction l with
  | nil => rfl
  | cons c l ih =>
    obtain ⟨s0, rest, e, h, h2, h3⟩ := segs_shape l
    unfold pairs segs
    rw [e] at ih ⊢
    cases hc : isW c with
    | true =>
      rw [if_pos rfl, if_pos rfl]
      cases hp : pairs l with
      | nil =>
        have := pairs_nil hp
        subst this
        cases e
        rfl
      | cons p r =>
        obtain ⟨w, n⟩ := p
        rw [hp] at ih
        cases s0 with
        | nil =>
          rcases h2 with rfl | ⟨w', n', r', rfl⟩
          · exact absurd (h3 rfl rfl) (by rintro rfl; cases hp)
          · have ih : w :: n :: flatP r = w' :: n' :: r' := ih
            injection ih with e1 e2
            subst e1
            show (c :: w) :: n :: flatP r = (c :: w) :: n' :: r'
            rw [e2]
        | cons x s0 =>
          have ih : w :: n :: flatP r = [] :: (x :: s0) :: rest := ih
          injection ih with e1 e2
          subst e1
          show [c] :: n :: flatP r = [c] :: (x :: s0) :: rest
          rw [e2]
    | false =>
      rw [if_neg (by decide), if_neg (by decide)]
      cases hp : pairs l with
      | nil =>
        have := pairs_nil hp
        subst this
        cases e
        rfl
      | cons p r =>
        obtain ⟨w, n⟩ := p
        rw [hp] at ih
        cases s0 with
        | nil =>
          rcases h2 with rfl | ⟨w', n', r', rfl⟩
          · exact absurd (h3 rfl rfl) (by rintro rfl; cases hp)
          · have ih : w :: n :: flatP r = w' :: n' :: r' := ih
            injection ih with e1 e2
            subst e1
            have hw := h _ _ rfl
            cases w with
            | nil => exact absurd rfl hw
            | cons y w =>
              show [] :: [c] :: (y :: w) :: n :: flatP r = [] :: [c] :: (y :: w) :: n' :: r'
              rw [e2]
        | cons x s0 =>
          have ih : w :: n :: flatP r = [] :: (x :: s0) :: rest := ih
          injection ih with e1 e2
          subst e1
          injection e2 with e2 e3
          show [] :: (c :: n) :: flatP r = [] :: (c :: x :: s0) :: rest
          rw [e2, e3]
theorem segs_non {b : List Nat} {s0 : List Nat} {rest : List (List Nat)} (e : segs b = s0 :: rest) : ∀ a : List Nat, (∀ c ∈ a, isW c = false) → segs (a ++ b) = (a ++ s0) :: rest
  | [], _ => e
  | c :: a, h => by
    have ih := segs_non e a fun x hx => h x (List.mem_cons_of_mem _ hx)
    show segs (c :: (a ++ b)) = _
    unfold segs
    rw [h c List.mem_cons_self, ih]
    rfl
theorem segs_ws {b : List Nat} (hb : ∀ d r, b = d :: r → isW d = false) : ∀ w : List Nat, w ≠ [] → (∀ c ∈ w, isW c = true) → segs (w ++ b) = [] :: w :: segs b
  | [], h, _ => absurd rfl h
  | [c], _, h => by
    show segs (c :: b) = _
    rw [segs, h c List.mem_cons_self, if_pos rfl]
    cases b with
    | nil => rfl
    | cons d r =>
      obtain ⟨s0, rest, e, _⟩ := segs_shape r
      have hd := hb d r rfl
      have e' : segs (d :: r) = (d :: s0) :: rest := by rw [segs, hd, e]; rfl
      rw [e']
  | c :: c' :: w, _, h => by
    have ih := segs_ws hb (c' :: w) (List.cons_ne_nil _ _) fun x hx => h x (List.mem_cons_of_mem _ hx)
    show segs (c :: (c' :: w ++ b)) = _
    rw [segs, h c List.mem_cons_self, ih]
    rfl
theorem segs_step {a w b : List Nat} (ha : ∀ c ∈ a, isW c = false) (hw0 : w ≠ []) (hw : ∀ c ∈ w, isW c = true) (hb : ∀ d r, b = d :: r → isW d = false) : segs (a ++ (w ++ b)) = a :: w :: segs b := by
  rw [segs_non (segs_ws hb w hw0 hw) a ha, List.append_nil]
theorem segs_last {a : List Nat} (ha : ∀ c ∈ a, isW c = false) : segs a = [a] := by
  have := segs_non (b := []) (s0 := []) (rest := []) rfl a ha
  simpa using this
noncomputable def cut (l : List Nat) (i j : Nat) : List Nat := (l.drop i).take (j - i)
theorem mem_cut {l : List Nat} {i j c : Nat} (h : c ∈ cut l i j) : ∃ t, i ≤ t ∧ t < j ∧ l[t]? = some c := by
  unfold cut at h
  obtain ⟨k, hk, e⟩ := List.mem_iff_getElem.mp h
  rw [List.length_take, List.length_drop] at hk
  refine ⟨i + k, by (exact om402 (by assumption)), by (exact om403 (by assumption) hk), ?_⟩
  rw [← e, List.getElem_take, List.getElem_drop]
  exact List.getElem?_eq_getElem _
theorem cut_parts {l : List Nat} {i j k : Nat} (h1 : i ≤ j) (h2 : j ≤ k) : l.drop i = cut l i j ++ (cut l j k ++ l.drop k) := by
  unfold cut
  have a : l.drop j = (l.drop i).drop (j - i) := by rw [List.drop_drop]; congr 1; (exact om404 h1)
  have b : l.drop k = (l.drop j).drop (k - j) := by rw [List.drop_drop]; congr 1; (exact om404 h2)
  rw [b, List.take_append_drop, a, List.take_append_drop]
theorem extract_cut (t : Array Nat) (i j : Nat) : t.extract i j = (cut t.toList i j).toArray := by
  unfold cut
  apply Array.ext'
  rw [Array.toList_extract]
theorem getD_of {t : Array Nat} {p c : Nat} (h : t.toList[p]? = some c) : t.getD p 0 = c := by
  rw [Array.getElem?_toList] at h
  rw [Array.getD_eq_getD_getElem?, h]; rfl
end Mine
end

section
open PySem PySem.W PySem.Calls PyProof.Rows
set_option maxRecDepth 100000
set_option maxHeartbeats 8000000
namespace Mine
open PySem.Sre PySem.Builtin.Re
theorem nextW_some {text : Array Nat} : ∀ {n p q : Nat}, nextW text n p = some q → p ≤ q ∧ q < p + n ∧ isW (text.getD q 0) = true ∧ ∀ j, p ≤ j → j < q → isW (text.getD j 0) = false
  | 0, p, q, h => by cases h
  | n + 1, p, q, h => by
    unfold nextW at h
    cases hw : isW (text.getD p 0) with
    | true => rw [hw, if_pos rfl] at h; cases h; exact ⟨Nat.le_refl _, by (exact om237), hw, fun j h1 h2 => absurd h1 (by (exact Nat.not_le.mpr (by assumption)))⟩
    | false =>
      rw [hw, if_neg (by decide)] at h
      obtain ⟨a, b, c, d⟩ := nextW_some h
      refine ⟨by (exact Nat.le_of_lt (by assumption)), by (exact om238 b), c, fun j h1 h2 => ?_⟩
      rcases Nat.lt_or_ge p j with h3 | h3
      · exact d j h3 h2
      · have : j = p := by (exact om239 h1 h3)
        rw [this]; exact hw
theorem nextW_none {text : Array Nat} : ∀ {n p : Nat}, nextW text n p = none → ∀ j, p ≤ j → j < p + n → isW (text.getD j 0) = false
  | 0, p, _, j, h1, h2 => absurd h1 (by (exact Nat.not_le.mpr (by assumption)))
  | n + 1, p, h, j, h1, h2 => by
    unfold nextW at h
    cases hw : isW (text.getD p 0) with
    | true => rw [hw, if_pos rfl] at h; cases h
    | false =>
      rw [hw, if_neg (by decide)] at h
      rcases Nat.lt_or_ge p j with h3 | h3
      · exact nextW_none h j h3 (by (exact om240 h2))
      · have : j = p := by (exact om239 h1 h3)
        rw [this]; exact hw
theorem whites_spec {text : Array Nat} : ∀ (n p : Nat), whites text n p ≤ n ∧ (∀ j, p ≤ j → j < p + whites text n p → isW (text.getD j 0) = true) ∧ (whites text n p < n → isW (text.getD (p + whites text n p) 0) = false)
  | 0, p => ⟨Nat.le_refl _, fun j h1 h2 => absurd h1 (by unfold whites at h2; omega), fun h => absurd h (by (exact om405 h))⟩
  | n + 1, p => by
    unfold whites
    cases hw : isW (text.getD p 0) with
    | true =>
      rw [if_pos rfl]
      obtain ⟨a, b, c⟩ := whites_spec (text := text) n (p + 1)
      refine ⟨by (exact Nat.lt_succ_of_le (by assumption)), fun j h1 h2 => ?_, fun h => ?_⟩
      · rcases Nat.lt_or_ge p j with h3 | h3
        · exact b j h3 (by (exact om240 h2))
        · have : j = p := by (exact om239 h1 h3)
          rw [this]; exact hw
      · rw [show p + (whites text n (p + 1) + 1) = p + 1 + whites text n (p + 1) by (exact om210)]; exact c (by (exact om209 h))
    | false =>
      rw [if_neg (by decide)]
      exact ⟨by (exact Nat.zero_le _), fun j h1 h2 => absurd h1 (by omega), fun _ => hw⟩
theorem lt_of_get {l : List Nat} {t c : Nat} (h : l[t]? = some c) : t < l.length := (List.getElem?_eq_some_iff.mp h).1
theorem segs_turn {text : Array Nat} {last p k : Nat} (hsz : text.size ≤ 1000000) (hn : nextW text (text.size - last) last = some p) (hk : k = whites text (min 4294967295 (text.size - p)) p) :
    last ≤ p ∧ p + k ≤ text.size ∧ p < p + k ∧ segs (text.toList.drop last) = cut text.toList last p :: cut text.toList p (p + k) :: segs (text.toList.drop (p + k)) := by
  obtain ⟨a, b, c, d⟩ := nextW_some hn
  have hm : min 4294967295 (text.size - p) = text.size - p := by (exact om406 hsz a)
  rw [hm] at hk
  obtain ⟨e, f, g⟩ := whites_spec (text := text) (text.size - p) p
  rw [← hk] at e f g
  have hk1 : 1 ≤ k := by
    rcases Nat.lt_or_ge 0 k with h | h
    · exact h
    · have h0 : k = 0 := by (exact om407 hk h)
      rw [h0, Nat.add_zero] at g
      rw [c] at g
      exact absurd (g (by lia)) (by decide)
  refine ⟨a, by lia, by (exact om408 hk hk1), ?_⟩
  rw [cut_parts a (show p ≤ p + k by (exact om409 hk hk1))]
  refine segs_step (fun x hx => ?_) (fun h => ?_) (fun x hx => ?_) (fun x r hx => ?_)
  · obtain ⟨t, h1, h2, h3⟩ := mem_cut hx
    have := d t h1 h2
    rwa [getD_of h3] at this
  · have : (cut text.toList p (p + k)).length = 0 := by rw [h]; rfl
    unfold cut at this
    rw [List.length_take, List.length_drop, Array.length_toList] at this
    (exact om410 hk e hk1 this)
  · obtain ⟨t, h1, h2, h3⟩ := mem_cut hx
    have := f t h1 h2
    rwa [getD_of h3] at this
  · have hx' : text.toList[p + k]? = some x := by
      have := congrArg List.head? hx
      rw [List.head?_drop] at this
      exact this
    have := lt_of_get hx'
    rw [Array.length_toList] at this
    have := g (by lia)
    rwa [getD_of hx'] at this
theorem segs_over {text : Array Nat} {last : Nat} (hn : nextW text (text.size - last) last = none) : segs (text.toList.drop last) = [text.toList.drop last] := by
  refine segs_last fun c hc => ?_
  obtain ⟨k, hk, e⟩ := List.mem_iff_getElem.mp hc
  rw [List.length_drop, Array.length_toList] at hk
  have e' : text.toList[last + k]? = some c := by
    rw [← e, List.getElem_drop]
    exact List.getElem?_eq_getElem _
  have := nextW_none hn (last + k) (by (exact om402 (by assumption))) (by (exact om411 (by assumption) hk))
  rwa [getD_of e'] at this
end Mine
end

section
open PySem PySem.W PySem.Calls PyProof.Rows
set_option maxRecDepth 100000
set_option maxHeartbeats 8000000
namespace Mine
open PySem.Sre PySem.Builtin.Re
theorem slot_split : Slot "re.Pattern" "split" "re.Pattern.split" :=
  .of (owner := "re.Pattern") (n := "split") (by rw [typeLookup_type, builtinLookup_eq_fast]; kernel_rfl) (by decide +kernel) (by decide +kernel) (by decide +kernel)
    (by first | exact .inl (by decide +kernel) | exact .inr (by decide +kernel)) (by rw [isSubtype_type]; kernel_rfl)
theorem type_split : typeOf (.builtin "re.Pattern.split") = pure (.type "method_descriptor") := by show builtinType _ = _; rw [builtinType_eq_fast]; kernel_rfl
theorem entry_split : entryFor table "re.Pattern.split" = some Builtin.«re.Pattern.split» := entryFor_of_tree (by kernel_rfl)
theorem args_split (a b : Value) : argsOk "re.Pattern.split" ⟨[a, b], []⟩ := by unfold argsOk; kernel_rfl
theorem plain_rx : PlainAttrs "re.Pattern" :=
  ⟨⟨"object.__getattribute__", by rw [typeLookup_type, builtinLookup_eq_fast]; kernel_rfl, by decide +kernel⟩, by rw [typeLookup_type, builtinLookup_eq_fast]; kernel_rfl⟩
theorem named_split {M : Model} {A : Around} {E : Value → Shared → Prop} {s : Shared} {v : Value} {Q : List (Option Value) → Shared → Prop} (h : Q [some v, none] s) :
    wpAny M A (reNamed "re.Pattern.split" "split" ["string", "maxsplit"] 1 [v] []) Q E s := wpAny_of_eq rfl h
theorem extract_ofL (text : Array Nat) (b e : Nat) : (⟨text.extract b e⟩ : Str) = ofL (cut text.toList b e) := by unfold ofL; rw [extract_cut]
theorem slice_ok {M : Model} {A : Around} {E : Value → Shared → Prop} {s : Shared} {text : Array Nat} {b e : Nat} {Q : Value → Shared → Prop} (hsz : text.size ≤ 1000000)
    (h : Q (.str (ofL (cut text.toList b e)) s.toks) { s with toks := s.toks + 1 }) : wpAny M A (reSlice text 0 b e) Q E s := by
  show wpAny M A (mkStr ⟨text.extract b e⟩) Q E s
  rw [extract_ofL]
  refine wpAny_mkStr h ?_
  rw [ofL_len]
  unfold cut
  rw [List.length_take, List.length_drop, Array.length_toList]
  have : 1000000 ≤ sizeLine := by decide
  (exact om412 hsz this)
theorem segs_length (l : List Nat) : (segs l).length ≤ 2 * l.length + 1 := by
  induction l with
  | nil => exact Nat.le_refl _
  | cons c l ih =>
    rw [segs]
    split
    · split
      · simp; (exact om413)
      · rename_i e; rw [e] at ih; simp only [List.length_cons] at ih ⊢; (exact om414 ih)
      · simp only [List.length_cons] at ih ⊢; (exact om415 ih)
    · split
      · simp
      · rename_i e; rw [e] at ih; simp only [List.length_cons] at ih ⊢; (exact om416 ih)
noncomputable def SplitInv (text : Array Nat) (s₀ : Shared) (rest : List Nat) (st : Array Value × Nat × Nat × Bool × Int × Bool) (s : Shared) : Prop :=
  (∃ tk, s = { s₀ with toks := tk }) ∧ ∃ ll, st.1 = (strValues ll).toArray ∧ st.2.1 = st.2.2.1 ∧ st.2.2.1 ≤ text.size ∧ st.2.2.2.1 = false ∧
    (if st.2.2.2.2.2 then ll.map (·.1) ++ [ofL (text.toList.drop st.2.2.1)] = (segs text.toList).map ofL
     else ll.map (·.1) ++ (segs (text.toList.drop st.2.2.1)).map ofL = (segs text.toList).map ofL ∧ text.size < rest.length + st.2.2.1)
theorem split_body {w : World} {A : Around} {E : Value → Shared → Prop} {s : Shared} {x : Str} {tk : Tok} {Q : Value → Shared → Prop} (X : (KK w).In s.heap) (hx : x.length ≤ 100000)
    (h : ∀ ll a tk', ll.map (·.1) = (segs x.cps.toList).map ofL → a = s.heap.objs.size → Q (.ref a) { s with heap := s.heap.push (listObj (strValues ll).toArray 0), toks := tk' }) :
    wpAny (model PG w) A (Builtin.«re.Pattern.split» ⟨[.ref 43, .str x tk], []⟩) (fun fin s' => ∃ v, fin = .done (.ret v) ∧ Q v s') E s := by
  unfold Builtin.«re.Pattern.split»
  refine wpAny_bind (named_split ?_)
  refine wpAny_bind (wpAny_pure ?_)
  have g43 : s.heap.get? 43 = some (hdz.zo_63 w.params) := X _ _ (kk_of (by rfl) (by rfl))
  have g42 : s.heap.get? 42 = some (hdz.zo_62 w.params) := X _ _ (kk_of (by rfl) (by rfl))
  have tgt : ∀ {Q : ReTarget → Shared → Prop}, Q { pattern := .ref 43, string := .str x tk, code := rxCode, text := x.cps, kind := 0, groups := 1, pos := 0, lim := x.cps.size } s → wpAny (model PG w) A (reWholeTarget (.ref 43) (.str x tk)) Q E s := by
    intro Q q
    have hq : ∀ c g, c = rxCode → g = 1 → Q { pattern := .ref 43, string := .str x tk, code := c, text := x.cps, kind := 0, groups := g, pos := 0, lim := x.cps.size } s := by rintro _ _ rfl rfl; exact q
    unfold reWholeTarget
    refine wpAny_bind (wpAny_fieldsOf g43 rfl ?_)
    refine wpAny_bind (wpAny_pure ?_)
    refine wpAny_bind (wpAny_pure ?_)
    refine wpAny_bind ?_
    refine wpAny_bind (wpAny_seqItems g42 rfl ?_)
    exact wpAny_pure (wpAny_pure (hq _ _ (by kernel_rfl) (by kernel_rfl)))
  refine wpAny_bind (tgt ?_)
  have hsz : x.cps.size ≤ 1000000 := Nat.le_trans hx (by decide)
  refine wpAny_bind (wpAny_forIn_list _ (SplitInv x.cps s) _ (fun i rest st s' hi => ?_) (fun st s' hi => ?_) _ _ ?_)
  · obtain ⟨out, start, last, must, n, over⟩ := st
    obtain ⟨⟨tk', rfl⟩, ll, e1, e2, e3, e4, e5⟩ := hi
    dsimp only at e1 e2 e3 e4 e5
    subst e2 e4 e1
    dsimp only
    cases over with
    | true =>
      rw [if_neg (by decide)]
      exact wpAny_pure ⟨⟨tk', rfl⟩, ll, rfl, rfl, e3, rfl, e5⟩
    | false =>
      rw [if_neg (by decide)] at e5
      rw [if_pos (by decide), if_neg (by simp)]
      refine wpAny_bind (next_found rfl rfl rfl hsz (fun hn => ?_) fun p m hn h1 h2 F => ?_)
      · refine wpAny_pure ⟨⟨tk', rfl⟩, ll, rfl, rfl, e3, rfl, ?_⟩
        rw [if_pos rfl]
        have := e5.1
        rw [segs_over hn] at this
        exact this
      · obtain ⟨b1, b2, b3, b4⟩ := segs_turn hsz hn rfl
        have hk := F.handed
        have hst := F.start
        dsimp only at b1 b2 b3 b4 hk hst ⊢
        rw [← hk] at b2 b3 b4
        rw [← hst] at b1 b3 b4
        refine wpAny_bind (slice_ok hsz ?_)
        have grp : ∀ {Q : Value → Shared → Prop} {s : Shared}, Q (.str (ofL (cut x.cps.toList m.start m.handed)) s.toks) { s with toks := s.toks + 1 } → wpAny (model PG w) A (reMachineGroup { pattern := .ref 43, string := .str x tk, code := rxCode, text := x.cps, kind := 0, groups := 1, pos := 0, lim := x.cps.size } m (0 + 1) (pure .none)) Q E s := by
          intro Q s q
          unfold reMachineGroup
          rw [F.last, F.marks, if_neg (by decide)]
          show wpAny _ _ (if p + whites x.cps (min 4294967295 (x.cps.size - p)) p < p then _ else _) _ _ _
          rw [if_neg (by (exact om417 b3 hk hst))]
          refine slice_ok hsz ?_
          rw [F.start, F.handed] at q
          exact q
        show wpAny _ _ (forIn [0] _ _ >>= _) _ _ _
        rw [List.forIn_cons]
        refine wpAny_bind (wpAny_bind (wpAny_bind (grp (wpAny_pure ?_))))
        dsimp only
        rw [List.forIn_nil]
        refine wpAny_pure (wpAny_pure ⟨⟨_, rfl⟩, ll ++ [(ofL (cut x.cps.toList start m.start), tk'), (ofL (cut x.cps.toList m.start m.handed), tk' + 1)], ?_, rfl, b2, ?_, ?_⟩)
        · simp [strValues]
        · show (m.handed == m.start) = false
          simp; (exact Nat.ne_of_gt (by assumption))
        · rw [if_neg (show ¬ false = true by decide)]
          refine ⟨?_, ?_⟩
          · have := e5.1
            rw [b4] at this
            simpa using this
          · have := e5.2
            rw [List.length_cons] at this
            show x.cps.size < rest.length + m.handed
            (exact om418 b1 b3 hk hst this)
  · obtain ⟨out, start, last, must, n, over⟩ := st
    obtain ⟨⟨tk', rfl⟩, ll, e1, e2, e3, e4, e5⟩ := hi
    dsimp only at e1 e2 e3 e4 e5
    subst e2 e4 e1
    dsimp only
    cases over with
    | false => rw [if_neg (by decide)] at e5; exact absurd e5.2 (by simp; assumption)
    | true =>
      rw [if_pos rfl] at e5
      rw [if_neg (by decide)]
      refine wpAny_bind (slice_ok hsz ?_)
      have hc : cut x.cps.toList start x.cps.size = x.cps.toList.drop start := by
        unfold cut
        rw [List.take_of_length_le (by rw [List.length_drop, Array.length_toList]; exact Nat.le_refl _)]
      have hv : (((strValues ll).toArray.push (Value.str (ofL (cut x.cps.toList start x.cps.size)) tk')).toList) = strValues (ll ++ [(ofL (cut x.cps.toList start x.cps.size), tk')]) := by simp [strValues]
      have hlen : (ll ++ [(ofL (cut x.cps.toList start x.cps.size), tk')]).map (·.1) = (segs x.cps.toList).map ofL := by rw [hc, List.map_append]; exact e5
      show wpAny _ _ (newList ((strValues ll).toArray.push (Value.str (ofL (cut x.cps.toList start x.cps.size)) tk')).toList >>= _) _ _ _
      rw [hv]
      refine wpAny_bind (wpAny_newObj_type (wpAny_pure ⟨_, rfl, h _ _ _ hlen rfl⟩) ?_)
      have hl := congrArg List.length hlen
      rw [List.length_map, List.length_map] at hl
      have hs : (segs x.cps.toList).length ≤ 2 * x.cps.size + 1 := segs_length x.cps.toList
      have hx' : x.cps.size ≤ 100000 := hx
      show (strValues (ll ++ [(ofL (cut x.cps.toList start x.cps.size), tk')])).toArray.size ≤ sizeLine
      unfold strValues
      rw [List.size_toArray, List.length_map, hl]
      have : 1000000 ≤ sizeLine := by decide
      (exact om419 hsz hs hx' this)
  · refine ⟨⟨s.toks, rfl⟩, [], rfl, rfl, Nat.zero_le _, rfl, ?_⟩
    rw [if_neg (by decide)]
    refine ⟨rfl, ?_⟩
    rw [List.length_range]
    show x.cps.size < 2 * x.cps.size + 3 + 0
    (exact om420 hsz)
end Mine
end

section
open PySem PySem.W PySem.Calls PyProof.Rows
set_option maxRecDepth 100000
set_option maxHeartbeats 8000000
namespace Mine
structure ZA (z TI TO i l : Addr) : Prop where
  TIz : TI ≠ z
  TOz : TO ≠ z
  iz : i ≠ z
  TITO : TI ≠ TO
  TIi : TI ≠ i
  TOi : TO ≠ i
  lz : l ≠ z
  lTO : l ≠ TO
  li : l ≠ i
section
variable {prog : Program} {w : World} {A : Around} {E : Value → Shared → Prop} {s : Shared}
theorem zip1_item {z TI TO i l : Addr} {k : Nat} {xs : Array Value} {x y a b : Value} {Q : Value → Shared → Prop} (D : ZA z TI TO i l)
    (hz : IsZip s.heap z TI TO .none) (hTI : IsPair s.heap TI (.ref i) (.ref i)) (hTO : IsPair s.heap TO a b)
    (h1 : s.heap.IsListIter i l k) (hl : s.heap.IsList l xs) (hx : xs[k]? = some x) (hy : xs[k + 1]? = some y)
    (hQ : ∀ h', IsZip h' z TI TO (rawInt s.heap.objs.size) → IsPair h' TO x y → h'.IsListIter i l (k + 1 + 1) → IsPair h' s.heap.objs.size x y → h'.objs.size = s.heap.objs.size + 1 →
      (∀ c o, c ≠ z → c ≠ TO → c ≠ i → s.heap.get? c = some o → h'.get? c = some o) → Q (.ref s.heap.objs.size) { s with heap := h' }) :
    wpAny (model prog w) A (Builtin.«zip.__next__» ⟨[.ref z], []⟩) (fun fin s' => ∃ v, fin = .done (.ret v) ∧ Q v s') E s := by
  show wpAny _ _ (field (.ref z) 2 >>= _) _ _ _
  refine wpAny_bind (wpAny_field hz rfl (x := .bool false) rfl ?_)
  show wpAny _ _ (field (.ref z) 3 >>= _) _ _ _
  refine wpAny_bind (wpAny_field hz rfl (x := .ref TI) rfl ?_)
  refine wpAny_bind (wpAny_seqItems hTI rfl ?_)
  show wpAny _ _ (Builtin.SmallTypes.ownedTupleIsFree (.ref z) >>= _) _ _ _
  refine wpAny_bind ?_
  unfold Builtin.SmallTypes.ownedTupleIsFree
  refine wpAny_bind (wpAny_field hz rfl (x := .none) rfl (wpAny_pure ?_))
  simp only [if_true]
  refine wpAny_bind (wpAny_rule ?_)
  refine wpAny_bind (wpAny_field hz rfl (x := .ref TO) rfl ?_)
  refine wpAny_bind (wpAny_setField_rec hz (by simp) fun h₁ hz₁ hs₁ => ?_)
  replace hz₁ : IsZip h₁ z TI TO .ellipsis := hz₁
  refine wpAny_bind ?_
  simp only [List.zipIdx_cons, List.zipIdx_nil, List.forIn_cons, List.forIn_nil]
  refine wpAny_bind (wpAny_bind (wpAny_onRaise ?_))
  show wpAny _ _ (Builtin.SmallTypes.nextOf (.ref i) >>= _) _ _ _
  refine wpAny_bind (wpAny_nextOf_list_item (h1.extBut hs₁.extBut D.iz) (hl.extBut hs₁.extBut D.lz) hx fun h₂ h1₂ hs₂ => wpAny_pure ?_)
  have hTO₂ : IsPair h₂ TO a b := hs₂.extBut _ _ D.TOi (hs₁.extBut _ _ D.TOz hTO)
  refine wpAny_bind (wpAny_seqItems hTO₂ rfl ?_)
  refine wpAny_bind (wpAny_updateSeq_pair hTO₂ fun h₃ hTO₃ hs₃ => ?_)
  replace hTO₃ : IsPair h₃ TO x b := hTO₃
  refine wpAny_bind (wpAny_letGo (wpAny_pure ?_))
  refine wpAny_bind (wpAny_bind (wpAny_onRaise ?_))
  show wpAny _ _ (Builtin.SmallTypes.nextOf (.ref i) >>= _) _ _ _
  refine wpAny_bind (wpAny_nextOf_list_item (h1₂.extBut hs₃.extBut D.TOi.symm)
    (((hl.extBut hs₁.extBut D.lz).extBut hs₂.extBut D.li).extBut hs₃.extBut D.lTO) hy fun h₄ h2₄ hs₄ => wpAny_pure ?_)
  have hTO₄ : IsPair h₄ TO x b := hs₄.extBut _ _ D.TOi hTO₃
  refine wpAny_bind (wpAny_seqItems hTO₄ rfl ?_)
  refine wpAny_bind (wpAny_updateSeq_pair hTO₄ fun h₅ hTO₅ hs₅ => ?_)
  replace hTO₅ : IsPair h₅ TO x y := hTO₅
  refine wpAny_bind (wpAny_letGo (wpAny_pure (wpAny_pure ?_)))
  refine wpAny_bind (wpAny_seqItems hTO₅ rfl ?_)
  refine wpAny_bind (wpAny_newTuple ?_)
  have hsz : h₅.objs.size = s.heap.objs.size := by rw [hs₅.1, hs₄.1, hs₃.1, hs₂.1, hs₁.1]
  have hz₅ : IsZip h₅ z TI TO .ellipsis := hs₅.extBut _ _ D.TOz.symm (hs₄.extBut _ _ D.iz.symm (hs₃.extBut _ _ D.TOz.symm (hs₂.extBut _ _ D.iz.symm hz₁)))
  have hk₅ : ∀ c o, c ≠ z → c ≠ TO → c ≠ i → s.heap.get? c = some o → h₅.get? c = some o := fun c o c1 c2 c3 e =>
    hs₅.extBut _ _ c2 (hs₄.extBut _ _ c3 (hs₃.extBut _ _ c2 (hs₂.extBut _ _ c3 (hs₁.extBut _ _ c1 e))))
  have h2₅ : h₅.IsListIter i l (k + 1 + 1) := h2₄.extBut hs₅.extBut D.TOi.symm
  have hzlt : z < h₅.objs.size := Heap.lt_size hz₅
  have hTOlt : TO < h₅.objs.size := Heap.lt_size hTO₅
  show wpAny _ _ (Builtin.SmallTypes.ownedTupleHandOut (.ref z) (.ref h₅.objs.size) >>= _) _ _ _
  refine wpAny_bind ?_
  unfold Builtin.SmallTypes.ownedTupleHandOut
  have hz₆ : IsZip (h₅.push { cls := .type "tuple", data := .seq #[x, y] }) z TI TO .ellipsis := Heap.get?_push_of_some _ hz₅
  refine wpAny_bind (wpAny_setField_rec hz₆ (by simp) fun h₇ hz₇ hs₇ => ?_)
  replace hz₇ : IsZip h₇ z TI TO (rawInt h₅.objs.size) := hz₇
  refine wpAny_setField_rec hz₇ (by simp) fun h₈ hz₈ hs₈ => ?_
  replace hz₈ : IsZip h₈ z TI TO (rawInt h₅.objs.size) := hz₈
  have up : ∀ c o, c ≠ z → h₅.get? c = some o → h₈.get? c = some o := fun c o c1 e => hs₈.extBut _ _ c1 (hs₇.extBut _ _ c1 (Heap.get?_push_of_some _ e))
  have hT₈ : IsPair h₈ h₅.objs.size x y := hs₈.extBut _ _ (Nat.ne_of_gt hzlt) (hs₇.extBut _ _ (Nat.ne_of_gt hzlt) (Heap.get?_push_size _ rfl))
  have hz8 : h₈.objs.size = h₅.objs.size + 1 := by rw [hs₈.1, hs₇.1, Heap.size_push]
  rw [hsz] at hz₈ hT₈ hz8
  refine wpAny_pure ⟨_, rfl, ?_⟩
  show Q (.ref h₅.objs.size) _
  rw [hsz]
  exact hQ h₈ hz₈ (up _ _ D.TOz hTO₅) (h2₅.at fun o e => up _ o D.iz e) hT₈ hz8 fun c o c1 c2 c3 e => up c o c1 (hk₅ c o c1 c2 c3 e)
theorem zip1_end {z TI TO i l : Addr} {k : Nat} {xs : Array Value} {a b : Value} {Q : Fin → Shared → Prop} (hh : A.handled = none) (D : ZA z TI TO i l)
    (hz : IsZip s.heap z TI TO .none) (hTI : IsPair s.heap TI (.ref i) (.ref i)) (hTO : IsPair s.heap TO a b)
    (h1 : s.heap.IsListIter i l k) (hl : s.heap.IsList l xs) (hend : xs[k]? = none)
    (hE : ∀ h' e, (∀ c o, c ≠ z → c ≠ TO → c ≠ i → s.heap.get? c = some o → h'.get? c = some o) → (∃ o, h'.get? e = some o ∧ o.cls = .type "StopIteration") → E (.ref e) { s with heap := h' }) :
    wpAny (model prog w) A (Builtin.«zip.__next__» ⟨[.ref z], []⟩) Q E s := by
  show wpAny _ _ (field (.ref z) 2 >>= _) _ _ _
  refine wpAny_bind (wpAny_field hz rfl (x := .bool false) rfl ?_)
  show wpAny _ _ (field (.ref z) 3 >>= _) _ _ _
  refine wpAny_bind (wpAny_field hz rfl (x := .ref TI) rfl ?_)
  refine wpAny_bind (wpAny_seqItems hTI rfl ?_)
  show wpAny _ _ (Builtin.SmallTypes.ownedTupleIsFree (.ref z) >>= _) _ _ _
  refine wpAny_bind ?_
  unfold Builtin.SmallTypes.ownedTupleIsFree
  refine wpAny_bind (wpAny_field hz rfl (x := .none) rfl (wpAny_pure ?_))
  simp only [if_true]
  refine wpAny_bind (wpAny_rule ?_)
  refine wpAny_bind (wpAny_field hz rfl (x := .ref TO) rfl ?_)
  refine wpAny_bind (wpAny_setField_rec hz (by simp) fun h₁ hz₁ hs₁ => ?_)
  replace hz₁ : IsZip h₁ z TI TO .ellipsis := hz₁
  refine wpAny_bind ?_
  simp only [List.zipIdx_cons, List.zipIdx_nil, List.forIn_cons, List.forIn_nil]
  refine wpAny_bind (wpAny_bind (wpAny_onRaise ?_))
  show wpAny _ _ (Builtin.SmallTypes.nextOf (.ref i) >>= _) _ _ _
  refine wpAny_bind (wpAny_nextOf_list_end hh (h1.extBut hs₁.extBut D.iz) (hl.extBut hs₁.extBut D.lz) hend fun h₂ e hs₂ he => ?_)
  obtain ⟨oe, hoe, hce⟩ := he
  have hz₂ : IsZip h₂ z TI TO .ellipsis := hs₂ _ _ D.iz.symm hz₁
  have hez : e ≠ z := fun x => by subst x; rw [hz₂] at hoe; cases hoe; simp at hce
  refine wpAny_setField_rec hz₂ (by simp) fun h₃ _ hs₃ => hE h₃ e (fun c o c1 _ c3 x => hs₃.extBut _ _ c1 (hs₂ _ _ c3 (hs₁.extBut _ _ c1 x))) ⟨oe, hs₃.extBut _ _ hez hoe, hce⟩
theorem zip1_walk (hh : A.handled = none) (z TI TO i l : Addr) (D : ZA z TI TO i l) (xs : Array Value) (n : Nat) (hn : xs.size = 2 * n) :
    WalksT prog w A z [z, TI, TO, i, l] [z, TO, i] n
      (fun j vals => ∃ x y, xs[2 * j]? = some x ∧ xs[2 * j + 1]? = some y ∧ vals = #[x, y])
      (fun j h => IsZip h z TI TO .none ∧ IsPair h TI (.ref i) (.ref i) ∧ (∃ a b, IsPair h TO a b) ∧ h.IsListIter i l (2 * j) ∧ h.IsList l xs)
      (fun j T h => IsZip h z TI TO (rawInt T) ∧ IsPair h TI (.ref i) (.ref i) ∧ (∃ a b, IsPair h TO a b) ∧ h.IsListIter i l (2 * j + 1 + 1) ∧ h.IsList l xs ∧ T ≠ z ∧ T ≠ TO ∧ T ≠ i) where
  sub := fun c hc => by simp at hc ⊢; rcases hc with rfl | rfl | rfl <;> simp
  frame := fun j h h' hst hk => by
    obtain ⟨hz, hTI, ⟨a, b, hTO⟩, h1, hl⟩ := hst
    exact ⟨hk z (by simp) _ hz, hk TI (by simp) _ hTI, ⟨a, b, hk TO (by simp) _ hTO⟩, h1.at fun o e => hk i (by simp) o e, hl.at fun o e => hk l (by simp) o e⟩
  item := fun j s Q E hi hst hQ => by
    obtain ⟨hz, hTI, ⟨a, b, hTO⟩, h1, hl⟩ := hst
    have hix : 2 * j < xs.size := by (exact om110 hn hi)
    have hiy : 2 * j + 1 < xs.size := by (exact om111 hn hi)
    have hT : s.TypeIs (.ref z) "zip" := ⟨_, hz, rfl⟩
    unfold pyNext
    refine wpAny_bind (wpAny_attempt (wpAny_callSpecial?_slot (name := Str.ofString "__next__") hT F.slot_zip_next
      (wpAny_call_entry F.slot_zip_next hT F.entry_zip_next
        (zip1_item D hz hTI hTO h1 hl (Array.getElem?_eq_getElem hix) (Array.getElem?_eq_getElem hiy) fun h' a1 a2 a3 a5 a6 hk => wpAny_pure ?_) (F.args_zip_next_1 _))))
    have lt : ∀ {c o}, s.heap.get? c = some o → s.heap.objs.size ≠ c := fun e => Nat.ne_of_gt (Heap.lt_size e)
    exact hQ s.heap.objs.size #[xs[2 * j], xs[2 * j + 1]] h' s.toks ⟨_, _, Array.getElem?_eq_getElem hix, Array.getElem?_eq_getElem hiy, rfl⟩ (Nat.le_refl _) ⟨_, a5, rfl, _, rfl⟩
      ⟨a1, hk _ _ D.TIz D.TITO D.TIi hTI, ⟨_, _, a2⟩, a3, hl.at fun o e => hk _ o D.lz D.lTO D.li e,
        lt hz, lt hTO, (by obtain ⟨_, e, _⟩ := h1; exact lt e)⟩
      fun c o hc e => hk c o (fun x => hc (by simp [x])) (fun x => hc (by simp [x])) (fun x => hc (by simp [x])) e
  go := fun elts k pos j T s Q E hm hQ => by
    obtain ⟨hz, hTI, ⟨a, b, hTO⟩, h1, hl, _⟩ := hm
    refine wpAny_letOwnedTupleGo_zip hz fun h' hz' hs' => hQ h' ⟨hz', hs'.extBut _ _ D.TIz hTI, ⟨a, b, hs'.extBut _ _ D.TOz hTO⟩, ?_,
      hl.extBut hs'.extBut D.lz⟩ fun c o hc e => hs'.extBut _ _ (fun x => hc (by simp [x])) e
    have := h1.extBut hs'.extBut D.iz
    rwa [show 2 * j + 1 + 1 = 2 * (j + 1) by (exact om112)] at this
  apart := fun j T h hm hT => by
    obtain ⟨_, _, _, _, _, t1, t2, t3⟩ := hm
    simp at hT
    rcases hT with rfl | rfl | rfl
    · exact t1 rfl
    · exact t2 rfl
    · exact t3 rfl
  done := fun s Q E hst hQ => by
    obtain ⟨hz, hTI, ⟨a, b, hTO⟩, h1, hl⟩ := hst
    have hend : xs[2 * n]? = none := Array.getElem?_eq_none (by (exact Nat.le_of_eq (by assumption)))
    have hT : s.TypeIs (.ref z) "zip" := ⟨_, hz, rfl⟩
    unfold pyNext
    refine wpAny_bind (wpAny_attempt (wpAny_callSpecial?_slot (name := Str.ofString "__next__") hT F.slot_zip_next
      (wpAny_call_entry F.slot_zip_next hT F.entry_zip_next (zip1_end hh D hz hTI hTO h1 hl hend fun h' e hk he => ?_) (F.args_zip_next_1 _))))
    obtain ⟨o, ho, hc⟩ := he
    refine wpAny_bind (wpAny_isInstance (T := "StopIteration") (b := true) ⟨o, ho, hc⟩ isSubtype_stop ?_)
    exact wpAny_pure (hQ h' s.toks fun c o hc e => hk c o (fun x => hc (by simp [x])) (fun x => hc (by simp [x])) (fun x => hc (by simp [x])) e)
  self := fun j s Q E hst hQ => wpAny_pyIter_zip hst.1 hQ
noncomputable abbrev zip1H1 (h : Heap) (i : Addr) : Heap := h.push { cls := .type "tuple", data := .seq #[.ref i, .ref i] }
noncomputable abbrev zip1H2 (h : Heap) (i : Addr) : Heap := (zip1H1 h i).push { cls := .type "tuple", data := .seq #[.none, .none] }
noncomputable abbrev zip1H3 (h : Heap) (i : Addr) : Heap := (zip1H2 h i).push { cls := .type "zip", data := .fields #[.none, .bool false, .bool false, .ref h.objs.size, .ref (zip1H1 h i).objs.size] }
theorem meets_zip1 (i l : Addr) (k : Nat) :
    Meets (Builtin.«zip.__new__» ⟨[.type "zip", .ref i, .ref i], []⟩) (fun _ R s => s.heap.IsListIter i l k ∧
      R (.ok (.ret (.ref (zip1H2 s.heap i).objs.size))) { s with heap := zip1H3 s.heap i }) :=
  .of_wp fun prog w A R s h => by
    obtain ⟨hp, g, d, tk, os⟩ := s; obtain ⟨hl1, h⟩ := h
    have hsub := sub_zip
    have hL1 : Heap.IsListIter (Shared.heap ⟨hp, g, d, tk, os⟩) i l k := hl1
    wp_walk using wpAny_pyIter_listiter hL1
    exact ⟨_, rfl, h⟩
theorem call_zip1 {i l : Addr} {k : Nat} {Q : Value → Shared → Prop} (hi : s.heap.IsListIter i l k)
    (h : ∀ h', IsZip h' (s.heap.objs.size + 2) s.heap.objs.size (s.heap.objs.size + 1) .none → IsPair h' s.heap.objs.size (.ref i) (.ref i) →
      IsPair h' (s.heap.objs.size + 1) .none .none → h'.objs.size = s.heap.objs.size + 3 →
      (∀ c o, s.heap.get? c = some o → h'.get? c = some o) → Q (.ref (s.heap.objs.size + 2)) { s with heap := h' }) :
    wpAny (model prog w) A (call (.type "zip") [.ref i, .ref i]) Q E s := by
  refine callType_new F.called_zip (by decide) (F.typeCall_zip_2 _ _) (F.newCall_zip_2 _ _) (fun obj => F.args_object_init_3 obj _ _) F.entry_zip_new
    (meets_zip1 i l k) ⟨hi, ?_⟩
  have z1 : (zip1H1 s.heap i).objs.size = s.heap.objs.size + 1 := Heap.size_push ..
  have z2 : (zip1H2 s.heap i).objs.size = s.heap.objs.size + 2 := by rw [Heap.size_push, z1]
  have z3 : (zip1H3 s.heap i).objs.size = s.heap.objs.size + 3 := by rw [Heap.size_push, z2]
  have g3 : (zip1H3 s.heap i).get? (zip1H2 s.heap i).objs.size = some _ := Heap.get?_push_size _ rfl
  have g2 : (zip1H3 s.heap i).get? (zip1H1 s.heap i).objs.size = some _ := Heap.get?_push_of_some _ (Heap.get?_push_size _ rfl)
  have g1 : (zip1H3 s.heap i).get? s.heap.objs.size = some _ := Heap.get?_push_of_some _ (Heap.get?_push_of_some _ (Heap.get?_push_size _ rfl))
  show _ ∧ _
  rw [z1, z2] at g3
  rw [z1] at g2
  rw [z2]
  exact ⟨⟨_, g3, rfl⟩, h _ g3 g1 g2 z3 fun c o x => Heap.get?_push_of_some _ (Heap.get?_push_of_some _ (Heap.get?_push_of_some _ x))⟩
end
end Mine
end

section
open PySem PySem.W PySem.Calls PyProof.Rows
set_option maxRecDepth 100000
set_option maxHeartbeats 8000000
namespace Mine
open PySem.Sre PySem.Builtin.Re
section
variable {w : World} {A : Around} {E : Value → Shared → Prop} {s : Shared} {a d : Addr} {its ys : Array Value} {n ny : Nat} {sl l b : Addr}
theorem set_front {u : Tok} {Q : Value → Shared → Prop} (ha : s.heap.get? b = some (listObj its n)) (hs : s.heap.get? sl = some (sliceObj .none (.int 0 u) .none)) (hl : s.heap.get? l = some (listObj ys ny)) (hne : l ≠ b) (hsz : its.size + ys.size ≤ 100000)
    (h : ∀ s' n', Heap.SameBut b s.heap s'.heap → s'.heap.get? b = some (listObj (ys ++ its) n') → s'.gens = s.gens → s'.os = s.os → Q .none s') :
    wpAny (model PG w) A (Builtin.«list.__setitem__» ⟨[.ref b, .ref sl, .ref l], []⟩) (fun fin s' => ∃ v, fin = .done (.ret v) ∧ Q v s') E s := by
  have hTs : s.TypeIs (.ref sl) "slice" := ⟨_, hs, rfl⟩
  have hTl : s.TypeIs (.ref l) "list" := ⟨_, hl, rfl⟩
  unfold Builtin.«list.__setitem__»
  refine wpAny_bind (wpAny_of_eq (a := (.ref b, [.ref sl, .ref l])) (by rfl) ?_)
  dsimp only
  refine wpAny_bind ?_
  unfold Builtin.List.listSubscript?
  refine wpAny_bind (wpAny_specialOf hTs slice_no_index ?_)
  simp only [Option.isNone_none, if_true]
  refine wpAny_pure ?_
  refine wpAny_bind (wpAny_typeOf hTs ?_)
  rw [if_neg (by decide), listSliceParts_eq]
  refine wpAny_bind (wpAny_bind (wpAny_field hs rfl (x := .none) rfl (wpAny_bind (wpAny_listPart IsPart.none ?_))))
  rw [if_neg (by decide)]
  refine wpAny_bind (wpAny_field hs rfl (x := .none) rfl (wpAny_bind (wpAny_listPart IsPart.none ?_)))
  refine wpAny_bind (wpAny_field hs rfl (x := .int 0 u) rfl (wpAny_bind (wpAny_listPart (IsPart.int 0 u) (wpAny_pure ?_))))
  dsimp only
  have hsame : Builtin.List.listSameRef (.ref b) (.ref l) = false := by simp [Builtin.List.listSameRef, Ne.symm hne]
  rw [hsame, if_neg (by decide)]
  refine wpAny_bind ?_
  unfold Builtin.List.listAllItems
  refine wpAny_bind (wpAny_typeOf hTl ?_)
  rw [if_pos (by decide)]
  refine wpAny_listItems hl rfl ?_
  refine wpAny_bind (wpAny_listItems ha rfl ?_)
  refine wpAny_bind (wpAny_of_eq (sliceIndices_raw none (some 0) none its.size (by simp)) ?_)
  have eb : sliceBounds none (some 0) none its.size = (0, 0, 1) := by
    unfold sliceBounds
    simp only [Option.getD_none]
    simp only [show ((1 : Int) > 0) = True from by simp, if_true]
    refine Prod.ext rfl (Prod.ext ?_ rfl)
    show (max 0 (min (if (0 : Int) < 0 then 0 + (its.size : Int) else 0) (its.size : Int)) : Int) = 0
    rw [if_neg (by decide)]; (exact om113)
  rw [eb]
  dsimp only
  rw [if_pos (by decide)]
  refine wpAny_bind (wpAny_rule ?_)
  have e4 : Builtin.List.listTooLong (its.size + ys.size) = false := by
    unfold Builtin.List.listTooLong
    exact decide_eq_false (Nat.not_lt.mpr (Nat.le_trans hsz (by decide)))
  rw [e4, if_neg (by decide)]
  have hf : (its.extract 0 (0 : Int).toNat ++ ys ++ its.extract (max (0 : Int) 0).toNat its.size) = ys ++ its := by
    apply Array.ext'; simp
  have hz : its.size ≤ sizeLine := Nat.le_trans (Nat.le_trans (Nat.le_add_right _ _) hsz) (by decide)
  have hz2 : (its.extract 0 (0 : Int).toNat ++ ys ++ its.extract (max (0 : Int) 0).toNat its.size).size ≤ sizeLine + 1 := by
    rw [hf]
    simp only [Array.size_append]
    exact Nat.le_succ_of_le (Nat.le_trans (by (exact om114)) (Nat.le_trans hsz (by decide)))
  show wpAny _ _ (updateSeq b (fun xs => xs.extract 0 (0 : Int).toNat ++ ys ++ xs.extract (max (0 : Int) 0).toNat xs.size) >>= _) _ _ _
  refine wpAny_bind (wpAny_updateSeq (xs := its) (n := n) ha rfl ?_ hz hz2)
  refine wpAny_bind (wpAny_letGo (wpAny_pure ⟨.none, rfl, h _ (if (ys ++ its).size == its.size then n else n + 1) (Heap.SameBut.update ..) ?_ rfl rfl⟩))
  rw [Heap.get?_update_self _ ha rfl]
  simp only [Obj.mapSeq, hf]
theorem setItem_front {u : Tok} {Q : Unit → Shared → Prop} (ha : s.heap.get? b = some (listObj its n)) (hs : s.heap.get? sl = some (sliceObj .none (.int 0 u) .none)) (hl : s.heap.get? l = some (listObj ys ny)) (hne : l ≠ b) (hsz : its.size + ys.size ≤ 100000)
    (h : ∀ s' n', Heap.SameBut b s.heap s'.heap → s'.heap.get? b = some (listObj (ys ++ its) n') → s'.gens = s.gens → s'.os = s.os → Q () s') :
    wpAny (model PG w) A (setItem (.ref b) (.ref sl) (.ref l)) Q E s := by
  have hT : s.TypeIs (.ref b) "list" := ⟨_, ha, rfl⟩
  unfold setItem
  try with_reducible refine wpAny_holding ?_
  first | refine wpAny_bind (wpAny_pure ?_) | skip
  refine wpAny_bind (wpAny_sequenceKey hT (by decide) ?_)
  refine wpAny_bind (wpAny_callSpecial?_slot (name := Str.ofString "__setitem__") hT slot_list_setitem
    (wpAny_call_entry slot_list_setitem hT entry_list_setitem ?_ (args_list_setitem _ _ _)))
  refine wpAny_mono (set_front (E := E) (Q := fun v s' => Q () s') ha hs hl hne hsz h) (fun fin s' h' => ?_) fun _ _ e => e
  obtain ⟨v, e, q⟩ := h'
  exact ⟨v, e, wpAny_pure q⟩
theorem pop_front {u : Tok} {y : Value} {Q : Value → Shared → Prop} (ha : s.heap.get? b = some (listObj its n)) (hy : its[0]? = some y) (hsz : its.size ≤ 100000)
    (h : ∀ s' n', Heap.SameBut b s.heap s'.heap → s'.heap.get? b = some (listObj (its.eraseIdxIfInBounds 0) n') → s'.gens = s.gens → s'.os = s.os → Q y s') :
    wpAny (model PG w) A (call (.builtin "list.pop") [.ref b, .int 0 u]) Q E s := by
  have hpos : 0 < its.size := by
    have := (Array.getElem?_eq_some_iff.mp hy).1
    exact this
  refine call_meets F.slot_list_pop ⟨_, ha, rfl⟩ PySem.F.entry_list_pop (PySem.F.args_list_pop_2 _ _) (PySem.MeetsSeq.list_pop_at b its n 0 u 0 y (by rfl) (by simp [seqIndex?, hpos]) hy (Nat.le_trans hsz (by decide))) ⟨ha, ?_⟩
  have hz : (its.eraseIdxIfInBounds 0).size ≠ its.size := by
    rw [Array.eraseIdxIfInBounds, dif_pos hpos, Array.size_eraseIdx]; (exact om115 hsz hpos)
  refine h _ (n + 1) (Heap.SameBut.update ..) ?_ rfl rfl
  rw [Heap.get?_update_self _ ha rfl]
  simp [Obj.mapSeq, hz]
theorem mul_two {u : Tok} {v : Value} {Q : Value → Shared → Prop} (hl : s.heap.get? l = some (listObj #[v] n))
    (h : Q (.ref s.heap.objs.size) { s with heap := s.heap.push (listObj #[v, v] 0) }) :
    wpAny (model PG w) A (binaryOp .Mult (.ref l) (.int 2 u)) Q E s := by
  have e : (List.foldl (fun x1 x2 => x1 ++ x2) #[] (List.replicate (if (#[v] : Array Value).isEmpty = true then 0 else (2 : Int).toNat) #[v])) = #[v, v] := rfl
  refine wpAny_binaryOp_repeat_ref (T := "list") (U := "int") (by decide) ⟨_, hl, rfl⟩ (fun s' => typeIs_int s' 2 u) noFill_list_mul F.fills_int_mul F.slot_int_rmul repeat_list F.slot_int_index.lookup
    (call_meets F.slot_int_rmul (typeIs_int s 2 u) F.entry_int_rmul (F.args_int_rmul_2 _ _) (int___rmul___int_list 2 u l #[v] n)
      ⟨hl, rfl, ⟨_, hl, rfl⟩, call_meets F.slot_list_mul ⟨_, hl, rfl⟩ F.entry_list_mul (F.args_list_mul_2 _ _)
        (AutoListH.list___mul___list_int_3 l #[v] n 2 u (by simp [Builtin.List.listFitsIndex]) (by show ¬ 1 * 2 > _; decide) (by show ¬ Builtin.List.listTooLong (1 * 2) = true; decide))
        ⟨hl, ?_⟩⟩)
  exact h
theorem star_list {T : Addr} {vs : Array Value} {n : Nat} {Q : List Value → Shared → Prop} (hT : s.heap.get? T = some (listObj vs n)) (hz : vs.size ≤ 1000)
    (h : ∀ h', (∀ b o, s.heap.get? b = some o → h'.get? b = some o) → Q vs.toList { s with heap := h' }) : StarOf (model PG w) A E (.ref T) Q s := by
  have hT' : s.TypeIs (.ref T) "list" := ⟨_, hT, rfl⟩
  have z : wpAny (model PG w) A (collect (.ref T)) Q E s := wpAny_collect_seq T (.inl rfl) hT rfl rfl h (Nat.le_trans hz (by decide))
  unfold StarOf notIterableAtAll
  exact wpAny_bind (wpAny_specialOf hT' PySem.F.slot_list_iter.lookup (wpAny_pure ⟨rfl, z⟩))
theorem iter_list {Q : Value → Shared → Prop} (hl : s.heap.get? l = some (listObj its n))
    (h : Q (.ref s.heap.objs.size) { s with heap := s.heap.push { cls := .type "list_iterator", data := .fields #[.ref l, .int 0 0] } }) :
    wpAny (model PG w) A (call (.builtin "iter") [.ref l]) Q E s := by
  refine call_function_entry (by decide +kernel) (by decide +kernel) kdk_entry_iter (kdk_args_iter _) ?_
  unfold Builtin.«iter»
  refine wpAny_bind (m := someArgs "iter" 1 2 _) (wpAny_of_eq (a := [Value.ref l]) (by first | rfl | kernel_rfl!) ?_)
  show wpAny _ _ (pyIter (.ref l) >>= _) _ _ _
  exact wpAny_bind (wpAny_pyIter_list ⟨_, hl, rfl, n, rfl⟩ (wpAny_pure ⟨_, rfl, h⟩))
theorem list_item {value slice : Expr} {k : Int} {u : Tok} {v : Value} {Q : Value → Shared → Prop} (hl : s.heap.get? l = some (listObj its n)) (h0 : 0 ≤ k) (h63 : k < 2 ^ 63) (hv : its[k.toNat]? = some v) (h : Q v s)
    (hs : subscripted slice false (.ref l) (.int k u) = operate [.ref l, .int k u] (getItem (.ref l) (.int k u)) := by with_unfolding_all rfl) : wpAny (model PG w) A (subscriptTail value slice (.ref l) (.int k u)) Q E s := by
  have ht : s.heap.IsList l its := ⟨_, hl, rfl, _, rfl⟩
  exact tail_builtin ht.typeIs slot_list_getitem.lookup (wpAny_getItem_list ht h0 h63 hv h) hs
end
end Mine
end

section
open PySem PySem.W PySem.Calls PyProof.Rows
set_option maxRecDepth 100000
set_option maxHeartbeats 8000000
namespace Mine
theorem str_append_len (x y : Str) : (x ++ y).length = x.length + y.length := by
  rw [ofL_append, ofL_len, List.length_append, Array.length_toList, Array.length_toList]; rfl
theorem Cx.named {w : World} {g : Heap} {wss : List Addr} {s₀ : Shared} {L : Addr} {m : Str → Option Value} {news : List (Addr × Obj)} (c : Cx w g wss s₀ L m news s) : ∃ m', m' = m ∧ Cx w g wss s₀ L m' news s := ⟨m, rfl, c⟩
theorem PairsAt.keepIn {h h' : Heap} {its : Array Value} {ps : List (Str × Str)} (P : PairsAt h its ps) (k : ∀ T o, Value.ref T ∈ its.toList → h.get? T = some o → h'.get? T = some o) : PairsAt h' its ps := by
  refine ⟨P.size, fun j q hq => ?_⟩
  obtain ⟨v, hv, T, t1, t2, rfl, hT, e⟩ := P.at_ j q hq
  exact ⟨_, hv, T, t1, t2, rfl, hT, k T _ (by rw [← Array.getElem?_toList] at hv; exact List.mem_of_getElem? hv) e⟩
section
variable {w : World} {A : Around} {g : Heap} {ws : List Addr} {s₀ s : Shared} {L I : Addr} {m : Str → Option Value} {news : List (Addr × Obj)}
theorem Cx.turnW {wr : List Addr} {h' : Heap} {tk : Nat} (c : Cx w g ws s₀ L m news s) (hw : ∀ b ∈ wr, (238 : Nat) ≤ b ∧ g.get? b = none ∧ L ≠ b) (hn : ∀ p ∈ news, p.1 ∉ wr) (k : ∀ b o, b ∉ wr → s.heap.get? b = some o → h'.get? b = some o) : Cx w g ws s₀ L m news { s with heap := h', toks := tk } :=
  ⟨c.B, c.big, c.hL, ⟨c.F.ns.at' fun o e => k L o (fun q => (hw L q).2.2 rfl) e, fun b o e => k b o (fun q => by rw [(hw b q).2.1] at e; cases e) (c.F.keep b o e), c.F.above⟩, fun p hp => ⟨k _ _ (hn p hp) (c.N p hp).1, (c.N p hp).2⟩, c.T.keeps fun b o hb e => k b o (fun q => not_tab (hw b q).1 hb) e, c.bare, c.os, c.hi⟩
theorem r_forT {prog : Program} {R : Result → Shared → Prop} {cn : Str} {cs : Scope} {fa : Addr} {ccd : Value} {cl : List (Str × Addr)} {x1 x2 : Str} {p1 p2 pt : Pos} {kt : Nat} {body orelse : List Stmt} {fp wr : List Addr} {n : Nat} {Pt : Nat → Array Value → Prop} {St : Nat → Heap → Prop} {Mid : Nat → Addr → Heap → Prop}
    (hh : A.handled = none) (W : WalksT prog w A I fp wr n Pt St Mid) (h2 : ∀ j vals, Pt j vals → ∃ v1 v2, vals = #[v1, v2])
    (hw : ∀ b ∈ wr, (238 : Nat) ≤ b ∧ g.get? b = none ∧ L ≠ b) (hL : L ∉ fp)
    (J : Nat → (Str → Option Value) → List (Addr × Obj) → Heap → Prop)
    (hJ : ∀ j m news h h' h'', J j m news h → h.get? L = some h'' → (∀ b o, b ∉ wr → b ≠ L → h.get? b = some o → h'.get? b = some o) → J j m news h')
    (turn : ∀ j v1 v2 m news s, j < n → Pt j #[v1, v2] → J j m news s.heap → St (j + 1) s.heap → Cx w g ws s₀ L (fun y => if y = x2 then some v2 else if y = x1 then some v1 else m y) news s →
      wpAny (model prog w) A (execs body (envX cn cs L fa ccd cl)) (fun f s₃ => match f with
        | .next | .cont => ∃ m' news', J (j + 1) m' news' s₃.heap ∧ Cx w g ws s₀ L m' news' s₃ ∧ (∀ p ∈ news', p.1 ∉ wr) ∧ (∀ b ∈ fp, ∀ o, s.heap.get? b = some o → s₃.heap.get? b = some o)
        | .brk => R (.ok .next) s₃
        | .ret v => R (.ok (.ret v)) s₃) (notedBy (model prog w) A (envX cn cs L fa ccd cl) fun e s' => R (.error e) s') s)
    (done : ∀ m news s, J n m news s.heap → Cx w g ws s₀ L m news s → wpAny (model prog w) A (execs orelse (envX cn cs L fa ccd cl)) (fun f s₃ => R (.ok f) s₃) (notedBy (model prog w) A (envX cn cs L fa ccd cl) fun e s' => R (.error e) s') s)
    (c : Cx w g ws s₀ L m news s) (h0 : J 0 m news s.heap) (hn : ∀ p ∈ news, p.1 ∉ wr) (hS : St 0 s.heap)
    (hk : cs.kind = .function := by rfl) (hx1 : (envX cn cs L fa ccd cl).kindOf x1 = some .local := by rfl) (hx2 : (envX cn cs L fa ccd cl).kindOf x2 = some .local := by rfl) :
    codeAny (model prog w) A (.forLoop (.Tuple [.Name x1 p1, .Name x2 p2] kt pt) (.ref I) body orelse (envX cn cs L fa ccd cl)) R s := by
  refine codeAny_forLoop_any (I := fun k s => ∃ j m news, k = n - j ∧ j ≤ n ∧ J j m news s.heap ∧ Cx w g ws s₀ L m news s ∧ (∀ p ∈ news, p.1 ∉ wr) ∧ St j s.heap) (fun k s hk' => ?_) n ⟨0, m, news, rfl, Nat.zero_le _, h0, c, hn, hS⟩
  obtain ⟨j, m, news, rfl, hj, hJJ, c, hn, hS⟩ := hk'
  have hLget : ∀ {m news s}, Cx w g ws s₀ L m news s → ∃ o, s.heap.get? L = some o := fun c => by obtain ⟨oL, _, _, e, _⟩ := c.F.ns; exact ⟨_, e⟩
  rcases Nat.lt_or_ge j n with hlt | hge
  · refine W.item j s _ _ hlt hS fun T vals h' tk hP _ hT hM k => ?_
    obtain ⟨v1, v2, rfl⟩ := h2 j vals hP
    have c' := c.turnW (tk := tk) hw hn k
    obtain ⟨oL, eL⟩ := hLget c
    have J' := hJ j m news _ h' _ hJJ eL fun b o hb _ e => k b o hb e
    refine W.go _ kt pt j T _ _ _ hM fun h'' hS'' k'' => ?_
    have c'' := c'.turnW (tk := tk) hw hn k''
    obtain ⟨oL', eL'⟩ := hLget c'
    have J'' := hJ j m news _ h'' _ J' eL' fun b o hb _ e => k'' b o hb e
    have hT'' : h''.IsTuple T #[v1, v2] := hT.at fun o e => k'' T o (W.apart j T h' hM) e
    refine wpAny_assign_Tuple hh hT'' rfl rfl fun h₃ hx₃ => ?_
    have k₃ : ∀ b o, h''.get? b = some o → h₃.get? b = some o := fun b o e => hx₃ b o (Nat.ne_of_lt (Heap.lt_size e)) e
    have c₃ := c''.ext (s' := { s with heap := h₃, toks := tk }) k₃ rfl rfl
    obtain ⟨oL'', eL''⟩ := hLget c''
    have J₃ := hJ j m news _ h₃ _ J'' eL'' fun b o _ _ e => k₃ b o e
    have S₃ := W.frame _ _ h₃ hS'' fun b _ o e => k₃ b o e
    show wpAny _ _ (do holding [_] (assign (.Name _ _) _ _); do holding [] (assign (.Name _ _) _ _); pure ()) _ _ _
    refine wpAny_bind (wpAny_holding (wpAny_assign_Name (c_storeK c₃ (fun s₄ c₄ k₄ => ?_) hk hx1)))
    refine wpAny_bind (wpAny_holding (wpAny_assign_Name (c_storeK c₄ (fun s₅ c₅ k₅ => wpAny_pure ?_) hk hx2)))
    obtain ⟨oL₃, eL₃⟩ := hLget c₃
    obtain ⟨oL₄, eL₄⟩ := hLget c₄
    have J₅ := hJ j m news _ s₅.heap _ (hJ j m news _ s₄.heap _ J₃ eL₃ fun b o _ h2 e => k₄ b o h2 e) eL₄ fun b o _ h2 e => k₅ b o h2 e
    have S₅ := W.frame _ _ s₅.heap (W.frame _ _ s₄.heap S₃ fun b hb o e => k₄ b o (fun q => hL (q ▸ hb)) e) fun b hb o e => k₅ b o (fun q => hL (q ▸ hb)) e
    refine wpAny_mono (turn j v1 v2 m news s₅ hlt hP J₅ S₅ c₅) (fun f s₆ h₆ => ?_) fun _ _ e => e
    cases f with
    | next => obtain ⟨m', news', a1, a2, a3, a4⟩ := h₆; exact ⟨n - (j + 1), by (exact om36 hlt), j + 1, m', news', rfl, hlt, a1, a2, a3, W.frame _ _ _ S₅ a4⟩
    | cont => obtain ⟨m', news', a1, a2, a3, a4⟩ := h₆; exact ⟨n - (j + 1), by (exact om36 hlt), j + 1, m', news', rfl, hlt, a1, a2, a3, W.frame _ _ _ S₅ a4⟩
    | brk => exact h₆
    | ret v => exact h₆
  · have : j = n := Nat.le_antisymm hj hge
    subst this
    refine W.done s _ _ hS fun h' tk k => ?_
    obtain ⟨oL, eL⟩ := hLget c
    exact done m news _ (hJ j m news _ h' _ hJJ eL fun b o hb _ e => k b o hb e) (c.turnW (tk := tk) hw hn k)
end
noncomputable def qsOf (T : List Nat) : List (Str × Str) := (pairs T).map fun p => (ofL p.1, ofL p.2)
theorem flatP_length (ps : List (List Nat × List Nat)) : (flatP ps).length = 2 * ps.length := by
  induction ps with
  | nil => rfl
  | cons p r ih => obtain ⟨a, b⟩ := p; simp [flatP, ih]; (exact om112)
theorem flatP_at (ps : List (List Nat × List Nat)) (j : Nat) (p : List Nat × List Nat) (h : ps[j]? = some p) : (flatP ps)[2 * j]? = some p.1 ∧ (flatP ps)[2 * j + 1]? = some p.2 := by
  induction ps generalizing j with
  | nil => simp at h
  | cons q r ih =>
    obtain ⟨a, b⟩ := q
    cases j with
    | zero => simp at h; subst h; exact ⟨rfl, rfl⟩
    | succ j =>
      have := ih j (by simpa using h)
      rw [show 2 * (j + 1) = 2 * j + 1 + 1 by (exact om116), show 2 * j + 1 + 1 + 1 = (2 * j + 1) + 1 + 1 by (exact om117)]
      exact this
theorem pairs_sum (l : List Nat) : ((pairs l).map fun p => p.1.length + p.2.length).sum = l.length := by
  induction l with
  | nil => rfl
  | cons c l ih =>
    unfold pairs
    cases isW c with
    | true =>
      rw [if_pos rfl]
      cases hp : pairs l with
      | nil => have := pairs_nil hp; subst this; rfl
      | cons p r => obtain ⟨x, y⟩ := p; rw [hp] at ih; simp at ih ⊢; (exact om118 ih)
    | false =>
      rw [if_neg (by decide)]
      cases hp : pairs l with
      | nil => have := pairs_nil hp; subst this; rfl
      | cons p r =>
        obtain ⟨x, y⟩ := p
        rw [hp] at ih
        cases x with
        | nil => simp at ih ⊢; (exact om119 ih)
        | cons z x => simp at ih ⊢; (exact om120 ih)
theorem pairs_length (l : List Nat) : (pairs l).length ≤ l.length := by
  induction l with
  | nil => exact Nat.le_refl _
  | cons c l ih =>
    unfold pairs
    split
    · split
      · simp
      · rename_i e; rw [e] at ih; simp only [List.length_cons] at ih ⊢; (exact Nat.le_succ_of_le (by assumption))
    · split
      · simp
      · rename_i e; rw [e] at ih; simp only [List.length_cons] at ih ⊢; (exact Nat.le_succ_of_le (by assumption))
      · rename_i e; rw [e] at ih; simp only [List.length_cons] at ih ⊢; (exact Nat.lt_succ_of_le (by assumption))
theorem mem_sum_le {l : List Nat} {x : Nat} (h : x ∈ l) : x ≤ l.sum := by
  induction l with
  | nil => cases h
  | cons y r ih => cases h with
    | head => simp
    | tail _ h => have := ih h; simp; (exact om121 this)
theorem qsOf_size {T : List Nat} {q : Str × Str} (h : q ∈ qsOf T) : sizeOf' q ≤ T.length := by
  unfold qsOf at h
  obtain ⟨p, hp, rfl⟩ := List.mem_map.mp h
  have := mem_sum_le (List.mem_map_of_mem (f := fun p : List Nat × List Nat => p.1.length + p.2.length) hp)
  rw [pairs_sum] at this
  unfold sizeOf'
  rw [ofL_len, ofL_len]
  (exact om122 this)
theorem sizes_drop_le (ps : List (Str × Str)) (k : Nat) : sizes (ps.drop k) ≤ sizes ps := by
  have := sizes_append (ps.take k) (ps.drop k)
  rw [List.take_append_drop] at this
  have := sizes_nonneg (ps.take k)
  (exact om123 (by assumption) this)
theorem chunk_bound {W : Int} {cs : List Nat} {lines lines' : List Str} {ps ps' : List (Str × Str)} {i i' : Int} {q : Str × Str} (h : chunk W cs (lines, ps, i) q = (lines', ps', i')) :
    lines'.length ≤ lines.length + 1 ∧ ps'.length ≤ ps.length + 1 ∧ (i' = i ∨ i' = 0) ∧ sizes ps' ≤ sizes ps + sizeOf' q + 1 ∧ ((∀ x ∈ ps ++ [q], x.2 ≠ ofL []) → ∀ x ∈ ps', x.2 ≠ ofL []) := by
  have hs : sizes (ps ++ [q]) = sizes ps + sizeOf' q := by rw [sizes_append]; simp [sizes]
  have h0 := sizes_nonneg ps
  unfold chunk at h
  dsimp only at h
  split at h
  · cases h
    exact ⟨by (exact om124), by simp, .inl rfl, by (exact om125 hs), fun z => z⟩
  · split at h
    · cases h
      have := sizes_drop_le (ps ++ [q]) ‹Nat›
      refine ⟨by simp, by simp, .inr rfl, by (exact om126 hs this), fun z x hx => z x (List.mem_of_mem_drop hx)⟩
    · split at h
      · cases h
        refine ⟨by simp, by simp, .inr rfl, ?_, fun z x hx => ?_⟩
        · have e : sizes [((if q.1 = ofL [] then ofL [32] else q.1), q.2)] ≤ sizeOf' q + 1 := by
            simp only [sizes, List.map_cons, List.map_nil, List.sum_cons, List.sum_nil]
            unfold sizeOf'
            dsimp only
            split
            · rw [ofL_len]; simp; (exact om127)
            · (exact om128)
          (exact om129 h0 e)
        · rw [List.mem_singleton] at hx; subst hx; exact z q (by simp)
      · cases h
        exact ⟨by (exact om124), by simp, .inl rfl, by (exact om125 hs), fun z => z⟩
end Mine
end

section
open PySem PySem.W PySem.Calls PyProof.Rows
set_option maxRecDepth 100000
set_option maxHeartbeats 8000000
namespace Mine
section
variable {w : World} {A : Around} {E : Value → Shared → Prop} {s : Shared} {f fd ls a d : Addr} {W : Int} {ws sp : Str} {n : Nat} {i : Int} {Q : Value → Shared → Prop}
theorem segs_head_len (l : List Nat) : ∀ s0 rest, segs l = s0 :: rest → s0.length ≤ l.length := by
  induction l with
  | nil => intro s0 rest e; cases e; exact Nat.le_refl _
  | cons c l ih =>
    intro s0 rest e
    obtain ⟨s1, r1, e1, _⟩ := segs_shape l
    have := ih s1 r1 e1
    unfold segs at e
    rw [e1] at e
    cases hc : isW c with
    | true =>
      rw [hc, if_pos rfl] at e
      split at e <;> (injection e with e2 e3; subst e2; exact Nat.zero_le _)
    | false =>
      rw [hc, if_neg (by decide)] at e
      injection e with e2 e3
      subst e2
      simp only [List.length_cons]
      (exact Nat.lt_succ_of_le (by assumption))
theorem callWith_ST {T : String} {e : Expr} {p pos : Pos} {env : Env} (h : wpAny (model PG w) A (eval e env) (fun v s₁ => StarOf (model PG w) A E v (fun vs s₂ => wpAny (model PG w) A (call (.type T) vs) Q E s₂) s₁) E s)
    (he : starEach [.Starred e p] env = [(true, eval e env)] := by rfl) :
    wpAny (model PG w) A (callWith pos (.type T) [] (backTo pos (starEach [.Starred e p] env)) []) Q E s := by
  rw [he]
  refine ks_call (P := fun _ => True) rfl (fun h _ => ⟨.machine, .inr (.inl rfl), .of_pure rfl⟩) (ks_lone (wpAny_mono h (fun v s₁ h₁ => ?_) fun _ _ x => x))
  unfold StarOf at h₁ ⊢
  exact wpAny_mono h₁ (fun b s₂ h₂ => ⟨h₂.1, wpAny_mono h₂.2 (fun vs s₃ h₃ => ⟨trivial, h₃⟩) fun _ _ x => x⟩) fun _ _ x => x
noncomputable abbrev sParts : Str := (Str.ofString "parts")
noncomputable def AsI (x sp : Str) (W i : Int) (f a d ls : Addr) (H j : Nat) (m : Str → Option Value) (news : List (Addr × Obj)) (h : Heap) : Prop :=
  ∃ its n ps i' hh tk t ll nl, ((qsOf x.cps.toList).take j).foldl (chunk W sp.cps.toList) ([], [], i) = (ll.map (·.1), ps, i') ∧ m sSelf = some (.ref f) ∧ news = [(a, accObj d its n), (d, accDict hh tk i' t), (ls, listObj (strValues ll).toArray nl)] ∧ PairsAt h its ps ∧ (∀ U, Value.ref U ∈ its.toList → H + 3 ≤ U) ∧ ll.length ≤ j ∧ ps.length ≤ j ∧ (i' = i ∨ i' = 0) ∧ sizes ps ≤ j * 300 ∧ (∀ q ∈ ps, q.2 ≠ ofL [])
theorem asplit_ok {f0 x0 sp' : Str} {t1 t2 t3 : Tok} (O : Ok w s) (r : Rm A 14) (F : FmAt s.heap f fd ls a W ws sp) (Y : AccAt s.heap a d #[] n i) (Ls : LinesAt s.heap ls [])
    (hi : 0 ≤ i ∧ i ≤ 1000) (hT : (f0 ++ x0).length ≤ 250) (hne : ∀ q ∈ qsOf (f0 ++ x0).cps.toList, q.2 ≠ ofL [])
    (h : ∀ s' its' n' ps' i' lines', (qsOf (f0 ++ x0).cps.toList).foldl (chunk W sp.cps.toList) ([], [], i) = (lines', ps', i') → Ok w s' → St [a, d, ls] s s' → AccAt s'.heap a d its' n' i' → PairsAt s'.heap its' ps' → LinesAt s'.heap ls lines' → Q .none s') :
    wpAny (model PG w) A (call (.ref 106) [.ref f, .str f0 t1, .str x0 t2, .str sp' t3]) Q E s := by
  obtain ⟨la, ld, oa, hh, tk, t, od⟩ := Y
  obtain ⟨lf, lfd, of, p, ofd⟩ := F
  obtain ⟨lls, ll, nl, ols, hl⟩ := Ls
  obtain ⟨dls, dld, fa, fd', fls, da, dd, dl, hda⟩ := fm_ne oa od of ofd ols
  refine c_enter (binds := [("self", .ref f), ("fws", .str f0 t1), ("string", .str x0 t2), ("splitchars", .str sp' t3)]) [(a, accObj d #[] n), (d, accDict hh tk i t), (ls, listObj (strValues ll).toArray nl)] O r.room (own3 la oa ld od lls ols) fun g L s₁ c => ?_
  have gf : g.get? f = some (instObj 116 fd) := c.B.all f _ (by simp [fa, fd', fls]) (not_tab lf) of
  have gfd : g.get? fd = some (fmDict p W ws sp ls a) := c.B.all fd _ (by simp [da, dd, dl]) (not_tab lfd) ofd
  have big : (238 : Nat) ≤ s.heap.objs.size := (base_of (own := []) O.gd no_own).2
  have hlen := str_append_len f0 x0
  generalize hx0 : (f0 ++ x0) = x at *
  refine wpAny_execs_cons ?_
  refine wpAny_Assign_Name ?_
  refine MethodCall_ ?_
  refine c_glob c (v := .ref 43) ?_ ?_
  · kernel_rfl
  have g43 : s₁.heap.get? 43 = some (hdz.zo_63 w.params) := c.X _ _ (kk_of (by rfl) (by rfl))
  refine getMethod_builtin (T := "re.Pattern") ⟨_, g43, rfl⟩ plain_rx slot_split type_split (fun b e => by cases e; exact ⟨_, g43, rfl⟩) ?_
  refine callWith_method1 ?_
  refine spliced_more ?_
  refine wpAny_BinOp ?_
  refine c_name c rfl ?_
  refine c_name c rfl ?_
  refine PyProof.Rows.add_str (fun t' tk' => ?_) (by have : 1000000 ≤ sizeLine := by decide
                                                     (exact om130 hT hlen this))
  refine spliced_none ?_
  have c₂ := c.ext (s' := { s₁ with toks := tk' }) (fun _ _ e => e) rfl rfl
  rw [hx0]
  refine wpAny_call_entry slot_split (T := "re.Pattern") ⟨_, g43, rfl⟩ entry_split ?_ (args_split _ _)
  refine split_body (s := { s₁ with toks := tk' }) c₂.X (by (exact om131 hT hlen)) fun pl l tk₃ hpl hlA => ?_
  have c₃ := c₂.ext (s' := { s₁ with heap := s₁.heap.push (listObj (strValues pl).toArray 0), toks := tk₃ }) (fun _ _ e => Heap.get?_push_of_some _ e) rfl rfl
  have el₃ : (s₁.heap.push (listObj (strValues pl).toArray 0)).get? l = some (listObj (strValues pl).toArray 0) := by rw [hlA]; exact Heap.get?_push_size _ rfl
  have ltl : (s.heap.objs.size : Nat) < l := by rw [hlA]; exact c.lt
  have c₄ := c₃.new el₃ ltl
  generalize hs₄ : ({ s₁ with heap := s₁.heap.push (listObj (strValues pl).toArray 0), toks := tk₃ } : Shared) = s₄ at c₄ ⊢
  refine c_storeK c₄ fun s₅ c₅ k₅ => ?_
  obtain ⟨m₅, hm₅, c₅⟩ := c₅.named
  have hself : m₅ sSelf = some (.ref f) := by rw [hm₅]; rfl
  have hparts : m₅ sParts = some (.ref l) := by rw [hm₅]; rfl
  have lt0 : ∀ b o, s.heap.get? b = some o → b ≠ l := fun b o e q => absurd (Heap.lt_size e) (by rw [q]; exact Nat.lt_asymm ltl)
  have lne : ∀ q ∈ [(a, accObj d #[] n), (d, accDict hh tk i t), (ls, listObj (strValues ll).toArray nl)], q.1 ≠ l := fun q hq => by
    simp only [List.mem_cons, List.not_mem_nil, or_false] at hq
    rcases hq with rfl | rfl | rfl
    · exact lt0 _ _ oa
    · exact lt0 _ _ od
    · exact lt0 _ _ ols
  refine wpAny_execs_cons ?_
  refine wpAny_mono (Q := fun fl s' => match fl with
      | .next => ∃ ql nq m, ql.map (·.1) = (flatP (pairs x.cps.toList)).map ofL ∧ m sSelf = some (.ref f) ∧ m sParts = some (.ref l) ∧ Cx w g [a, d, ls] s L m [(l, listObj (strValues ql).toArray nq), (a, accObj d #[] n), (d, accDict hh tk i t), (ls, listObj (strValues ll).toArray nl)] s'
      | _ => False) ?_ ?_ fun _ _ e => e
  · obtain ⟨s0, rest, es, _⟩ := segs_shape x.cps.toList
    have hfp := flat_pairs x.cps.toList
    rw [es] at hpl hfp
    obtain ⟨⟨z0, k0⟩, pl', rfl, hz0, hpl'⟩ : ∃ z pl', pl = z :: pl' ∧ z.1 = ofL s0 ∧ pl'.map (·.1) = rest.map ofL := by
      cases pl with
      | nil => cases hpl
      | cons z pl' => rw [List.map_cons, List.map_cons] at hpl; injection hpl with h1 h2; exact ⟨z, pl', rfl, h1, h2⟩
    dsimp only at hz0
    subst hz0
    have hplen : pl'.length ≤ 1000 := by
      have h1 := segs_length x.cps.toList
      have h2 := congrArg List.length hpl'
      rw [es] at h1
      rw [List.length_map, List.length_map] at h2
      have h3 : x.cps.toList.length = x.length := by rw [Array.length_toList]; rfl
      simp only [List.length_cons] at h1
      (exact om132 hT hlen h1 h2 h3)
    refine wpAny_If ?_
    refine isTrue_plain ?_
    refine Subscript_ ?_
    refine c_name c₅ hparts ?_
    refine c_intK c₅ fun s₆ t₆ c₆ e₆ => ?_
    refine list_item (c₆.get (.head _)) (by decide) (by decide) (v := .str (ofL s0) k0) (by simp [strValues]) ?_
    refine P.truthy_str (by rw [ofL_len]; have : s0.length ≤ x.cps.toList.length := segs_head_len _ _ _ es
                            have h3 : x.cps.toList.length = x.length := by rw [Array.length_toList]; rfl
                            lia) ?_
    have c₇ := c₆.ext (s' := { s₆ with toks := s₆.toks + 1 + 1 }) (fun _ _ e => e) rfl rfl
    rw [ofL_len]
    cases s0 with
    | nil =>
      rw [show (((([] : List Nat).length : Nat) : Int) != 0) = false from rfl, if_neg (by decide)]
      refine wpAny_execs_cons ?_
      refine wpAny_Expr ?_
      refine MethodCall_ ?_
      refine c_name c₇ hparts ?_
      refine getMethod_builtin (T := "list") ⟨_, c₇.get (.head _), rfl⟩ F.plainAttrs_list F.slot_list_pop F.type_list_pop (fun b e => by cases e; exact ⟨_, c₇.get (.head _), rfl⟩) ?_
      refine callWith_method1 ?_
      refine spliced_more (c_intK c₇ fun s₈ t₈ c₈ e₈ => spliced_none ?_)
      refine pop_front (y := .str (ofL []) k0) (c₈.get (.head _)) (by simp [strValues]) (by simp [strValues]; (exact om134 hplen)) fun s₉ n₉ hs₉ e₉ hg₉ ho₉ => ?_
      have c₉ := c₈.upd (Upd.head lne) (Nat.le_of_lt (Nat.lt_of_le_of_lt big ltl)) hs₉ e₉ hg₉ ho₉
      refine wpAny_execs_nil ?_
      refine ⟨pl', n₉, m₅, ?_, hself, hparts, ?_⟩
      · rw [hfp, hpl']; rfl
      · have : (strValues ((ofL [], k0) :: pl')).toArray.eraseIdxIfInBounds 0 = (strValues pl').toArray := by
          apply Array.ext'
          simp [strValues, Array.eraseIdxIfInBounds]
        rw [this] at c₉
        exact c₉
    | cons y s0 =>
      rw [show ((((y :: s0).length : Nat) : Int) != 0) = true from bne_iff_ne.mpr (by rw [List.length_cons]; (exact om135)), if_pos rfl]
      refine wpAny_execs_cons ?_
      refine wpAny_Assign_Subscript ?_
      refine List_ (spliced_more (c_strK c₇ fun s₈ t₈ c₈ e₈ => spliced_none (c_list c₈ fun s₉ u c₉ hu => ?_)))
      refine c_name c₉ hparts ?_
      refine wpAny_Slice (wpAny_evalPart_none (wpAny_evalPart_some (c_intK c₉ fun s₁₀ t₁₀ c₁₀ e₁₀ => wpAny_evalPart_none ?_)))
      have c₁₁ := Cx.new (a := s₁₀.heap.objs.size) (o := sliceObj .none (.int 0 t₁₀) .none) (c₁₀.ext (s' := { s₁₀ with heap := s₁₀.heap.push (sliceObj .none (.int 0 t₁₀) .none) }) (fun _ _ e => Heap.get?_push_of_some _ e) rfl rfl) (Heap.get?_push_size _ rfl) c₁₀.lt
      have hul : u ≠ l := fun e => by
        have h1 := c₈.get (.head _)
        rw [← e] at h1
        exact absurd (Heap.lt_size h1) (by rw [hu]; exact Nat.lt_irrefl _)
      refine setItem_front (c₁₁.get (.tail _ (.tail _ (.head _)))) (c₁₁.get (.head _)) (c₁₁.get (.tail _ (.head _))) hul (by simp [strValues]; (exact om136 hplen)) fun s₁₂ n₁₂ hs₁₂ e₁₂ hg₁₂ ho₁₂ => ?_
      have c₁₂ := (c₁₁.drop (news' := [(l, listObj (strValues ((ofL (y :: s0), k0) :: pl')).toArray 0), (a, accObj d #[] n), (d, accDict hh tk i t), (ls, listObj (strValues ll).toArray nl)]) (fun q hq => .tail _ (.tail _ hq))).upd (Upd.head lne) (Nat.le_of_lt (Nat.lt_of_le_of_lt big ltl)) hs₁₂ e₁₂ hg₁₂ ho₁₂
      refine wpAny_execs_nil ?_
      refine ⟨(ofL [], t₈) :: (ofL (y :: s0), k0) :: pl', n₁₂, m₅, ?_, hself, hparts, ?_⟩
      · rw [hfp, List.map_cons, List.map_cons, hpl']; rfl
      · have : (#[Value.str (ofL []) t₈] ++ (strValues ((ofL (y :: s0), k0) :: pl')).toArray : Array Value) = (strValues ((ofL [], t₈) :: (ofL (y :: s0), k0) :: pl')).toArray := by
          apply Array.ext'
          simp [strValues]
        rw [← this]
        exact c₁₂
  · intro fl s₆ hmid
    match fl, hmid with
    | .next, hm =>
      obtain ⟨ql, nq, m, hql, hself, hparts, c₆⟩ := hm
      refine wpAny_execs_cons ?_
      refine wpAny_For ?_
      refine Call_ ?_
      refine c_built c₆ (v := .type "zip") ?_ ?_ ?_ ?_
      · kernel_rfl
      · kernel_rfl
      · decide
      refine callWith_ST ?_
      refine wpAny_BinOp ?_
      refine List_ (spliced_more ?_)
      refine Call_ ?_
      refine c_built c₆ (v := .builtin "iter") ?_ ?_ ?_ ?_
      · kernel_rfl
      · kernel_rfl
      · decide
      refine PyProof.Rows.callWith_builtin1 (spliced_more (c_name c₆ hparts (spliced_none ?_)))
      refine iter_list (c₆.get (.head _)) ?_
      refine spliced_none ?_
      have c₇ := Cx.new (a := s₆.heap.objs.size) (o := { cls := .type "list_iterator", data := .fields #[.ref l, .int 0 0] }) (c₆.ext (s' := { s₆ with heap := s₆.heap.push { cls := .type "list_iterator", data := .fields #[.ref l, .int 0 0] } }) (fun _ _ e => Heap.get?_push_of_some _ e) rfl rfl) (Heap.get?_push_size _ rfl) c₆.lt
      have hi₇ : (s.heap.objs.size : Nat) < s₆.heap.objs.size := c₆.lt
      have l6 : l < s₆.heap.objs.size := Heap.lt_size (c₆.get (.head _))
      generalize hs₇ : ({ s₆ with heap := s₆.heap.push { cls := .type "list_iterator", data := .fields #[.ref l, .int 0 0] } } : Shared) = s₇ at c₇ ⊢
      have hLit : s₆.heap.objs.size > L := by obtain ⟨oL, _, _, e, _⟩ := c₆.F.ns; exact Heap.lt_size e
      generalize s₆.heap.objs.size = it at c₇ hi₇ l6 hLit ⊢
      refine c_list c₇ fun s₈ u c₈ hu => ?_
      refine c_intK c₈ fun s₉ t₉ c₉ e₉ => ?_
      refine mul_two (c₉.get (.head _)) ?_
      have c₁₀ := Cx.new (a := s₉.heap.objs.size) (o := listObj #[.ref it, .ref it] 0) (c₉.ext (s' := { s₉ with heap := s₉.heap.push (listObj #[.ref it, .ref it] 0) }) (fun _ _ e => Heap.get?_push_of_some _ e) rfl rfl) (Heap.get?_push_size _ rfl) c₉.lt
      refine star_list (c₁₀.get (.head _)) (by simp) fun h₁₁ k₁₁ => ?_
      have c₁₁ := c₁₀.ext (s' := { s₉ with heap := h₁₁ }) k₁₁ rfl rfl
      refine call_zip1 (l := l) (k := 0) ⟨_, c₁₁.get (.tail _ (.tail _ (.head _))), rfl, rfl⟩ fun h₁₂ hz hTI hTO hsz₁₂ k₁₂ => ?_
      have c₁₂ := (c₁₁.ext (s' := { s₉ with heap := h₁₂ }) k₁₂ rfl rfl)
      have it₁₂ : h₁₂.IsListIter it l 0 := ⟨_, c₁₂.get (.tail _ (.tail _ (.head _))), rfl, rfl⟩
      have hl₁₂ : h₁₂.IsList l (strValues ql).toArray := ⟨_, c₁₂.get (.tail _ (.tail _ (.tail _ (.head _)))), rfl, _, rfl⟩
      have hit : it < h₁₁.objs.size := Heap.lt_size (c₁₁.get (.tail _ (.tail _ (.head _))))
      have hLz : h₁₁.objs.size > L := by obtain ⟨oL, _, _, e, _⟩ := c₁₁.F.ns; exact Heap.lt_size e
      refine wpAny_pyIter_zip hz ?_
      have c₁₃ := c₁₂.drop (news' := [(a, accObj d #[] n), (d, accDict hh tk i t), (ls, listObj (strValues ll).toArray nl)]) (fun q hq => .tail _ (.tail _ (.tail _ (.tail _ hq))))
      have hsH : (s.heap.objs.size : Nat) < h₁₁.objs.size := Nat.lt_trans hi₇ hit
      have hqn : (strValues ql).toArray.size = 2 * (pairs x.cps.toList).length := by
        have h1 := congrArg List.length hql
        rw [List.length_map, List.length_map, flatP_length] at h1
        simp [strValues, h1]
      have hqa : ∀ j pr, (pairs x.cps.toList)[j]? = some pr → ∃ k1 k2, (strValues ql).toArray[2 * j]? = some (Value.str (ofL pr.1) k1) ∧ (strValues ql).toArray[2 * j + 1]? = some (Value.str (ofL pr.2) k2) := fun j pr hp => by
        obtain ⟨h1, h2⟩ := flatP_at _ _ _ hp
        have e : ∀ (k : Nat) (v : List Nat), (flatP (pairs x.cps.toList))[k]? = some v → ∃ kk, (strValues ql).toArray[k]? = some (Value.str (ofL v) kk) := fun k v hv => by
          have h3 : (List.map (fun (z : Str × Tok) => z.1) ql)[k]? = some (ofL v) := by rw [hql, List.getElem?_map, hv]; rfl
          rw [List.getElem?_map] at h3
          obtain ⟨⟨y, kk⟩, h4, h5⟩ := Option.map_eq_some_iff.mp h3
          refine ⟨kk, ?_⟩
          dsimp only at h5
          subst h5
          simp [strValues, h4]
        obtain ⟨k1, e1⟩ := e _ _ h1
        obtain ⟨k2, e2⟩ := e _ _ h2
        exact ⟨k1, k2, e1, e2⟩
      generalize hH : h₁₁.objs.size = H at hz hTI hTO hsz₁₂ hsH hLz hit ⊢
      have ltA : ∀ b o, s.heap.get? b = some o → s.heap.objs.size > b := fun b o e => Heap.lt_size e
      have laA := ltA a _ oa
      have ldA := ltA d _ od
      have lsA := ltA ls _ ols
      have ne_of : ∀ a b : Nat, a < b ∨ b < a → ¬ (@Eq Addr a b) := fun a b hab (e : (a : Nat) = b) => by (exact om137 hab e)
      have hab : ∀ {p q : Nat}, p < q → ¬ (@Eq Addr p q) := fun h e => Nat.ne_of_lt h e
      have hba : ∀ {p q : Nat}, q < p → ¬ (@Eq Addr p q) := fun h e => Nat.ne_of_gt h e
      have hlit : (l : Nat) < it := by assumption
      have hitH : (it : Nat) < H := by assumption
      have hlH : (l : Nat) < H := Nat.lt_trans hlit hitH
      have h02 : H < H + 2 := Nat.lt_add_of_pos_right (by decide)
      have D : ZA (H + 2) H (H + 1) it l := ⟨hab h02, hab (Nat.lt_succ_self _), hab (Nat.lt_trans hitH h02), hab (Nat.lt_succ_self _), hba hitH, hba (Nat.lt_succ_of_lt hitH), hab (Nat.lt_trans hlH h02), hab (Nat.lt_succ_of_lt hlH), hab hlit⟩
      have pl0 : (pairs x.cps.toList).length ≤ 250 := by
        have h1 := pairs_length x.cps.toList
        have h3 : x.cps.toList.length = x.length := by rw [Array.length_toList]; rfl
        (exact om138 hT hlen h1 h3)
      have big' : (238 : Nat) ≤ s.heap.objs.size := big
      have hgnone : ∀ b : Nat, s.heap.objs.size ≤ b → g.get? b = none := fun b hb => by
        cases z : g.get? b with
        | none => rfl
        | some o' => exact absurd (Heap.lt_size (c.B.of_ _ _ z)) (Nat.not_lt.mpr hb)
      refine r_forT (s := { s₉ with heap := h₁₂ }) (by exact r.hd) (zip1_walk (by exact r.hd) (H + 2) H (H + 1) it l D (strValues ql).toArray (pairs x.cps.toList).length hqn) (fun j vals ⟨v1, v2, _, _, e⟩ => ⟨v1, v2, e⟩)
        (fun b hb => ?_) ?_
        (AsI x sp W i f a d ls H)
        ?_ ?_ ?_ c₁₃ ?_ ?_ ⟨hz, hTI, ⟨_, _, hTO⟩, it₁₂, hl₁₂⟩
      · simp only [List.mem_cons, List.not_mem_nil, or_false] at hb
        rcases hb with rfl | rfl | rfl
        · exact ⟨by (exact om139 la hH hsz₁₂ hsH hLz laA), hgnone _ (by (exact om140 hsz₁₂ hsH)), ne_of _ _ (by (exact om141 hsz₁₂ hLz))⟩
        · exact ⟨by (exact om142 la hH hsz₁₂ hsH hLz laA), hgnone _ (by (exact om143 hsz₁₂ hsH)), ne_of _ _ (by (exact om144 hsz₁₂ hLz))⟩
        · exact ⟨by (exact om145 la laA hi₇ hLit), hgnone _ (by (exact Nat.le_of_lt (by assumption))), ne_of _ _ (by (exact om146 hLit))⟩
      · intro hb
        have hLl : s.heap.objs.size = L := c.hL
        simp only [List.mem_cons, List.not_mem_nil, or_false] at hb
        rcases hb with hb | hb | hb | hb | hb <;> exact absurd hb (ne_of _ _ (by lia))
      · rintro j m news h h' oL ⟨its, n, ps, i', hh, tk, t, ll, nl, e1, e2, e3, P, hU, e4⟩ eL k
        refine ⟨its, n, ps, i', hh, tk, t, ll, nl, e1, e2, e3, P.keepIn fun T o hT e => k T o ?_ ?_ e, hU, e4⟩
        · have := hU T hT
          simp only [List.mem_cons, List.not_mem_nil, or_false]
          rintro (h1 | h1 | h1) <;> exact absurd h1 (ne_of _ _ (by lia))
        · have := hU T hT
          exact ne_of _ _ (by (exact om154 hsz₁₂ hLz this))
      · rintro j v1 v2 m news s' hj ⟨y1, y2, g1, g2, ev⟩ ⟨its, n', ps, i', hh', tk', t', ll', nl', e1, e2, e3, P, hU, b1, b2, b3, b4, b5⟩ hSt c'
        subst e3
        obtain ⟨pr, hpr⟩ : ∃ pr, (pairs x.cps.toList)[j]? = some pr := ⟨_, List.getElem?_eq_getElem hj⟩
        obtain ⟨k1, k2, f1, f2⟩ := hqa j pr hpr
        rw [g1] at f1
        rw [g2] at f2
        cases f1
        cases f2
        have ev1 : v1 = _ := congrArg (fun z : Array Value => z.getD 0 .none) ev
        have ev2 : v2 = _ := congrArg (fun z : Array Value => z.getD 1 .none) ev
        have ev1' : v1 = Value.str (ofL pr.1) k1 := ev1
        have ev2' : v2 = Value.str (ofL pr.2) k2 := ev2
        clear ev1 ev2
        subst ev1' ev2'
        have hq : (ofL pr.1, ofL pr.2) ∈ qsOf x.cps.toList := List.mem_map.mpr ⟨pr, List.mem_of_getElem? hpr, rfl⟩
        have hqs := qsOf_size hq
        have hxl : x.cps.toList.length = x.length := by rw [Array.length_toList]; rfl
        have hzs : sizes (ps ++ [(ofL pr.1, ofL pr.2)]) = sizes ps + sizeOf' (ofL pr.1, ofL pr.2) := by rw [sizes_append]; simp [sizes]
        have hj' : (j : Int) * 300 ≤ 75000 := by (exact om155 hqn pl0 hj)
        refine wpAny_execs_cons ?_
        refine wpAny_Expr ?_
        refine MethodCall_ ?_
        refine c_name c' ((if_neg (by decide)).trans ((if_neg (by decide)).trans e2)) ?_
        refine fm_meth (q := 113) c'.X (fmI (c'.base gf) (c'.base gfd)) ?_
        refine callWith_K (K := KK w) c'.X (by kernel_rfl) ?_
        refine spliced_more (c_name c' ((if_neg (by decide)).trans (if_pos rfl)) (spliced_more (c_name c' (if_pos rfl) (spliced_none ?_))))
        refine ⟨c'.X, ?_⟩
        refine append_ok (lines := ll'.map (·.1)) c'.ok r.deep.le ⟨lf, lfd, c'.base gf, p, c'.base gfd⟩ ⟨la, ld, c'.get (.head _), hh', tk', t', c'.get (.tail _ (.head _))⟩ P ⟨lls, ll', nl', c'.get (.tail _ (.tail _ (.head _))), rfl⟩
          (by rcases b3 with b3 | b3 <;> lia) (by (exact om158 hT hlen hqn pl0 hj b4 hqs hxl hzs hj')) (by (exact om159 hqn pl0 hj b2 hj')) (by rw [List.length_map]; (exact om159 hqn pl0 hj b1 hj')) (fun q hq' => ?_) fun s'' its2 n2 ps2 i2 lines2 hch O2 S2 Y2 P2 L2 hmem => ?_
        · rcases List.mem_append.mp hq' with hq' | hq'
          · exact b5 q hq'
          · rw [List.mem_singleton] at hq'; subst hq'; exact hne _ hq
        · refine wpAny_execs_nil ?_
          obtain ⟨_, _, oa2, hh2, tk2, t2', od2⟩ := Y2
          obtain ⟨_, ll2, nl2, ols2, hl2⟩ := L2
          have na := (c'.N (a, accObj d its n') (.head _)).2
          have nd := (c'.N (d, accDict hh' tk' i' t') (.tail _ (.head _))).2
          have nls := (c'.N (ls, listObj (strValues ll').toArray nl') (.tail _ (.tail _ (.head _)))).2
          have c'' := c'.call (news' := [(a, accObj d its2 n2), (d, accDict hh2 tk2 i2 t2'), (ls, listObj (strValues ll2).toArray nl2)]) S2 O2 (fun x hx => by
            simp only [List.mem_cons, List.not_mem_nil, or_false] at hx
            rcases hx with rfl | rfl | rfl <;> assumption) (fun q hq => by
            simp only [List.mem_cons, List.not_mem_nil, or_false] at hq
            rcases hq with rfl | rfl | rfl
            · exact ⟨oa2, na⟩
            · exact ⟨od2, nd⟩
            · exact ⟨ols2, nls⟩) (fun q hq => by
            simp only [List.mem_cons, List.not_mem_nil, or_false] at hq
            rcases hq with rfl | rfl | rfl <;> assumption)
          obtain ⟨cb1, cb2, cb3, cb4, cb5⟩ := chunk_bound hch
          rw [List.length_map] at cb1
          have hz' : s'.heap.objs.size > H + 2 := Heap.lt_size hSt.1
          refine ⟨_, _, ⟨its2, n2, ps2, i2, hh2, tk2, t2', ll2, nl2, ?_, (if_neg (by decide)).trans ((if_neg (by decide)).trans e2), rfl, P2, fun U hU' => ?_, ?_, by (exact om160 b2 cb2), ?_, by (exact om161 hT hlen b4 hqs hxl hzs cb4), cb5 fun q hq' => ?_⟩, c'', ?_, ?_⟩
          · rw [List.take_add_one, List.foldl_append, e1]
            have : (qsOf x.cps.toList)[j]? = some (ofL pr.1, ofL pr.2) := by unfold qsOf; rw [List.getElem?_map, hpr]; rfl
            rw [this]
            show chunk W sp.cps.toList _ _ = _
            rw [hch, hl2]
          · rcases hmem U hU' with h1 | h1
            · exact hU U h1
            · have h1' : s'.heap.objs.size ≤ U := h1
              (exact om162 hsz₁₂ hz' h1)
          · have := congrArg List.length hl2
            rw [List.length_map] at this
            (exact om163 b1 cb1 this)
          · rcases cb3 with h1 | h1
            · rw [h1]; exact b3
            · exact .inr h1
          · rcases List.mem_append.mp hq' with hq' | hq'
            · exact b5 q hq'
            · rw [List.mem_singleton] at hq'; subst hq'; exact hne _ hq
          · intro q hq hb
            simp only [List.mem_cons, List.not_mem_nil, or_false] at hq hb
            rcases hq with rfl | rfl | rfl <;> dsimp only at hb <;> rcases hb with hb | hb | hb <;> exact absurd hb (ne_of _ _ (by lia))
          · intro b hb o e
            have hLl : s.heap.objs.size = L := c.hL
            simp only [List.mem_cons, List.not_mem_nil, or_false] at hb
            have hb3 : s.heap.objs.size ≤ b := by rcases hb with rfl | rfl | rfl | rfl | rfl <;> lia
            refine S2.keep b o ?_ (not_tab (Nat.le_trans big' hb3)) e
            simp only [List.mem_cons, List.not_mem_nil, or_false]
            rintro (h1 | h1 | h1) <;> exact absurd h1 (ne_of _ _ (by lia))
      · rintro m news s' ⟨its, n, ps, i', hh, tk, t, ll, nl, e1, e2, e3, P, hU, e4⟩ c'
        subst e3
        refine wpAny_execs_nil ?_
        refine wpAny_execs_nil ?_
        rw [List.take_of_length_le (by unfold qsOf; rw [List.length_map]; exact Nat.le_refl _)] at e1
        exact h s' its n ps i' (ll.map (·.1)) e1 c'.ok c'.st ⟨la, ld, c'.get (.head _), hh, tk, t, c'.get (.tail _ (.head _))⟩ P ⟨lls, ll, nl, c'.get (.tail _ (.tail _ (.head _))), rfl⟩
      · refine ⟨#[], n, [], i, hh, tk, t, ll, nl, by rw [hl]; rfl, hself, rfl, ⟨rfl, fun j q hq => by simp at hq⟩, fun U hU => by simp at hU, ?_, Nat.le_refl _, .inl rfl, by simp [sizes], fun q hq => by simp at hq⟩
        have := congrArg List.length hl
        rw [List.length_map] at this
        rw [this]; exact Nat.le_refl _
      · intro q hq hb
        simp only [List.mem_cons, List.not_mem_nil, or_false] at hq hb
        rcases hq with rfl | rfl | rfl <;> dsimp only at hb <;> rcases hb with hb | hb | hb <;> exact absurd hb (ne_of _ _ (by lia))
end
end Mine
end

section
open PySem PySem.W PySem.Calls PyProof.Rows
open PySem.Builtin PySem.Builtin.ObjectAttr
set_option maxRecDepth 100000
set_option maxHeartbeats 8000000
namespace Mine
namespace S
theorem fn_ga : Slot "function" "__getattribute__" "object.__getattribute__" :=
  .of (owner := "object") (n := "__getattribute__") (by rw [typeLookup_type, builtinLookup_eq_fast]; kernel_rfl) (by decide +kernel) (by decide +kernel) (by decide +kernel)
    (by first | exact .inl (by decide +kernel) | exact .inr (by decide +kernel)) (by rw [isSubtype_type]; kernel_rfl)
theorem fn_sa : Slot "function" "__setattr__" "object.__setattr__" :=
  .of (owner := "object") (n := "__setattr__") (by rw [typeLookup_type, builtinLookup_eq_fast]; kernel_rfl) (by decide +kernel) (by decide +kernel) (by decide +kernel)
    (by first | exact .inl (by decide +kernel) | exact .inr (by decide +kernel)) (by rw [isSubtype_type]; kernel_rfl)
theorem fn_hook : typeLookup (.type "function") "__getattr__" = pure none := by rw [typeLookup_type, builtinLookup_eq_fast]; kernel_rfl
theorem fn_span : typeLookup (.type "function") "span" = pure none := by rw [typeLookup_type, builtinLookup_eq_fast]; kernel_rfl
theorem fn_search : typeLookup (.type "function") "search" = pure none := by rw [typeLookup_type, builtinLookup_eq_fast]; kernel_rfl
theorem fn_mro : mroOf (.type "function") = pure [.type "function", .type "object"] := by rw [mroOf_type]; kernel_rfl
theorem fn_passes (self : Value) : refuseLoop self "__setattr__" [.type "function", .type "object"] = pure () := by kernel_rfl
theorem fn_bool : typeLookup (.type "function") "__bool__" = pure none := by rw [typeLookup_type, builtinLookup_eq_fast]; kernel_rfl
theorem fn_len : typeLookup (.type "function") "__len__" = pure none := by rw [typeLookup_type, builtinLookup_eq_fast]; kernel_rfl
end S
noncomputable abbrev fnObj (fd : FuncData) (d : Option Addr) : Obj := { cls := .type "function", dict := d, data := .func fd }
section
variable {prog : Program} {w : World} {A : Around} {E : Value → Shared → Prop} {s : Shared} {x D : Addr} {fd : FuncData}
theorem fn_true {d : Option Addr} {Q : Bool → Shared → Prop} (hx : s.heap.get? x = some (fnObj fd d)) (h : Q true s) : wpAny (model prog w) A (truthy (.ref x)) Q E s := by
  have hT : s.TypeIs (.ref x) "function" := ⟨_, hx, rfl⟩
  unfold truthy
  refine wpAny_bind (m := callSpecial? _ _) ?_
  simp only [callSpecial?]
  refine wpAny_bind (wpAny_specialOf hT S.fn_bool (wpAny_pure ?_))
  dsimp only
  refine wpAny_bind (wpAny_specialOf hT S.fn_len ?_)
  exact wpAny_pure h
theorem fn_getAttr {name : Str} {ex : Bool} {v : Value} {tk : Tok} {hh : Int} {Q : Value → Shared → Prop} (hx : s.heap.get? x = some (fnObj fd (some D))) (hd : s.heap.get? D = some (dictOf [⟨hh, .str name tk, v⟩] 1)) (hn : typeLookup (.type "function") name = pure none)
    (hv : handedIn v = true) (hl : lookIn name (dictOf [⟨hh, .str name tk, v⟩] 1) = some (some v)) (h : Q v { s with toks := s.toks + 1 }) : wpAny (model prog w) A (getAttr (.ref x) name ex) Q E s := by
  obtain ⟨hp, g, d, t, os⟩ := s
  have hT : ∀ t', (⟨hp, g, d, t', os⟩ : Shared).TypeIs (.ref x) "function" := fun _ => ⟨_, hx, rfl⟩
  unfold getAttr getAttrBy
  refine wpAny_bind (wpAny_mkText (wpAny_holding (wpAny_bind (wpAny_typeOf (hT _) (wpAny_bind (wpAny_of_eq S.fn_ga.lookup ?_))))))
  show wpAny _ _ (getAttrByItsOwn _ _ _ _ _ _) _ _ _
  unfold getAttrByItsOwn hookBefore
  refine wpAny_bind (wpAny_pure ?_)
  refine wpAny_bind (wpAny_attempt (wpAny_holding ?_))
  unfold callGetattribute
  rw [if_neg (by simp [onTheHeap])]
  unfold boundAndCalled
  refine wpAny_bind (wpAny_of_eq (S.fn_ga.bind _) ?_)
  refine wpAny_call_entry S.fn_ga (hT _) F.entry_object_getattribute ?_ (F.args_object_getattribute_2 _ _)
  unfold Builtin.«object.__getattribute__»
  refine wpAny_bind (m := slotArgs _ _ _) (wpAny_pure ?_)
  refine wpAny_bind (m := attrName _) (wpAny_pure ?_)
  refine wpAny_bind (wpAny_typeOf (hT _) ?_)
  unfold ObjectAttr.find
  refine wpAny_bind (wpAny_bind (wpAny_of_eq hn (wpAny_bind (wpAny_pure (wpAny_bind (wpAny_pure ?_))))))
  unfold ownThenClass inOwnDict ObjectAttr.ownDict
  refine wpAny_bind (wpAny_bind (wpAny_bind (wpAny_loadPart hx ?_)))
  unfold instanceDict
  refine wpAny_bind (wpAny_loadPart hx (wpAny_pure ?_))
  unfold inDict nsGet
  refine wpAny_bind (wpAny_loadPart hd ?_)
  rw [nsLook_of hl]
  refine wpAny_pure (wpAny_bind (wpAny_rule (wpAny_pure ?_)))
  refine wpAny_pure ⟨_, rfl, ?_⟩
  show wpAny _ _ (handedOut v) _ _ _
  rw [handedOut_of hv]
  exact wpAny_pure h
theorem fn_method {name : Str} {pl : Sem Bool} {v : Value} {tk : Tok} {hh : Int} {Q : Value × List Value → Shared → Prop} (hx : s.heap.get? x = some (fnObj fd (some D))) (hd : s.heap.get? D = some (dictOf [⟨hh, .str name tk, v⟩] 1)) (hn : typeLookup (.type "function") name = pure none)
    (hv : handedIn v = true) (hl : lookIn name (dictOf [⟨hh, .str name tk, v⟩] 1) = some (some v)) (h : Q (v, []) { s with toks := s.toks + 1 }) : wpAny (model prog w) A (getMethod (.ref x) name pl) Q E s := by
  have hT : s.TypeIs (.ref x) "function" := ⟨_, hx, rfl⟩
  unfold getMethod
  refine wpAny_bind (wpAny_specialOf hT S.fn_ga.lookup ?_)
  show wpAny _ A (if (Manifest.canonical "object.__getattribute__" != "object.__getattribute__") = true then _ else _) Q E s
  rw [F.canon_object_ga, if_neg Bool.false_ne_true]
  refine wpAny_bind (wpAny_specialOf hT S.fn_hook ?_)
  refine wpAny_bind (wpAny_specialOf hT hn ?_)
  exact wpAny_bind (fn_getAttr hx hd hn hv hl (wpAny_pure h))
theorem fn_setAttr {name : Str} {v : Value} {Q : Unit → Shared → Prop} (hx : s.heap.get? x = some (fnObj fd none)) (hn : typeLookup (.type "function") name = pure none)
    (e : ∀ hh key, Obj.putName name hh key v emptyDict = dictOf [⟨hh, key, v⟩] 1)
    (h : ∀ s' hh tk, (∀ b o, b ≠ x → s.heap.get? b = some o → s'.heap.get? b = some o) → s'.heap.get? x = some (fnObj fd (some s.heap.objs.size)) → s'.heap.get? s.heap.objs.size = some (dictOf [⟨hh, .str name tk, v⟩] 1) → s'.heap.objs.size = s.heap.objs.size + 1 → s'.gens = s.gens → s'.os = s.os → Q () s') :
    wpAny (model prog w) A (setAttr (.ref x) name v) Q E s := by
  obtain ⟨hp, g, d, t, os⟩ := s
  have hT : ∀ t', (⟨hp, g, d, t', os⟩ : Shared).TypeIs (.ref x) "function" := fun _ => ⟨_, hx, rfl⟩
  unfold setAttr
  refine wpAny_bind (wpAny_mkText (wpAny_bind (wpAny_callSpecial?_slot (name := Str.ofString "__setattr__") (hT _) S.fn_sa (wpAny_call_entry S.fn_sa (hT _) F.store_object.entry ?_ (F.store_object.args (.ref x) (.str name t) v)))))
  rw [osa_eq, refuse_eq]
  refine wpAny_bind (wpAny_bind (wpAny_typeOf (hT _) (wpAny_bind (wpAny_of_eq S.fn_mro ?_))))
  rw [S.fn_passes]
  refine wpAny_pure (wpAny_bind (wpAny_typeOf (hT _) (wpAny_bind (wpAny_of_eq hn (wpAny_bind (wpAny_pure ?_))))))
  show wpAny _ _ (storeInOwnDict _ _ _ _ _ _) _ _ _
  unfold storeInOwnDict
  refine wpAny_bind (m := ownStreamTells _ _) (wpAny_pure ?_)
  rw [if_neg (by decide)]
  refine wpAny_bind (m := ownDictForStores _) ?_
  unfold ownDictForStores instanceDict
  refine wpAny_bind (wpAny_loadPart hx ?_)
  dsimp only
  have hz : (!true || !typeHasDict (.type "function")) = false := by decide +kernel
  rw [hz, if_neg (by decide)]
  refine wpAny_bind (wpAny_alloc ?_)
  have hx₁ : (hp.push emptyDict).get? x = some (fnObj fd none) := Heap.get?_push_of_some _ hx
  refine wpAny_bind (wpAny_update hx₁ ?_)
  have hxD : x ≠ hp.objs.size := Nat.ne_of_lt (Heap.lt_size hx)
  have hx₂ : ((hp.push emptyDict).update x (fun o => { o with dict := some hp.objs.size })).get? x = some (fnObj fd (some hp.objs.size)) := by
    rw [Heap.get?_update_self _ hx₁ rfl]
  have hs₂ : Heap.SameBut x (hp.push emptyDict) ((hp.push emptyDict).update x (fun o => { o with dict := some hp.objs.size })) := Heap.SameBut.update ..
  have hd₂ : ((hp.push emptyDict).update x (fun o => { o with dict := some hp.objs.size })).get? hp.objs.size = some emptyDict := hs₂.extBut _ _ hxD.symm (Heap.get?_push_size _ rfl)
  have hz₂ : ((hp.push emptyDict).update x (fun o => { o with dict := some hp.objs.size })).objs.size = hp.objs.size + 1 := by rw [hs₂.1, Heap.size_push]
  show wpAny _ _ (dictMade (.type "function") x hp.objs.size) _ _ _
  unfold dictMade
  dsimp only
  rw [if_neg (by decide +kernel)]
  refine wpAny_bind (wpAny_pure (wpAny_pure ?_))
  show wpAny _ _ (storeInDict hp.objs.size (.str name t) name v) _ _ _
  unfold storeInDict newKeyGuard
  refine wpAny_bind (wpAny_pure ?_)
  generalize hH : ((hp.push emptyDict).update x (fun o => { o with dict := some hp.objs.size })) = H at hx₂ hs₂ hd₂ hz₂ ⊢
  unfold nsSet
  refine wpAny_bind (wpAny_bind (wpAny_bind (wpAny_askSetting (wpAny_pure (wpAny_bind (wpAny_mkText (wpAny_bind (wpAny_loadPart hd₂ ?_))))))))
  dsimp only
  rw [aRefKeyMayBeTheName_at]
  rw [if_neg (by simp)]
  refine wpAny_updatePart hd₂ ?_
  have D' := Heap.get?_update_self (h := H) (Obj.putName name (if name.cps.isEmpty then 0 else reduceHash (w.params.strHash name.cps)) (.str name (t + 1)) v) hd₂ (by rw [e]; rfl)
  rw [e] at D'
  have hs₃ : Heap.SameBut hp.objs.size H (H.update hp.objs.size (Obj.putName name (if name.cps.isEmpty then 0 else reduceHash (w.params.strHash name.cps)) (.str name (t + 1)) v)) := Heap.SameBut.update ..
  refine wpAny_bind (wpAny_lookBehind D' (pastItsLine_dict (by rw [List.size_toArray, sizeLine_eq]; simp)) ?_)
  refine wpAny_pure ⟨_, rfl, wpAny_pure ?_⟩
  exact h _ _ _ (fun b o hb e => hs₃.extBut b o (Nat.ne_of_lt (Heap.lt_size e)) (hs₂.extBut b o hb (Heap.get?_push_of_some _ e))) (hs₃.extBut _ _ hxD hx₂) D' (hs₃.1.trans hz₂) rfl rfl
end
end Mine
end

section
open PySem PySem.W PySem.Calls PyProof.Rows
set_option maxRecDepth 100000
set_option maxHeartbeats 8000000
namespace Mine
noncomputable def CodesIn (qf : Nat → Str) (ps : Array Value) (h : Heap) : Prop :=
  TriplesOk ps.toList ∧ ∀ (pos : Pos) cv, codeAmong pos ps.toList = some cv → ∃ c o vs t, cv = .ref c ∧ (238 : Nat) ≤ c ∧ h.get? c = some o ∧ o.data = .fields vs ∧ vs[1]? = some (.str (qf pos.line) t)
noncomputable def CodeD (o : Obj) (vs : Array Value) : Prop := o.data = .fields vs ∧ ∃ (q : Str) (t : Tok), vs[1]? = some (.str q t)
theorem CodesIn.keep {qf : Nat → Str} {ps : Array Value} {h h' : Heap} (C : CodesIn qf ps h) (k : ∀ b o vs, (238 : Nat) ≤ b → CodeD o vs → h.get? b = some o → h'.get? b = some o) : CodesIn qf ps h' := by
  refine ⟨C.1, fun pos cv e => ?_⟩
  obtain ⟨c, o, vs, t, e1, e2, e3, e4, e5⟩ := C.2 pos cv e
  exact ⟨c, o, vs, t, e1, e2, k c o vs e2 ⟨e4, _, _, e5⟩ e3, e4, e5⟩
noncomputable def CodeHi (h : Heap) (cv : Value) (q : Str) : Prop := ∃ c o vs t, cv = .ref c ∧ (238 : Nat) ≤ c ∧ h.get? c = some o ∧ o.data = .fields vs ∧ vs[1]? = some (.str q t)
theorem CodeHi.keep {h h' : Heap} {cv : Value} {q : Str} (C : CodeHi h cv q) (k : ∀ b o vs, (238 : Nat) ≤ b → CodeD o vs → h.get? b = some o → h'.get? b = some o) : CodeHi h' cv q := by
  obtain ⟨c, o, vs, t, e1, e2, e3, e4, e5⟩ := C
  exact ⟨c, o, vs, t, e1, e2, k c o vs e2 ⟨e4, _, _, e5⟩ e3, e4, e5⟩
theorem CodeHi.rec {h : Heap} {cv : Value} {q : Str} (C : CodeHi h cv q) : h.CodeRec cv q := by
  obtain ⟨c, o, vs, t, e1, e2, e3, e4, e5⟩ := C
  exact ⟨c, o, vs, t, e1, e3, e4, e5⟩
theorem CodesIn.rec {qf : Nat → Str} {ps : Array Value} {h : Heap} (C : CodesIn qf ps h) {pos : Pos} {cv : Value} (e : codeAmong pos ps.toList = some cv) : CodeHi h cv (qf pos.line) := C.2 pos cv e
theorem among_snoc {pos : Pos} {l c : Int} {v cv : Value} : ∀ (xs : List Value), TriplesOk xs → codeAmong pos (xs ++ [rawInt l, rawInt c, v]) = some cv → codeAmong pos xs = some cv ∨ (l = pos.line ∧ cv = v)
  | [], _, h => by
    unfold codeAmong rawInt at h
    dsimp only [List.nil_append] at h
    split at h
    · rename_i q
      rw [Bool.and_eq_true] at q
      cases h
      exact .inr ⟨eq_of_beq q.1, rfl⟩
    · cases h
  | .int a t :: .int b u :: x :: rest, ht, h => by
    simp only [List.cons_append, codeAmong] at h ⊢
    split at h
    · rename_i q; rw [if_pos q]; exact .inl h
    · rename_i q; rw [if_neg q]; exact among_snoc rest ht h
theorem CodesIn.add {qf : Nat → Str} {ps : Array Value} {h : Heap} (C : CodesIn qf ps h) {pos : Pos} {c : Addr} (hc : (238 : Nat) ≤ c) (hr : h.CodeRec (.ref c) (qf pos.line)) : CodesIn qf (ps ++ #[rawInt pos.line, rawInt pos.col, .ref c]) h := by
  have e : (ps ++ #[rawInt pos.line, rawInt pos.col, .ref c]).toList = ps.toList ++ [rawInt pos.line, rawInt pos.col, .ref c] := by simp
  refine ⟨by rw [e]; exact TriplesOk_snoc _ _ _ _ C.1, fun pos' cv h' => ?_⟩
  rw [e] at h'
  rcases among_snoc _ C.1 h' with h1 | ⟨h1, rfl⟩
  · exact C.2 pos' cv h1
  · obtain ⟨c', o, vs, t, e1, e2, e3, e4⟩ := hr
    cases e1
    have : pos'.line = pos.line := by have : ((pos.line : Nat) : Int) = pos'.line := h1; (exact om201 h1)
    exact ⟨c, o, vs, t, rfl, hc, e2, e3, by rw [this]; exact e4⟩
section
variable {w : World} {A : Around} {E : Value → Shared → Prop} {g : Heap} {ws : List Addr} {s₀ s : Shared} {L : Addr} {m : Str → Option Value} {news rest : List (Addr × Obj)} {Q : Value → Shared → Prop}
theorem ba_at (w : World) {h : Heap} {mg : Str → Option Value} {P : Addr} (X : (KK w).In h) (G : h.Ns mainGlobals mg) (hP : (4 : Addr) ≠ P) : h.BuiltinsAt mg P := by
  have ho : (KK w).lookup 4 = some ⟨.type "module", some builtinsNs, .plain, #[]⟩ := by kernel_rfl
  refine ⟨4, _, mg_of X G (n := "__builtins__") (v := .ref 4) ?_, by decide, by decide, hP, X _ _ ho, rfl, rfl, rfl⟩
  · kernel_rfl
theorem c_mk {cn : Str} {cs : Scope} {fa : Addr} {cl : List (Str × Addr)} {cc P : Addr} {dV : Value} {ps : Array Value} {qf : Nat → Str} {name qual : Str} {params : Arguments} {body : FuncBody} {scope : Scope} {pos : Pos} {fl : Nat} {clos : List (Str × Addr)}
    (c : Cx w g ws s₀ L m ((P, tabObj ps) :: rest) s) (hr : ∀ p ∈ rest, p.1 ≠ P) (hP' : P = 213 ∨ P = 220) (hd : codeHdIn (KK w) cc P = true) (C : CodesIn qf ps s.heap) (hq : qf pos.line = qual)
    (hcl : closureFor scope (envX cn cs L fa (.ref cc) cl) = pure clos) (hP4 : (4 : Addr) ≠ P)
    (h : ∀ s' f cv ctv doc pm ps', Cx w g ws s₀ L m ((f, fnObj (kdv_fn name qual params body scope clos dV doc pm cv ctv) none) :: (P, tabObj ps') :: rest) s' → CodesIn qf ps' s'.heap → CodeHi s'.heap cv qual → s.heap.objs.size ≤ f →
      (∀ b o, b ≠ P → s.heap.get? b = some o → s'.heap.get? b = some o) → Q (.ref f) s') :
    wpAny (model PG w) A (makeTail name qual params body scope (envX cn cs L fa (.ref cc) cl) dV .none none pos fl) Q E s := by
  obtain ⟨_, _, mg, mb, T⟩ := c.gd.T
  have hP : Hi P := .inr hP'
  have hPs := c.get (.head _)
  have hG : mainGlobals ≠ P := fun q => by
    obtain ⟨o, es, ep, e, hd, _⟩ := T.g
    rw [q, hPs] at e; cases e; cases hd
  have hB := ba_at w c.X T.g hP4
  have hC := codeHd_of_K c.X hd
  cases hf : codeAmong pos ps.toList with
  | some cv =>
    refine kdv_makeTailHit hcl rfl T.g rfl hC hPs C.1 hf hB fun ctv doc h' tk k hsz => ?_
    have c' := (c.ext (s' := { s with heap := h'.push (fnObj (kdv_fn name qual params body scope clos dV doc ((mg "__name__").getD .none) cv ctv) none), toks := tk }) (fun b o e => Heap.get?_push_of_some _ (k b o e)) rfl rfl).new (Heap.get?_push_size h' (o := fnObj (kdv_fn name qual params body scope clos dV doc ((mg "__name__").getD .none) cv ctv) none) rfl) (Nat.lt_of_lt_of_le c.lt hsz)
    refine h _ _ cv ctv doc _ ps c' (C.keep fun b o vs _ _ e => Heap.get?_push_of_some _ (k b o e)) ?_ hsz fun b o _ e => Heap.get?_push_of_some _ (k b o e)
    rw [← hq]
    exact ((C.keep fun b o vs _ _ e => Heap.get?_push_of_some _ (k b o e)).rec hf)
  | none =>
    refine kdv_makeTail hcl rfl T.g rfl hC hPs C.1 hf hG hB fun c' ctv doc h' tk hx hge hlt hrec htb => ?_
    have big : (238 : Nat) ≤ s.heap.objs.size := Nat.le_trans c.big (c.hL ▸ Nat.le_of_lt c.lt)
    have hle : s.heap.objs.size ≤ h'.objs.size := Nat.le_trans hge (Nat.le_of_lt hlt)
    have hgP : g.get? P = none := (c.N _ (.head _)).2.2
    have hLP : P ≠ L := (c.N _ (.head _)).2.1
    have c₁ : Cx w g ws s₀ L m ((P, tabObj (ps ++ #[rawInt pos.line, rawInt pos.col, .ref c'])) :: rest) { s with heap := h', toks := tk } :=
      ⟨c.B, c.big, c.hL, ⟨c.F.ns.at' fun o e => hx L o hLP.symm e, fun b o e => hx b o (fun q => by rw [q, hgP] at e; cases e) (c.F.keep b o e), c.F.above⟩, fun p hp => by
        cases hp with
        | head => exact ⟨htb, hLP, hgP⟩
        | tail _ hp => exact ⟨hx _ _ (hr p hp) (c.N p (.tail _ hp)).1, (c.N p (.tail _ hp)).2⟩, c.T.keeps fun b o hb e => hx b o (fun q => hP.not_tab (q ▸ hb)) e, c.bare, c.os, fun p hp => by
        cases hp with
        | head => exact hP
        | tail _ hp => exact c.hi p (.tail _ hp)⟩
    have c₂ := (c₁.ext (s' := { s with heap := h'.push (fnObj (kdv_fn name qual params body scope clos dV doc ((mg "__name__").getD .none) (.ref c') ctv) none), toks := tk }) (fun b o e => Heap.get?_push_of_some _ e) rfl rfl).new (Heap.get?_push_size h' (o := fnObj (kdv_fn name qual params body scope clos dV doc ((mg "__name__").getD .none) (.ref c') ctv) none) rfl) (Nat.lt_of_lt_of_le c.lt hle)
    have hrec' : h'.CodeRec (.ref c') (qf pos.line) := hq ▸ hrec
    have C₁ : CodesIn qf ps h' := C.keep fun b o vs hb hd e => hx b o (fun q => by
      rw [q, hPs] at e
      rw [q] at hb
      rcases hP' with rfl | rfl
      · exact absurd hb (by decide)
      · exact absurd hb (by decide)) e
    refine h _ _ (.ref c') ctv doc _ _ c₂ ((C₁.add (Nat.le_trans big hge) hrec').keep fun b o vs _ _ e => Heap.get?_push_of_some _ e) (CodeHi.keep (h := h') (by obtain ⟨cc', o, vs, t, e1, e2, e3, e4⟩ := hrec; cases e1; exact ⟨_, o, vs, t, rfl, Nat.le_trans big hge, e2, e3, e4⟩) fun b o vs _ _ e => Heap.get?_push_of_some _ e) hle fun b o hb e => Heap.get?_push_of_some _ (hx b o hb e)
end
end Mine
end

section
open PySem PySem.W PySem.Calls PyProof.Rows
set_option maxRecDepth 100000
set_option maxHeartbeats 8000000
namespace Mine
theorem CellsAre.above {cm : Str → Option Value} {n : Nat} : ∀ {cs : List (Str × Addr)} {cells : List (Addr × Obj)}, CellsAre cm cs cells → (∀ q ∈ cs, n ≤ q.2) → ∀ p ∈ cells, n ≤ p.1
  | _, _, .nil, _, p, hp => nomatch hp
  | _, _, .cons _ r, h, p, hp => by
    cases hp with
    | head => exact h _ List.mem_cons_self
    | tail _ hp => exact CellsAre.above r (fun q hq => h q (List.mem_cons_of_mem _ hq)) p hp
theorem cells_ge (m : Nat) : ∀ (ns : List (Str × NameKind)) (n : Nat) (acc : List (Str × Addr)), m ≤ n → (∀ q ∈ acc, m ≤ q.2) → ∀ q ∈ cellsFrom n ns acc, m ≤ q.2
  | [], _, _, _, h => h
  | (x, k) :: r, n, acc, hn, h => by
    unfold cellsFrom
    split
    · exact cells_ge m r (n + 1) _ (Nat.le_succ_of_le hn) (fun q hq => by cases hq with | head => exact hn | tail _ hq => exact h q hq)
    · exact cells_ge m r n acc hn h
theorem cells_hab {ns : List (Str × NameKind)} (n : Nat) : ∀ q ∈ cellsFrom n ns [], n ≤ q.2 := cells_ge n ns n [] (Nat.le_refl n) (fun _ h => nomatch h)
section
variable {w : World} {A : Around} {E : Value → Shared → Prop} {s : Shared} {Q : Value → Shared → Prop}
theorem c_enterCells {name qual : Str} {params : Arguments} {body : List Stmt} {scope : Scope} {dV kV doc pm cdv ct oc : Value} {an od : Option Addr} {osl : Array (Option Value)} {f : Addr} {args : List Value} {binds : List (Str × Value)} (clf : Addr → List (Str × Addr))
    (own : List (Addr × Obj)) (O : Ok w s) (hroom : A.depth < recursionLimit)
    (hown : ∀ p ∈ own, Hi p.1 ∧ s.heap.get? p.1 = some p.2)
    (h : ∀ g L s₁ cells, Cx w g (own.map (·.1)) s L (bindL (envOfC qual scope L f cdv).kindOf binds fun _ => none) (cells ++ own) s₁ → CellsAre (bindC (envOfC qual scope L f cdv).kindOf binds fun _ => none) (clf L) cells →
      (∀ b o, s.heap.get? b = some o → s₁.heap.get? b = some o) →
      wpAny (model PG w) (A.deeper (envX qual scope L f cdv (clf L))) (execs body (envX qual scope L f cdv (clf L)))
        (fun fl s' => Q (match fl with | .ret v => v | _ => .none) s') (fun _ _ => False) s₁)
    (ho : (hdz.heap_240 w.params).lookup f = some ⟨oc, od, .func (fnX name qual params body scope [] dV kV doc pm an cdv ct), osl⟩ := by k_is) (hf : (!(tabA.contains f)) = true := by rfl) (hcd : codeIn (KK w) cdv qual = true := by kernel_rfl)
    (hbind : BindsTo s (fnX name qual params body scope [] dV kV doc pm an cdv ct) ⟨args, []⟩ binds := by exact BindsTo.of_eq (by kernel_rfl))
    (hclf : ∀ L, clf L = cellsFrom (L + 1) scope.names [])
    (hkind : ∀ n, ∀ x ∈ binds, scope.names.lookup x.1 = some .local ∨ (scope.names.lookup x.1 = some .cell ∧ ((cellsFrom n scope.names []).lookup x.1).isSome = true))
    (hnd : ((cellsFrom 0 scope.names []).map (·.1)).Nodup := by decide) (hab : ∀ n, ∀ q ∈ cellsFrom n scope.names [], n ≤ q.2)
    (hco : scope.isCoroutine = false := by rfl) (hgen : scope.isGenerator = false := by rfl) (hk : scope.kind = .function := by rfl) :
    wpAny (model PG w) A (PySem.call (.ref f) args) Q E s := by
  obtain ⟨G, tp, bare⟩ := O
  obtain rfl : clf = fun L => cellsFrom (L + 1) scope.names [] := funext hclf
  refine wpAny_call (codeAny_call_function (fd := fnX name qual params body scope [] dV kV doc pm an cdv ct) (body := body) hroom (G.look ho hf) rfl hco hgen rfl (codeRec_of G.X hcd) (hbind _ _ _ _ ?_))
  refine wpAny_newFunctionEnv_cells hk (hkind _) fun env' he s' x => ?_
  subst he
  refine ⟨G.lim.keeps x.toInCall.keep, codeAny_func ?_⟩
  obtain ⟨h₁, tk, rfl, _⟩ := x.done
  have hk₁ := x.toInCall.keep
  obtain ⟨cells, NC, Y⟩ := Cl.news (h₀ := s.heap) (Nat.le_refl _) fun n c hm => ⟨x.cell n c (lookup_of_mem_nodup (cellsFrom_names scope.names 0 (s.heap.objs.size + 1) [] [] rfl ▸ hnd) hm), x.above n c hm⟩
  obtain ⟨B, big⟩ := base_ofH G hown
  have ab := CellsAre.above Y (hab (s.heap.objs.size + 1))
  refine wpAny_mono (h _ _ _ cells ⟨B, big, rfl, ⟨x.toInCall.ns, fun b o e => hk₁ b o (B.of_ b o e), Nat.le_of_eq (hideAll_size _ _)⟩, fun p hp => ?_, tp.keeps fun b o _ e => hk₁ b o e, bare, rfl, fun p hp => ?_⟩ Y hk₁) (fun fl s' hq => hq) fun _ _ e => e.elim
  · rcases List.mem_append.mp hp with hp | hp
    · refine ⟨(NC p hp).1, (NC p hp).2.1, ?_⟩
      cases q : (hideAll s.heap (own.map (·.1) ++ tabG)).get? p.1 with
      | none => rfl
      | some o => have := B.of_ _ _ q; rw [(NC p hp).2.2] at this; cases this
    · exact ⟨hk₁ _ _ (hown p hp).2, Nat.ne_of_lt (Heap.lt_size (hown p hp).2), B.own _ (List.mem_map_of_mem hp)⟩
  · rcases List.mem_append.mp hp with hp | hp
    · exact .inl (Nat.le_trans big (Nat.le_of_succ_le (ab p hp)))
    · exact (hown p hp).1
theorem c_enterF {name qual : Str} {params : Arguments} {body : List Stmt} {scope : Scope} {cl : List (Str × Addr)} {dV doc pm cdv ct : Value} {d : Option Addr} {f : Addr} {args : List Value} {binds : List (Str × Value)}
    (own : List (Addr × Obj)) (O : Ok w s) (hroom : A.depth < recursionLimit)
    (hown : ∀ p ∈ own, Hi p.1 ∧ s.heap.get? p.1 = some p.2)
    (ho : s.heap.get? f = some (fnObj (kdv_fn name qual params (.stmts body) scope cl dV doc pm cdv ct) d)) (hcd : s.heap.CodeRec cdv qual)
    (hbind : BindsTo s (kdv_fn name qual params (.stmts body) scope cl dV doc pm cdv ct) ⟨args, []⟩ binds)
    (h : ∀ g L s₁, Cx w g (own.map (·.1)) s L (fun y => binds.reverse.lookup y) own s₁ →
      wpAny (model PG w) (A.deeper (envX qual scope L f cdv cl)) (execs body (envX qual scope L f cdv cl))
        (fun fl s' => Q (match fl with | .ret v => v | _ => .none) s') (fun _ _ => False) s₁)
    (hloc : ∀ y ∈ binds, scope.names.lookup y.1 = some .local := by exact locs (by kernel_rfl))
    (hcell : ∀ x ∈ scope.names, x.2 ≠ .cell := by decide) (hco : scope.isCoroutine = false := by rfl) (hgen : scope.isGenerator = false := by rfl) (hk : scope.kind = .function := by rfl) :
    wpAny (model PG w) A (PySem.call (.ref f) args) Q E s := by
  obtain ⟨G, tp, bare⟩ := O
  refine wpAny_call (codeAny_call_def (fd := kdv_fn name qual params (.stmts body) scope cl dV doc pm cdv ct) (body := body) (binds := binds) hroom ho rfl G.lim hcd rfl hbind hcell hloc (fun h₁ hns hk₁ => ?_) hco hgen hk)
  obtain ⟨B, big⟩ := base_ofH G hown
  exact wpAny_mono (h _ _ _ ⟨B, big, rfl, ⟨hns, fun b o e => hk₁ b o (B.of_ b o e), Nat.le_of_eq (hideAll_size _ _)⟩,
    (fun q hq => ⟨hk₁ _ _ (hown q hq).2, Nat.ne_of_lt (Heap.lt_size (hown q hq).2), B.own _ (List.mem_map_of_mem hq)⟩), tp.keeps fun b o _ e => hk₁ b o e, bare, rfl, fun q hq => (hown q hq).1⟩) (fun fl s' hq => hq) fun _ _ e => e.elim
theorem c_enterE {name qual : Str} {params : Arguments} {body : Expr} {scope : Scope} {cl : List (Str × Addr)} {dV doc pm cdv ct : Value} {d : Option Addr} {f : Addr} {args : List Value} {binds : List (Str × Value)}
    (own : List (Addr × Obj)) (O : Ok w s) (hroom : A.depth < recursionLimit)
    (hown : ∀ p ∈ own, Hi p.1 ∧ s.heap.get? p.1 = some p.2)
    (ho : s.heap.get? f = some (fnObj (kdv_fn name qual params (.expr body) scope cl dV doc pm cdv ct) d)) (hcd : s.heap.CodeRec cdv qual)
    (hbind : BindsTo s (kdv_fn name qual params (.expr body) scope cl dV doc pm cdv ct) ⟨args, []⟩ binds)
    (h : ∀ g L s₁, Cx w g (own.map (·.1)) s L (fun y => binds.reverse.lookup y) own s₁ →
      wpAny (model PG w) (A.deeper (envX qual scope L f cdv cl)) (eval body (envX qual scope L f cdv cl)) Q (fun _ _ => False) s₁)
    (hloc : ∀ y ∈ binds, scope.names.lookup y.1 = some .local := by exact locs (by kernel_rfl))
    (hcell : ∀ x ∈ scope.names, x.2 ≠ .cell := by decide) (hco : scope.isCoroutine = false := by rfl) (hgen : scope.isGenerator = false := by rfl) (hk : scope.kind = .function := by rfl) :
    wpAny (model PG w) A (PySem.call (.ref f) args) Q E s := by
  obtain ⟨G, tp, bare⟩ := O
  refine wpAny_call (kla_callFunE (fd := kdv_fn name qual params (.expr body) scope cl dV doc pm cdv ct) hroom ho rfl hco hgen rfl hcd (hbind _ _ _ _ ?_))
  refine wpAny_newFunctionEnv hcell hloc (fun h₁ hns hsb => ⟨G.lim.fresh _ hsb, ?_⟩) hk
  show codeAny _ _ (.expr body (envX qual scope s.heap.objs.size f cdv cl)) _ _
  have hk₁ : ∀ b o, s.heap.get? b = some o → h₁.get? b = some o := fun b o e => hsb.extBut b o (Nat.ne_of_lt (Heap.lt_size e)) (Heap.get?_push_of_some _ e)
  obtain ⟨B, big⟩ := base_ofH G hown
  exact kla_codeExpr (wpAny_mono (h _ _ _ ⟨B, big, rfl, ⟨hns, fun b o e => hk₁ b o (B.of_ b o e), Nat.le_of_eq (hideAll_size _ _)⟩,
    (fun q hq => ⟨hk₁ _ _ (hown q hq).2, Nat.ne_of_lt (Heap.lt_size (hown q hq).2), B.own _ (List.mem_map_of_mem hq)⟩), tp.keeps fun b o _ e => hk₁ b o e, bare, rfl, fun q hq => (hown q hq).1⟩) (fun v s' hq => hq) fun _ _ e => e.elim)
variable {g : Heap} {ws : List Addr} {s₀ : Shared} {L : Addr} {m : Str → Option Value} {news rest : List (Addr × Obj)} {cn : Str} {cs : Scope} {fa : Addr} {ccd : Value} {cl : List (Str × Addr)}
theorem c_free {x : Str} {pos : Pos} {cc : Addr} {o : Obj} {v : Value} (c : Cx w g ws s₀ L m news s) (hc : cl.lookup x = some cc) (e : g.get? cc = some o) (hd : o.data = .cell (some v)) (h : Q v s)
    (hk : cs.kind = .function := by rfl) (hx : (envX cn cs L fa ccd cl).kindOf x = some .free := by rfl) (hb : (x == ("__debug__" : Str)) = false := by decide) (hn : (x == ("__classdict__" : Str)) = false := by decide) :
    wpAny (model PG w) A (eval (.Name x pos) (envX cn cs L fa ccd cl)) Q E s := wpAny_Name (wpAny_loadName_free hk hx hc ⟨o, c.base e, hd⟩ h hn) hb
theorem c_lambda {cc P : Addr} {ps : Array Value} {qf : Nat → Str} {params : Arguments} {body : Expr} {scope : Scope} {pos : Pos} {clos : List (Str × Addr)}
    (c : Cx w g ws s₀ L m ((P, tabObj ps) :: rest) s) (hr : ∀ p ∈ rest, p.1 ≠ P) (hP' : P = 213 ∨ P = 220) (hd : codeHdIn (KK w) cc P = true) (C : CodesIn qf ps s.heap)
    (hcl : closureFor scope (envX cn cs L fa (.ref cc) cl) = pure clos) (hP4 : (4 : Addr) ≠ P) (hq : qf pos.line = (envX cn cs L fa (.ref cc) cl).qual ++ "<lambda>")
    (h : ∀ s' f cv ctv doc pm ps', Cx w g ws s₀ L m ((f, fnObj (kdv_fn "<lambda>" ((envX cn cs L fa (.ref cc) cl).qual ++ "<lambda>") params (.expr body) scope clos .none doc pm cv ctv) none) :: (P, tabObj ps') :: rest) s' → CodesIn qf ps' s'.heap → CodeHi s'.heap cv ((envX cn cs L fa (.ref cc) cl).qual ++ "<lambda>") → s.heap.objs.size ≤ f →
      (∀ b o, b ≠ P → s.heap.get? b = some o → s'.heap.get? b = some o) → Q (.ref f) s')
    (hdef : defaultsOf params (envX cn cs L fa (.ref cc) cl) = ([], []) := by rfl) :
    wpAny (model PG w) A (eval (.Lambda params body scope pos) (envX cn cs L fa (.ref cc) cl)) Q E s := by
  refine kla_eval hdef ?_
  rw [makeFunction_eq]
  simp only [List.zip_nil_right, List.filterMap_nil, List.isEmpty_nil, if_true, pure_bind]
  exact c_mk c hr hP' hd C hq hcl hP4 h
end
end Mine
end

section
open PySem PySem.W PySem.Calls PyProof.Rows
set_option maxRecDepth 100000
set_option maxHeartbeats 8000000
namespace Mine
noncomputable def notList (o : Obj) : Bool := match o.data with
  | .seq _ _ => !(o.cls == .type "list")
  | _ => true
theorem notList_cell {o : Obj} {v : Option Value} (h : o.data = .cell v) : notList o = true := by unfold notList; rw [h]
noncomputable def Keep2 (lo : Nat) (h h' : Heap) : Prop := ∀ b o, (238 : Nat) ≤ b → ((lo ≤ b ∧ notList o = true) ∨ ∃ vs, CodeD o vs) → h.get? b = some o → h'.get? b = some o
theorem Keep2.refl {lo : Nat} {h : Heap} : Keep2 lo h h := fun _ _ _ _ e => e
theorem Keep2.trans {lo : Nat} {h h' h'' : Heap} (a : Keep2 lo h h') (b : Keep2 lo h' h'') : Keep2 lo h h'' := fun x o h1 h2 e => b x o h1 h2 (a x o h1 h2 e)
theorem Keep2.list {lo : Nat} {h h' : Heap} {l : Addr} {vs : Array Value} {n : Nat} (el : h.get? l = some (listObj vs n)) (k : ∀ b o, b ≠ l → h.get? b = some o → h'.get? b = some o) : Keep2 lo h h' := fun b o _ hor e => k b o (by
  rintro rfl
  rw [el] at e; cases e
  rcases hor with ⟨_, q⟩ | ⟨_, q⟩
  · cases q
  · cases q.1) e
theorem Keep2.of {lo : Nat} {h h' : Heap} (k : ∀ b o, h.get? b = some o → h'.get? b = some o) : Keep2 lo h h' := fun x o _ _ e => k x o e
structure HitAt (w : World) (lo : Nat) (h : Heap) (v : Addr) (p z : Int) : Prop where
  ex : ∃ D fd lam hh tk, lo ≤ v ∧ lo ≤ D ∧ lo ≤ lam ∧ h.get? v = some (fnObj fd (some D)) ∧ h.get? D = some (dictOf [⟨hh, .str "span" tk, .ref lam⟩] 1) ∧ (∃ fd', h.get? lam = some (fnObj fd' none)) ∧
    ∀ (A : Around) (E Q : Value → Shared → Prop) (s : Shared), Ok w s → Keep2 lo h s.heap → A.depth < recursionLimit →
      (∀ s' T t1 t2, Ok w s' → St [] s s' → s'.heap.get? T = some (tupObj #[.int p t1, .int (p + z) t2]) → s.heap.objs.size ≤ T → Q (.ref T) s') → wpAny (model PG w) A (call (.ref lam) []) Q E s
  big : (238 : Nat) ≤ lo
theorem HitAt.keep {w : World} {lo : Nat} {h h' : Heap} {v : Addr} {p z : Int} (H : HitAt w lo h v p z) (k : Keep2 lo h h') : HitAt w lo h' v p z := by
  obtain ⟨⟨D, fd, lam, hh, tk, l1, l2, l3, e1, e2, ⟨fd', e3⟩, H⟩, big⟩ := H
  exact ⟨⟨D, fd, lam, hh, tk, l1, l2, l3, k _ _ (Nat.le_trans big l1) (.inl ⟨l1, rfl⟩) e1, k _ _ (Nat.le_trans big l2) (.inl ⟨l2, rfl⟩) e2, ⟨fd', k _ _ (Nat.le_trans big l3) (.inl ⟨l3, rfl⟩) e3⟩,
    fun A E Q s O k' => H A E Q s O (k.trans k')⟩, big⟩
theorem HitAt.mono {w : World} {lo lo' : Nat} {h : Heap} {v : Addr} {p z : Int} (H : HitAt w lo h v p z) (hl : lo' ≤ lo) (big : (238 : Nat) ≤ lo') : HitAt w lo' h v p z := by
  obtain ⟨⟨D, fd, lam, hh, tk, l1, l2, l3, e1, e2, ⟨fd', e3⟩, H⟩, _⟩ := H
  exact ⟨⟨D, fd, lam, hh, tk, Nat.le_trans hl l1, Nat.le_trans hl l2, Nat.le_trans hl l3, e1, e2, ⟨fd', e3⟩,
    fun A E Q s O k' => H A E Q s O fun b o h1 h2 e => k' b o h1 (h2.elim (fun h => .inl ⟨Nat.le_trans hl h.1, h.2⟩) .inr) e⟩, big⟩
theorem Cx.neLf {w : World} {g : Heap} {ws : List Addr} {s₀ s : Shared} {L : Addr} {m : Str → Option Value} {news : List (Addr × Obj)} (c : Cx w g ws s₀ L m news s) {b : Addr} {o : Obj} {vs : Array Value} (e : s.heap.get? b = some o) (hd : CodeD o vs) : b ≠ L := by
  rintro rfl
  obtain ⟨oL, es, ep, h1, h2, _⟩ := c.F.ns
  rw [e] at h1; cases h1; rw [hd.1] at h2; cases h2
theorem no_ownH {s : Shared} : ∀ p ∈ ([] : List (Addr × Obj)), Hi p.1 ∧ s.heap.get? p.1 = some p.2 := fun _ h => nomatch h
theorem Cx.grow1 {w : World} {g : Heap} {ws : List Addr} {s₀ s s' : Shared} {L : Addr} {m : Str → Option Value} {news news' : List (Addr × Obj)} {a : Addr} {o o' : Obj} (c : Cx w g ws s₀ L m news s) (U : Upd a o o' news news') (ha : (238 : Nat) ≤ a)
    (k : ∀ b x, b ≠ a → s.heap.get? b = some x → s'.heap.get? b = some x) (e : s'.heap.get? a = some o') (hz : s.heap.objs.size ≤ s'.heap.objs.size) (hg : s'.gens = s.gens) (ho : s'.os = s.os) : Cx w g ws s₀ L m news' s' := by
  have S : St [a] s s' := ⟨fun b x hb _ e => k b x (fun q => hb (by rw [q]; exact .head _)) e, hz, ho⟩
  have O : Ok w s' := ⟨c.gd.low fun b x hb _ e => k b x (fun q => absurd ha (by rw [← q]; exact Nat.not_le.mpr hb)) e, c.T.keeps fun b x hb e => k b x (fun q => not_tab ha (q ▸ hb)) e, hg ▸ c.bare⟩
  exact c.call1 U S O e
noncomputable def qH : Nat → Str := fun _ => "_law_hit.<locals>.<lambda>"
theorem own213 {s : Shared} {ps : Array Value} (h : s.heap.get? 213 = some (tabObj ps)) : ∀ p ∈ [((213 : Addr), tabObj ps)], Hi p.1 ∧ s.heap.get? p.1 = some p.2 := fun p hp => by
  cases hp with | head => exact ⟨.inr (.inl rfl), h⟩ | tail _ h => cases h
section
variable {w : World} {A : Around} {E : Value → Shared → Prop} {s : Shared} {Q : Value → Shared → Prop}
theorem hit_ok {p z : Int} {t1 t2 : Tok} {ps : Array Value} (O : Ok w s) (r : Rm A 3) (hT : s.heap.get? 213 = some (tabObj ps)) (C : CodesIn qH ps s.heap)
    (h : ∀ s' v ps', Ok w s' → St [213] s s' → s'.heap.get? 213 = some (tabObj ps') → CodesIn qH ps' s'.heap → HitAt w s.heap.objs.size s'.heap v p z → Q (.ref v) s') :
    wpAny (model PG w) A (call (.ref 218) [.int p t1, .int z t2]) Q E s := by
  refine c_enterCells (binds := [("place", .int p t1), ("size", .int z t2)]) (fun L => [("size", L + 2), ("place", L + 1)]) [(213, tabObj ps)] O r.room (own213 hT) (fun g L s₁ cells c Y k₁ => ?_) (hclf := fun _ => rfl) (hkind := fun n x hx => ?_) (hab := fun n q hq => ?_)
  · obtain ⟨o2, o1, rfl, d2, d1⟩ := Y.two
    have big : (238 : Nat) ≤ s.heap.objs.size := (base_of (own := []) O.gd no_own).2
    obtain rfl : s.heap.objs.size = L := c.hL
    generalize hLL : s.heap.objs.size = L at *
    have C₁ : CodesIn qH ps s₁.heap := C.keep fun b o vs _ _ e => k₁ b o e
    have c₁ := c.drop (news' := [(213, tabObj ps), (L + 2, o2), (L + 1, o1)]) (fun q hq => by
      simp only [List.mem_cons, List.not_mem_nil, or_false] at hq
      rcases hq with rfl | rfl | rfl
      · exact .tail _ (.tail _ (.head _))
      · exact .head _
      · exact .tail _ (.head _))
    refine wpAny_execs_cons ?_
    refine wpAny_Assign_Name ?_
    refine c_lambda (qf := qH) (clos := []) c₁ ?_ (.inl rfl) ?_ C₁ ?_ ?_ ?_ fun s₂ f₂ cv₂ ct₂ doc₂ pm₂ ps₂ c₂ C₂ R₂ lf₂ k₂ => ?_
    · intro q hq
      simp only [List.mem_cons, List.not_mem_nil, or_false] at hq
      have h213 : ∀ k : Nat, L + k ≠ 213 := fun k e => by (exact om202 big e)
      rcases hq with rfl | rfl
      · exact h213 2
      · exact h213 1
    · kernel_rfl
    · rfl
    · decide
    · rfl
    · have d1' : o1.data = .cell (some (.int p t1)) := d1
      have d2' : o2.data = .cell (some (.int z t2)) := d2
      refine c_storeK c₂ fun s₃ c₃ k₃ => ?_
      have C₃ : CodesIn qH ps₂ s₃.heap := C₂.keep fun b o vs _ hd e => k₃ b o (c₂.neLf e hd) e
      refine wpAny_execs_cons ?_
      refine plainObj_wpAny_Assign_Attribute ?_
      have hs1 : L + 2 < s₁.heap.objs.size := Heap.lt_size (c₁.get (.tail _ (.head _)))
      have l2' : L + 2 < f₂ := Nat.lt_of_lt_of_le hs1 lf₂
      have l2 : L < f₂ := by (exact om203 l2')
      have hf2 : f₂ ≠ 213 := fun e => by rw [e] at l2; exact absurd l2 (Nat.not_lt.mpr (Nat.le_trans (show 213 ≤ 238 by decide) big))
      have c₃' := c₃.drop (news' := (213, tabObj ps₂) :: (f₂, _) :: [(L + 2, o2), (L + 1, o1)]) (fun q hq => by
        cases hq with
        | head => exact .tail _ (.head _)
        | tail _ hq => cases hq with
          | head => exact .head _
          | tail _ hq => exact .tail _ (.tail _ hq))
      refine c_lambda (qf := qH) (clos := [("size", L + 2), ("place", L + 1)]) c₃' ?_ (.inl rfl) ?_ C₃ ?_ ?_ ?_ fun s₄ f₄ cv₄ ct₄ doc₄ pm₄ ps₄ c₄ C₄ R₄ lf₄ k₄ => ?_
      · intro q hq
        simp only [List.mem_cons, List.not_mem_nil, or_false] at hq
        rcases hq with rfl | rfl | rfl
        · exact hf2
        · exact fun (e : L + 2 = 213) => by (exact om204 big e)
        · exact fun (e : L + 1 = 213) => by (exact om205 big e)
      · kernel_rfl
      · rfl
      · decide
      · rfl
      · refine c_name c₄ rfl ?_
        have hf24 : f₄ ≠ f₂ := fun e => by
          have h1 := Heap.lt_size (c₃'.get (.tail _ (.head _)))
          rw [← e] at h1
          exact absurd h1 (Nat.not_lt.mpr lf₄)
        refine fn_setAttr (c₄.get (.tail _ (.tail _ (.head _)))) S.fn_span (fun hh key => ?_) fun s₅ hh tk k₅ e₅ D₅ z₅ g₅ o₅ => ?_
        · rfl
        have c₅ := c₄.grow1 (Upd.tail hf24 (Upd.tail hf2.symm (Upd.head (fun q hq => by
          simp only [List.mem_cons, List.not_mem_nil, or_false] at hq
          rcases hq with rfl | rfl
          · exact Nat.ne_of_lt l2'
          · exact Nat.ne_of_lt (show L + 1 < f₂ by (exact Nat.le_of_lt (by assumption))))))) (Nat.le_of_lt (Nat.lt_of_le_of_lt big l2)) k₅ e₅ (Nat.le_of_lt (by rw [z₅]; exact Nat.lt_succ_self _)) g₅ o₅
        refine wpAny_execs_cons ?_
        refine wpAny_Return_some ?_
        refine c_name c₅ rfl ?_
        refine h s₅ f₂ ps₄ c₅.ok c₅.st (c₅.get (.tail _ (.head _))) ?_ ?_
        · exact C₄.keep fun b o vs _ hd e => k₅ b o (fun q => by rw [q, c₄.get (.tail _ (.tail _ (.head _)))] at e; cases e; cases hd.1) e
        · have R₅ := R₄.keep (h' := s₅.heap) fun b o vs _ hd e => k₅ b o (fun q => by rw [q, c₄.get (.tail _ (.tail _ (.head _)))] at e; cases e; cases hd.1) e
          have lf4' : L ≤ f₄ := Nat.le_of_lt (Nat.lt_trans l2 (Nat.lt_of_lt_of_le (Heap.lt_size (c₃'.get (.tail _ (.head _)))) lf₄))
          have lD : L ≤ s₄.heap.objs.size := by
            have h1 := c₄.lt
            rw [hLL] at h1
            exact Nat.le_of_lt h1
          have e4 := c₅.get (.head _)
          have eo2 := c₅.get (.tail _ (.tail _ (.tail _ (.head _))))
          have eo1 := c₅.get (.tail _ (.tail _ (.tail _ (.tail _ (.head _)))))
          refine ⟨⟨s₄.heap.objs.size, _, f₄, hh, tk, Nat.le_of_lt l2, lD, lf4', e₅, D₅, ⟨_, e4⟩, fun A' E' Q' s' O' K' hroom' hq => ?_⟩, big⟩
          have R' := R₅.keep (h' := s'.heap) fun b o vs hb hd e => K' b o hb (.inr ⟨vs, hd⟩) e
          refine c_enterE [] O' hroom' no_ownH (K' _ _ (Nat.le_trans big lf4') (.inl ⟨lf4', rfl⟩) e4) R'.rec (binds := []) (BindsTo.of_eq rfl) fun g' L' s₆ c₆ => ?_
          have g1 : g'.get? (L + 1) = some o1 := c₆.B.all _ _ (fun h => nomatch h) (not_tab (show 238 ≤ L + 1 by (exact Nat.le_succ_of_le (by assumption)))) (K' _ _ (show 238 ≤ L + 1 by (exact Nat.le_succ_of_le (by assumption))) (.inl ⟨show L ≤ L + 1 by (exact om124), notList_cell d1'⟩) eo1)
          have g2 : g'.get? (L + 2) = some o2 := c₆.B.all _ _ (fun h => nomatch h) (not_tab (show 238 ≤ L + 2 by (exact om206 big))) (K' _ _ (show 238 ≤ L + 2 by (exact om206 big)) (.inl ⟨show L ≤ L + 2 by (exact om207), notList_cell d2'⟩) eo2)
          refine Tuple_ (spliced_more ?_)
          refine c_free c₆ rfl g1 d1' ?_
          refine spliced_more ?_
          refine wpAny_BinOp ?_
          refine c_free c₆ rfl g1 d1' ?_
          refine c_free c₆ rfl g2 d2' ?_
          refine PyProof.Rows.add_int ?_
          have c₇ := c₆.ext (s' := { s₆ with toks := s₆.toks + 1 }) (fun _ _ e => e) rfl rfl
          refine spliced_none ?_
          refine c_tupleK c₇ fun s₈ u c₈ k₈ eu hu => ?_
          exact hq s₈ u _ _ c₈.ok c₈.st eu (hu ▸ Nat.le_of_lt c₆.lt)
  · simp only [List.mem_cons, List.not_mem_nil, or_false] at hx
    rcases hx with rfl | rfl <;> exact .inr ⟨rfl, rfl⟩
  · exact cells_hab n q hq
end
end Mine
end

section
open PySem PySem.W PySem.Calls PyProof.Rows
set_option maxRecDepth 100000
set_option maxHeartbeats 8000000
namespace Mine
theorem sub_one (a b c : Nat) : ∀ i : Nat, i < 3 → Builtin.Str.subAt ⟨#[a, b]⟩ ⟨#[c]⟩ i = (i == 0 && a == c || i == 1 && b == c)
  | 0, _ => by simp [Builtin.Str.subAt, Str.length]
  | 1, _ => by simp [Builtin.Str.subAt, Str.length]
  | 2, _ => by simp [Builtin.Str.subAt, Str.length]
  | n + 3, h => absurd h (by (exact om208 h))
theorem white_in (c : Nat) : Txt.contains (⟨#[32, 9]⟩ : Str) ⟨#[c]⟩ = isW c := by
  unfold Txt.contains
  have e : Builtin.Str.occurrences (⟨#[32, 9]⟩ : Str) ⟨#[c]⟩ 0 2 1 = if (32 == c) then [0] else if (9 == c) then [1] else [] := by
    unfold Builtin.Str.occurrences
    have h0 := sub_one 32 9 c 0 (by decide)
    have h1 := sub_one 32 9 c 1 (by decide)
    have h2 := sub_one 32 9 c 2 (by decide)
    simp [List.range', Str.length, h0, h1, h2]
    by_cases a : 32 = c
    · rw [if_pos a, if_pos a]; rfl
    · rw [if_neg a, if_neg a]
      by_cases b : 9 = c
      · rw [if_pos b]; simp [b]
      · rw [if_neg b]; simp [b]
  show (!(Builtin.Str.occurrences (⟨#[32, 9]⟩ : Str) ⟨#[c]⟩ 0 2 1).isEmpty) = _
  rw [e]
  unfold isW
  by_cases a : c = 32
  · subst a; rfl
  · by_cases b : c = 9
    · subst b; rfl
    · have h1 : (32 == c) = false := beq_eq_false_iff_ne.mpr fun h => a h.symm
      have h2 : (9 == c) = false := beq_eq_false_iff_ne.mpr fun h => b h.symm
      have h3 : (c == 32) = false := beq_eq_false_iff_ne.mpr a
      have h4 : (c == 9) = false := beq_eq_false_iff_ne.mpr b
      rw [h1, h2, h3, h4]; rfl
noncomputable def seam (sg x : List Nat) (p : Nat) : Bool := match x[p]?, x[p - 1]? with
  | some c, some b => isW c && !isW b && (sg == [] || (sg == [c] || sg == [b]))
  | _, _ => false
noncomputable def firstSeam (sg x : List Nat) : Nat → Nat → Option Nat
  | 0, _ => none
  | n + 1, p => if seam sg x p then some p else firstSeam sg x n (p + 1)
noncomputable def seamFrom (sg x : List Nat) (at_ : Nat) : Option Nat := firstSeam sg x (x.length - max at_ 1) (max at_ 1)
theorem firstSeam_at {sg x : List Nat} : ∀ {n p q : Nat}, q < n → (∀ k, k < q → seam sg x (p + k) = false) → seam sg x (p + q) = true → firstSeam sg x n p = some (p + q)
  | 0, _, _, h, _, _ => absurd h (Nat.not_lt_zero _)
  | n + 1, p, 0, _, _, h => by unfold firstSeam; rw [if_pos (by simpa using h)]; rfl
  | n + 1, p, q + 1, h, hno, hy => by
    unfold firstSeam
    rw [if_neg (by have := hno 0 (Nat.succ_pos _); simpa using this)]
    have := firstSeam_at (sg := sg) (x := x) (n := n) (p := p + 1) (q := q) (by (exact om209 h)) (fun k hk => by have := hno (k + 1) (by (exact Nat.lt_succ_of_le (by assumption))); rwa [show p + (k + 1) = p + 1 + k by (exact om210)] at this) (by rwa [show p + (q + 1) = p + 1 + q by (exact om210)] at hy)
    rw [this, show p + 1 + q = p + (q + 1) by (exact om88)]
theorem firstSeam_no {sg x : List Nat} : ∀ {n p : Nat}, (∀ k, k < n → seam sg x (p + k) = false) → firstSeam sg x n p = none
  | 0, _, _ => rfl
  | n + 1, p, h => by
    unfold firstSeam
    rw [if_neg (by have := h 0 (Nat.succ_pos _); simpa using this)]
    exact firstSeam_no fun k hk => by have := h (k + 1) (by (exact Nat.lt_succ_of_le (by assumption))); rwa [show p + (k + 1) = p + 1 + k by (exact om210)] at this
section
variable {w : World} {A : Around} {E : Value → Shared → Prop} {s : Shared} {I : Addr} {Q : Value → Shared → Prop}
theorem up_size (a b : Nat) (h : a ≤ b) : Builtin.Range.rangeSize a b 1 = ((b - a : Nat) : Int) := by
  unfold Builtin.Range.rangeSize
  rw [if_pos (by decide)]
  split
  · rename_i h
    have : ((b : Int) - a - 1) / 1 = b - a - 1 := by simp
    (exact om211 h this)
  · (exact om212 h (by assumption))
theorem up_size0 (a b : Nat) (h : b ≤ a) : Builtin.Range.rangeSize a b 1 = 0 := by
  unfold Builtin.Range.rangeSize
  rw [if_pos (by decide)]
  split
  · (exact om213 h (by assumption))
  · rfl
theorem up_size' (a b : Nat) : Builtin.Range.rangeSize a b 1 = ((b - a : Nat) : Int) := by
  rcases Nat.le_total a b with h | h
  · exact up_size a b h
  · rw [up_size0 a b h, Nat.sub_eq_zero_of_le h]; rfl
theorem up_small {a b : Nat} (ha : a ≤ 100000) (hb : b ≤ 100000) : Builtin.Range.small a b 1 = true := by
  unfold Builtin.Range.small
  rw [up_size']
  unfold Builtin.Range.rangeFitsLong
  simp only [Bool.and_eq_true, Bool.or_eq_true, decide_eq_true_eq]
  refine ⟨⟨⟨⟨by omega, by omega⟩, by omega⟩, by omega⟩, .inr ?_⟩
  rw [if_pos (by decide), Bool.and_eq_true]
  exact ⟨decide_eq_true (by omega), decide_eq_true (by omega)⟩
theorem up_iter {a b : Nat} {t u : Tok} (ha : a ≤ 100000) (hb : b ≤ 100000) (h : ∀ s', (∀ b o, s.heap.get? b = some o → s'.heap.get? b = some o) → s'.gens = s.gens → s'.os = s.os → IsRangeIter s'.heap I a ((b - a : Nat) : Int) 1 → (s.heap.objs.size : Nat) ≤ I → Q (.ref I) s')
    (hI : I = s.heap.objs.size + 1) :
    wpAny (model PG w) A (call (.type "range") [.int a t, .int b u]) (fun x s₁ => wpAny (model PG w) A (pyIter x) Q E s₁) E s := by
  refine call_range_2 ?_
  refine wpAny_pyIter_range (s := { s with heap := s.heap.push { cls := .type "range", data := .fields #[.int a t, .int b u, .int 1 s.toks] }, toks := s.toks + 1 }) (a := a) (b := b) (c := 1) (t := t) (u := u) (v := s.toks) (IsRange.new ..) (up_small ha hb) ?_
  have e : (s.heap.push { cls := .type "range", data := .fields #[.int a t, .int b u, .int 1 s.toks] }).objs.size = I := by rw [Heap.size_push, hI]
  show Q (.ref (s.heap.push { cls := .type "range", data := .fields #[.int a t, .int b u, .int 1 s.toks] }).objs.size) _
  rw [e, up_size']
  refine h _ (fun b o e => Heap.get?_push_of_some _ (Heap.get?_push_of_some _ e)) rfl rfl ?_ (by rw [hI]; exact Nat.le_succ _)
  rw [← e]
  exact Heap.get?_push_size _ rfl
end
end Mine
end

section
open PySem PySem.W PySem.Calls PyProof.Rows
set_option maxRecDepth 100000
set_option maxHeartbeats 8000000
namespace Mine
noncomputable def SearchOk (w : World) (lo : Nat) (h : Heap) (sg : Str) (z : Int) (srch : Addr) : Prop :=
  ∀ (A : Around) (E Q : Value → Shared → Prop) (s : Shared) (x : Str) (t : Tok) (args : List Value) (at_ : Nat) (ps : Array Value), Ok w s → Rm A 6 → Keep2 lo h s.heap → s.heap.get? 213 = some (tabObj ps) → CodesIn qH ps s.heap → x.length ≤ 1000 → at_ ≤ 2000 →
    (args = [.str x t] ∧ at_ = 0 ∨ ∃ ta, args = [.str x t, .int at_ ta]) →
    (∀ s' r ps', Ok w s' → St [213] s s' → s'.heap.get? 213 = some (tabObj ps') → CodesIn qH ps' s'.heap → (match seamFrom sg.cps.toList x.cps.toList at_ with | none => r = .none | some p => ∃ u, r = .ref u ∧ HitAt w s.heap.objs.size s'.heap u p z) → Q r s') →
    wpAny (model PG w) A (call (.ref srch) args) Q E s
structure FinderAt (w : World) (lo : Nat) (h : Heap) (v : Addr) (sg : Str) (z : Int) : Prop where
  ex : ∃ D fd srch hh tk, lo ≤ v ∧ lo ≤ D ∧ lo ≤ srch ∧ h.get? v = some (fnObj fd (some D)) ∧ h.get? D = some (dictOf [⟨hh, .str "search" tk, .ref srch⟩] 1) ∧ (∃ fd', h.get? srch = some (fnObj fd' none)) ∧ SearchOk w lo h sg z srch
  big : (238 : Nat) ≤ lo
theorem FinderAt.keep {w : World} {lo : Nat} {h h' : Heap} {v : Addr} {sg : Str} {z : Int} (H : FinderAt w lo h v sg z) (k : Keep2 lo h h') : FinderAt w lo h' v sg z := by
  obtain ⟨⟨D, fd, srch, hh, tk, l1, l2, l3, e1, e2, ⟨fd', e3⟩, H⟩, big⟩ := H
  exact ⟨⟨D, fd, srch, hh, tk, l1, l2, l3, k _ _ (Nat.le_trans big l1) (.inl ⟨l1, rfl⟩) e1, k _ _ (Nat.le_trans big l2) (.inl ⟨l2, rfl⟩) e2, ⟨fd', k _ _ (Nat.le_trans big l3) (.inl ⟨l3, rfl⟩) e3⟩,
    fun A E Q s x t args at_ ps O r k' => H A E Q s x t args at_ ps O r (k.trans k')⟩, big⟩
noncomputable def qF : Nat → Str := fun n => if n = 140 then "_law_finder.<locals>._law_search" else "_law_finder.<locals>.<lambda>"
theorem not213 {b : Addr} {o : Obj} (h : (238 : Nat) ≤ b) : b ∉ List.map (fun x => x.1) [((213 : Addr), o)] := fun q => by
  have := List.mem_singleton.mp q
  rw [show b = 213 from this] at h; exact absurd h (by decide)
theorem own220 {s : Shared} {ps : Array Value} (h : s.heap.get? 220 = some (tabObj ps)) : ∀ p ∈ [((220 : Addr), tabObj ps)], Hi p.1 ∧ s.heap.get? p.1 = some p.2 := fun p hp => by
  cases hp with | head => exact ⟨.inr (.inr rfl), h⟩ | tail _ h => cases h
section
variable {w : World} {A : Around} {E : Value → Shared → Prop} {s : Shared} {Q : Value → Shared → Prop}
theorem seq_at {x : Str} {p : Nat} {c : Nat} (h : x.cps.toList[p]? = some c) : (seqIndex? (p : Int) x.length).bind (x.cps[·]?) = some c := by
  rw [Array.getElem?_toList] at h
  have hp : p < x.cps.size := (Array.getElem?_eq_some_iff.mp h).1
  have hp' : p < x.length := hp
  have : seqIndex? (p : Int) x.length = some p := by
    unfold seqIndex?
    have h1 : ¬ ((p : Int) < 0) := by (exact om216)
    simp [h1]
    exact hp'
  rw [this]
  exact h
theorem finder_ok {sg : Str} {z : Int} {t1 t2 : Tok} {ps : Array Value} (O : Ok w s) (r : Rm A 3) (hT : s.heap.get? 220 = some (tabObj ps)) (C : CodesIn qF ps s.heap)
    (h : ∀ s' v ps', Ok w s' → St [220] s s' → s'.heap.get? 220 = some (tabObj ps') → CodesIn qF ps' s'.heap → FinderAt w s.heap.objs.size s'.heap v sg z → Q (.ref v) s') :
    wpAny (model PG w) A (call (.ref 225) [.str sg t1, .int z t2]) Q E s := by
  refine c_enterCells (binds := [("sign", .str sg t1), ("size", .int z t2)]) (fun L => [("size", L + 2), ("sign", L + 1)]) [(220, tabObj ps)] O r.room (own220 hT) (fun g L s₁ cells c Y k₁ => ?_) (hclf := fun _ => rfl) (hkind := fun n x hx => ?_) (hab := fun n q hq => ?_)
  · obtain ⟨o2, o1, rfl, d2, d1⟩ := Y.two
    have big : (238 : Nat) ≤ s.heap.objs.size := (base_of (own := []) O.gd no_own).2
    obtain rfl : s.heap.objs.size = L := c.hL
    generalize hLL : s.heap.objs.size = L at *
    have C₁ : CodesIn qF ps s₁.heap := C.keep fun b o vs _ _ e => k₁ b o e
    have d1' : o1.data = .cell (some (.str sg t1)) := d1
    have d2' : o2.data = .cell (some (.int z t2)) := d2
    have hs1 : L + 2 < s₁.heap.objs.size := Heap.lt_size (c.get (.head _))
    refine wpAny_execs_cons ?_
    refine kdv_def ?_ ?_ ?_ ?_
    · rfl
    · rfl
    · rfl
    · refine kdv_all1 (c_intK c fun s₂ t₂ c₂ e₂ => kdv_all0 ?_)
      rw [makeFunction_eq]
      simp only [List.zip_nil_right, List.filterMap_nil, List.isEmpty_nil, if_true, pure_bind, List.isEmpty_cons, Bool.false_eq_true, if_false]
      refine wpAny_bind (wpAny_newTextTuple ?_)
      have c₃ := Cx.new (a := s₂.heap.objs.size) (o := kdv_tup [.int 0 t₂]) (c₂.ext (s' := { s₂ with heap := s₂.heap.push (kdv_tup [.int 0 t₂]) }) (fun _ _ e => Heap.get?_push_of_some _ e) rfl rfl) (Heap.get?_push_size _ rfl) c₂.lt
      have k₃ : ∀ b o, s₁.heap.get? b = some o → (s₂.heap.push (kdv_tup [.int 0 t₂])).get? b = some o := fun b o e => Heap.get?_push_of_some _ (by rw [e₂]; exact e)
      have hT0 : L + 2 < s₂.heap.objs.size := by rw [e₂]; exact hs1
      have hs₃ : s₂.heap.objs.size < (s₂.heap.push (kdv_tup [.int 0 t₂])).objs.size := by rw [Heap.size_push]; exact Nat.lt_succ_self _
      generalize s₂.heap.objs.size = T0 at c₃ hT0 hs₃ ⊢
      have c₃' := c₃.drop (news' := (220, tabObj ps) :: (T0, kdv_tup [.int 0 t₂]) :: [(L + 2, o2), (L + 1, o1)]) (fun q hq => by
        simp only [List.mem_cons, List.not_mem_nil, or_false] at hq
        rcases hq with rfl | rfl | rfl | rfl
        · exact .tail _ (.tail _ (.tail _ (.head _)))
        · exact .head _
        · exact .tail _ (.head _)
        · exact .tail _ (.tail _ (.head _)))
      have ne220 : ∀ k : Nat, L < k → k ≠ 220 := fun k e => by (exact om217 big e)
      refine c_mk (qf := qF) (clos := [("size", L + 2), ("sign", L + 1)]) c₃' ?_ (.inr rfl) ?_ (C₁.keep fun b o vs _ _ e => k₃ b o e) ?_ ?_ ?_ fun s₄ f₄ cv₄ ct₄ doc₄ pm₄ ps₄ c₄ C₄ R₄ lf₄ k₄ => ?_
      · intro q hq
        simp only [List.mem_cons, List.not_mem_nil, or_false] at hq
        rcases hq with rfl | rfl | rfl
        · exact ne220 _ (by lia)
        · exact ne220 _ (by lia)
        · exact ne220 _ (by (exact Nat.lt_succ_self _))
      · kernel_rfl
      · rfl
      · rfl
      · decide
      · refine c_storeK c₄ fun s₅ c₅ k₅ => ?_
        have C₅ : CodesIn qF ps₄ s₅.heap := C₄.keep fun b o vs _ hd e => k₅ b o (c₄.neLf e hd) e
        have R₅ := R₄.keep (h' := s₅.heap) fun b o vs _ hd e => k₅ b o (c₄.neLf e hd) e
        refine wpAny_execs_cons ?_
        refine wpAny_Assign_Name ?_
        have l4 : T0 < f₄ := Nat.lt_of_lt_of_le hs₃ lf₄
        have c₅' := c₅.drop (news' := (220, tabObj ps₄) :: (f₄, _) :: (T0, kdv_tup [.int 0 t₂]) :: [(L + 2, o2), (L + 1, o1)]) (fun q hq => by
          cases hq with
          | head => exact .tail _ (.head _)
          | tail _ hq => cases hq with
            | head => exact .head _
            | tail _ hq => exact .tail _ (.tail _ hq))
        refine c_lambda (qf := qF) (clos := []) c₅' ?_ (.inr rfl) ?_ C₅ ?_ ?_ ?_ fun s₆ f₆ cv₆ ct₆ doc₆ pm₆ ps₆ c₆ C₆ R₆ lf₆ k₆ => ?_
        · intro q hq
          simp only [List.mem_cons, List.not_mem_nil, or_false] at hq
          rcases hq with rfl | rfl | rfl | rfl
          · exact ne220 _ (by lia)
          · exact ne220 _ (by lia)
          · exact ne220 _ (by lia)
          · exact ne220 _ (by (exact Nat.lt_succ_self _))
        · kernel_rfl
        · rfl
        · decide
        · rfl
        · refine c_storeK c₆ fun s₇ c₇ k₇ => ?_
          have C₇ : CodesIn qF ps₆ s₇.heap := C₆.keep fun b o vs _ hd e => k₇ b o (c₆.neLf e hd) e
          have R₇ := (R₅.keep (h' := s₆.heap) fun b o vs hb hd e => k₆ b o (fun q => by rw [q] at hb; exact absurd hb (by decide)) e).keep (h' := s₇.heap) fun b o vs _ hd e => k₇ b o (c₆.neLf e hd) e
          have l6a : s₅.heap.objs.size > f₄ := Heap.lt_size (c₅'.get (.tail _ (.head _)))
          have l6 : f₄ < f₆ := Nat.lt_of_lt_of_le l6a lf₆
          refine wpAny_execs_cons ?_
          refine plainObj_wpAny_Assign_Attribute ?_
          refine c_name c₇ rfl ?_
          refine c_name c₇ rfl ?_
          refine fn_setAttr (c₇.get (.head _)) S.fn_search (fun hh key => ?_) fun s₈ hh tk k₈ e₈ D₈ z₈ g₈ o₈ => ?_
          · rfl
          have c₈ := c₇.grow1 (Upd.head (fun q hq => by
            simp only [List.mem_cons, List.not_mem_nil, or_false] at hq
            rcases hq with rfl | rfl | rfl | rfl | rfl
            · exact fun e => ne220 f₆ (by (exact om221 hT0 l4 lf₆ l6a)) e.symm
            · exact Nat.ne_of_lt l6
            · exact Nat.ne_of_lt (show T0 < f₆ by (exact om222 l4 lf₆ l6a))
            · exact Nat.ne_of_lt (show L + 2 < f₆ by (exact om223 hT0 l4 lf₆ l6a))
            · exact Nat.ne_of_lt (show L + 1 < f₆ by (exact om224 hT0 l4 lf₆ l6a)))) (show (238 : Nat) ≤ f₆ by (exact om225 big hT0 l4 lf₆ l6a)) k₈ e₈ (Nat.le_of_lt (by rw [z₈]; exact Nat.lt_succ_self _)) g₈ o₈
          have nf6 : ∀ {b : Addr} {o : Obj} {vs : Array Value}, CodeD o vs → s₇.heap.get? b = some o → b ≠ f₆ := fun hd e q => by rw [q, c₇.get (.head _)] at e; cases e; cases hd.1
          have R₈ := R₇.keep (h' := s₈.heap) fun b o vs _ hd e => k₈ b o (nf6 hd e) e
          refine wpAny_execs_cons ?_
          refine wpAny_Return_some ?_
          refine c_name c₈ rfl ?_
          have lD : L ≤ s₇.heap.objs.size := by
            have h1 := c₇.lt
            rw [hLL] at h1
            exact Nat.le_of_lt h1
          have e4 := c₈.get (.tail _ (.tail _ (.head _)))
          have eT0 := c₈.get (.tail _ (.tail _ (.tail _ (.head _))))
          have eo2 := c₈.get (.tail _ (.tail _ (.tail _ (.tail _ (.head _)))))
          have eo1 := c₈.get (.tail _ (.tail _ (.tail _ (.tail _ (.tail _ (.head _))))))
          refine h s₈ f₆ ps₆ c₈.ok c₈.st (c₈.get (.tail _ (.head _))) (C₇.keep fun b o vs _ hd e => k₈ b o (nf6 hd e) e) ⟨⟨s₇.heap.objs.size, _, f₄, hh, tk, show L ≤ f₆ by (exact om226 hT0 l4 lf₆ l6a), lD, show L ≤ f₄ by (exact om227 hT0 l4), e₈, D₈, ⟨_, e4⟩, fun A' E' Q' s' x t args at_ ps' O' r' K' hT' C' hx hat hargs hq => ?_⟩, big⟩
          have R' := R₈.keep (h' := s'.heap) fun b o vs hb hd e => K' b o hb (.inr ⟨vs, hd⟩) e
          have up : ∀ {b : Addr} {o : Obj}, L ≤ b → notList o = true → s₈.heap.get? b = some o → s'.heap.get? b = some o := fun hb hn e => K' _ _ (Nat.le_trans big hb) (.inl ⟨hb, hn⟩) e
          obtain ⟨ta, hta⟩ : ∃ ta, args = [.str x t, .int at_ ta] ∨ (args = [.str x t] ∧ at_ = 0 ∧ ta = t₂) := by
            rcases hargs with ⟨h1, h2⟩ | ⟨ta, h1⟩
            · exact ⟨t₂, .inr ⟨h1, h2, rfl⟩⟩
            · exact ⟨ta, .inl h1⟩
          have ga : (238 : Nat) ≤ L + 1 := by (exact Nat.le_succ_of_le (by assumption))
          refine c_enterF (binds := [("chars", .str x t), ("at", .int at_ ta)]) [(213, tabObj ps')] O' r'.room (own213 hT') (up (show L ≤ f₄ by (exact om227 hT0 l4)) rfl e4) R'.rec ?_ fun g' L' s₉ c₉ => ?_
          · rcases hta with rfl | ⟨rfl, rfl, rfl⟩
            · exact BindsTo.of_defaults rfl (up (show L ≤ T0 by (exact om228 hT0)) rfl eT0) rfl rfl rfl
            · exact BindsTo.of_defaults rfl (up (show L ≤ T0 by (exact om228 hT0)) rfl eT0) rfl rfl rfl
          · have eo1' := up (show L ≤ L + 1 by (exact om124)) (notList_cell d1') eo1
            have eo2' := up (show L ≤ L + 2 by (exact om207)) (notList_cell d2') eo2
            have g1 : g'.get? (L + 1) = some o1 := c₉.B.all _ _ (not213 ga) (not_tab ga) eo1'
            have g2 : g'.get? (L + 2) = some o2 := c₉.B.all _ _ (not213 (show 238 ≤ L + 2 by (exact Nat.le_succ_of_le (by assumption)))) (not_tab (show 238 ≤ L + 2 by (exact Nat.le_succ_of_le (by assumption)))) eo2'
            have C₉ : CodesIn qH ps' g' := C'.keep fun b o vs hb hd e => c₉.B.all b o (not213 hb) (not_tab hb) e
            refine wpAny_execs_cons ?_
            refine wpAny_For ?_
            refine Call_ ?_
            refine c_built c₉ (v := .type "range") ?_ ?_ ?_ ?_
            · kernel_rfl
            · kernel_rfl
            · decide
            refine PyProof.Rows.callWith_type1 ?_
            refine spliced_more ?_
            refine Call_ ?_
            refine c_built c₉ (v := .builtin "max") ?_ ?_ ?_ ?_
            · kernel_rfl
            · kernel_rfl
            · decide
            refine PyProof.Rows.callWith_builtin1 ?_
            refine spliced_more (c_name c₉ rfl ?_)
            refine spliced_more (c_intK c₉ fun s₁₀ t₁₀ c₁₀ e₁₀ => spliced_none ?_)
            refine max_two_ints (by exact r'.hd) fun h₁₁ tk₁₁ k₁₁ => ?_
            obtain ⟨τ, hτ⟩ : ∃ τ, (if (1 : Int) > at_ then Value.int 1 t₁₀ else Value.int at_ ta) = Value.int ((max at_ 1 : Nat) : Int) τ := by
              by_cases hc : (1 : Int) > at_
              · rw [if_pos hc, show max at_ 1 = 1 by (exact om229 hat hc)]; exact ⟨t₁₀, rfl⟩
              · rw [if_neg hc, show max at_ 1 = at_ by (exact om230 hat hc)]; exact ⟨ta, rfl⟩
            rw [hτ]
            have c₁₁ := c₁₀.ext (s' := { s₁₀ with heap := h₁₁, toks := tk₁₁ }) k₁₁ rfl rfl
            refine spliced_more ?_
            refine Call_ ?_
            refine c_built c₁₁ (v := .builtin "len") ?_ ?_ ?_ ?_
            · kernel_rfl
            · kernel_rfl
            · decide
            refine PyProof.Rows.callWith_builtin1 (spliced_more (c_name c₁₁ rfl (spliced_none ?_)))
            refine P.len_str (by lia) ?_
            have c₁₂ := c₁₁.ext (s' := { s₁₀ with heap := h₁₁, toks := tk₁₁ + 1 + 1 }) (fun _ _ e => e) rfl rfl
            refine spliced_none ?_
            refine up_iter (a := max at_ 1) (b := x.length) (I := h₁₁.objs.size + 1) (s := { s₁₀ with heap := h₁₁, toks := tk₁₁ + 1 + 1 }) (by (exact om231 hat)) (by (exact om29 hx)) (fun s₁₃ k₁₃ hg₁₃ ho₁₃ it₁₃ le₁₃ => ?_) rfl
            have c₁₃ := c₁₂.ext (s' := s₁₃) k₁₃ hg₁₃ ho₁₃
            obtain ⟨hJ1, hJ2, hJ3, hJ4⟩ := c₁₂.fresh (I := h₁₁.objs.size + 1) le₁₃
            have ro₁₃ : Ro L' { s₁₀ with heap := h₁₁, toks := tk₁₁ + 1 + 1 } s₁₃ := Ro.refl.ext k₁₃
            refine r_for (Walks.range (by exact r'.hd) _ ((max at_ 1 : Nat) : Int) 1 (x.length - max at_ 1)) { s₁₀ with heap := h₁₁, toks := tk₁₁ + 1 + 1 } hJ1 hJ2 hJ3 hJ4 (Ro.refl.none le₁₃ hJ1 hJ3) (fun j m => m "chars" = some (.str x t) ∧ ∀ k, k < j → seam sg.cps.toList x.cps.toList (max at_ 1 + k) = false) ?_ ?_ c₁₃ ro₁₃ ⟨rfl, fun k hk => absurd hk (Nat.not_lt_zero _)⟩ (by simpa using it₁₃)
            · rintro j v m s₁₄ hj ⟨hm, hno⟩ c₁₄ ro₁₄ ⟨tv, rfl⟩
              obtain ⟨p, hp⟩ : ∃ p, p = max at_ 1 + j := ⟨_, rfl⟩
              have hxl : x.cps.toList.length = x.length := by rw [Array.length_toList]; rfl
              have hp1 : p < x.cps.toList.length := by (exact om232 hj hp hxl)
              obtain ⟨cc, hcc⟩ : ∃ cc, x.cps.toList[p]? = some cc := ⟨_, List.getElem?_eq_getElem hp1⟩
              obtain ⟨bb, hbb⟩ : ∃ bb, x.cps.toList[p - 1]? = some bb := ⟨_, List.getElem?_eq_getElem (by (exact om233 hx hxl hp1))⟩
              have hse : seam sg.cps.toList x.cps.toList p = (isW cc && !isW bb && (sg.cps.toList == [] || (sg.cps.toList == [cc] || sg.cps.toList == [bb]))) := by
                unfold seam
                rw [hcc, hbb]
              rw [show ((max at_ 1 : Nat) : Int) + (j : Int) * 1 = ((p : Nat) : Int) by (exact om234 hp)]
              refine wpAny_assign_Name (c_storeK c₁₄ fun s₁₅ c₁₅ k₁₅ => ?_)
              have ro₁₅ : Ro L' s₁₄ s₁₅ := Ro.refl.but k₁₅
              obtain ⟨m₁, hm₁, c₁₅⟩ := c₁₅.named
              have hpl : m₁ "place" = some (.int p tv) := by rw [hm₁]; exact if_pos rfl
              have hch : m₁ "chars" = some (.str x t) := by rw [hm₁]; exact (if_neg (by decide)).trans hm
              clear hm₁
              refine wpAny_execs_cons ?_
              refine wpAny_If (wpAny_mono (Q := fun b z' => b = (isW cc && !isW bb) ∧ Cx w g' [213] s' L' m₁ [(213, tabObj ps')] z' ∧ Ro L' s₁₄ z') ?_ ?_ fun _ _ e => e)
              · refine isTrue_and (wpAny_isTrue_Compare1 ?_)
                refine Subscript_ (c_name c₁₅ hch (c_name c₁₅ hpl (sign_item (by simp; omega) (seq_at hcc) ?_)))
                have c₁₆ := c₁₅.ext (s' := { s₁₅ with toks := s₁₅.toks + 1 }) (fun _ _ e => e) rfl rfl
                refine c_strK c₁₆ fun s₁₇ t₁₇ c₁₇ e₁₇ => ?_
                have ro₁₇ : Ro L' s₁₄ s₁₇ := ro₁₅.eq (s'' := s₁₇) e₁₇
                refine P.in_str ?_
                refine wpAny_truthy_bool ?_
                have hw1 : (!(Builtin.Str.occurrences (Str.ofString " \t") ⟨#[cc]⟩ 0 (Str.ofString " \t").length 1).isEmpty) = isW cc := white_in cc
                have hw2 : (!(Builtin.Str.occurrences (Str.ofString " \t") ⟨#[bb]⟩ 0 (Str.ofString " \t").length 1).isEmpty) = isW bb := white_in bb
                rw [hw1]
                cases hwc : isW cc with
                | false =>
                  rw [if_neg (by decide)]
                  exact ⟨rfl, c₁₇, ro₁₇⟩
                | true =>
                  rw [if_pos rfl]
                  refine isTrue_and (wpAny_isTrue_Compare1 ?_)
                  refine Subscript_ (c_name c₁₇ hch (wpAny_BinOp (c_name c₁₇ hpl (c_intK c₁₇ fun s₁₈ t₁₈ c₁₈ e₁₈ => sub_int ?_))))
                  rw [show ((p : Nat) : Int) - 1 = ((p - 1 : Nat) : Int) by (exact om235 hat hp)]
                  refine sign_item (by simp; omega) (seq_at hbb) ?_
                  have c₁₉ := c₁₈.ext (s' := { s₁₈ with toks := s₁₈.toks + 1 + 1 }) (fun _ _ e => e) rfl rfl
                  refine c_strK c₁₉ fun s₂₀ t₂₀ c₂₀ e₂₀ => ?_
                  have ro₂₀ : Ro L' s₁₄ s₂₀ := ro₁₇.eq (s'' := s₂₀) (by rw [e₂₀]; exact e₁₈)
                  refine P.notIn_str ?_
                  refine wpAny_truthy_bool ?_
                  rw [hw2]
                  cases hwb : isW bb with
                  | true =>
                    rw [if_neg (by decide)]
                    exact ⟨rfl, c₂₀, ro₂₀⟩
                  | false =>
                    rw [if_pos (by decide)]
                    exact isTrue_and_nil ⟨rfl, c₂₀, ro₂₀⟩
              · rintro b z₁ ⟨rfl, d₁, rz₁⟩
                cases hB : (isW cc && !isW bb) with
                | false =>
                  rw [if_neg (by decide)]
                  refine wpAny_execs_nil ?_
                  refine wpAny_execs_nil ?_
                  refine ⟨m₁, ⟨hch, fun k hk => ?_⟩, d₁, rz₁⟩
                  rcases Nat.lt_or_ge k j with h1 | h1
                  · exact hno k h1
                  · rw [show max at_ 1 + k = p by (exact om236 hp hk h1), hse, hB]; rfl
                | true =>
                  rw [if_pos rfl]
                  rw [hB, Bool.true_and] at hse
                  refine wpAny_execs_cons ?_
                  refine wpAny_If (wpAny_mono (Q := fun b z' => b = (sg.cps.toList == [] || (sg.cps.toList == [cc] || sg.cps.toList == [bb])) ∧ Cx w g' [213] s' L' m₁ [(213, tabObj ps')] z' ∧ Ro L' s₁₄ z') ?_ ?_ fun _ _ e => e)
                  · refine isTrue_or (wpAny_isTrue_Compare1 ?_)
                    refine c_free d₁ rfl g1 d1' ?_
                    refine c_strK d₁ fun z₂ u₂ d₂ f₂' => ?_
                    refine P.eq_str ?_
                    refine wpAny_truthy_bool ?_
                    show (if (sg.cps.toList == []) = true then _ else _)
                    have rz₂ : Ro L' s₁₄ z₂ := rz₁.eq f₂'
                    cases hs0 : (sg.cps.toList == []) with
                    | true => rw [if_pos rfl]; exact ⟨rfl, d₂, rz₂⟩
                    | false =>
                      rw [if_neg (by decide)]
                      refine isTrue_or (wpAny_isTrue_Compare1 ?_)
                      refine c_free d₂ rfl g1 d1' ?_
                      refine Subscript_ (c_name d₂ hch (c_name d₂ hpl (sign_item (by simp; omega) (seq_at hcc) ?_)))
                      have d₃ := d₂.ext (s' := { z₂ with toks := z₂.toks + 1 }) (fun _ _ e => e) rfl rfl
                      refine P.eq_str ?_
                      refine wpAny_truthy_bool ?_
                      show (if (sg.cps.toList == [cc]) = true then _ else _)
                      have rz₃ : Ro L' s₁₄ { z₂ with toks := z₂.toks + 1 } := rz₂.eq rfl
                      cases hs1' : (sg.cps.toList == [cc]) with
                      | true => rw [if_pos rfl]; exact ⟨rfl, d₃, rz₃⟩
                      | false =>
                        rw [if_neg (by decide)]
                        refine isTrue_or (wpAny_isTrue_Compare1 ?_)
                        refine c_free d₃ rfl g1 d1' ?_
                        refine Subscript_ (c_name d₃ hch (wpAny_BinOp (c_name d₃ hpl (c_intK d₃ fun z₄ u₄ d₄ f₄' => sub_int ?_))))
                        rw [show ((p : Nat) : Int) - 1 = ((p - 1 : Nat) : Int) by (exact om235 hat hp)]
                        refine sign_item (by simp; omega) (seq_at hbb) ?_
                        have d₅ := d₄.ext (s' := { z₄ with toks := z₄.toks + 1 + 1 }) (fun _ _ e => e) rfl rfl
                        refine P.eq_str ?_
                        refine wpAny_truthy_bool ?_
                        show (if (sg.cps.toList == [bb]) = true then _ else _)
                        have rz₅ : Ro L' s₁₄ { z₄ with toks := z₄.toks + 1 + 1 } := rz₃.eq f₄'
                        cases hs2' : (sg.cps.toList == [bb]) with
                        | true => rw [if_pos rfl]; exact ⟨rfl, d₅, rz₅⟩
                        | false =>
                          rw [if_neg (by decide)]
                          exact isTrue_or_nil ⟨rfl, d₅, rz₅⟩
                  · rintro b z₂ ⟨rfl, d₂, rz₂⟩
                    cases hB2 : (sg.cps.toList == [] || (sg.cps.toList == [cc] || sg.cps.toList == [bb])) with
                    | false =>
                      rw [if_neg (by decide)]
                      refine wpAny_execs_nil ?_
                      refine wpAny_execs_nil ?_
                      refine wpAny_execs_nil ?_
                      refine ⟨m₁, ⟨hch, fun k hk => ?_⟩, d₂, rz₂⟩
                      rcases Nat.lt_or_ge k j with h1 | h1
                      · exact hno k h1
                      · rw [show max at_ 1 + k = p by (exact om236 hp hk h1), hse, hB2]
                    | true =>
                      rw [if_pos rfl]
                      rw [hB2] at hse
                      refine wpAny_execs_cons ?_
                      refine wpAny_Return_some ?_
                      refine Call_ ?_
                      refine c_glob d₂ (v := .ref 218) ?_ ?_
                      · kernel_rfl
                      refine callWith_K (K := KK w) d₂.X (by kernel_rfl) ?_
                      refine spliced_more (c_name d₂ hpl (spliced_more (c_free d₂ rfl g2 d2' (spliced_none ?_))))
                      refine ⟨d₂.X, ?_⟩
                      refine hit_ok d₂.ok r'.deep.le (d₂.get (.head _)) (C₉.keep fun b o vs _ _ e => d₂.base e) fun s₂₁ v₂₁ ps₂₁ O₂₁ S₂₁ T₂₁ C₂₁ H₂₁ => ?_
                      refine hq s₂₁ _ ps₂₁ O₂₁ ((d₂.st.trans S₂₁).sub fun b hb => by simpa using hb) T₂₁ C₂₁ ?_
                      have hf : seamFrom sg.cps.toList x.cps.toList at_ = some p := by
                        unfold seamFrom
                        rw [firstSeam_at (q := j) (by assumption) hno (by rw [← hp]; exact hse), ← hp]
                      rw [hf]
                      exact ⟨v₂₁, rfl, H₂₁.mono (Nat.le_of_lt d₂.lt) (Nat.le_trans c₉.big (Nat.le_of_eq c₉.hL.symm))⟩
            · rintro m s₁₄ ⟨hm, hno⟩ c₁₄ ro₁₄
              refine wpAny_execs_nil ?_
              refine wpAny_execs_cons ?_
              refine wpAny_Return_some ?_
              refine wpAny_Constant_none ?_
              refine hq s₁₄ .none ps' c₁₄.ok c₁₄.st (c₁₄.get (.head _)) (C₉.keep fun b o vs _ _ e => c₁₄.base e) ?_
              have hf : seamFrom sg.cps.toList x.cps.toList at_ = none := by
                unfold seamFrom
                exact firstSeam_no fun k hk => hno k (by
                  have hxl : x.cps.toList.length = x.length := by rw [Array.length_toList]; rfl
                  assumption)
              rw [hf]
  · simp only [List.mem_cons, List.not_mem_nil, or_false] at hx
    rcases hx with rfl | rfl <;> exact .inr ⟨rfl, rfl⟩
  · exact cells_hab n q hq
end
end Mine
end

section
open PySem PySem.W PySem.Calls PyProof.Rows
set_option maxRecDepth 100000
set_option maxHeartbeats 8000000
namespace Mine
theorem firstSeam_some {sg x : List Nat} : ∀ {n p q : Nat}, firstSeam sg x n p = some q → p ≤ q ∧ q < p + n ∧ seam sg x q = true ∧ ∀ k, p ≤ k → k < q → seam sg x k = false
  | 0, _, _, h => by cases h
  | n + 1, p, q, h => by
    unfold firstSeam at h
    cases hs : seam sg x p with
    | true => rw [hs, if_pos rfl] at h; cases h; exact ⟨Nat.le_refl _, by (exact om237), hs, fun k h1 h2 => absurd h1 (by (exact Nat.not_le.mpr (by assumption)))⟩
    | false =>
      rw [hs, if_neg (by decide)] at h
      obtain ⟨a, b, c, d⟩ := firstSeam_some h
      refine ⟨by (exact Nat.le_of_lt (by assumption)), by (exact om238 b), c, fun k h1 h2 => ?_⟩
      rcases Nat.lt_or_ge p k with h3 | h3
      · exact d k h3 h2
      · have : k = p := by (exact om239 h1 h3)
        rw [this]; exact hs
theorem firstSeam_none {sg x : List Nat} : ∀ {n p : Nat}, firstSeam sg x n p = none → ∀ k, p ≤ k → k < p + n → seam sg x k = false
  | 0, p, _, k, h1, h2 => absurd h1 (by (exact Nat.not_le.mpr (by assumption)))
  | n + 1, p, h, k, h1, h2 => by
    unfold firstSeam at h
    cases hs : seam sg x p with
    | true => rw [hs, if_pos rfl] at h; cases h
    | false =>
      rw [hs, if_neg (by decide)] at h
      rcases Nat.lt_or_ge p k with h3 | h3
      · exact firstSeam_none h k h3 (by (exact om240 h2))
      · have : k = p := by (exact om239 h1 h3)
        rw [this]; exact hs
theorem seam_lt {sg x : List Nat} {p : Nat} (h : seam sg x p = true) : 1 ≤ p ∧ p < x.length := by
  unfold seam at h
  cases h1 : x[p]? with
  | none => rw [h1] at h; cases h
  | some c =>
    refine ⟨?_, (List.getElem?_eq_some_iff.mp h1).1⟩
    cases p with
    | zero =>
      rw [show (0 - 1 : Nat) = 0 from rfl, h1] at h
      dsimp only at h
      cases hw : isW c <;> rw [hw] at h <;> simp at h
    | succ p => (exact Nat.zero_lt_succ _)
noncomputable def lastBelow (sg x : List Nat) : Nat → Option Nat
  | 0 => none
  | n + 1 => if seam sg x n then some n else lastBelow sg x n
theorem lastBelow_some {sg x : List Nat} {p : Nat} (h : seam sg x p = true) : ∀ {n : Nat}, p < n → (∀ k, p < k → k < n → seam sg x k = false) → lastBelow sg x n = some p
  | 0, h1, _ => absurd h1 (Nat.not_lt_zero _)
  | n + 1, h1, h2 => by
    unfold lastBelow
    rcases Nat.lt_or_ge p n with h3 | h3
    · rw [h2 n h3 (Nat.lt_succ_self _), if_neg (by decide)]
      exact lastBelow_some h h3 fun k a b => h2 k a (by (exact Nat.le_succ_of_le (by assumption)))
    · have : p = n := by (exact om71 h1 h3)
      subst this
      rw [h, if_pos rfl]
theorem lastBelow_none {sg x : List Nat} : ∀ {n : Nat}, (∀ k, k < n → seam sg x k = false) → lastBelow sg x n = none
  | 0, _ => rfl
  | n + 1, h => by
    unfold lastBelow
    rw [h n (Nat.lt_succ_self _), if_neg (by decide)]
    exact lastBelow_none fun k a => h k (by (exact Nat.le_succ_of_le (by assumption)))
theorem lastBelow_cong {sg x : List Nat} {a b : Nat} (h : ∀ k, (a ≤ k ∧ k < b) ∨ (b ≤ k ∧ k < a) → seam sg x k = false) : lastBelow sg x a = lastBelow sg x b := by
  have key : ∀ n a, (∀ k, a ≤ k → k < a + n → seam sg x k = false) → lastBelow sg x (a + n) = lastBelow sg x a := by
    intro n
    induction n with
    | zero => intro a _; rfl
    | succ n ih =>
      intro a h
      show lastBelow sg x (a + n + 1) = _
      rw [lastBelow, h (a + n) (by (exact om241)) (by (exact Nat.lt_succ_self _)), if_neg (by decide)]
      exact ih a fun k h1 h2 => h k h1 (by (exact Nat.le_succ_of_le (by assumption)))
  rcases Nat.le_total a b with h1 | h1
  · have := key (b - a) a fun k h2 h3 => h k (.inl ⟨h2, by (exact om242 h1 h3)⟩)
    rw [show a + (b - a) = b by (exact om243 h1)] at this
    exact this.symm
  · have := key (a - b) b fun k h2 h3 => h k (.inr ⟨h2, by (exact om242 h1 h3)⟩)
    rwa [show b + (a - b) = a by (exact om243 h1)] at this
noncomputable def HitOr (w : World) (lo : Nat) (h : Heap) (z : Int) (o : Option Nat) (r : Value) : Prop := match o with
  | none => r = .none
  | some p => ∃ u, r = .ref u ∧ HitAt w lo h u p z
theorem HitOr.keep {w : World} {lo : Nat} {h h' : Heap} {z : Int} {o : Option Nat} {r : Value} (H : HitOr w lo h z o r) (k : Keep2 lo h h') : HitOr w lo h' z o r := by
  cases o with
  | none => exact H
  | some p => obtain ⟨u, e, H⟩ := H; exact ⟨u, e, H.keep k⟩
theorem HitOr.mono {w : World} {lo lo' : Nat} {h : Heap} {z : Int} {o : Option Nat} {r : Value} (H : HitOr w lo h z o r) (hl : lo' ≤ lo) (big : (238 : Nat) ≤ lo') : HitOr w lo' h z o r := by
  cases o with
  | none => exact H
  | some p => obtain ⟨u, e, H⟩ := H; exact ⟨u, e, H.mono hl big⟩
section
variable {w : World} {g : Heap} {ws : List Addr} {s₀ s s' : Shared} {L : Addr} {m : Str → Option Value} {news : List (Addr × Obj)}
theorem Cx.keepL (c : Cx w g ws s₀ L m news s) (k : ∀ b o, b ≠ L → s.heap.get? b = some o → s'.heap.get? b = some o) : Keep2 (s₀.heap.objs.size + 1) s.heap s'.heap := fun b o hb h e => k b o (by
  rcases h with ⟨h, _⟩ | ⟨vs, h⟩
  · rintro rfl
    have := c.hL
    exact absurd h (by rw [← this]; exact Nat.not_succ_le_self _)
  · exact c.neLf e h) e
theorem St.keep2 {lo : Nat} {ws : List Addr} (S : St ws s s') (hw : ∀ b ∈ ws, ¬ (238 : Nat) ≤ b) : Keep2 lo s.heap s'.heap := fun b o hb _ e => S.keep b o (fun q => hw b q hb) (not_tab hb) e
variable {A : Around} {E : Value → Shared → Prop} {cn : Str} {cs : Scope} {a : Addr} {ccd : Value} {cl : List (Str × Addr)}
theorem span_call {lo : Nat} {pos : Pos} {pl : Sem Bool} {env : Env} {u : Addr} {p z : Int} {Q : Value → Shared → Prop} (c : Cx w g ws s₀ L m news s) (hroom : A.depth < recursionLimit) (H : HitAt w lo s.heap u p z)
    (h : ∀ s' T t1 t2, Cx w g ws s₀ L m news s' → St [] s s' → s'.heap.get? T = some (tupObj #[.int p t1, .int (p + z) t2]) → s.heap.objs.size ≤ T → Q (.ref T) s') :
    wpAny (model PG w) A (getMethod (.ref u) "span" pl) (fun fx s₂ => wpAny (model PG w) A (callWith pos fx.1 fx.2 (backTo pos (starEach [] env)) []) Q E s₂) E s := by
  obtain ⟨⟨D, fd, lam, hh, tk, l1, l2, l3, e1, e2, ⟨fd', e3⟩, H⟩, big⟩ := H
  refine fn_method e1 e2 S.fn_span rfl ?_ ?_
  · rfl
  have c₂ := c.ext (s' := { s with toks := s.toks + 1 }) (fun _ _ e => e) rfl rfl
  refine callWith_F0 ⟨_, _, _, _, e3⟩ ?_
  refine H _ _ _ _ c₂.ok Keep2.refl hroom fun s' T t1 t2 O' S' eT hT => ?_
  exact h s' T t1 t2 (c₂.call0 S' O') ⟨S'.keep, S'.grow, S'.os⟩ eT hT
theorem pair_assign {xi xj : Str} {pi pj pt : Pos} {kt : Nat} {T : Addr} {v1 v2 : Value} {Q : Unit → Shared → Prop} (c : Cx w g ws s₀ L m news s) (hh : A.handled = none) (eT : s.heap.get? T = some (tupObj #[v1, v2]))
    (h : ∀ s', Cx w g ws s₀ L (fun y => if y = xj then some v2 else if y = xi then some v1 else m y) news s' → (∀ b o, b ≠ L → s.heap.get? b = some o → s'.heap.get? b = some o) → Q () s')
    (hk : cs.kind = .function := by rfl) (hxi : (envX cn cs L a ccd cl).kindOf xi = some .local := by rfl) (hxj : (envX cn cs L a ccd cl).kindOf xj = some .local := by rfl) :
    wpAny (model PG w) A (assign (.Tuple [.Name xi pi, .Name xj pj] kt pt) (envX cn cs L a ccd cl) (.ref T)) Q E s := by
  refine wpAny_assign_Tuple hh ⟨_, eT, rfl, _, rfl⟩ rfl rfl fun h₂ hx₂ => ?_
  have k₂ : ∀ b o, s.heap.get? b = some o → h₂.get? b = some o := fun b o e => hx₂ b o (Nat.ne_of_lt (Heap.lt_size e)) e
  have c₂ := c.ext (s' := { s with heap := h₂ }) k₂ rfl rfl
  show wpAny _ _ (do holding [_] (assign (.Name _ _) _ _); do holding [] (assign (.Name _ _) _ _); pure ()) _ _ _
  refine wpAny_bind (wpAny_holding (wpAny_assign_Name (c_storeK c₂ (fun s₃ c₃ k₃ => ?_) hk hxi)))
  refine wpAny_bind (wpAny_holding (wpAny_assign_Name (c_storeK c₃ (fun s₄ c₄ k₄ => wpAny_pure ?_) hk hxj)))
  exact h s₄ c₄ fun b o hb e => k₄ b o hb (k₃ b o hb (k₂ b o e))
theorem search_call {lo : Nat} {pos : Pos} {pl : Sem Bool} {env : Env} {e : Expr} {rest : List Expr} {v : Addr} {sg : Str} {z : Int} {Q : Value → Shared → Prop} (F : FinderAt w lo s.heap v sg z)
    (h : wpAny (model PG w) A (spliced (backTo pos (starEach (e :: rest) env))) (fun vs s₁ => ∃ x t at_ ps, s₁.heap = s.heap ∧ Ok w s₁ ∧ Rm A 6 ∧ s₁.heap.get? 213 = some (tabObj ps) ∧ CodesIn qH ps s₁.heap ∧ x.length ≤ 1000 ∧ at_ ≤ 2000 ∧ (vs = [.str x t] ∧ at_ = 0 ∨ ∃ ta, vs = [.str x t, .int (at_ : Nat) ta]) ∧
      ∀ s' r ps', Ok w s' → St [213] s₁ s' → s'.heap.get? 213 = some (tabObj ps') → CodesIn qH ps' s'.heap → HitOr w s₁.heap.objs.size s'.heap z (seamFrom sg.cps.toList x.cps.toList at_) r → Q r s') E { s with toks := s.toks + 1 })
    (he : starEach (e :: rest) env = (false, eval e env) :: starEach rest env := by rfl) (hplain : (backTo pos (starEach rest env)).any (·.1) = false := by rfl) :
    wpAny (model PG w) A (getMethod (.ref v) "search" pl) (fun fx s₂ => wpAny (model PG w) A (callWith pos fx.1 fx.2 (backTo pos (starEach (e :: rest) env)) []) Q E s₂) E s := by
  obtain ⟨⟨D, fd, srch, hh, tk, l1, l2, l3, e1, e2, ⟨fd', e3⟩, F⟩, big⟩ := F
  refine fn_method e1 e2 S.fn_search rfl ?_ ?_
  · rfl
  refine callWith_F (q := srch) ⟨_, _, _, _, e3⟩ (wpAny_mono h (fun vs s₁ h₁ => ?_) fun _ _ e => e) he hplain
  obtain ⟨x, t, at_, ps, q1, q2, q3, q4, q5, q6, q7, q8, q9⟩ := h₁
  refine ⟨⟨_, _, _, _, by rw [q1]; exact e3⟩, ?_⟩
  exact F A E Q s₁ x t vs at_ ps q2 q3 (by rw [q1]; exact Keep2.refl) q4 q5 q6 q7 q8 q9
end
end Mine
end

section
open PySem PySem.W PySem.Calls PyProof.Rows
set_option maxRecDepth 100000
set_option maxHeartbeats 8000000
namespace Mine
noncomputable def SrI (w : World) (g : Heap) (s : Shared) (L : Addr) (x sg : Str) (t tc : Tok) (z col : Int) (fdr : Addr) (n : Nat) (s' : Shared) : Prop :=
  ∃ p u F m ti tj ps', n = x.length - p ∧ m "m" = some (.ref u) ∧ m "prog" = some (.ref fdr) ∧ m "chars" = some (.str x t) ∧ m "col" = some (.int col tc) ∧ m "found" = some F ∧ m "i" = some (.int (p : Nat) ti) ∧ m "j" = some (.int ((p : Nat) + z) tj) ∧ HitAt w (s.heap.objs.size + 1) s'.heap u (p : Nat) z ∧ HitOr w (s.heap.objs.size + 1) s'.heap z (lastBelow sg.cps.toList x.cps.toList p) F ∧ seam sg.cps.toList x.cps.toList p = true ∧ (∀ k, k < p → seam sg.cps.toList x.cps.toList k = true → (k : Int) < col) ∧ Cx w g [213] s L m [(213, tabObj ps')] s' ∧ CodesIn qH ps' s'.heap
section
variable {w : World} {A : Around} {E : Value → Shared → Prop} {s : Shared} {Q : Value → Shared → Prop}
theorem srev_ok {lo : Nat} {fdr : Addr} {sg x : Str} {z col : Int} {t tc : Tok} {ps : Array Value} (O : Ok w s) (r : Rm A 8) (F : FinderAt w lo s.heap fdr sg z) (hz : z = 0 ∨ z = 1) (hT : s.heap.get? 213 = some (tabObj ps)) (C : CodesIn qH ps s.heap) (hx : x.length ≤ 1000)
    (h : ∀ s' r ps', Ok w s' → St [213] s s' → s'.heap.get? 213 = some (tabObj ps') → CodesIn qH ps' s'.heap → HitOr w s.heap.objs.size s'.heap z (lastBelow sg.cps.toList x.cps.toList col.toNat) r → Q r s') :
    wpAny (model PG w) A (call (.ref 211) [.ref fdr, .str x t, .int col tc]) Q E s := by
  have big : (238 : Nat) ≤ s.heap.objs.size := (base_of (own := []) O.gd no_own).2
  refine c_enterH (binds := [("prog", .ref fdr), ("chars", .str x t), ("col", .int col tc)]) [(213, tabObj ps)] O r.room (own213 hT) fun g L s₁ c => ?_
  have hL : s.heap.objs.size = L := c.hL
  have Fg : FinderAt w lo g fdr sg z := F.keep fun b o hb _ e => c.B.all b o (not213 hb) (not_tab hb) e
  have Cg : CodesIn qH ps g := C.keep fun b o vs hb _ e => c.B.all b o (not213 hb) (not_tab hb) e
  refine wpAny_execs_cons ?_
  refine wpAny_Assign_Name ?_
  refine MethodCall_ ?_
  refine c_name c rfl ?_
  refine search_call (sg := sg) (z := z) (Fg.keep (.of fun b o e => c.base e)) ?_
  have c₂ := c.ext (s' := { s₁ with toks := s₁.toks + 1 }) (fun _ _ e => e) rfl rfl
  refine spliced_more (c_name c₂ rfl (spliced_none ?_))
  refine ⟨x, t, 0, ps, rfl, c₂.ok, r.deep.le, c₂.get (.head _), Cg.keep fun b o vs _ _ e => c₂.base e, hx, by (exact Nat.zero_le _), .inl ⟨rfl, rfl⟩, fun s₃ rv ps₃ O₃ S₃ T₃ C₃ H₃ => ?_⟩
  have c₃ := c₂.call1 (Upd.head (fun _ h => nomatch h)) S₃ O₃ T₃
  have H₃' : HitOr w (s.heap.objs.size + 1) s₃.heap z (seamFrom sg.cps.toList x.cps.toList 0) rv := H₃.mono (Nat.succ_le_of_lt c.lt) (Nat.le_succ_of_le big)
  refine c_storeK c₃ fun s₄ c₄' k₄ => ?_
  obtain ⟨m₄, hm₄, c₄⟩ := c₄'.named
  have hm_m : m₄ "m" = some rv := by rw [hm₄]; exact if_pos rfl
  have hm_p : m₄ "prog" = some (.ref fdr) := by rw [hm₄]; rfl
  have hm_c : m₄ "chars" = some (.str x t) := by rw [hm₄]; rfl
  have hm_l : m₄ "col" = some (.int col tc) := by rw [hm₄]; rfl
  clear hm₄ c₄'
  have H₄ := H₃'.keep (c₃.keepL k₄)
  have C₄ : CodesIn qH ps₃ s₄.heap := C₃.keep fun b o vs _ hd e => k₄ b o (c₃.neLf e hd) e
  have hxl : x.cps.toList.length = x.length := by rw [Array.length_toList]; rfl
  refine wpAny_execs_cons ?_
  refine wpAny_If ?_
  refine isTrue_not ?_
  refine isTrue_plain ?_
  refine c_name c₄ hm_m ?_
  cases hsf : seamFrom sg.cps.toList x.cps.toList 0 with
  | none =>
    rw [hsf] at H₄
    have e : rv = .none := H₄
    subst e
    refine truthy_none ?_
    rw [if_pos (by decide)]
    refine wpAny_execs_cons ?_
    refine wpAny_Return_some ?_
    refine wpAny_Constant_none ?_
    refine h s₄ _ ps₃ c₄.ok c₄.st (c₄.get (.head _)) C₄ ?_
    rw [lastBelow_none fun k hk => ?_]
    · rfl
    · unfold seamFrom at hsf
      cases hs : seam sg.cps.toList x.cps.toList k with
      | false => rfl
      | true =>
        have h1 := seam_lt hs
        have := firstSeam_none hsf k (by (exact om244 hx hxl h1)) (by (exact om245 h1))
        rw [hs] at this; cases this
  | some p =>
    rw [hsf] at H₄
    obtain ⟨u, rfl, H₄⟩ := H₄
    have hfn := H₄.ex
    obtain ⟨D, fd, lam, hh, tk, l1, l2, l3, e1, e2, e3, _⟩ := hfn
    refine fn_true e1 ?_
    rw [if_neg (by decide)]
    refine wpAny_execs_nil ?_
    refine wpAny_execs_cons ?_
    refine wpAny_Assign_Name ?_
    refine wpAny_Constant_none ?_
    refine c_storeK c₄ fun s₅ c₅' k₅ => ?_
    obtain ⟨m₅, hm₅, c₅⟩ := c₅'.named
    have hm_m₅ : m₅ "m" = some (.ref u) := by rw [hm₅]; exact (if_neg (by decide)).trans hm_m
    have hm_p₅ : m₅ "prog" = some (.ref fdr) := by rw [hm₅]; exact (if_neg (by decide)).trans hm_p
    have hm_c₅ : m₅ "chars" = some (.str x t) := by rw [hm₅]; exact (if_neg (by decide)).trans hm_c
    have hm_l₅ : m₅ "col" = some (.int col tc) := by rw [hm₅]; exact (if_neg (by decide)).trans hm_l
    have hm_f₅ : m₅ "found" = some .none := by rw [hm₅]; exact if_pos rfl
    clear hm₅ c₅'
    have H₅ := H₄.keep (c₄.keepL k₅)
    have C₅ : CodesIn qH ps₃ s₅.heap := C₄.keep fun b o vs _ hd e => k₅ b o (c₄.neLf e hd) e
    refine wpAny_execs_cons ?_
    refine Assign_Tuple ?_
    refine MethodCall_ ?_
    refine c_name c₅ hm_m₅ ?_
    refine span_call c₅ (show A.depth + 1 < recursionLimit from r.room 1) H₅ fun s₆ T u1 u2 c₆ S₆ eT hT₆ => ?_
    refine pair_assign c₆ (by exact r.hd) eT fun s₇ c₇' k₇ => ?_
    have H₇ := (H₅.keep (S₆.keep2 fun _ h => nomatch h)).keep (c₆.keepL k₇)
    have C₇ : CodesIn qH ps₃ s₇.heap := (C₅.keep fun b o vs hb _ e => S₆.keep b o (fun h => nomatch h) (not_tab hb) e).keep fun b o vs _ hd e => k₇ b o (c₆.neLf e hd) e
    obtain ⟨m₇, hm₇, c₇⟩ := c₇'.named
    have hm_m₇ : m₇ "m" = some (.ref u) := by rw [hm₇]; exact (if_neg (by decide)).trans ((if_neg (by decide)).trans hm_m₅)
    have hm_p₇ : m₇ "prog" = some (.ref fdr) := by rw [hm₇]; exact (if_neg (by decide)).trans ((if_neg (by decide)).trans hm_p₅)
    have hm_c₇ : m₇ "chars" = some (.str x t) := by rw [hm₇]; exact (if_neg (by decide)).trans ((if_neg (by decide)).trans hm_c₅)
    have hm_l₇ : m₇ "col" = some (.int col tc) := by rw [hm₇]; exact (if_neg (by decide)).trans ((if_neg (by decide)).trans hm_l₅)
    have hm_f₇ : m₇ "found" = some .none := by rw [hm₇]; exact (if_neg (by decide)).trans ((if_neg (by decide)).trans hm_f₅)
    have hm_i₇ : m₇ "i" = some (.int p u1) := by rw [hm₇]; exact (if_neg (by decide)).trans (if_pos rfl)
    have hm_j₇ : m₇ "j" = some (.int (p + z) u2) := by rw [hm₇]; exact if_pos rfl
    clear hm₇ c₇'
    unfold seamFrom at hsf
    obtain ⟨q1, q2, q3, q4⟩ := firstSeam_some hsf
    have q5 := seam_lt q3
    have hno : ∀ k, k < p → seam sg.cps.toList x.cps.toList k = false := fun k hk => by
      cases hs : seam sg.cps.toList x.cps.toList k with
      | false => rfl
      | true =>
        have h1 := seam_lt hs
        have := q4 k (by (exact om246 q1 q2 h1)) hk
        rw [hs] at this; cases this
    refine wpAny_execs_cons ?_
    refine wpAny_mono (Q := fun fl s' => match fl with
      | .next => ∃ m F tf ps', m "found" = some F ∧ HitOr w (s.heap.objs.size + 1) s'.heap z (lastBelow sg.cps.toList x.cps.toList col.toNat) F ∧ Cx w g [213] s L m [(213, tabObj ps')] s' ∧ CodesIn qH ps' s'.heap ∧ tf = (0 : Nat)
      | _ => False) ?_ ?_ fun _ _ e => e
    · refine wpAny_While ?_
      refine codeAny_whileLoop (I := SrI w g s L x sg t tc z col fdr) (fun n s₈ hI => ?_) (x.length - p) ⟨p, u, .none, m₇, u1, u2, ps₃, rfl, hm_m₇, hm_p₇, hm_c₇, hm_l₇, hm_f₇, hm_i₇, hm_j₇, H₇, ?_, q3, ?_, c₇, C₇⟩
      · obtain ⟨p, u, F, m, ti, tj, ps', rfl, n_m, n_p, n_c, n_l, n_f, n_i, n_j, H, HF, hsp, hlt, c₈, C₈⟩ := hI
        have hsl := seam_lt hsp
        refine isTrue_and (wpAny_isTrue_Compare1 ?_)
        refine c_name c₈ n_i (c_name c₈ n_l (lt_int (wpAny_truthy_bool ?_)))
        by_cases hc : ((p : Nat) : Int) < col
        · rw [decide_eq_true hc, if_pos rfl]
          refine isTrue_and (wpAny_isTrue_Compare1 ?_)
          refine c_name c₈ n_j (c_name c₈ n_l (le_int (wpAny_truthy_bool ?_)))
          rw [decide_eq_true (show ((p : Nat) : Int) + z ≤ col by rcases hz with rfl | rfl <;> lia), if_pos rfl]
          refine isTrue_and_nil ?_
          rw [if_pos rfl]
          refine wpAny_execs_cons ?_
          refine wpAny_Assign_Name ?_
          refine c_name c₈ n_m ?_
          refine c_storeK c₈ fun s₉ c₉' k₉ => ?_
          obtain ⟨m₉, hm₉, c₉⟩ := c₉'.named
          have n_m₉ : m₉ "m" = some (.ref u) := by rw [hm₉]; exact (if_neg (by decide)).trans n_m
          have n_p₉ : m₉ "prog" = some (.ref fdr) := by rw [hm₉]; exact (if_neg (by decide)).trans n_p
          have n_c₉ : m₉ "chars" = some (.str x t) := by rw [hm₉]; exact (if_neg (by decide)).trans n_c
          have n_l₉ : m₉ "col" = some (.int col tc) := by rw [hm₉]; exact (if_neg (by decide)).trans n_l
          have n_f₉ : m₉ "found" = some (.ref u) := by rw [hm₉]; exact if_pos rfl
          have n_i₉ : m₉ "i" = some (.int (p : Nat) ti) := by rw [hm₉]; exact (if_neg (by decide)).trans n_i
          have n_j₉ : m₉ "j" = some (.int ((p : Nat) + z) tj) := by rw [hm₉]; exact (if_neg (by decide)).trans n_j
          clear hm₉ c₉'
          have H₉ := H.keep (c₈.keepL k₉)
          have C₉ : CodesIn qH ps' s₉.heap := C₈.keep fun b o vs _ hd e => k₉ b o (c₈.neLf e hd) e
          refine wpAny_execs_cons ?_
          refine wpAny_mono (Q := fun fl z' => match fl with
            | .next => ∃ m tj, m "m" = some (.ref u) ∧ m "prog" = some (.ref fdr) ∧ m "chars" = some (.str x t) ∧ m "col" = some (.int col tc) ∧ m "found" = some (.ref u) ∧ m "j" = some (.int ((p + 1 : Nat) : Int) tj) ∧ Cx w g [213] s L m [(213, tabObj ps')] z' ∧ Keep2 (s.heap.objs.size + 1) s₉.heap z'.heap
            | _ => False) ?_ ?_ fun _ _ e => e
          · refine wpAny_If (wpAny_isTrue_Compare1 ?_)
            refine c_name c₉ n_i₉ (c_name c₉ n_j₉ (eq_int (wpAny_truthy_bool ?_)))
            rcases hz with rfl | rfl
            · rw [show (((p : Nat) : Int) == ((p : Nat) : Int) + 0) = true from beq_iff_eq.mpr (by (exact om248)), if_pos rfl]
              refine wpAny_execs_cons ?_
              refine wpAny_Assign_Name ?_
              refine wpAny_BinOp (c_name c₉ n_j₉ (c_intK c₉ fun s₁₀ t₁₀ c₁₀ e₁₀ => PyProof.Rows.add_int ?_))
              have c₁₁ := c₁₀.ext (s' := { s₁₀ with toks := s₁₀.toks + 1 }) (fun _ _ e => e) rfl rfl
              refine c_storeK c₁₁ fun s₁₂ c₁₂ k₁₂ => ?_
              refine wpAny_execs_nil ?_
              refine ⟨_, s₁₀.toks, ?_, ?_, ?_, ?_, ?_, ?_, c₁₂, ?_⟩
              · exact (if_neg (by decide)).trans n_m₉
              · exact (if_neg (by decide)).trans n_p₉
              · exact (if_neg (by decide)).trans n_c₉
              · exact (if_neg (by decide)).trans n_l₉
              · exact (if_neg (by decide)).trans n_f₉
              · rw [show ((p + 1 : Nat) : Int) = ((p : Nat) : Int) + 0 + 1 by (exact om249)]
                exact if_pos rfl
              · exact e₁₀ ▸ c₁₁.keepL k₁₂
            · rw [show (((p : Nat) : Int) == ((p : Nat) : Int) + 1) = false from beq_eq_false_iff_ne.mpr (by (exact om250)), if_neg (by decide)]
              refine wpAny_execs_nil ?_
              exact ⟨m₉, tj, n_m₉, n_p₉, n_c₉, n_l₉, n_f₉, n_j₉, c₉, Keep2.refl⟩
          · intro fl z₁ hmid
            match fl, hmid with
            | .next, hm =>
              obtain ⟨m₁, tj₁, o_m, o_p, o_c, o_l, o_f, o_j, d₁, K₁⟩ := hm
              have H₁ := H₉.keep K₁
              have C₁ : CodesIn qH ps' z₁.heap := C₉.keep fun b o vs hb hd e => K₁ b o hb (.inr ⟨vs, hd⟩) e
              refine wpAny_execs_cons ?_
              refine wpAny_Assign_Name ?_
              refine MethodCall_ ?_
              refine c_name d₁ o_p ?_
              refine search_call (sg := sg) (z := z) (Fg.keep (.of fun b o e => d₁.base e)) ?_
              have d₂ := d₁.ext (s' := { z₁ with toks := z₁.toks + 1 }) (fun _ _ e => e) rfl rfl
              refine spliced_more (c_name d₂ o_c (spliced_more (c_name d₂ o_j (spliced_none ?_))))
              refine ⟨x, t, p + 1, ps', rfl, d₂.ok, r.deep.le, d₂.get (.head _), C₁, hx, by (exact om251 hx hxl hsl), .inr ⟨_, rfl⟩, fun z₃ rv ps₃ O₃ S₃ T₃ C₃ R₃ => ?_⟩
              have d₃ := d₂.call1 (Upd.head (fun _ h => nomatch h)) S₃ O₃ T₃
              have R₃' : HitOr w (s.heap.objs.size + 1) z₃.heap z (seamFrom sg.cps.toList x.cps.toList (p + 1)) rv := R₃.mono (Nat.succ_le_of_lt d₁.lt) (Nat.le_succ_of_le big)
              have H₃ := H₁.keep (h' := z₃.heap) (St.keep2 (s := { z₁ with toks := z₁.toks + 1 }) S₃ fun b hb => by rw [List.mem_singleton] at hb; subst hb; decide)
              refine c_storeK d₃ fun z₄ d₄' k₄ => ?_
              obtain ⟨m₄, hm₄, d₄⟩ := d₄'.named
              have p_m : m₄ "m" = some rv := by rw [hm₄]; exact if_pos rfl
              have p_p : m₄ "prog" = some (.ref fdr) := by rw [hm₄]; exact (if_neg (by decide)).trans o_p
              have p_c : m₄ "chars" = some (.str x t) := by rw [hm₄]; exact (if_neg (by decide)).trans o_c
              have p_l : m₄ "col" = some (.int col tc) := by rw [hm₄]; exact (if_neg (by decide)).trans o_l
              have p_f : m₄ "found" = some (.ref u) := by rw [hm₄]; exact (if_neg (by decide)).trans o_f
              clear hm₄ d₄'
              have H₄ := H₃.keep (d₃.keepL k₄)
              have R₄ := R₃'.keep (d₃.keepL k₄)
              have C₄ : CodesIn qH ps₃ z₄.heap := C₃.keep fun b o vs _ hd e => k₄ b o (d₃.neLf e hd) e
              refine wpAny_execs_cons ?_
              refine wpAny_If ?_
              refine isTrue_not ?_
              refine isTrue_plain ?_
              refine c_name d₄ p_m ?_
              cases hsf' : seamFrom sg.cps.toList x.cps.toList (p + 1) with
              | none =>
                rw [hsf'] at R₄
                have e : rv = .none := R₄
                subst e
                refine truthy_none ?_
                rw [if_pos (by decide)]
                refine wpAny_execs_cons ?_
                refine wpAny_Break ?_
                refine ⟨m₄, .ref u, 0, ps₃, p_f, ?_, d₄, C₄, rfl⟩
                rw [lastBelow_some hsp (by (exact om252 hx hxl hsl hc)) fun k h1 h2 => ?_]
                · exact ⟨u, rfl, H₄⟩
                · cases hs : seam sg.cps.toList x.cps.toList k with
                  | false => rfl
                  | true =>
                    have h3 := seam_lt hs
                    unfold seamFrom at hsf'
                    have := firstSeam_none hsf' k (by (exact om253 hsl h1)) (by (exact om254 h3))
                    rw [hs] at this; cases this
              | some p' =>
                rw [hsf'] at R₄
                obtain ⟨u', rfl, R₄⟩ := R₄
                have hfn' := R₄.ex
                obtain ⟨D', fd', lam', hh', tk', l1', l2', l3', e1', e2', e3', _⟩ := hfn'
                refine fn_true e1' ?_
                rw [if_neg (by decide)]
                refine wpAny_execs_nil ?_
                refine wpAny_execs_cons ?_
                refine Assign_Tuple ?_
                refine MethodCall_ ?_
                refine c_name d₄ p_m ?_
                refine span_call d₄ (show A.depth + 1 < recursionLimit from r.room 1) R₄ fun z₅ T v1 v2 d₅ S₅ eT hT₅ => ?_
                refine pair_assign d₅ (by exact r.hd) eT fun z₆ d₆ k₆ => ?_
                refine wpAny_execs_nil ?_
                unfold seamFrom at hsf'
                obtain ⟨w1, w2, w3, w4⟩ := firstSeam_some hsf'
                have w5 := seam_lt w3
                refine ⟨x.length - p', by (exact om255 hxl hsl w1 w5), p', u', .ref u, _, v1, v2, ps₃, rfl, ?_, ?_, ?_, ?_, ?_, ?_, ?_, (R₄.keep (S₅.keep2 fun _ h => nomatch h)).keep (d₅.keepL k₆), ?_, w3, fun k h1 h2 => ?_, d₆, (C₄.keep fun b o vs hb _ e => S₅.keep b o (fun h => nomatch h) (not_tab hb) e).keep fun b o vs _ hd e => k₆ b o (d₅.neLf e hd) e⟩
                · exact (if_neg (by decide)).trans ((if_neg (by decide)).trans p_m)
                · exact (if_neg (by decide)).trans ((if_neg (by decide)).trans p_p)
                · exact (if_neg (by decide)).trans ((if_neg (by decide)).trans p_c)
                · exact (if_neg (by decide)).trans ((if_neg (by decide)).trans p_l)
                · exact (if_neg (by decide)).trans ((if_neg (by decide)).trans p_f)
                · exact (if_neg (by decide)).trans (if_pos rfl)
                · exact if_pos rfl
                · rw [lastBelow_some hsp (by (exact om256 hsl w1 w2)) fun k h1 h2 => w4 k (by (exact om257 hsl w1 w2 h1)) h2]
                  exact ⟨u, rfl, (H₄.keep (S₅.keep2 fun _ h => nomatch h)).keep (d₅.keepL k₆)⟩
                · rcases Nat.lt_or_ge k p with h3 | h3
                  · exact hlt k h3 h2
                  · rcases Nat.eq_or_lt_of_le h3 with h4 | h4
                    · subst h4; exact hc
                    · have := w4 k (by (exact om257 hsl w1 w2 h4)) h1
                      rw [h2] at this; cases this
        · rw [decide_eq_false hc, if_neg (by decide)]
          rw [if_neg (by decide)]
          refine wpAny_execs_nil ?_
          refine ⟨m, F, 0, ps', n_f, ?_, c₈, C₈, rfl⟩
          rw [lastBelow_cong (a := col.toNat) (b := p) fun k hk => ?_]
          · exact HF
          · cases hs : seam sg.cps.toList x.cps.toList k with
            | false => rfl
            | true =>
              rcases hk with hk | hk
              · have := hlt k hk.2 hs
                (exact (om258 hk this).elim)
              · (exact (om259 hsl hc hk).elim)
      · rw [lastBelow_none fun k hk => hno k hk]
        rfl
      · intro k hk hs
        rw [hno k hk] at hs; cases hs
    · intro fl s' hmid
      match fl, hmid with
      | .next, hm =>
        obtain ⟨m, F, tf, ps', n_f, HF, c', C', _⟩ := hm
        refine wpAny_execs_cons ?_
        refine wpAny_Return_some ?_
        refine c_name c' n_f ?_
        exact h s' F ps' c'.ok c'.st (c'.get (.head _)) C' (HF.mono (Nat.le_succ _) big)
end
end Mine
end

section
open PySem PySem.W PySem.Calls PyProof.Rows
set_option maxRecDepth 100000
set_option maxHeartbeats 8000000
namespace Mine
theorem cut_take {x : Str} {p : Nat} (h : p ≤ x.cps.toList.length) : Txt.slice x none (some (p : Int)) = ofL (x.cps.toList.take p) := by
  have := eq_of_beq (slice_closes_to (x := x) (j := (p : Int)) ⟨by (exact Int.natCast_nonneg _), by (exact om260 h)⟩)
  rw [this]
  unfold ofL
  simp
theorem cut_drop {x : Str} {p : Nat} (h : p ≤ x.cps.toList.length) : Txt.slice x (some (p : Int)) none = ofL (x.cps.toList.drop p) := by
  have hl : x.cps.toList.length = x.length := by rw [Array.length_toList]; rfl
  have := slice_from_eq (x := x) (i := (p : Int)) (b := (x.length : Int)) (by (exact Int.natCast_nonneg _)) (by (exact om261 h hl)) rfl
  rw [this]
  unfold ofL
  rw [List.take_of_length_le (by rw [List.length_drop]; (exact om262 h hl))]
  simp
section
variable {w : World} {A : Around} {E : Value → Shared → Prop} {s : Shared} {Q : Value → Shared → Prop} {x : Str} {t : Tok}
theorem keptAll (h₀ : Heap) : KeptH fun h' => ∀ b o, h₀.get? b = some o → h'.get? b = some o := fun _ _ k b o e => Heap.get?_push_of_some _ (k b o e)
theorem s_to {value slice : Expr} {p : Nat} {uj : Tok} (hp : p ≤ x.cps.toList.length) (hx : x.length ≤ 1000) (h : ∀ h' t' k, (∀ b o, s.heap.get? b = some o → h'.get? b = some o) → Q (.str (ofL (x.cps.toList.take p)) t') { s with heap := h', toks := k })
    (hs : subscripted slice false (.str x t) (.ref s.heap.objs.size) = operate [.ref s.heap.objs.size, .str x t] (getItem (.str x t) (.ref s.heap.objs.size)) := by with_unfolding_all rfl)
    (ht : ∀ r, letTemporaryGo value (.str x t) r = pure () := by intro _; with_unfolding_all rfl) :
    wpAny (model PG w) A (subscriptTail value slice (.str x t) (.ref s.heap.objs.size)) Q E { s with heap := s.heap.push { cls := .type "slice", data := .fields #[.none, .int (p : Nat) uj, .none] } } := by
  refine tail_of_ItemOn (SBH.sliceItem_ns (keptAll s.heap) (fun _ _ e => e) (fun h' t' k hk => ?_) (Nat.le_trans hx (by decide))) hs ht
  rw [cut_take hp]
  exact h h' t' k hk
theorem s_from {value slice : Expr} {p : Nat} {uj : Tok} (hp : p ≤ x.cps.toList.length) (hx : x.length ≤ 1000) (h : ∀ h' t' k, (∀ b o, s.heap.get? b = some o → h'.get? b = some o) → Q (.str (ofL (x.cps.toList.drop p)) t') { s with heap := h', toks := k })
    (hs : subscripted slice false (.str x t) (.ref s.heap.objs.size) = operate [.ref s.heap.objs.size, .str x t] (getItem (.str x t) (.ref s.heap.objs.size)) := by with_unfolding_all rfl)
    (ht : ∀ r, letTemporaryGo value (.str x t) r = pure () := by intro _; with_unfolding_all rfl) :
    wpAny (model PG w) A (subscriptTail value slice (.str x t) (.ref s.heap.objs.size)) Q E { s with heap := s.heap.push { cls := .type "slice", data := .fields #[.int (p : Nat) uj, .none, .none] } } := by
  refine tail_of_ItemOn (SBH.sliceItem_sn (keptAll s.heap) (fun _ _ e => e) (fun h' t' k hk => ?_) (Nat.le_trans hx (by decide))) hs ht
  rw [cut_drop hp]
  exact h h' t' k hk
theorem is_none {v : Value} {Q : Value → Shared → Prop} (hv : v = .none ∨ ∃ a, v = .ref a) (h : Q (.bool (v == .none)) s) : wpAny (model PG w) A (compareOp .Is v .none) Q E s := by
  refine wpAny_is_plain ?_ h
  rcases hv with rfl | ⟨a, rfl⟩ <;> rfl
end
noncomputable def rowsF (sg : List Nat) (W : Nat) : Nat → List Nat → List (List Nat)
  | 0, r => [r]
  | n + 1, r => if r.length ≤ W then [r] else match (lastBelow sg r (W + 1)).or (seamFrom sg r 0) with
    | none => [r]
    | some p => r.take p :: rowsF sg W n (r.drop p)
noncomputable def headPlace (sg : List Nat) (k : Nat) (x : List Nat) : Nat := ((lastBelow sg x k).or (lastBelow [] x k)).getD 0
noncomputable def headRest (x : List Nat) (p : Nat) : List Nat := match x.drop p with
  | [] => []
  | c :: r => if isW c then c :: r else 32 :: c :: r
noncomputable def lawRows (sg x : List Nat) (W hd : Nat) : List (List Nat) :=
  if 0 < hd ∧ W < hd + x.length then x.take (headPlace sg (W + 1 - hd) x) :: rowsF sg W (x.length + 1) (headRest x (headPlace sg (W + 1 - hd) x))
  else rowsF sg W x.length x
end Mine
end

section
open PySem PySem.W PySem.Calls PyProof.Rows
set_option maxRecDepth 100000
set_option maxHeartbeats 8000000
namespace Mine
theorem ownTT {s : Shared} {ps ps2 : Array Value} (h : s.heap.get? 213 = some (tabObj ps)) (h2 : s.heap.get? 220 = some (tabObj ps2)) : ∀ p ∈ [((213 : Addr), tabObj ps), ((220 : Addr), tabObj ps2)], Hi p.1 ∧ s.heap.get? p.1 = some p.2 := fun p hp => by
  cases hp with | head => exact ⟨.inr (.inl rfl), h⟩ | tail _ hp => cases hp with | head => exact ⟨.inr (.inr rfl), h2⟩ | tail _ h => cases h
noncomputable abbrev nFinder : Str := "finder"
noncomputable abbrev nRows : Str := "rows"
noncomputable abbrev nRest : Str := "rest"
noncomputable abbrev nWidth : Str := "width"
noncomputable abbrev nHit : Str := "hit"
noncomputable abbrev nText : Str := "text"
noncomputable abbrev nPlace : Str := "place"
noncomputable def RowsI (w : World) (g : Heap) (s : Shared) (L : Addr) (x sg : Str) (W hd lo : Nat) (fd l : Addr) (tW : Tok) (z : Int) (k : Nat) (s' : Shared) : Prop :=
  ∃ rest rows N m tr ll n ps ps2, k = rest.length ∧ lawRows sg.cps.toList x.cps.toList W hd = rows ++ rowsF sg.cps.toList W N rest ∧ rest.length ≤ N ∧ rest.length ≤ 901 ∧ m nRest = some (.str (ofL rest) tr) ∧ m nRows = some (.ref l) ∧ m nFinder = some (.ref fd) ∧ m nWidth = some (.int (W : Nat) tW) ∧ Cx w g [213, 220] s L m [(l, listObj (strValues ll).toArray n), (213, tabObj ps), (220, tabObj ps2)] s' ∧ ll.map (·.1) = rows.map ofL ∧ ll.length + rest.length ≤ 902 ∧ CodesIn qH ps s'.heap ∧ FinderAt w lo s'.heap fd sg z
section
variable {w : World} {A : Around} {E : Value → Shared → Prop} {s : Shared} {Q : Value → Shared → Prop}
theorem c_listK {g : Heap} {ws : List Addr} {s₀ : Shared} {L : Addr} {m : Str → Option Value} {news : List (Addr × Obj)} {vs : List Value} (c : Cx w g ws s₀ L m news s) (h : ∀ s' t, Cx w g ws s₀ L m ((t, listObj vs.toArray 0) :: news) s' → (s.heap.objs.size : Nat) = t → (∀ b o, s.heap.get? b = some o → s'.heap.get? b = some o) → Q (.ref t) s') (hsz : vs.length ≤ 1000) :
    wpAny (model PG w) A (newList vs) Q E s :=
  wpAny_newObj_type (h _ _ (Cx.new (c.ext (s' := { s with heap := s.heap.push (listObj vs.toArray 0) }) (fun _ _ e => Heap.get?_push_of_some _ e) rfl rfl) (Heap.get?_push_size _ rfl) c.lt) rfl fun _ _ e => Heap.get?_push_of_some _ e) (by show vs.toArray.size ≤ sizeLine; rw [List.size_toArray]; exact Nat.le_trans hsz (by decide))
theorem lastBelow_seam {sg X : List Nat} : ∀ {n p : Nat}, lastBelow sg X n = some p → p < n ∧ seam sg X p = true
  | 0, _, h => by cases h
  | n + 1, p, h => by
    unfold lastBelow at h
    cases hs : seam sg X n with
    | true => rw [hs, if_pos rfl] at h; cases h; exact ⟨Nat.lt_succ_self _, hs⟩
    | false => rw [hs, if_neg (by decide)] at h; obtain ⟨a, b⟩ := lastBelow_seam h; exact ⟨by (exact Nat.le_succ_of_le (by assumption)), b⟩
theorem rows_ok {x sg : Str} {W hd : Nat} {z : Int} {tx tW th ts tz : Tok} {ps ps2 : Array Value} (O : Ok w s) (r : Rm A 12) (hz : z = 0 ∨ z = 1) (hT : s.heap.get? 213 = some (tabObj ps)) (C : CodesIn qH ps s.heap)
    (hT2 : s.heap.get? 220 = some (tabObj ps2)) (C2 : CodesIn qF ps2 s.heap) (hx : x.length ≤ 900) (hx0 : x.cps.toList ≠ []) (hW : W ≤ 500) (hhd : hd ≤ 500)
    (h : ∀ s' l ll n, Ok w s' → St [213, 220] s s' → s'.heap.get? l = some (listObj (strValues ll).toArray n) → s.heap.objs.size ≤ l → ll.map (·.1) = (lawRows sg.cps.toList x.cps.toList W hd).map ofL → (∃ ps, s'.heap.get? 213 = some (tabObj ps)) → (∃ ps, s'.heap.get? 220 = some (tabObj ps)) → Q (.ref l) s') :
    wpAny (model PG w) A (call (.ref 232) [.str x tx, .int (W : Nat) tW, .int (hd : Nat) th, .str sg ts, .int z tz]) Q E s := by
  have big : (238 : Nat) ≤ s.heap.objs.size := (base_of (own := []) O.gd no_own).2
  refine c_enterH (binds := [("text", .str x tx), ("width", .int (W : Nat) tW), ("head", .int (hd : Nat) th), ("sign", .str sg ts), ("size", .int z tz)]) [(213, tabObj ps), (220, tabObj ps2)] O r.room (ownTT hT hT2) fun g L s₁ c => ?_
  have hL : s.heap.objs.size = L := c.hL
  have n13 : (213 : Addr) ≠ 220 := by decide
  have not2 : ∀ {b : Addr}, (238 : Nat) ≤ b → b ∉ List.map (fun x => x.1) [((213 : Addr), tabObj ps), ((220 : Addr), tabObj ps2)] := fun hb q => by
    simp only [List.map_cons, List.map_nil, List.mem_cons, List.not_mem_nil, or_false] at q
    rcases q with rfl | rfl
    · exact absurd hb (by decide)
    · exact absurd hb (by decide)
  have Cg : CodesIn qH ps g := C.keep fun b o vs hb _ e => c.B.all b o (not2 hb) (not_tab hb) e
  have C2g : CodesIn qF ps2 g := C2.keep fun b o vs hb _ e => c.B.all b o (not2 hb) (not_tab hb) e
  refine wpAny_execs_cons ?_
  refine wpAny_Assign_Name ?_
  refine Call_ ?_
  refine c_glob c (v := .ref 225) ?_ ?_
  · kernel_rfl
  refine callWith_K (K := KK w) c.X (by kernel_rfl) ?_
  refine spliced_more (c_name c rfl (spliced_more (c_name c rfl (spliced_none ?_))))
  refine ⟨c.X, ?_⟩
  refine finder_ok c.ok r.deep.le (c.get (.tail _ (.head _))) (C2g.keep fun b o vs _ _ e => c.base e) fun s₂ fd ps2' O₂ S₂ T₂ C₂ F₂ => ?_
  have c₂ := c.call1 (Upd.tail n13 (Upd.head (fun _ h => nomatch h))) S₂ O₂ T₂
  have lo1 : L < s₁.heap.objs.size := by rw [← hL]; exact c.lt
  generalize s₁.heap.objs.size = lo at F₂ lo1
  refine c_storeK c₂ fun s₃ c₃ k₃ => ?_
  have K₃ : Keep2 (s.heap.objs.size + 1) s₂.heap s₃.heap := c₂.keepL k₃
  have Kup : ∀ {h h' : Heap}, Keep2 (s.heap.objs.size + 1) h h' → Keep2 lo h h' := fun K b o hb hor e => K b o hb (hor.elim (fun q => .inl ⟨by rw [hL]; exact Nat.le_trans lo1 q.1, q.2⟩) .inr) e
  have F₃ := F₂.keep (Kup K₃)
  have C2₃ : CodesIn qF ps2' s₃.heap := C₂.keep fun b o vs _ hd e => k₃ b o (c₂.neLf e hd) e
  refine wpAny_execs_cons ?_
  refine wpAny_Assign_Name ?_
  refine List_ (spliced_none (c_listK c₃ (fun s₄ l c₄ hl k₄ => ?_) (by simp)))
  have hl3 : L < l := by rw [← hl, ← hL]; exact c₃.lt
  have hl238 : (238 : Nat) ≤ l := Nat.le_trans big (by rw [hL]; exact Nat.le_of_lt hl3)
  have F₄ := F₃.keep (.of k₄)
  have C2₄ : CodesIn qF ps2' s₄.heap := C2₃.keep fun b o vs _ _ e => k₄ b o e
  refine c_storeK c₄ fun s₅ c₅ k₅ => ?_
  have F₅ := F₄.keep (Kup (c₄.keepL k₅))
  have C2₅ : CodesIn qF ps2' s₅.heap := C2₄.keep fun b o vs _ hd e => k₅ b o (c₄.neLf e hd) e
  refine wpAny_execs_cons ?_
  refine wpAny_Assign_Name ?_
  refine c_name c₅ rfl ?_
  refine c_storeK c₅ fun s₆ c₆' k₆ => ?_
  obtain ⟨m₆, hm₆, c₆⟩ := c₆'.named
  have m_text : m₆ nText = some (.str x tx) := by rw [hm₆]; rfl
  have m_width : m₆ nWidth = some (.int (W : Nat) tW) := by rw [hm₆]; rfl
  have m_head : m₆ "head" = some (.int (hd : Nat) th) := by rw [hm₆]; rfl
  have m_size : m₆ "size" = some (.int z tz) := by rw [hm₆]; rfl
  have m_finder : m₆ nFinder = some (.ref fd) := by rw [hm₆]; rfl
  have m_rows : m₆ nRows = some (.ref l) := by rw [hm₆]; rfl
  have m_rest : m₆ nRest = some (.str x tx) := by rw [hm₆]; rfl
  clear hm₆ c₆'
  have F₆ := F₅.keep (Kup (c₅.keepL k₆))
  have C2₆ : CodesIn qF ps2' s₆.heap := C2₅.keep fun b o vs _ hd e => k₆ b o (c₅.neLf e hd) e
  have C₆ : CodesIn qH ps s₆.heap := Cg.keep fun b o vs _ _ e => c₆.base e
  have hX : x = ofL x.cps.toList := (ofL_toList x).symm
  have hxl : x.cps.toList.length = x.length := by rw [Array.length_toList]; rfl
  refine wpAny_execs_cons ?_
  refine wpAny_mono (Q := fun fl s' => match fl with
      | .next => ∃ rest rows N m tr ll n ps ps2, lawRows sg.cps.toList x.cps.toList W hd = rows ++ rowsF sg.cps.toList W N rest ∧ rest.length ≤ N ∧ rest.length ≤ 901 ∧ m nRest = some (.str (ofL rest) tr) ∧ m nRows = some (.ref l) ∧ m nFinder = some (.ref fd) ∧ m nWidth = some (.int (W : Nat) tW) ∧
          Cx w g [213, 220] s L m [(l, listObj (strValues ll).toArray n), (213, tabObj ps), (220, tabObj ps2)] s' ∧ ll.map (·.1) = rows.map ofL ∧ ll.length + rest.length ≤ 902 ∧ CodesIn qH ps s'.heap ∧ FinderAt w lo s'.heap fd sg z
      | _ => False) ?_ ?_ fun _ _ e => e
  · refine wpAny_mid fun P' hP' => ?_
    refine wpAny_If (wpAny_mono (Q := fun b s' => b = decide (0 < hd ∧ W < hd + x.length) ∧ Cx w g [213, 220] s L m₆ [(l, listObj #[] 0), (213, tabObj ps), (220, tabObj ps2')] s' ∧ s'.heap = s₆.heap) ?_ ?_ fun _ _ e => e)
    · refine isTrue_and (wpAny_isTrue_Compare1 ?_)
      refine c_name c₆ m_head (c_intK c₆ fun s₇ t₇ c₇ e₇ => gt_int (wpAny_truthy_bool ?_))
      by_cases h0 : 0 < hd
      · rw [decide_eq_true (show (hd : Int) > 0 by (exact om170 hhd h0)), if_pos rfl]
        refine isTrue_and (wpAny_isTrue_Compare1 ?_)
        refine wpAny_BinOp (c_name c₇ m_head (Call_ ?_))
        refine c_built c₇ (v := .builtin "len") ?_ ?_ ?_ ?_
        · kernel_rfl
        · kernel_rfl
        · decide
        refine PyProof.Rows.callWith_builtin1 (spliced_more (c_name c₇ m_text (spliced_none ?_)))
        refine P.len_str (by lia) ?_
        refine PyProof.Rows.add_int ?_
        have c₈ := c₇.ext (s' := { s₇ with toks := s₇.toks + 1 + 1 + 1 }) (fun _ _ e => e) rfl rfl
        refine c_name c₈ m_width (gt_int (wpAny_truthy_bool ?_))
        by_cases h1 : W < hd + x.length
        · rw [decide_eq_true (show ((hd : Nat) : Int) + x.length > (W : Nat) by (exact om172 hxl h1)), if_pos rfl]
          refine isTrue_and_nil ⟨?_, c₈, e₇⟩
          rw [decide_eq_true ⟨h0, h1⟩]
        · rw [decide_eq_false (show ¬ ((hd : Nat) : Int) + x.length > (W : Nat) by (exact om173 hxl h1)), if_neg (by decide)]
          refine ⟨?_, c₈, e₇⟩
          rw [decide_eq_false (fun q => h1 q.2)]
      · rw [decide_eq_false (show ¬ (hd : Int) > 0 by (exact om174 hhd h0)), if_neg (by decide)]
        refine ⟨?_, c₇, e₇⟩
        rw [decide_eq_false (fun q => h0 q.1)]
    · rintro b s₇ ⟨rfl, c₇, e₇⟩
      have F₇ : FinderAt w lo s₇.heap fd sg z := by rw [e₇]; exact F₆
      have C₇ : CodesIn qH ps s₇.heap := by rw [e₇]; exact C₆
      have C2₇ : CodesIn qF ps2' s₇.heap := by rw [e₇]; exact C2₆
      by_cases hcond : 0 < hd ∧ W < hd + x.length
      · rw [decide_eq_true hcond, if_pos rfl]
        have hl13 : l ≠ 213 := fun e => by rw [e] at hl238; exact absurd hl238 (by decide)
        have hl20 : l ≠ 220 := fun e => by rw [e] at hl238; exact absurd hl238 (by decide)
        have nk213 : ∀ b ∈ [(213 : Addr)], ¬ (238 : Nat) ≤ b := fun b hb => by rw [List.mem_singleton] at hb; subst hb; decide
        have nk220 : ∀ b ∈ [(220 : Addr)], ¬ (238 : Nat) ≤ b := fun b hb => by rw [List.mem_singleton] at hb; subst hb; decide
        refine wpAny_execs_cons ?_
        refine wpAny_Assign_Name ?_
        refine Call_ ?_
        refine c_glob c₇ (v := .ref 211) ?_ ?_
        · kernel_rfl
        refine callWith_K (K := KK w) c₇.X (by kernel_rfl) ?_
        refine spliced_more (c_name c₇ m_finder (spliced_more (c_name c₇ m_text (spliced_more ?_))))
        refine wpAny_BinOp (wpAny_BinOp (c_name c₇ m_width (c_name c₇ m_head (sub_int ?_))))
        have c₈ := c₇.ext (s' := { s₇ with toks := s₇.toks + 1 }) (fun _ _ e => e) rfl rfl
        refine c_intK c₈ fun s₉ t₉ c₉ e₉ => PyProof.Rows.add_int ?_
        have c₁₀ := c₉.ext (s' := { s₉ with toks := s₉.toks + 1 }) (fun _ _ e => e) rfl rfl
        have F₁₀ : FinderAt w lo s₉.heap fd sg z := by rw [e₉]; exact F₇
        have C₁₀ : CodesIn qH ps s₉.heap := by rw [e₉]; exact C₇
        have C2₁₀ : CodesIn qF ps2' s₉.heap := by rw [e₉]; exact C2₇
        refine spliced_none ?_
        refine ⟨c₁₀.X, ?_⟩
        refine srev_ok c₁₀.ok r.deep.le F₁₀ hz (c₁₀.get (.tail _ (.head _))) C₁₀ (by (exact om175 hx hxl)) fun s₁₁ rv ps₁₁ O₁₁ S₁₁ T₁₁ C₁₁ H₁₁ => ?_
        have c₁₁ := c₁₀.call1 (Upd.tail hl13 (Upd.head (fun q hq => by rw [List.mem_singleton] at hq; subst hq; exact n13.symm))) S₁₁ O₁₁ T₁₁
        have H₁₁' := H₁₁.mono (lo' := s.heap.objs.size + 1) (Nat.succ_le_of_lt c₁₀.lt) (Nat.le_succ_of_le big)
        have hcol : (((W : Nat) : Int) - (hd : Nat) + 1).toNat = W + 1 - hd := by (exact om176)
        rw [hcol] at H₁₁'
        have F₁₁ := F₁₀.keep (h' := s₁₁.heap) (St.keep2 (s := { s₉ with toks := s₉.toks + 1 }) S₁₁ nk213)
        have C2₁₁ : CodesIn qF ps2' s₁₁.heap := C2₁₀.keep fun b o vs hb _ e => S₁₁.keep b o (fun q => nk213 b q hb) (not_tab hb) e
        refine c_storeK c₁₁ fun s₁₂ c₁₂' k₁₂ => ?_
        obtain ⟨m₁₂, hm₁₂, c₁₂⟩ := c₁₂'.named
        have a_hit : m₁₂ nHit = some rv := by rw [hm₁₂]; exact if_pos rfl
        have a_text : m₁₂ nText = some (.str x tx) := by rw [hm₁₂]; exact (if_neg (by decide)).trans m_text
        have a_width : m₁₂ nWidth = some (.int (W : Nat) tW) := by rw [hm₁₂]; exact (if_neg (by decide)).trans m_width
        have a_head : m₁₂ "head" = some (.int (hd : Nat) th) := by rw [hm₁₂]; exact (if_neg (by decide)).trans m_head
        have a_size : m₁₂ "size" = some (.int z tz) := by rw [hm₁₂]; exact (if_neg (by decide)).trans m_size
        have a_finder : m₁₂ nFinder = some (.ref fd) := by rw [hm₁₂]; exact (if_neg (by decide)).trans m_finder
        have a_rows : m₁₂ nRows = some (.ref l) := by rw [hm₁₂]; exact (if_neg (by decide)).trans m_rows
        clear hm₁₂ c₁₂'
        have K₁₂ := c₁₁.keepL k₁₂
        have H₁₂ := H₁₁'.keep K₁₂
        have F₁₂ := F₁₁.keep (Kup K₁₂)
        have C₁₂ : CodesIn qH ps₁₁ s₁₂.heap := C₁₁.keep fun b o vs _ hd e => k₁₂ b o (c₁₁.neLf e hd) e
        have C2₁₂ : CodesIn qF ps2' s₁₂.heap := C2₁₁.keep fun b o vs _ hd e => k₁₂ b o (c₁₁.neLf e hd) e
        have hro : ∀ {o : Option Nat} {r : Value} {lo : Nat} {h : Heap}, HitOr w lo h z o r → (r = .none ∨ ∃ a, r = .ref a) ∧ (r == .none) = o.isNone := fun {o} {r} {lo} {h} H => by
          cases o with
          | none => have e : r = .none := H; subst e; exact ⟨.inl rfl, rfl⟩
          | some p => obtain ⟨u, rfl, _⟩ := H; exact ⟨.inr ⟨u, rfl⟩, rfl⟩
        refine wpAny_execs_cons ?_
        refine wpAny_mono (Q := fun fl s' => match fl with
          | .next => ∃ rv m ps ps2, m nHit = some rv ∧ m nText = some (.str x tx) ∧ m nWidth = some (.int (W : Nat) tW) ∧ m nFinder = some (.ref fd) ∧ m nRows = some (.ref l) ∧ Cx w g [213, 220] s L m [(l, listObj #[] 0), (213, tabObj ps), (220, tabObj ps2)] s' ∧
              CodesIn qH ps s'.heap ∧ FinderAt w lo s'.heap fd sg z ∧ HitOr w (s.heap.objs.size + 1) s'.heap z ((lastBelow sg.cps.toList x.cps.toList (W + 1 - hd)).or (lastBelow [] x.cps.toList (W + 1 - hd))) rv
          | _ => False) ?_ ?_ fun _ _ e => e
        · refine wpAny_If (wpAny_isTrue_Compare1 ?_)
          refine c_name c₁₂ a_hit (wpAny_Constant_none (is_none (hro H₁₂).1 (wpAny_truthy_bool ?_)))
          rw [(hro H₁₂).2]
          cases hlb : lastBelow sg.cps.toList x.cps.toList (W + 1 - hd) with
          | some p =>
            rw [hlb] at H₁₂
            rw [if_neg (show ¬ (some p).isNone = true from Bool.false_ne_true)]
            refine wpAny_execs_nil ?_
            exact ⟨rv, m₁₂, ps₁₁, ps2', a_hit, a_text, a_width, a_finder, a_rows, c₁₂, C₁₂, F₁₂, H₁₂⟩
          | none =>
            rw [if_pos (by rfl)]
            refine wpAny_execs_cons ?_
            refine wpAny_Assign_Name ?_
            refine Call_ ?_
            refine c_glob c₁₂ (v := .ref 211) ?_ ?_
            · kernel_rfl
            refine callWith_K (K := KK w) c₁₂.X (by kernel_rfl) ?_
            refine spliced_more ?_
            refine Call_ ?_
            refine c_glob c₁₂ (v := .ref 225) ?_ ?_
            · kernel_rfl
            refine callWith_K (K := KK w) c₁₂.X (by kernel_rfl) ?_
            refine spliced_more (c_strK c₁₂ fun s₁₃ t₁₃ c₁₃ e₁₃ => spliced_more (c_name c₁₃ a_size (spliced_none ?_)))
            refine ⟨c₁₃.X, ?_⟩
            have F₁₃ : FinderAt w lo s₁₃.heap fd sg z := by rw [e₁₃]; exact F₁₂
            have C₁₃ : CodesIn qH ps₁₁ s₁₃.heap := by rw [e₁₃]; exact C₁₂
            have C2₁₃ : CodesIn qF ps2' s₁₃.heap := by rw [e₁₃]; exact C2₁₂
            refine finder_ok c₁₃.ok r.deep.le (c₁₃.get (.tail _ (.tail _ (.head _)))) C2₁₃ fun s₁₄ fd2 ps₁₄ O₁₄ S₁₄ T₁₄ C₁₄ F₁₄ => ?_
            have c₁₄ := c₁₃.call1 (Upd.tail hl20 (Upd.tail n13 (Upd.head (fun _ h => nomatch h)))) S₁₄ O₁₄ T₁₄
            have F1₁₄ := F₁₃.keep (S₁₄.keep2 nk220)
            have C1₁₄ : CodesIn qH ps₁₁ s₁₄.heap := C₁₃.keep fun b o vs hb _ e => S₁₄.keep b o (fun q => nk220 b q hb) (not_tab hb) e
            refine spliced_more (c_name c₁₄ a_text (spliced_more ?_))
            refine wpAny_BinOp (wpAny_BinOp (c_name c₁₄ a_width (c_name c₁₄ a_head (sub_int ?_))))
            have c₁₅ := c₁₄.ext (s' := { s₁₄ with toks := s₁₄.toks + 1 }) (fun _ _ e => e) rfl rfl
            refine c_intK c₁₅ fun s₁₆ t₁₆ c₁₆ e₁₆ => PyProof.Rows.add_int ?_
            have c₁₇ := c₁₆.ext (s' := { s₁₆ with toks := s₁₆.toks + 1 }) (fun _ _ e => e) rfl rfl
            refine spliced_none ?_
            refine ⟨c₁₇.X, ?_⟩
            refine srev_ok (s := { s₁₆ with toks := s₁₆.toks + 1 }) c₁₇.ok r.deep.le (by show FinderAt w _ s₁₆.heap _ _ _; rw [e₁₆]; exact F₁₄) hz (c₁₇.get (.tail _ (.head _))) (by show CodesIn _ _ s₁₆.heap; rw [e₁₆]; exact C1₁₄) (by (exact om175 hx hxl)) fun s₁₈ rw' ps₁₈ O₁₈ S₁₈ T₁₈ C₁₈ H₁₈ => ?_
            have c₁₈ := c₁₇.call1 (Upd.tail hl13 (Upd.head (fun q hq => by rw [List.mem_singleton] at hq; subst hq; exact n13.symm))) S₁₈ O₁₈ T₁₈
            have H₁₈' := H₁₈.mono (lo' := s.heap.objs.size + 1) (Nat.succ_le_of_lt c₁₇.lt) (Nat.le_succ_of_le big)
            rw [hcol] at H₁₈'
            have F1₁₇ : FinderAt w lo s₁₆.heap fd sg z := by rw [e₁₆]; exact F1₁₄
            have F1₁₈ := F1₁₇.keep (h' := s₁₈.heap) (St.keep2 (s := { s₁₆ with toks := s₁₆.toks + 1 }) S₁₈ nk213)
            refine c_storeK c₁₈ fun s₁₉ c₁₉ k₁₉ => ?_
            refine wpAny_execs_nil ?_
            have K₁₉ := c₁₈.keepL k₁₉
            refine ⟨rw', _, ps₁₈, ps₁₄, if_pos rfl, (if_neg (by decide)).trans a_text, (if_neg (by decide)).trans a_width, (if_neg (by decide)).trans a_finder, (if_neg (by decide)).trans a_rows, c₁₉, C₁₈.keep fun b o vs _ hd e => k₁₉ b o (c₁₈.neLf e hd) e, F1₁₈.keep (Kup K₁₉), H₁₈'.keep K₁₉⟩
        · intro fl s₂₀ hmid
          match fl, hmid with
          | .next, hm =>
            obtain ⟨rv, m, ps, ps2, b_hit, b_text, b_width, b_finder, b_rows, c₂₀, C₂₀, F₂₀, H₂₀⟩ := hm
            refine wpAny_execs_cons ?_
            refine wpAny_Assign_Name ?_
            obtain ⟨p, hp⟩ : ∃ p, p = headPlace sg.cps.toList (W + 1 - hd) x.cps.toList := ⟨_, rfl⟩
            have hpl : p < x.cps.toList.length := by
              rw [hp]
              unfold headPlace
              cases ho : (lastBelow sg.cps.toList x.cps.toList (W + 1 - hd)).or (lastBelow [] x.cps.toList (W + 1 - hd)) with
              | none => exact List.length_pos_iff.mpr hx0
              | some q =>
                cases hl1 : lastBelow sg.cps.toList x.cps.toList (W + 1 - hd) with
                | some q1 => rw [hl1] at ho; cases ho; exact (seam_lt (lastBelow_seam hl1).2).2
                | none => rw [hl1] at ho; exact (seam_lt (lastBelow_seam ho).2).2
            refine wpAny_mono (Q := fun v s' => ∃ tp, v = Value.int (p : Nat) tp ∧ Cx w g [213, 220] s L m [(l, listObj #[] 0), (213, tabObj ps), (220, tabObj ps2)] s' ∧ CodesIn qH ps s'.heap ∧ FinderAt w lo s'.heap fd sg z) (IfExp_ (wpAny_isTrue_Compare1 ?_)) ?_ fun _ _ e => e
            · refine c_name c₂₀ b_hit (wpAny_Constant_none (is_none (hro H₂₀).1 (wpAny_truthy_bool ?_)))
              rw [(hro H₂₀).2]
              unfold headPlace at hp
              cases ho : (lastBelow sg.cps.toList x.cps.toList (W + 1 - hd)).or (lastBelow [] x.cps.toList (W + 1 - hd)) with
              | none =>
                rw [if_pos (by rfl)]
                rw [ho] at hp
                refine c_intK c₂₀ fun s₂₁ t₂₁ c₂₁ e₂₁ => ?_
                refine ⟨t₂₁, by rw [hp]; rfl, c₂₁, by rw [e₂₁]; exact C₂₀, by rw [e₂₁]; exact F₂₀⟩
              | some q =>
                rw [if_neg (show ¬ (some q).isNone = true from Bool.false_ne_true)]
                rw [ho] at hp H₂₀
                have hpq : p = q := hp
                subst hpq
                obtain ⟨u, rfl, H₂₀⟩ := H₂₀
                refine Subscript_ ?_
                refine MethodCall_ ?_
                refine c_name c₂₀ b_hit ?_
                refine span_call c₂₀ (show A.depth + 1 < recursionLimit from r.room 1) H₂₀ fun s₂₁ T u1 u2 c₂₁ S₂₁ eT hT₂₁ => ?_
                refine c_intK c₂₁ fun s₂₂ t₂₂ c₂₂ e₂₂ => ?_
                refine pair_item (by rw [e₂₂]; exact eT) (by decide) (by decide) (by rfl) (by rfl) ?_
                have nn : ∀ b ∈ ([] : List Addr), ¬ (238 : Nat) ≤ b := fun _ h => nomatch h
                exact ⟨u1, rfl, c₂₂, by rw [e₂₂]; exact C₂₀.keep fun b o vs hb _ e => S₂₁.keep b o (fun h => nomatch h) (not_tab hb) e, by rw [e₂₂]; exact F₂₀.keep (S₂₁.keep2 nn)⟩
            · rintro v s₂₁ ⟨tp, rfl, c₂₁, C₂₁, F₂₁⟩
              refine c_storeK c₂₁ fun s₂₂ c₂₂' k₂₂ => ?_
              obtain ⟨m₂₂, hm₂₂, c₂₂⟩ := c₂₂'.named
              have d_text : m₂₂ nText = some (.str x tx) := by rw [hm₂₂]; exact (if_neg (by decide)).trans b_text
              have d_width : m₂₂ nWidth = some (.int (W : Nat) tW) := by rw [hm₂₂]; exact (if_neg (by decide)).trans b_width
              have d_finder : m₂₂ nFinder = some (.ref fd) := by rw [hm₂₂]; exact (if_neg (by decide)).trans b_finder
              have d_rows : m₂₂ nRows = some (.ref l) := by rw [hm₂₂]; exact (if_neg (by decide)).trans b_rows
              have d_place : m₂₂ nPlace = some (.int (p : Nat) tp) := by rw [hm₂₂]; exact if_pos rfl
              clear hm₂₂ c₂₂'
              have K₂₂ := c₂₁.keepL k₂₂
              have F₂₂ := F₂₁.keep (Kup K₂₂)
              have C₂₂ : CodesIn qH ps s₂₂.heap := C₂₁.keep fun b o vs _ hd e => k₂₂ b o (c₂₁.neLf e hd) e
              refine wpAny_execs_cons ?_
              refine wpAny_Expr ?_
              refine MethodCall_ ?_
              refine c_name c₂₂ d_rows ?_
              refine getMethod_list_append (c₂₂.get (.head _)) rfl rfl ?_
              refine callWith_method1 ?_
              refine spliced_more ?_
              refine Subscript_ ?_
              refine c_name c₂₂ d_text ?_
              refine wpAny_Slice (wpAny_evalPart_none (wpAny_evalPart_some (c_name c₂₂ d_place (wpAny_evalPart_none ?_))))
              refine s_to (by (exact Nat.le_of_lt (by assumption))) (by (exact om175 hx hxl)) fun h₂₃ t₂₃ tk₂₃ k₂₃ => ?_
              have c₂₃ := c₂₂.ext (s' := { s₂₂ with heap := h₂₃, toks := tk₂₃ }) k₂₃ rfl rfl
              refine spliced_none ?_
              refine list_app (c₂₃.get (.head _)) (by simp) fun s₂₄ hs₂₄ e₂₄ hg₂₄ ho₂₄ => ?_
              have c₂₄ := c₂₃.upd (Upd.head (fun q hq => by
                simp only [List.mem_cons, List.not_mem_nil, or_false] at hq
                rcases hq with rfl | rfl
                · exact hl13.symm
                · exact hl20.symm)) hl238 hs₂₄ e₂₄ hg₂₄ ho₂₄
              have K₂₄ : Keep2 lo s₂₂.heap s₂₄.heap := (Keep2.of k₂₃).trans (Keep2.list (c₂₃.get (.head _)) fun b o hb e => hs₂₄.extBut b o hb e)
              have F₂₄ := F₂₂.keep K₂₄
              have C₂₄ : CodesIn qH ps s₂₄.heap := C₂₂.keep fun b o vs hb hd e => K₂₄ b o hb (.inr ⟨vs, hd⟩) e
              refine wpAny_execs_cons ?_
              refine wpAny_Assign_Name ?_
              refine Subscript_ ?_
              refine c_name c₂₄ d_text ?_
              refine wpAny_Slice (wpAny_evalPart_some (c_name c₂₄ d_place (wpAny_evalPart_none (wpAny_evalPart_none ?_))))
              refine s_from (by (exact Nat.le_of_lt (by assumption))) (by (exact om175 hx hxl)) fun h₂₅ t₂₅ tk₂₅ k₂₅ => ?_
              have c₂₅ := c₂₄.ext (s' := { s₂₄ with heap := h₂₅, toks := tk₂₅ }) k₂₅ rfl rfl
              refine c_storeK c₂₅ fun s₂₆ c₂₆ k₂₆ => ?_
              have K₂₆ : Keep2 lo s₂₄.heap s₂₆.heap := (Keep2.of k₂₅).trans (Kup (c₂₅.keepL k₂₆))
              have F₂₆ := F₂₄.keep K₂₆
              have C₂₆ : CodesIn qH ps s₂₆.heap := C₂₄.keep fun b o vs hb hd e => K₂₆ b o hb (.inr ⟨vs, hd⟩) e
              obtain ⟨cc, rr, hcr⟩ : ∃ cc rr, x.cps.toList.drop p = cc :: rr := by
                cases hdr : x.cps.toList.drop p with
                | nil =>
                  have := congrArg List.length hdr
                  rw [List.length_drop] at this
                  simp only [List.length_nil] at this
                  (exact (om177 hp hpl this).elim)
                | cons cc rr => exact ⟨cc, rr, rfl⟩
              have hrest : ∀ r', headRest x.cps.toList p = r' → lawRows sg.cps.toList x.cps.toList W hd = [x.cps.toList.take p] ++ rowsF sg.cps.toList W (x.cps.toList.length + 1) r' := fun r' e => by
                unfold lawRows
                rw [hxl, if_pos hcond, ← hp, e]; rfl
              have hlen : rr.length + 1 + p = x.cps.toList.length := by
                have := congrArg List.length hcr
                rw [List.length_drop, List.length_cons] at this
                (exact om178 hp hpl this)
              have hlist : ((#[] : Array Value).push (Value.str (ofL (x.cps.toList.take p)) t₂₃)) = (strValues [(ofL (x.cps.toList.take p), t₂₃)]).toArray := rfl
              have hst : ∀ c' : Nat, (!(Builtin.Str.occurrences (Str.ofString " \t") ⟨#[c']⟩ 0 (Str.ofString " \t").length 1).isEmpty) = isW c' := fun c' => white_in c'
              rw [hcr] at c₂₆
              refine wpAny_execs_cons ?_
              refine wpAny_If (wpAny_isTrue_Compare1 ?_)
              refine Subscript_ (c_name c₂₆ rfl (c_intK c₂₆ fun s₂₇ t₂₇ c₂₇ e₂₇ => ?_))
              refine sign_item (c := cc) (by decide) (seq_at (x := ofL (cc :: rr)) (p := 0) (by simp [ofL])) ?_
              have c₂₈ := c₂₇.ext (s' := { s₂₇ with toks := s₂₇.toks + 1 }) (fun _ _ e => e) rfl rfl
              refine c_strK c₂₈ fun s₂₉ t₂₉ c₂₉ e₂₉ => ?_
              have F₂₉ : FinderAt w lo s₂₉.heap fd sg z := by rw [e₂₉]; show FinderAt w lo s₂₇.heap fd sg z; rw [e₂₇]; exact F₂₆
              have C₂₉ : CodesIn qH ps s₂₉.heap := by rw [e₂₉]; show CodesIn qH ps s₂₇.heap; rw [e₂₇]; exact C₂₆
              refine P.notIn_str ?_
              refine wpAny_truthy_bool ?_
              rw [hst]
              cases hwc : isW cc with
              | true =>
                rw [if_neg (by decide)]
                refine wpAny_execs_nil ?_
                refine wpAny_execs_nil ?_
                refine hP' _ _ ?_
                refine ⟨cc :: rr, [x.cps.toList.take p], x.cps.toList.length + 1, _, t₂₅, [(ofL (x.cps.toList.take p), t₂₃)], 1, ps, ps2, hrest _ ?_, by simp only [List.length_cons]; (exact om179 hp hlen), by simp only [List.length_cons]; (exact om180 hx hxl hp hlen), if_pos rfl, (if_neg (by decide)).trans d_rows, (if_neg (by decide)).trans d_finder, (if_neg (by decide)).trans d_width, c₂₉, rfl, by simp only [List.length_cons, List.length_nil]; (exact om181 hx hxl hp hlen), C₂₉, F₂₉⟩
                unfold headRest
                rw [hcr]
                dsimp only
                rw [hwc, if_pos rfl]
              | false =>
                rw [if_pos (by decide)]
                refine wpAny_execs_cons ?_
                refine wpAny_Assign_Name ?_
                refine wpAny_BinOp (c_strK c₂₉ fun s₃₀ t₃₀ c₃₀ e₃₀ => c_name c₃₀ (if_pos rfl) (PyProof.Rows.add_str (fun t' tk' => ?_) ?_))
                · have c₃₁ := c₃₀.ext (s' := { s₃₀ with toks := tk' }) (fun _ _ e => e) rfl rfl
                  refine c_storeK c₃₁ fun s₃₂ c₃₂ k₃₂ => ?_
                  have K₃₂ := c₃₁.keepL k₃₂
                  refine wpAny_execs_nil ?_
                  refine wpAny_execs_nil ?_
                  refine hP' _ _ ?_
                  refine ⟨32 :: cc :: rr, [x.cps.toList.take p], x.cps.toList.length + 1, _, t', [(ofL (x.cps.toList.take p), t₂₃)], 1, ps, ps2, hrest _ ?_, by simp only [List.length_cons]; (exact om182 hp hlen), by simp only [List.length_cons]; (exact om183 hx hxl hp hlen), (if_pos rfl).trans ?_, (if_neg (by decide)).trans ((if_neg (by decide)).trans d_rows), (if_neg (by decide)).trans ((if_neg (by decide)).trans d_finder), (if_neg (by decide)).trans ((if_neg (by decide)).trans d_width), c₃₂, rfl, by simp only [List.length_cons, List.length_nil]; (exact om184 hx hxl hp hlen), ?_, ?_⟩
                  · unfold headRest
                    rw [hcr]
                    dsimp only
                    rw [hwc, if_neg (by decide)]
                  · rw [ofL_append]; simp [ofL] <;> rfl
                  · exact (show CodesIn qH ps s₃₀.heap by rw [e₃₀]; exact C₂₉).keep fun b o vs _ hd e => k₃₂ b o (c₃₁.neLf e hd) e
                  · exact (show FinderAt w lo s₃₀.heap fd sg z by rw [e₃₀]; exact F₂₉).keep (Kup K₃₂)
                · rw [ofL_len]
                  show 1 + (cc :: rr).length ≤ sizeLine
                  have : 1000000 ≤ sizeLine := by decide
                  simp only [List.length_cons]
                  (exact om185 hx hxl hp hpl hlen this)
      · rw [decide_eq_false hcond, if_neg (by decide)]
        refine wpAny_execs_nil ?_
        refine hP' _ _ ?_
        refine ⟨x.cps.toList, [], x.length, m₆, tx, [], 0, ps, ps2', ?_, by (exact Nat.le_refl _), by (exact Nat.le_succ_of_le (by assumption)), ?_, m_rows, m_finder, m_width, c₇, rfl, (by show 0 + x.cps.toList.length ≤ 902; (exact om186 hx hxl)), C₇, F₇⟩
        · unfold lawRows
          rw [hxl, if_neg hcond]; rfl
        · rw [← hX]; exact m_rest
  · intro fl s₀' hmid
    match fl, hmid with
    | .next, hm =>
      obtain ⟨rest₀, rows₀, N₀, m₀, tr₀, ll₀, n₀, ps₀, ps2₀, q1, q2, q3, q4, q5, q6, q7, q8, q9, q10, q11, q12⟩ := hm
      have hl13 : l ≠ 213 := fun e => by rw [e] at hl238; exact absurd hl238 (by decide)
      have hl20 : l ≠ 220 := fun e => by rw [e] at hl238; exact absurd hl238 (by decide)
      have nk213 : ∀ b ∈ [(213 : Addr)], ¬ (238 : Nat) ≤ b := fun b hb => by rw [List.mem_singleton] at hb; subst hb; decide
      have hro : ∀ {o : Option Nat} {r : Value} {lo : Nat} {h : Heap}, HitOr w lo h z o r → (r = .none ∨ ∃ a, r = .ref a) ∧ (r == .none) = o.isNone := fun {o} {r} {lo} {h} H => by
        cases o with
        | none => have e : r = .none := H; subst e; exact ⟨.inl rfl, rfl⟩
        | some p => obtain ⟨u, rfl, _⟩ := H; exact ⟨.inr ⟨u, rfl⟩, rfl⟩
      refine wpAny_execs_cons ?_
      refine wpAny_mono (Q := fun fl s' => match fl with
        | .next => ∃ rest rows m tr ll n ps ps2, lawRows sg.cps.toList x.cps.toList W hd = rows ++ [rest] ∧ m nRest = some (.str (ofL rest) tr) ∧ m nRows = some (.ref l) ∧ Cx w g [213, 220] s L m [(l, listObj (strValues ll).toArray n), (213, tabObj ps), (220, tabObj ps2)] s' ∧ ll.map (·.1) = rows.map ofL ∧ ll.length ≤ 902
        | _ => False) ?_ ?_ fun _ _ e => e
      · refine wpAny_mid fun P' hP' => ?_
        refine wpAny_While ?_
        refine codeAny_whileLoop (I := RowsI w g s L x sg W hd lo fd l tW z) (fun k s₁' hI => ?_) rest₀.length ⟨rest₀, rows₀, N₀, m₀, tr₀, ll₀, n₀, ps₀, ps2₀, rfl, q1, q2, q3, q4, q5, q6, q7, q8, q9, q10, q11, q12⟩
        obtain ⟨rest, rows, N, m, tr, ll, n, ps, ps2, rfl, hlaw, hN, hr901, n_rest, n_rows, n_finder, n_width, c₁, hll, hlr, C₁, F₁⟩ := hI
        have hrl : (ofL rest).length = rest.length := ofL_len rest
        have hrt : (ofL rest).cps.toList = rest := by simp [ofL]
        refine wpAny_isTrue_Compare1 ?_
        refine Call_ ?_
        refine c_built c₁ (v := .builtin "len") ?_ ?_ ?_ ?_
        · kernel_rfl
        · kernel_rfl
        · decide
        refine PyProof.Rows.callWith_builtin1 (spliced_more (c_name c₁ n_rest (spliced_none ?_)))
        refine P.len_str (by lia) ?_
        have c₂ := c₁.ext (s' := { s₁' with toks := s₁'.toks + 1 + 1 }) (fun _ _ e => e) rfl rfl
        refine c_name c₂ n_width (gt_int (wpAny_truthy_bool ?_))
        rw [hrl]
        by_cases hlen : rest.length ≤ W
        · rw [decide_eq_false (show ¬ ((rest.length : Nat) : Int) > (W : Nat) by (exact om188 hrl hlen)), if_neg (by decide)]
          refine wpAny_execs_nil ?_
          refine hP' _ _ ?_
          refine ⟨rest, rows, m, tr, ll, n, ps, ps2, ?_, n_rest, n_rows, c₂, hll, by (exact om189 hr901 hlr hrl)⟩
          rw [hlaw]
          cases N with
          | zero => rfl
          | succ N => rw [rowsF, if_pos hlen]
        · rw [decide_eq_true (show ((rest.length : Nat) : Int) > (W : Nat) by (exact om190 hrl hlen)), if_pos rfl]
          obtain ⟨N', rfl⟩ : ∃ N', N = N' + 1 := ⟨N - 1, by (exact om191 hW hN hr901 hrl hlen)⟩
          rw [rowsF, if_neg hlen] at hlaw
          refine wpAny_execs_cons ?_
          refine wpAny_Assign_Name ?_
          refine Call_ ?_
          refine c_glob c₂ (v := .ref 211) ?_ ?_
          · kernel_rfl
          refine callWith_K (K := KK w) c₂.X (by kernel_rfl) ?_
          refine spliced_more (c_name c₂ n_finder (spliced_more (c_name c₂ n_rest (spliced_more ?_))))
          refine wpAny_BinOp (c_name c₂ n_width (c_intK c₂ fun s₃ t₃ c₃ e₃ => PyProof.Rows.add_int ?_))
          have c₄ := c₃.ext (s' := { s₃ with toks := s₃.toks + 1 }) (fun _ _ e => e) rfl rfl
          refine spliced_none ?_
          refine ⟨c₄.X, ?_⟩
          refine srev_ok (s := { s₃ with toks := s₃.toks + 1 }) c₄.ok r.deep.le (by show FinderAt w _ s₃.heap _ _ _; rw [e₃]; exact F₁) hz (c₄.get (.tail _ (.head _))) (by show CodesIn _ _ s₃.heap; rw [e₃]; exact C₁) (by (exact om192 hr901 hrl)) fun s₅ rv ps₅ O₅ S₅ T₅ C₅ H₅ => ?_
          have c₅ := c₄.call1 (Upd.tail hl13 (Upd.head (fun q hq => by rw [List.mem_singleton] at hq; subst hq; exact n13.symm))) S₅ O₅ T₅
          have H₅' := H₅.mono (lo' := s.heap.objs.size + 1) (Nat.succ_le_of_lt c₄.lt) (Nat.le_succ_of_le big)
          rw [show (((W : Nat) : Int) + 1).toNat = W + 1 by (exact om193 hW), hrt] at H₅'
          have F₄ : FinderAt w lo s₃.heap fd sg z := by rw [e₃]; exact F₁
          have F₅ := F₄.keep (h' := s₅.heap) (St.keep2 (s := { s₃ with toks := s₃.toks + 1 }) S₅ nk213)
          refine c_storeK c₅ fun s₆ c₆' k₆ => ?_
          obtain ⟨m₆, hm₆, c₆⟩ := c₆'.named
          have a_hit : m₆ nHit = some rv := by rw [hm₆]; exact if_pos rfl
          have a_rest : m₆ nRest = some (.str (ofL rest) tr) := by rw [hm₆]; exact (if_neg (by decide)).trans n_rest
          have a_rows : m₆ nRows = some (.ref l) := by rw [hm₆]; exact (if_neg (by decide)).trans n_rows
          have a_finder : m₆ nFinder = some (.ref fd) := by rw [hm₆]; exact (if_neg (by decide)).trans n_finder
          have a_width : m₆ nWidth = some (.int (W : Nat) tW) := by rw [hm₆]; exact (if_neg (by decide)).trans n_width
          clear hm₆ c₆'
          have K₆ := c₅.keepL k₆
          have H₆ := H₅'.keep K₆
          have F₆ := F₅.keep (Kup K₆)
          have C₆ : CodesIn qH ps₅ s₆.heap := C₅.keep fun b o vs _ hd e => k₆ b o (c₅.neLf e hd) e
          refine wpAny_execs_cons ?_
          refine wpAny_mono (Q := fun fl s' => match fl with
            | .next => ∃ rv m ps, m nHit = some rv ∧ m nRest = some (.str (ofL rest) tr) ∧ m nRows = some (.ref l) ∧ m nFinder = some (.ref fd) ∧ m nWidth = some (.int (W : Nat) tW) ∧ Cx w g [213, 220] s L m [(l, listObj (strValues ll).toArray n), (213, tabObj ps), (220, tabObj ps2)] s' ∧
                CodesIn qH ps s'.heap ∧ FinderAt w lo s'.heap fd sg z ∧ HitOr w (s.heap.objs.size + 1) s'.heap z ((lastBelow sg.cps.toList rest (W + 1)).or (seamFrom sg.cps.toList rest 0)) rv
            | _ => False) ?_ ?_ fun _ _ e => e
          · refine wpAny_If (wpAny_isTrue_Compare1 ?_)
            refine c_name c₆ a_hit (wpAny_Constant_none (is_none (hro H₆).1 (wpAny_truthy_bool ?_)))
            rw [(hro H₆).2]
            cases hlb : lastBelow sg.cps.toList rest (W + 1) with
            | some p =>
              rw [hlb] at H₆
              rw [if_neg (show ¬ (some p).isNone = true from Bool.false_ne_true)]
              refine wpAny_execs_nil ?_
              exact ⟨rv, m₆, ps₅, a_hit, a_rest, a_rows, a_finder, a_width, c₆, C₆, F₆, H₆⟩
            | none =>
              rw [if_pos (by rfl)]
              refine wpAny_execs_cons ?_
              refine wpAny_Assign_Name ?_
              refine MethodCall_ ?_
              refine c_name c₆ a_finder ?_
              refine search_call (sg := sg) (z := z) F₆ ?_
              have c₇ := c₆.ext (s' := { s₆ with toks := s₆.toks + 1 }) (fun _ _ e => e) rfl rfl
              refine spliced_more (c_name c₇ a_rest (spliced_none ?_))
              refine ⟨ofL rest, tr, 0, ps₅, rfl, c₇.ok, r.deep.le, c₇.get (.tail _ (.head _)), C₆, by (exact om192 hr901 hrl), by (exact Nat.zero_le _), .inl ⟨rfl, rfl⟩, fun s₈ rw' ps₈ O₈ S₈ T₈ C₈ H₈ => ?_⟩
              have c₈ := c₇.call1 (Upd.tail hl13 (Upd.head (fun q hq => by rw [List.mem_singleton] at hq; subst hq; exact n13.symm))) S₈ O₈ T₈
              have H₈' := H₈.mono (lo' := s.heap.objs.size + 1) (Nat.succ_le_of_lt c₇.lt) (Nat.le_succ_of_le big)
              rw [hrt] at H₈'
              have F₈ := F₆.keep (h' := s₈.heap) (St.keep2 (s := { s₆ with toks := s₆.toks + 1 }) S₈ nk213)
              refine c_storeK c₈ fun s₉ c₉ k₉ => ?_
              have K₉ := c₈.keepL k₉
              refine wpAny_execs_nil ?_
              exact ⟨rw', _, ps₈, if_pos rfl, (if_neg (by decide)).trans a_rest, (if_neg (by decide)).trans a_rows, (if_neg (by decide)).trans a_finder, (if_neg (by decide)).trans a_width, c₉, C₈.keep fun b o vs _ hd e => k₉ b o (c₈.neLf e hd) e, F₈.keep (Kup K₉), H₈'.keep K₉⟩
          · intro fl s₁₀ hmid
            match fl, hmid with
            | .next, hm =>
              obtain ⟨rv, m, ps, b_hit, b_rest, b_rows, b_finder, b_width, c₁₀, C₁₀, F₁₀, H₁₀⟩ := hm
              refine wpAny_execs_cons ?_
              refine wpAny_If (wpAny_isTrue_Compare1 ?_)
              refine c_name c₁₀ b_hit (wpAny_Constant_none (is_none (hro H₁₀).1 (wpAny_truthy_bool ?_)))
              rw [(hro H₁₀).2]
              cases ho : (lastBelow sg.cps.toList rest (W + 1)).or (seamFrom sg.cps.toList rest 0) with
              | none =>
                rw [if_pos (by rfl)]
                refine wpAny_execs_cons ?_
                refine wpAny_Break ?_
                rw [ho] at hlaw
                refine hP' _ _ ?_
                exact ⟨rest, rows, m, tr, ll, n, ps, ps2, hlaw, b_rest, b_rows, c₁₀, hll, by (exact om189 hr901 hlr hrl)⟩
              | some p =>
                rw [if_neg (show ¬ (some p).isNone = true from Bool.false_ne_true)]
                rw [ho] at hlaw H₁₀
                obtain ⟨u, rfl, H₁₀⟩ := H₁₀
                have hp : 1 ≤ p ∧ p < rest.length := by
                  cases hl1 : lastBelow sg.cps.toList rest (W + 1) with
                  | some q1 => rw [hl1] at ho; cases ho; exact seam_lt (lastBelow_seam hl1).2
                  | none => rw [hl1] at ho; exact seam_lt (firstSeam_some (by exact ho)).2.2.1
                refine wpAny_execs_nil ?_
                refine wpAny_execs_cons ?_
                refine wpAny_Assign_Name ?_
                refine Subscript_ ?_
                refine MethodCall_ ?_
                refine c_name c₁₀ b_hit ?_
                refine span_call c₁₀ (show A.depth + 1 < recursionLimit from r.room 1) H₁₀ fun s₁₁ T u1 u2 c₁₁ S₁₁ eT hT₁₁ => ?_
                refine c_intK c₁₁ fun s₁₂ t₁₂ c₁₂ e₁₂ => ?_
                refine pair_item (by rw [e₁₂]; exact eT) (by decide) (by decide) (by rfl) (by rfl) ?_
                have nn : ∀ b ∈ ([] : List Addr), ¬ (238 : Nat) ≤ b := fun _ h => nomatch h
                have F₁₂ : FinderAt w lo s₁₂.heap fd sg z := by rw [e₁₂]; exact F₁₀.keep (S₁₁.keep2 nn)
                have C₁₂ : CodesIn qH ps s₁₂.heap := by rw [e₁₂]; exact C₁₀.keep fun b o vs hb _ e => S₁₁.keep b o (fun h => nomatch h) (not_tab hb) e
                refine c_storeK c₁₂ fun s₁₃ c₁₃' k₁₃ => ?_
                obtain ⟨m₁₃, hm₁₃, c₁₃⟩ := c₁₃'.named
                have d_rest : m₁₃ nRest = some (.str (ofL rest) tr) := by rw [hm₁₃]; exact (if_neg (by decide)).trans b_rest
                have d_rows : m₁₃ nRows = some (.ref l) := by rw [hm₁₃]; exact (if_neg (by decide)).trans b_rows
                have d_finder : m₁₃ nFinder = some (.ref fd) := by rw [hm₁₃]; exact (if_neg (by decide)).trans b_finder
                have d_width : m₁₃ nWidth = some (.int (W : Nat) tW) := by rw [hm₁₃]; exact (if_neg (by decide)).trans b_width
                have d_place : m₁₃ nPlace = some (.int (p : Nat) u1) := by rw [hm₁₃]; exact if_pos rfl
                clear hm₁₃ c₁₃'
                have K₁₃ := c₁₂.keepL k₁₃
                have F₁₃ := F₁₂.keep (Kup K₁₃)
                have C₁₃ : CodesIn qH ps s₁₃.heap := C₁₂.keep fun b o vs _ hd e => k₁₃ b o (c₁₂.neLf e hd) e
                have hpt : p ≤ (ofL rest).cps.toList.length := by rw [hrt]; (exact om194 hrl hp)
                refine wpAny_execs_cons ?_
                refine wpAny_Expr ?_
                refine MethodCall_ ?_
                refine c_name c₁₃ d_rows ?_
                refine getMethod_list_append (c₁₃.get (.head _)) rfl rfl ?_
                refine callWith_method1 ?_
                refine spliced_more ?_
                refine Subscript_ ?_
                refine c_name c₁₃ d_rest ?_
                refine wpAny_Slice (wpAny_evalPart_none (wpAny_evalPart_some (c_name c₁₃ d_place (wpAny_evalPart_none ?_))))
                refine s_to hpt (by (exact om192 hr901 hrl)) fun h₁₄ t₁₄ tk₁₄ k₁₄ => ?_
                rw [hrt]
                have c₁₄ := c₁₃.ext (s' := { s₁₃ with heap := h₁₄, toks := tk₁₄ }) k₁₄ rfl rfl
                refine spliced_none ?_
                refine list_app (c₁₄.get (.head _)) (by simp [strValues]; (exact om195 hr901 hlr hrl)) fun s₁₅ hs₁₅ e₁₅ hg₁₅ ho₁₅ => ?_
                have c₁₅ := c₁₄.upd (Upd.head (fun q hq => by
                  simp only [List.mem_cons, List.not_mem_nil, or_false] at hq
                  rcases hq with rfl | rfl
                  · exact hl13.symm
                  · exact hl20.symm)) hl238 hs₁₅ e₁₅ hg₁₅ ho₁₅
                have K₁₅ : Keep2 lo s₁₃.heap s₁₅.heap := (Keep2.of k₁₄).trans (Keep2.list (c₁₄.get (.head _)) fun b o hb e => hs₁₅.extBut b o hb e)
                have F₁₅ := F₁₃.keep K₁₅
                have C₁₅ : CodesIn qH ps s₁₅.heap := C₁₃.keep fun b o vs hb hd e => K₁₅ b o hb (.inr ⟨vs, hd⟩) e
                refine wpAny_execs_cons ?_
                refine wpAny_Assign_Name ?_
                refine Subscript_ ?_
                refine c_name c₁₅ d_rest ?_
                refine wpAny_Slice (wpAny_evalPart_some (c_name c₁₅ d_place (wpAny_evalPart_none (wpAny_evalPart_none ?_))))
                refine s_from hpt (by (exact om192 hr901 hrl)) fun h₁₆ t₁₆ tk₁₆ k₁₆ => ?_
                rw [hrt]
                have c₁₆ := c₁₅.ext (s' := { s₁₅ with heap := h₁₆, toks := tk₁₆ }) k₁₆ rfl rfl
                refine c_storeK c₁₆ fun s₁₇ c₁₇ k₁₇ => ?_
                have K₁₇ : Keep2 lo s₁₅.heap s₁₇.heap := (Keep2.of k₁₆).trans (Kup (c₁₆.keepL k₁₇))
                refine wpAny_execs_nil ?_
                have hv : (strValues ll).toArray.push (Value.str (ofL (rest.take p)) t₁₄) = (strValues (ll ++ [(ofL (rest.take p), t₁₄)])).toArray := by
                  apply Array.ext'; simp [strValues]
                rw [hv] at c₁₇
                refine ⟨(rest.drop p).length, by rw [List.length_drop]; (exact om196 hrl hp), rest.drop p, rows ++ [rest.take p], N', _, t₁₆, ll ++ [(ofL (rest.take p), t₁₄)], n + 1, ps, ps2, rfl, by rw [hlaw, List.append_assoc]; rfl, by rw [List.length_drop]; (exact om197 hrl hN hp), by rw [List.length_drop]; (exact om198 hW hr901 hrl hlen hp), if_pos rfl, (if_neg (by decide)).trans d_rows, (if_neg (by decide)).trans d_finder, (if_neg (by decide)).trans d_width, c₁₇, by simp [hll], by rw [List.length_append, List.length_drop]; simp only [List.length_cons, List.length_nil]; (exact om199 hlr hrl hp), C₁₅.keep fun b o vs hb hd e => K₁₇ b o hb (.inr ⟨vs, hd⟩) e, F₁₅.keep K₁₇⟩
      · intro fl s₁' hmid
        match fl, hmid with
        | .next, hm =>
          obtain ⟨rest, rows, m, tr, ll, n, ps, ps2, hlaw, n_rest, n_rows, c₁, hll, hl902⟩ := hm
          refine wpAny_execs_cons ?_
          refine wpAny_Return_some ?_
          refine wpAny_BinOp (c_name c₁ n_rows (List_ (spliced_more (c_name c₁ n_rest (spliced_none (c_list c₁ fun s₂ u c₂ hu => ?_))))))
          refine P.add_list (c₂.get (.tail _ (.head _))) (c₂.get (.head _)) ?_ (Nat.le_trans (show _ ≤ 1000 by simp [strValues]; (exact om200 hl902)) (by decide))
          have hv : ((strValues ll).toArray ++ [Value.str (ofL rest) tr].toArray) = (strValues (ll ++ [(ofL rest, tr)])).toArray := by
            apply Array.ext'; simp [strValues]
          rw [hv]
          have c₃ := Cx.new (a := s₂.heap.objs.size) (o := listObj (strValues (ll ++ [(ofL rest, tr)])).toArray 0) (c₂.ext (s' := { s₂ with heap := s₂.heap.push (listObj (strValues (ll ++ [(ofL rest, tr)])).toArray 0) }) (fun _ _ e => Heap.get?_push_of_some _ e) rfl rfl) (Heap.get?_push_size _ rfl) c₂.lt
          exact h _ _ (ll ++ [(ofL rest, tr)]) 0 c₃.ok c₃.st (c₃.get (.head _)) (Nat.le_of_lt c₂.lt) (by rw [hlaw]; simp [hll]) ⟨_, c₃.get (.tail _ (.tail _ (.tail _ (.head _))))⟩ ⟨_, c₃.get (.tail _ (.tail _ (.tail _ (.tail _ (.head _)))))⟩
end
end Mine
end

section
open PySem PySem.W PySem.Calls PyProof.Rows
set_option maxRecDepth 100000
set_option maxHeartbeats 8000000
namespace Mine
noncomputable abbrev tx (x : Str) : List Nat := x.cps.toList
structure WN (q : Str × Str) : Prop where
  w : ∀ c ∈ tx q.1, isW c = true
  n : ∀ c ∈ tx q.2, isW c = false
  ne : tx q.2 ≠ []
structure Good (ps : List (Str × Str)) : Prop where
  all : ∀ q ∈ ps, WN q
  tail : ∀ q ∈ ps.tail, tx q.1 ≠ []
theorem flat_cons (q : Str × Str) (ps : List (Str × Str)) : flat (q :: ps) = tx q.1 ++ tx q.2 ++ flat ps := by simp [flat, List.flatMap_cons]
theorem flat_append (a b : List (Str × Str)) : flat (a ++ b) = flat a ++ flat b := by simp [flat, List.flatMap_append]
noncomputable def posP (ps : List (Str × Str)) (k : Nat) : Nat := (flat (ps.take k)).length
theorem wn_len {q : Str × Str} (h : WN q) : 1 ≤ (tx q.2).length := by
  cases e : tx q.2 with
  | nil => exact absurd e h.ne
  | cons a b => simp
theorem pos_step {ps : List (Str × Str)} (h : ∀ q ∈ ps, WN q) {k : Nat} (hk : k < ps.length) : posP ps k < posP ps (k + 1) := by
  unfold posP
  rw [List.take_succ_eq_append_getElem hk, flat_append, List.length_append]
  have := wn_len (h _ (List.getElem_mem hk))
  have e : flat [ps[k]] = tx ps[k].1 ++ tx ps[k].2 := by rw [flat_cons]; simp [flat]
  rw [e, List.length_append]
  (exact om314 hk this)
theorem pos_mono {ps : List (Str × Str)} (h : ∀ q ∈ ps, WN q) {j : Nat} : ∀ {k : Nat}, j < k → k ≤ ps.length → posP ps j < posP ps k
  | 0, h1, _ => absurd h1 (Nat.not_lt_zero _)
  | k + 1, h1, h2 => by
    have h3 := pos_step h (k := k) (by assumption)
    rcases Nat.lt_or_ge j k with h4 | h4
    · exact Nat.lt_trans (pos_mono h h4 (by (exact Nat.le_of_lt (by assumption)))) h3
    · rw [show j = k by (exact om71 h1 h4)]; exact h3
theorem pos_le {ps : List (Str × Str)} (h : ∀ q ∈ ps, WN q) {j k : Nat} (h1 : j ≤ k) (h2 : k ≤ ps.length) : posP ps j ≤ posP ps k := by
  rcases Nat.lt_or_ge j k with h4 | h4
  · exact Nat.le_of_lt (pos_mono h h4 h2)
  · rw [show j = k by (exact om315 h1 h4)]; exact Nat.le_refl _
theorem seam_at {sg x : List Nat} {p : Nat} (h : seam sg x p = true) : ∃ c b, x[p]? = some c ∧ x[p - 1]? = some b ∧ isW c = true ∧ isW b = false ∧ (sg == [] || (sg == [c] || sg == [b])) = true := by
  unfold seam at h
  cases h1 : x[p]? with
  | none => rw [h1] at h; cases h
  | some c =>
    cases h2 : x[p - 1]? with
    | none => rw [h1, h2] at h; cases h
    | some b =>
      rw [h1, h2] at h
      dsimp only at h
      rw [Bool.and_eq_true, Bool.and_eq_true] at h
      exact ⟨c, b, rfl, rfl, h.1.1, by simpa using h.1.2, h.2⟩
theorem seam_piece {sg : List Nat} : ∀ {ps : List (Str × Str)} {p : Nat}, (∀ q ∈ ps, WN q) → seam sg (flat ps) p = true → ∃ k, 1 ≤ k ∧ k < ps.length ∧ p = posP ps k
  | [], p, _, h => by
    obtain ⟨c, b, h1, _⟩ := seam_at h
    simp [flat] at h1
  | q :: r, p, hg, h => by
    obtain ⟨c, b, h1, h2, hc, hb, hs⟩ := seam_at h
    have hp := seam_lt h
    rw [flat_cons] at h1 h2
    have hq := hg q (.head _)
    rcases Nat.lt_trichotomy p (tx q.1 ++ tx q.2).length with h3 | h3 | h3
    · rw [List.getElem?_append_left h3] at h1
      rw [List.getElem?_append_left (by (exact om316 hp h3))] at h2
      rcases Nat.lt_or_ge p (tx q.1).length with h4 | h4
      · rw [List.getElem?_append_left (by (exact om316 hp h4))] at h2
        have := hq.w b (List.mem_of_getElem? h2)
        rw [hb] at this; cases this
      · rw [List.getElem?_append_right h4] at h1
        have := hq.n c (List.mem_of_getElem? h1)
        rw [hc] at this; cases this
    · refine ⟨1, Nat.le_refl _, ?_, ?_⟩
      · cases r with
        | nil =>
          rw [List.getElem?_append_right (by (exact om317 h3))] at h1
          simp [flat] at h1
        | cons a b => simp
      · unfold posP
        rw [List.take_succ_cons, List.take_zero, flat_cons]
        simpa [flat] using h3
    · have h5 : seam sg (flat r) (p - (tx q.1 ++ tx q.2).length) = true := by
        rw [List.getElem?_append_right (by (exact Nat.le_of_lt (by assumption)))] at h1
        rw [List.getElem?_append_right (by (exact om318 hp h3))] at h2
        unfold seam
        rw [h1, show p - (tx q.1 ++ tx q.2).length - 1 = p - 1 - (tx q.1 ++ tx q.2).length by (exact om319 h3), h2]
        dsimp only
        rw [hc, hb, hs]; rfl
      obtain ⟨k, k1, k2, k3⟩ := seam_piece (fun q hq => hg q (.tail _ hq)) h5
      refine ⟨k + 1, by (exact Nat.zero_lt_succ _), by simp; assumption, ?_⟩
      unfold posP at k3 ⊢
      rw [List.take_succ_cons, flat_cons, List.length_append]
      (exact om320 h3 k3)
theorem split_at {ps : List (Str × Str)} {k : Nat} (h1 : 1 ≤ k) (h2 : k < ps.length) : ∃ A a b B, ps = A ++ a :: b :: B ∧ A.length + 1 = k ∧ ps[k - 1]? = some a ∧ ps[k]? = some b := by
  refine ⟨ps.take (k - 1), ps[k - 1], ps[k], ps.drop (k + 1), ?_, ?_, ?_, ?_⟩
  · have e1 : ps.drop (k - 1) = ps[k - 1] :: ps.drop (k - 1 + 1) := List.drop_eq_getElem_cons (by (exact om321 h1 h2))
    have e2 : ps.drop k = ps[k] :: ps.drop (k + 1) := List.drop_eq_getElem_cons h2
    rw [show k - 1 + 1 = k by (exact om322 h1)] at e1
    rw [← e2, ← e1, List.take_append_drop]
  · rw [List.length_take]; (exact om323 h1 h2)
  · exact List.getElem?_eq_getElem (by (exact om321 h1 h2))
  · exact List.getElem?_eq_getElem h2
theorem head_some {l : List Nat} (h : l ≠ []) : ∃ a, l.head? = some a ∧ a ∈ l ∧ l[0]? = some a := by
  cases l with
  | nil => exact absurd rfl h
  | cons a b => exact ⟨a, rfl, .head _, rfl⟩
theorem last_some {l : List Nat} (h : l ≠ []) : ∃ a, l.getLast? = some a ∧ a ∈ l ∧ l[l.length - 1]? = some a := by
  refine ⟨l.getLast h, List.getLast?_eq_some_getLast h, List.getLast_mem h, ?_⟩
  rw [← List.getLast?_eq_getElem?]
  exact List.getLast?_eq_some_getLast h
theorem seam_between {sg : List Nat} {ps : List (Str × Str)} {k : Nat} (G : Good ps) (h1 : 1 ≤ k) (h2 : k < ps.length) :
    ∃ a b h l, ps[k - 1]? = some a ∧ ps[k]? = some b ∧ (tx b.1).head? = some h ∧ isW h = true ∧ (tx a.2).getLast? = some l ∧ isW l = false ∧ seam sg (flat ps) (posP ps k) = (sg == [] || (sg == [h] || sg == [l])) := by
  obtain ⟨A, a, b, B, e, hA, ha, hb⟩ := split_at h1 h2
  have ma : a ∈ ps := List.mem_of_getElem? ha
  have mb : b ∈ ps := List.mem_of_getElem? hb
  have mt : b ∈ ps.tail := by
    rw [e]
    cases A with
    | nil => exact .head _
    | cons x A => exact List.mem_append_right _ (.tail _ (.head _))
  obtain ⟨h, e1, e2, e3⟩ := head_some (G.tail b mt)
  obtain ⟨l, f1, f2, f3⟩ := last_some (G.all a ma).ne
  have wh := (G.all b mb).w h e2
  have wl := (G.all a ma).n l f2
  refine ⟨a, b, h, l, ha, hb, e1, wh, f1, wl, ?_⟩
  have ep : posP ps k = (flat A).length + (tx a.1).length + (tx a.2).length := by
    unfold posP
    rw [e, show A ++ a :: b :: B = (A ++ [a]) ++ b :: B by simp, List.take_left' (by simp; assumption), flat_append, List.length_append, flat_cons]
    simp [flat]
    (exact om324)
  have ef : flat ps = (flat A ++ tx a.1) ++ (tx a.2 ++ (tx b.1 ++ (tx b.2 ++ flat B))) := by
    rw [e, flat_append, flat_cons, flat_cons]; simp
  have hl : 1 ≤ (tx a.2).length := wn_len (G.all a ma)
  have g1 : (flat ps)[posP ps k]? = some h := by
    rw [ep, ef, List.getElem?_append_right (by rw [List.length_append]; (exact om325 hl)), List.getElem?_append_right (by rw [List.length_append]; (exact om326 hl)), List.getElem?_append_left]
    · rw [show (flat A).length + (tx a.1).length + (tx a.2).length - (flat A ++ tx a.1).length - (tx a.2).length = 0 by rw [List.length_append]; (exact om327)]
      exact e3
    · have : 1 ≤ (tx b.1).length := by
        cases q : tx b.1 with
        | nil => exact absurd q (G.tail b mt)
        | cons x y => simp
      rw [List.length_append]; (exact om328 this)
  have g2 : (flat ps)[posP ps k - 1]? = some l := by
    rw [ep, ef, List.getElem?_append_right (by rw [List.length_append]; (exact om329 ep hl)), List.getElem?_append_left (by rw [List.length_append]; (exact om330 hl))]
    rw [show (flat A).length + (tx a.1).length + (tx a.2).length - 1 - (flat A ++ tx a.1).length = (tx a.2).length - 1 by rw [List.length_append]; (exact om331 hl)]
    exact f3
  unfold seam
  rw [g1, g2]
  dsimp only
  rw [wh, wl]
  rfl
theorem hit_seam {c : Nat} {ps : List (Str × Str)} {k : Nat} (hc : c = 32 ∨ c = 44 ∨ c = 9) (G : Good ps) (h1 : 1 ≤ k) (h2 : k < ps.length) : seam [c] (flat ps) (posP ps k) = hitAt c ps k := by
  obtain ⟨a, b, h, l, ha, hb, e1, wh, f1, wl, e⟩ := seam_between (sg := [c]) G h1 h2
  rw [e]
  unfold hitAt
  rw [ha, hb]
  simp only [Option.bind_some]
  rw [show b.1.cps.toList.head? = some h from e1, show a.2.cps.toList.getLast? = some l from f1]
  have hsw : isW h = true → h = 32 ∨ h = 9 := by unfold isW; simp
  have hh := hsw wh
  have key : (([c] : List Nat) == [] || (([c] : List Nat) == [h] || ([c] : List Nat) == [l])) = true ↔ (c = h ∨ c = l) := by simp
  have key2 : ((Unicode.isSpace c && (some h == some c)) || (some l == some c)) = true ↔ ((Unicode.isSpace c = true ∧ h = c) ∨ l = c) := by simp
  rw [Bool.eq_iff_iff, key, key2]
  rcases hc with rfl | rfl | rfl
  · have : (Unicode.isSpace 32 = true) = True := eq_true (by decide)
    rw [this, true_and]
    (exact om332)
  · have : (Unicode.isSpace 44 = true) = False := eq_false (by decide)
    rw [this, false_and, false_or]
    lia
  · have : (Unicode.isSpace 9 = true) = True := eq_true (by decide)
    rw [this, true_and]
    (exact om333)
theorem any_seam {ps : List (Str × Str)} {k : Nat} (G : Good ps) (h1 : 1 ≤ k) (h2 : k < ps.length) : seam [] (flat ps) (posP ps k) = true := by
  obtain ⟨a, b, h, l, ha, hb, e1, wh, f1, wl, e⟩ := seam_between (sg := []) G h1 h2
  rw [e]; rfl
end Mine
end

section
open PySem PySem.W PySem.Calls PyProof.Rows
set_option maxRecDepth 100000
set_option maxHeartbeats 8000000
namespace Mine
noncomputable def noHit (c : Nat) (ps : List (Str × Str)) : Prop := ∀ j, 1 ≤ j → j < ps.length → hitAt c ps j = false
theorem findK_someP {c : Nat} {ps : List (Str × Str)} : ∀ {n k : Nat}, findK c ps n = some k → 1 ≤ k ∧ k ≤ n ∧ hitAt c ps k = true ∧ ∀ j, k < j → j ≤ n → hitAt c ps j = false
  | 0, _, h => by cases h
  | n + 1, k, h => by
    unfold findK at h
    cases hh : hitAt c ps (n + 1) with
    | true => rw [hh, if_pos rfl] at h; cases h; exact ⟨by (exact Nat.zero_lt_succ _), Nat.le_refl _, hh, fun j a b => absurd a (by (exact Nat.not_lt.mpr (by assumption)))⟩
    | false =>
      rw [hh, if_neg (by decide)] at h
      obtain ⟨a, b, d, e⟩ := findK_someP h
      refine ⟨a, by (exact Nat.le_succ_of_le (by assumption)), d, fun j j1 j2 => ?_⟩
      rcases Nat.lt_or_ge n j with q | q
      · rw [show j = n + 1 by (exact om335 j2 q)]; exact hh
      · exact e j j1 q
theorem findK_noneP {c : Nat} {ps : List (Str × Str)} : ∀ {n : Nat}, findK c ps n = none → ∀ j, 1 ≤ j → j ≤ n → hitAt c ps j = false
  | 0, _, j, a, b => absurd a (by (exact Nat.not_lt.mpr (by assumption)))
  | n + 1, h, j, a, b => by
    unfold findK at h
    cases hh : hitAt c ps (n + 1) with
    | true => rw [hh, if_pos rfl] at h; cases h
    | false =>
      rw [hh, if_neg (by decide)] at h
      rcases Nat.lt_or_ge n j with q | q
      · rw [show j = n + 1 by (exact om335 b q)]; exact hh
      · exact findK_noneP h j a q
theorem findAll_one {c : Nat} {ps : List (Str × Str)} : findAll [c] ps = findK c ps (ps.length - 1) := by
  unfold findAll
  cases h : findK c ps (ps.length - 1) <;> simp [List.findSome?, h]
theorem hitAt_append {c : Nat} {ps qs : List (Str × Str)} {k : Nat} (h : k < ps.length) : hitAt c (ps ++ qs) k = hitAt c ps k := by
  unfold hitAt
  rw [List.getElem?_append_left h, List.getElem?_append_left (show k - 1 < ps.length by (exact om336 h))]
theorem hitAt_drop {c : Nat} {ps : List (Str × Str)} {k j : Nat} (h : 1 ≤ j) : hitAt c (ps.drop k) j = hitAt c ps (k + j) := by
  unfold hitAt
  rw [List.getElem?_drop, List.getElem?_drop, show k + (j - 1) = k + j - 1 by (exact om337 h)]
theorem pos_append {ps qs : List (Str × Str)} {k : Nat} (h : k ≤ ps.length) : posP (ps ++ qs) k = posP ps k := by
  unfold posP
  rw [List.take_append_of_le_length h]
theorem pos_all (ps : List (Str × Str)) : posP ps ps.length = (flat ps).length := by
  unfold posP
  rw [List.take_length]
theorem Good.drop {ps : List (Str × Str)} (G : Good ps) (k : Nat) : Good (ps.drop k) := by
  refine ⟨fun q hq => G.all q (List.mem_of_mem_drop hq), fun q hq => G.tail q ?_⟩
  rw [List.tail_drop] at hq
  rw [← List.drop_one]
  rw [show k + 1 = 1 + k by (exact om338), ← List.drop_drop] at hq
  exact List.mem_of_mem_drop hq
section
variable {c : Nat} {ps : List (Str × Str)} {k n : Nat}
theorem lb_some (hc : c = 32 ∨ c = 44 ∨ c = 9) (G : Good ps) (h1 : 1 ≤ k) (h2 : k < ps.length) (hh : hitAt c ps k = true) (hn : posP ps k < n) (hj : ∀ j, k < j → j < ps.length → hitAt c ps j = true → n ≤ posP ps j) : lastBelow [c] (flat ps) n = some (posP ps k) := by
  refine lastBelow_some (by rw [hit_seam hc G h1 h2]; exact hh) hn fun m m1 m2 => ?_
  cases hs : seam [c] (flat ps) m with
  | false => rfl
  | true =>
    obtain ⟨j, j1, j2, rfl⟩ := seam_piece G.all hs
    rw [hit_seam hc G j1 j2] at hs
    rcases Nat.lt_or_ge k j with q | q
    · have := hj j q j2 hs; (exact (om339 m2 this).elim)
    · have := pos_le G.all q (Nat.le_of_lt h2); (exact (om339 m1 this).elim)
theorem lb_none (hc : c = 32 ∨ c = 44 ∨ c = 9) (G : Good ps) (hj : ∀ j, 1 ≤ j → j < ps.length → hitAt c ps j = true → n ≤ posP ps j) : lastBelow [c] (flat ps) n = none := by
  refine lastBelow_none fun m m2 => ?_
  cases hs : seam [c] (flat ps) m with
  | false => rfl
  | true =>
    obtain ⟨j, j1, j2, rfl⟩ := seam_piece G.all hs
    rw [hit_seam hc G j1 j2] at hs
    have := hj j j1 j2 hs; (exact (om339 m2 this).elim)
theorem lbe_some (G : Good ps) (h1 : 1 ≤ k) (h2 : k < ps.length) (hn : posP ps k < n) (hj : ∀ j, k < j → j < ps.length → n ≤ posP ps j) : lastBelow [] (flat ps) n = some (posP ps k) := by
  refine lastBelow_some (any_seam G h1 h2) hn fun m m1 m2 => ?_
  cases hs : seam [] (flat ps) m with
  | false => rfl
  | true =>
    obtain ⟨j, j1, j2, rfl⟩ := seam_piece G.all hs
    rcases Nat.lt_or_ge k j with q | q
    · have := hj j q j2; (exact (om339 m2 this).elim)
    · have := pos_le G.all q (Nat.le_of_lt h2); (exact (om339 m1 this).elim)
theorem lbe_none (G : Good ps) (hj : ∀ j, 1 ≤ j → j < ps.length → n ≤ posP ps j) : lastBelow [] (flat ps) n = none := by
  refine lastBelow_none fun m m2 => ?_
  cases hs : seam [] (flat ps) m with
  | false => rfl
  | true =>
    obtain ⟨j, j1, j2, rfl⟩ := seam_piece G.all hs
    have := hj j j1 j2; (exact (om339 m2 this).elim)
theorem sf_some (hc : c = 32 ∨ c = 44 ∨ c = 9) (G : Good ps) (h1 : 1 ≤ k) (h2 : k < ps.length) (hh : hitAt c ps k = true) (hj : ∀ j, 1 ≤ j → j < k → hitAt c ps j = false) : seamFrom [c] (flat ps) 0 = some (posP ps k) := by
  have hs : seam [c] (flat ps) (posP ps k) = true := by rw [hit_seam hc G h1 h2]; exact hh
  have hl := seam_lt hs
  unfold seamFrom
  rw [show max 0 1 = 1 from rfl]
  have := firstSeam_at (sg := [c]) (x := flat ps) (n := (flat ps).length - 1) (p := 1) (q := posP ps k - 1) (by (exact om340 hl)) (fun m hm => ?_) (by rw [show 1 + (posP ps k - 1) = posP ps k by (exact om341 hl)]; exact hs)
  · rw [this, show 1 + (posP ps k - 1) = posP ps k by (exact om341 hl)]
  · cases hs' : seam [c] (flat ps) (1 + m) with
    | false => rfl
    | true =>
      obtain ⟨j, j1, j2, e⟩ := seam_piece G.all hs'
      rw [e, hit_seam hc G j1 j2] at hs'
      rcases Nat.lt_or_ge j k with q | q
      · rw [hj j j1 q] at hs'; cases hs'
      · have := pos_le G.all q (Nat.le_of_lt j2); (exact (om342 hl hm e this).elim)
theorem sf_none (hc : c = 32 ∨ c = 44 ∨ c = 9) (G : Good ps) (hj : noHit c ps) : seamFrom [c] (flat ps) 0 = none := by
  unfold seamFrom
  rw [show max 0 1 = 1 from rfl]
  refine firstSeam_no fun m hm => ?_
  cases hs' : seam [c] (flat ps) (1 + m) with
  | false => rfl
  | true =>
    obtain ⟨j, j1, j2, e⟩ := seam_piece G.all hs'
    rw [e, hit_seam hc G j1 j2, hj j j1 j2] at hs'; cases hs'
theorem flat_cut (ps : List (Str × Str)) (k : Nat) : (flat ps).take (posP ps k) = flat (ps.take k) ∧ (flat ps).drop (posP ps k) = flat (ps.drop k) := by
  have e : flat ps = flat (ps.take k) ++ flat (ps.drop k) := by rw [← flat_append, List.take_append_drop]
  unfold posP
  constructor
  · conv => lhs; rw [e]
    exact List.take_left' rfl
  · conv => lhs; rw [e]
    exact List.drop_left' rfl
variable {W N : Nat}
theorem rows_one (hc : c = 32 ∨ c = 44 ∨ c = 9) (G : Good ps) (h : (flat ps).length ≤ W ∨ noHit c ps) : rowsF [c] W N (flat ps) = [flat ps] := by
  cases N with
  | zero => rfl
  | succ N =>
    unfold rowsF
    by_cases hl : (flat ps).length ≤ W
    · rw [if_pos hl]
    · rw [if_neg hl]
      have hn : noHit c ps := h.resolve_left hl
      rw [lb_none hc G (fun j j1 j2 hh => by rw [hn j j1 j2] at hh; cases hh), sf_none hc G hn]
      rfl
theorem rows_cut (hc : c = 32 ∨ c = 44 ∨ c = 9) (G : Good ps) (h1 : 1 ≤ k) (h2 : k < ps.length) (hh : hitAt c ps k = true) (hlen : W < (flat ps).length)
    (hcase : (posP ps k ≤ W ∧ ∀ j, k < j → j < ps.length → hitAt c ps j = true → W + 1 ≤ posP ps j) ∨ (W < posP ps k ∧ ∀ j, 1 ≤ j → j < k → hitAt c ps j = false)) :
    rowsF [c] W (N + 1) (flat ps) = flat (ps.take k) :: rowsF [c] W N (flat (ps.drop k)) := by
  have e : (lastBelow [c] (flat ps) (W + 1)).or (seamFrom [c] (flat ps) 0) = some (posP ps k) := by
    rcases hcase with ⟨a, b⟩ | ⟨a, b⟩
    · rw [lb_some hc G h1 h2 hh (by (exact Nat.lt_succ_of_le (by assumption))) b]; rfl
    · rw [lb_none hc G (fun j j1 j2 hj => ?_), sf_some hc G h1 h2 hh b]
      · rfl
      · rcases Nat.lt_or_ge j k with q | q
        · rw [b j j1 q] at hj; cases hj
        · have := pos_le G.all q (Nat.le_of_lt j2); (exact om343 a this)
  rw [rowsF, if_neg (by (exact Nat.not_le.mpr (by assumption))), e]
  dsimp only
  rw [(flat_cut ps k).1, (flat_cut ps k).2]
end
end Mine
end

section
open PySem PySem.W PySem.Calls PyProof.Rows
set_option maxRecDepth 100000
set_option maxHeartbeats 8000000
namespace Mine
theorem headRest_white {x : List Nat} {p h : Nat} (e : (x.drop p).head? = some h) (hw : isW h = true) : headRest x p = x.drop p := by
  unfold headRest
  cases q : x.drop p with
  | nil => rfl
  | cons a b => rw [q] at e; cases e; dsimp only; rw [hw, if_pos rfl]
theorem headRest_plain {x : List Nat} {p h : Nat} (e : (x.drop p).head? = some h) (hw : isW h = false) : headRest x p = 32 :: x.drop p := by
  unfold headRest
  cases q : x.drop p with
  | nil => rw [q] at e; cases e
  | cons a b => rw [q] at e; cases e; dsimp only; rw [hw, if_neg (by decide)]
theorem flat_head {q : Str × Str} {r : List (Str × Str)} (hq : WN q) (hne : tx q.1 ≠ []) : ∃ h, (flat (q :: r)).head? = some h ∧ isW h = true := by
  obtain ⟨h, e1, e2, e3⟩ := head_some hne
  refine ⟨h, ?_, hq.w h e2⟩
  rw [flat_cons]
  cases e : tx q.1 with
  | nil => exact absurd e hne
  | cons a b => rw [e] at e1; exact e1
theorem flat_head0 {q : Str × Str} {r : List (Str × Str)} (hq : WN q) (hne : tx q.1 = []) : ∃ h, (flat (q :: r)).head? = some h ∧ isW h = false := by
  obtain ⟨h, e1, e2, e3⟩ := head_some hq.ne
  refine ⟨h, ?_, hq.n h e2⟩
  rw [flat_cons, hne]
  cases e : tx q.2 with
  | nil => exact absurd e hq.ne
  | cons a b => rw [e] at e1; exact e1
theorem ofL_nil_iff (x : Str) : x = ofL [] ↔ tx x = [] := by
  constructor
  · rintro rfl; rfl
  · intro h
    rw [← ofL_toList x]
    exact congrArg ofL h
variable {c W : Nat}
theorem sizes_flat (ps : List (Str × Str)) : sizes ps = ((flat ps).length : Int) := (flat_length ps).symm
theorem chunk_fit {lines : List Str} {ps : List (Str × Str)} {i : Nat} {q : Str × Str} (h : i + (flat (ps ++ [q])).length ≤ W) : chunk (W : Int) [c] (lines, ps, (i : Int)) q = (lines, ps ++ [q], (i : Int)) := by
  unfold chunk
  dsimp only
  rw [if_pos (by rw [sizes_flat]; (exact om122 h))]
theorem chunk_hit {lines : List Str} {ps : List (Str × Str)} {i k : Nat} {q : Str × Str} (h : ¬ i + (flat (ps ++ [q])).length ≤ W) (hf : findAll [c] (ps ++ [q]) = some k) : chunk (W : Int) [c] (lines, ps, (i : Int)) q = (lines ++ [ofL (flat ((ps ++ [q]).take k))], (ps ++ [q]).drop k, 0) := by
  unfold chunk
  dsimp only
  rw [if_neg (by rw [sizes_flat]; (exact om344 h)), hf]
theorem chunk_none0 {lines : List Str} {ps : List (Str × Str)} {q : Str × Str} (h : ¬ (flat (ps ++ [q])).length ≤ W) (hf : findAll [c] (ps ++ [q]) = none) : chunk (W : Int) [c] (lines, ps, 0) q = (lines, ps ++ [q], 0) := by
  unfold chunk
  dsimp only
  rw [if_neg (by rw [sizes_flat]; (exact om345 h)), hf]
  dsimp only
  rw [if_neg (by decide)]
theorem chunk_none1 {lines : List Str} {ps : List (Str × Str)} {i : Nat} {q : Str × Str} (h0 : 0 < i) (h : ¬ i + (flat (ps ++ [q])).length ≤ W) (hf : findAll [c] (ps ++ [q]) = none) : chunk (W : Int) [c] (lines, ps, (i : Int)) q = (lines ++ [ofL (flat ps)], [(if q.1 = ofL [] then ofL [32] else q.1, q.2)], 0) := by
  unfold chunk
  dsimp only
  rw [if_neg (by rw [sizes_flat]; (exact om344 h)), hf]
  dsimp only
  rw [if_pos (by (exact om346 h0))]
theorem claimR (hc : c = 32 ∨ c = 44 ∨ c = 9) : ∀ (qs ps : List (Str × Str)) (lines : List Str) (N : Nat), Good (ps ++ qs) → ((flat ps).length ≤ W ∨ noHit c ps) → (flat (ps ++ qs)).length ≤ N →
    ∃ lines' ps', qs.foldl (chunk (W : Int) [c]) (lines, ps, 0) = (lines', ps', 0) ∧ lines' ++ [ofL (flat ps')] = lines ++ (rowsF [c] W N (flat (ps ++ qs))).map ofL
  | [], ps, lines, N, G, hinv, hN => by
    rw [List.append_nil] at G ⊢
    exact ⟨lines, ps, rfl, by rw [rows_one hc G hinv]; rfl⟩
  | q :: qs, ps, lines, N, G, hinv, hN => by
    have e1 : ps ++ q :: qs = (ps ++ [q]) ++ qs := by simp
    rw [e1] at G hN ⊢
    rw [List.foldl_cons]
    by_cases h1 : (flat (ps ++ [q])).length ≤ W
    · have := chunk_fit (c := c) (lines := lines) (i := 0) (ps := ps) (q := q) (W := W) (by (exact om347 h1))
      rw [show ((0 : Nat) : Int) = 0 from rfl] at this
      rw [this]
      exact claimR hc qs (ps ++ [q]) lines N G (.inl h1) hN
    · cases hf : findAll [c] (ps ++ [q]) with
      | none =>
        rw [chunk_none0 h1 hf]
        rw [findAll_one] at hf
        exact claimR hc qs (ps ++ [q]) lines N G (.inr fun j j1 j2 => findK_noneP hf j j1 (by (exact om348 j2))) hN
      | some k =>
        have := chunk_hit (c := c) (lines := lines) (i := 0) (ps := ps) (q := q) (W := W) (k := k) (by (exact om349 h1)) hf
        rw [show ((0 : Nat) : Int) = 0 from rfl] at this
        rw [this]
        rw [findAll_one] at hf
        obtain ⟨k1, k2, kh, kl⟩ := findK_someP hf
        have hl1 : (ps ++ [q]).length = ps.length + 1 := by simp
        have hkL : k < (ps ++ [q] ++ qs).length := by rw [List.length_append, hl1]; (exact om350 k2 hl1)
        have hlen : (flat (ps ++ [q])).length ≤ (flat (ps ++ [q] ++ qs)).length := by rw [flat_append (ps ++ [q]), List.length_append]; (exact om241)
        obtain ⟨N', rfl⟩ : ∃ N', N = N' + 1 := ⟨N - 1, by (exact om351 hN h1 hlen)⟩
        have hd1 : (ps ++ [q] ++ qs).drop k = (ps ++ [q]).drop k ++ qs := List.drop_append_of_le_length (by (exact om352 k2 hl1))
        have ht1 : (ps ++ [q] ++ qs).take k = (ps ++ [q]).take k := List.take_append_of_le_length (by (exact om352 k2 hl1))
        have hLl : ps.length + 1 ≤ (ps ++ [q] ++ qs).length := by rw [List.length_append, hl1]; (exact om353)
        have pPs : posP (ps ++ [q] ++ qs) ps.length = (flat ps).length := by rw [pos_append (by (exact om354 hl1)), pos_append (Nat.le_refl _), pos_all]
        have pPs1 : posP (ps ++ [q] ++ qs) (ps.length + 1) = (flat (ps ++ [q])).length := by rw [pos_append (by (exact om355 hl1)), ← hl1, pos_all]
        have hcut := rows_cut (N := N') (W := W) hc G k1 hkL (by rw [hitAt_append (by (exact om356 k2 hl1))]; exact kh) (by (exact om357 h1 hlen pPs1)) (by
          by_cases hw : (flat ps).length ≤ W
          · left
            refine ⟨?_, fun j j1 j2 hj => ?_⟩
            · have := pos_le G.all (show k ≤ ps.length by (exact om304 k2 hl1)) (by (exact Nat.le_of_lt (by assumption))); (exact om358 pPs hw this)
            · rcases Nat.lt_or_ge ps.length j with q1 | q1
              · have := pos_le G.all (show ps.length + 1 ≤ j by assumption) (Nat.le_of_lt j2); (exact om359 h1 pPs1 this)
              · rw [hitAt_append (by (exact om360 hl1 q1)), kl j j1 (by (exact om361 hl1 q1))] at hj; cases hj
          · right
            have hn := hinv.resolve_left hw
            have hk : k = ps.length := by
              rcases Nat.lt_or_ge k ps.length with q1 | q1
              · rw [hitAt_append q1, hn k k1 q1] at kh; cases kh
              · (exact om362 k2 hl1 q1)
            subst hk
            refine ⟨by (exact om363 pPs hw), fun j j1 j2 => ?_⟩
            rw [hitAt_append (by (exact om364 hl1 j2)), hitAt_append j2]
            exact hn j j1 j2)
        have hpk : 1 ≤ posP (ps ++ [q] ++ qs) k := by
          have := pos_mono G.all (show 0 < k by assumption) (Nat.le_of_lt hkL); assumption
        obtain ⟨lines', ps', r1, r2⟩ := claimR hc qs ((ps ++ [q]).drop k) (lines ++ [ofL (flat ((ps ++ [q]).take k))]) N' (by rw [← hd1]; exact G.drop k) (.inr fun j j1 j2 => by
          rw [hitAt_drop j1]
          rw [List.length_drop] at j2
          exact kl (k + j) (by (exact om365 j1)) (by (exact om366 hl1 j1 j2))) (by
          rw [← hd1, ← (flat_cut _ k).2, List.length_drop]; (exact om367 hN hpk))
        refine ⟨lines', ps', r1, ?_⟩
        rw [r2, hcut, ht1, hd1]
        simp
theorem phase0 (hc : c = 32 ∨ c = 44 ∨ c = 9) {hd : Nat} (h0 : 0 < hd) : ∀ (qs ps : List (Str × Str)), Good (ps ++ qs) → (ps = [] ∨ hd + (flat ps).length ≤ W) → ps ++ qs ≠ [] →
    ∃ lines' ps' i', qs.foldl (chunk (W : Int) [c]) ([], ps, (hd : Int)) = (lines', ps', i') ∧ lines' ++ [ofL (flat ps')] = (lawRows [c] (flat (ps ++ qs)) W hd).map ofL
  | [], ps, G, hinv, hne => by
    rw [List.append_nil] at G hne ⊢
    have h := hinv.resolve_left hne
    refine ⟨[], ps, _, rfl, ?_⟩
    unfold lawRows
    rw [if_neg (by (exact om368 h)), rows_one hc G (.inl (by (exact om369 h0 h)))]
    rfl
  | q :: qs, ps, G, hinv, hne => by
    have e1 : ps ++ q :: qs = (ps ++ [q]) ++ qs := by simp
    rw [e1] at G hne ⊢
    rw [List.foldl_cons]
    have hl1 : (ps ++ [q]).length = ps.length + 1 := by simp
    have hlen : (flat (ps ++ [q])).length ≤ (flat (ps ++ [q] ++ qs)).length := by rw [flat_append (ps ++ [q]), List.length_append]; (exact om241)
    have hLl : ps.length + 1 ≤ (ps ++ [q] ++ qs).length := by rw [List.length_append, hl1]; (exact om353)
    have pPs : posP (ps ++ [q] ++ qs) ps.length = (flat ps).length := by rw [pos_append (by (exact om354 hl1)), pos_append (Nat.le_refl _), pos_all]
    have pPs1 : posP (ps ++ [q] ++ qs) (ps.length + 1) = (flat (ps ++ [q])).length := by rw [pos_append (by (exact om355 hl1)), ← hl1, pos_all]
    by_cases h1 : hd + (flat (ps ++ [q])).length ≤ W
    · rw [chunk_fit h1]
      exact phase0 hc h0 qs (ps ++ [q]) G (.inr h1) hne
    · have far : ∀ j, ps.length < j → j < (ps ++ [q] ++ qs).length → W + 1 - hd ≤ posP (ps ++ [q] ++ qs) j := fun j j1 j2 => by
        have := pos_le G.all (show ps.length + 1 ≤ j by assumption) (Nat.le_of_lt j2); (exact om370 pPs1 h1 this)
      have hlaw : ∀ p, headPlace [c] (W + 1 - hd) (flat (ps ++ [q] ++ qs)) = p → lawRows [c] (flat (ps ++ [q] ++ qs)) W hd = (flat (ps ++ [q] ++ qs)).take p :: rowsF [c] W ((flat (ps ++ [q] ++ qs)).length + 1) (headRest (flat (ps ++ [q] ++ qs)) p) := fun p hp => by
        unfold lawRows
        rw [if_pos ⟨h0, by (exact om371 hlen pPs1 h1)⟩, hp]
      cases hf : findAll [c] (ps ++ [q]) with
      | some k =>
        rw [chunk_hit h1 hf]
        rw [findAll_one] at hf
        obtain ⟨k1, k2, kh, kl⟩ := findK_someP hf
        have hkL : k < (ps ++ [q] ++ qs).length := by rw [List.length_append, hl1]; (exact om372 hl1 k2)
        have hps : ps ≠ [] := by rintro rfl; simp at k2; (exact om373 k1 k2)
        have hfit := hinv.resolve_left hps
        have hd1 : (ps ++ [q] ++ qs).drop k = (ps ++ [q]).drop k ++ qs := List.drop_append_of_le_length (by (exact om374 hl1 k2))
        have ht1 : (ps ++ [q] ++ qs).take k = (ps ++ [q]).take k := List.take_append_of_le_length (by (exact om374 hl1 k2))
        have hpl : headPlace [c] (W + 1 - hd) (flat (ps ++ [q] ++ qs)) = posP (ps ++ [q] ++ qs) k := by
          unfold headPlace
          rw [lb_some hc G k1 hkL (by rw [hitAt_append (by (exact om375 hl1 k2))]; exact kh) (by
            have := pos_le G.all (show k ≤ ps.length by (exact om376 hl1 k2)) (by (exact Nat.le_of_lt (by assumption))); (exact om377 pPs hfit this)) fun j j1 j2 hj => by
            rcases Nat.lt_or_ge ps.length j with q1 | q1
            · exact far j q1 j2
            · rw [hitAt_append (by (exact om360 hl1 q1)), kl j j1 (by (exact om361 hl1 q1))] at hj; cases hj]
          rfl
        obtain ⟨lines', ps', r1, r2⟩ := claimR (W := W) hc qs ((ps ++ [q]).drop k) ([] ++ [ofL (flat ((ps ++ [q]).take k))]) ((flat (ps ++ [q] ++ qs)).length + 1) (by rw [← hd1]; exact G.drop k) (.inr fun j j1 j2 => by
          rw [hitAt_drop j1]
          rw [List.length_drop] at j2
          exact kl (k + j) (by (exact om365 j1)) (by (exact om366 hl1 j1 j2))) (by
          rw [← hd1, ← (flat_cut _ k).2, List.length_drop]; (exact om378 hpl))
        refine ⟨lines', ps', 0, r1, ?_⟩
        have hrest : headRest (flat (ps ++ [q] ++ qs)) (posP (ps ++ [q] ++ qs) k) = flat ((ps ++ [q]).drop k ++ qs) := by
          rw [← hd1, ← (flat_cut _ k).2]
          have e2 : (ps ++ [q] ++ qs).drop k = (ps ++ [q] ++ qs)[k] :: (ps ++ [q] ++ qs).drop (k + 1) := List.drop_eq_getElem_cons hkL
          have mt : (ps ++ [q] ++ qs)[k] ∈ (ps ++ [q] ++ qs).tail := by
            rw [← List.drop_one]
            refine List.mem_iff_getElem?.mpr ⟨k - 1, ?_⟩
            rw [List.getElem?_drop, show 1 + (k - 1) = k by (exact om379 k1)]
            exact List.getElem?_eq_getElem hkL
          obtain ⟨hh, f1, f2⟩ := flat_head (r := (ps ++ [q] ++ qs).drop (k + 1)) (G.all _ (List.getElem_mem hkL)) (G.tail _ mt)
          refine headRest_white (h := hh) ?_ f2
          rw [(flat_cut _ k).2, e2]
          exact f1
        rw [r2, hlaw _ hpl, hrest, (flat_cut _ k).1, ht1]
        simp
      | none =>
        rw [chunk_none1 h0 h1 hf]
        rw [findAll_one] at hf
        have no := fun j j1 j2 => findK_noneP hf j j1 j2
        have hn1 : lastBelow [c] (flat (ps ++ [q] ++ qs)) (W + 1 - hd) = none := lb_none hc G fun j j1 j2 hj => by
          rcases Nat.lt_or_ge ps.length j with q1 | q1
          · exact far j q1 j2
          · rw [hitAt_append (by (exact om360 hl1 q1)), no j j1 (by (exact om361 hl1 q1))] at hj; cases hj
        have hpl : headPlace [c] (W + 1 - hd) (flat (ps ++ [q] ++ qs)) = posP (ps ++ [q] ++ qs) ps.length := by
          unfold headPlace
          rw [hn1]
          by_cases hps : ps = []
          · subst hps
            rw [lbe_none G fun j j1 j2 => far j (by show 0 < j; assumption) j2]
            rfl
          · have hfit := hinv.resolve_left hps
            have hpos : 1 ≤ ps.length := List.length_pos_iff.mpr hps
            rw [lbe_some G hpos (by rw [List.length_append, hl1]; (exact om380)) (by (exact om381 pPs hfit)) far]
            rfl
        have mq : q ∈ ps ++ [q] ++ qs := by simp
        have wq := G.all q mq
        have hdr : (ps ++ [q] ++ qs).drop ps.length = q :: qs := by
          rw [← e1]; exact List.drop_left' rfl
        have htk : (ps ++ [q] ++ qs).take ps.length = ps := by
          rw [← e1]; exact List.take_left' rfl
        have Gq : Good (q :: qs) := hdr ▸ G.drop ps.length
        generalize hq' : ((if q.1 = ofL [] then ofL [32] else q.1, q.2) : Str × Str) = q'
        have hrest : headRest (flat (ps ++ [q] ++ qs)) (posP (ps ++ [q] ++ qs) ps.length) = flat (q' :: qs) := by
          have hdd : (flat (ps ++ [q] ++ qs)).drop (posP (ps ++ [q] ++ qs) ps.length) = flat (q :: qs) := by rw [(flat_cut _ _).2, hdr]
          by_cases hw : tx q.1 = []
          · obtain ⟨hh, f1, f2⟩ := flat_head0 (r := qs) wq hw
            rw [headRest_plain (h := hh) (by rw [hdd]; exact f1) f2, hdd, ← hq', if_pos ((ofL_nil_iff _).mpr hw), flat_cons, flat_cons, hw]
            rfl
          · obtain ⟨hh, f1, f2⟩ := flat_head (r := qs) wq hw
            rw [headRest_white (h := hh) (by rw [hdd]; exact f1) f2, hdd, ← hq', if_neg (fun z => hw ((ofL_nil_iff _).mp z))]
        have Gq' : Good ([q'] ++ qs) := by
          refine ⟨fun x hx => ?_, fun x hx => Gq.tail x (by simpa using hx)⟩
          cases hx with
          | head =>
            rw [← hq']
            refine ⟨fun d hd => ?_, wq.n, wq.ne⟩
            dsimp only at hd
            split at hd
            · have : d ∈ [32] := hd
              rw [List.mem_singleton] at this; subst this; rfl
            · exact wq.w d hd
          | tail _ hx => exact Gq.all x (.tail _ hx)
        have hlen' : (flat ([q'] ++ qs)).length ≤ (flat (ps ++ [q] ++ qs)).length + 1 := by
          rw [show [q'] ++ qs = q' :: qs from rfl, ← hrest]
          unfold headRest
          have hz := List.length_drop (i := posP (ps ++ [q] ++ qs) ps.length) (l := flat (ps ++ [q] ++ qs))
          split
          · simp
          · rename_i e; rw [e] at hz; simp only [List.length_cons] at hz; split <;> simp only [List.length_cons] <;> lia
        obtain ⟨lines', ps', r1, r2⟩ := claimR (W := W) hc qs [q'] ([] ++ [ofL (flat ps)]) ((flat (ps ++ [q] ++ qs)).length + 1) Gq' (.inr fun j j1 j2 => by simp at j2; (exact (om384 j1 j2).elim)) hlen'
        refine ⟨lines', ps', 0, r1, ?_⟩
        rw [r2, hlaw _ hpl, hrest, (flat_cut _ _).1, htk]
        simp
end Mine
end

section
open PySem PySem.W PySem.Calls PyProof.Rows
set_option maxRecDepth 100000
set_option maxHeartbeats 8000000
namespace Mine
structure GoodL (P : List (List Nat × List Nat)) : Prop where
  all : ∀ p ∈ P, (∀ c ∈ p.1, isW c = true) ∧ (∀ c ∈ p.2, isW c = false) ∧ p.2 ≠ []
  tail : ∀ p ∈ P.tail, p.1 ≠ []
  last : ∃ p, P.getLast? = some p ∧ p.2.getLast? = some 97
theorem pairs_flat (T : List Nat) : (pairs T).flatMap (fun p => p.1 ++ p.2) = T := by
  induction T with
  | nil => rfl
  | cons c l ih =>
    unfold pairs
    cases hc : isW c with
    | true =>
      rw [if_pos rfl]
      cases hp : pairs l with
      | nil => rw [pairs_nil hp]; rfl
      | cons p r =>
        obtain ⟨w, n⟩ := p
        rw [hp] at ih
        rw [← ih]
        rfl
    | false =>
      rw [if_neg (by decide)]
      cases hp : pairs l with
      | nil => rw [pairs_nil hp]; rfl
      | cons p r =>
        obtain ⟨w, n⟩ := p
        rw [hp] at ih
        rw [← ih]
        cases w with
        | nil => rfl
        | cons x w => rfl
theorem pairs_good : ∀ T0 : List Nat, GoodL (pairs (T0 ++ [97]))
  | [] => by
    refine ⟨fun p hp => ?_, fun p hp => ?_, ⟨([], [97]), rfl, rfl⟩⟩
    · have hp' : p ∈ [(([] : List Nat), [97])] := hp
      rw [List.mem_singleton] at hp'
      subst hp'
      refine ⟨(fun c hc => nomatch hc), fun c hc => ?_, by decide⟩
      have hc' : c ∈ [97] := hc
      rw [List.mem_singleton] at hc'
      subst hc'
      rfl
    · have hp' : p ∈ ([] : List (List Nat × List Nat)) := hp
      cases hp'
  | c :: l => by
    obtain ⟨h1, h2, ⟨z, hz1, hz2⟩⟩ := pairs_good l
    rw [List.cons_append]
    unfold pairs
    cases hp : pairs (l ++ [97]) with
    | nil => rw [hp] at hz1; cases hz1
    | cons p r =>
      obtain ⟨w, n⟩ := p
      rw [hp] at h1 h2 hz1
      obtain ⟨a1, a2, a3⟩ := h1 _ (.head _)
      cases hc : isW c with
      | true =>
        rw [if_pos rfl]
        refine ⟨fun p hp => ?_, h2, ?_⟩
        · cases hp with
          | head =>
            refine ⟨fun d hd => ?_, a2, a3⟩
            cases hd with
            | head => exact hc
            | tail _ hd => exact a1 d hd
          | tail _ hp => exact h1 p (.tail _ hp)
        · cases r with
          | nil => cases hz1; exact ⟨_, rfl, hz2⟩
          | cons p2 r => exact ⟨z, by rw [List.getLast?_cons_cons] at hz1 ⊢; exact hz1, hz2⟩
      | false =>
        rw [if_neg (by decide)]
        cases w with
        | nil =>
          refine ⟨fun p hp => ?_, h2, ?_⟩
          · cases hp with
            | head =>
              refine ⟨(fun d hd => nomatch hd), fun d hd => ?_, List.cons_ne_nil _ _⟩
              cases hd with
              | head => exact hc
              | tail _ hd => exact a2 d hd
            | tail _ hp => exact h1 p (.tail _ hp)
          · cases r with
            | nil =>
              cases hz1
              refine ⟨_, rfl, ?_⟩
              cases n with
              | nil => cases hz2
              | cons x n =>
                show (c :: x :: n).getLast? = some 97
                rw [List.getLast?_cons_cons]; exact hz2
            | cons p2 r => exact ⟨z, by rw [List.getLast?_cons_cons] at hz1 ⊢; exact hz1, hz2⟩
        | cons x w =>
          refine ⟨fun p hp => ?_, fun p hp => ?_, ?_⟩
          · cases hp with
            | head =>
              refine ⟨(fun d hd => nomatch hd), fun d hd => ?_, List.cons_ne_nil _ _⟩
              cases hd with
              | head => exact hc
              | tail _ hd => cases hd
            | tail _ hp => exact h1 p hp
          · cases hp with
            | head => exact List.cons_ne_nil _ _
            | tail _ hp => exact h2 p hp
          · exact ⟨z, by show (([], [c]) :: (x :: w, n) :: r).getLast? = some z; rw [List.getLast?_cons_cons]; exact hz1, hz2⟩
theorem qs_flat (T : List Nat) : flat (qsOf T) = T := by
  unfold qsOf flat
  rw [List.flatMap_map]
  exact pairs_flat T
theorem qs_good (T0 : List Nat) : Good (qsOf (T0 ++ [97])) := by
  obtain ⟨h1, h2, _⟩ := pairs_good T0
  refine ⟨fun q hq => ?_, fun q hq => ?_⟩
  · obtain ⟨p, hp, rfl⟩ := List.mem_map.mp hq
    obtain ⟨a, b, d⟩ := h1 p hp
    exact ⟨a, b, d⟩
  · unfold qsOf at hq
    rw [← List.map_tail] at hq
    obtain ⟨p, hp, rfl⟩ := List.mem_map.mp hq
    exact h2 p hp
theorem qs_last (T0 : List Nat) : ∃ q, (qsOf (T0 ++ [97])).getLast? = some q ∧ (tx q.2).getLast? = some 97 := by
  obtain ⟨_, _, ⟨p, e1, e2⟩⟩ := pairs_good T0
  unfold qsOf
  rw [List.getLast?_map, e1]
  exact ⟨_, rfl, e2⟩
theorem parts_ne {T : List Nat} (hT : ∃ T0, T = T0 ++ [97]) : ∀ q ∈ qsOf T, q.2 ≠ ofL [] := by
  obtain ⟨T0, rfl⟩ := hT
  exact fun q hq e => ((qs_good T0).all q hq).ne ((ofL_nil_iff _).mp e)
noncomputable def linesLen (l : List Str) : Nat := (l.map (·.length)).sum
theorem linesLen_snoc (l : List Str) (x : Str) : linesLen (l ++ [x]) = linesLen l + x.length := by simp [linesLen]
theorem chunk_extra {W : Int} {c : Nat} {lines lines' : List Str} {ps ps' : List (Str × Str)} {i i' : Int} {q : Str × Str} (h : chunk W [c] (lines, ps, i) q = (lines', ps', i')) :
    linesLen lines' + (flat ps').length ≤ linesLen lines + (flat ps).length + (tx q.1 ++ tx q.2).length + 1 ∧ lines'.length ≤ lines.length + 1 ∧ ps'.length ≤ ps.length + 1 ∧ (i' = i ∨ i' = 0) ∧ ((∀ x ∈ ps ++ [q], x.2 ≠ ofL []) → ∀ x ∈ ps', x.2 ≠ ofL []) ∧ ∃ q', ps'.getLast? = some q' ∧ q'.2 = q.2 := by
  obtain ⟨b1, b2, b3, _, b5⟩ := chunk_bound h
  have e : (flat (ps ++ [q])).length = (flat ps).length + (tx q.1 ++ tx q.2).length := by rw [flat_append, List.length_append, flat_cons]; simp [flat]
  refine ⟨?_, b1, b2, b3, b5, ?_⟩
  · unfold chunk at h
    dsimp only at h
    split at h
    · cases h; (exact om301 e)
    · split at h
      · rename_i k hk
        cases h
        rw [linesLen_snoc, ofL_len]
        have : flat (ps ++ [q]) = flat ((ps ++ [q]).take k) ++ flat ((ps ++ [q]).drop k) := by rw [← flat_append, List.take_append_drop]
        rw [this, List.length_append] at e
        (exact om302 e)
      · split at h
        · cases h
          rw [linesLen_snoc, ofL_len, flat_cons]
          rw [List.length_append]
          split
          · rename_i e1
            have := (ofL_nil_iff _).mp e1
            rw [this]
            simp [flat, tx, ofL]
            (exact om303)
          · simp [flat] <;> omega
        · cases h; (exact om301 e)
  · unfold chunk at h
    dsimp only at h
    split at h
    · cases h; exact ⟨q, by simp, rfl⟩
    · split at h
      · rename_i k hk
        cases h
        rw [findAll_one] at hk
        obtain ⟨k1, k2, _⟩ := findK_someP hk
        have hl1 : (ps ++ [q]).length = ps.length + 1 := by simp
        refine ⟨q, ?_, rfl⟩
        rw [List.drop_append_of_le_length (by (exact om304 k2 hl1))]
        simp
      · split at h
        · cases h; exact ⟨_, rfl, rfl⟩
        · cases h; exact ⟨q, by simp, rfl⟩
theorem fold_extra {W : Int} {c : Nat} : ∀ {qs : List (Str × Str)} {lines lines' : List Str} {ps ps' : List (Str × Str)} {i i' : Int}, qs.foldl (chunk W [c]) (lines, ps, i) = (lines', ps', i') →
    linesLen lines' + (flat ps').length ≤ linesLen lines + (flat ps).length + (flat qs).length + qs.length ∧ lines'.length ≤ lines.length + qs.length ∧ ps'.length ≤ ps.length + qs.length ∧ (i' = i ∨ i' = 0) ∧ ((∀ x ∈ ps ++ qs, x.2 ≠ ofL []) → ∀ x ∈ ps', x.2 ≠ ofL []) ∧ ∀ q, qs.getLast? = some q → ∃ q', ps'.getLast? = some q' ∧ q'.2 = q.2
  | [], lines, lines', ps, ps', i, i', h => by
    cases h
    exact ⟨by (exact Nat.le_refl _), by simp, by simp, .inl rfl, fun h x hx => h x (by simpa using hx), fun q hq => nomatch hq⟩
  | q :: qs, lines, lines', ps, ps', i, i', h => by
    rw [List.foldl_cons] at h
    generalize e : chunk W [c] (lines, ps, i) q = st at h
    obtain ⟨l1, p1, i1⟩ := st
    obtain ⟨a1, a2, a3, a4, a5, a6⟩ := chunk_extra e
    obtain ⟨b1, b2, b3, b4, b5, b6⟩ := fold_extra h
    have ef : (flat (q :: qs)).length = (tx q.1 ++ tx q.2).length + (flat qs).length := by rw [flat_cons, List.length_append]
    have el : (q :: qs).length = qs.length + 1 := rfl
    refine ⟨by (exact om305 a1 b1 ef el), by (exact om306 a2 b2 el), by (exact om306 a3 b3 el), ?_, fun hx => ?_, fun z hz => ?_⟩
    · rcases b4 with rfl | rfl
      · exact a4
      · exact .inr rfl
    · have h5 := a5 fun x hx' => hx x (by
        rw [List.mem_append, List.mem_singleton] at hx'
        rcases hx' with hx' | rfl
        · exact List.mem_append_left _ hx'
        · exact List.mem_append_right _ (.head _))
      exact b5 fun x hx' => by
        rcases List.mem_append.mp hx' with hx' | hx'
        · exact h5 x hx'
        · exact hx x (List.mem_append_right _ (.tail _ hx'))
    · cases qs with
      | nil =>
        cases hz
        cases h
        exact a6
      | cons q2 qs =>
        rw [List.getLast?_cons_cons] at hz
        exact b6 z hz
theorem pure_law {T : List Nat} {c W hd : Nat} (hT : ∃ T0, T = T0 ++ [97]) (hc : c = 32 ∨ c = 44 ∨ c = 9) (hW : 2 ≤ W ∧ W ≤ 8) (hhd : hd ≤ 3) (hlen : T.length ≤ 37) {lines : List Str} {ps : List (Str × Str)} {i : Int} (e : (qsOf T).foldl (chunk (W : Int) [c]) ([], [], (hd : Int)) = (lines, ps, i)) :
    lines ++ [ofL (flat ps)] = (lawRows [c] T W hd).map ofL ∧ 0 ≤ i ∧ i ≤ 3 ∧ (∀ q, ps.getLast? = some q → q.2 ≠ ofL []) ∧ 0 < i + sizes ps ∧ (i ≠ 0 ∨ Txt.isspace (ofL (flat ps)) = false) ∧ ps.length ≤ 100 ∧ sizes ps ≤ 1000 ∧ lines.length ≤ 100 ∧ JoinOk (ofL [10]) (lines ++ [ofL (flat ps)]) = true := by
  have hne := parts_ne hT
  obtain ⟨T0, rfl⟩ := hT
  have G := qs_good T0
  obtain ⟨ql, hq1, hq2⟩ := qs_last T0
  obtain ⟨b1, b2, b3, b4, b5, b6⟩ := fold_extra e
  have hqs : (qsOf (T0 ++ [97])).length ≤ (T0 ++ [97]).length := by
    unfold qsOf
    rw [List.length_map]
    exact pairs_length _
  have hfl := qs_flat (T0 ++ [97])
  rw [hfl] at b1
  have b0 : linesLen [] + (flat []).length = 0 := rfl
  have hb5 := b5 (by simpa using hne)
  obtain ⟨q', l1, l2⟩ := b6 ql hq1
  have hm : q' ∈ ps := List.mem_of_getLast? l1
  have h97 : 97 ∈ flat ps := by
    unfold flat
    refine List.mem_flatMap.mpr ⟨q', hm, List.mem_append_right _ ?_⟩
    rw [l2]
    exact List.mem_of_getLast? hq2
  have hpos : 1 ≤ (flat ps).length := List.length_pos_of_mem h97
  have hsz := sizes_flat ps
  have hi : 0 ≤ i ∧ i ≤ 3 := by rcases b4 with rfl | rfl <;> lia
  simp only [List.length_nil] at b2 b3
  refine ⟨?_, hi.1, hi.2, fun q hq => hb5 q (List.mem_of_getLast? hq), by (exact om309 hpos hsz hi), .inr ?_, by (exact om310 hlen b3 hqs), by (exact om311 hlen b1 hqs b0 hsz), by (exact om310 hlen b2 hqs), ?_⟩
  · rcases Nat.eq_zero_or_pos hd with rfl | h0
    · obtain ⟨lines', ps', r1, r2⟩ := claimR (W := W) hc (qsOf (T0 ++ [97])) [] [] (T0 ++ [97]).length (by simpa using G) (.inl (by simp [flat])) (by rw [List.nil_append, hfl]; exact Nat.le_refl _)
      rw [show ((0 : Nat) : Int) = 0 from rfl, r1] at e
      cases e
      rw [r2, List.nil_append, List.nil_append, hfl]
      unfold lawRows
      rw [if_neg (by (exact om312))]
    · obtain ⟨lines', ps', i', r1, r2⟩ := phase0 (W := W) hc h0 (qsOf (T0 ++ [97])) [] (by simpa using G) (.inl rfl) (by
        intro z
        rw [List.nil_append] at z
        rw [z] at hq1; cases hq1)
      rw [r1] at e
      cases e
      rw [r2, List.nil_append, hfl]
  · unfold Txt.isspace
    rw [Bool.and_eq_false_iff]
    right
    rw [Bool.eq_false_iff]
    intro hall
    have := (Array.all_eq_true'.mp hall) 97 (by simpa [ofL] using h97)
    revert this
    decide
  · refine joinOk_of ?_
    refine Nat.le_trans (show _ ≤ 1000 from ?_) (show (1000 : Nat) ≤ sizeLine by decide)
    show linesLen (lines ++ [ofL (flat ps)]) + _ * 1 ≤ 1000
    rw [linesLen_snoc, ofL_len, List.length_append]
    simp only [List.length_cons, List.length_nil]
    (exact om313 hlen b1 b2 hqs b0 hsz)
end Mine
end

section
open PySem PySem.W PySem.Calls PyProof.Rows
set_option maxRecDepth 100000
set_option maxHeartbeats 8000000
namespace Mine
noncomputable def pieceT : Nat → List Nat
  | 0 => [97]
  | 1 => [98]
  | 2 => [44]
  | 3 => [32]
  | 4 => [9]
  | 5 => [44, 32]
  | 6 => [32, 9]
  | _ => [97, 98]
noncomputable def pieceOf (n : Int) : List Nat := pieceT (n.fmod 8).toNat
noncomputable def lawNums (ns : List Int) : List Int := ns.take 5 ++ [0, 3, 1, 3, 7, 1, 4, 7, 2, 7, 3, 0, 3]
noncomputable def lawText (ns : List Int) : List Nat := (lawNums ns).flatMap pieceOf ++ [97]
theorem pieceT_len (n : Nat) : (pieceT n).length ≤ 2 := by
  unfold pieceT
  split <;> decide
theorem flatMap_len {l : List Int} : (l.flatMap pieceOf).length ≤ 2 * l.length := by
  induction l with
  | nil => exact Nat.le_refl _
  | cons a l ih =>
    rw [List.flatMap_cons, List.length_append, List.length_cons]
    have := pieceT_len (a.fmod 8).toNat
    show (pieceT (a.fmod 8).toNat).length + _ ≤ _
    (exact om263 ih this)
theorem lawText_len (ns : List Int) : (lawText ns).length ≤ 37 := by
  unfold lawText
  rw [List.length_append]
  have := flatMap_len (l := lawNums ns)
  have h2 : (lawNums ns).length ≤ 18 := by
    unfold lawNums
    rw [List.length_append, List.length_take]
    simp only [List.length_cons, List.length_nil]
    (exact om264)
  simp only [List.length_cons, List.length_nil]
  (exact om265 this h2)
theorem fmod8 (n : Int) : 0 ≤ n.fmod 8 ∧ n.fmod 8 < 8 := ⟨Int.fmod_nonneg_of_pos n (by decide), Int.fmod_lt_of_pos n (by decide)⟩
theorem paired_pieces : ∀ {vs : List Value} {ns : List Int} {ys : List Value}, IntsAre vs ns → Paired (fun v y => ∃ n t u, v = Value.int n t ∧ y = Value.str (ofL (pieceOf n)) u) vs ys →
    ∃ ll : List (Str × Tok), ys = strValues ll ∧ ll.map (·.1) = ns.map fun n => ofL (pieceOf n)
  | _, _, _, .nil, .nil => ⟨[], rfl, rfl⟩
  | _, _, _, .cons n t r, .cons h p => by
    obtain ⟨ll, rfl, e⟩ := paired_pieces r p
    obtain ⟨n', t', u, e1, rfl⟩ := h
    cases e1
    exact ⟨(ofL (pieceOf n), u) :: ll, rfl, by simp [e]⟩
theorem CodesIn.nil {qf : Nat → Str} {h : Heap} : CodesIn qf #[] h := ⟨by trivial, fun pos cv e => by cases e⟩
theorem ints_nth {vs : List Value} {ns : List Int} (h : IntsAre vs ns) : ∀ (j : Nat) v, vs[j]? = some v → ∃ n t, v = .int n t := by
  induction h with
  | nil => intro j v e; simp at e
  | cons n t r ih =>
    intro j v e
    cases j with
    | zero => simp at e; exact ⟨n, t, e.symm⟩
    | succ j => simp at e; exact ih j v e
theorem slice5 {vs : List Value} {ns : List Int} (hi : IntsAre vs ns) : IntsAre (slicePick vs.toArray none (some 5) none).toList (ns.take 5) := by
  by_cases h : 5 ≤ ns.length
  · exact slice_ints_upto hi (y := 5) (by decide) (by (exact om266 h))
  · have hl : vs.length = ns.length := hi.length
    have e : slicePick vs.toArray none (some 5) none = slicePick vs.toArray none (some (ns.length : Int)) none := by
      unfold slicePick sliceBounds
      rw [List.size_toArray, hl]
      have e1 : ¬ ((5 : Int) < 0) := by decide
      have e2 : ¬ ((ns.length : Int) < 0) := by (exact om267 h hl)
      have e3 : min (5 : Int) (ns.length : Int) = (ns.length : Int) := by (exact om268 h hl)
      have e4 : min (ns.length : Int) (ns.length : Int) = (ns.length : Int) := by (exact om269 hl e3)
      have e5 : (1 : Int) > 0 := by decide
      simp only [e1, e2, if_false, e3, e4, Option.getD_none, e5, if_true]
    rw [e, List.take_of_length_le (show ns.length ≤ 5 by (exact om270 h hl))]
    have := slice_ints_upto hi (y := (ns.length : Int)) (by (exact Int.natCast_nonneg _)) (by (exact om271))
    rwa [show ((ns.length : Int)).toNat = ns.length from rfl, List.take_of_length_le (Nat.le_refl _)] at this
section
variable {w : World} {A : Around} {E : Value → Shared → Prop} {s s' : Shared} {g : Heap} {ws : List Addr} {s₀ : Shared} {L : Addr} {m : Str → Option Value} {news : List (Addr × Obj)} {cn : Str} {cs : Scope} {a : Addr} {ccd : Value} {cl : List (Str × Addr)}
theorem starEach_int {env : Env} {i : Int} {k : Nat} {p : Pos} {rest : List Expr} : starEach (.Constant (.int i) k p :: rest) env = (false, eval (.Constant (.int i) k p) env) :: starEach rest env := by rfl
theorem spliced_int {env : Env} {i : Int} {k : Nat} {p : Pos} {rest : List Expr} {pos : Pos} {Q : List Value → Shared → Prop} (c : Cx w g ws s₀ L m news s)
    (h : ∀ s' t, Cx w g ws s₀ L m news s' → s'.heap = s.heap → wpAny (model PG w) A (spliced (backTo pos (starEach rest env))) (fun vs s₂ => Q (.int i t :: vs) s₂) E s') :
    wpAny (model PG w) A (spliced (backTo pos (starEach (.Constant (.int i) k p :: rest) env))) Q E s :=
  spliced_more (c_intK c fun s' t c' e' => h s' t c' e') starEach_int
theorem c_sum {l : Addr} {vs : List Value} {ns : List Int} {Q : Value → Shared → Prop} (c : Cx w g ws s₀ L m news s) (hh : A.handled = none) (hl : s.heap.IsList l vs.toArray) (hi : IntsAre vs ns)
    (h : ∀ s' t', Cx w g ws s₀ L m news s' → (∀ b o, s.heap.get? b = some o → s'.heap.get? b = some o) → Q (.int ns.sum t') s') : wpAny (model PG w) A (call (.builtin "sum") [.ref l]) Q E s := by
  obtain ⟨xs, hx⟩ := hi.allInts.items
  have hl' : s.heap.IsList l (intItems xs) := hx ▸ hl
  refine sum_intListG hh hl' fun h' tk t' hk => ?_
  have e1 : ns = xs.toList.map (·.1) := by
    rw [← nums_intItems, ← hx]
    exact (show numsOf vs.toArray.toList = ns from hi.numsOf).symm
  have e2 : preSum (numAt xs) xs.size = ns.sum := by
    rw [preSum_eq, List.take_of_length_le (by simp), e1]
  rw [e2]
  exact h { s with heap := h', toks := tk } t' (c.ext hk rfl rfl) hk
theorem FmAt.keepK {h h' : Heap} {f fd ls a : Addr} {W : Int} {ws sp : Str} (F : FmAt h f fd ls a W ws sp) (k : ∀ b o, (b = f ∨ b = fd) → h.get? b = some o → h'.get? b = some o) : FmAt h' f fd ls a W ws sp := by
  obtain ⟨l1, l2, o1, p, o2⟩ := F
  exact ⟨l1, l2, k _ _ (.inl rfl) o1, p, k _ _ (.inr rfl) o2⟩
theorem AccAt.keepK {h h' : Heap} {a d : Addr} {its : Array Value} {n : Nat} {i : Int} (F : AccAt h a d its n i) (k : ∀ b o, (b = a ∨ b = d) → h.get? b = some o → h'.get? b = some o) : AccAt h' a d its n i := by
  obtain ⟨l1, l2, o1, p, q, r, o2⟩ := F
  exact ⟨l1, l2, k _ _ (.inl rfl) o1, p, q, r, k _ _ (.inr rfl) o2⟩
theorem LinesAt.keepK {h h' : Heap} {ls : Addr} {lines : List Str} (F : LinesAt h ls lines) (k : ∀ o, h.get? ls = some o → h'.get? ls = some o) : LinesAt h' ls lines := by
  obtain ⟨l1, l, n, o1, e⟩ := F
  exact ⟨l1, l, n, k _ o1, e⟩
theorem Cx.callUp {ws' : List Addr} (c : Cx w g ws s₀ L m news s) (S : St ws' s s') (O : Ok w s') (hw : ∀ a ∈ ws', a ≠ L ∧ g.get? a = none) (hn : ∀ p ∈ news, p.1 ∉ ws') : Cx w g ws s₀ L m news s' :=
  c.callH S O hw (fun p hp => ⟨S.keep _ _ (hn p hp) (c.hi p hp).not_tab (c.N p hp).1, (c.N p hp).2⟩) c.hi
theorem c_storeC {x : Str} {v : Value} {cc : Addr} {o : Obj} {v₀ : Option Value} {g' : Obj → List (Addr × Obj)} {Q : Unit → Shared → Prop} (c : Cx w g ws s₀ L m news s) (hc : cl.lookup x = some cc) (U : ∀ o', Upd cc o o' news (g' o')) (hb : (238 : Nat) ≤ cc) (hd : o.data = .cell v₀)
    (h : ∀ s' o', o'.data = .cell (some v) → Cx w g ws s₀ L m (g' o') s' → (∀ b ob, b ≠ cc → s.heap.get? b = some ob → s'.heap.get? b = some ob) → Q () s')
    (hk : cs.kind = .function := by rfl) (hx : (envX cn cs L a ccd cl).kindOf x = some .cell := by rfl) : wpAny (model PG w) A (storeName (envX cn cs L a ccd cl) x v) Q E s := by
  have hm : (cc, o) ∈ news := by
    obtain ⟨pre, post, rfl, _⟩ := (U o).split
    exact List.mem_append.mpr (.inr (.head _))
  refine wpAny_storeName_cell hk hx hc ⟨o, c.get hm, hd⟩ fun h' hv hs => ?_
  obtain ⟨o', ho', hd'⟩ := hv
  exact h { s with heap := h' } o' hd' (c.upd (U o') hb hs ho' rfl rfl) fun b ob hne e => hs.extBut b ob hne e
theorem l_to {value slice : Expr} {l : Addr} {items : Array Value} {k : Int} {uj : Tok} {Q : Value → Shared → Prop} (hl : s.heap.IsList l items) (hsz : items.size ≤ 1000)
    (h : ∀ h', (∀ b o, s.heap.get? b = some o → h'.get? b = some o) → h'.get? (s.heap.objs.size + 1) = some (listObj (slicePick items none (some k) none) 0) → Q (.ref (s.heap.objs.size + 1)) { s with heap := h' })
    (hs : subscripted slice false (.ref l) (.ref s.heap.objs.size) = operate [.ref s.heap.objs.size, .ref l] (getItem (.ref l) (.ref s.heap.objs.size)) := by with_unfolding_all rfl)
    (ht : ∀ r, letTemporaryGo value (.ref l) r = pure () := by intro _; with_unfolding_all rfl) :
    wpAny (model PG w) A (subscriptTail value slice (.ref l) (.ref s.heap.objs.size)) Q E { s with heap := s.heap.push { cls := .type "slice", data := .fields #[.none, .int k uj, .none] } } := by
  refine subscriptTail_ops (Heap.IsList.typeIs (s := { s with heap := s.heap.push { cls := .type "slice", data := .fields #[.none, .int k uj, .none] } }) (hl.push _)) list_getitem_lookup
    (wpAny_getItem_list_slice (hl.push _) (Heap.IsSliceOf.new ..) .none (.int k uj) .none (by simp) ?_ (Nat.le_trans hsz (by decide))) hs ht
  show Q (.ref (s.heap.push _).objs.size) _
  rw [Heap.size_push]
  refine h _ (fun b o e => Heap.get?_push_of_some _ (Heap.get?_push_of_some _ e)) ?_
  heap_get
end
end Mine
end

section
open PySem PySem.W PySem.Calls PyProof.Rows
set_option maxRecDepth 100000
set_option maxHeartbeats 8000000
namespace Mine
noncomputable abbrev nNumbers : Str := "numbers"
noncomputable abbrev nScript : Str := "script"
noncomputable abbrev nN : Str := "n"
noncomputable abbrev nSign : Str := "sign"
noncomputable abbrev nHead : Str := "head"
noncomputable abbrev nFormatter : Str := "formatter"
noncomputable abbrev nTold : Str := "told"
section
variable {w : World} {A : Around} {E : Value → Shared → Prop} {s : Shared} {Q : Value → Shared → Prop}
theorem pcs_at {a b c d e f g i : Tok} (k : Nat) (hk : k < 8) : ∃ u, (#[Value.str (ofL [97]) a, .str (ofL [98]) b, .str (ofL [44]) c, .str (ofL [32]) d, .str (ofL [9]) e, .str (ofL [44, 32]) f, .str (ofL [32, 9]) g, .str (ofL [97, 98]) i] : Array Value)[k]? = some (.str (ofL (pieceT k)) u) := by
  rcases k with _ | _ | _ | _ | _ | _ | _ | _ | k
  · exact ⟨a, rfl⟩
  · exact ⟨b, rfl⟩
  · exact ⟨c, rfl⟩
  · exact ⟨d, rfl⟩
  · exact ⟨e, rfl⟩
  · exact ⟨f, rfl⟩
  · exact ⟨g, rfl⟩
  · exact ⟨i, rfl⟩
  · (exact (om272 hk).elim)
theorem law_ok {sl : Addr} {vs : List Value} {ns : List Int} (O : Ok w s) (r : Rm A 16) (hT : s.heap.get? 213 = some (tabObj #[])) (hT2 : s.heap.get? 220 = some (tabObj #[])) (hl : s.heap.IsList sl vs.toArray) (hi : IntsAre vs ns) (hn : ns.length ≤ 63)
    (h : ∀ s', Ok w s' → St [213, 220] s s' → (∃ ps, s'.heap.get? 213 = some (tabObj ps)) → (∃ ps, s'.heap.get? 220 = some (tabObj ps)) → Q (.bool true) s') :
    wpAny (model PG w) A (call (.ref 237) [.ref sl]) Q E s := by
  refine c_enterCells (binds := [("script", .ref sl)]) (fun L => [("pieces", L + 1)]) [(213, tabObj #[]), (220, tabObj #[])] O r.room (ownTT hT hT2) (fun g L s₁ cells c Y k₁ => ?_) (hclf := fun _ => rfl) (hkind := fun n x hx => ?_) (hab := fun n q hq => ?_)
  · obtain ⟨o1, rfl, d1⟩ := Y.one
    have big : (238 : Nat) ≤ s.heap.objs.size := (base_of (own := []) O.gd no_own).2
    obtain rfl : s.heap.objs.size = L := c.hL
    have hlt : ((s.heap.objs.size + 1 : Nat) : Nat) < s₁.heap.objs.size := Heap.lt_size (c.get (.head _))
    generalize hLL : s.heap.objs.size = L at *
    have not2 : ∀ {b : Addr}, (238 : Nat) ≤ b → b ∉ List.map (fun x => x.1) [((213 : Addr), tabObj #[]), ((220 : Addr), tabObj #[])] := fun hb q => by
      simp only [List.map_cons, List.map_nil, List.mem_cons, List.not_mem_nil, or_false] at q
      rcases q with rfl | rfl
      · exact absurd hb (by decide)
      · exact absurd hb (by decide)
    have gsl : g.IsList sl vs.toArray := by
      obtain ⟨o, e, hc, hd⟩ := hl
      have nt : ∀ (P : Addr) (ps : Array Value), s.heap.get? P = some (tabObj ps) → sl ≠ P := fun P ps eP q => by
        rw [q, eP] at e; cases e; cases hc
      refine ⟨o, c.B.all sl o (fun q => ?_) (fun q => ?_) e, hc, hd⟩
      · simp only [List.map_cons, List.map_nil, List.mem_cons, List.not_mem_nil, or_false] at q
        rcases q with q | q
        · exact nt _ _ hT q
        · exact nt _ _ hT2 q
      · obtain ⟨ps, eP, _⟩ := O.tabs sl q
        exact nt _ _ eP rfl
    refine wpAny_execs_cons ?_
    refine wpAny_Assign_Name ?_
    refine List_ ?_
    refine spliced_more (c_strK c fun s₂ u1 c₂ e₂ => ?_)
    refine spliced_more (c_strK c₂ fun s₃ u2 c₃ e₃ => ?_)
    refine spliced_more (c_strK c₃ fun s₄ u3 c₄ e₄ => ?_)
    refine spliced_more (c_strK c₄ fun s₅ u4 c₅ e₅ => ?_)
    refine spliced_more (c_strK c₅ fun s₆ u5 c₆ e₆ => ?_)
    refine spliced_more (c_strK c₆ fun s₇ u6 c₇ e₇ => ?_)
    refine spliced_more (c_strK c₇ fun s₈ u7 c₈ e₈ => ?_)
    refine spliced_more (c_strK c₈ fun s₉ u8 c₉ e₉ => ?_)
    refine spliced_none ?_
    refine c_listK (vs := [.str (ofL [97]) u1, .str (ofL [98]) u2, .str (ofL [44]) u3, .str (ofL [32]) u4, .str (ofL [9]) u5, .str (ofL [44, 32]) u6, .str (ofL [32, 9]) u7, .str (ofL [97, 98]) u8]) c₉ (fun s₁₀ pl c₁₀ hpl k₁₀ => ?_) (by show (8 : Nat) ≤ 1000; decide)
    have lL : (L : Nat) < s₉.heap.objs.size := hLL ▸ c₉.lt
    have hcpl : ((L + 1 : Nat) : Nat) < pl := by
      have := Heap.lt_size (c₉.get (.head _))
      exact hpl ▸ this
    have pl238 : (238 : Nat) ≤ pl := by have : (238 : Nat) ≤ L := big; exact Nat.le_trans this (by exact Nat.le_of_lt (Nat.lt_trans (Nat.lt_succ_self _) hcpl))
    have hne : ∀ p ∈ [((213 : Addr), tabObj #[]), ((220 : Addr), tabObj #[])], p.1 ≠ L + 1 := fun p hp => by
      have : (238 : Nat) ≤ L := big
      cases hp with
      | head => intro e; have : (213 : Nat) = L + 1 := e; (exact om273 big this)
      | tail _ hp =>
        cases hp with
        | head => intro e; have : (220 : Nat) = L + 1 := e; (exact om274 big this)
        | tail _ hp => cases hp
    refine c_storeC (cc := L + 1) (v₀ := none) (o := o1) (g' := fun o' => (pl, _) :: (L + 1, o') :: [(213, tabObj #[]), (220, tabObj #[])]) c₁₀ rfl (fun o' => Upd.tail (Nat.ne_of_gt hcpl) (Upd.head hne)) (Nat.le_succ_of_le big) d1 fun s₁₁ o2 d2 c₁₁' k₁₁ => ?_
    obtain ⟨m₁₁, hm₁₁, c₁₁⟩ := c₁₁'.named
    have a_script : m₁₁ nScript = some (.ref sl) := by rw [hm₁₁]; rfl
    clear hm₁₁ c₁₁'
    refine wpAny_execs_cons ?_
    refine wpAny_Assign_Name ?_
    refine wpAny_BinOp ?_
    refine Subscript_ ?_
    refine c_name c₁₁ a_script ?_
    refine wpAny_Slice (wpAny_evalPart_none (wpAny_evalPart_some (c_intK c₁₁ fun s₁₂ t₁₂ c₁₂ e₁₂ => wpAny_evalPart_none ?_)))
    refine l_to (items := vs.toArray) (by rw [e₁₂]; obtain ⟨o, e, q⟩ := gsl; exact ⟨o, c₁₁.base e, q⟩) (by simp [hi.length]; (exact om275 hn)) fun h₁₃ k₁₃ e₁₃ => ?_
    have c₁₃ := c₁₂.ext (s' := { s₁₂ with heap := h₁₃ }) k₁₃ rfl rfl
    generalize hsc : s₁₂.heap.objs.size + 1 = sc at e₁₃
    refine List_ ?_
    with_reducible refine spliced_int c₁₃ fun z0 v0 q0 f0 => ?_
    with_reducible refine spliced_int q0 fun z1 v1 q1 f1 => ?_
    with_reducible refine spliced_int q1 fun z2 v2 q2 f2 => ?_
    with_reducible refine spliced_int q2 fun z3 v3 q3 f3 => ?_
    with_reducible refine spliced_int q3 fun z4 v4 q4 f4 => ?_
    with_reducible refine spliced_int q4 fun z5 v5 q5 f5 => ?_
    with_reducible refine spliced_int q5 fun z6 v6 q6 f6 => ?_
    with_reducible refine spliced_int q6 fun z7 v7 q7 f7 => ?_
    with_reducible refine spliced_int q7 fun z8 v8 q8 f8 => ?_
    with_reducible refine spliced_int q8 fun z9 v9 q9 f9 => ?_
    with_reducible refine spliced_int q9 fun z10 v10 q10 f10 => ?_
    with_reducible refine spliced_int q10 fun z11 v11 q11 f11 => ?_
    with_reducible refine spliced_int q11 fun z12 v12 q12 f12 => ?_
    refine spliced_none ?_
    refine c_listK (vs := [.int 0 v0, .int 3 v1, .int 1 v2, .int 3 v3, .int 7 v4, .int 1 v5, .int 4 v6, .int 7 v7, .int 2 v8, .int 7 v9, .int 3 v10, .int 0 v11, .int 3 v12]) q12 (fun s₁₄ tl c₁₄ htl k₁₄ => ?_) (by show (13 : Nat) ≤ 1000; decide)
    have e₁₄ : s₁₄.heap.get? sc = some (listObj (slicePick vs.toArray none (some 5) none) 0) := k₁₄ _ _ (by rw [f12, f11, f10, f9, f8, f7, f6, f5, f4, f3, f2, f1, f0]; exact e₁₃)
    refine P.add_list e₁₄ (c₁₄.get (.head _)) ?_ (Nat.le_trans (show _ ≤ 1000 from ?_) (by decide))
    · have I₅ := slice5 hi
      have IN : IntsAre ((slicePick vs.toArray none (some 5) none) ++ [Value.int 0 v0, Value.int 3 v1, Value.int 1 v2, Value.int 3 v3, Value.int 7 v4, Value.int 1 v5, Value.int 4 v6, Value.int 7 v7, Value.int 2 v8, Value.int 7 v9, Value.int 3 v10, Value.int 0 v11, Value.int 3 v12].toArray).toList (lawNums ns) := by
        rw [Array.toList_append]
        exact IntsAre.append I₅ (.cons _ _ (.cons _ _ (.cons _ _ (.cons _ _ (.cons _ _ (.cons _ _ (.cons _ _ (.cons _ _ (.cons _ _ (.cons _ _ (.cons _ _ (.cons _ _ (.cons _ _ .nil)))))))))))))
      generalize hits : (slicePick vs.toArray none (some 5) none) ++ [Value.int 0 v0, Value.int 3 v1, Value.int 1 v2, Value.int 3 v3, Value.int 7 v4, Value.int 1 v5, Value.int 4 v6, Value.int 7 v7, Value.int 2 v8, Value.int 7 v9, Value.int 3 v10, Value.int 0 v11, Value.int 3 v12].toArray = its at IN ⊢
      have c₁₅ := Cx.new (a := s₁₄.heap.objs.size) (o := listObj its 0) (c₁₄.ext (s' := { s₁₄ with heap := s₁₄.heap.push (listObj its 0) }) (fun _ _ e => Heap.get?_push_of_some _ e) rfl rfl) (Heap.get?_push_size _ rfl) c₁₄.lt
      refine c_storeK c₁₅ fun s₁₆ c₁₆' k₁₆ => ?_
      obtain ⟨m₁₆, hm₁₆, c₁₆⟩ := c₁₆'.named
      have b_script : m₁₆ nScript = some (.ref sl) := by rw [hm₁₆]; exact (if_neg (by decide)).trans a_script
      have b_numbers : m₁₆ nNumbers = some (.ref s₁₄.heap.objs.size) := by rw [hm₁₆]; exact if_pos rfl
      clear hm₁₆ c₁₆'
      generalize s₁₄.heap.objs.size = nl at *
      refine wpAny_execs_cons ?_
      refine wpAny_Assign_Name ?_
      refine wpAny_BinOp ?_
      refine MethodCall_ ?_
      refine c_strK c₁₆ fun s₁₇ t₁₇ c₁₇ e₁₇ => ?_
      refine GM.join ?_
      refine callWith_method1 ?_
      refine spliced_more ?_
      refine wpAny_ListComp_free (fun _ => true) (fun v y => ∃ n t u, v = Value.int n t ∧ y = Value.str (ofL (pieceOf n)) u) (cl := [("pieces", L + 1)]) ?_ ?_ ?_ ?_ ?_ ?_ ?_
      · rfl
      · decide
      · rfl
      · decide
      · rfl
      · refine c_name c₁₇ b_numbers ?_
        refine wpAny_pyIter_list ⟨_, c₁₇.get (.head _), rfl, _, rfl⟩ ?_
        have c₁₈ := c₁₇.ext (s' := { s₁₇ with heap := s₁₇.heap.push { cls := .type "list_iterator", data := .fields #[.ref nl, .int 0 0] } }) (fun _ _ e => Heap.get?_push_of_some _ e) rfl rfl
        have hIt : Heap.IsListIter (s₁₇.heap.push { cls := .type "list_iterator", data := .fields #[.ref nl, .int 0 0] }) s₁₇.heap.objs.size nl 0 := ⟨_, Heap.get?_push_size _ rfl, rfl, rfl⟩
        have hnlt : nl < s₁₇.heap.objs.size := Heap.lt_size (c₁₇.get (.head _))
        have hIL : (L : Nat) < s₁₇.heap.objs.size := hLL ▸ c₁₇.lt
        have hz : s₁₇.heap.objs.size < (s₁₇.heap.push { cls := .type "list_iterator", data := .fields #[.ref nl, .int 0 0] }).objs.size := by rw [Heap.size_push]; exact Nat.lt_succ_self _
        have gI : g.get? s₁₇.heap.objs.size = none := by
          cases e : g.get? s₁₇.heap.objs.size with
          | none => rfl
          | some o => exact absurd (Heap.lt_size (c₁₇.base e)) (Nat.lt_irrefl _)
        have nI : ∀ p ∈ [(nl, listObj its 0)], p.1 ≠ s₁₇.heap.objs.size := fun p hp => by cases hp with | head => exact Nat.ne_of_lt hnlt | tail _ h => cases h
        have allI : ∀ b o, s₁₇.heap.get? b = some o → b ≠ s₁₇.heap.objs.size := fun b o e => Nat.ne_of_lt (Heap.lt_size e)
        generalize hI : s₁₇.heap.objs.size = I at *
        refine ⟨I, [I, nl], [I], its.size, (fun i v => its[i]? = some v), (fun i h => h.IsListIter I nl i ∧ h.IsList nl its), rfl, Walks.list r.deep.hd I nl (Nat.ne_of_lt hnlt) its, ?_, ⟨hIt, _, c₁₈.get (.head _), rfl, _, rfl⟩, ?_, ⟨?_, ?_⟩, ?_⟩
        · have hsz := IN.length
          have h1 : (lawNums ns).length ≤ 18 := by
            unfold lawNums
            rw [List.length_append, List.length_take]
            simp only [List.length_cons, List.length_nil]
            (exact om276 hn)
          refine Nat.le_trans (show its.size ≤ 1000 from ?_) (by decide)
          rw [← Array.length_toList]
          (exact om277 hsz h1)
        · intro b hb
          cases hb with
          | head => exact hz
          | tail _ hb => cases hb with
            | head => exact Nat.lt_trans hnlt hz
            | tail _ hb => cases hb
        · intro C i v s₃ m₃ E' hC hP hn hx hk htk
          exact wpAny_pure ⟨rfl, ⟨_, _, rfl, fun _ _ e => e⟩⟩
        · intro C i v s₃ m₃ E' hC hP hpv hn hx hk htk
          obtain ⟨n, t, rfl⟩ := ints_nth IN i v (by rw [Array.getElem?_toList]; exact hP)
          refine Subscript_ ?_
          refine wpAny_Name (wpAny_loadName_cell (c := L + 1) rfl rfl rfl ⟨o2, hk _ _ ?_ (c₁₈.get (.tail _ (.tail _ (.tail _ (.head _))))), d2⟩ ?_) (by decide)
          · exact fun q => allI _ _ (c₁₇.get (.tail _ (.tail _ (.tail _ (.head _))))) (List.mem_singleton.mp q)
          · refine wpAny_BinOp ?_
            refine wpAny_Name (wpAny_loadName_local rfl rfl hn hx ?_) (by decide)
            refine wpAny_Constant_int ?_
            refine PyProof.Rows.mod_int (by decide) ?_
            obtain ⟨u, hu⟩ := pcs_at (a := u1) (b := u2) (c := u3) (d := u4) (e := u5) (f := u6) (g := u7) (i := u8) (n.fmod 8).toNat (by have := fmod8 n; (exact om278 this))
            refine list_item (n := 0) (its := #[Value.str (ofL [97]) u1, .str (ofL [98]) u2, .str (ofL [44]) u3, .str (ofL [32]) u4, .str (ofL [9]) u5, .str (ofL [44, 32]) u6, .str (ofL [32, 9]) u7, .str (ofL [97, 98]) u8]) ?_ (fmod8 n).1 (by have := (fmod8 n).2; lia) hu ?_
            · exact hk _ _ (fun q => allI _ _ (c₁₇.get (.tail _ (.tail _ (.head _)))) (List.mem_singleton.mp q)) (c₁₈.get (.tail _ (.tail _ (.head _))))
            · exact ⟨⟨_, _, _, rfl, rfl⟩, ⟨_, _, rfl, fun _ _ e => e⟩⟩
        · intro D h' tk ys vs' hD hL' hPl hlen hP' hF hk
          have evs : vs' = its.toList := by
            refine List.ext_getElem? fun j => ?_
            cases e : vs'[j]? with
            | some v => exact ((Array.getElem?_toList ..).trans (hP' j v e)).symm
            | none =>
              have h1 := List.getElem?_eq_none_iff.mp e
              exact (List.getElem?_eq_none_iff.mpr (by rw [Array.length_toList]; (exact om280 hlen h1))).symm
          subst evs
          rw [List.filter_eq_self.mpr (fun _ _ => rfl)] at hF
          obtain ⟨ll, hys, hll⟩ := paired_pieces IN hF
          obtain ⟨nD, hD'⟩ := hPl
          have c₁₉ := Cx.turnW (wr := [I]) (h' := h') (tk := tk) c₁₈ (fun b hb => by
            rw [List.mem_singleton] at hb; subst hb
            exact ⟨Nat.le_trans (Nat.le_trans big (Nat.le_refl _)) (Nat.le_of_lt hIL), gI, Nat.ne_of_lt hIL⟩) (fun p hp q => allI p.1 p.2 (c₁₇.get hp) (List.mem_singleton.mp q)) hk
          have eys : ys = (strValues ll).toArray := by apply Array.ext'; rw [hys]
          subst eys
          refine spliced_none ?_
          refine SC.join (l := ll) ⟨_, hD', rfl, _, rfl⟩ rfl ?_ fun t₂₀ k₂₀ => ?_
          · refine joinOk_of ?_
            rw [hll]
            have h0 : ((lawNums ns).map fun n => ofL (pieceOf n)).length ≤ 18 := by
              rw [List.length_map]
              unfold lawNums
              rw [List.length_append, List.length_take]
              simp only [List.length_cons, List.length_nil]
              (exact om276 hn)
            have h1 : ∀ l : List Int, ((l.map fun n => ofL (pieceOf n)).map (·.length)).sum ≤ 2 * l.length := fun l => by
              induction l with
              | nil => exact Nat.le_refl _
              | cons a l ih =>
                simp only [List.map_cons, List.sum_cons, List.length_cons]
                have := pieceT_len (a.fmod 8).toNat
                have e : (ofL (pieceOf a)).length = (pieceT (a.fmod 8).toNat).length := ofL_len _
                (exact om281 ih this e)
            have h2 := h1 (lawNums ns)
            rw [List.length_map] at h0
            rw [List.length_map]
            refine Nat.le_trans (show _ ≤ 1000 from ?_) (show (1000 : Nat) ≤ sizeLine by decide)
            show _ + _ * 0 ≤ 1000
            (exact om282 h0 h2)
          have c₂₀ := c₁₉.ext (s' := { s₁₇ with heap := h', toks := k₂₀ }) (fun _ _ e => e) rfl rfl
          refine c_strK c₂₀ fun s₂₁ t₂₁ c₂₁ e₂₁ => ?_
          have ex : (Txt.join (Str.ofString "") (ll.map (·.1)) ++ (Str.ofString "a")) = ofL (lawText ns) := by
            refine (congrArg (· ++ _) (join_empty _)).trans ?_
            rw [hll, ofL_append]; unfold lawText; simp [ofL, List.flatMap_map] <;> rfl
          have hTlen := lawText_len ns
          refine PyProof.Rows.add_str (fun t₂₂ k₂₂ => ?_) ?_
          · rw [ex]
            have c₂₂ := (c₂₁.drop (news' := [(213, tabObj #[]), (220, tabObj #[])]) fun p hp => .tail _ (.tail _ (.tail _ (.tail _ hp)))).ext (s' := { s₂₁ with toks := k₂₂ }) (fun _ _ e => e) rfl rfl
            refine c_storeK c₂₂ fun s₂₃ c₂₃' k₂₃ => ?_
            obtain ⟨m₂₃, hm₂₃, c₂₃⟩ := c₂₃'.named
            have d_script : m₂₃ nScript = some (.ref sl) := by rw [hm₂₃]; exact (if_neg (by decide)).trans b_script
            have d_text : m₂₃ nText = some (.str (ofL (lawText ns)) t₂₂) := by rw [hm₂₃]; exact if_pos rfl
            clear hm₂₃ c₂₃'
            generalize hTT : lawText ns = TT at d_text hTlen
            have hTe : ∃ T0, TT = T0 ++ [97] := ⟨_, hTT.symm⟩
            have gsl23 : s₂₃.heap.IsList sl vs.toArray := by
              obtain ⟨o, e, q⟩ := gsl
              exact ⟨o, c₂₃.base e, q⟩
            refine wpAny_execs_cons ?_
            refine wpAny_Assign_Name ?_
            refine wpAny_BinOp ?_
            refine Call_ ?_
            refine c_built c₂₃ (v := .builtin "sum") ?_ ?_ ?_ ?_
            · kernel_rfl
            · kernel_rfl
            · decide
            refine PyProof.Rows.callWith_builtin1 (spliced_more (c_name c₂₃ d_script (spliced_none ?_)))
            refine c_sum c₂₃ r.deep.hd gsl23 hi fun s₂₄ t₂₄ c₂₄ k₂₄ => ?_
            refine c_intK c₂₄ fun s₂₅ t₂₅ c₂₅ e₂₅ => ?_
            refine PyProof.Rows.add_int ?_
            have c₂₆ := c₂₅.ext (s' := { s₂₅ with toks := s₂₅.toks + 1 }) (fun _ _ e => e) rfl rfl
            generalize hnn : ns.sum + 46 = nn
            refine c_storeK c₂₆ fun s₂₇ c₂₇' k₂₇ => ?_
            obtain ⟨m₂₇, hm₂₇, c₂₇⟩ := c₂₇'.named
            have f_n : m₂₇ nN = some (.int nn s₂₅.toks) := by rw [hm₂₇]; exact if_pos rfl
            have f_text : m₂₇ nText = some (.str (ofL TT) t₂₂) := by rw [hm₂₇]; exact (if_neg (by decide)).trans d_text
            clear hm₂₇ c₂₇'
            generalize s₂₅.toks = tn at f_n
            obtain ⟨Wn, hWn, hW2, hW8⟩ : ∃ k : Nat, 2 + nn.fmod 7 = (k : Int) ∧ 2 ≤ k ∧ k ≤ 8 := by
              have h1 := Int.fmod_nonneg_of_pos nn (show (0 : Int) < 7 by decide)
              have h2 := Int.fmod_lt_of_pos nn (show (0 : Int) < 7 by decide)
              exact ⟨(2 + nn.fmod 7).toNat, by (exact om283 h1 h2), by (exact om284 h1 h2), by (exact om285 h1 h2)⟩
            refine wpAny_execs_cons ?_
            refine wpAny_Assign_Name ?_
            refine wpAny_BinOp ?_
            refine c_intK c₂₇ fun s₂₈ t₂₈ c₂₈ e₂₈ => ?_
            refine wpAny_BinOp (c_name c₂₈ f_n (c_intK c₂₈ fun s₂₉ t₂₉ c₂₉ e₂₉ => PyProof.Rows.mod_int (by decide) ?_))
            have c₃₀ := c₂₉.ext (s' := { s₂₉ with toks := s₂₉.toks + 1 }) (fun _ _ e => e) rfl rfl
            refine PyProof.Rows.add_int ?_
            have c₃₁ := c₃₀.ext (s' := { s₂₉ with toks := s₂₉.toks + 1 + 1 }) (fun _ _ e => e) rfl rfl
            rw [hWn]
            refine c_storeK c₃₁ fun s₃₂ c₃₂' k₃₂ => ?_
            obtain ⟨m₃₂, hm₃₂, c₃₂⟩ := c₃₂'.named
            have g_n : m₃₂ nN = some (.int nn tn) := by rw [hm₃₂]; exact (if_neg (by decide)).trans f_n
            have g_text : m₃₂ nText = some (.str (ofL TT) t₂₂) := by rw [hm₃₂]; exact (if_neg (by decide)).trans f_text
            obtain ⟨tw, g_width⟩ : ∃ tw, m₃₂ nWidth = some (.int (Wn : Nat) tw) := ⟨_, by rw [hm₃₂]; exact if_pos rfl⟩
            clear hm₃₂ c₃₂'
            obtain ⟨cc, hcc, hcp⟩ : ∃ cc, (cc = 32 ∨ cc = 44 ∨ cc = 9) ∧ (seqIndex? ((nn.fdiv 7).fmod 3) (Str.ofString " ,\t").length).bind ((Str.ofString " ,\t").cps[·]?) = some cc := by
              have h1 := Int.fmod_nonneg_of_pos (nn.fdiv 7) (show (0 : Int) < 3 by decide)
              have h2 := Int.fmod_lt_of_pos (nn.fdiv 7) (show (0 : Int) < 3 by decide)
              generalize (nn.fdiv 7).fmod 3 = z at h1 h2
              obtain rfl | rfl | rfl : z = 0 ∨ z = 1 ∨ z = 2 := by (exact om286 h1 h2)
              · exact ⟨32, .inl rfl, rfl⟩
              · exact ⟨44, .inr (.inl rfl), rfl⟩
              · exact ⟨9, .inr (.inr rfl), rfl⟩
            refine wpAny_execs_cons ?_
            refine wpAny_Assign_Name ?_
            refine Subscript_ ?_
            refine c_strK c₃₂ fun s₃₃ t₃₃ c₃₃ e₃₃ => ?_
            refine wpAny_BinOp ?_
            refine wpAny_BinOp (c_name c₃₃ g_n (c_intK c₃₃ fun s₃₄ t₃₄ c₃₄ e₃₄ => PyProof.Rows.floordiv_int (by decide) ?_))
            have c₃₅ := c₃₄.ext (s' := { s₃₄ with toks := s₃₄.toks + 1 }) (fun _ _ e => e) rfl rfl
            refine c_intK c₃₅ fun s₃₆ t₃₆ c₃₆ e₃₆ => PyProof.Rows.mod_int (by decide) ?_
            have c₃₇ := c₃₆.ext (s' := { s₃₆ with toks := s₃₆.toks + 1 }) (fun _ _ e => e) rfl rfl
            refine sign_item (c := cc) ?_ hcp ?_
            · have h1 := Int.fmod_nonneg_of_pos (nn.fdiv 7) (show (0 : Int) < 3 by decide)
              have h2 := Int.fmod_lt_of_pos (nn.fdiv 7) (show (0 : Int) < 3 by decide)
              rw [Bool.or_eq_false_iff]
              exact ⟨decide_eq_false (by lia), decide_eq_false (by lia)⟩
            have c₃₈ := c₃₇.ext (s' := { s₃₆ with toks := s₃₆.toks + 1 + 1 }) (fun _ _ e => e) rfl rfl
            refine c_storeK c₃₈ fun s₃₉ c₃₉' k₃₉ => ?_
            obtain ⟨m₃₉, hm₃₉, c₃₉⟩ := c₃₉'.named
            have a_n : m₃₉ nN = some (.int nn tn) := by rw [hm₃₉]; exact (if_neg (by decide)).trans g_n
            have a_text : m₃₉ nText = some (.str (ofL TT) t₂₂) := by rw [hm₃₉]; exact (if_neg (by decide)).trans g_text
            have a_width : m₃₉ nWidth = some (.int (Wn : Nat) tw) := by rw [hm₃₉]; exact (if_neg (by decide)).trans g_width
            obtain ⟨tsg, a_sign⟩ : ∃ tsg, m₃₉ nSign = some (.str (ofL [cc]) tsg) := ⟨_, by rw [hm₃₉]; exact if_pos rfl⟩
            clear hm₃₉ c₃₉'
            obtain ⟨hn', hhn, hh3⟩ : ∃ k : Nat, (nn.fdiv 21).fmod 4 = (k : Int) ∧ k ≤ 3 := by
              have h1 := Int.fmod_nonneg_of_pos (nn.fdiv 21) (show (0 : Int) < 4 by decide)
              have h2 := Int.fmod_lt_of_pos (nn.fdiv 21) (show (0 : Int) < 4 by decide)
              exact ⟨((nn.fdiv 21).fmod 4).toNat, by (exact om289 h1 h2), by (exact om290 h1 h2)⟩
            refine wpAny_execs_cons ?_
            refine wpAny_Assign_Name ?_
            refine wpAny_BinOp ?_
            refine wpAny_BinOp (c_name c₃₉ a_n (c_intK c₃₉ fun s₄₀ t₄₀ c₄₀ e₄₀ => PyProof.Rows.floordiv_int (by decide) ?_))
            have c₄₁ := c₄₀.ext (s' := { s₄₀ with toks := s₄₀.toks + 1 }) (fun _ _ e => e) rfl rfl
            refine c_intK c₄₁ fun s₄₂ t₄₂ c₄₂ e₄₂ => PyProof.Rows.mod_int (by decide) ?_
            have c₄₃ := c₄₂.ext (s' := { s₄₂ with toks := s₄₂.toks + 1 }) (fun _ _ e => e) rfl rfl
            rw [hhn]
            refine c_storeK c₄₃ fun s₄₄ c₄₄' k₄₄ => ?_
            obtain ⟨m₄₄, hm₄₄, c₄₄⟩ := c₄₄'.named
            have b_n : m₄₄ nN = some (.int nn tn) := by rw [hm₄₄]; exact (if_neg (by decide)).trans a_n
            have b_text : m₄₄ nText = some (.str (ofL TT) t₂₂) := by rw [hm₄₄]; exact (if_neg (by decide)).trans a_text
            have b_width : m₄₄ nWidth = some (.int (Wn : Nat) tw) := by rw [hm₄₄]; exact (if_neg (by decide)).trans a_width
            have b_sign : m₄₄ nSign = some (.str (ofL [cc]) tsg) := by rw [hm₄₄]; exact (if_neg (by decide)).trans a_sign
            obtain ⟨th, b_head⟩ : ∃ th, m₄₄ nHead = some (.int (hn' : Nat) th) := ⟨_, by rw [hm₄₄]; exact if_pos rfl⟩
            clear hm₄₄ c₄₄'
            refine wpAny_execs_cons ?_
            refine wpAny_Assign_Name ?_
            refine Call_ ?_
            refine c_glob c₄₄ (v := .ref 116) ?_ ?_
            · kernel_rfl
            refine callWith_K (K := KK w) c₄₄.X (by kernel_rfl) ?_
            refine spliced_more (c_name c₄₄ b_head (spliced_more (c_name c₄₄ b_width (spliced_more (c_strK c₄₄ fun s₄₅ t₄₅ c₄₅ e₄₅ => spliced_more (c_name c₄₅ b_sign (spliced_none ?_)))))))
            refine ⟨c₄₅.X, ?_⟩
            refine fmake_ok c₄₅.ok r.deep.le (by decide) fun s₄₆ f fd ls a d n O₄₆ S₄₆ F₄₆ Y₄₆ Ls₄₆ gf gfd gls ga gd => ?_
            have nb : ∀ b : Addr, (s₄₅.heap.objs.size : Nat) ≤ b → b ≠ L ∧ g.get? b = none ∧ (238 : Nat) ≤ b := fun b hb => by
              have hl : (L : Nat) < b := Nat.lt_of_lt_of_le (hLL ▸ c₄₅.lt) hb
              refine ⟨Nat.ne_of_gt hl, ?_, Nat.le_trans big (Nat.le_of_lt hl)⟩
              cases e : g.get? b with
              | none => rfl
              | some o => exact absurd (Heap.lt_size (c₄₅.base e)) (Nat.not_lt.mpr hb)
            obtain ⟨nf, gf0, lf⟩ := nb f gf
            obtain ⟨nfd, gfd0, lfd⟩ := nb fd gfd
            obtain ⟨nls, gls0, lls⟩ := nb ls gls
            obtain ⟨na, ga0, la⟩ := nb a ga
            obtain ⟨nd, gd0, ld⟩ := nb d gd
            have n213 : ∀ b : Addr, (238 : Nat) ≤ b → (213 : Addr) ≠ b ∧ (220 : Addr) ≠ b := fun b hb =>
              ⟨fun q => absurd hb (by rw [← q]; decide), fun q => absurd hb (by rw [← q]; decide)⟩
            have c₄₆ := c₄₅.call0 S₄₆ O₄₆
            refine c_storeK c₄₆ fun s₄₇ c₄₇' k₄₇ => ?_
            obtain ⟨m₄₇, hm₄₇, c₄₇⟩ := c₄₇'.named
            have d_n : m₄₇ nN = some (.int nn tn) := by rw [hm₄₇]; exact (if_neg (by decide)).trans b_n
            have d_text : m₄₇ nText = some (.str (ofL TT) t₂₂) := by rw [hm₄₇]; exact (if_neg (by decide)).trans b_text
            have d_width : m₄₇ nWidth = some (.int (Wn : Nat) tw) := by rw [hm₄₇]; exact (if_neg (by decide)).trans b_width
            have d_sign : m₄₇ nSign = some (.str (ofL [cc]) tsg) := by rw [hm₄₇]; exact (if_neg (by decide)).trans b_sign
            have d_head : m₄₇ nHead = some (.int (hn' : Nat) th) := by rw [hm₄₇]; exact (if_neg (by decide)).trans b_head
            have d_fm : m₄₇ nFormatter = some (.ref f) := by rw [hm₄₇]; exact if_pos rfl
            clear hm₄₇ c₄₇'
            have F₄₇ := F₄₆.keepK (h' := s₄₇.heap) fun b o hb e => k₄₇ b o (by rcases hb with rfl | rfl <;> assumption) e
            have Y₄₇ := Y₄₆.keepK (h' := s₄₇.heap) fun b o hb e => k₄₇ b o (by rcases hb with rfl | rfl <;> assumption) e
            have Ls₄₇ := Ls₄₆.keepK (h' := s₄₇.heap) fun o e => k₄₇ _ o nls e
            obtain ⟨_, _, of, p, ofd⟩ := id F₄₇
            obtain ⟨_, _, oa, hh, tk', ti, od⟩ := id Y₄₇
            obtain ⟨_, ll0, nl0, ols, _⟩ := id Ls₄₇
            obtain ⟨dls, dld, fa, fd', fls, da, dd, dl, hda⟩ := fm_ne oa od of ofd ols
            have hfx : (Str.ofString "") ++ ofL TT = ofL TT := by rw [ofL_append]; simp [ofL] <;> rfl
            refine wpAny_execs_cons ?_
            refine wpAny_Expr ?_
            refine MethodCall_ ?_
            refine c_name c₄₇ d_fm ?_
            refine fm_meth (q := 106) c₄₇.X (fmI of ofd) ?_
            refine callWith_K (K := KK w) c₄₇.X (by kernel_rfl) ?_
            refine spliced_more (c_strK c₄₇ fun s₄₈ t₄₈ c₄₈ e₄₈ => spliced_more (c_name c₄₈ d_text (spliced_more (c_name c₄₈ d_sign (spliced_none ?_)))))
            refine ⟨c₄₈.X, ?_⟩
            refine asplit_ok (f0 := (Str.ofString "")) (x0 := ofL TT) c₄₈.ok r.deep.le (by rw [e₄₈]; exact F₄₇) (by rw [e₄₈]; exact Y₄₇) (by rw [e₄₈]; exact Ls₄₇) (by (exact om291 hh3)) (by rw [hfx, ofL_len]; (exact om292 hTlen)) (fun q hq => parts_ne hTe q (by rw [hfx] at hq; simpa [ofL] using hq)) fun s₄₉ its' n' ps' i' lines' he O₄₉ S₄₉ Y₄₉ P₄₉ Ls₄₉ => ?_
            rw [hfx] at he
            obtain ⟨p1, p2, p3, p4, p5, p6, p7, p8, p9, p10⟩ := pure_law (T := TT) (c := cc) (W := Wn) (hd := hn') hTe hcc ⟨hW2, hW8⟩ hh3 hTlen (by simpa [ofL] using he)
            have w3 : ∀ b ∈ [a, d, ls], b ≠ L ∧ g.get? b = none := fun b hb => by
              simp only [List.mem_cons, List.not_mem_nil, or_false] at hb
              rcases hb with rfl | rfl | rfl
              · exact ⟨na, ga0⟩
              · exact ⟨nd, gd0⟩
              · exact ⟨nls, gls0⟩
            have w4 : ∀ p ∈ [((213 : Addr), tabObj #[]), ((220 : Addr), tabObj #[])], p.1 ∉ [a, d, ls] := fun p hp q => by
              simp only [List.mem_cons, List.not_mem_nil, or_false] at hp q
              rcases hp with rfl | rfl
              · rcases q with q | q | q
                · exact (n213 _ la).1 q
                · exact (n213 _ ld).1 q
                · exact (n213 _ lls).1 q
              · rcases q with q | q | q
                · exact (n213 _ la).2 q
                · exact (n213 _ ld).2 q
                · exact (n213 _ lls).2 q
            have c₄₉ := c₄₈.callUp S₄₉ O₄₉ w3 w4
            have F₄₉ : FmAt s₄₉.heap f fd ls a (Wn : Int) _ _ := (FmAt.keepK (h := s₄₈.heap) (h' := s₄₉.heap) (by rw [e₄₈]; exact F₄₇) fun b o hb e => S₄₉.keep b o (by rcases hb with rfl | rfl <;> simp [fa, fd', fls, da, dd, dl]) (by rcases hb with rfl | rfl; exact not_tab lf; exact not_tab lfd) e)
            obtain ⟨_, _, of₉, p₉, ofd₉⟩ := id F₄₉
            refine wpAny_execs_cons ?_
            refine wpAny_Assign_Name ?_
            refine MethodCall_ ?_
            refine c_name c₄₉ d_fm ?_
            refine fm_meth (q := 64) c₄₉.X (fmI of₉ ofd₉) ?_
            refine callWith_K (K := KK w) c₄₉.X (by kernel_rfl) ?_
            refine spliced_more (c_strK c₄₉ fun s₅₀ t₅₀ c₅₀ e₅₀ => spliced_none ?_)
            refine ⟨c₅₀.X, ?_⟩
            refine str2_ok (sep := ofL [10]) c₅₀.ok r.deep.le (by rw [e₅₀]; exact F₄₉) (by rw [e₅₀]; exact Y₄₉) (by rw [e₅₀]; exact P₄₉) (by rw [e₅₀]; exact Ls₄₉) (by (exact om293 p2 p3)) (by (exact om294 p8)) (by (exact om295 p7)) (by (exact om295 p9)) p4 p5 p6 p10 fun s₅₁ t₅₁ O₅₁ S₅₁ => ?_
            have c₅₁ := c₅₀.callUp S₅₁ O₅₁ w3 w4
            refine c_storeK c₅₁ fun s₅₂ c₅₂' k₅₂ => ?_
            obtain ⟨m₅₂, hm₅₂, c₅₂⟩ := c₅₂'.named
            have e_n : m₅₂ nN = some (.int nn tn) := by rw [hm₅₂]; exact (if_neg (by decide)).trans d_n
            have e_text : m₅₂ nText = some (.str (ofL TT) t₂₂) := by rw [hm₅₂]; exact (if_neg (by decide)).trans d_text
            have e_width : m₅₂ nWidth = some (.int (Wn : Nat) tw) := by rw [hm₅₂]; exact (if_neg (by decide)).trans d_width
            have e_sign : m₅₂ nSign = some (.str (ofL [cc]) tsg) := by rw [hm₅₂]; exact (if_neg (by decide)).trans d_sign
            have e_head : m₅₂ nHead = some (.int (hn' : Nat) th) := by rw [hm₅₂]; exact (if_neg (by decide)).trans d_head
            have e_told : m₅₂ nTold = some (.str (Txt.join (ofL [10]) (lines' ++ [ofL (flat ps')])) t₅₁) := by rw [hm₅₂]; exact if_pos rfl
            clear hm₅₂ c₅₂'
            refine wpAny_execs_cons ?_
            refine wpAny_Return_some ?_
            refine wpAny_Compare1 ?_
            refine c_name c₅₂ e_told ?_
            refine MethodCall_ ?_
            refine c_strK c₅₂ fun s₅₃ t₅₃ c₅₃ e₅₃ => ?_
            refine GM.join ?_
            refine callWith_method1 ?_
            refine spliced_more ?_
            refine Call_ ?_
            refine c_glob c₅₃ (v := .ref 232) ?_ ?_
            · kernel_rfl
            refine callWith_K (K := KK w) c₅₃.X (by kernel_rfl) ?_
            refine spliced_more (c_name c₅₃ e_text (spliced_more (c_name c₅₃ e_width (spliced_more (c_name c₅₃ e_head (spliced_more (c_name c₅₃ e_sign (spliced_more ?_))))))))
            refine wpAny_BinOp ?_
            refine wpAny_BinOp (c_name c₅₃ e_n (c_intK c₅₃ fun s₅₄ t₅₄ c₅₄ e₅₄ => PyProof.Rows.floordiv_int (by decide) ?_))
            have c₅₅ := c₅₄.ext (s' := { s₅₄ with toks := s₅₄.toks + 1 }) (fun _ _ e => e) rfl rfl
            refine c_intK c₅₅ fun s₅₆ t₅₆ c₅₆ e₅₆ => PyProof.Rows.mod_int (by decide) ?_
            have c₅₇ := c₅₆.ext (s' := { s₅₆ with toks := s₅₆.toks + 1 }) (fun _ _ e => e) rfl rfl
            refine spliced_none ?_
            refine ⟨c₅₇.X, ?_⟩
            have hz : (nn.fdiv 84).fmod 2 = 0 ∨ (nn.fdiv 84).fmod 2 = 1 := by
              have h1 := Int.fmod_nonneg_of_pos (nn.fdiv 84) (show (0 : Int) < 2 by decide)
              have h2 := Int.fmod_lt_of_pos (nn.fdiv 84) (show (0 : Int) < 2 by decide)
              (exact om296 h1 h2)
            refine rows_ok (x := ofL TT) (sg := ofL [cc]) (W := Wn) (hd := hn') c₅₇.ok r.deep.le hz (c₅₇.get (.head _)) ?_ (c₅₇.get (.tail _ (.head _))) ?_ (by rw [ofL_len]; (exact om297 hTlen)) ?_ (by (exact om298 hW2 hW8)) (by (exact om299 hh3)) fun s₅₈ l ll n O₅₈ S₅₈ el₅₈ l₅₈ hll tb1 tb2 => ?_
            · exact CodesIn.nil
            · exact CodesIn.nil
            · obtain ⟨T0, hT0⟩ := hTe
              rw [hT0]; simp [ofL]
            have hll' : ll.map (·.1) = lines' ++ [ofL (flat ps')] := by
              rw [hll, p1]; simp [ofL]
            refine spliced_none ?_
            refine SC.join (l := ll) ⟨_, el₅₈, rfl, _, rfl⟩ rfl (by rw [hll']; exact p10) fun t₅₉ k₅₉ => ?_
            refine eq_str ?_
            rw [hll', show (Txt.join (ofL [10]) (lines' ++ [ofL (flat ps')]) == Txt.join (Str.ofString "\n") (lines' ++ [ofL (flat ps')])) = true from beq_self_eq_true _]
            have St₅₇ : St [213, 220] s _ := c₅₇.st
            exact h _ ⟨O₅₈.gd, O₅₈.tabs, O₅₈.bare⟩ ⟨fun b o h1 h2 e => S₅₈.keep b o h1 h2 (St₅₇.keep b o h1 h2 e), Nat.le_trans St₅₇.grow S₅₈.grow, S₅₈.os.trans St₅₇.os⟩ tb1 tb2
          · have e2 := congrArg Str.length ex
            rw [str_append_len, ofL_len] at e2
            refine Nat.le_trans (show _ ≤ 37 from ?_) (show (37 : Nat) ≤ sizeLine by decide)
            exact e2 ▸ hTlen
      · intro _; rfl
    · have h1 := slicePick_size_le vs.toArray none (some 5) none
      have h3 : vs.toArray.size = ns.length := by simp [hi.length]
      show (slicePick vs.toArray none (some 5) none).size + 13 ≤ 1000
      (exact om300 hn h1 h3)
  · simp only [List.mem_cons, List.not_mem_nil, or_false] at hx
    subst hx; exact .inl rfl
  · exact cells_hab n q hq
end
end Mine
end

section
open PySem PySem.W PySem.Calls PyProof.Rows
set_option maxRecDepth 100000
set_option maxHeartbeats 8000000
namespace Mine
theorem hd213 (w : World) : codeHdIn (KK w) 217 213 = true := by kernel_rfl
theorem hd220 (w : World) : codeHdIn (KK w) 224 220 = true := by kernel_rfl
theorem hd162 (w : World) : codeHdIn (KK w) 166 162 = true := by kernel_rfl
theorem hd169 (w : World) : codeHdIn (KK w) 173 169 = true := by kernel_rfl
theorem tb213 (w : World) : (hdz.heap_240 w.params).lookup 213 = some (tabObj #[]) := by kernel_rfl
theorem tb220 (w : World) : (hdz.heap_240 w.params).lookup 220 = some (tabObj #[]) := by kernel_rfl
theorem tb162 (w : World) : (hdz.heap_240 w.params).lookup 162 = some (tabObj #[]) := by kernel_rfl
theorem tb169 (w : World) : (hdz.heap_240 w.params).lookup 169 = some (tabObj #[]) := by kernel_rfl
theorem lookup_filter_true {f : Addr → Bool} {a : Addr} {o : Obj} : ∀ {K : List (Addr × Obj)}, (K.filter fun p => f p.1).lookup a = some o → f a = true
  | [], h => by cases h
  | (b, x) :: r, h => by
    cases hf : f b with
    | true =>
      rw [List.filter_cons_of_pos (by exact hf), List.lookup_cons] at h
      cases hb : a == b with
      | true => rw [eq_of_beq hb]; exact hf
      | false => rw [hb] at h; exact lookup_filter_true h
    | false =>
      rw [List.filter_cons_of_neg (by simp [hf])] at h
      exact lookup_filter_true h
theorem lookup_of_filter {f : Addr → Bool} {a : Addr} {o : Obj} : ∀ {K : List (Addr × Obj)}, (K.filter fun p => f p.1).lookup a = some o → K.lookup a = some o
  | [], h => by cases h
  | (b, x) :: r, h => by
    have ha := lookup_filter_true h
    rw [List.lookup_cons]
    cases hf : f b with
    | true =>
      rw [List.filter_cons_of_pos (by exact hf), List.lookup_cons] at h
      cases hb : a == b with
      | true => rw [hb] at h; exact h
      | false => rw [hb] at h; exact lookup_of_filter h
    | false =>
      rw [List.filter_cons_of_neg (by simp [hf])] at h
      cases hb : a == b with
      | true => rw [eq_of_beq hb, hf] at ha; cases ha
      | false => exact lookup_of_filter h
section
variable {w : World} {s s' : Shared}
theorem kk_in (KX : (hdz.heap_240 w.params).In s.heap) : (KK w).In s.heap := fun a o e => KX a o (lookup_of_filter (f := fun b => !(tabA.contains b)) e)
theorem old_end (KX : (hdz.heap_240 w.params).In s.heap) (S : St [213, 220] s s') (O : Ok w s') (t1 : ∃ ps, s'.heap.get? 213 = some (tabObj ps)) (t2 : ∃ ps, s'.heap.get? 220 = some (tabObj ps)) : OldK s.heap s'.heap := by
  have X := kk_in KX
  have tab : ∀ P, P ∈ tabA → (∃ ps, s'.heap.get? P = some (tabObj ps)) ∧ s.heap.get? P = some (tabObj #[]) ∧ isCodeTable s.heap P := fun P hP => by
    simp only [List.mem_cons, List.not_mem_nil, or_false] at hP
    rcases hP with rfl | rfl | rfl | rfl
    · obtain ⟨ps, e, _⟩ := O.tabs 162 (.head _)
      exact ⟨⟨ps, e⟩, KX _ _ (tb162 w), ((codeHd_of_K X (hd162 w)).tab (KX _ _ (tb162 w))).isCodeTable⟩
    · obtain ⟨ps, e, _⟩ := O.tabs 169 (.tail _ (.head _))
      exact ⟨⟨ps, e⟩, KX _ _ (tb169 w), ((codeHd_of_K X (hd169 w)).tab (KX _ _ (tb169 w))).isCodeTable⟩
    · exact ⟨t1, KX _ _ (tb213 w), ((codeHd_of_K X (hd213 w)).tab (KX _ _ (tb213 w))).isCodeTable⟩
    · exact ⟨t2, KX _ _ (tb220 w), ((codeHd_of_K X (hd220 w)).tab (KX _ _ (tb220 w))).isCodeTable⟩
  have keep : ∀ b o, b ∉ tabA → s.heap.get? b = some o → s'.heap.get? b = some o := fun b o hb e => S.keep b o (fun q => hb (by
    simp only [List.mem_cons, List.not_mem_nil, or_false] at q
    rcases q with rfl | rfl
    · exact .tail _ (.tail _ (.head _))
    · exact .tail _ (.tail _ (.tail _ (.head _))))) (fun q => hb (by
    simp only [List.mem_cons, List.not_mem_nil, or_false] at q
    rcases q with rfl | rfl
    · exact .head _
    · exact .tail _ (.head _))) e
  refine ⟨fun b o e => ?_, fun b o e => ?_⟩
  · by_cases hb : b ∈ tabA
    · obtain ⟨⟨ps, e'⟩, e0, hc⟩ := tab b hb
      rw [e] at e0
      cases e0
      exact .inr (.inl ⟨hc, rfl, #[], ps, rfl, by rw [e']; simp⟩)
    · exact .inl (keep b o hb e)
  · by_cases hb : b ∈ tabA
    · obtain ⟨⟨ps, e'⟩, _⟩ := tab b hb
      exact ⟨_, e'⟩
    · exact ⟨o, keep b o hb e⟩
end
end Mine
end

section
open PySem PySem.W PySem.W.X PySem.W.ZRun PySem.Calls PyProof.Rows
set_option maxRecDepth 100000
set_option maxHeartbeats 8000000
namespace Mine
theorem said : OpenLaw.wellSaid PySem.Challenge.rw_ph0144_01 = true := by
  delta OpenLaw.wellSaid
  delta OpenRow.wellSaid
  delta OpenRow.partSaid
  delta looksOpen
  repeat' (with_reducible refine look_both ?_ ?_)
  all_goals decide +kernel
noncomputable def headLooks (s : Shared) : Bool := xlAt hdz.view_474 [] s && recOk (RowW.records PySem.Challenge.rw_ph0144_01.row.toRowW) s
noncomputable def headSees := X.obsZ [0, 1, 2, 3, 4, 5, 6, 7, 8, 9, 10, 11, 12, 13, 14, 15, 32, 33, 34, 35, 36, 37, 38, 42, 43, 51, 52, 53, 54, 55, 56, 57, 58, 59, 60, 61, 62, 63, 64, 65, 66, 67, 68, 69, 70, 71, 72, 73, 74, 75, 76, 77, 78, 79, 80, 81, 82, 83, 84, 85, 86, 87, 88, 89, 90, 91, 92, 93, 94, 95, 96, 97, 98, 99, 100, 101, 102, 103, 104, 105, 106, 107, 108, 109, 110, 111, 112, 113, 114, 115, 116, 117, 118, 121, 124, 129, 130, 131, 132, 133, 134, 135, 136, 137, 138, 139, 140, 141, 142, 143, 144, 145, 146, 147, 148, 149, 150, 151, 152, 153, 154, 155, 156, 157, 158, 159, 160, 161, 162, 163, 164, 165, 166, 167, 168, 169, 170, 171, 172, 173, 174, 175, 176, 177, 178, 179, 180, 181, 182, 183, 184, 185, 186, 187, 188, 189, 190, 191, 192, 193, 194, 195, 196, 197, 198, 199, 200, 201, 202, 205, 206, 207, 208, 209, 210, 211, 212, 213, 214, 215, 216, 217, 218, 219, 220, 221, 222, 223, 224, 225, 226, 227, 228, 229, 230, 231, 232, 233, 234, 235, 236, 237]
theorem headLeft : LeftO PySem.Challenge.rw_ph0144_01.row.toRowW.prog hdz.view_474 [Str.ofString "_twin_re_1", Str.ofString "_Accumulator"] headLooks headSees (X.valZ hdz.heap_240 238 591) 2746 := fun w => by kernel_rfl
end Mine
theorem PySem.Challenge.cw_ph0144_01_holds : PySem.Challenge.rw_ph0144_01.Holds := by
  w_on
  refine holds_law Mine.said fun said => ?_
  refine holds_openX (q := hdz.view_474) (loose := [Str.ofString "_twin_re_1", Str.ofString "_Accumulator"]) (Xt := Mine.headLooks) (XP := XL hdz.view_474 []) (Yf := Mine.headSees) (Ya := X.valZ hdz.heap_240 238 591) (N := 2746) Mine.headLeft (fun s e => xl_of s (Bool.and_eq_true_iff.mp e).1) XL.keeps (by rfl) (by rfl) (by rfl) (fun s e => recFacts_of (Bool.and_eq_true_iff.mp e).2) (by rfl) (by assumption) (by decide +kernel) ⟨rfl, rfl, rfl, rfl, rfl, by decide +kernel⟩ ?hw ?hc
  case hw => w_witness2
  k_fill
  intro w s₀ s₁ mg mb G y fa o pm cd doc dV kV ho hd hcd hD hmg hg args vals as L hpre hlay hrd hwl hlo
  obtain ⟨ZA, ZI, ZN, ZT⟩ := z_facts (K := hdz.heap_240) (fun P => rfl) y
  have KX : (hdz.heap_240 w.params).In s₁.heap := InK.keeps w _ _ ZI (Laid.keeps L)
  refine Ground.open G ?_
  intro T B D TE TW
  clear y ZA
  wrow_args hpre hlay hrd hwl hlo
  have e237 : nsIn (hdz.heap_240 w.params) mainGlobals "law" = some (some (.ref 237)) := by kernel_rfl
  have hfa : fa = 237 := by
    have h1 := mg_of KX T.g e237
    have h2 := hmg.symm.trans h1
    cases h2
    rfl
  subst hfa
  rename_i hI hIL _ _
  have O₁ : Mine.Ok w s₁ := ⟨⟨Mine.kk_in KX, _, _, _, _, topRead_of T⟩, fun P hP => ⟨#[], by
    simp only [List.mem_cons, List.not_mem_nil, or_false] at hP
    rcases hP with rfl | rfl
    · exact KX _ _ (Mine.tb162 w)
    · exact KX _ _ (Mine.tb169 w), trivial⟩, by rw [hg]; exact AllBare.empty⟩
  have r₁ : Mine.Rm callerA 16 := ⟨rfl, by decide, by decide⟩
  refine wpAny_mono (Mine.law_ok (A := callerA) (E := fun _ _ => False) O₁ r₁ (KX _ _ (Mine.tb213 w)) (KX _ _ (Mine.tb220 w)) (by assumption) hI (by omega) (Q := fun v s' => GoodWG PySem.Challenge.rw_ph0144_01.row.claim (classAt s₀.heap) (ExcName.means s₀.heap) _ s₁ (.ok (.ret v)) s') fun s' O' S' t1 t2 => ?_) (fun _ _ h => h) (fun _ _ h => h.elim)
  refine ⟨.inl ⟨.bool true, _, [], rfl, fun _ => rfl, ReadsW.bool true, ?_, fun _ => ⟨List.nodup_nil, fun _ hm => (nomatch hm)⟩⟩, Mine.old_end KX S' O' t1 t2, S'.os, O'.bare⟩
  wrow_post
end
