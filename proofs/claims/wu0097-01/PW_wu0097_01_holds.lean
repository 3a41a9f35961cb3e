import PyProof.Rows.All
import Wide.All
import OpenK.AllK
import Wide.FinOn
import PySem.Challenge.RW_wu0097_01
set_option maxRecDepth 100000
set_option maxHeartbeats 0
set_option Elab.async false
set_option linter.all false
namespace Mine
section
open PySem PySem.W PySem.W.X PyProof.Rows
noncomputable def nthS : List Stmt → Nat → Stmt
  | [], _ => .Pass default
  | x :: _, 0 => x
  | _ :: l, n + 1 => nthS l n
noncomputable def pw : Program := PySem.Challenge.pw_wu0097_01
noncomputable def stm (i : Nat) : Stmt := nthS pw.main.body i
noncomputable def inner : Stmt → List Stmt
  | .FunctionDef _ _ b _ _ _ _ _ _ _ => b
  | .ClassDef _ _ _ b _ _ _ _ _ _ _ => b
  | .For _ _ b _ _ => b
  | .While _ b _ _ => b
  | .If _ b _ _ => b
  | .Try b _ _ _ _ => b
  | _ => []
noncomputable def sub (i j : Nat) : Stmt := nthS (inner (stm i)) j
noncomputable def scopeOf : Stmt → Scope
  | .FunctionDef _ _ _ _ _ _ s _ _ _ => s
  | _ => default
noncomputable def nameOf : Stmt → Str
  | .FunctionDef n _ _ _ _ _ _ _ _ _ => n
  | _ => default
noncomputable def argsOf : Stmt → Arguments
  | .FunctionDef _ a _ _ _ _ _ _ _ _ => a
  | _ => default
noncomputable def fobj (d : Stmt) (qual : Str) (clo : List (Str × Addr)) (dV kV pm cd ct : Value) : Obj :=
  ⟨.type SL.s7174869446012820540x8, none, .func ⟨nameOf d, qual, argsOf d, .stmts (inner d), scopeOf d, 3, clo, dV, kV, .none, pm, none, cd, ct, 0⟩, #[]⟩
noncomputable def tW128 : Str := ⟨⟨[95,95,110,97,109,101,95,95]⟩⟩
noncomputable def tW129 : Str := ⟨⟨[98,117,105,108,116,105,110,115]⟩⟩
noncomputable def tW144 : Str := ⟨⟨[95,95,100,111,99,95,95]⟩⟩
noncomputable def tW91 : Str := ⟨⟨[95,95,112,97,99,107,97,103,101,95,95]⟩⟩
noncomputable def tW104 : Str := ⟨⟨[95,95,108,111,97,100,101,114,95,95]⟩⟩
noncomputable def tW130 : Str := ⟨⟨[95,95,115,112,101,99,95,95]⟩⟩
noncomputable def tW47 : Str := ⟨⟨[95,95,98,117,105,108,100,95,99,108,97,115,115,95,95]⟩⟩
noncomputable def tW105 : Str := ⟨⟨[95,95,105,109,112,111,114,116,95,95]⟩⟩
noncomputable def tW209 : Str := ⟨⟨[97,98,115]⟩⟩
noncomputable def tW210 : Str := ⟨⟨[97,108,108]⟩⟩
noncomputable def tW211 : Str := ⟨⟨[97,110,121]⟩⟩
noncomputable def tW166 : Str := ⟨⟨[97,115,99,105,105]⟩⟩
noncomputable def tW212 : Str := ⟨⟨[98,105,110]⟩⟩
noncomputable def tW106 : Str := ⟨⟨[98,114,101,97,107,112,111,105,110,116]⟩⟩
noncomputable def tW131 : Str := ⟨⟨[99,97,108,108,97,98,108,101]⟩⟩
noncomputable def tW213 : Str := ⟨⟨[99,104,114]⟩⟩
noncomputable def tW145 : Str := ⟨⟨[99,111,109,112,105,108,101]⟩⟩
noncomputable def tW146 : Str := ⟨⟨[100,101,108,97,116,116,114]⟩⟩
noncomputable def tW214 : Str := ⟨⟨[100,105,114]⟩⟩
noncomputable def tW160 : Str := ⟨⟨[100,105,118,109,111,100]⟩⟩
noncomputable def tW188 : Str := ⟨⟨[101,118,97,108]⟩⟩
noncomputable def tW189 : Str := ⟨⟨[101,120,101,99]⟩⟩
noncomputable def tW161 : Str := ⟨⟨[102,111,114,109,97,116]⟩⟩
noncomputable def tW147 : Str := ⟨⟨[103,101,116,97,116,116,114]⟩⟩
noncomputable def tW148 : Str := ⟨⟨[103,108,111,98,97,108,115]⟩⟩
noncomputable def tW149 : Str := ⟨⟨[104,97,115,97,116,116,114]⟩⟩
noncomputable def tW190 : Str := ⟨⟨[104,97,115,104]⟩⟩
noncomputable def tW215 : Str := ⟨⟨[104,101,120]⟩⟩
noncomputable def tW230 : Str := ⟨⟨[105,100]⟩⟩
noncomputable def tW167 : Str := ⟨⟨[105,110,112,117,116]⟩⟩
noncomputable def tW107 : Str := ⟨⟨[105,115,105,110,115,116,97,110,99,101]⟩⟩
noncomputable def tW108 : Str := ⟨⟨[105,115,115,117,98,99,108,97,115,115]⟩⟩
noncomputable def tW191 : Str := ⟨⟨[105,116,101,114]⟩⟩
noncomputable def tW168 : Str := ⟨⟨[97,105,116,101,114]⟩⟩
noncomputable def tW216 : Str := ⟨⟨[108,101,110]⟩⟩
noncomputable def tW162 : Str := ⟨⟨[108,111,99,97,108,115]⟩⟩
noncomputable def tW217 : Str := ⟨⟨[109,97,120]⟩⟩
noncomputable def tW218 : Str := ⟨⟨[109,105,110]⟩⟩
noncomputable def tW192 : Str := ⟨⟨[110,101,120,116]⟩⟩
noncomputable def tW169 : Str := ⟨⟨[97,110,101,120,116]⟩⟩
noncomputable def tW219 : Str := ⟨⟨[111,99,116]⟩⟩
noncomputable def tW220 : Str := ⟨⟨[111,114,100]⟩⟩
noncomputable def tW221 : Str := ⟨⟨[112,111,119]⟩⟩
noncomputable def tW170 : Str := ⟨⟨[112,114,105,110,116]⟩⟩
noncomputable def tW193 : Str := ⟨⟨[114,101,112,114]⟩⟩
noncomputable def tW171 : Str := ⟨⟨[114,111,117,110,100]⟩⟩
noncomputable def tW150 : Str := ⟨⟨[115,101,116,97,116,116,114]⟩⟩
noncomputable def tW163 : Str := ⟨⟨[115,111,114,116,101,100]⟩⟩
noncomputable def tW222 : Str := ⟨⟨[115,117,109]⟩⟩
noncomputable def tW194 : Str := ⟨⟨[118,97,114,115]⟩⟩
noncomputable def tW195 : Str := ⟨⟨[78,111,110,101]⟩⟩
noncomputable def tW132 : Str := ⟨⟨[69,108,108,105,112,115,105,115]⟩⟩
noncomputable def tW60 : Str := ⟨⟨[78,111,116,73,109,112,108,101,109,101,110,116,101,100]⟩⟩
noncomputable def tW172 : Str := ⟨⟨[70,97,108,115,101]⟩⟩
noncomputable def tW196 : Str := ⟨⟨[84,114,117,101]⟩⟩
noncomputable def tW197 : Str := ⟨⟨[98,111,111,108]⟩⟩
noncomputable def tW109 : Str := ⟨⟨[109,101,109,111,114,121,118,105,101,119]⟩⟩
noncomputable def tW118 : Str := ⟨⟨[98,121,116,101,97,114,114,97,121]⟩⟩
noncomputable def tW173 : Str := ⟨⟨[98,121,116,101,115]⟩⟩
noncomputable def tW92 : Str := ⟨⟨[99,108,97,115,115,109,101,116,104,111,100]⟩⟩
noncomputable def tW151 : Str := ⟨⟨[99,111,109,112,108,101,120]⟩⟩
noncomputable def tW198 : Str := ⟨⟨[100,105,99,116]⟩⟩
noncomputable def tW119 : Str := ⟨⟨[101,110,117,109,101,114,97,116,101]⟩⟩
noncomputable def tW164 : Str := ⟨⟨[102,105,108,116,101,114]⟩⟩
noncomputable def tW174 : Str := ⟨⟨[102,108,111,97,116]⟩⟩
noncomputable def tW120 : Str := ⟨⟨[102,114,111,122,101,110,115,101,116]⟩⟩
noncomputable def tW133 : Str := ⟨⟨[112,114,111,112,101,114,116,121]⟩⟩
noncomputable def tW223 : Str := ⟨⟨[105,110,116]⟩⟩
noncomputable def tW199 : Str := ⟨⟨[108,105,115,116]⟩⟩
noncomputable def tW224 : Str := ⟨⟨[109,97,112]⟩⟩
noncomputable def tW165 : Str := ⟨⟨[111,98,106,101,99,116]⟩⟩
noncomputable def tW175 : Str := ⟨⟨[114,97,110,103,101]⟩⟩
noncomputable def tW134 : Str := ⟨⟨[114,101,118,101,114,115,101,100]⟩⟩
noncomputable def tW225 : Str := ⟨⟨[115,101,116]⟩⟩
noncomputable def tW176 : Str := ⟨⟨[115,108,105,99,101]⟩⟩
noncomputable def tW81 : Str := ⟨⟨[115,116,97,116,105,99,109,101,116,104,111,100]⟩⟩
noncomputable def tW226 : Str := ⟨⟨[115,116,114]⟩⟩
noncomputable def tW177 : Str := ⟨⟨[115,117,112,101,114]⟩⟩
noncomputable def tW178 : Str := ⟨⟨[116,117,112,108,101]⟩⟩
noncomputable def tW200 : Str := ⟨⟨[116,121,112,101]⟩⟩
noncomputable def tW227 : Str := ⟨⟨[122,105,112]⟩⟩
noncomputable def tW121 : Str := ⟨⟨[95,95,100,101,98,117,103,95,95]⟩⟩
noncomputable def tW69 : Str := ⟨⟨[66,97,115,101,69,120,99,101,112,116,105,111,110]⟩⟩
noncomputable def tW23 : Str := ⟨⟨[66,97,115,101,69,120,99,101,112,116,105,111,110,71,114,111,117,112]⟩⟩
noncomputable def tW122 : Str := ⟨⟨[69,120,99,101,112,116,105,111,110]⟩⟩
noncomputable def tW70 : Str := ⟨⟨[71,101,110,101,114,97,116,111,114,69,120,105,116]⟩⟩
noncomputable def tW32 : Str := ⟨⟨[75,101,121,98,111,97,114,100,73,110,116,101,114,114,117,112,116]⟩⟩
noncomputable def tW110 : Str := ⟨⟨[83,121,115,116,101,109,69,120,105,116]⟩⟩
noncomputable def tW48 : Str := ⟨⟨[65,114,105,116,104,109,101,116,105,99,69,114,114,111,114]⟩⟩
noncomputable def tW61 : Str := ⟨⟨[65,115,115,101,114,116,105,111,110,69,114,114,111,114]⟩⟩
noncomputable def tW62 : Str := ⟨⟨[65,116,116,114,105,98,117,116,101,69,114,114,111,114]⟩⟩
noncomputable def tW93 : Str := ⟨⟨[66,117,102,102,101,114,69,114,114,111,114]⟩⟩
noncomputable def tW135 : Str := ⟨⟨[69,79,70,69,114,114,111,114]⟩⟩
noncomputable def tW94 : Str := ⟨⟨[73,109,112,111,114,116,69,114,114,111,114]⟩⟩
noncomputable def tW95 : Str := ⟨⟨[76,111,111,107,117,112,69,114,114,111,114]⟩⟩
noncomputable def tW96 : Str := ⟨⟨[77,101,109,111,114,121,69,114,114,111,114]⟩⟩
noncomputable def tW123 : Str := ⟨⟨[78,97,109,101,69,114,114,111,114]⟩⟩
noncomputable def tW152 : Str := ⟨⟨[79,83,69,114,114,111,114]⟩⟩
noncomputable def tW63 : Str := ⟨⟨[82,101,102,101,114,101,110,99,101,69,114,114,111,114]⟩⟩
noncomputable def tW82 : Str := ⟨⟨[82,117,110,116,105,109,101,69,114,114,111,114]⟩⟩
noncomputable def tW24 : Str := ⟨⟨[83,116,111,112,65,115,121,110,99,73,116,101,114,97,116,105,111,110]⟩⟩
noncomputable def tW71 : Str := ⟨⟨[83,116,111,112,73,116,101,114,97,116,105,111,110]⟩⟩
noncomputable def tW97 : Str := ⟨⟨[83,121,110,116,97,120,69,114,114,111,114]⟩⟩
noncomputable def tW98 : Str := ⟨⟨[83,121,115,116,101,109,69,114,114,111,114]⟩⟩
noncomputable def tW124 : Str := ⟨⟨[84,121,112,101,69,114,114,111,114]⟩⟩
noncomputable def tW111 : Str := ⟨⟨[86,97,108,117,101,69,114,114,111,114]⟩⟩
noncomputable def tW153 : Str := ⟨⟨[87,97,114,110,105,110,103]⟩⟩
noncomputable def tW25 : Str := ⟨⟨[70,108,111,97,116,105,110,103,80,111,105,110,116,69,114,114,111,114]⟩⟩
noncomputable def tW72 : Str := ⟨⟨[79,118,101,114,102,108,111,119,69,114,114,111,114]⟩⟩
noncomputable def tW33 : Str := ⟨⟨[90,101,114,111,68,105,118,105,115,105,111,110,69,114,114,111,114]⟩⟩
noncomputable def tW83 : Str := ⟨⟨[66,121,116,101,115,87,97,114,110,105,110,103]⟩⟩
noncomputable def tW26 : Str := ⟨⟨[68,101,112,114,101,99,97,116,105,111,110,87,97,114,110,105,110,103]⟩⟩
noncomputable def tW49 : Str := ⟨⟨[69,110,99,111,100,105,110,103,87,97,114,110,105,110,103]⟩⟩
noncomputable def tW73 : Str := ⟨⟨[70,117,116,117,114,101,87,97,114,110,105,110,103]⟩⟩
noncomputable def tW74 : Str := ⟨⟨[73,109,112,111,114,116,87,97,114,110,105,110,103]⟩⟩
noncomputable def tW232 : Str := ⟨⟨[80,101,110,100,105,110,103,68,101,112,114,101,99,97,116,105,111,110,87,97,114,110,105,110,103]⟩⟩
noncomputable def tW50 : Str := ⟨⟨[82,101,115,111,117,114,99,101,87,97,114,110,105,110,103]⟩⟩
noncomputable def tW64 : Str := ⟨⟨[82,117,110,116,105,109,101,87,97,114,110,105,110,103]⟩⟩
noncomputable def tW75 : Str := ⟨⟨[83,121,110,116,97,120,87,97,114,110,105,110,103]⟩⟩
noncomputable def tW65 : Str := ⟨⟨[85,110,105,99,111,100,101,87,97,114,110,105,110,103]⟩⟩
noncomputable def tW99 : Str := ⟨⟨[85,115,101,114,87,97,114,110,105,110,103]⟩⟩
noncomputable def tW51 : Str := ⟨⟨[66,108,111,99,107,105,110,103,73,79,69,114,114,111,114]⟩⟩
noncomputable def tW34 : Str := ⟨⟨[67,104,105,108,100,80,114,111,99,101,115,115,69,114,114,111,114]⟩⟩
noncomputable def tW52 : Str := ⟨⟨[67,111,110,110,101,99,116,105,111,110,69,114,114,111,114]⟩⟩
noncomputable def tW53 : Str := ⟨⟨[70,105,108,101,69,120,105,115,116,115,69,114,114,111,114]⟩⟩
noncomputable def tW35 : Str := ⟨⟨[70,105,108,101,78,111,116,70,111,117,110,100,69,114,114,111,114]⟩⟩
noncomputable def tW41 : Str := ⟨⟨[73,110,116,101,114,114,117,112,116,101,100,69,114,114,111,114]⟩⟩
noncomputable def tW36 : Str := ⟨⟨[73,115,65,68,105,114,101,99,116,111,114,121,69,114,114,111,114]⟩⟩
noncomputable def tW27 : Str := ⟨⟨[78,111,116,65,68,105,114,101,99,116,111,114,121,69,114,114,111,114]⟩⟩
noncomputable def tW54 : Str := ⟨⟨[80,101,114,109,105,115,115,105,111,110,69,114,114,111,114]⟩⟩
noncomputable def tW28 : Str := ⟨⟨[80,114,111,99,101,115,115,76,111,111,107,117,112,69,114,114,111,114]⟩⟩
noncomputable def tW84 : Str := ⟨⟨[84,105,109,101,111,117,116,69,114,114,111,114]⟩⟩
noncomputable def tW42 : Str := ⟨⟨[73,110,100,101,110,116,97,116,105,111,110,69,114,114,111,114]⟩⟩
noncomputable def tW8 : Str := ⟨⟨[95,73,110,99,111,109,112,108,101,116,101,73,110,112,117,116,69,114,114,111,114]⟩⟩
noncomputable def tW112 : Str := ⟨⟨[73,110,100,101,120,69,114,114,111,114]⟩⟩
noncomputable def tW136 : Str := ⟨⟨[75,101,121,69,114,114,111,114]⟩⟩
noncomputable def tW18 : Str := ⟨⟨[77,111,100,117,108,101,78,111,116,70,111,117,110,100,69,114,114,111,114]⟩⟩
noncomputable def tW19 : Str := ⟨⟨[78,111,116,73,109,112,108,101,109,101,110,116,101,100,69,114,114,111,114]⟩⟩
noncomputable def tW1 : Str := ⟨⟨[80,121,116,104,111,110,70,105,110,97,108,105,122,97,116,105,111,110,69,114,114,111,114]⟩⟩
noncomputable def tW66 : Str := ⟨⟨[82,101,99,117,114,115,105,111,110,69,114,114,111,114]⟩⟩
noncomputable def tW37 : Str := ⟨⟨[85,110,98,111,117,110,100,76,111,99,97,108,69,114,114,111,114]⟩⟩
noncomputable def tW85 : Str := ⟨⟨[85,110,105,99,111,100,101,69,114,114,111,114]⟩⟩
noncomputable def tW55 : Str := ⟨⟨[66,114,111,107,101,110,80,105,112,101,69,114,114,111,114]⟩⟩
noncomputable def tW5 : Str := ⟨⟨[67,111,110,110,101,99,116,105,111,110,65,98,111,114,116,101,100,69,114,114,111,114]⟩⟩
noncomputable def tW6 : Str := ⟨⟨[67,111,110,110,101,99,116,105,111,110,82,101,102,117,115,101,100,69,114,114,111,114]⟩⟩
noncomputable def tW14 : Str := ⟨⟨[67,111,110,110,101,99,116,105,111,110,82,101,115,101,116,69,114,114,111,114]⟩⟩
noncomputable def tW137 : Str := ⟨⟨[84,97,98,69,114,114,111,114]⟩⟩
noncomputable def tW29 : Str := ⟨⟨[85,110,105,99,111,100,101,68,101,99,111,100,101,69,114,114,111,114]⟩⟩
noncomputable def tW30 : Str := ⟨⟨[85,110,105,99,111,100,101,69,110,99,111,100,101,69,114,114,111,114]⟩⟩
noncomputable def tW9 : Str := ⟨⟨[85,110,105,99,111,100,101,84,114,97,110,115,108,97,116,101,69,114,114,111,114]⟩⟩
noncomputable def tW67 : Str := ⟨⟨[69,120,99,101,112,116,105,111,110,71,114,111,117,112]⟩⟩
noncomputable def tW43 : Str := ⟨⟨[69,110,118,105,114,111,110,109,101,110,116,69,114,114,111,114]⟩⟩
noncomputable def tW154 : Str := ⟨⟨[73,79,69,114,114,111,114]⟩⟩
noncomputable def tW201 : Str := ⟨⟨[111,112,101,110]⟩⟩
noncomputable def tW202 : Str := ⟨⟨[113,117,105,116]⟩⟩
noncomputable def tW203 : Str := ⟨⟨[101,120,105,116]⟩⟩
noncomputable def tW125 : Str := ⟨⟨[99,111,112,121,114,105,103,104,116]⟩⟩
noncomputable def tW155 : Str := ⟨⟨[99,114,101,100,105,116,115]⟩⟩
noncomputable def tW156 : Str := ⟨⟨[108,105,99,101,110,115,101]⟩⟩
noncomputable def tW204 : Str := ⟨⟨[104,101,108,112]⟩⟩
noncomputable def tW179 : Str := ⟨⟨[116,121,112,101,46,95,95,115,117,98,99,108,97,115,115,101,115,95,95,46,69,120,99,101,112,116,105,111,110,46,48]⟩⟩
noncomputable def tW180 : Str := ⟨⟨[116,121,112,101,46,95,95,115,117,98,99,108,97,115,115,101,115,95,95,46,69,120,99,101,112,116,105,111,110,46,110]⟩⟩
noncomputable def tW76 : Str := ⟨⟨[108,97,119,95,119,117,48,48,57,55,95,48,49]⟩⟩
noncomputable def tW56 : Str := ⟨⟨[95,95,97,110,110,111,116,97,116,105,111,110,115,95,95]⟩⟩
noncomputable def tW86 : Str := ⟨⟨[95,95,98,117,105,108,116,105,110,115,95,95]⟩⟩
noncomputable def tW138 : Str := ⟨⟨[95,95,102,105,108,101,95,95]⟩⟩
noncomputable def tW77 : Str := ⟨⟨[47,99,108,97,105,109,47,99,117,116,46,112,121]⟩⟩
noncomputable def tW113 : Str := ⟨⟨[95,95,99,97,99,104,101,100,95,95]⟩⟩
noncomputable def tW181 : Str := ⟨⟨[95,119,97,108,108]⟩⟩
noncomputable def tW139 : Str := ⟨⟨[67,72,65,82,95,77,65,88]⟩⟩
noncomputable def tW20 : Str := ⟨⟨[95,103,114,111,117,112,105,110,103,95,105,110,116,101,114,118,97,108,115]⟩⟩
noncomputable def tW231 : Str := ⟨⟨[78,76]⟩⟩
noncomputable def tW233 : Str := ⟨⟨[10]⟩⟩
noncomputable def tW100 : Str := ⟨⟨[69,77,80,84,89,83,84,82,73,78,71]⟩⟩
noncomputable def t : Str := ⟨⟨[]⟩⟩
noncomputable def tW57 : Str := ⟨⟨[95,86,97,108,117,101,70,111,114,109,97,116,116,101,114]⟩⟩
noncomputable def tW87 : Str := ⟨⟨[95,65,99,99,117,109,117,108,97,116,111,114]⟩⟩
noncomputable def tW182 : Str := ⟨⟨[69,114,114,111,114]⟩⟩
noncomputable def tW101 : Str := ⟨⟨[101,114,114,111,114,95,114,101,112,108,121]⟩⟩
noncomputable def tW140 : Str := ⟨⟨[112,97,114,115,101,50,53,55]⟩⟩
noncomputable def tW114 : Str := ⟨⟨[87,104,105,116,101,115,112,97,99,101]⟩⟩
noncomputable def tW44 : Str := ⟨⟨[95,108,97,119,95,99,108,111,115,101,100,95,114,111,119,115]⟩⟩
noncomputable def tW38 : Str := ⟨⟨[95,108,97,119,95,112,97,115,115,101,100,95,109,97,114,107,115]⟩⟩
noncomputable def tW115 : Str := ⟨⟨[95,108,97,119,95,114,101,112,108,121]⟩⟩
noncomputable def tW88 : Str := ⟨⟨[95,108,97,119,95,114,101,102,117,115,101,100]⟩⟩
noncomputable def tW228 : Str := ⟨⟨[108,97,119]⟩⟩
noncomputable def tW78 : Str := ⟨⟨[99,112,121,51,49,51,46,108,111,99,97,108,101]⟩⟩
noncomputable def tW141 : Str := ⟨⟨[95,95,105,110,105,116,95,95]⟩⟩
noncomputable def tW0 : Str := ⟨⟨[95,86,97,108,117,101,70,111,114,109,97,116,116,101,114,46,95,95,105,110,105,116,95,95]⟩⟩
noncomputable def tW21 : Str := ⟨⟨[99,112,121,51,49,51,46,101,109,97,105,108,46,104,101,97,100,101,114]⟩⟩
noncomputable def tW205 : Str := ⟨⟨[95,115,116,114]⟩⟩
noncomputable def tW15 : Str := ⟨⟨[95,86,97,108,117,101,70,111,114,109,97,116,116,101,114,46,95,115,116,114]⟩⟩
noncomputable def tW157 : Str := ⟨⟨[110,101,119,108,105,110,101]⟩⟩
noncomputable def tW2 : Str := ⟨⟨[95,86,97,108,117,101,70,111,114,109,97,116,116,101,114,46,110,101,119,108,105,110,101]⟩⟩
noncomputable def tW79 : Str := ⟨⟨[95,97,112,112,101,110,100,95,99,104,117,110,107]⟩⟩
noncomputable def tW183 : Str := ⟨⟨[95,86,97,108,117,101,70,111,114,109,97,116,116,101,114,46,95,97,112,112,101,110,100,95,99,104,117,110,107]⟩⟩
noncomputable def tW116 : Str := ⟨⟨[95,95,109,111,100,117,108,101,95,95]⟩⟩
noncomputable def tW58 : Str := ⟨⟨[95,95,102,105,114,115,116,108,105,110,101,110,111,95,95]⟩⟩
noncomputable def tW158 : Str := ⟨⟨[95,95,115,116,114,95,95]⟩⟩
noncomputable def tW68 : Str := ⟨⟨[97,100,100,95,116,114,97,110,115,105,116,105,111,110]⟩⟩
noncomputable def tW206 : Str := ⟨⟨[102,101,101,100]⟩⟩
noncomputable def tW102 : Str := ⟨⟨[95,109,97,120,108,101,110,103,116,104,115]⟩⟩
noncomputable def tW89 : Str := ⟨⟨[95,97,115,99,105,105,95,115,112,108,105,116]⟩⟩
noncomputable def tW10 : Str := ⟨⟨[95,95,115,116,97,116,105,99,95,97,116,116,114,105,98,117,116,101,115,95,95]⟩⟩
noncomputable def tW142 : Str := ⟨⟨[95,95,100,105,99,116,95,95]⟩⟩
noncomputable def tW103 : Str := ⟨⟨[95,95,119,101,97,107,114,101,102,95,95]⟩⟩
noncomputable def tW11 : Str := ⟨⟨[95,65,99,99,117,109,117,108,97,116,111,114,46,95,95,105,110,105,116,95,95]⟩⟩
noncomputable def tW126 : Str := ⟨⟨[95,95,99,108,97,115,115,95,95]⟩⟩
noncomputable def tW207 : Str := ⟨⟨[112,117,115,104]⟩⟩
noncomputable def tW39 : Str := ⟨⟨[95,65,99,99,117,109,117,108,97,116,111,114,46,112,117,115,104]⟩⟩
noncomputable def tW143 : Str := ⟨⟨[112,111,112,95,102,114,111,109]⟩⟩
noncomputable def tW12 : Str := ⟨⟨[95,65,99,99,117,109,117,108,97,116,111,114,46,112,111,112,95,102,114,111,109]⟩⟩
noncomputable def tW229 : Str := ⟨⟨[112,111,112]⟩⟩
noncomputable def tW45 : Str := ⟨⟨[95,65,99,99,117,109,117,108,97,116,111,114,46,112,111,112]⟩⟩
noncomputable def tW159 : Str := ⟨⟨[95,95,108,101,110,95,95]⟩⟩
noncomputable def tW16 : Str := ⟨⟨[95,65,99,99,117,109,117,108,97,116,111,114,46,95,95,108,101,110,95,95]⟩⟩
noncomputable def tW17 : Str := ⟨⟨[95,65,99,99,117,109,117,108,97,116,111,114,46,95,95,115,116,114,95,95]⟩⟩
noncomputable def tW184 : Str := ⟨⟨[114,101,115,101,116]⟩⟩
noncomputable def tW31 : Str := ⟨⟨[95,65,99,99,117,109,117,108,97,116,111,114,46,114,101,115,101,116]⟩⟩
noncomputable def tW127 : Str := ⟨⟨[105,115,95,111,110,108,121,119,115]⟩⟩
noncomputable def tW7 : Str := ⟨⟨[95,65,99,99,117,109,117,108,97,116,111,114,46,105,115,95,111,110,108,121,119,115]⟩⟩
noncomputable def tW117 : Str := ⟨⟨[112,97,114,116,95,99,111,117,110,116]⟩⟩
noncomputable def tW3 : Str := ⟨⟨[95,65,99,99,117,109,117,108,97,116,111,114,46,112,97,114,116,95,99,111,117,110,116]⟩⟩
noncomputable def tW80 : Str := ⟨⟨[99,112,121,51,49,51,46,102,116,112,108,105,98]⟩⟩
noncomputable def tW22 : Str := ⟨⟨[87,104,105,116,101,115,112,97,99,101,46,95,95,105,110,105,116,95,95]⟩⟩
noncomputable def tW59 : Str := ⟨⟨[99,112,121,51,49,51,46,116,97,98,110,97,110,110,121]⟩⟩
noncomputable def tW90 : Str := ⟨⟨[105,110,100,101,110,116,95,108,101,118,101,108]⟩⟩
noncomputable def tW4 : Str := ⟨⟨[87,104,105,116,101,115,112,97,99,101,46,105,110,100,101,110,116,95,108,101,118,101,108]⟩⟩
noncomputable def tW234 : Str := ⟨⟨[83]⟩⟩
noncomputable def tW185 : Str := ⟨⟨[32]⟩⟩
noncomputable def tW235 : Str := ⟨⟨[84]⟩⟩
noncomputable def tW186 : Str := ⟨⟨[9]⟩⟩
noncomputable def tW13 : Str := ⟨⟨[108,111,110,103,101,115,116,95,114,117,110,95,111,102,95,115,112,97,99,101,115]⟩⟩
noncomputable def tW187 : Str := ⟨⟨[101,113,117,97,108]⟩⟩
noncomputable def tW40 : Str := ⟨⟨[110,111,116,95,101,113,117,97,108,95,119,105,116,110,101,115,115]⟩⟩
noncomputable def tW208 : Str := ⟨⟨[108,101,115,115]⟩⟩
noncomputable def tW46 : Str := ⟨⟨[110,111,116,95,108,101,115,115,95,119,105,116,110,101,115,115]⟩⟩
noncomputable abbrev tN0 := SL.s5856160107412720595x4
noncomputable abbrev tN1 := SL.s14018661285674007319x4
noncomputable abbrev tN2 := SL.s2742458400755230247x6
noncomputable abbrev tN3 := SL.s17162191345867700912x4
noncomputable abbrev tN4 := SL.s2766695959194262286x5
noncomputable abbrev tN5 := SL.s5946037652744460706x9
noncomputable abbrev tN6 := SL.s9222952809800978799x4
noncomputable abbrev tN7 := SL.s4278001404047624695x13
noncomputable abbrev tN8 := SL.s10852414792293593619x7
noncomputable abbrev iV (n : Int) : Value := .int n 0
noncomputable abbrev dE (P : Params) (x : Str) (n : Nat) (v : Value) : DictEntry := ⟨PyData.keyHash P x, .str x n, v⟩
noncomputable def o0 (P : Params) : Obj := .mk (.type tN1) none (.dict ⟨[(dE P tW128 1 (.str tW129 160)), (dE P tW144 2 (.builtin "builtins.__doc__:str#opaque")), (dE P tW91 3 (.builtin "builtins.__package__:str#opaque")), (dE P tW104 4 (.builtin "builtins.__loader__:shared#opaque")), (dE P tW130 5 (.builtin SL.s11665532747177232413x24)), (dE P tW47 6 (.builtin SL.s15183661809925369436x15)), (dE P tW105 7 (.builtin SL.s13915890719876406383x10)), (dE P tW209 8 (.builtin SL.s13459172003223722735x3)), (dE P tW210 9 (.builtin SL.s10557405761357834076x3)), (dE P tW211 10 (.builtin SL.s4233737765568776869x3)), (dE P tW166 11 (.builtin SL.s2508922471967985374x5)), (dE P tW212 12 (.builtin SL.s15574269061696679450x3)), (dE P tW106 13 (.builtin SL.s6016482663378992977x10)), (dE P tW131 14 (.builtin SL.s5596568736180474577x8)), (dE P tW213 15 (.builtin SL.s2839554839881490554x3)), (dE P tW145 16 (.builtin SL.s725004073602090463x7)), (dE P tW146 17 (.builtin SL.s9436932552931045734x7)), (dE P tW214 18 (.builtin SL.s2754603736356183583x3)), (dE P tW160 19 (.builtin SL.s15185746759980889043x6)), (dE P tW188 20 (.builtin SL.s8192189862530294059x4)), (dE P tW189 21 (.builtin SL.s7038307821325472102x4)), (dE P tW161 22 (.builtin SL.s5662562618415449548x6)), (dE P tW147 23 (.builtin SL.s15281542589158584767x7)), (dE P tW148 24 (.builtin SL.s17651547275483570877x7)), (dE P tW149 25 (.builtin SL.s4036449017235975746x7)), (dE P tW190 26 (.builtin SL.s8879979712987360175x4)), (dE P tW215 27 (.builtin SL.s1801250619170735830x3)), (dE P tW230 28 (.builtin SL.s17659931425627118568x2)), (dE P tW167 29 (.builtin SL.s6063217899685152688x5)), (dE P tW107 30 (.builtin SL.s8008927332132565319x10)), (dE P tW108 31 (.builtin SL.s3544116645089599534x10)), (dE P tW191 32 (.builtin SL.s13761710972054866084x4)), (dE P tW168 33 (.builtin SL.s12896375587409280029x5)), (dE P tW216 34 (.builtin SL.s13014049009108672802x3)), (dE P tW162 35 (.builtin SL.s13935586738268321596x6)), (dE P tW217 36 (.builtin SL.s8200498257699607233x3)), (dE P tW218 37 (.builtin SL.s14114244577727609259x3)), (dE P tW192 38 (.builtin SL.s1499430450269397089x4)), (dE P tW169 39 (.builtin SL.s8755793994789770505x5)), (dE P tW219 40 (.builtin SL.s15725212667919936108x3)), (dE P tW220 41 (.builtin SL.s15791221867095933363x3)), (dE P tW221 42 (.builtin SL.s81309575031448614x3)), (dE P tW170 43 (.builtin SL.s8069831620301644142x5)), (dE P tW193 44 (.builtin SL.s10061844253413749634x4)), (dE P tW171 45 (.builtin SL.s9496514870978017513x5)), (dE P tW150 46 (.builtin SL.s8899691144933366716x7)), (dE P tW163 47 (.builtin SL.s15201008993051130160x6)), (dE P tW222 48 (.builtin SL.s741896355592496720x3)), (dE P tW194 49 (.builtin SL.s17925004256654032244x4)), (dE P tW195 50 .none), (dE P tW132 51 .ellipsis), (dE P tW60 52 .notImplemented), (dE P tW172 53 (.bool false)), (dE P tW196 54 (.bool true)), (dE P tW197 55 (.type SL.s11695548795398191787x4)), (dE P tW109 56 (.type SL.s4156966113859768872x10)), (dE P tW118 57 (.type SL.s9501651726347032510x9)), (dE P tW173 58 (.type SL.s15722918466584999320x5)), (dE P tW92 59 (.type SL.s591115383303110208x11)), (dE P tW151 60 (.type SL.s15721156781594690315x7)), (dE P tW198 61 (.type tN1)), (dE P tW119 62 (.type SL.s14340494229221121180x9)), (dE P tW164 63 (.type SL.s13429844117177748173x6)), (dE P tW174 64 (.type SL.s16463266125957815391x5)), (dE P tW120 65 (.type SL.s4922535414793169389x9)), (dE P tW133 66 (.type SL.s8101838861749082086x8)), (dE P tW223 67 (.type SL.s7066276694103001551x3)), (dE P tW199 68 (.type tN6)), (dE P tW224 69 (.type SL.s462964344163437139x3)), (dE P tW165 70 (.type tN2)), (dE P tW175 71 (.type SL.s1438033511350832697x5)), (dE P tW134 72 (.type SL.s14365286008749172514x8)), (dE P tW225 73 (.type SL.s3642769012341782148x3)), (dE P tW176 74 (.type SL.s4674234679698826739x5)), (dE P tW81 75 (.type SL.s16656946322747308186x12)), (dE P tW226 76 (.type SL.s10796804682411823810x3)), (dE P tW177 77 (.type SL.s4290257624100764138x5)), (dE P tW178 78 (.type tN4)), (dE P tW200 79 (.type tN3)), (dE P tW227 80 (.type SL.s14339709457334898076x3)), (dE P tW121 81 (.bool true)), (dE P tW69 82 (.type tN7)), (dE P tW23 83 (.type SL.s6585700554429387442x18)), (dE P tW122 84 (.type tN5)), (dE P tW70 85 (.type SL.s7410770068591931388x13)), (dE P tW32 86 (.type SL.s11817881795495490833x17)), (dE P tW110 87 (.type SL.s15679963881808890155x10)), (dE P tW48 88 (.type SL.s3871700062485845797x15)), (dE P tW61 89 (.type SL.s7689518266570723881x14)), (dE P tW62 90 (.type SL.s9001593270443806431x14)), (dE P tW93 91 (.type SL.s6882542574934516792x11)), (dE P tW135 92 (.type SL.s14403400214490484960x8)), (dE P tW94 93 (.type SL.s14457978657717015782x11)), (dE P tW95 94 (.type SL.s1753610191782819921x11)), (dE P tW96 95 (.type SL.s14119380538032626715x11)), (dE P tW123 96 (.type SL.s11437920000406562045x9)), (dE P tW152 97 (.type tN8)), (dE P tW63 98 (.type SL.s14816307405966870543x14)), (dE P tW82 99 (.type SL.s8682627914449686677x12)), (dE P tW24 100 (.type SL.s4428170145600203450x18)), (dE P tW71 101 (.type SL.s5991306692159431302x13)), (dE P tW97 102 (.type SL.s16067994140765818257x11)), (dE P tW98 103 (.type SL.s2327743974964600596x11)), (dE P tW124 104 (.type SL.s2804747833354056582x9)), (dE P tW111 105 (.type SL.s6070975301684473832x10)), (dE P tW153 106 (.type SL.s14270485950484850486x7)), (dE P tW25 107 (.type SL.s12041534306414923332x18)), (dE P tW72 108 (.type SL.s2531307568338490285x13)), (dE P tW33 109 (.type SL.s631175304937289666x17)), (dE P tW83 110 (.type SL.s5144983644357021410x12)), (dE P tW26 111 (.type SL.s18039099521571816885x18)), (dE P tW49 112 (.type SL.s6011586214260557989x15)), (dE P tW73 113 (.type SL.s5430567037509283100x13)), (dE P tW74 114 (.type SL.s8117915138073963741x13)), (dE P tW232 115 (.type SL.s3423317712779056401x25)), (dE P tW50 116 (.type SL.s2007317383269046180x15)), (dE P tW64 117 (.type SL.s17481586968713580700x14)), (dE P tW75 118 (.type SL.s2450899226349176912x13)), (dE P tW65 119 (.type SL.s16626165730633575011x14)), (dE P tW99 120 (.type SL.s14288496050688921416x11)), (dE P tW51 121 (.type SL.s5735081916595925998x15)), (dE P tW34 122 (.type SL.s3865607918536308442x17)), (dE P tW52 123 (.type SL.s13337502604062700212x15)), (dE P tW53 124 (.type SL.s13114017843053701147x15)), (dE P tW35 125 (.type SL.s17467278006356818441x17)), (dE P tW41 126 (.type SL.s17722149559621369488x16)), (dE P tW36 127 (.type SL.s7855274175708717672x17)), (dE P tW27 128 (.type SL.s13351283678309829046x18)), (dE P tW54 129 (.type SL.s6668348653404991179x15)), (dE P tW28 130 (.type SL.s12913350958174193794x18)), (dE P tW84 131 (.type SL.s16115879512475548326x12)), (dE P tW42 132 (.type SL.s15920661018069861047x16)), (dE P tW8 133 (.type SL.s10779130036587390575x21)), (dE P tW112 134 (.type SL.s7801419657504700863x10)), (dE P tW136 135 (.type SL.s1688129525768580628x8)), (dE P tW18 136 (.type SL.s1031832959479892071x19)), (dE P tW19 137 (.type SL.s8991790508128307865x19)), (dE P tW1 138 (.type SL.s14539662485746970245x23)), (dE P tW66 139 (.type SL.s11643622729373238714x14)), (dE P tW37 140 (.type SL.s3386828779285465597x17)), (dE P tW85 141 (.type SL.s13042696260734638735x12)), (dE P tW55 142 (.type SL.s18239426817015966623x15)), (dE P tW5 143 (.type SL.s1270395311379034370x22)), (dE P tW6 144 (.type SL.s10696252587037064777x22)), (dE P tW14 145 (.type SL.s7852717498200857586x20)), (dE P tW137 146 (.type SL.s6377248116197321094x8)), (dE P tW29 147 (.type SL.s3834378056692298002x18)), (dE P tW30 148 (.type SL.s17586630440231065808x18)), (dE P tW9 149 (.type SL.s15234114252648025395x21)), (dE P tW67 150 (.type SL.s8496462677383758984x14)), (dE P tW43 151 (.type tN8)), (dE P tW154 152 (.type tN8)), (dE P tW201 153 (.builtin SL.s16789243406116112673x4)), (dE P tW202 154 (.builtin SL.s14400166428656793546x20)), (dE P tW203 155 (.builtin SL.s5857708277339239366x20)), (dE P tW125 156 (.builtin "builtins.copyright#opaque")), (dE P tW155 157 (.builtin "builtins.credits#opaque")), (dE P tW156 158 (.builtin "builtins.license#opaque")), (dE P tW204 159 (.builtin SL.s7804999707787243718x20))]⟩ 159) ⟨[]⟩
noncomputable def o2 (P : Params) : Obj := .mk .none none (.dict ⟨[(dE P tW179 435 (iV 199)), (dE P tW180 436 (iV 1))]⟩ 2) ⟨[]⟩
noncomputable def o3 (P : Params) : Obj := .mk (.type tN1) none (.dict ⟨[(dE P tW128 165 (.str tW76 564)), (dE P tW144 166 .none), (dE P tW91 167 .none), (dE P tW104 168 (.builtin SL.s7097527257260152453x26)), (dE P tW130 169 .none), (dE P tW56 170 (.ref 6)), (dE P tW86 171 (.ref 4)), (dE P tW138 173 (.str tW77 172)), (dE P tW113 174 .none), (dE P tW181 193 (.ref 21)), (dE P tW139 197 (.int 127 196)), (dE P tW20 206 (.ref 28)), (dE P tW231 210 (.str tW233 209)), (dE P tW100 212 (.str t 211)), (dE P tW57 320 (.ref 101)), (dE P tW87 416 (.ref 185)), (dE P tW182 438 (.ref 199)), (dE P tW101 454 (.ref 212)), (dE P tW140 465 (.ref 221)), (dE P tW114 563 (.ref 283)), (dE P tW44 571 (.ref 292)), (dE P tW38 587 (.ref 299)), (dE P tW115 593 (.ref 304)), (dE P tW88 601 (.ref 311)), (dE P tW228 607 (.ref 316))]⟩ 25) ⟨[]⟩
noncomputable def o4 : Obj := .mk (.type SL.s6658869562736209489x6) (some 0) .plain ⟨[]⟩
noncomputable def o27 : Obj := .mk (.type tN0) none (.fields ⟨[(.str tW20 198), (.str tW20 199), (.str tW77 200), (iV 6), (iV 1), (iV 0), (iV 0), (iV 35), (.ref 22), (.bool true), (iV 181), (.ref 23), .none, (.ref 24), (.ref 25), (.ref 26), (iV 204), (iV 6), (.str tW77 205)]⟩) ⟨[]⟩
noncomputable def o28 : Obj := fobj (stm 3) tW20 [] .none .none (.str tW78 194) (.ref 27) .none
noncomputable def o41 : Obj := .mk (.type tN0) none (.fields ⟨[(.str tW141 225), (.str tW0 226), (.str tW77 227), (iV 23), (iV 5), (iV 0), (iV 0), (iV 3), (.ref 36), (.bool true), (iV 181), (.ref 37), .none, (.ref 38), (.ref 39), (.ref 40), (iV 233), (iV 23), (.str tW77 234)]⟩) ⟨[]⟩
noncomputable def o42 : Obj := fobj (sub 7 0) tW0 [] .none .none (.str tW21 207) (.ref 41) .none
noncomputable def o48 : Obj := .mk (.type tN0) none (.fields ⟨[(.str tW205 236), (.str tW15 237), (.str tW77 238), (iV 31), (iV 2), (iV 0), (iV 0), (iV 3), (.ref 43), (.bool true), (iV 181), (.ref 44), .none, (.ref 45), (.ref 46), (.ref 47), (iV 241), (iV 31), (.str tW77 242)]⟩) ⟨[]⟩
noncomputable def o49 : Obj := fobj (sub 7 1) tW15 [] .none .none (.str tW21 207) (.ref 48) .none
noncomputable def o62 : Obj := .mk (.type tN0) none (.fields ⟨[(.str tW157 251), (.str tW2 252), (.str tW77 253), (iV 38), (iV 1), (iV 0), (iV 0), (iV 3), (.ref 57), (.bool true), (iV 181), (.ref 58), .none, (.ref 59), (.ref 60), (.ref 61), (iV 256), (iV 38), (.str tW77 257)]⟩) ⟨[]⟩
noncomputable def o63 : Obj := fobj (sub 7 3) tW2 [] .none .none (.str tW21 207) (.ref 62) .none
noncomputable def o97 : Obj := .mk (.type tN0) none (.fields ⟨[(.str tW79 293), (.str tW183 294), (.str tW77 295), (iV 61), (iV 3), (iV 0), (iV 0), (iV 3), (.ref 92), (.bool true), (iV 181), (.ref 93), .none, (.ref 94), (.ref 95), (.ref 96), (iV 304), (iV 61), (.str tW77 305)]⟩) ⟨[]⟩
noncomputable def o98 : Obj := fobj (sub 7 8) tW183 [] .none .none (.str tW21 207) (.ref 97) .none
noncomputable def o100 (P : Params) : Obj := .mk (.type tN1) none (.dict ⟨[(dE P tW116 220 (.str tW21 207)), (dE P tW58 224 (.int 21 223)), (dE P tW141 235 (.ref 42)), (dE P tW205 243 (.ref 49)), (dE P tW158 250 (.ref 56)), (dE P tW157 258 (.ref 63)), (dE P tW68 265 (.ref 70)), (dE P tW206 275 (.ref 77)), (dE P tW102 282 (.ref 84)), (dE P tW89 292 (.ref 91)), (dE P tW79 306 (.ref 98)), (dE P tW10 313 (.ref 99)), (dE P tW142 315 (.ref 102)), (dE P tW103 317 (.ref 103)), (dE P tW144 318 .none)]⟩ 4) ⟨[]⟩
noncomputable def o101 : Obj := .mk (.type tN3) none (.cls (.mk tW57 [(.type tN2)] [(.ref 101), (.type tN2)] 100 tW57 true [] [] false none false)) ⟨[none, none, (some (.str tW57 213)), (some (.str tW57 221)), (some (.builtin SL.s11443829558043349243x14)), (some (.bool true))]⟩
noncomputable def o109 : Obj := .mk (.type SL.s15660640913423913556x4) none (.cell (some (.ref 185))) ⟨[]⟩
noncomputable def o114 : Obj := .mk (.type tN4) none (.seq ⟨[(.int 0 333)]⟩ 0) ⟨[]⟩
noncomputable def o121 : Obj := .mk (.type tN0) none (.fields ⟨[(.str tW141 334), (.str tW11 335), (.str tW77 336), (iV 89), (iV 2), (iV 0), (iV 0), (iV 3), (.ref 116), (.bool true), (iV 181), (.ref 117), .none, (.ref 118), (.ref 119), (.ref 120), (iV 340), (iV 89), (.str tW77 341)]⟩) ⟨[]⟩
noncomputable def o122 : Obj := fobj (sub 8 0) tW11 [(tW126,109)] (.ref 114) .none (.str tW21 207) (.ref 121) (.ref 115)
noncomputable def o128 : Obj := .mk (.type tN0) none (.fields ⟨[(.str tW207 343), (.str tW39 344), (.str tW77 345), (iV 93), (iV 3), (iV 0), (iV 0), (iV 3), (.ref 123), (.bool true), (iV 181), (.ref 124), .none, (.ref 125), (.ref 126), (.ref 127), (iV 349), (iV 93), (.str tW77 350)]⟩) ⟨[]⟩
noncomputable def o129 : Obj := fobj (sub 8 1) tW39 [] .none .none (.str tW21 207) (.ref 128) .none
noncomputable def o130 : Obj := .mk (.type tN4) none (.seq ⟨[(.int 0 352)]⟩ 0) ⟨[]⟩
noncomputable def o136 : Obj := .mk (.type tN0) none (.fields ⟨[(.str tW143 353), (.str tW12 354), (.str tW77 355), (iV 96), (iV 2), (iV 0), (iV 0), (iV 3), (.ref 131), (.bool true), (iV 181), (.ref 132), .none, (.ref 133), (.ref 134), (.ref 135), (iV 359), (iV 96), (.str tW77 360)]⟩) ⟨[]⟩
noncomputable def o137 : Obj := fobj (sub 8 2) tW12 [] (.ref 130) .none (.str tW21 207) (.ref 136) .none
noncomputable def o144 : Obj := .mk (.type tN0) none (.fields ⟨[(.str tW229 362), (.str tW45 363), (.str tW77 364), (iV 101), (iV 1), (iV 0), (iV 0), (iV 3), (.ref 139), (.bool true), (iV 181), (.ref 140), .none, (.ref 141), (.ref 142), (.ref 143), (iV 367), (iV 101), (.str tW77 368)]⟩) ⟨[]⟩
noncomputable def o145 : Obj := fobj (sub 8 3) tW45 [(tW126,109)] .none .none (.str tW21 207) (.ref 144) (.ref 138)
noncomputable def o151 : Obj := .mk (.type tN0) none (.fields ⟨[(.str tW159 370), (.str tW16 371), (.str tW77 372), (iV 106), (iV 1), (iV 0), (iV 0), (iV 3), (.ref 146), (.bool true), (iV 181), (.ref 147), .none, (.ref 148), (.ref 149), (.ref 150), (iV 374), (iV 106), (.str tW77 375)]⟩) ⟨[]⟩
noncomputable def o152 : Obj := fobj (sub 8 4) tW16 [] .none .none (.str tW21 207) (.ref 151) .none
noncomputable def o158 : Obj := .mk (.type tN0) none (.fields ⟨[(.str tW158 377), (.str tW17 378), (.str tW77 379), (iV 109), (iV 1), (iV 0), (iV 0), (iV 3), (.ref 153), (.bool true), (iV 181), (.ref 154), .none, (.ref 155), (.ref 156), (.ref 157), (iV 381), (iV 109), (.str tW77 382)]⟩) ⟨[]⟩
noncomputable def o159 : Obj := fobj (sub 8 5) tW17 [] .none .none (.str tW21 207) (.ref 158) .none
noncomputable def o160 : Obj := .mk (.type tN4) none (.seq ⟨[.none]⟩ 0) ⟨[]⟩
noncomputable def o166 : Obj := .mk (.type tN0) none (.fields ⟨[(.str tW184 384), (.str tW31 385), (.str tW77 386), (iV 112), (iV 2), (iV 0), (iV 0), (iV 3), (.ref 161), (.bool true), (iV 181), (.ref 162), .none, (.ref 163), (.ref 164), (.ref 165), (iV 389), (iV 112), (.str tW77 390)]⟩) ⟨[]⟩
noncomputable def o167 : Obj := fobj (sub 8 6) tW31 [] (.ref 160) .none (.str tW21 207) (.ref 166) .none
noncomputable def o173 : Obj := .mk (.type tN0) none (.fields ⟨[(.str tW127 392), (.str tW7 393), (.str tW77 394), (iV 118), (iV 1), (iV 0), (iV 0), (iV 3), (.ref 168), (.bool true), (iV 181), (.ref 169), .none, (.ref 170), (.ref 171), (.ref 172), (iV 396), (iV 118), (.str tW77 397)]⟩) ⟨[]⟩
noncomputable def o174 : Obj := fobj (sub 8 7) tW7 [] .none .none (.str tW21 207) (.ref 173) .none
noncomputable def o181 : Obj := .mk (.type tN0) none (.fields ⟨[(.str tW117 399), (.str tW3 400), (.str tW77 401), (iV 121), (iV 1), (iV 0), (iV 0), (iV 3), (.ref 176), (.bool true), (iV 181), (.ref 177), .none, (.ref 178), (.ref 179), (.ref 180), (iV 404), (iV 121), (.str tW77 405)]⟩) ⟨[]⟩
noncomputable def o182 : Obj := fobj (sub 8 8) tW3 [(tW126,109)] .none .none (.str tW21 207) (.ref 181) (.ref 175)
noncomputable def o184 (P : Params) : Obj := .mk (.type tN1) none (.dict ⟨[(dE P tW116 328 (.str tW21 207)), (dE P tW58 332 (.int 87 331)), (dE P tW141 342 (.ref 122)), (dE P tW207 351 (.ref 129)), (dE P tW143 361 (.ref 137)), (dE P tW229 369 (.ref 145)), (dE P tW159 376 (.ref 152)), (dE P tW158 383 (.ref 159)), (dE P tW184 391 (.ref 167)), (dE P tW127 398 (.ref 174)), (dE P tW117 406 (.ref 182)), (dE P tW10 408 (.ref 183)), (dE P tW142 411 (.ref 186)), (dE P tW103 413 (.ref 187)), (dE P tW144 414 .none)]⟩ 5) ⟨[]⟩
noncomputable def o185 : Obj := .mk (.type tN3) none (.cls (.mk tW87 [(.type tN6)] [(.ref 185), (.type tN6), (.type tN2)] 184 tW87 true [] [] false none false)) ⟨[(some (.ref 106)), none, (some (.str tW87 321)), (some (.str tW87 329)), (some (.builtin SL.s896114127876100448x12)), (some (.bool true))]⟩
noncomputable def o198 (P : Params) : Obj := .mk (.type tN1) none (.dict ⟨[(dE P tW116 426 (.str tW80 417)), (dE P tW58 430 (.int 124 429)), (dE P tW10 431 (.ref 197)), (dE P tW103 433 (.ref 200)), (dE P tW144 434 .none)]⟩ 3) ⟨[]⟩
noncomputable def o199 : Obj := .mk (.type tN3) none (.cls (.mk tW182 [(.type tN5)] [(.ref 199), (.type tN5), (.type tN7), (.type tN2)] 198 tW182 true [] [(.ref 212)] false none false)) ⟨[(some (.ref 190)), none, (some (.str tW182 419)), (some (.str tW182 427)), (some (.builtin SL.s5160863994218179198x17)), (some (.bool true))]⟩
noncomputable def o211 (P : Params) : Obj := .mk (.type tN1) none (.dict ⟨[(dE P tW116 446 (.str tW80 417)), (dE P tW58 450 (.int 126 449)), (dE P tW10 451 (.ref 210)), (dE P tW144 452 .none)]⟩ 2) ⟨[]⟩
noncomputable def o212 : Obj := .mk (.type tN3) none (.cls (.mk tW101 [(.ref 199)] [(.ref 212), (.ref 199), (.type tN5), (.type tN7), (.type tN2)] 211 tW101 true [] [] false none false)) ⟨[(some (.ref 203)), none, (some (.str tW101 439)), (some (.str tW101 447)), (some (.builtin SL.s5160863994218179198x17)), (some (.bool true))]⟩
noncomputable def o220 : Obj := .mk (.type tN0) none (.fields ⟨[(.str tW140 455), (.str tW140 456), (.str tW77 457), (iV 128), (iV 1), (iV 0), (iV 0), (iV 3), (.ref 215), (.bool true), (iV 181), (.ref 216), .none, (.ref 217), (.ref 218), (.ref 219), (iV 463), (iV 128), (.str tW77 464)]⟩) ⟨[]⟩
noncomputable def o221 : Obj := fobj (stm 12) tW140 [] .none .none (.str tW80 417) (.ref 220) .none
noncomputable def o237 : Obj := .mk (.type tN0) none (.fields ⟨[(.str tW141 485), (.str tW22 486), (.str tW77 487), (iV 149), (iV 2), (iV 0), (iV 0), (iV 3), (.ref 232), (.bool true), (iV 181), (.ref 233), .none, (.ref 234), (.ref 235), (.ref 236), (iV 497), (iV 149), (.str tW77 498)]⟩) ⟨[]⟩
noncomputable def o238 : Obj := fobj (sub 14 1) tW22 [] .none .none (.str tW59 466) (.ref 237) .none
noncomputable def o251 : Obj := .mk (.type tN0) none (.fields ⟨[(.str tW90 507), (.str tW4 508), (.str tW77 509), (iV 175), (iV 2), (iV 0), (iV 0), (iV 3), (.ref 246), (.bool true), (iV 181), (.ref 247), .none, (.ref 248), (.ref 249), (.ref 250), (iV 516), (iV 175), (.str tW77 517)]⟩) ⟨[]⟩
noncomputable def o252 : Obj := fobj (sub 14 3) tW4 [] .none .none (.str tW59 466) (.ref 251) .none
noncomputable def o282 (P : Params) : Obj := .mk (.type tN1) none (.dict ⟨[(dE P tW116 475 (.str tW59 466)), (dE P tW58 479 (.int 146 478)), (dE P tW234 483 (.str tW185 481)), (dE P tW235 484 (.str tW186 482)), (dE P tW141 499 (.ref 238)), (dE P tW13 506 (.ref 245)), (dE P tW90 518 (.ref 252)), (dE P tW187 526 (.ref 259)), (dE P tW40 534 (.ref 266)), (dE P tW208 542 (.ref 273)), (dE P tW46 550 (.ref 280)), (dE P tW10 556 (.ref 281)), (dE P tW142 558 (.ref 284)), (dE P tW103 560 (.ref 285)), (dE P tW144 561 .none)]⟩ 4) ⟨[]⟩
noncomputable def o283 : Obj := .mk (.type tN3) none (.cls (.mk tW114 [(.type tN2)] [(.ref 283), (.type tN2)] 282 tW114 true [] [] false none false)) ⟨[none, none, (some (.str tW114 468)), (some (.str tW114 476)), (some (.builtin SL.s11443829558043349243x14)), (some (.bool true))]⟩
noncomputable def o291 : Obj := .mk (.type tN0) none (.fields ⟨[(.str tW44 566), (.str tW44 567), (.str tW77 568), (iV 194), (iV 3), (iV 0), (iV 0), (iV 3), (.ref 288), (.bool true), (iV 181), (.ref 289), .none, .none, .none, (.ref 290), (iV 569), (iV 194), (.str tW77 570)]⟩) ⟨[]⟩
noncomputable def o292 : Obj := fobj (stm 16) tW44 [] .none .none (.str tW76 564) (.ref 291) .none
noncomputable def o298 : Obj := .mk (.type tN0) none (.fields ⟨[(.str tW38 572), (.str tW38 573), (.str tW77 574), (iV 206), (iV 3), (iV 0), (iV 0), (iV 3), (.ref 293), (.bool true), (iV 181), (.ref 294), .none, (.ref 295), (.ref 296), (.ref 297), (iV 585), (iV 206), (.str tW77 586)]⟩) ⟨[]⟩
noncomputable def o299 : Obj := fobj (stm 17) tW38 [] .none .none (.str tW76 564) (.ref 298) .none
noncomputable def o303 : Obj := .mk (.type tN0) none (.fields ⟨[(.str tW115 588), (.str tW115 589), (.str tW77 590), (iV 220), (iV 3), (iV 0), (iV 0), (iV 3), (.ref 300), (.bool true), (iV 181), (.ref 301), .none, .none, .none, (.ref 302), (iV 591), (iV 220), (.str tW77 592)]⟩) ⟨[]⟩
noncomputable def o304 : Obj := fobj (stm 18) tW115 [] .none .none (.str tW76 564) (.ref 303) .none
noncomputable def o310 : Obj := .mk (.type tN0) none (.fields ⟨[(.str tW88 594), (.str tW88 595), (.str tW77 596), (iV 224), (iV 1), (iV 0), (iV 0), (iV 3), (.ref 305), (.bool true), (iV 181), (.ref 306), .none, (.ref 307), (.ref 308), (.ref 309), (iV 599), (iV 224), (.str tW77 600)]⟩) ⟨[]⟩
noncomputable def o311 : Obj := fobj (stm 19) tW88 [] .none .none (.str tW76 564) (.ref 310) .none
noncomputable def o315 : Obj := .mk (.type tN0) none (.fields ⟨[(.str tW228 602), (.str tW228 603), (.str tW77 604), (iV 230), (iV 1), (iV 0), (iV 0), (iV 3), (.ref 312), (.bool true), (iV 181), (.ref 313), .none, .none, .none, (.ref 314), (iV 605), (iV 230), (.str tW77 606)]⟩) ⟨[]⟩
noncomputable def o316 : Obj := fobj (stm 20) tW228 [] .none .none (.str tW76 564) (.ref 315) .none
noncomputable def frag (P : Params) : Frag := [(0, o0 P), (2, o2 P), (3, o3 P), (4, o4), (27, o27), (28, o28), (41, o41), (42, o42), (48, o48), (49, o49), (62, o62), (63, o63), (97, o97), (98, o98), (100, o100 P), (101, o101), (109, o109), (114, o114), (121, o121), (122, o122), (128, o128), (129, o129), (130, o130), (136, o136), (137, o137), (144, o144), (145, o145), (151, o151), (152, o152), (158, o158), (159, o159), (160, o160), (166, o166), (167, o167), (173, o173), (174, o174), (181, o181), (182, o182), (184, o184 P), (185, o185), (198, o198 P), (199, o199), (211, o211 P), (212, o212), (220, o220), (221, o221), (237, o237), (238, o238), (251, o251), (252, o252), (282, o282 P), (283, o283), (291, o291), (292, o292), (298, o298), (299, o299), (303, o303), (304, o304), (310, o310), (311, o311), (315, o315), (316, o316)]
noncomputable def kt (P : Params) : KT := (.node (some (o0 P)) (.node none (.node (some (o3 P)) (.node none (.node none (.node none (.node (some o63) .nil .nil) (.node none (.node (some o159) .nil .nil) .nil)) (.node none .nil (.node none (.node none (.node (some o303) .nil .nil) .nil) .nil))) (.node none (.node none (.node none .nil (.node (some o199) .nil .nil)) (.node none (.node (some o167) .nil .nil) .nil)) (.node none (.node none (.node (some o151) .nil .nil) .nil) (.node none (.node none (.node (some o311) .nil .nil) .nil) .nil)))) (.node none (.node none (.node none .nil (.node none (.node none (.node (some o291) .nil .nil) .nil) .nil)) (.node none (.node none .nil (.node (some (o211 P)) .nil .nil)) .nil)) (.node (some o27) (.node none .nil (.node none (.node none (.node (some o299) .nil .nil) .nil) .nil)) (.node none (.node none (.node none (.node (some o283) .nil .nil) .nil) .nil) (.node none (.node none (.node (some o315) .nil .nil) .nil) (.node (some o251) .nil .nil)))))) (.node none (.node none (.node none (.node none (.node none (.node (some o129) .nil .nil) .nil) (.node (some o97) .nil .nil)) (.node (some o49) (.node none (.node (some o145) .nil .nil) .nil) .nil)) (.node none (.node (some o41) (.node none (.node (some o137) .nil .nil) .nil) .nil) (.node none .nil (.node (some o121) (.node (some o185) .nil .nil) .nil)))) (.node none (.node none (.node none .nil (.node (some o101) .nil .nil)) (.node none .nil (.node none (.node (some o181) .nil .nil) .nil))) (.node none (.node none .nil (.node (some o109) (.node (some o173) .nil .nil) (.node (some o237) .nil .nil))) (.node none (.node none .nil (.node (some o221) .nil .nil)) .nil))))) (.node (some (o2 P)) (.node (some o4) (.node none (.node none (.node none (.node none (.node (some o128) .nil .nil) .nil) (.node none (.node (some o160) .nil .nil) .nil)) (.node (some o48) (.node none (.node (some o144) .nil .nil) .nil) (.node none (.node none (.node (some o304) .nil .nil) .nil) .nil))) (.node none (.node none (.node none (.node (some o136) .nil .nil) .nil) .nil) (.node none (.node none (.node (some o152) .nil .nil) .nil) (.node none (.node (some (o184 P)) .nil .nil) .nil)))) (.node none (.node none (.node none .nil (.node (some (o100 P)) (.node none (.node (some o292) .nil .nil) .nil) .nil)) (.node none (.node none .nil (.node (some o212) .nil .nil)) .nil)) (.node (some o28) .nil (.node none (.node none .nil (.node (some o220) .nil .nil)) (.node none (.node none (.node (some o316) .nil .nil) .nil) (.node (some o252) .nil .nil)))))) (.node none (.node none (.node none (.node none (.node none (.node (some o130) .nil .nil) .nil) (.node (some o98) .nil .nil)) (.node none .nil (.node (some o114) .nil .nil))) (.node none (.node (some o42) .nil (.node none (.node none (.node (some o298) .nil .nil) .nil) .nil)) (.node none (.node none (.node none (.node (some (o282 P)) .nil .nil) .nil) .nil) (.node (some o122) .nil .nil)))) (.node none (.node none (.node none (.node none .nil (.node (some (o198 P)) .nil .nil)) (.node none (.node (some o166) .nil .nil) .nil)) (.node none .nil (.node none (.node (some o182) (.node (some o310) .nil .nil) .nil) .nil))) (.node none (.node none .nil (.node none (.node (some o174) .nil .nil) (.node (some o238) .nil .nil))) (.node (some o62) (.node none (.node (some o158) .nil .nil) .nil) .nil))))))
theorem kt_eq (P : Params) : KT.of (frag P) = kt P := by kernel_rfl
noncomputable def flw (b1 b2 : Bool) (f : String → Bool) : String → Bool := fun r => match PySem.W.S.eqLit 10139888712337904147300001983332972444938612 r with
  | true => b1
  | false => match PySem.W.S.eqLit 2510650655181157320538776789020469319833841985448949215332 r with
    | true => b2
    | false => f r
noncomputable def prm (b1 b2 : Bool) (P : Params) : Params := { P with followText := flw b1 b2 P.followText }
theorem prm_self (P : Params) : prm (P.followText "special-get-raises") (P.followText "comprehension-iter-twice") P = P := by
  unfold prm
  have : flw (P.followText "special-get-raises") (P.followText "comprehension-iter-twice") P.followText = P.followText := by
    funext r
    unfold flw
    rw [← congrFun (PySem.W.S.eqLit_eq "special-get-raises" _ (by decide +kernel)) r, ← congrFun (PySem.W.S.eqLit_eq "comprehension-iter-twice" _ (by decide +kernel)) r]
    by_cases h : r = "special-get-raises"
    · subst h; rfl
    · have h' : (r == "special-get-raises") = false := by simpa using h
      simp only [h']
      by_cases q : r = "comprehension-iter-twice"
      · subst q; rfl
      · have q' : (r == "comprehension-iter-twice") = false := by simpa using q
        simp only [q']
  rw [this]
noncomputable def den : Code → Sem Fin := PySem.W.Fast.tw11892475500146522536 PySem.W.Fast.tw14364793385576792824
theorem den_eq : den = denote table := by
  unfold den
  rw [table_eq_tree, ← PySem.W.Fast.te11892475500146522536, ← PySem.W.Fast.te14364793385576792824]
noncomputable def quietQ : Code → Bool := PySem.W.ZFast.zw17772548960776305114
theorem quietQ_eq (c : Code) : quietQ c = c.quiet := by
  unfold quietQ
  rw [← PySem.W.ZFast.ze17772548960776305114]
inductive VV where
  | none
  | bool (b : Bool)
  | int (i : Int)
  | str (s : Str)
  | ref (a : Nat)
  | type (n : String)
  | bi (n : String)
noncomputable def vv : Value → Option VV
  | .none => some .none
  | .bool b => some (.bool b)
  | .int i _ => some (.int i)
  | .str s _ => some (.str s)
  | .ref a => some (.ref a)
  | .type n => some (.type n)
  | .builtin n => some (.bi n)
  | _ => none
noncomputable def VV.mk : VV → Nat → Value
  | .none, _ => .none
  | .bool b, _ => .bool b
  | .int i, t => .int i t
  | .str s, t => .str s t
  | .ref a, _ => .ref a
  | .type n, _ => .type n
  | .bi n, _ => .builtin n
inductive SL where
  | none
  | ni
  | ref (a : Nat)
noncomputable def SL.mk : SL → Value
  | .none => .none
  | .ni => .notImplemented
  | .ref a => .ref a
noncomputable def slOf : Option Value → Option (Option SL)
  | none => some none
  | some v => match v with
    | .none => some (some .none)
    | .notImplemented => some (some .ni)
    | .ref a => some (some (.ref a))
    | _ => none
noncomputable def slMk : Option SL → Option Value
  | none => none
  | some v => some v.mk
noncomputable def slsOf : List (Option Value) → Option (List (Option SL))
  | [] => some []
  | v :: l => match slOf v with
    | some x => match slsOf l with
      | some r => some (x :: r)
      | none => none
    | none => none
noncomputable def slsMk : List (Option SL) → List (Option Value)
  | [] => []
  | v :: l => slMk v :: slsMk l
inductive PV where
  | fr (l : List (Str × VV)) (x : Option SL) (r : List (Option SL))
  | plain
  | seq (l : List VV)
  | dict (l : List (Str × VV))
  | cell (v : Option VV)
  | fields (l : List VV)
structure OV where
  cls : VV
  dict : Option Nat
  pay : PV
noncomputable def keyOf : DictEntry → Option (Str × VV)
  | ⟨_, k, v⟩ => match k with
    | .str s _ => match vv v with
      | some x => some (s, x)
      | none => none
    | _ => none
noncomputable def keysOf : List DictEntry → Option (List (Str × VV))
  | [] => some []
  | e :: l => match keyOf e with
    | some x => match keysOf l with
      | some r => some (x :: r)
      | none => none
    | none => none
noncomputable def vvs : List Value → Option (List VV)
  | [] => some []
  | v :: l => match vv v with
    | some x => match vvs l with
      | some r => some (x :: r)
      | none => none
    | none => none
noncomputable def payOf : Data → Option PV
  | .plain => some .plain
  | .seq xs _ => match vvs xs.toList with
    | some l => some (.seq l)
    | none => none
  | .dict es _ => match keysOf es.toList with
    | some l => some (.dict l)
    | none => none
  | .cell v => match v with
    | some v => match vv v with
      | some x => some (.cell (some x))
      | none => none
    | none => some (.cell none)
  | .fields xs => match vvs xs.toList with
    | some l => some (.fields l)
    | none => none
  | _ => none
noncomputable def ov : Obj → Option OV
  | ⟨c, d, dt, sl⟩ => match sl.toList with
    | [] => match vv c with
      | some x => match payOf dt with
        | some p => some ⟨x, d, p⟩
        | none => none
      | none => none
    | y :: ys => match vv c with
      | some x => match dt with
        | .dict es _ => match keysOf es.toList with
          | some l => match slOf y with
            | some z => match slsOf ys with
              | some zs => some ⟨x, d, .fr l z zs⟩
              | none => none
            | none => none
          | none => none
        | _ => none
      | none => none
structure TK where
  t : Nat → Nat
  u : Nat → Nat
  h : Nat → Int
  e : Nat
noncomputable def mkVs (k : Nat → Nat) : Nat → List VV → List Value
  | _, [] => []
  | i, v :: l => v.mk (k i) :: mkVs k (Nat.succ i) l
noncomputable def mkEs (k : TK) : Nat → List (Str × VV) → List DictEntry
  | _, [] => []
  | i, q :: l => ⟨k.h i, .str q.1 (k.u i), q.2.mk (k.t i)⟩ :: mkEs k (Nat.succ i) l
noncomputable def OV.mk' (o : OV) (k : TK) : Obj := ⟨o.cls.mk 0, o.dict, match o.pay with
  | .plain => .plain
  | .seq l => .seq ⟨mkVs k.t 0 l⟩ k.e
  | .dict l => .dict ⟨mkEs k 0 l⟩ k.e
  | .cell v => .cell (match v with | some v => some (v.mk (k.t 0)) | none => none)
  | .fields l => .fields ⟨mkVs k.t 0 l⟩
  | .fr l _ _ => .dict ⟨mkEs k 0 l⟩ k.e, match o.pay with
  | .fr _ x r => ⟨slMk x :: slsMk r⟩
  | _ => ⟨[]⟩⟩
inductive RV where
  | ret (v : VV)
  | next
  | brk
  | err (v : VV)
noncomputable def RV.mk : RV → Nat → Result
  | .ret v, t => .ok (.ret (v.mk t))
  | .next, _ => .ok .next
  | .brk, _ => .ok .brk
  | .err v, t => .error (v.mk t)
noncomputable def rv : Result → Option RV
  | .ok f => match f with
    | .ret v => match vv v with
      | some x => some (.ret x)
      | none => none
    | .next => some .next
    | .brk => some .brk
    | .cont => none
  | .error e => match vv e with
    | some x => some (.err x)
    | none => none
inductive Kd where
  | func
  | wh
  | fo
  | call
  | bi (id : String)
  | biR (id : String)
  | biT (id : String)
  | cd (c : Code)
structure Cp where
  b : List Stmt
  o : List Stmt
  e : Env
  x : PySem.Expr
  v : Value
  a : Args
  q : Pos
  n : Nat
  s : String
noncomputable def Kd.mk (k : Kd) (c : Cp) : Code × Pos := (match k with
  | .func => .func c.b c.e
  | .wh => .whileLoop c.x c.b c.o c.e
  | .fo => .forLoop c.x c.v c.b c.o c.e
  | .call => .call c.v c.a
  | .bi id => .builtin id c.a
  | .biR id => .builtin id ⟨.ref c.n :: c.a.pos, c.a.kw⟩
  | .biT id => .builtin id ⟨.type c.s :: c.a.pos, c.a.kw⟩
  | .cd c' => c', c.q)
noncomputable def buildW : List Kd → (Nat → Cp) → Nat → List (Code × Pos)
  | [], _, _ => []
  | k :: l, c, i => k.mk (c i) :: buildW l c (Nat.succ i)
noncomputable def kindOf : Code → Option Kd
  | .func _ _ => some .func
  | .whileLoop _ _ _ _ => some .wh
  | .forLoop _ _ _ _ _ => some .fo
  | .call _ _ => some .call
  | .builtin id a => match a.pos with
    | [] => some (.bi id)
    | v :: _ => match v with
      | .ref _ => some (.biR id)
      | .type _ => some (.biT id)
      | _ => some (.bi id)
  | _ => none
noncomputable def kindsOf : List Frame → Option (List Kd)
  | [] => some []
  | f :: l => match kindOf f.where_.1 with
    | some k => match kindsOf l with
      | some r => some (k :: r)
      | none => none
    | none => none
inductive SV where
  | ob (x : Obj)
  | vw (x : OV)
noncomputable def SV.Of : SV → Obj → Prop
  | .ob x, y => y = x
  | .vw x, y => ov y = some x
structure HT where
  t : Nat
  dt : Nat
  dj : Nat
  dg : Nat
  na : Nat → Nat
  u : Nat → TK
  v : Nat → TK
inductive HC where
  | call (f : VV) (args : List VV)
  | code (c : Code)
noncomputable def HC.Is : HC → Code → Prop
  | .call fv args, c => ∃ f vs, c = .call f ⟨vs, []⟩ ∧ vv f = some fv ∧ vvs vs = some args
  | .code c₀, c => c = c₀
inductive Ora where
  | n (k : Nat)
  | hook (tabs sp code : Bool) (need : List (Nat × Bool)) (r : List Nat → (Nat → Nat) → RV) (upd : List Nat → (Nat → Nat) → List (Nat × OV)) (news : List Nat → (Nat → Nat) → List OV) (gneed : List Nat) (gupd : List Nat → (Nat → Nat) → List (Nat × GenState))
  | alt (m : Nat) (f : List Nat → Sem Fin)
structure Hook where
  tabs : Bool
  c : HC
  ks : Option (List Kd)
  need : List (Nat × SV)
  r : (Nat → Nat) → RV
  upd : (Nat → Nat) → List (Nat × OV)
  news : (Nat → Nat) → List OV
  gneed : List (Nat × GenState)
  gupd : (Nat → Nat) → List (Nat × GenState)
inductive Ob where
  | hook (k : Hook)
  | same (t t' : Sem Fin)
structure Sta where
  P : Params
  kt : KT
  tabs : Bool
  as : List Nat
  K : Nat
  nb : Nat
  tb : Nat
  gs : List Nat
  gb : Nat
  ks : Option (List Kd)
  Wb : List (Code × Pos)
structure St where
  T : BT
  m : Nat
  al : List Nat
  j : Nat
  tj : Nat
  gl : List (Nat × GenState)
  gj : Nat
  t : Sem Fin
  c : Code
  p : Pos
  pre : List Frame
  O : List (Nat × Nat)
  H : List Ob
noncomputable def nth (l : List Nat) (i : Nat) : Nat := l.getD i 0
noncomputable def Sta.adr (V : Sta) (al : List Nat) (i : Nat) : Nat := match Nat.blt i V.K with
  | true => nth V.as i
  | false => nth al (Nat.sub i V.K)
noncomputable def nthG : List (Nat × GenState) → Nat → Option (Nat × GenState)
  | [], _ => none
  | x :: _, 0 => some x
  | _ :: l, n + 1 => nthG l n
noncomputable def setG : List (Nat × GenState) → Nat → GenState → List (Nat × GenState)
  | [], _, _ => []
  | x :: l, 0, y => (x.1, y) :: l
  | x :: l, n + 1, y => x :: setG l n y
noncomputable def see (V : Sta) (al : List Nat) (T : BT) : List (Nat × Bool) → Option (List (Nat × SV))
  | [] => some []
  | (i, b) :: l => match T.get i with
    | some o => match b with
      | false => match see V al T l with
        | some r => some ((V.adr al i, .ob o) :: r)
        | none => none
      | true => match ov o with
        | some v => match see V al T l with
          | some r => some ((V.adr al i, .vw v) :: r)
          | none => none
        | none => none
    | none => none
noncomputable def isNo : Option Value → Bool
  | none => true
  | some _ => false
noncomputable def unmarked (fs : List Frame) : Bool := match isNo (marksOver fs (none, none)).1 with
  | true => isNo (marksOver fs (none, none)).2
  | false => false
noncomputable def clsOk (x : VV) : Bool := match x with
  | .ref _ => true
  | .type _ => true
  | .none => true
  | _ => false
noncomputable def has (i : Nat) : List Nat → Bool
  | [] => false
  | k :: l => match Nat.beq i k with
    | true => true
    | false => has i l
noncomputable def uniq : List Nat → Bool
  | [] => true
  | k :: l => match has k l with
    | true => false
    | false => uniq l
noncomputable def updOk (T : BT) : List (Nat × OV) → Bool
  | [] => true
  | (i, o) :: l => match T.get i with
    | some _ => match clsOk o.cls with
      | false => false
      | true => updOk T l
    | none => false
noncomputable def adrs (V : Sta) (al : List Nat) (l : List (Nat × OV)) : List (Nat × OV) := l.map fun q => (V.adr al q.1, q.2)
noncomputable def setAll (u : Nat → TK) : Nat → BT → List (Nat × OV) → BT
  | _, T, [] => T
  | m, T, (i, o) :: l => setAll u (Nat.succ m) (T.set i fun _ => o.mk' (u m)) l
noncomputable def insAll (u : Nat → TK) (b : Nat) : Nat → List OV → BT → Option BT
  | _, [], T => some T
  | m, o :: l, T => match clsOk o.cls with
    | false => none
    | true => match (T.ins (Nat.add b m) (o.mk' (u m))).get (Nat.add b m) with
      | some _ => insAll u b (Nat.succ m) l (T.ins (Nat.add b m) (o.mk' (u m)))
      | none => none
noncomputable def naL (na : Nat → Nat) : Nat → Nat → List Nat
  | _, 0 => []
  | i, n + 1 => na i :: naL na (Nat.succ i) n
noncomputable def seeG (l : List (Nat × GenState)) : List Nat → Option (List (Nat × GenState))
  | [] => some []
  | i :: r => match nthG l i with
    | some y => match seeG l r with
      | some z => some (y :: z)
      | none => none
    | none => none
noncomputable def gupdOk (gl : List (Nat × GenState)) : List (Nat × GenState) → Bool
  | [] => true
  | (i, _) :: l => match nthG gl i with
    | some _ => gupdOk gl l
    | none => false
noncomputable def numG (gl : List (Nat × GenState)) (i : Nat) : Nat := match nthG gl i with
  | some x => x.1
  | none => 0
noncomputable def nums (gl : List (Nat × GenState)) (l : List (Nat × GenState)) : List (Nat × GenState) := l.map fun q => (numG gl q.1, q.2)
noncomputable def setAllG (gl : List (Nat × GenState)) : List (Nat × GenState) → List (Nat × GenState)
  | [] => gl
  | (i, y) :: l => setAllG (setG gl i y) l
noncomputable def ask1 (or : List Ora) (f : Nat → List Ora → Option (List Ora × St)) : Option (List Ora × St) := match or with
  | [] => none
  | a :: or => match a with
    | .n k => f k or
    | .hook .. => none
    | .alt _ _ => none
noncomputable def leaf (or : List Ora) (T : BT) (m : Nat) (al : List Nat) (j tj : Nat) (gl : List (Nat × GenState)) (gj : Nat) (O : List (Nat × Nat)) (H : List Ob) (r : Result) : List Frame → Option (List Ora × St)
  | [] => none
  | f :: pre => match f with
    | .ret k _ _ _ c p _ => some (or, ⟨T, m, al, j, tj, gl, gj, k r, c, p, pre, O, H⟩)
    | .gen g k _ c p => ask1 or fun i or => match nthG gl i with
      | some x => some (or, ⟨T, m, al, j, tj, setG gl i .finished, gj, k (End.ret r).result, c, p, pre, (g, x.1) :: O, H⟩)
      | none => none
noncomputable def tabsOk : Bool → Bool → Bool
  | true, false => false
  | _, _ => true
noncomputable def spOf (V : Sta) (sp : Bool) (pre : List Frame) : Option (Option (List Kd)) := match sp with
  | false => some none
  | true => match V.ks with
    | none => none
    | some ks => match kindsOf pre with
      | some l => some (some (l ++ ks))
      | none => none
noncomputable def hcOf : Bool → Code → Option HC
  | true, c => some (.code c)
  | false, c => match c with
    | .call f a => match a.kw with
      | _ :: _ => none
      | [] => match vv f with
        | none => none
        | some fv => match vvs a.pos with
          | none => none
          | some args => some (.call fv args)
    | _ => none
noncomputable def gd {α : Type} (b : Bool) (k : Option α) : Option α := match b with
  | true => k
  | false => none
noncomputable def bd {α β : Type} (o : Option α) (f : α → Option β) : Option β := match o with
  | none => none
  | some a => f a
theorem gd_inv {α : Type} {b : Bool} {k : Option α} {x : α} (h : gd b k = some x) : b = true ∧ k = some x := by
  cases b
  · cases h
  · exact ⟨rfl, h⟩
theorem bd_inv {α β : Type} {o : Option α} {f : α → Option β} {x : β} (h : bd o f = some x) : ∃ a, o = some a ∧ f a = some x := by
  cases o with
  | none => cases h
  | some a => exact ⟨a, rfl, h⟩
noncomputable def hooked (V : Sta) (ht : HT) (tabs sp code : Bool) (need : List (Nat × Bool)) (r : (Nat → Nat) → RV) (upd : (Nat → Nat) → List (Nat × OV)) (news : (Nat → Nat) → List OV) (gneed : List Nat) (gupd : (Nat → Nat) → List (Nat × GenState)) (or : List Ora)
    (T : BT) (m : Nat) (al : List Nat) (j tj : Nat) (gl : List (Nat × GenState)) (gj : Nat) (c' : Code) (hd : Option Value) (g : Bool) (l : List Value) (k : Result → Sem Fin) (c : Code) (p : Pos) (pre : List Frame) (O : List (Nat × Nat)) (H : List Ob) : Option (List Ora × St) := match hd with
  | some _ => none
  | none => gd (unmarked pre) (gd (tabsOk tabs V.tabs) (bd (hcOf code c') fun hc => gd (uniq (need.map Prod.fst)) (bd (see V al T need) fun nd => bd (spOf V sp (.ret k hd g l c p [] :: pre)) fun ks => gd (updOk T (upd ht.na)) (bd (seeG gl gneed) fun gnd => gd (uniq gneed) (gd (gupdOk gl (gupd ht.na))
    (bd (insAll ht.v (Nat.add V.K m) 0 (news ht.na) (setAll ht.u 0 T (upd ht.na))) fun T' => some (or, ⟨T', Nat.add m (news ht.na).length, al ++ naL ht.na 0 (news ht.na).length, Nat.add j ht.dj, Nat.add tj ht.dt, setAllG gl (gupd ht.na), Nat.add gj ht.dg, k ((r ht.na).mk ht.t), c, p, pre, O,
      .hook ⟨tabs, hc, ks, nd, r, fun na => adrs V al (upd na), news, gnd, fun na => nums gl (gupd na)⟩ :: H⟩)))))))
noncomputable def step0 (V : Sta) (τ : Nat → HT) (or : List Ora) : St → Option (List Ora × St)
  | ⟨T, m, al, j, tj, gl, gj, t, c, p, pre, O, H⟩ => match t with
    | .pure fin => match fin with
      | .done f => leaf or T m al j tj gl gj O H (.ok f) pre
      | .again c' => match quietQ c' with
        | true => some (or, ⟨T, m, al, j, tj, gl, gj, den c', c', p, pre, O, H⟩)
        | false => none
    | .raise e => leaf or T m al j tj gl gj O H (.error e) pre
    | .rule _ k => some (or, ⟨T, m, al, j, tj, gl, gj, k (), c, p, pre, O, H⟩)
    | .at q k => some (or, ⟨T, m, al, j, tj, gl, gj, k (), c, q, pre, O, H⟩)
    | .point _ k => some (or, ⟨T, m, al, j, tj, gl, gj, k (), c, p, pre, O, H⟩)
    | .ask k => some (or, ⟨T, m, al, j, tj, gl, gj, k ⟨pw, V.P⟩, c, p, pre, O, H⟩)
    | .load a _ k => ask1 or fun i or => match i with
      | 0 => match V.kt.get a with
        | some o => some (or, ⟨T, m, al, j, tj, gl, gj, k o, c, p, pre, O, H⟩)
        | none => none
      | i + 1 => match T.get i with
        | some o => some (or, ⟨T, m, al, j, tj, gl, gj, k o, c, p, pre, (a, V.adr al i) :: O, H⟩)
        | none => none
    | .update a _ f k => ask1 or fun i or => match i with
      | 0 => none
      | i + 1 => match T.get i with
        | some o => match (f o).isFreed with
          | true => none
          | false => some (or, ⟨T.set i f, m, al, j, tj, gl, gj, k (), c, p, pre, (a, V.adr al i) :: O, H⟩)
        | none => none
    | .alloc o k => match o.isFreed with
      | true => none
      | false => match (T.ins (Nat.add V.K m) o).get (Nat.add V.K m) with
        | some _ => some (or, ⟨T.ins (Nat.add V.K m) o, Nat.succ m, al ++ [Nat.add V.nb j], Nat.succ j, tj, gl, gj, k (Nat.add V.nb j), c, p, pre, O, H⟩)
        | none => none
    | .fresh k => some (or, ⟨T, m, al, j, Nat.succ tj, gl, gj, k (Nat.add V.tb tj), c, p, pre, O, H⟩)
    | .stack k => some (or, ⟨T, m, al, j, tj, gl, gj, k ((c, p) :: (pre.map Frame.where_ ++ V.Wb)), c, p, pre, O, H⟩)
    | .handled own k => match own with
      | false => some (or, ⟨T, m, al, j, tj, gl, gj, k (marksOver pre (none, none)).1, c, p, pre, O, H⟩)
      | true => none
    | .call c' h g l k => match or with
      | [] => none
      | a :: or => match a with
        | .n _ => some (or, ⟨T, m, al, j, tj, gl, gj, den c', c', p, .ret k h g l c p [] :: pre, O, H⟩)
        | .hook tabs sp code need r upd news gneed gupd => hooked V (τ H.length) tabs sp code need (r al) (upd al) (news al) gneed (gupd al) or T m al j tj gl gj c' h g l k c p pre O H
        | .alt _ _ => none
    | .newGen c' k => some (or, ⟨T, m, al, j, tj, gl ++ [(Nat.add V.gb gj, .fresh c')], Nat.succ gj, k (Nat.add V.gb gj), c, p, pre, O, H⟩)
    | .genState g k => ask1 or fun i or => match nthG gl i with
      | some x => some (or, ⟨T, m, al, j, tj, gl, gj, k x.2.seen, c, p, pre, (g, x.1) :: O, H⟩)
      | none => none
    | .resume g r l k => ask1 or fun i or => match nthG gl i with
      | some x => match x.2 with
        | .fresh c₀ => match r with
          | .send v => match v with
            | .none => some (or, ⟨T, m, al, j, tj, setG gl i .running, gj, den c₀, c₀, p, .gen g k l c p :: pre, (g, x.1) :: O, H⟩)
            | _ => none
          | .throw _ => none
        | .suspended kk _ c₀ p₀ fs _ => some (or, ⟨T, m, al, j, tj, setG gl i .running, gj, kk r, c₀, p₀, fs ++ .gen g k l c p :: pre, (g, x.1) :: O, H⟩)
        | .running => none
        | .finished => none
      | none => none
    | .yield v g0 l kk => match splitAtGen pre with
      | some (fs, (g, k, c', p'), rest) => match (End.susp v g0 l kk c p fs).quiet with
        | true => ask1 or fun i or => match nthG gl i with
          | some x => some (or, ⟨T, m, al, j, tj, setG gl i (End.susp v g0 l kk c p fs).genState, gj, k (.yielded v), c', p', rest, (g, x.1) :: O, H⟩)
          | none => none
        | false => none
      | none => none
    | _ => none
noncomputable def step (V : Sta) (τ : Nat → HT) (or : List Ora) (x : St) : Option (List Ora × St) := match or with
  | [] => step0 V τ [] x
  | a :: or' => match a with
    | .alt m f => match m with
      | 0 => some (or', ⟨x.T, x.m, x.al, x.j, x.tj, x.gl, x.gj, f x.al, x.c, x.p, x.pre, x.O, .same x.t (f x.al) :: x.H⟩)
      | m + 1 => match step0 V τ [] x with
        | some r => some (.alt m f :: or', r.2)
        | none => none
    | .n _ => step0 V τ or x
    | .hook .. => step0 V τ or x
noncomputable def ev (V : Sta) (τ : Nat → HT) : Nat → List Ora → St → Option (List Ora × St)
  | 0, or, x => some (or, x)
  | n + 1, or, x => match step V τ or x with
    | some r => ev V τ n r.1 r.2
    | none => none
noncomputable abbrev Mo (prog : Program) (w : World) : Model := ⟨den, prog, w⟩
theorem Mo_eq (prog : Program) (w : World) : Mo prog w = model prog w := by
  unfold Mo model
  rw [den_eq]
noncomputable def Cells (h : Heap) (L : List (Nat × OV)) : Prop := ∀ q ∈ L, ∃ o, h.get? q.1 = some o ∧ ov o = some q.2
noncomputable def Bot (base : List Frame) : Prop := topHandled base = none ∧ topHandled.go true base = none
noncomputable def Spine (ks : List Kd) (base : List Frame) : Prop := ∃ c, base.map Frame.where_ = buildW ks c 0
noncomputable def TblOk (h : Heap) (a : Nat) (m n : Int) : Prop := ∃ o, h.get? a = some o ∧ (ov o = some ⟨.none, none, .fields []⟩ ∨ ∃ cg, ov o = some ⟨.none, none, .fields [.int m, .int n, .ref cg]⟩)
noncomputable def Tbls (h : Heap) : Prop := TblOk h 147 107 19 ∧ TblOk h 154 110 32
theorem TblOk.keep {h h' : Heap} {a : Nat} {m n : Int} (t : TblOk h a m n) (k : ∀ o, h.get? a = some o → h'.get? a = some o) : TblOk h' a m n := by
  obtain ⟨o, e, q⟩ := t
  exact ⟨o, k o e, q⟩
noncomputable def Tabs (t : Bool) (b : Nat) : Prop := t = true → b ≠ 147 ∧ b ≠ 154
theorem Tbls.keep {h h' : Heap} (t : Tbls h) (k : ∀ a o, (a = 147 ∨ a = 154) → h.get? a = some o → h'.get? a = some o) : Tbls h' :=
  ⟨t.1.keep fun o e => k _ o (.inl rfl) e, t.2.keep fun o e => k _ o (.inr rfl) e⟩
structure After (k : Hook) (na : Nat → Nat) (s s' : Shared) : Prop where
  size : s.heap.objs.size ≤ s'.heap.objs.size
  keep : ∀ b o, s.heap.get? b = some o → b ∉ (k.upd na).map Prod.fst → Tabs k.tabs b → s'.heap.get? b = some o
  upd : Cells s'.heap (k.upd na)
  new : ∀ (i : Nat) (q : OV), (k.news na)[i]? = some q → s.heap.objs.size ≤ na i ∧ ∃ o, s'.heap.get? (na i) = some o ∧ ov o = some q
  nand : ∀ i j, i < (k.news na).length → j < (k.news na).length → na i = na j → i = j
  tbl : k.tabs = true → Tbls s'.heap
  toks : s.toks ≤ s'.toks
  gsize : s.gens.size ≤ s'.gens.size
  gkeep : ∀ (g : Nat) (y : GenState), s.gens[g]? = some y → g ∉ (k.gupd na).map Prod.fst → s'.gens[g]? = some y
  gupd : ∀ q ∈ k.gupd na, s'.gens[q.1]? = some q.2
  bare : AllBare s.gens → AllBare s'.gens
  drawn : s'.drawn = s.drawn
  os : s'.os = s.os
noncomputable def Eff (w : World) (k : Hook) : Prop := ∀ (base : List Frame) (p : Pos) (s : Shared) (c : Code), k.c.Is c → Bot base → (∀ ks, k.ks = some ks → Spine ks base) →
  (∀ a o, (Mine.kt w.params).get a = some o → s.heap.get? a = some o) → (k.tabs = true → Tbls s.heap) →
  (∀ q ∈ k.need, ∃ o, s.heap.get? q.1 = some o ∧ q.2.Of o) → (k.need.map Prod.fst).Nodup → (∀ q ∈ k.need, (Mine.kt w.params).get q.1 = none ∧ Tabs k.tabs q.1) → (∀ q ∈ k.gneed, s.gens[q.1]? = some q.2) → (k.gneed.map Prod.fst).Nodup →
  ∃ na r s', Reach (Mo pw w) base s (den c) c p [] s' (.ret r) ∧ rv r = some (k.r na) ∧ After k na s s'
noncomputable def Ob.Ok (w : World) : Ob → Prop
  | .hook k => Eff w k
  | .same t t' => t = t'
structure Sta.Ok (V : Sta) (w : World) (h₀ : Heap) : Prop where
  P : V.P = w.params
  kte : V.kt = Mine.kt w.params
  len : V.as.length = V.K
  nd : V.as.Nodup
  lt : ∀ a ∈ V.as, a < V.nb
  kt : ∀ a o, V.kt.get a = some o → h₀.get? a = some o
  off : ∀ a ∈ V.as, V.kt.get a = none
  size : h₀.objs.size = V.nb
  tabs : ∀ a ∈ V.as, Tabs V.tabs a
  big : 317 ≤ V.nb
structure Sat (V : Sta) (s₀ s : Shared) (x : St) : Prop where
  size : s.heap.objs.size = V.nb + x.j
  alen : x.al.length = x.m
  alb : ∀ a ∈ x.al, V.nb ≤ a ∧ a < V.nb + x.j
  alnd : x.al.Nodup
  own : ∀ i o, x.T.get i = some o → i < V.K + x.m ∧ s.heap.get? (V.adr x.al i) = some o
  keep : ∀ b o, s₀.heap.get? b = some o → b ∉ V.as → Tabs V.tabs b → s.heap.get? b = some o
  tbl : V.tabs = true → Tbls s.heap
  toks : s.toks = V.tb + x.tj
  gsize : s.gens.size = V.gb + x.gj
  gown : ∀ i y, nthG x.gl i = some y → s.gens[y.1]? = some y.2
  gnd : (x.gl.map Prod.fst).Nodup
  gkeep : ∀ g y, s₀.gens[g]? = some y → g ∉ V.gs → s.gens[g]? = some y
  gin : ∀ y ∈ x.gl, y.1 ∈ V.gs ∨ V.gb ≤ y.1
  drawn : s.drawn = s₀.drawn
  os : s.os = s₀.os
  bare : AllBare s₀.gens → AllBare s.gens
theorem adr_old {V : Sta} {al : List Nat} {i : Nat} (h : i < V.K) : V.adr al i = nth V.as i := by
  unfold Sta.adr
  rw [show Nat.blt i V.K = true from Nat.ble_eq_true_of_le h]
theorem adr_new {V : Sta} {al : List Nat} {i : Nat} (h : V.K ≤ i) : V.adr al i = nth al (i - V.K) := by
  unfold Sta.adr
  cases q : Nat.blt i V.K with
  | true => exact absurd (blt_true q) (Nat.not_lt.mpr h)
  | false => rfl
theorem nth_mem {l : List Nat} {i : Nat} (h : i < l.length) : nth l i ∈ l := by
  unfold nth
  rw [List.getD_eq_getElem?_getD, List.getElem?_eq_getElem h]
  exact List.getElem_mem h
theorem nth_inj {l : List Nat} (nd : l.Nodup) {i k : Nat} (hi : i < l.length) (hk : k < l.length) (e : nth l i = nth l k) : i = k := by
  unfold nth at e
  rw [List.getD_eq_getElem?_getD, List.getD_eq_getElem?_getD, List.getElem?_eq_getElem hi, List.getElem?_eq_getElem hk] at e
  exact (List.getElem_inj nd).mp e
theorem nth_app {l l' : List Nat} {i : Nat} (h : i < l.length) : nth (l ++ l') i = nth l i := by
  unfold nth
  rw [List.getD_eq_getElem?_getD, List.getD_eq_getElem?_getD, List.getElem?_append_left h]
theorem nth_app' {l l' : List Nat} {i : Nat} (h : l.length ≤ i) : nth (l ++ l') i = nth l' (i - l.length) := by
  unfold nth
  rw [List.getD_eq_getElem?_getD, List.getD_eq_getElem?_getD, List.getElem?_append_right h]
theorem adr_app {V : Sta} {al al' : List Nat} {i : Nat} (h : i < V.K + al.length) : V.adr (al ++ al') i = V.adr al i := by
  by_cases q : i < V.K
  · rw [adr_old q, adr_old q]
  · rw [adr_new (Nat.le_of_not_lt q), adr_new (Nat.le_of_not_lt q), nth_app (by omega)]
section
variable {V : Sta} {w : World} {h₀ : Heap} (OK : V.Ok w h₀)
include OK
theorem adr_inj {al : List Nat} (nd : al.Nodup) (lo : ∀ a ∈ al, V.nb ≤ a) {i i' : Nat} (e : V.adr al i = V.adr al i') (h : i < V.K + al.length) (h' : i' < V.K + al.length) : i = i' := by
  by_cases q : i < V.K
  · have li : nth V.as i ∈ V.as := nth_mem (by rw [OK.len]; exact q)
    by_cases q' : i' < V.K
    · rw [adr_old q, adr_old q'] at e
      exact nth_inj OK.nd (by rw [OK.len]; exact q) (by rw [OK.len]; exact q') e
    · rw [adr_old q, adr_new (Nat.le_of_not_lt q')] at e
      have := OK.lt _ li
      have l2 := lo _ (nth_mem (l := al) (i := i' - V.K) (by omega))
      omega
  · by_cases q' : i' < V.K
    · rw [adr_new (Nat.le_of_not_lt q), adr_old q'] at e
      have := OK.lt _ (nth_mem (l := V.as) (i := i') (by rw [OK.len]; exact q'))
      have l2 := lo _ (nth_mem (l := al) (i := i - V.K) (by omega))
      omega
    · rw [adr_new (Nat.le_of_not_lt q), adr_new (Nat.le_of_not_lt q')] at e
      have := nth_inj nd (by omega) (by omega) e
      omega
end
theorem nthG_set {l : List (Nat × GenState)} {i : Nat} {y : GenState} {k : Nat} : nthG (setG l i y) k = if k = i then (nthG l i).map fun x => (x.1, y) else nthG l k := by
  induction l generalizing i k with
  | nil => cases i <;> simp [setG, nthG]
  | cons x l ih =>
    cases i with
    | zero => cases k <;> simp [setG, nthG]
    | succ i => cases k with
      | zero => simp [setG, nthG]
      | succ k => simp [setG, nthG, ih]
theorem setG_fst {l : List (Nat × GenState)} {i : Nat} {y : GenState} : (setG l i y).map Prod.fst = l.map Prod.fst := by
  induction l generalizing i with
  | nil => cases i <;> rfl
  | cons x l ih => cases i with
    | zero => rfl
    | succ i => simp [setG, ih]
theorem nthG_get {l : List (Nat × GenState)} {i : Nat} : nthG l i = l[i]? := by
  induction l generalizing i with
  | nil => cases i <;> rfl
  | cons x l ih => cases i with
    | zero => rfl
    | succ i => simp [nthG, ih]
theorem nthG_app {l : List (Nat × GenState)} {z : Nat × GenState} {i : Nat} {y : Nat × GenState} (h : nthG (l ++ [z]) i = some y) : nthG l i = some y ∨ y = z := by
  rw [nthG_get] at h ⊢
  rw [List.getElem?_append] at h
  split at h
  · exact .inl h
  · right
    cases q : i - l.length with
    | zero => rw [q] at h; exact (Option.some.inj h).symm
    | succ n => rw [q] at h; cases h
theorem nthG_mem {l : List (Nat × GenState)} {i : Nat} {y : Nat × GenState} (h : nthG l i = some y) : y ∈ l := by
  rw [nthG_get] at h
  exact List.mem_of_getElem? h
theorem nthG_inj {l : List (Nat × GenState)} (nd : (l.map Prod.fst).Nodup) {i k : Nat} {y z : Nat × GenState} (h : nthG l i = some y) (h' : nthG l k = some z) (e : y.1 = z.1) : i = k := by
  rw [nthG_get] at h h'
  have a : (l.map Prod.fst)[i]? = some y.1 := by rw [List.getElem?_map, h]; rfl
  have b : (l.map Prod.fst)[k]? = some z.1 := by rw [List.getElem?_map, h']; rfl
  rw [← e] at b
  obtain ⟨ha, ea⟩ := List.getElem?_eq_some_iff.mp a
  obtain ⟨hb, eb⟩ := List.getElem?_eq_some_iff.mp b
  exact (List.getElem_inj nd).mp (ea.trans eb.symm)
theorem setG_mem {l : List (Nat × GenState)} {i : Nat} {y : GenState} {z : Nat × GenState} (h : z ∈ setG l i y) : ∃ z' ∈ l, z'.1 = z.1 := by
  have : z.1 ∈ (setG l i y).map Prod.fst := List.mem_map_of_mem h
  rw [setG_fst] at this
  obtain ⟨z', h1, h2⟩ := List.mem_map.mp this
  exact ⟨z', h1, h2⟩
theorem kt_get {h : Heap} {t : KT} (H : t.Holds h 1 0) {a : Addr} {o : Obj} (e : t.get a = some o) : h.get? a = some o := by
  have := KT.Holds.get H e
  rw [Nat.one_mul, Nat.add_zero] at this
  exact this
section
variable {V : Sta} {w : World} {s₀ s : Shared} (OK : V.Ok w s₀.heap)
include OK
theorem Sat.kt {x : St} (S : Sat V s₀ s x) {a : Nat} {o : Obj} (e : V.kt.get a = some o) : s.heap.get? a = some o :=
  S.keep a o (OK.kt a o e) (fun q => by rw [OK.off a q] at e; cases e) fun _ => by
    rw [OK.kte] at e
    constructor <;> rintro rfl <;> exact nomatch (show none = some o from e)
theorem adr_tabs {al : List Nat} (lo : ∀ a ∈ al, V.nb ≤ a) {i : Nat} (hi : i < V.K + al.length) : Tabs V.tabs (V.adr al i) := by
  intro ht
  by_cases hk : i < V.K
  · rw [adr_old hk]
    exact OK.tabs _ (nth_mem (by rw [OK.len]; exact hk)) ht
  · rw [adr_new (Nat.le_of_not_lt hk)]
    have l2 := lo _ (nth_mem (l := al) (i := i - V.K) (by omega))
    have := OK.big
    omega
theorem adr_ne {al : List Nat} (lo : ∀ a ∈ al, V.nb ≤ a) {i b : Nat} (hi : i < V.K + al.length) (e : V.adr al i = b) {o : Obj} (hb : s₀.heap.get? b = some o) : b ∈ V.as := by
  by_cases hk : i < V.K
  · rw [← e, adr_old hk]
    exact nth_mem (by rw [OK.len]; exact hk)
  · have l : b < V.nb := OK.size ▸ Heap.lt_size hb
    rw [adr_new (Nat.le_of_not_lt hk)] at e
    have l2 := lo _ (nth_mem (l := al) (i := i - V.K) (by omega))
    omega
theorem Sat.update {T m al j tj gl gj t c p pre O H} {t' c' p' pre' O' H'} (S : Sat V s₀ s ⟨T, m, al, j, tj, gl, gj, t, c, p, pre, O, H⟩) {i : Nat} {o : Obj} {f : Obj → Obj} (e : T.get i = some o) (hf : (f o).isFreed = false) :
    Sat V s₀ { s with heap := s.heap.update (V.adr al i) f } ⟨T.set i f, m, al, j, tj, gl, gj, t', c', p', pre', O', H'⟩ := by
  have z := S.own i o e
  have al_len : al.length = m := S.alen
  have zi : i < V.K + al.length := by rw [al_len]; exact z.1
  have lo : ∀ a ∈ al, V.nb ≤ a := fun a ha => (S.alb a ha).1
  refine ⟨by rw [← S.size]; exact Heap.size_after_update .., S.alen, S.alb, S.alnd, fun k o' e' => ?_, fun b o' e' q ht => ?_, fun ht => (S.tbl ht).keep fun a o hab ho => (Heap.get?_update_other _ _ (show V.adr al i ≠ a from fun q => hab.elim (fun e => (adr_tabs OK lo zi ht).1 (q.trans e)) (fun e => (adr_tabs OK lo zi ht).2 (q.trans e)))).trans ho, S.toks, S.gsize, S.gown, S.gnd, S.gkeep, S.gin, S.drawn, S.os, S.bare⟩
  · have e' : (T.set i f).get k = some o' := e'
    rw [BT.get_set] at e'
    by_cases h : k = i
    · subst h
      rw [if_pos rfl, e] at e'
      cases e'
      exact ⟨z.1, Heap.get?_update_self f z.2 hf⟩
    · rw [if_neg h] at e'
      have y := S.own k o' e'
      refine ⟨y.1, ?_⟩
      refine (Heap.get?_update_other _ _ fun q => h ?_).trans y.2
      exact (adr_inj OK S.alnd lo q zi (by rw [al_len]; exact y.1)).symm
  · refine (Heap.get?_update_other _ _ fun h => q ?_).trans (S.keep b o' e' q ht)
    exact adr_ne OK lo zi h e'
theorem Sat.alloc {T m al j tj gl gj t c p pre O H} {t' c' p' pre' O' H'} (S : Sat V s₀ s ⟨T, m, al, j, tj, gl, gj, t, c, p, pre, O, H⟩) {o : Obj} (hf : o.isFreed = false) (hg : ((T.ins (V.K + m) o).get (V.K + m)).isSome = true) :
    Sat V s₀ { s with heap := s.heap.push o } ⟨T.ins (V.K + m) o, m + 1, al ++ [V.nb + j], j + 1, tj, gl, gj, t', c', p', pre', O', H'⟩ := by
  have al_len : al.length = m := S.alen
  have sz : s.heap.objs.size = V.nb + j := S.size
  refine ⟨by show (s.heap.push o).objs.size = V.nb + (j + 1); rw [Heap.size_push, S.size, Nat.add_assoc], by show (al ++ [V.nb + j]).length = m + 1; rw [List.length_append, al_len]; rfl, fun a ha => ?_, ?_, fun k o' e' => ?_, fun b o' e' q ht => Heap.get?_push_of_some _ (S.keep b o' e' q ht), fun ht => (S.tbl ht).keep fun a o _ ho => Heap.get?_push_of_some _ ho, S.toks, S.gsize, S.gown, S.gnd, S.gkeep, S.gin, S.drawn, S.os, S.bare⟩
  · show V.nb ≤ a ∧ a < V.nb + (j + 1)
    rcases List.mem_append.mp ha with h | h
    · have h2 : V.nb ≤ a ∧ a < V.nb + j := S.alb a h
      omega
    · have := List.mem_singleton.mp h
      omega
  · show (al ++ [V.nb + j]).Nodup
    rw [List.nodup_append]
    refine ⟨S.alnd, by simp, fun a ha b hb => ?_⟩
    have h2 : V.nb ≤ a ∧ a < V.nb + j := S.alb a ha
    have := List.mem_singleton.mp hb
    omega
  · show k < V.K + (m + 1) ∧ (s.heap.push o).get? (V.adr (al ++ [V.nb + j]) k) = some o'
    have e' : (T.ins (V.K + m) o).get k = some o' := e'
    rw [BT.get_ins o T _ hg] at e'
    by_cases h : k = V.K + m
    · subst h
      rw [if_pos rfl] at e'
      cases e'
      refine ⟨by omega, ?_⟩
      rw [adr_new (Nat.le_add_right ..), nth_app' (by omega), show V.K + m - V.K - al.length = 0 by omega]
      show (s.heap.push o).get? (V.nb + j) = _
      rw [← sz]
      exact Heap.get?_push_size _ hf
    · rw [if_neg h] at e'
      have y := S.own k o' e'
      have y1 : k < V.K + m := y.1
      refine ⟨by omega, ?_⟩
      rw [adr_app (by rw [al_len]; exact y1)]
      exact Heap.get?_push_of_some _ y.2
end
theorem Sat.go {V : Sta} {s₀ s : Shared} {T m al j tj gl gj t c p pre O H} {t' c' p' pre' O' H'} (S : Sat V s₀ s ⟨T, m, al, j, tj, gl, gj, t, c, p, pre, O, H⟩) : Sat V s₀ s ⟨T, m, al, j, tj, gl, gj, t', c', p', pre', O', H'⟩ :=
  ⟨S.size, S.alen, S.alb, S.alnd, S.own, S.keep, S.tbl, S.toks, S.gsize, S.gown, S.gnd, S.gkeep, S.gin, S.drawn, S.os, S.bare⟩
theorem Sat.setGen {V : Sta} {s₀ s : Shared} {T m al j tj gl gj t c p pre O H} {t' c' p' pre' O' H'} (S : Sat V s₀ s ⟨T, m, al, j, tj, gl, gj, t, c, p, pre, O, H⟩) {i : Nat} {x : Nat × GenState} {y : GenState} (e : nthG gl i = some x)
    (hgs : V.gb = s₀.gens.size) (hy : y.bare = true) : Sat V s₀ (s.setGen x.1 y) ⟨T, m, al, j, tj, setG gl i y, gj, t', c', p', pre', O', H'⟩ := by
  have hx := S.gown i x e
  have lx : x.1 < s.gens.size := (Array.getElem?_eq_some_iff.mp hx).1
  have sizeE : (s.setGen x.1 y).gens.size = s.gens.size := by simp [Shared.setGen]
  have getE : ∀ g, (s.setGen x.1 y).gens[g]? = if x.1 = g then some y else s.gens[g]? := by
    intro g
    show (s.gens.setIfInBounds x.1 y)[g]? = _
    rw [Array.getElem?_setIfInBounds]
    by_cases h : x.1 = g
    · rw [if_pos h, if_pos h, if_pos (h ▸ lx)]
    · rw [if_neg h, if_neg h]
  refine ⟨S.size, S.alen, S.alb, S.alnd, S.own, S.keep, S.tbl, S.toks, by rw [sizeE]; exact S.gsize, fun k z hz => ?_, by rw [setG_fst]; exact S.gnd, fun g z hz hn => ?_, fun z hz => ?_, S.drawn, S.os, fun hb z hz => ?_⟩
  · have hz : nthG (setG gl i y) k = some z := hz
    rw [nthG_set] at hz
    rw [getE]
    by_cases h : k = i
    · subst h
      rw [if_pos rfl, e] at hz
      cases hz
      rw [if_pos rfl]
    · rw [if_neg h] at hz
      rw [if_neg fun q => h (nthG_inj S.gnd hz e q.symm)]
      exact S.gown k z hz
  · rw [getE, if_neg]
    · exact S.gkeep g z hz hn
    · intro q
      rcases S.gin x (nthG_mem e) with h | h
      · exact hn (q ▸ h)
      · have := (Array.getElem?_eq_some_iff.mp hz).1
        omega
  · obtain ⟨z', h1, h2⟩ := setG_mem hz
    rw [← h2]
    exact S.gin z' h1
  · obtain ⟨g, hg⟩ := Array.mem_iff_getElem?.mp hz
    rw [getE] at hg
    by_cases h : x.1 = g
    · rw [if_pos h] at hg; cases hg; exact hy
    · rw [if_neg h] at hg; exact S.bare hb z (Array.mem_iff_getElem?.mpr ⟨g, hg⟩)
theorem Sat.newGen {V : Sta} {s₀ s : Shared} {T m al j tj gl gj t c p pre O H} {t' c' p' pre' O' H'} (S : Sat V s₀ s ⟨T, m, al, j, tj, gl, gj, t, c, p, pre, O, H⟩) {y : GenState} (hy : y.bare = true) :
    Sat V s₀ { s with gens := s.gens.push y } ⟨T, m, al, j, tj, gl ++ [(V.gb + gj, y)], gj + 1, t', c', p', pre', O', H'⟩ := by
  have sz : s.gens.size = V.gb + gj := S.gsize
  refine ⟨S.size, S.alen, S.alb, S.alnd, S.own, S.keep, S.tbl, S.toks, by show (s.gens.push y).size = V.gb + (gj + 1); rw [Array.size_push, sz, Nat.add_assoc], fun k z hz => ?_, ?_, fun g z hz hn => ?_, fun z hz => ?_, S.drawn, S.os, fun hb => AllBare.push (S.bare hb) hy⟩
  · show (s.gens.push y)[z.1]? = some z.2
    rw [Array.getElem?_push]
    rcases nthG_app hz with h | h
    · have := S.gown k z h
      have l := (Array.getElem?_eq_some_iff.mp this).1
      rw [if_neg (by omega)]
      exact this
    · subst h
      rw [if_pos sz.symm]
  · show ((gl ++ [(V.gb + gj, y)]).map Prod.fst).Nodup
    rw [List.map_append, List.nodup_append]
    refine ⟨S.gnd, by simp, fun a ha b hb => ?_⟩
    obtain ⟨z, hz, rfl⟩ := List.mem_map.mp ha
    obtain ⟨i, hi⟩ := List.mem_iff_getElem?.mp hz
    rw [← nthG_get] at hi
    have l := (Array.getElem?_eq_some_iff.mp (S.gown i z hi)).1
    simp only [List.map_cons, List.map_nil, List.mem_singleton] at hb
    omega
  · show (s.gens.push y)[g]? = some z
    have := S.gkeep g z hz hn
    have l := (Array.getElem?_eq_some_iff.mp this).1
    rw [Array.getElem?_push, if_neg (by omega)]
    exact this
  · rcases List.mem_append.mp hz with h | h
    · exact S.gin z h
    · simp only [List.mem_singleton] at h
      subst h
      exact .inr (Nat.le_add_right ..)
noncomputable def tokV : Value → Nat
  | .int _ t => t
  | .str _ t => t
  | _ => 0
theorem vv_mk {v : Value} {x : VV} (h : vv v = some x) : x.mk (tokV v) = v := by
  cases v <;> cases h <;> rfl
theorem mkVs_succ {k k' : Nat → Nat} : ∀ {l : List VV} {i j : Nat}, (∀ n, k (i + n) = k' (j + n)) → mkVs k i l = mkVs k' j l
  | [], _, _, _ => rfl
  | v :: l, i, j, h => by
    unfold mkVs
    rw [show k i = k' j from h 0, mkVs_succ (l := l) (k := k) (k' := k') (i := i.succ) (j := j.succ) fun n => by
      have := h (n + 1)
      rw [show i.succ + n = i + (n + 1) by omega, show j.succ + n = j + (n + 1) by omega]
      exact this]
theorem vvs_mk : ∀ {l : List Value} {r : List VV}, vvs l = some r → ∃ k, mkVs k 0 r = l
  | [], r, h => by cases h; exact ⟨fun _ => 0, rfl⟩
  | v :: l, r, h => by
    unfold vvs at h
    cases e : vv v with
    | none => rw [e] at h; cases h
    | some x =>
      rw [e] at h
      dsimp only at h
      cases e' : vvs l with
      | none => rw [e'] at h; cases h
      | some r' =>
        rw [e'] at h
        cases h
        obtain ⟨k, hk⟩ := vvs_mk e'
        refine ⟨fun i => match i with | 0 => tokV v | i + 1 => k i, ?_⟩
        unfold mkVs
        rw [show x.mk (tokV v) = v from vv_mk e]
        congr 1
        rw [← hk]
        exact mkVs_succ (i := Nat.succ 0) (j := 0) fun n => by rw [show Nat.succ 0 + n = n + 1 by omega, Nat.zero_add]
theorem mkEs_succ {k k' : TK} : ∀ {l : List (Str × VV)} {i j : Nat}, (∀ n, k.t (i + n) = k'.t (j + n) ∧ k.u (i + n) = k'.u (j + n) ∧ k.h (i + n) = k'.h (j + n)) → mkEs k i l = mkEs k' j l
  | [], _, _, _ => rfl
  | v :: l, i, j, h => by
    unfold mkEs
    obtain ⟨a, b, c⟩ := h 0
    simp only [Nat.add_zero] at a b c
    rw [a, b, c, mkEs_succ (l := l) (k := k) (k' := k') (i := i.succ) (j := j.succ) fun n => by
      have := h (n + 1)
      rw [show i.succ + n = i + (n + 1) by omega, show j.succ + n = j + (n + 1) by omega]
      exact this]
theorem keysOf_mk : ∀ {l : List DictEntry} {r : List (Str × VV)} (n : Nat), keysOf l = some r → ∃ k : TK, k.e = n ∧ mkEs k 0 r = l
  | [], r, n, h => by cases h; exact ⟨⟨fun _ => 0, fun _ => 0, fun _ => 0, n⟩, rfl, rfl⟩
  | e :: l, r, n, h => by
    unfold keysOf at h
    cases e1 : keyOf e with
    | none => rw [e1] at h; cases h
    | some x =>
      rw [e1] at h
      dsimp only at h
      cases e2 : keysOf l with
      | none => rw [e2] at h; cases h
      | some r' =>
        rw [e2] at h
        cases h
        obtain ⟨k, hn, hk⟩ := keysOf_mk n e2
        obtain ⟨hh, key, val⟩ := e
        unfold keyOf at e1
        dsimp only at e1
        cases key <;> (try (cases e1; done))
        rename_i s t
        cases e3 : vv val with
        | none => rw [e3] at e1; cases e1
        | some y =>
          rw [e3] at e1
          cases e1
          refine ⟨⟨fun i => match i with | 0 => tokV val | i + 1 => k.t i, fun i => match i with | 0 => t | i + 1 => k.u i, fun i => match i with | 0 => hh | i + 1 => k.h i, n⟩, rfl, ?_⟩
          unfold mkEs
          dsimp only
          rw [show y.mk (tokV val) = val from vv_mk e3]
          congr 1
          rw [← hk]
          exact mkEs_succ (i := Nat.succ 0) (j := 0) fun n => by
            rw [show Nat.succ 0 + n = n + 1 by omega, Nat.zero_add]
            exact ⟨rfl, rfl, rfl⟩
theorem slOf_mk {v : Option Value} {x : Option SL} (h : slOf v = some x) : slMk x = v := by
  cases v with
  | none => cases h; rfl
  | some v => cases v <;> cases h <;> rfl
theorem slsOf_mk : ∀ {l : List (Option Value)} {r : List (Option SL)}, slsOf l = some r → slsMk r = l
  | [], r, h => by cases h; rfl
  | v :: l, r, h => by
    unfold slsOf at h
    cases e : slOf v with
    | none => rw [e] at h; cases h
    | some x =>
      rw [e] at h
      dsimp only at h
      cases e' : slsOf l with
      | none => rw [e'] at h; cases h
      | some r' =>
        rw [e'] at h
        cases h
        show slMk x :: slsMk r' = _
        rw [slOf_mk e, slsOf_mk e']
theorem slOf_of (x : Option SL) : slOf (slMk x) = some x := by
  cases x with
  | none => rfl
  | some x => cases x <;> rfl
theorem slsOf_of : ∀ (r : List (Option SL)), slsOf (slsMk r) = some r
  | [] => rfl
  | x :: r => by
    unfold slsMk slsOf
    rw [slOf_of, slsOf_of r]
theorem ov_mk {o : Obj} {v : OV} (h : ov o = some v) (hc : clsOk v.cls = true) : ∃ k : TK, v.mk' k = o := by
  obtain ⟨c, d, dt, sl⟩ := o
  unfold ov at h
  dsimp only at h
  cases es : sl.toList with
  | cons y ys =>
    rw [es] at h
    dsimp only at h
    have hs : sl = ⟨y :: ys⟩ := Array.ext' es
    subst hs
    cases ec : vv c with
    | none => rw [ec] at h; cases h
    | some x =>
      rw [ec] at h
      dsimp only at h
      cases dt with
      | dict es n =>
        dsimp only at h
        cases e : keysOf es.toList with
        | none => rw [e] at h; cases h
        | some l =>
          rw [e] at h
          dsimp only at h
          cases e1 : slOf y with
          | none => rw [e1] at h; cases h
          | some z =>
            rw [e1] at h
            dsimp only at h
            cases e2 : slsOf ys with
            | none => rw [e2] at h; cases h
            | some zs =>
              rw [e2] at h
              cases h
              have hx : x.mk 0 = c := by
                cases c <;> cases ec <;> first | rfl | cases hc
              obtain ⟨k, hn, hk⟩ := keysOf_mk n e
              refine ⟨k, ?_⟩
              unfold OV.mk'
              dsimp only
              rw [hx, hk, hn, slOf_mk e1, slsOf_mk e2]
      | _ => cases h
  | nil =>
    rw [es] at h
    dsimp only at h
    have hs : sl = #[] := Array.ext' es
    subst hs
    cases ec : vv c with
    | none => rw [ec] at h; cases h
    | some x =>
      rw [ec] at h
      dsimp only at h
      cases ep : payOf dt with
      | none => rw [ep] at h; cases h
      | some p =>
        rw [ep] at h
        cases h
        have hx : x.mk 0 = c := by
          cases c <;> cases ec <;> first | rfl | cases hc
        have key : ∀ (q : PV) (k : TK), q = p → (match q with
            | .plain => Data.plain
            | .seq l => .seq ⟨mkVs k.t 0 l⟩ k.e
            | .dict l => .dict ⟨mkEs k 0 l⟩ k.e
            | .cell v => .cell (match v with | some v => some (v.mk (k.t 0)) | none => none)
            | .fields l => .fields ⟨mkVs k.t 0 l⟩
            | .fr l _ _ => .dict ⟨mkEs k 0 l⟩ k.e) = dt → (match q with | .fr _ _ _ => False | _ => True) → ∃ k : TK, (OV.mk x d p).mk' k = ⟨c, d, dt, #[]⟩ := by
          intro q k e h hq
          subst e
          refine ⟨k, ?_⟩
          unfold OV.mk'
          dsimp only
          rw [hx]
          have hs : (match q with | .fr _ x r => (⟨slMk x :: slsMk r⟩ : Array (Option Value)) | _ => ⟨[]⟩) = #[] := by
            cases q <;> first | rfl | exact hq.elim
          exact (congrArg (Obj.mk c d · _) h).trans (congrArg (Obj.mk c d dt ·) hs)
        unfold payOf at ep
        cases dt with
        | plain => cases ep; exact key _ ⟨fun _ => 0, fun _ => 0, fun _ => 0,0⟩ rfl rfl trivial
        | seq xs n =>
          dsimp only at ep
          cases e : vvs xs.toList with
          | none => rw [e] at ep; cases ep
          | some l =>
            rw [e] at ep
            cases ep
            obtain ⟨k, hk⟩ := vvs_mk e
            exact key _ ⟨k, fun _ => 0, fun _ => 0, n⟩ rfl (by dsimp only; rw [hk]) trivial
        | dict es n =>
          dsimp only at ep
          cases e : keysOf es.toList with
          | none => rw [e] at ep; cases ep
          | some l =>
            rw [e] at ep
            cases ep
            obtain ⟨k, hn, hk⟩ := keysOf_mk n e
            exact key _ k rfl (by dsimp only; rw [hk, hn]) trivial
        | cell v =>
          cases v with
          | none => cases ep; exact key _ ⟨fun _ => 0, fun _ => 0, fun _ => 0,0⟩ rfl rfl trivial
          | some v =>
            dsimp only at ep
            cases e : vv v with
            | none => rw [e] at ep; cases ep
            | some y =>
              rw [e] at ep
              cases ep
              exact key _ ⟨fun _ => tokV v, fun _ => 0, fun _ => 0,0⟩ rfl (by dsimp only; rw [vv_mk e]) trivial
        | fields xs =>
          dsimp only at ep
          cases e : vvs xs.toList with
          | none => rw [e] at ep; cases ep
          | some l =>
            rw [e] at ep
            cases ep
            obtain ⟨k, hk⟩ := vvs_mk e
            exact key _ ⟨k, fun _ => 0, fun _ => 0,0⟩ rfl (by dsimp only; rw [hk]) trivial
        | _ => cases ep
noncomputable def clsOks : List (Nat × OV) → Bool
  | [] => true
  | q :: l => clsOk q.2.cls && clsOks l
theorem clsOks_mem : ∀ {L : List (Nat × OV)}, clsOks L = true → ∀ q ∈ L, clsOk q.2.cls = true
  | [], _, _, h => nomatch h
  | p :: L, h, q, hq => by
    unfold clsOks at h
    obtain ⟨a, b⟩ := Bool.and_eq_true_iff.mp h
    rcases List.mem_cons.mp hq with rfl | hq
    · exact a
    · exact clsOks_mem b q hq
theorem tks {h : Heap} : ∀ {L : List (Nat × OV)}, Cells h L → clsOks L = true → ∃ k : Nat → TK, ∀ (i : Nat) (q : Nat × OV), L[i]? = some q → h.get? q.1 = some (q.2.mk' (k i))
  | [], _, _ => ⟨fun _ => ⟨fun _ => 0, fun _ => 0, fun _ => 0,0⟩, fun i q e => by simp at e⟩
  | q :: L, H, hc => by
    obtain ⟨k, hk⟩ := tks (L := L) (fun p hp => H p (.tail _ hp)) (by unfold clsOks at hc; exact (Bool.and_eq_true_iff.mp hc).2)
    obtain ⟨o, ho, hv⟩ := H q (.head _)
    obtain ⟨k₀, hk₀⟩ := ov_mk hv (clsOks_mem hc q (.head _))
    refine ⟨fun i => match i with | 0 => k₀ | i + 1 => k i, fun i p e => ?_⟩
    cases i with
    | zero => cases e; rw [ho]; exact congrArg some hk₀.symm
    | succ i => exact hk i p e
theorem vv_mk' (x : VV) (t : Nat) : vv (x.mk t) = some x := by cases x <;> rfl
theorem vvs_mkVs {k : Nat → Nat} : ∀ (l : List VV) (i : Nat), vvs (mkVs k i l) = some l
  | [], _ => rfl
  | v :: l, i => by unfold mkVs vvs; rw [vv_mk', vvs_mkVs l]
theorem keysOf_mkEs {k : TK} : ∀ (l : List (Str × VV)) (i : Nat), keysOf (mkEs k i l) = some l
  | [], _ => rfl
  | v :: l, i => by unfold mkEs keysOf keyOf; dsimp only; rw [vv_mk', keysOf_mkEs l]
theorem ov_of_mk (v : OV) (k : TK) : ov (v.mk' k) = some v := by
  obtain ⟨c, d, p⟩ := v
  unfold OV.mk' ov
  dsimp only
  rw [vv_mk']
  cases p with
  | plain => rfl
  | seq l => unfold payOf; dsimp only; rw [vvs_mkVs]
  | dict l => unfold payOf; dsimp only; rw [keysOf_mkEs]
  | cell v => cases v with
    | none => rfl
    | some v => unfold payOf; dsimp only; rw [vv_mk']
  | fields l => unfold payOf; dsimp only; rw [vvs_mkVs]
  | fr l x r => dsimp only; rw [keysOf_mkEs, slOf_of, slsOf_of]
theorem rv_mk {r : Result} {x : RV} (h : rv r = some x) : ∃ t, x.mk t = r := by
  cases r with
  | ok f =>
    cases f with
    | ret v =>
      unfold rv at h
      dsimp only at h
      cases e : vv v with
      | none => rw [e] at h; cases h
      | some y => rw [e] at h; cases h; exact ⟨tokV v, by show Except.ok (Flow.ret (y.mk (tokV v))) = _; rw [vv_mk e]⟩
    | next => cases h; exact ⟨0, rfl⟩
    | brk => cases h; exact ⟨0, rfl⟩
    | cont => cases h
  | error v =>
    unfold rv at h
    dsimp only at h
    cases e : vv v with
    | none => rw [e] at h; cases h
    | some y => rw [e] at h; cases h; exact ⟨tokV v, by show Except.error (y.mk (tokV v)) = _; rw [vv_mk e]⟩
theorem toksFor : ∀ {L : List (Nat × OV)} {g : Nat → Option Obj}, (∀ q ∈ L, ∃ o, g q.1 = some o ∧ ov o = some q.2) → (∀ q ∈ L, clsOk q.2.cls = true) → ∃ k : Nat → TK, ∀ (i : Nat) (q : Nat × OV), L[i]? = some q → g q.1 = some (q.2.mk' (k i))
  | [], _, _, _ => ⟨fun _ => ⟨fun _ => 0, fun _ => 0, fun _ => 0,0⟩, fun i q e => by simp at e⟩
  | q :: L, g, H, hc => by
    obtain ⟨k, hk⟩ := toksFor (L := L) (fun p hp => H p (.tail _ hp)) (fun p hp => hc p (.tail _ hp))
    obtain ⟨o, ho, hv⟩ := H q (.head _)
    obtain ⟨k₀, hk₀⟩ := ov_mk hv (hc q (.head _))
    refine ⟨fun i => match i with | 0 => k₀ | i + 1 => k i, fun i p e => ?_⟩
    cases i with
    | zero => cases e; rw [ho]; exact congrArg some hk₀.symm
    | succ i => exact hk i p e
theorem toksAt : ∀ {L : List OV} {g : Nat → Option Obj}, (∀ (i : Nat) (q : OV), L[i]? = some q → ∃ o, g i = some o ∧ ov o = some q) → (∀ q ∈ L, clsOk q.cls = true) → ∃ k : Nat → TK, ∀ (i : Nat) (q : OV), L[i]? = some q → g i = some (q.mk' (k i))
  | [], _, _, _ => ⟨fun _ => ⟨fun _ => 0, fun _ => 0, fun _ => 0,0⟩, fun i q e => by simp at e⟩
  | q :: L, g, H, hc => by
    obtain ⟨k, hk⟩ := toksAt (L := L) (g := fun i => g (i + 1)) (fun i p hp => H (i + 1) p hp) (fun p hp => hc p (.tail _ hp))
    obtain ⟨o, ho, hv⟩ := H 0 q rfl
    obtain ⟨k₀, hk₀⟩ := ov_mk hv (hc q (.head _))
    refine ⟨fun i => match i with | 0 => k₀ | i + 1 => k i, fun i p e => ?_⟩
    cases i with
    | zero => cases e; rw [ho]; exact congrArg some hk₀.symm
    | succ i => exact hk i p e
section
variable {V : Sta} {s₀ s s' : Shared} {X : St}
theorem see_fst {al : List Nat} {T : BT} : ∀ {l : List (Nat × Bool)} {r : List (Nat × SV)}, see V al T l = some r → r.map Prod.fst = (l.map Prod.fst).map (V.adr al) ∧ ∀ i ∈ l.map Prod.fst, (T.get i).isSome = true
  | [], r, h => by cases h; exact ⟨rfl, fun _ h => (nomatch h)⟩
  | (i, b) :: l, r, h => by
    unfold see at h
    cases e : T.get i with
    | none => rw [e] at h; cases h
    | some o =>
      rw [e] at h
      dsimp only at h
      cases e' : see V al T l with
      | none =>
        rw [e'] at h
        cases b
        · cases h
        · dsimp only at h
          split at h <;> cases h
      | some r' =>
        rw [e'] at h
        obtain ⟨a, c⟩ := see_fst e'
        have key : ∀ x : SV, r = (V.adr al i, x) :: r' → r.map Prod.fst = (((i, b) :: l).map Prod.fst).map (V.adr al) ∧ ∀ k ∈ ((i, b) :: l).map Prod.fst, (T.get k).isSome = true := by
          rintro x rfl
          refine ⟨by simp only [List.map_cons]; rw [a], fun k hk => ?_⟩
          rcases List.mem_cons.mp hk with hk | hk
          · rw [show k = i from hk, e]; rfl
          · exact c k hk
        cases b
        · cases h
          exact key _ rfl
        · dsimp only at h
          split at h
          · cases h
            exact key _ rfl
          · cases h
theorem see_spec {s₀ s' : Shared} {X : St} (S : Sat V s₀ s' X) : ∀ {l : List (Nat × Bool)} {r : List (Nat × SV)}, see V X.al X.T l = some r → ∀ q ∈ r, ∃ o, s'.heap.get? q.1 = some o ∧ q.2.Of o
  | [], r, h, q, hq => by cases h; cases hq
  | (i, b) :: l, r, h, q, hq => by
    unfold see at h
    cases e : X.T.get i with
    | none => rw [e] at h; cases h
    | some o =>
      rw [e] at h
      dsimp only at h
      cases e' : see V X.al X.T l with
      | none =>
        rw [e'] at h
        cases b
        · cases h
        · dsimp only at h
          split at h <;> cases h
      | some r' =>
        rw [e'] at h
        have ih := see_spec S e'
        cases b
        · cases h
          rcases List.mem_cons.mp hq with rfl | hq
          · exact ⟨o, (S.own i o e).2, rfl⟩
          · exact ih q hq
        · dsimp only at h
          split at h
          · rename_i v ev
            cases h
            rcases List.mem_cons.mp hq with rfl | hq
            · exact ⟨o, (S.own i o e).2, ev⟩
            · exact ih q hq
          · cases h
end
theorem updOk_spec {T : BT} : ∀ {l : List (Nat × OV)}, updOk T l = true → ∀ q ∈ l, (T.get q.1).isSome = true ∧ clsOk q.2.cls = true
  | [], h, _, hq => nomatch hq
  | (i, o) :: l, h, q, hq => by
    unfold updOk at h
    cases e : T.get i with
    | none => rw [e] at h; cases h
    | some o' =>
      rw [e] at h
      dsimp only at h
      cases f : clsOk o.cls with
      | false => rw [f] at h; cases h
      | true =>
        rw [f] at h
        rcases List.mem_cons.mp hq with rfl | hq
        · exact ⟨by rw [e]; rfl, f⟩
        · exact updOk_spec h q hq
theorem setAll_get {u : Nat → TK} {l : List (Nat × OV)} : ∀ {m : Nat} {T : BT} {i : Nat} {o : Obj}, (setAll u m T l).get i = some o → (T.get i = some o ∧ i ∉ l.map Prod.fst) ∨ ∃ (n : Nat) (q : Nat × OV), l[n]? = some q ∧ q.1 = i ∧ o = q.2.mk' (u (m + n)) := by
  induction l with
  | nil => intro m T i o h; exact .inl ⟨h, by simp⟩
  | cons q l ih =>
    obtain ⟨k, ok⟩ := q
    intro m T i o h
    unfold setAll at h
    rcases ih (T := T.set k fun _ => ok.mk' (u m)) h with ⟨h1, h2⟩ | ⟨n, q, h1, h2, h3⟩
    · rw [BT.get_set] at h1
      by_cases e : i = k
      · subst e
        rw [if_pos rfl] at h1
        cases g : T.get i with
        | none => rw [g] at h1; cases h1
        | some o' => rw [g] at h1; cases h1; exact .inr ⟨0, _, rfl, rfl, rfl⟩
      · rw [if_neg e] at h1
        exact .inl ⟨h1, by rw [List.map_cons, List.mem_cons]; rintro (q | q)
                           · exact e q
                           · exact h2 q⟩
    · exact .inr ⟨n + 1, q, h1, h2, by rw [h3, show m + (n + 1) = m.succ + n by omega]⟩
theorem insAll_get {u : Nat → TK} {b : Nat} : ∀ {l : List OV} {m : Nat} {T T' : BT}, insAll u b m l T = some T' → (∀ q ∈ l, clsOk q.cls = true) ∧ ∀ i o, T'.get i = some o → (T.get i = some o ∧ ¬ (b + m ≤ i ∧ i < b + m + l.length)) ∨ ∃ (n : Nat) (q : OV), l[n]? = some q ∧ b + (m + n) = i ∧ o = q.mk' (u (m + n))
  | [], m, T, T', h => by
    cases h
    exact ⟨fun _ h => (nomatch h), fun i o e => .inl ⟨e, by simp only [List.length_nil]; omega⟩⟩
  | o :: l, m, T, T', h => by
    unfold insAll at h
    cases hc : clsOk o.cls with
    | false => rw [hc] at h; cases h
    | true =>
      rw [hc] at h
      dsimp only at h
      cases e : (T.ins (Nat.add b m) (o.mk' (u m))).get (Nat.add b m) with
      | none => rw [e] at h; cases h
      | some o' =>
        rw [e] at h
        dsimp only at h
        obtain ⟨a, g⟩ := insAll_get h
        refine ⟨fun q hq => ?_, fun i oi hi => ?_⟩
        · rcases List.mem_cons.mp hq with rfl | hq
          · exact hc
          · exact a q hq
        · have hs : ((T.ins (b + m) (o.mk' (u m))).get (b + m)).isSome = true := by
            show ((T.ins (Nat.add b m) (o.mk' (u m))).get (Nat.add b m)).isSome = true
            rw [e]; rfl
          rcases g i oi hi with ⟨h1, h2⟩ | ⟨n, q, h1, h2, h3⟩
          · have h1 : (T.ins (b + m) (o.mk' (u m))).get i = some oi := h1
            rw [BT.get_ins _ T _ hs] at h1
            by_cases q : i = b + m
            · subst q
              rw [if_pos rfl] at h1
              cases h1
              exact .inr ⟨0, _, rfl, rfl, rfl⟩
            · rw [if_neg q] at h1
              refine .inl ⟨h1, ?_⟩
              simp only [List.length_cons]
              simp only [Nat.succ_eq_add_one] at h2
              omega
          · exact .inr ⟨n + 1, q, h1, by rw [← h2]; simp only [Nat.succ_eq_add_one]; omega, by rw [h3, show m + (n + 1) = m.succ + n by simp only [Nat.succ_eq_add_one]; omega]⟩
theorem naL_len {na : Nat → Nat} : ∀ {n i : Nat}, (naL na i n).length = n
  | 0, _ => rfl
  | n + 1, i => by unfold naL; rw [List.length_cons, naL_len]
theorem naL_nth {na : Nat → Nat} : ∀ {n i k : Nat}, k < n → nth (naL na i n) k = na (i + k)
  | 0, _, _, h => absurd h (Nat.not_lt_zero _)
  | n + 1, i, 0, _ => rfl
  | n + 1, i, k + 1, h => by
    unfold naL
    show nth (naL na i.succ n) k = _
    rw [naL_nth (by omega), show i.succ + k = i + (k + 1) by simp only [Nat.succ_eq_add_one]; omega]
theorem naL_mem {na : Nat → Nat} : ∀ {n i a : Nat}, a ∈ naL na i n → ∃ k, k < n ∧ a = na (i + k)
  | 0, _, _, h => nomatch h
  | n + 1, i, a, h => by
    unfold naL at h
    rcases List.mem_cons.mp h with rfl | h
    · exact ⟨0, Nat.succ_pos _, rfl⟩
    · obtain ⟨k, hk, e⟩ := naL_mem h
      exact ⟨k + 1, Nat.succ_lt_succ hk, by rw [e, show i.succ + k = i + (k + 1) by simp only [Nat.succ_eq_add_one]; omega]⟩
theorem naL_nodup {na : Nat → Nat} : ∀ {n i : Nat}, (∀ a b, a < i + n → b < i + n → na a = na b → a = b) → (naL na i n).Nodup
  | 0, _, _ => List.nodup_nil
  | n + 1, i, h => by
    unfold naL
    refine List.nodup_cons.mpr ⟨fun hm => ?_, naL_nodup fun a b ha hb => h a b (by simp only [Nat.succ_eq_add_one] at ha; omega) (by simp only [Nat.succ_eq_add_one] at hb; omega)⟩
    obtain ⟨k, hk, e⟩ := naL_mem hm
    have := h i (i.succ + k) (by omega) (by simp only [Nat.succ_eq_add_one]; omega) e
    simp only [Nat.succ_eq_add_one] at this
    omega
theorem setAllG_fst {gl : List (Nat × GenState)} {l : List (Nat × GenState)} : (setAllG gl l).map Prod.fst = gl.map Prod.fst := by
  induction l generalizing gl with
  | nil => rfl
  | cons q l ih => unfold setAllG; rw [ih, setG_fst]
theorem setAllG_get {l : List (Nat × GenState)} : ∀ {gl : List (Nat × GenState)} {i : Nat} {y : Nat × GenState}, nthG (setAllG gl l) i = some y → (nthG gl i = some y ∧ i ∉ l.map Prod.fst) ∨ ∃ q ∈ l, q.1 = i ∧ (∃ x, nthG gl i = some (y.1, x)) ∧ y.2 = q.2 := by
  induction l with
  | nil => intro gl i y h; exact .inl ⟨h, by simp⟩
  | cons q l ih =>
    obtain ⟨k, yk⟩ := q
    intro gl i y h
    unfold setAllG at h
    rcases ih h with ⟨h1, h2⟩ | ⟨q, h1, h2, ⟨x, h3⟩, h4⟩
    · rw [nthG_set] at h1
      by_cases e : i = k
      · subst e
        rw [if_pos rfl] at h1
        obtain ⟨z, hz, rfl⟩ := Option.map_eq_some_iff.mp h1
        exact .inr ⟨_, .head _, rfl, ⟨z.2, hz⟩, rfl⟩
      · rw [if_neg e] at h1
        exact .inl ⟨h1, by rw [List.map_cons, List.mem_cons]; rintro (q | q)
                           · exact e q
                           · exact h2 q⟩
    · rw [nthG_set] at h3
      by_cases e : i = k
      · subst e
        rw [if_pos rfl] at h3
        obtain ⟨z, hz, hz'⟩ := Option.map_eq_some_iff.mp h3
        have : z.1 = y.1 := (Prod.mk.inj hz').1
        exact .inr ⟨q, .tail _ h1, h2, ⟨z.2, by rw [hz, ← this]⟩, h4⟩
      · rw [if_neg e] at h3
        exact .inr ⟨q, .tail _ h1, h2, ⟨x, h3⟩, h4⟩
theorem gupdOk_mem {gl : List (Nat × GenState)} : ∀ {l : List (Nat × GenState)} {g : Nat}, gupdOk gl l = true → g ∈ (nums gl l).map Prod.fst → ∃ q x, q ∈ l ∧ nthG gl q.1 = some x ∧ x.1 = g
  | [], g, h, hm => nomatch hm
  | (i, y) :: l, g, h, hm => by
    unfold gupdOk at h
    cases e : nthG gl i with
    | none => rw [e] at h; cases h
    | some x =>
      rw [e] at h
      rcases List.mem_cons.mp hm with rfl | hm
      · exact ⟨_, x, .head _, e, by show x.1 = numG gl i; unfold numG; rw [e]⟩
      · obtain ⟨q, x, h1, h2⟩ := gupdOk_mem h hm
        exact ⟨q, x, .tail _ h1, h2⟩
theorem nums_put {gl : List (Nat × GenState)} {l : List (Nat × GenState)} {q : Nat × GenState} {g : Nat} (hm : q ∈ l) (hx : ∃ x, nthG gl q.1 = some (g, x)) : (g, q.2) ∈ nums gl l := by
  obtain ⟨x, hx⟩ := hx
  refine List.mem_map.mpr ⟨q, hm, ?_⟩
  unfold numG
  rw [hx]
theorem seeG_spec {l : List (Nat × GenState)} : ∀ {g : List Nat} {r : List (Nat × GenState)}, seeG l g = some r → ∀ q ∈ r, ∃ i ∈ g, nthG l i = some q
  | [], r, h, q, hq => by cases h; cases hq
  | i :: g, r, h, q, hq => by
    unfold seeG at h
    cases e : nthG l i with
    | none => rw [e] at h; cases h
    | some y =>
      rw [e] at h
      dsimp only at h
      cases e' : seeG l g with
      | none => rw [e'] at h; cases h
      | some z =>
        rw [e'] at h
        cases h
        rcases List.mem_cons.mp hq with rfl | hq
        · exact ⟨i, .head _, e⟩
        · obtain ⟨k, hk, h⟩ := seeG_spec e' q hq
          exact ⟨k, .tail _ hk, h⟩
theorem seeG_nodup {l : List (Nat × GenState)} (nd : (l.map Prod.fst).Nodup) : ∀ {g : List Nat} {r : List (Nat × GenState)}, seeG l g = some r → g.Nodup → (r.map Prod.fst).Nodup
  | [], r, h, _ => by cases h; exact List.nodup_nil
  | i :: g, r, h, hn => by
    unfold seeG at h
    cases e : nthG l i with
    | none => rw [e] at h; cases h
    | some y =>
      rw [e] at h
      dsimp only at h
      cases e' : seeG l g with
      | none => rw [e'] at h; cases h
      | some z =>
        rw [e'] at h
        cases h
        obtain ⟨hi, hg⟩ := List.nodup_cons.mp hn
        refine List.nodup_cons.mpr ⟨fun hm => ?_, seeG_nodup nd e' hg⟩
        obtain ⟨q, hq, eq⟩ := List.mem_map.mp hm
        obtain ⟨k, hk, h⟩ := seeG_spec e' q hq
        exact hi (nthG_inj nd e h eq.symm ▸ hk)
theorem Sat.hook {V : Sta} {w : World} {s₀ s s' : Shared} (OK : V.Ok w s₀.heap) {T m al j tj gl gj t c p pre O H} {t' c' p' pre' O' H'} (S : Sat V s₀ s ⟨T, m, al, j, tj, gl, gj, t, c, p, pre, O, H⟩)
    {upd : List (Nat × OV)} {news : List OV} {gupd : List (Nat × GenState)} {T' : BT} {k : Hook} {ht : HT} (hgu : gupdOk gl gupd = true) (kgu : k.gupd ht.na = nums gl gupd) (hgs : V.gb = s₀.gens.size) (hu : updOk T upd = true) (hn : insAll ht.v (Nat.add V.K m) 0 news (setAll ht.u 0 T upd) = some T')
    (A : After k ht.na s s') (ku : k.upd ht.na = adrs V al upd) (kn : k.news ht.na = news) (htab : k.tabs = true → V.tabs = true) (U : ∀ (i : Nat) (q : Nat × OV), upd[i]? = some q → s'.heap.get? (V.adr al q.1) = some (q.2.mk' (ht.u i))) (N : ∀ (i : Nat) (q : OV), news[i]? = some q → s'.heap.get? (ht.na i) = some (q.mk' (ht.v i))) (hdt : s'.toks = s.toks + ht.dt) (hdj : s'.heap.objs.size = s.heap.objs.size + ht.dj) (hdg : s'.gens.size = s.gens.size + ht.dg) :
    Sat V s₀ s' ⟨T', Nat.add m news.length, al ++ naL ht.na 0 news.length, Nat.add j ht.dj, Nat.add tj ht.dt, setAllG gl gupd, Nat.add gj ht.dg, t', c', p', pre', O', H'⟩ := by
  have u1 := updOk_spec hu
  obtain ⟨n1, n2⟩ := insAll_get hn
  have al_len : al.length = m := S.alen
  have lo : ∀ a ∈ al, V.nb ≤ a := fun a ha => (S.alb a ha).1
  have hi : ∀ a ∈ al, a < V.nb + j := fun a ha => (S.alb a ha).2
  have sz : s.heap.objs.size = V.nb + j := S.size
  have st : s.toks = V.tb + tj := S.toks
  have sg : s.gens.size = V.gb + gj := S.gsize
  have there : ∀ q ∈ upd, q.1 < V.K + al.length := fun q hq => by
    obtain ⟨o', ho'⟩ := Option.isSome_iff_exists.mp (u1 _ hq).1
    rw [al_len]
    exact (S.own q.1 o' ho').1
  have nalo : ∀ i, i < news.length → V.nb + j ≤ ht.na i ∧ ht.na i < s'.heap.objs.size := fun i hi => by
    obtain ⟨a, o, ho, _⟩ := A.new i news[i] (by rw [kn]; exact List.getElem?_eq_getElem hi)
    exact ⟨sz ▸ a, Heap.lt_size ho⟩
  have kp : ∀ b o, s.heap.get? b = some o → (∀ q ∈ upd, V.adr al q.1 ≠ b) → Tabs V.tabs b → s'.heap.get? b = some o := fun b o e q ht => A.keep b o e (fun hm => by
    rw [ku] at hm
    obtain ⟨x, hx, eq⟩ := List.mem_map.mp hm
    obtain ⟨x', hx', rfl⟩ := List.mem_map.mp hx
    exact q x' hx' eq) fun h => ht (htab h)
  refine ⟨by show s'.heap.objs.size = V.nb + (j + ht.dj); rw [hdj, sz, Nat.add_assoc], by show (al ++ naL ht.na 0 news.length).length = m + news.length; rw [List.length_append, naL_len, al_len], fun a ha => ?_, ?_, fun i o e => ?_, fun b o e q hb => ?_, fun htt => ?_, by show s'.toks = V.tb + (tj + ht.dt); rw [hdt, st, Nat.add_assoc], by show s'.gens.size = V.gb + (gj + ht.dg); rw [hdg, sg, Nat.add_assoc],
    fun i y e => ?_, by show ((setAllG gl gupd).map Prod.fst).Nodup; rw [setAllG_fst]; exact S.gnd, fun g y e h => A.gkeep _ _ (S.gkeep g y e h) fun hm => ?_, fun y hy => ?_, A.drawn.trans S.drawn, A.os.trans S.os, fun h => A.bare (S.bare h)⟩
  · show V.nb ≤ a ∧ a < V.nb + (j + ht.dj)
    rw [← Nat.add_assoc, ← sz, ← hdj]
    rcases List.mem_append.mp ha with h | h
    · have h1 := lo a h
      have h2 := hi a h
      have := A.size
      omega
    · obtain ⟨i, hi', rfl⟩ := naL_mem h
      rw [Nat.zero_add]
      have := nalo i hi'
      exact ⟨by omega, this.2⟩
  · show (al ++ naL ht.na 0 news.length).Nodup
    rw [List.nodup_append]
    refine ⟨S.alnd, naL_nodup fun a b ha hb => A.nand a b (by rw [kn]; omega) (by rw [kn]; omega), fun a ha b hb => ?_⟩
    obtain ⟨i, hi', rfl⟩ := naL_mem hb
    have h1 := hi a ha
    have h2 := (nalo i hi').1
    rw [Nat.zero_add]
    omega
  · show i < V.K + (m + news.length) ∧ s'.heap.get? (V.adr (al ++ naL ht.na 0 news.length) i) = some o
    rcases n2 i o e with ⟨h1, h2⟩ | ⟨n, q, h1, h2, h3⟩
    · rcases setAll_get h1 with ⟨g1, g2⟩ | ⟨n, q, g1, g2, g3⟩
      · have z := S.own i o g1
        have z1 : i < V.K + m := z.1
        refine ⟨by omega, ?_⟩
        rw [adr_app (by rw [al_len]; exact z1)]
        refine kp _ _ z.2 (fun q hq e => ?_) (adr_tabs OK lo (by rw [al_len]; exact z1))
        have : q.1 = i := adr_inj OK S.alnd lo e (there q hq) (by show i < V.K + al.length; rw [al_len]; exact z1)
        exact g2 (this ▸ List.mem_map_of_mem hq)
      · have hq := List.mem_of_getElem? g1
        have z1 := there q hq
        rw [al_len] at z1
        refine ⟨by omega, ?_⟩
        rw [← g2, adr_app (there q hq), g3, Nat.zero_add]
        exact U n q g1
    · have hq := List.mem_of_getElem? h1
      have l : n < news.length := (List.getElem?_eq_some_iff.mp h1).1
      have h2 : V.K + m + (0 + n) = i := h2
      refine ⟨by omega, ?_⟩
      rw [adr_new (by omega), nth_app' (by omega), naL_nth (by omega), show 0 + (i - V.K - al.length) = n by omega, h3, Nat.zero_add]
      exact N n q h1
  · refine kp b o (S.keep b o e q hb) (fun x hx eq => ?_) hb
    exact q (adr_ne OK lo (there x hx) eq e)
  · cases h : k.tabs with
    | true => exact A.tbl h
    | false =>
      refine (S.tbl htt).keep fun a o hab ho => A.keep a o ho (fun hm => ?_) fun q => by rw [h] at q; cases q
      rw [ku] at hm
      obtain ⟨x, hx, eq⟩ := List.mem_map.mp hm
      obtain ⟨x', hx', rfl⟩ := List.mem_map.mp hx
      have z := adr_tabs OK lo (there x' hx') htt
      exact hab.elim (fun e => z.1 (Eq.trans eq e)) (fun e => z.2 (Eq.trans eq e))
  · rcases setAllG_get e with ⟨h1, h2⟩ | ⟨q, h1, h2, h3, h4⟩
    · refine A.gkeep _ _ (S.gown i y h1) fun hm => ?_
      rw [kgu] at hm
      obtain ⟨q, x, h4, h5, h6⟩ := gupdOk_mem hgu hm
      exact h2 (by rw [nthG_inj S.gnd h1 h5 h6.symm]; exact List.mem_map_of_mem h4)
    · have z := A.gupd (y.1, q.2) (by rw [kgu]; exact nums_put h1 (by rw [h2]; exact h3))
      rw [h4]
      exact z
  · rw [kgu] at hm
    obtain ⟨q, x, h4, h5, h6⟩ := gupdOk_mem hgu hm
    rcases S.gin x (nthG_mem h5) with hx | hx
    · exact h (h6 ▸ hx)
    · have := (Array.getElem?_eq_some_iff.mp e).1
      rw [← hgs, ← h6] at this
      exact absurd this (Nat.not_lt.mpr hx)
  · have : y.1 ∈ (setAllG gl gupd).map Prod.fst := List.mem_map_of_mem hy
    rw [setAllG_fst] at this
    obtain ⟨x, hx, e⟩ := List.mem_map.mp this
    rw [← e]
    exact S.gin x hx
structure BaseOk (V : Sta) (base : List Frame) : Prop where
  below : base.map Frame.where_ = V.Wb
  spine : ∀ ks, V.ks = some ks → Spine ks base
  bot : Bot base
noncomputable def Comes (M : Model) (base : List Frame) (s : Shared) (x : St) (s' : Shared) (x' : St) : Prop := ∀ s'' e, Reach M base s' x'.t x'.c x'.p x'.pre s'' e → Reach M base s x.t x.c x.p x.pre s'' e
theorem reach_step {M : Model} {base : List Frame} {s s₁ : Shared} {t t₁ : Sem Fin} {c c₁ : Code} {p p₁ : Pos} {pre pre₁ : List Frame} (h : M.step s ⟨t, c, p, pre ++ base⟩ = .go s₁ ⟨t₁, c₁, p₁, pre₁ ++ base⟩) :
    ∀ s'' e, Reach M base s₁ t₁ c₁ p₁ pre₁ s'' e → Reach M base s t c p pre s'' e := fun _ _ r => .step h r
theorem ask1_some {or : List Ora} {f : Nat → List Ora → Option (List Ora × St)} {r : List Ora × St} (h : ask1 or f = some r) : ∃ k or', or = .n k :: or' ∧ f k or' = some r := by
  unfold ask1 at h
  cases or with
  | nil => cases h
  | cons a or => cases a with
    | n k => exact ⟨k, or, rfl, h⟩
    | hook => cases h
    | alt => cases h
noncomputable def Grows (x x' : St) : Prop := (∃ e, x'.O = e ++ x.O) ∧ ∃ e, x'.H = e ++ x.H
theorem Grows.same {T m al j tj gl gj t c p pre O H} {T' m' al' j' tj' gl' gj' t' c' p' pre'} : Grows ⟨T, m, al, j, tj, gl, gj, t, c, p, pre, O, H⟩ ⟨T', m', al', j', tj', gl', gj', t', c', p', pre', O, H⟩ := ⟨⟨[], rfl⟩, ⟨[], rfl⟩⟩
theorem Grows.one {T m al j tj gl gj t c p pre O H} {T' m' al' j' tj' gl' gj' t' c' p' pre'} {q : Nat × Nat} : Grows ⟨T, m, al, j, tj, gl, gj, t, c, p, pre, O, H⟩ ⟨T', m', al', j', tj', gl', gj', t', c', p', pre', q :: O, H⟩ := ⟨⟨[q], rfl⟩, ⟨[], rfl⟩⟩
theorem Grows.hook {T m al j tj gl gj t c p pre O H} {T' m' al' j' tj' gl' gj' t' c' p' pre'} {q : Ob} : Grows ⟨T, m, al, j, tj, gl, gj, t, c, p, pre, O, H⟩ ⟨T', m', al', j', tj', gl', gj', t', c', p', pre', O, q :: H⟩ := ⟨⟨[], rfl⟩, ⟨[q], rfl⟩⟩
theorem Grows.le {x x' : St} (h : Grows x x') : x.H.length ≤ x'.H.length := by
  obtain ⟨_, e, h⟩ := h
  rw [h, List.length_append]
  exact Nat.le_add_left ..
theorem hcOf_is {code : Bool} {c : Code} {h : HC} (e : hcOf code c = some h) : h.Is c := by
  unfold hcOf at e
  cases code with
  | true => cases e; exact rfl
  | false =>
    dsimp only at e
    cases c with
    | call f a =>
      obtain ⟨vs, kw⟩ := a
      cases kw with
      | cons _ _ => cases e
      | nil =>
      dsimp only at e
      cases e3 : vv f with
      | none => rw [e3] at e; cases e
      | some fv =>
      rw [e3] at e
      dsimp only at e
      cases e4 : vvs vs with
      | none => rw [e4] at e; cases e
      | some args =>
      rw [e4] at e
      cases e
      exact ⟨f, vs, rfl, e3, e4⟩
    | _ => cases e
structure HI (V : Sta) (ht : HT) (tabs sp code : Bool) (need : List (Nat × Bool)) (upd : List (Nat × OV)) (news : List OV) (gneed : List Nat) (gupd : List (Nat × GenState)) (T : BT) (m : Nat) (al : List Nat) (gl : List (Nat × GenState)) (c' : Code) (pre : List Frame) (fr : Frame) (hc : HC) (nd : List (Nat × SV)) (ks : Option (List Kd)) (gnd : List (Nat × GenState)) (T' : BT) : Prop where
  hu : unmarked pre = true
  htab : tabsOk tabs V.tabs = true
  hhc : hcOf code c' = some hc
  hq : uniq (need.map Prod.fst) = true
  hsee : see V al T need = some nd
  hsp : spOf V sp (fr :: pre) = some ks
  hup : updOk T upd = true
  hgsee : seeG gl gneed = some gnd
  hgq : uniq gneed = true
  hgup : gupdOk gl gupd = true
  hins : insAll ht.v (Nat.add V.K m) 0 news (setAll ht.u 0 T upd) = some T'
theorem hooked_inv {V : Sta} {ht : HT} {tabs sp code : Bool} {need : List (Nat × Bool)} {r : (Nat → Nat) → RV} {upd : (Nat → Nat) → List (Nat × OV)} {news : (Nat → Nat) → List OV} {gneed : List Nat} {gupd : (Nat → Nat) → List (Nat × GenState)} {or or' : List Ora} {T m al j tj gl gj c' hd g l k c p pre O H} {x' : St}
    (h : hooked V ht tabs sp code need r upd news gneed gupd or T m al j tj gl gj c' hd g l k c p pre O H = some (or', x')) :
    hd = none ∧ ∃ hc nd ks gnd T', HI V ht tabs sp code need (upd ht.na) (news ht.na) gneed (gupd ht.na) T m al gl c' pre (.ret k hd g l c p []) hc nd ks gnd T' ∧ or' = or ∧
      x' = ⟨T', Nat.add m (news ht.na).length, al ++ naL ht.na 0 (news ht.na).length, Nat.add j ht.dj, Nat.add tj ht.dt, setAllG gl (gupd ht.na), Nat.add gj ht.dg, k ((r ht.na).mk ht.t), c, p, pre, O, .hook ⟨tabs, hc, ks, nd, r, fun na => adrs V al (upd na), news, gnd, fun na => nums gl (gupd na)⟩ :: H⟩ := by
  cases hd with
  | some _ => cases h
  | none =>
    obtain ⟨e1, h⟩ := gd_inv h
    obtain ⟨e2, h⟩ := gd_inv h
    obtain ⟨hc, e3, h⟩ := bd_inv h
    obtain ⟨e5, h⟩ := gd_inv h
    obtain ⟨nd, e6, h⟩ := bd_inv h
    obtain ⟨ks, e7, h⟩ := bd_inv h
    obtain ⟨e8, h⟩ := gd_inv h
    obtain ⟨gnd, e10, h⟩ := bd_inv h
    obtain ⟨e11, h⟩ := gd_inv h
    obtain ⟨e12, h⟩ := gd_inv h
    obtain ⟨T', e9, h⟩ := bd_inv h
    cases h
    exact ⟨rfl, hc, nd, ks, gnd, T', ⟨e1, e2, e3, e5, e6, e7, e8, e10, e11, e12, e9⟩, rfl, rfl⟩
noncomputable def isHook : Sem Fin → List Ora → Bool
  | .call .., a :: _ => match a with
    | .hook .. => true
    | .n _ => false
    | .alt _ _ => false
  | _, _ => false
theorem step0_tau {V : Sta} {τ τ' : Nat → HT} {or : List Ora} {x : St} (h : isHook x.t or = false) : step0 V τ' or x = step0 V τ or x := by
  obtain ⟨T, m, al, j, tj, gl, gj, t, c, p, pre, O, H⟩ := x
  cases t with
  | call c' hd g l k =>
    cases or with
    | nil => rfl
    | cons a or => cases a with
      | n _ => rfl
      | hook => cases h
      | alt _ _ => rfl
  | _ => rfl
theorem step_tau {V : Sta} {τ τ' : Nat → HT} {or : List Ora} {x : St} (h : isHook x.t or = false) : step V τ' or x = step V τ or x := by
  cases or with
  | nil => exact step0_tau (τ := τ) (τ' := τ') h
  | cons a or => cases a with
    | n k => exact step0_tau (τ := τ) (τ' := τ') (or := .n k :: or) h
    | hook a b c d e f g i j => exact step0_tau (τ := τ) (τ' := τ') (or := .hook a b c d e f g i j :: or) h
    | alt m f => cases m with
      | zero => rfl
      | succ m =>
        have h0 : isHook x.t [] = false := by cases x with | mk T m al j tj gl gj t c p pre O H => cases t <;> rfl
        unfold step
        dsimp only
        rw [step0_tau (τ := τ) (τ' := τ') h0]
inductive IsKind : Code → Kd → Prop
  | func {b e} : IsKind (.func b e) .func
  | wh {x b o e} : IsKind (.whileLoop x b o e) .wh
  | fo {x v b o e} : IsKind (.forLoop x v b o e) .fo
  | call {v a} : IsKind (.call v a) .call
  | bi {id a} : IsKind (.builtin id a) (.bi id)
  | biR {id n l kw} : IsKind (.builtin id ⟨.ref n :: l, kw⟩) (.biR id)
  | biT {id n l kw} : IsKind (.builtin id ⟨.type n :: l, kw⟩) (.biT id)
theorem buildW_succ {ks : List Kd} : ∀ {c c' : Nat → Cp} {i j : Nat}, (∀ n, c (i + n) = c' (j + n)) → buildW ks c i = buildW ks c' j := by
  induction ks with
  | nil => intros; rfl
  | cons k l ih =>
    intro c c' i j h
    unfold buildW
    rw [show c i = c' j from h 0, ih (c := c) (c' := c') (i := i.succ) (j := j.succ) fun n => by
      have := h (n + 1)
      rw [show i.succ + n = i + (n + 1) by omega, show j.succ + n = j + (n + 1) by omega]
      exact this]
theorem IsKind.mk {c : Code} {k : Kd} (h : IsKind c k) (q : Pos) : ∃ x : Cp, k.mk x = (c, q) := by
  cases h with
  | @func b e => exact ⟨⟨b, [], e, default, .none, ⟨[], []⟩, q, 0, ""⟩, rfl⟩
  | @wh x b o e => exact ⟨⟨b, o, e, x, .none, ⟨[], []⟩, q, 0, ""⟩, rfl⟩
  | @fo x v b o e => exact ⟨⟨b, o, e, x, v, ⟨[], []⟩, q, 0, ""⟩, rfl⟩
  | @call v a => exact ⟨⟨[], [], default, default, v, a, q, 0, ""⟩, rfl⟩
  | @bi id a => exact ⟨⟨[], [], default, default, .none, a, q, 0, ""⟩, rfl⟩
  | @biR id n l kw => exact ⟨⟨[], [], default, default, .none, ⟨l, kw⟩, q, n, ""⟩, rfl⟩
  | @biT id n l kw => exact ⟨⟨[], [], default, default, .none, ⟨l, kw⟩, q, 0, n⟩, rfl⟩
theorem kindOf_is {c : Code} {k : Kd} (h : kindOf c = some k) : IsKind c k := by
  cases c with
  | builtin id a =>
    obtain ⟨l, kw⟩ := a
    cases l with
    | nil => cases h; constructor
    | cons v l => cases v <;> cases h <;> constructor
  | _ => cases h <;> constructor
theorem pinj {α β : Type} {a a' : α} {b b' : β} (h : some (a, b) = some (a', b')) : a' = a ∧ b' = b := by cases h; exact ⟨rfl, rfl⟩
theorem leaf_grows {or or' : List Ora} {T m al j tj gl gj t c p pre O H} {r : Result} {x' : St} (h : leaf or T m al j tj gl gj O H r pre = some (or', x')) : Grows ⟨T, m, al, j, tj, gl, gj, t, c, p, pre, O, H⟩ x' := by
  cases pre with
  | nil => cases h
  | cons f pre =>
    cases f with
    | ret => obtain ⟨rfl, rfl⟩ := pinj h; exact .same
    | gen =>
      obtain ⟨i, or₁, rfl, h'⟩ := ask1_some h
      clear h; have h := h'; clear h'
      cases e : nthG gl i with
      | none => rw [e] at h; cases h
      | some y => rw [e] at h; obtain ⟨rfl, rfl⟩ := pinj h; exact .one
theorem step0_grows {V : Sta} {τ : Nat → HT} {or or' : List Ora} {x x' : St} (h : step0 V τ or x = some (or', x')) : Grows x x' := by
  obtain ⟨T, m, al, j, tj, gl, gj, t, c, p, pre, O, H⟩ := x
  cases t with
  | pure fin =>
    cases fin with
    | done f => exact leaf_grows h
    | again c' =>
      unfold step0 at h
      dsimp only at h
      cases q : quietQ c' with
      | false => rw [q] at h; cases h
      | true => rw [q] at h; obtain ⟨rfl, rfl⟩ := pinj h; exact .same
  | raise e => exact leaf_grows h
  | rule tag k => obtain ⟨rfl, rfl⟩ := pinj h; exact .same
  | «at» q k => obtain ⟨rfl, rfl⟩ := pinj h; exact .same
  | point l k => obtain ⟨rfl, rfl⟩ := pinj h; exact .same
  | ask k => obtain ⟨rfl, rfl⟩ := pinj h; exact .same
  | load a q k =>
    obtain ⟨i, or₁, rfl, h'⟩ := ask1_some h
    clear h; have h := h'; clear h'
    cases i with
    | zero =>
      dsimp only at h
      cases e : V.kt.get a with
      | none => rw [e] at h; cases h
      | some o => rw [e] at h; obtain ⟨rfl, rfl⟩ := pinj h; exact .same
    | succ i =>
      dsimp only at h
      cases e : T.get i with
      | none => rw [e] at h; cases h
      | some o => rw [e] at h; obtain ⟨rfl, rfl⟩ := pinj h; exact .one
  | update a q f k =>
    obtain ⟨i, or₁, rfl, h'⟩ := ask1_some h
    clear h; have h := h'; clear h'
    cases i with
    | zero => cases h
    | succ i =>
      dsimp only at h
      cases e : T.get i with
      | none => rw [e] at h; cases h
      | some o =>
        rw [e] at h
        dsimp only at h
        cases hf : (f o).isFreed with
        | true => rw [hf] at h; cases h
        | false => rw [hf] at h; obtain ⟨rfl, rfl⟩ := pinj h; exact .one
  | alloc o k =>
    unfold step0 at h
    dsimp only at h
    cases hf : o.isFreed with
    | true => rw [hf] at h; cases h
    | false =>
      rw [hf] at h
      dsimp only at h
      cases hg : (T.ins (Nat.add V.K m) o).get (Nat.add V.K m) with
      | none => rw [hg] at h; cases h
      | some o' => rw [hg] at h; obtain ⟨rfl, rfl⟩ := pinj h; exact .same
  | fresh k => obtain ⟨rfl, rfl⟩ := pinj h; exact .same
  | stack k => obtain ⟨rfl, rfl⟩ := pinj h; exact .same
  | handled own k =>
    cases own with
    | true => cases h
    | false => obtain ⟨rfl, rfl⟩ := pinj h; exact .same
  | call c' hd g l k =>
    cases or with
    | nil => cases h
    | cons a or => cases a with
      | n _ => obtain ⟨rfl, rfl⟩ := pinj h; exact .same
      | alt _ _ => cases h
      | hook tabs sp code need r upd news gneed gupd =>
        obtain ⟨_, hc, nd, ks, gnd, T', _, _, rfl⟩ := hooked_inv h
        exact .hook
  | newGen c' k => obtain ⟨rfl, rfl⟩ := pinj h; exact .same
  | genState g k =>
    obtain ⟨i, or₁, rfl, h'⟩ := ask1_some h
    clear h; have h := h'; clear h'
    cases e : nthG gl i with
    | none => rw [e] at h; cases h
    | some y => rw [e] at h; obtain ⟨rfl, rfl⟩ := pinj h; exact .one
  | resume g r l k =>
    obtain ⟨i, or₁, rfl, h'⟩ := ask1_some h
    clear h; have h := h'; clear h'
    cases e : nthG gl i with
    | none => rw [e] at h; cases h
    | some y =>
      rw [e] at h
      obtain ⟨g', y⟩ := y
      cases y with
      | fresh c₀ =>
        cases r with
        | throw => cases h
        | send v => cases v with
          | none => obtain ⟨rfl, rfl⟩ := pinj h; exact .one
          | _ => cases h
      | suspended kk lv c₀ p₀ fs cl => obtain ⟨rfl, rfl⟩ := pinj h; exact .one
      | running => cases h
      | finished => cases h
  | yield v g0 l kk =>
    unfold step0 at h
    dsimp only at h
    cases e : splitAtGen pre with
    | none => rw [e] at h; cases h
    | some q =>
      obtain ⟨fs, ⟨g, k, c', p'⟩, rest⟩ := q
      rw [e] at h
      dsimp only at h
      cases hq : (End.susp v g0 l kk c p fs).quiet with
      | false => rw [hq] at h; cases h
      | true =>
        rw [hq] at h
        obtain ⟨i, or₁, rfl, h'⟩ := ask1_some h
        clear h; have h := h'; clear h'
        cases eg : nthG gl i with
        | none => rw [eg] at h; cases h
        | some y => rw [eg] at h; obtain ⟨rfl, rfl⟩ := pinj h; exact .one
  | _ => cases h
theorem step_grows {V : Sta} {τ : Nat → HT} {or or' : List Ora} {x x' : St} (h : step V τ or x = some (or', x')) : Grows x x' := by
  cases or with
  | nil => exact step0_grows (τ := τ) h
  | cons a or => cases a with
    | n k => exact step0_grows (τ := τ) (or := .n k :: or) h
    | hook a b c d e f g i j => exact step0_grows (τ := τ) (or := .hook a b c d e f g i j :: or) h
    | alt m f => cases m with
      | zero => cases h; exact ⟨⟨[], rfl⟩, ⟨[_], rfl⟩⟩
      | succ m =>
        unfold step at h
        dsimp only at h
        cases e : step0 V τ [] x with
        | none => rw [e] at h; cases h
        | some r =>
          obtain ⟨o1, x1⟩ := r
          rw [e] at h
          cases h
          exact step0_grows (τ := τ) e
theorem ev_grows {V : Sta} {τ : Nat → HT} : ∀ (n : Nat) {or or' : List Ora} {x x' : St}, ev V τ n or x = some (or', x') → Grows x x'
  | 0, or, or', x, x', h => by cases h; exact ⟨⟨[], rfl⟩, ⟨[], rfl⟩⟩
  | n + 1, or, or', x, x', h => by
    unfold ev at h
    cases e : step V τ or x with
    | none => rw [e] at h; cases h
    | some r =>
      obtain ⟨or₁, x₁⟩ := r
      rw [e] at h
      obtain ⟨⟨e1, o1⟩, e2, o2⟩ := step_grows e
      obtain ⟨⟨e3, o3⟩, e4, o4⟩ := ev_grows n h
      exact ⟨⟨e3 ++ e1, by rw [o3, o1, List.append_assoc]⟩, e4 ++ e2, by rw [o4, o2, List.append_assoc]⟩
noncomputable def Agree (n : Nat) (τ τ' : Nat → HT) : Prop := ∀ i, i < n → τ' i = τ i
theorem uniq_nodup : ∀ {l : List Nat}, uniq l = true → l.Nodup
  | [], _ => List.nodup_nil
  | k :: l, h => by
    unfold uniq at h
    cases e : has k l with
    | true => rw [e] at h; cases h
    | false =>
      rw [e] at h
      refine List.nodup_cons.mpr ⟨?_, uniq_nodup h⟩
      clear h
      induction l with
      | nil => exact fun h => nomatch h
      | cons x l ih =>
        unfold has at e
        cases q : Nat.beq k x with
        | true => rw [q] at e; cases e
        | false =>
          rw [q] at e
          intro hm
          rcases List.mem_cons.mp hm with rfl | hm
          · rw [show Nat.beq k k = true from Nat.beq_refl k] at q; cases q
          · exact ih e hm
theorem kindsOf_build : ∀ {fs : List Frame} {ks : List Kd}, kindsOf fs = some ks → ∃ c : Nat → Cp, fs.map Frame.where_ = buildW ks c 0
  | [], _, h => by cases h; exact ⟨fun _ => ⟨[], [], default, default, .none, ⟨[], []⟩, default, 0, ""⟩, rfl⟩
  | f :: l, ks, h => by
    unfold kindsOf at h
    cases e : kindOf f.where_.1 with
    | none => rw [e] at h; cases h
    | some k =>
      rw [e] at h
      dsimp only at h
      cases e' : kindsOf l with
      | none => rw [e'] at h; cases h
      | some r =>
        rw [e'] at h
        cases h
        obtain ⟨c, hc⟩ := kindsOf_build e'
        obtain ⟨x, hx⟩ := (kindOf_is e).mk f.where_.2
        refine ⟨fun i => match i with | 0 => x | i + 1 => c i, ?_⟩
        rw [List.map_cons, hc, ← show k.mk x = f.where_ from hx]
        show k.mk x :: buildW r c 0 = k.mk x :: buildW r _ (Nat.succ 0)
        congr 1
        exact buildW_succ (i := 0) (j := Nat.succ 0) fun n => by rw [show Nat.succ 0 + n = n + 1 by omega, Nat.zero_add]
theorem build_app : ∀ {ks ks' : List Kd} {c c' : Nat → Cp} {i j : Nat}, ∃ d : Nat → Cp, buildW ks c i ++ buildW ks' c' j = buildW (ks ++ ks') d 0
  | [], ks', c, c', i, j => ⟨fun n => c' (j + n), buildW_succ (i := j) (j := 0) fun n => by rw [Nat.zero_add]⟩
  | k :: ks, ks', c, c', i, j => by
    obtain ⟨d, hd⟩ := build_app (ks := ks) (ks' := ks') (c := c) (c' := c') (i := i.succ) (j := j)
    refine ⟨fun n => match n with | 0 => c i | n + 1 => d n, ?_⟩
    show k.mk (c i) :: (buildW ks c i.succ ++ buildW ks' c' j) = k.mk (c i) :: buildW (ks ++ ks') _ (Nat.succ 0)
    rw [hd]
    congr 1
    exact buildW_succ (i := 0) (j := Nat.succ 0) fun n => by rw [show Nat.succ 0 + n = n + 1 by omega, Nat.zero_add]
theorem kindsOf_spine {fs base : List Frame} {ks ks' : List Kd} (h : kindsOf fs = some ks) (S : Spine ks' base) : Spine (ks ++ ks') (fs ++ base) := by
  obtain ⟨c, hc⟩ := kindsOf_build h
  obtain ⟨c', hc'⟩ := S
  obtain ⟨d, hd⟩ := build_app (ks := ks) (ks' := ks') (c := c) (c' := c') (i := 0) (j := 0)
  exact ⟨d, by rw [List.map_append, hc, hc', hd]⟩
theorem bot_pre {pre base : List Frame} (h : Bot base) (hu : unmarked pre = true) : Bot (pre ++ base) := by
  unfold unmarked at hu
  have e1 : (marksOver pre (none, none)).1 = none := by
    cases q : (marksOver pre (none, none)).1 with
    | none => rfl
    | some _ => rw [q] at hu; cases hu
  have e2 : (marksOver pre (none, none)).2 = none := by
    rw [e1] at hu
    cases q : (marksOver pre (none, none)).2 with
    | none => rfl
    | some _ => rw [q] at hu; cases hu
  exact ⟨by rw [topHandled_append, h.1, h.2, e1], by rw [past_append, h.1, h.2, e2]⟩
theorem bot_ret {k : Result → Sem PySem.Fin} {g l c p kp} {base : List Frame} (h : Bot base) : Bot (.ret k none g l c p kp :: base) := ⟨h.1, h.2⟩
section
variable {V : Sta} {w : World} {s₀ s : Shared} {base : List Frame} (OK : V.Ok w s₀.heap) (B : BaseOk V base) (hgs : V.gb = s₀.gens.size)
theorem leaf_sound (B : BaseOk V base) (hgs : V.gb = s₀.gens.size) {or or' : List Ora} {T m al j tj gl gj c p pre O H} {r : Result} {x' : St} (h : leaf or T m al j tj gl gj O H r pre = some (or', x')) (S : Sat V s₀ s ⟨T, m, al, j, tj, gl, gj, leafOf r, c, p, pre, O, H⟩) :
    (∀ q ∈ x'.O, q.1 = q.2) → ∃ s', Sat V s₀ s' x' ∧ Comes (Mo pw w) base s ⟨T, m, al, j, tj, gl, gj, leafOf r, c, p, pre, O, H⟩ s' x' := by
  have _ := B
  cases pre with
  | nil => cases h
  | cons f pre =>
    cases f with
    | ret k hd g l c₁ p₁ kp =>
      obtain ⟨rfl, rfl⟩ := pinj h
      exact fun _ => ⟨s, S.go, reach_step (step_leaf_ret ..)⟩
    | gen g k l c₁ p₁ =>
      obtain ⟨i, or₁, rfl, h'⟩ := ask1_some h
      clear h; have h := h'; clear h'
      cases e : nthG gl i with
      | none => rw [e] at h; cases h
      | some y =>
        rw [e] at h
        obtain ⟨rfl, rfl⟩ := pinj h
        refine fun ho => ⟨_, S.setGen e hgs (y := .finished) rfl, ?_⟩
        have : g = y.1 := ho (g, y.1) (.head _)
        subst this
        exact reach_step (step_leaf_gen ..)
include OK B hgs
theorem plain_sound {τ : Nat → HT} : ∀ {or or' : List Ora} {x x' : St}, step0 V τ or x = some (or', x') → isHook x.t or = false → Sat V s₀ s x →
    (∀ q ∈ x'.O, q.1 = q.2) → ∃ s', Sat V s₀ s' x' ∧ Comes (Mo pw w) base s x s' x' := by
  intro or or' x x' h hk S
  obtain ⟨T, m, al, j, tj, gl, gj, t, c, p, pre, O, H⟩ := x
  cases t with
  | pure fin =>
    cases fin with
    | done f =>
      exact leaf_sound (w := w) (r := .ok f) B hgs h S
    | again c' =>
      unfold step0 at h
      dsimp only at h
      cases q : quietQ c' with
      | false => rw [q] at h; cases h
      | true =>
        rw [q] at h
        obtain ⟨rfl, rfl⟩ := pinj h
        rw [quietQ_eq] at q
        exact fun _ => ⟨s, S.go, reach_step (step_again _ _ _ _ _ _ q)⟩
  | raise e =>
    exact leaf_sound (w := w) (r := .error e) B hgs h S
  | rule tag k => obtain ⟨rfl, rfl⟩ := pinj h; exact fun _ => ⟨s, S.go, reach_step (step_rule ..)⟩
  | «at» q k => obtain ⟨rfl, rfl⟩ := pinj h; exact fun _ => ⟨s, S.go, reach_step (step_at ..)⟩
  | point l k => obtain ⟨rfl, rfl⟩ := pinj h; exact fun _ => ⟨s, S.go, reach_step (step_point ..)⟩
  | ask k =>
    obtain ⟨rfl, rfl⟩ := pinj h
    refine fun _ => ⟨s, S.go, ?_⟩
    rw [OK.P]
    exact reach_step (step_ask ..)
  | load a q k =>
    obtain ⟨i, or₁, rfl, h'⟩ := ask1_some h
    clear h; have h := h'; clear h'
    cases i with
    | zero =>
      dsimp only at h
      cases e : V.kt.get a with
      | none => rw [e] at h; cases h
      | some o =>
        rw [e] at h
        obtain ⟨rfl, rfl⟩ := pinj h
        exact fun _ => ⟨s, S.go, reach_step (step_load _ _ _ _ _ _ _ (S.kt OK e))⟩
    | succ i =>
      dsimp only at h
      cases e : T.get i with
      | none => rw [e] at h; cases h
      | some o =>
        rw [e] at h
        obtain ⟨rfl, rfl⟩ := pinj h
        refine fun ho => ⟨s, S.go, ?_⟩
        have z := (S.own i o e).2
        rw [← show a = V.adr al i from ho (a, V.adr al i) (.head _)] at z
        exact reach_step (step_load _ _ _ _ _ _ _ z)
  | update a q f k =>
    obtain ⟨i, or₁, rfl, h'⟩ := ask1_some h
    clear h; have h := h'; clear h'
    cases i with
    | zero => cases h
    | succ i =>
      dsimp only at h
      cases e : T.get i with
      | none => rw [e] at h; cases h
      | some o =>
        rw [e] at h
        dsimp only at h
        cases hf : (f o).isFreed with
        | true => rw [hf] at h; cases h
        | false =>
          rw [hf] at h
          obtain ⟨rfl, rfl⟩ := pinj h
          refine fun ho => ⟨_, S.update OK e hf, ?_⟩
          have ha : a = V.adr al i := ho (a, V.adr al i) (.head _)
          subst ha
          exact reach_step (step_update _ _ _ _ _ _ _ _ (by rw [(S.own i o e).2]; rfl))
  | alloc o k =>
    unfold step0 at h
    dsimp only at h
    cases hf : o.isFreed with
    | true => rw [hf] at h; cases h
    | false =>
      rw [hf] at h
      dsimp only at h
      cases hg : (T.ins (Nat.add V.K m) o).get (Nat.add V.K m) with
      | none => rw [hg] at h; cases h
      | some o' =>
        rw [hg] at h
        obtain ⟨rfl, rfl⟩ := pinj h
        refine fun _ => ⟨_, S.alloc OK hf (by show ((T.ins (Nat.add V.K m) o).get (Nat.add V.K m)).isSome = true; rw [hg]; rfl), ?_⟩
        have sz : s.heap.objs.size = V.nb + j := S.size
        show Comes _ _ _ _ _ ⟨_, _, _, _, _, _, _, k (V.nb + j), _, _, _, _, _⟩
        rw [← sz]
        exact reach_step (step_alloc ..)
  | fresh k =>
    obtain ⟨rfl, rfl⟩ := pinj h
    refine fun _ => ⟨{ s with toks := s.toks + 1 }, ⟨S.size, S.alen, S.alb, S.alnd, S.own, S.keep, S.tbl, by show s.toks + 1 = V.tb + (tj + 1); rw [show s.toks = V.tb + tj from S.toks, Nat.add_assoc], S.gsize, S.gown, S.gnd, S.gkeep, S.gin, S.drawn, S.os, S.bare⟩, ?_⟩
    have st : s.toks = V.tb + tj := S.toks
    show Comes _ _ _ _ _ ⟨_, _, _, _, _, _, _, k (V.tb + tj), _, _, _, _, _⟩
    rw [← st]
    exact reach_step (step_fresh ..)
  | stack k =>
    obtain ⟨rfl, rfl⟩ := pinj h
    refine fun _ => ⟨s, S.go, ?_⟩
    rw [← B.below]
    show Comes _ _ _ _ _ ⟨_, _, _, _, _, _, _, k ((c, p) :: (pre.map Frame.where_ ++ base.map Frame.where_)), _, _, _, _, _⟩
    rw [← List.map_append]
    exact reach_step (step_stack ..)
  | handled own k =>
    cases own with
    | true => cases h
    | false =>
      obtain ⟨rfl, rfl⟩ := pinj h
      refine fun _ => ⟨s, S.go, ?_⟩
      have e : topHandled (pre ++ base) = (marksOver pre (none, none)).1 := by rw [topHandled_append, B.bot.1, B.bot.2]
      show Comes _ _ _ _ _ ⟨_, _, _, _, _, _, _, k (marksOver pre (none, none)).1, _, _, _, _, _⟩
      rw [← e]
      exact reach_step (step_handled ..)
  | call c' hd g l k =>
    unfold step0 at h
    dsimp only at h
    cases or with
    | nil => cases h
    | cons a or =>
      cases a with
      | n _ => obtain ⟨rfl, rfl⟩ := pinj h; exact fun _ => ⟨s, S.go, reach_step (pre₁ := .ret k hd g l c p [] :: pre) (step_call ..)⟩
      | hook => cases hk
      | alt _ _ => cases h
  | newGen c' k =>
    obtain ⟨rfl, rfl⟩ := pinj h
    refine fun _ => ⟨_, S.newGen rfl, ?_⟩
    have sg : s.gens.size = V.gb + gj := S.gsize
    show Comes _ _ _ _ _ ⟨_, _, _, _, _, _, _, k (V.gb + gj), _, _, _, _, _⟩
    rw [← sg]
    exact reach_step (step_newGen ..)
  | genState g k =>
    obtain ⟨i, or₁, rfl, h'⟩ := ask1_some h
    clear h; have h := h'; clear h'
    cases e : nthG gl i with
    | none => rw [e] at h; cases h
    | some y =>
      rw [e] at h
      obtain ⟨rfl, rfl⟩ := pinj h
      refine fun ho => ⟨s, S.go, ?_⟩
      have z := S.gown i y e
      have ha : g = y.1 := ho (g, y.1) (.head _)
      subst ha
      exact reach_step (step_genState _ _ _ _ _ _ z)
  | resume g r l k =>
    obtain ⟨i, or₁, rfl, h'⟩ := ask1_some h
    clear h; have h := h'; clear h'
    cases e : nthG gl i with
    | none => rw [e] at h; cases h
    | some y =>
      rw [e] at h
      have z := S.gown i y e
      obtain ⟨g', y⟩ := y
      cases y with
      | fresh c₀ =>
        cases r with
        | throw => cases h
        | send v =>
          cases v with
          | none =>
            obtain ⟨rfl, rfl⟩ := pinj h
            refine fun ho => ⟨_, S.setGen e hgs (y := .running) rfl, ?_⟩
            have ha : g = g' := ho (g, g') (.head _)
            subst ha
            exact reach_step (pre₁ := .gen g k l c p :: pre) (step_resume_fresh _ _ _ _ _ _ _ z)
          | _ => cases h
      | suspended kk lv c₀ p₀ fs cl =>
        obtain ⟨rfl, rfl⟩ := pinj h
        refine fun ho => ⟨_, S.setGen e hgs (y := .running) rfl, ?_⟩
        have ha : g = g' := ho (g, g') (.head _)
        subst ha
        exact reach_step (pre₁ := fs ++ .gen g k l c p :: pre) (by simpa only [List.append_assoc, List.cons_append] using step_resume_suspended _ _ _ _ _ _ _ _ z)
      | running => cases h
      | finished => cases h
  | yield v g0 l kk =>
    unfold step0 at h
    dsimp only at h
    cases e : splitAtGen pre with
    | none => rw [e] at h; cases h
    | some q =>
      obtain ⟨fs, ⟨g, k, c', p'⟩, rest⟩ := q
      rw [e] at h
      dsimp only at h
      cases hq : (End.susp v g0 l kk c p fs).quiet with
      | false => rw [hq] at h; cases h
      | true =>
        rw [hq] at h
        obtain ⟨i, or₁, rfl, h'⟩ := ask1_some h
        clear h; have h := h'; clear h'
        cases eg : nthG gl i with
        | none => rw [eg] at h; cases h
        | some y =>
          rw [eg] at h
          obtain ⟨rfl, rfl⟩ := pinj h
          refine fun ho => ⟨_, S.setGen eg hgs (End.bare_of_quiet hq), ?_⟩
          have ha : g = y.1 := ho (g, y.1) (.head _)
          subst ha
          exact reach_step (step_yield _ _ _ _ _ _ _ _ _ (splitAtGen_append_some _ e) hq)
  | _ => cases h
theorem step_sound {τ : Nat → HT} {or : List Ora} {x : St} {s : Shared} (S : Sat V s₀ s x) (h : ∀ τ', Agree x.H.length τ τ' → ∃ or' x', step V τ' or x = some (or', x') ∧ (∀ q ∈ x'.O, q.1 = q.2) ∧ ∀ k ∈ x'.H, k.Ok w) :
    ∃ τ₁ or' x' s', Agree x.H.length τ τ₁ ∧ (∀ τ', Agree x'.H.length τ₁ τ' → step V τ' or x = some (or', x')) ∧ Sat V s₀ s' x' ∧ Comes (Mo pw w) base s x s' x' := by
  obtain ⟨or', x', e, ho, hH⟩ := h τ fun _ _ => rfl
  cases hk : isHook x.t or with
  | false =>
    by_cases halt : ∃ f or'', or = .alt 0 f :: or''
    · obtain ⟨f, or'', rfl⟩ := halt
      have e0 : some (or'', (⟨x.T, x.m, x.al, x.j, x.tj, x.gl, x.gj, f x.al, x.c, x.p, x.pre, x.O, .same x.t (f x.al) :: x.H⟩ : St)) = some (or', x') := e
      cases e0
      have hs : x.t = f x.al := hH _ (.head _)
      refine ⟨τ, _, _, s, fun _ _ => rfl, fun τ' _ => rfl, ⟨S.size, S.alen, S.alb, S.alnd, S.own, S.keep, S.tbl, S.toks, S.gsize, S.gown, S.gnd, S.gkeep, S.gin, S.drawn, S.os, S.bare⟩, fun s'' e' R => ?_⟩
      rw [hs]
      exact R
    by_cases hwait : ∃ m f or'', or = .alt (m + 1) f :: or''
    · obtain ⟨m, f, or'', rfl⟩ := hwait
      have h0 : isHook x.t [] = false := by cases x with | mk T m al j tj gl gj t c p pre O H => cases t <;> rfl
      have e2 := e
      unfold step at e2
      dsimp only at e2
      cases e3 : step0 V τ [] x with
      | none => rw [e3] at e2; cases e2
      | some r =>
        obtain ⟨o1, x1⟩ := r
        rw [e3] at e2
        cases e2
        have a := plain_sound OK B hgs e3 h0 S
        obtain ⟨s', S', C⟩ := a ho
        exact ⟨τ, _, _, s', fun _ _ => rfl, fun τ' _ => (step_tau hk).trans e, S', C⟩
    have e' : step0 V τ or x = some (or', x') := by
      cases or with
      | nil => exact e
      | cons a or => cases a with
        | n k => exact e
        | hook => exact e
        | alt m f => cases m with
          | zero => exact absurd ⟨f, or, rfl⟩ halt
          | succ m => exact absurd ⟨m, f, or, rfl⟩ hwait
    have a := plain_sound OK B hgs e' hk S
    obtain ⟨s', S', C⟩ := a ho
    exact ⟨τ, or', x', s', fun _ _ => rfl, fun τ' _ => (step_tau hk).trans e, S', C⟩
  | true =>
    obtain ⟨T, m, al, j, tj, gl, gj, t, c, p, pre, O, H⟩ := x
    cases t with
    | call c' hd g l k =>
      cases or with
      | nil => cases hk
      | cons a or =>
        cases a with
        | n _ => cases hk
        | alt _ _ => cases hk
        | hook tabs sp code need r upd news gneed gupd =>
          have e : hooked V (τ H.length) tabs sp code need (r al) (upd al) (news al) gneed (gupd al) or T m al j tj gl gj c' hd g l k c p pre O H = some (or', x') := e
          obtain ⟨rfl, hc, nd, ks, gnd, T', ⟨hu, htab, hhc, hq, hsee, hsp, hup, hgsee, hgq, hgup, hins⟩, rfl, rfl⟩ := hooked_inv e
          have E := hH _ (.head _)
          obtain ⟨a1, a2⟩ := see_fst hsee
          have al_len : al.length = m := S.alen
          have lo : ∀ a ∈ al, V.nb ≤ a := fun a ha => (S.alb a ha).1
          have ht' : tabs = true → V.tabs = true := fun q => by
            subst q
            cases q : V.tabs with
            | true => rfl
            | false => rw [q] at htab; cases htab
          have lt : ∀ i ∈ need.map Prod.fst, i < V.K + al.length := fun i hm => by
            obtain ⟨o, ho⟩ := Option.isSome_iff_exists.mp (a2 i hm)
            rw [al_len]
            exact (S.own i o ho).1
          have BB : Bot (.ret k none g l c p [] :: (pre ++ base)) := bot_ret (bot_pre B.bot hu)
          obtain ⟨na, rr, s', hR, hr, A⟩ := E (.ret k none g l c p [] :: (pre ++ base)) p s c' (hcOf_is hhc) BB (fun ks' hks => by
              have hks : ks = some ks' := hks
              subst hks
              unfold spOf at hsp
              cases sp with
              | false => cases hsp
              | true =>
                dsimp only at hsp
                cases q' : V.ks with
                | none => rw [q'] at hsp; cases hsp
                | some ks₀ =>
                rw [q'] at hsp
                dsimp only at hsp
                cases q : kindsOf (.ret k none g l c p [] :: pre) with
                | none => rw [q] at hsp; cases hsp
                | some l' =>
                  rw [q] at hsp
                  cases hsp
                  exact kindsOf_spine q (B.spine _ q'))
            (fun a o ho => S.kt OK (by rw [OK.kte]; exact ho)) (fun q => S.tbl (ht' q)) (see_spec S hsee)
            (by
              show (nd.map Prod.fst).Nodup
              rw [a1]
              refine List.Pairwise.map _ ?_ (List.Pairwise.and_mem.mp (uniq_nodup hq))
              intro i k h q
              exact h.2.2 (adr_inj OK S.alnd lo q (lt i h.1) (lt k h.2.1)))
            (fun q hq => by
              have : q.1 ∈ (need.map Prod.fst).map (V.adr al) := a1 ▸ List.mem_map_of_mem hq
              obtain ⟨i, him, hq1⟩ := List.mem_map.mp this
              refine ⟨?_, fun q => ?_⟩
              · cases q2 : (kt w.params).get q.1 with
                | none => rfl
                | some o =>
                  have z := OK.off _ (adr_ne OK lo (lt i him) hq1 (OK.kt _ o (by rw [OK.kte]; exact q2)))
                  rw [OK.kte, q2] at z
                  cases z
              · rw [← hq1]
                exact adr_tabs OK lo (lt i him) (ht' q))
            (fun q hq => by
              obtain ⟨i, _, h⟩ := seeG_spec hgsee q hq
              exact S.gown i q h)
            (seeG_nodup S.gnd hgsee (uniq_nodup hgq))
          obtain ⟨t₁, ht₁⟩ := rv_mk hr
          let ht₀ : HT := ⟨t₁, s'.toks - s.toks, s'.heap.objs.size - s.heap.objs.size, s'.gens.size - s.gens.size, na, fun _ => ⟨fun _ => 0, fun _ => 0, fun _ => 0,0⟩, fun _ => ⟨fun _ => 0, fun _ => 0, fun _ => 0,0⟩⟩
          obtain ⟨or₀, x₀, e₀, _, _⟩ := h (fun i => if i = H.length then ht₀ else τ i) fun i hi => if_neg (Nat.ne_of_lt hi)
          have e₀' : hooked V ((fun i => if i = H.length then ht₀ else τ i) H.length) tabs sp code need (r al) (upd al) (news al) gneed (gupd al) or' T m al j tj gl gj c' none g l k c p pre O H = some (or₀, x₀) := e₀
          rw [show (fun i => if i = H.length then ht₀ else τ i) H.length = ht₀ from if_pos rfl] at e₀'
          obtain ⟨_, hc0, nd0, ks0, gnd0, T0, I0, _, _⟩ := hooked_inv e₀'
          have hgup0 := I0.hgup
          have u1 := updOk_spec I0.hup
          obtain ⟨n1, _⟩ := insAll_get I0.hins
          obtain ⟨ku, hku⟩ := toksFor (L := upd al na) (g := fun i => s'.heap.get? (V.adr al i)) (fun q hq => A.upd (V.adr al q.1, q.2) (List.mem_map.mpr ⟨q, hq, rfl⟩)) (fun q hq => (u1 q hq).2)
          obtain ⟨kv, hkv⟩ := toksAt (L := news al na) (g := fun i => s'.heap.get? (na i)) (fun i q hq => (A.new i q hq).2) n1
          let ht : HT := ⟨t₁, s'.toks - s.toks, s'.heap.objs.size - s.heap.objs.size, s'.gens.size - s.gens.size, na, ku, kv⟩
          let τ₁ : Nat → HT := fun i => if i = H.length then ht else τ i
          have g1 : Agree H.length τ τ₁ := fun i hi => if_neg (Nat.ne_of_lt hi)
          have g2 : τ₁ H.length = ht := if_pos rfl
          obtain ⟨or₁, x₁, e₁, _, _⟩ := h τ₁ g1
          have e₁' : hooked V (τ₁ H.length) tabs sp code need (r al) (upd al) (news al) gneed (gupd al) or' T m al j tj gl gj c' none g l k c p pre O H = some (or₁, x₁) := e₁
          obtain ⟨_, hc2, nd2, ks2, gnd2, T2, I2, hor2, hx2⟩ := hooked_inv e₁'
          have hins2 := I2.hins
          have hhc2 := I2.hhc
          have hsee2 := I2.hsee
          have hsp2 := I2.hsp
          have hgsee2 := I2.hgsee
          rw [g2] at hins2 hx2
          refine ⟨τ₁, or₁, x₁, s', g1, fun τ' hτ => ?_, ?_, ?_⟩
          · show hooked V (τ' H.length) tabs sp code need (r al) (upd al) (news al) gneed (gupd al) or' T m al j tj gl gj c' none g l k c p pre O H = _
            rw [show τ' H.length = τ₁ H.length from hτ _ (by rw [hx2]; exact Nat.lt_succ_self _)]
            exact e₁'
          · rw [hx2]
            exact S.hook OK (k := ⟨tabs, hc, ks, nd, r al, _, news al, gnd, _⟩) (ht := ht) hgup0 rfl hgs I0.hup hins2 A rfl rfl ht' hku hkv (by
              show s'.toks = s.toks + (s'.toks - s.toks)
              have := A.toks
              omega) (by
              show s'.heap.objs.size = s.heap.objs.size + (s'.heap.objs.size - s.heap.objs.size)
              have := A.size
              omega) (by
              show s'.gens.size = s.gens.size + (s'.gens.size - s.gens.size)
              have := A.gsize
              omega)
          · rw [hx2]
            intro s'' e' R
            refine .step (pre₁ := .ret k none g l c p [] :: pre) (step_call ..) ?_
            refine Reach.under (B := .ret k none g l c p [] :: pre) (pre := []) hR ?_
            rintro _ _ _ _ ⟨rfl, rfl⟩
            refine .step (pre₁ := pre) (step_leaf_ret ..) ?_
            rw [← ht₁]
            exact R
    | _ => cases hk
theorem ev_sound : ∀ (n : Nat) {τ : Nat → HT} {or : List Ora} {x : St} {s : Shared}, Sat V s₀ s x → (∀ τ', Agree x.H.length τ τ' → ∃ or' x', ev V τ' n or x = some (or', x') ∧ (∀ q ∈ x'.O, q.1 = q.2) ∧ ∀ k ∈ x'.H, k.Ok w) →
    ∃ τ₁ s', Agree x.H.length τ τ₁ ∧ ∀ or' x', ev V τ₁ n or x = some (or', x') → Sat V s₀ s' x' ∧ Comes (Mo pw w) base s x s' x'
  | 0, τ, or, x, s, S, h => by
    refine ⟨τ, s, fun _ _ => rfl, fun or' x' e => ?_⟩
    cases e
    exact ⟨S, fun _ _ r => r⟩
  | n + 1, τ, or, x, s, S, h => by
    have one : ∀ τ' or₁ x₁, step V τ' or x = some (or₁, x₁) → ev V τ' (n + 1) or x = ev V τ' n or₁ x₁ := fun τ' or₁ x₁ e => by
      conv => lhs; unfold ev
      rw [e]
    obtain ⟨τ₁, or₁, x₁, s₁, g1, e1, S1, C1⟩ := step_sound OK B hgs S fun τ' hτ => by
      obtain ⟨or', x', e, ho, hH⟩ := h τ' hτ
      cases es : step V τ' or x with
      | none => unfold ev at e; rw [es] at e; cases e
      | some r =>
        obtain ⟨or₁, x₁⟩ := r
        rw [one _ _ _ es] at e
        obtain ⟨⟨e3, o3⟩, e4, o4⟩ := ev_grows n e
        exact ⟨or₁, x₁, rfl, fun q hq => ho q (by rw [o3]; exact List.mem_append_right _ hq), fun k hk => hH k (by rw [o4]; exact List.mem_append_right _ hk)⟩
    have le : x.H.length ≤ x₁.H.length := (step_grows (e1 τ₁ fun _ _ => rfl)).le
    have ag : ∀ τ', Agree x₁.H.length τ₁ τ' → Agree x.H.length τ τ' := fun τ' hτ i hi => (hτ i (Nat.lt_of_lt_of_le hi le)).trans (g1 i hi)
    obtain ⟨τ₂, s₂, g2, k2⟩ := ev_sound n (τ := τ₁) (or := or₁) S1 fun τ' hτ => by
      obtain ⟨or', x', e, r⟩ := h τ' (ag τ' hτ)
      rw [one _ _ _ (e1 τ' hτ)] at e
      exact ⟨or', x', e, r⟩
    refine ⟨τ₂, s₂, ag τ₂ g2, fun or' x' e => ?_⟩
    rw [one _ _ _ (e1 τ₂ g2)] at e
    obtain ⟨S2, C2⟩ := k2 or' x' e
    exact ⟨S2, fun s'' e r => C1 _ _ (C2 _ _ r)⟩
end
structure Here (w : World) (tabs : Bool) (L : List (Nat × OV)) (G : List (Nat × GenState)) (s : Shared) : Prop where
  kt : ∀ a o, (Mine.kt w.params).get a = some o → s.heap.get? a = some o
  tbl : tabs = true → Tbls s.heap
  cells : Cells s.heap L
  nd : (L.map Prod.fst).Nodup
  high : ∀ q ∈ L, (Mine.kt w.params).get q.1 = none ∧ Tabs tabs q.1
  gens : ∀ q ∈ G, s.gens[q.1]? = some q.2
  gnd : (G.map Prod.fst).Nodup
structure Rel (tabs : Bool) (as gs : List Nat) (s s' : Shared) : Prop where
  keep : ∀ b o, s.heap.get? b = some o → b ∉ as → Tabs tabs b → s'.heap.get? b = some o
  size : s.heap.objs.size ≤ s'.heap.objs.size
  gkeep : ∀ (g : Nat) (y : GenState), s.gens[g]? = some y → g ∉ gs → s'.gens[g]? = some y
  gsize : s.gens.size ≤ s'.gens.size
  toks : s.toks ≤ s'.toks
  bare : AllBare s.gens → AllBare s'.gens
  drawn : s'.drawn = s.drawn
  os : s'.os = s.os
theorem Rel.refl (tabs : Bool) (as gs : List Nat) (s : Shared) : Rel tabs as gs s s := ⟨fun _ _ e _ _ => e, Nat.le_refl _, fun _ _ e _ => e, Nat.le_refl _, Nat.le_refl _, fun h => h, rfl, rfl⟩
theorem Rel.trans {tabs : Bool} {as gs : List Nat} {s s' s'' : Shared} (a : Rel tabs as gs s s') (b : Rel tabs as gs s' s'') : Rel tabs as gs s s'' :=
  ⟨fun x o e h t => b.keep x o (a.keep x o e h t) h t, Nat.le_trans a.size b.size, fun x o e h => b.gkeep x o (a.gkeep x o e h) h, Nat.le_trans a.gsize b.gsize, Nat.le_trans a.toks b.toks, fun h => b.bare (a.bare h), b.drawn.trans a.drawn, b.os.trans a.os⟩
theorem Rel.within {tabs tabs' : Bool} {as as' gs gs' : List Nat} {s₀ s s' : Shared} (a : Rel tabs as gs s₀ s) (b : Rel tabs' as' gs' s s') (h : ∀ x ∈ as', x ∈ as ∨ s₀.heap.objs.size ≤ x ∨ tabs = true ∧ (x = 147 ∨ x = 154)) (hg : ∀ x ∈ gs', x ∈ gs ∨ s₀.gens.size ≤ x) (ht : tabs' = true → tabs = true) : Rel tabs as gs s₀ s' :=
  ⟨fun x o e q t => b.keep x o (a.keep x o e q t) (fun z => (h x z).elim q fun z => z.elim (fun z => absurd (Heap.lt_size e) (Nat.not_lt.mpr z)) fun z => z.2.elim (t z.1).1 (t z.1).2) fun z => t (ht z), Nat.le_trans a.size b.size,
   fun x o e q => b.gkeep x o (a.gkeep x o e q) fun z => (hg x z).elim q fun z => absurd (Array.getElem?_eq_some_iff.mp e).1 (Nat.not_lt.mpr z), Nat.le_trans a.gsize b.gsize, Nat.le_trans a.toks b.toks, fun h => b.bare (a.bare h), b.drawn.trans a.drawn, b.os.trans a.os⟩
theorem After.rel {k : Hook} {na : Nat → Nat} {s s' : Shared} (A : After k na s s') : Rel k.tabs ((k.upd na).map Prod.fst) ((k.gupd na).map Prod.fst) s s' :=
  ⟨A.keep, A.size, A.gkeep, A.gsize, A.toks, A.bare, A.drawn, A.os⟩
noncomputable def objsOf : List OV → (Nat → TK) → Nat → List Obj
  | [], _, _ => []
  | v :: l, k, i => v.mk' (k i) :: objsOf l k (Nat.succ i)
noncomputable def insFrom : List Obj → BT → Nat → BT
  | [], T, _ => T
  | o :: l, T, i => match (T.ins i o).get i with
    | some _ => insFrom l (T.ins i o) (Nat.succ i)
    | none => .nil
noncomputable def mkV (P : Params) (b1 b2 : Bool) (tabs : Bool) (as : List Nat) (K nb tb gb : Nat) (gs : List Nat) (ks : Option (List Kd)) (W : List (Code × Pos)) : Sta := ⟨prm b1 b2 P, kt P, tabs, as, K, nb, tb, gs, gb, ks, W⟩
noncomputable def mkX (L : List OV) (k : Nat → TK) (G : List (Nat × GenState)) (t : Sem PySem.Fin) (c : Code) (p : Pos) (pre : List Frame) : St := ⟨insFrom (objsOf L k 0) .nil 0,0, [], 0,0, G, 0, t, c, p, pre, [], []⟩
theorem insFrom_get {P : Nat → Obj → Prop} : ∀ (l : List Obj) (T : BT) (i : Nat), (∀ j o, T.get j = some o → j < i ∧ P j o) → (∀ k o, l[k]? = some o → P (i + k) o) → ∀ j o, (insFrom l T i).get j = some o → j < i + l.length ∧ P j o
  | [], T, i, hT, _, j, o, e => ⟨by simpa using (hT j o e).1, (hT j o e).2⟩
  | a :: l, T, i, hT, hl, j, o, e => by
    unfold insFrom at e
    cases g : (T.ins i a).get i with
    | none => rw [g] at e; cases e
    | some a' =>
      rw [g] at e
      have hs : ((T.ins i a).get i).isSome = true := by rw [g]; rfl
      have z := insFrom_get (P := P) l (T.ins i a) i.succ (fun j o e => by
        rw [BT.get_ins a T i hs] at e
        by_cases q : j = i
        · subst q
          rw [if_pos rfl] at e
          cases e
          exact ⟨Nat.lt_succ_self _, hl 0 a rfl⟩
        · rw [if_neg q] at e
          exact ⟨Nat.lt_succ_of_lt (hT j o e).1, (hT j o e).2⟩) (fun k o e => by
        have := hl (k + 1) o e
        rw [show i.succ + k = i + (k + 1) by omega]
        exact this) j o e
      refine ⟨?_, z.2⟩
      have := z.1
      simp only [List.length_cons]
      omega
theorem objsOf_get : ∀ {l : List OV} {k : Nat → TK} {i n : Nat} {o : Obj}, (objsOf l k i)[n]? = some o → ∃ v, l[n]? = some v ∧ o = v.mk' (k (i + n))
  | [], _, _, _, _, h => by cases h
  | v :: l, k, i, 0, o, h => by
    unfold objsOf at h
    cases h
    exact ⟨v, rfl, rfl⟩
  | v :: l, k, i, n + 1, o, h => by
    unfold objsOf at h
    obtain ⟨v', h1, h2⟩ := objsOf_get (l := l) (k := k) (i := i.succ) (n := n) (o := o) h
    exact ⟨v', h1, by rw [h2, show i.succ + n = i + (n + 1) by omega]⟩
noncomputable abbrev fl1 (w : World) : Bool := w.params.followText "special-get-raises"
noncomputable abbrev fl2 (w : World) : Bool := w.params.followText "comprehension-iter-twice"
theorem big {w : World} {h : Heap} (H : ∀ a o, (kt w.params).get a = some o → h.get? a = some o) : 317 ≤ h.objs.size := Heap.lt_size (H 316 o316 rfl)
section
variable {w : World} {tabs : Bool} {L : List (Nat × OV)} {G : List (Nat × GenState)} {s : Shared} {base : List Frame}
theorem walk_start {k : Nat → TK} (H : Here w tabs L G s) (hk : ∀ (i : Nat) (q : Nat × OV), L[i]? = some q → s.heap.get? q.1 = some (q.2.mk' (k i))) (ks : Option (List Kd)) (hb : Bot base) (hs : ∀ l, ks = some l → Spine l base) :
    let V := mkV w.params (fl1 w) (fl2 w) tabs (L.map Prod.fst) L.length s.heap.objs.size s.toks s.gens.size (G.map Prod.fst) ks (base.map Frame.where_)
    V.Ok w s.heap ∧ BaseOk V base ∧ V.gb = s.gens.size ∧ ∀ t c p pre, Sat V s s (mkX (L.map Prod.snd) k G t c p pre) := by
  refine ⟨⟨prm_self _, rfl, by simp [mkV], H.nd, fun a ha => ?_, H.kt, fun a ha => ?_, rfl, fun a ha => ?_, big H.kt⟩, ⟨rfl, hs, hb⟩, rfl, fun t c p pre => ⟨rfl, rfl, fun _ h => (nomatch h), List.nodup_nil, fun i o e => ?_, fun b o e _ _ => e, H.tbl, rfl, rfl, fun i y e => ?_, H.gnd, fun g y e _ => e, fun y hy => .inl (List.mem_map_of_mem hy), rfl, rfl, fun h => h⟩⟩
  · obtain ⟨q, hq, rfl⟩ := List.mem_map.mp ha
    obtain ⟨o, ho, _⟩ := H.cells q hq
    exact Heap.lt_size ho
  · obtain ⟨q, hq, rfl⟩ := List.mem_map.mp ha
    exact (H.high q hq).1
  · obtain ⟨q, hq, rfl⟩ := List.mem_map.mp ha
    exact (H.high q hq).2
  · have z := insFrom_get (P := fun i o => s.heap.get? ((L.map Prod.fst).getD i 0) = some o ∧ i < L.length) (objsOf (L.map Prod.snd) k 0) .nil 0 (fun j o e => by simp [BT.get] at e) (fun n o e => by
      obtain ⟨v, h1, h2⟩ := objsOf_get e
      rw [List.getElem?_map] at h1
      obtain ⟨q, h3, h4⟩ := Option.map_eq_some_iff.mp h1
      have h5 := hk n q h3
      refine ⟨?_, by rw [Nat.zero_add]; exact (List.getElem?_eq_some_iff.mp h3).1⟩
      rw [Nat.zero_add, List.getD_eq_getElem?_getD, List.getElem?_map, h3, h2, Nat.zero_add, ← h4]
      exact h5) i o e
    refine ⟨?_, ?_⟩
    · show i < L.length + 0
      exact z.2.2
    · rw [adr_old (show i < (mkV _ _ _ _ _ _ _ _ _ _ _ _).K from z.2.2)]
      exact z.2.1
  · exact H.gens y (nthG_mem e)
end
noncomputable def outOf (r : Option (List Ora × St)) : St := match r with
  | some r => r.2
  | none => ⟨.nil, 0, [], 0,0, [], 0, .unsupported "", .call .none ⟨[], []⟩, default, [], [], []⟩
noncomputable def okOf (r : Option (List Ora × St)) : Bool := match r with
  | some _ => true
  | none => false
theorem out_of {V : Sta} {τ : Nat → HT} {n : Nat} {or : List Ora} {x : St} (h : okOf (ev V τ n or x) = true) : ∃ or', ev V τ n or x = some (or', outOf (ev V τ n or x)) := by
  cases e : ev V τ n or x with
  | none => rw [e] at h; cases h
  | some r => exact ⟨r.1, rfl⟩
noncomputable def callOf : Sem PySem.Fin → Option Code
  | .call c h _ _ _ => match h with
    | none => some c
    | some _ => none
  | _ => none
noncomputable def contOf : Sem PySem.Fin → Result → Sem PySem.Fin
  | .call _ _ _ _ k => k
  | _ => fun _ => .unsupported ""
noncomputable def againOf : Sem PySem.Fin → Option Code
  | .pure f => match f with
    | .again c => match quietQ c with
      | true => some c
      | false => none
    | .done _ => none
  | _ => none
noncomputable def leafOf? : Sem PySem.Fin → Option Result
  | .pure f => match f with
    | .done f => some (.ok f)
    | .again _ => none
  | .raise e => some (.error e)
  | _ => none
theorem leafOf?_eq {t : Sem PySem.Fin} {r : Result} (h : leafOf? t = some r) : t = leafOf r := by
  cases t with
  | pure f => cases f <;> cases h; rfl
  | raise e => cases h; rfl
  | _ => cases h
noncomputable def leafV (t : Sem PySem.Fin) : Option RV := match leafOf? t with
  | some r => rv r
  | none => none
theorem leafV_eq {t : Sem PySem.Fin} {v : RV} (h : leafV t = some v) : ∃ r, rv r = some v ∧ t = leafOf r := by
  unfold leafV at h
  cases e : leafOf? t with
  | none => rw [e] at h; cases h
  | some r => rw [e] at h; exact ⟨r, h, leafOf?_eq e⟩
noncomputable def noFrames : List Frame → Bool
  | [] => true
  | _ :: _ => false
theorem Sat.rel {V : Sta} {w : World} {s₀ s' : Shared} {X : St} (S : Sat V s₀ s' X) (OK : V.Ok w s₀.heap) (hg : V.gb = s₀.gens.size) (ht : V.tb = s₀.toks) : Rel V.tabs V.as V.gs s₀ s' :=
  ⟨S.keep, by rw [S.size, OK.size]; exact Nat.le_add_right .., S.gkeep, by rw [S.gsize, ← hg]; exact Nat.le_add_right .., by rw [S.toks, ← ht]; exact Nat.le_add_right .., S.bare, S.drawn, S.os⟩
theorem all_eq {l : List (Nat × Nat)} (h : l.map Prod.fst = l.map Prod.snd) : ∀ q ∈ l, q.1 = q.2 := by
  induction l with
  | nil => intro q hq; cases hq
  | cons a l ih =>
    simp only [List.map_cons, List.cons.injEq] at h
    intro q hq
    rcases List.mem_cons.mp hq with rfl | hq
    · exact h.1
    · exact ih h.2 q hq
inductive Tells : List (Nat × SV) → List (Nat × OV) → Prop
  | nil : Tells [] []
  | v {a x l l'} : Tells l l' → Tells ((a, .vw x) :: l) ((a, x) :: l')
  | o {a x k l l'} : Tells l l' → Tells ((a, .ob (OV.mk' x k)) :: l) ((a, x) :: l')
  | e {a y x l l'} : ov y = some x → Tells l l' → Tells ((a, .ob y) :: l) ((a, x) :: l')
theorem Tells.fst {l : List (Nat × SV)} {l' : List (Nat × OV)} (h : Tells l l') : l'.map Prod.fst = l.map Prod.fst := by
  induction h with
  | nil => rfl
  | v _ ih => simp only [List.map_cons, ih]
  | o _ ih => simp only [List.map_cons, ih]
  | e _ _ ih => simp only [List.map_cons, ih]
theorem Tells.cells {h : Heap} {l : List (Nat × SV)} {l' : List (Nat × OV)} (T : Tells l l') (H : ∀ q ∈ l, ∃ o, h.get? q.1 = some o ∧ q.2.Of o) : Cells h l' := by
  induction T with
  | nil => intro q hq; cases hq
  | @v a x l l' _ ih =>
    intro q hq
    rcases List.mem_cons.mp hq with rfl | hq
    · exact H _ (.head _)
    · exact ih (fun q hq => H q (.tail _ hq)) q hq
  | @o a x k l l' _ ih =>
    intro q hq
    rcases List.mem_cons.mp hq with rfl | hq
    · obtain ⟨o, h1, h2⟩ := H _ (.head _)
      exact ⟨o, h1, by rw [show o = OV.mk' x k from h2]; exact ov_of_mk ..⟩
    · exact ih (fun q hq => H q (.tail _ hq)) q hq
  | @e a y x l l' hy _ ih =>
    intro q hq
    rcases List.mem_cons.mp hq with rfl | hq
    · obtain ⟨o, h1, h2⟩ := H _ (.head _)
      exact ⟨o, h1, by rw [show o = y from h2]; exact hy⟩
    · exact ih (fun q hq => H q (.tail _ hq)) q hq
noncomputable def said (r : Option (List Ora × St)) : Bool × List Nat × List Ob := (okOf r, (outOf r).O.map Prod.fst, (outOf r).H)
noncomputable def asked (r : Option (List Ora × St)) (H : List Ob) : Bool × List Nat × List Ob := (true, (outOf r).O.map Prod.snd, H)
noncomputable def getsOf (T : BT) : List Nat → List (Option Obj)
  | [] => []
  | i :: l => T.get i :: getsOf T l
noncomputable def nthO : List OV → Nat → Option OV
  | [], _ => none
  | x :: _, 0 => some x
  | _ :: l, n + 1 => nthO l n
noncomputable def samesOf (l : List OV) (k : Nat → TK) : List Nat → List (Option Obj)
  | [] => []
  | i :: r => (match nthO l i with
    | some v => some (v.mk' (k i))
    | none => none) :: samesOf l k r
theorem sames_spec {l : List OV} {k : Nat → TK} {T : BT} : ∀ {un : List Nat}, getsOf T un = samesOf l k un → ∀ i ∈ un, ∀ v, l[i]? = some v → T.get i = some (v.mk' (k i))
  | [], _, i, hi, _, _ => nomatch hi
  | n :: un, h, i, hi, v, hv => by
    unfold getsOf samesOf at h
    obtain ⟨h1, h2⟩ := List.cons.inj h
    rcases List.mem_cons.mp hi with rfl | hi
    · have : nthO l i = some v := by
        clear h h1 h2 hi
        induction l generalizing i with
        | nil => simp at hv
        | cons x l ih => cases i with
          | zero => simpa [nthO] using hv
          | succ i => simp only [nthO]; exact ih _ (by simpa using hv)
      rw [this] at h1
      exact h1
    · exact sames_spec h2 i hi v hv
theorem has_mem : ∀ {l : List Nat} {i : Nat}, has i l = true → i ∈ l
  | [], _, h => nomatch h
  | k :: l, i, h => by
    unfold has at h
    cases q : Nat.beq i k with
    | true => exact Nat.eq_of_beq_eq_true q ▸ .head _
    | false => rw [q] at h; exact .tail _ (has_mem h)
structure Amb where
  nb : Nat
  tb : Nat
  gb : Nat
  p : Pos
  t0 : Nat
  κ : Nat → Nat
  k : Nat → TK
  τ : Nat → HT
noncomputable abbrev aV (w : World) (b1 b2 : Bool) (e : Amb) (W : List (Code × Pos)) (tabs : Bool) (ks : Option (List Kd)) (L : List (Nat × OV)) (G : List (Nat × GenState)) : Sta := mkV w.params b1 b2 tabs (L.map Prod.fst) L.length e.nb e.tb e.gb (G.map Prod.fst) ks W
noncomputable abbrev aC (e : Amb) (f : VV) (args : List VV) : Code := .call (f.mk e.t0) ⟨mkVs e.κ 0 args, []⟩
noncomputable def WOk : Option (List Kd) → List (Code × Pos) → Prop
  | none, _ => True
  | some ks, W => ∃ cp, W = buildW ks cp 0
section
variable {w : World} {tabs : Bool} {L : List (Nat × OV)} {G : List (Nat × GenState)} {s : Shared} {base : List Frame}
theorem walk_core (H : Here w tabs L G s) (hc : clsOks L = true) (ks : Option (List Kd)) (hb : Bot base) (hs : ∀ l, ks = some l → Spine l base) : ∃ k : Nat → TK, (∀ (i : Nat) (q : Nat × OV), L[i]? = some q → s.heap.get? q.1 = some (q.2.mk' (k i))) ∧
    let V := mkV w.params (fl1 w) (fl2 w) tabs (L.map Prod.fst) L.length s.heap.objs.size s.toks s.gens.size (G.map Prod.fst) ks (base.map Frame.where_)
    V.Ok w s.heap ∧ ∀ t c p pre n or (Hs : (Nat → HT) → List Ob),
      let r := fun τ => ev V τ n or (mkX (L.map Prod.snd) k G t c p pre)
      (∀ τ, said (r τ) = asked (r τ) (Hs τ)) → (∀ τ, ∀ h ∈ Hs τ, h.Ok w) → ∃ τ s', Sat V s s' (outOf (r τ)) ∧ Comes (Mo pw w) base s (mkX (L.map Prod.snd) k G t c p pre) s' (outOf (r τ)) := by
  obtain ⟨k, hk⟩ := tks H.cells hc
  obtain ⟨OK, B, hg, St⟩ := walk_start H hk ks hb hs
  refine ⟨k, hk, OK, fun t c p pre n or Hs => ?_⟩
  intro r hsaid hH
  have good : ∀ τ', ∃ or' x', ev (mkV w.params (fl1 w) (fl2 w) tabs (L.map Prod.fst) L.length s.heap.objs.size s.toks s.gens.size (G.map Prod.fst) ks (base.map Frame.where_)) τ' n or (mkX (L.map Prod.snd) k G t c p pre) = some (or', x') ∧ x' = outOf (r τ') ∧ (∀ q ∈ x'.O, q.1 = q.2) ∧ ∀ k ∈ x'.H, k.Ok w := fun τ' => by
    have h := hsaid τ'
    unfold said asked at h
    simp only [Prod.mk.injEq] at h
    obtain ⟨h1, h2, h3⟩ := h
    obtain ⟨or', ho⟩ := out_of h1
    exact ⟨or', _, ho, rfl, all_eq h2, fun k hk => hH τ' k (h3 ▸ hk)⟩
  obtain ⟨τ, s', _, a⟩ := ev_sound OK B hg n (τ := fun _ => ⟨0,0,0,0, fun _ => 0, fun _ => ⟨fun _ => 0, fun _ => 0, fun _ => 0,0⟩, fun _ => ⟨fun _ => 0, fun _ => 0, fun _ => 0,0⟩⟩) (or := or) (St t c p pre) fun τ' _ => by
    obtain ⟨or', x', e, _, e1, e2⟩ := good τ'
    exact ⟨or', x', e, e1, e2⟩
  obtain ⟨or', x', e, rfl, _⟩ := good τ
  obtain ⟨S, C⟩ := a or' _ e
  exact ⟨τ, s', S, C⟩
theorem Tells.views {l : List (Nat × SV)} {l' : List (Nat × OV)} (T : Tells l l') {h : Heap} (H : ∀ q ∈ l, ∃ o, h.get? q.1 = some o ∧ q.2.Of o) : Cells h l' := T.cells H
noncomputable def tagN (na : Nat → Nat) : Nat → List OV → List (Nat × OV)
  | _, [] => []
  | i, v :: l => (na i, v) :: tagN na (Nat.succ i) l
theorem tagN_at {na : Nat → Nat} : ∀ {l : List OV} {i n : Nat} {q : OV}, l[n]? = some q → (tagN na i l)[n]? = some (na (i + n), q)
  | [], _, _, _, h => by simp at h
  | v :: l, i, 0, q, h => by cases h; rfl
  | v :: l, i, n + 1, q, h => by
    unfold tagN
    show (tagN na i.succ l)[n]? = _
    rw [tagN_at (l := l) (i := i.succ) (n := n) h, show i.succ + n = i + (n + 1) by simp only [Nat.succ_eq_add_one]; omega]
theorem tagN_fst {na : Nat → Nat} : ∀ {l : List OV} {i : Nat}, (tagN na i l).map Prod.fst = naL na i l.length
  | [], _ => rfl
  | v :: l, i => by unfold tagN; rw [List.map_cons, tagN_fst]; rfl
noncomputable abbrev aR (w : World) (b1 b2 : Bool) (e : Amb) (W : List (Code × Pos)) (tabs : Bool) (ks : Option (List Kd)) (L : List (Nat × OV)) (G : List (Nat × GenState)) (n : Nat) (or : List Ora) (c : Code) : Option (List Ora × St) :=
  ev (aV w b1 b2 e W tabs ks L G) e.τ n or (mkX (L.map Prod.snd) e.k G (den c) c e.p [])
noncomputable def hcC (e : Amb) : HC → Code
  | .call f args => aC e f args
  | .code c => c
end
noncomputable def e0 (e : Amb) : Amb := ⟨e.nb, e.tb, e.gb, e.p, e.t0, e.κ, e.k, fun _ => ⟨0,0,0,0, fun _ => 0, fun _ => ⟨fun _ => 0, fun _ => 0, fun _ => 0,0⟩, fun _ => ⟨fun _ => 0, fun _ => 0, fun _ => 0,0⟩⟩⟩
noncomputable def ups : List Nat → List (Nat × OV) → List (Nat × OV)
  | i :: l, q :: r => (i, q.2) :: ups l r
  | _, _ => []
noncomputable def upg : List Nat → List (Nat × GenState) → List (Nat × GenState)
  | i :: l, q :: r => (i, q.2) :: upg l r
  | _, _ => []
noncomputable def alR (nb : Nat) : Nat → Nat → List Nat → List Nat
  | _, 0, l => l
  | j, n + 1, l => Nat.add nb j :: alR nb (Nat.succ j) n l
noncomputable def sucs : Nat → Nat → Nat
  | j, 0 => j
  | j, n + 1 => sucs (Nat.succ j) n
noncomputable def alF (e : Amb) : List Nat → Nat → Nat → List Nat
  | [], _, _ => []
  | c :: l, j, h => match Nat.mod c 4 with
    | 0 => alR e.nb j (Nat.div c 4) (alF e l (sucs j (Nat.div c 4)) h)
    | 1 => naL (e.τ h).na 0 (Nat.div c 4) ++ alF e l (Nat.add j (e.τ h).dj) (Nat.succ h)
    | 2 => alF e l j h
    | _ => alF e l j (Nat.succ h)
noncomputable def gF (e : Amb) : List Nat → Nat → Nat → List Nat
  | [], _, _ => []
  | c :: l, j, h => match Nat.mod c 4 with
    | 0 => gF e l j h
    | 1 => gF e l (Nat.add j (e.τ h).dg) (Nat.succ h)
    | 2 => Nat.add e.gb j :: gF e l (Nat.succ j) h
    | _ => gF e l j (Nat.succ h)
noncomputable def isAl : List Nat → Nat → Bool
  | [], _ => false
  | c :: l, i => match Nat.mod c 4 with
    | 0 => match Nat.blt i (Nat.div c 4) with
      | true => true
      | false => isAl l (Nat.sub i (Nat.div c 4))
    | 1 => match Nat.blt i (Nat.div c 4) with
      | true => false
      | false => isAl l (Nat.sub i (Nat.div c 4))
    | 2 => isAl l i
    | _ => isAl l i
theorem alR_ge {nb : Nat} {l : List Nat} : ∀ {n j i : Nat}, (n ≤ i → nb ≤ nth l (i - n)) → nb ≤ nth (alR nb j n l) i
  | 0, _, i, h => by simpa [alR] using h (Nat.zero_le _)
  | n + 1, j, 0, _ => by show nb ≤ Nat.add nb j; exact Nat.le_add_right ..
  | n + 1, j, i + 1, h => by
    show nb ≤ nth (alR nb (Nat.succ j) n l) i
    exact alR_ge fun q => by have := h (by omega); rwa [show i + 1 - (n + 1) = i - n by omega] at this
theorem isAl_ge {e : Amb} : ∀ {l : List Nat} {j h i : Nat}, isAl l i = true → e.nb ≤ nth (alF e l j h) i
  | [], _, _, _, q => nomatch q
  | c :: l, j, h, i, q => by
    unfold isAl at q
    unfold alF
    split at q
    · refine alR_ge fun z => ?_
      cases b : Nat.blt i (Nat.div c 4) with
      | true => exact absurd (blt_true b) (Nat.not_lt.mpr z)
      | false => rw [b] at q; exact isAl_ge q
    · cases b : Nat.blt i (Nat.div c 4) with
      | true => rw [b] at q; cases q
      | false =>
        rw [b] at q
        have z : ¬ i < Nat.div c 4 := fun z => by rw [show Nat.blt i (Nat.div c 4) = true from Nat.ble_eq_true_of_le z] at b; cases b
        rw [nth_app' (by rw [naL_len]; exact Nat.le_of_not_lt z), naL_len]
        exact isAl_ge q
    · exact isAl_ge q
    · exact isAl_ge q
structure Fa (L : List (Nat × OV)) (v : List Nat) (ks : Option (List Kd)) (e : Amb) (W : List (Code × Pos)) (a : Nat → Nat) : Prop where
  lt : ∀ q ∈ L, q.1 < e.nb
  big : 317 ≤ e.nb
  W : WOk ks W
  eq : a = nth (alF e v 0 0)
theorem Fa.ne {L v ks e W a} (f : Fa L v ks e W a) {q : Nat × OV} (h : q ∈ L) (i : Nat) (z : isAl v i = true) : q.1 ≠ a i := by
  have h1 := f.lt q h
  have h2 : e.nb ≤ a i := by rw [f.eq]; exact isAl_ge z
  omega
theorem Fa.hi {L v ks e W a} (f : Fa L v ks e W a) (i : Nat) (z : isAl v i = true) : 317 ≤ a i := by
  have h1 := f.big
  have h2 : e.nb ≤ a i := by rw [f.eq]; exact isAl_ge z
  omega
inductive IT (w : World) (F : Prop) where
  | q {h : Hook} (ok : F → Eff w h) (ni ui gi gui : List Nat)
  | s {t' : Sem PySem.Fin} (m : Nat) {t : Sem PySem.Fin} (ok : F → t = t')
noncomputable abbrev p0 {w : World} {F : Prop} {h : Hook} (ok : Eff w h) : IT w F := .q (fun _ => ok) [] [] [] []
noncomputable abbrev p1 {w : World} {F : Prop} {h : Hook} (ok : Eff w h) (ni : List Nat) : IT w F := .q (fun _ => ok) ni [] [] []
noncomputable abbrev p2 {w : World} {F : Prop} {h : Hook} (ok : Eff w h) (ni ui : List Nat) : IT w F := .q (fun _ => ok) ni ui [] []
noncomputable abbrev p4 {w : World} {F : Prop} {h : Hook} (ok : Eff w h) (ni ui gi gui : List Nat) : IT w F := .q (fun _ => ok) ni ui gi gui
structure HS where
  h : Hook
  ni : List Nat
  ui : List Nat
  gi : List Nat
  gui : List Nat
  alt : Option (Nat × Sem PySem.Fin)
noncomputable def dH : Hook := ⟨false, .code (.call .none ⟨[], []⟩), none, [], fun _ => .next, fun _ => [], fun _ => [], [], fun _ => []⟩
noncomputable def IT.hs {w : World} {F : Prop} : IT w F → HS
  | .q (h := h) _ ni ui gi gui => ⟨h, ni, ui, gi, gui, none⟩
  | .s (t' := t') m _ => ⟨dH, [], [], [], [], some (m, t')⟩
noncomputable def IT.ob {w : World} {F : Prop} : IT w F → Ob
  | .q (h := h) _ _ _ _ _ => .hook h
  | .s (t' := t') _ (t := t) _ => .same t t'
theorem IT.good {w : World} {F : Prop} (f : F) : ∀ x : IT w F, x.ob.Ok w
  | .q ok _ _ _ _ => ok f
  | .s _ ok => ok f
noncomputable def gHS : List HS → Nat → HS
  | [], _ => ⟨dH, [], [], [], [], none⟩
  | x :: _, 0 => x
  | _ :: l, n + 1 => gHS l n
noncomputable def isSo {α : Type} : Option α → Bool
  | none => false
  | some _ => true
noncomputable def isCo : HC → Bool
  | .code _ => true
  | .call _ _ => false
noncomputable def needF : List Nat → List (Nat × SV) → List (Nat × Bool)
  | i :: l, q :: r => (i, match q.2 with | .vw _ => true | .ob _ => false) :: needF l r
  | _, _ => []
noncomputable def altT : Option (Nat × Sem PySem.Fin) → Sem PySem.Fin
  | some q => q.2
  | none => .unsupported ""
noncomputable def orI (H : (Nat → Nat) → List HS) (j : Nat) : Ora := match (gHS (H fun _ => 0) j).alt with
  | some q => .alt q.1 fun al => altT (gHS (H (nth al)) j).alt
  | none => .hook (gHS (H fun _ => 0) j).h.tabs (isSo (gHS (H fun _ => 0) j).h.ks) (isCo (gHS (H fun _ => 0) j).h.c) (needF (gHS (H fun _ => 0) j).ni (gHS (H fun _ => 0) j).h.need)
    (fun al na => (gHS (H (nth al)) j).h.r na) (fun al na => ups (gHS (H fun _ => 0) j).ui ((gHS (H (nth al)) j).h.upd na)) (fun al na => (gHS (H (nth al)) j).h.news na) (gHS (H fun _ => 0) j).gi (fun al na => upg (gHS (H fun _ => 0) j).gui ((gHS (H (nth al)) j).h.gupd na))
noncomputable def mkO (H : (Nat → Nat) → List HS) : List Nat → Nat → List Ora
  | [], _ => []
  | d :: l, j => match d with
    | 0 => orI H j :: mkO H l (Nat.succ j)
    | d + 1 => .n d :: mkO H l j
noncomputable def dgs (b : Nat) : Nat → Nat → List Nat
  | 0, _ => []
  | f + 1, n => match Nat.beq n 1 with
    | true => []
    | false => Nat.mod n b :: dgs b f (Nat.div n b)
noncomputable def dg (b n : Nat) : List Nat := dgs b 5000 n
noncomputable def isK : List Nat → List (Option TK) → List (Nat × Bool)
  | [], _ => []
  | i :: l, [] => (i, true) :: isK l []
  | i :: l, t :: r => (i, match t with | none => true | some _ => false) :: isK l r
noncomputable def tell : List (Option TK) → List (Nat × OV) → List (Nat × SV)
  | _, [] => []
  | [], q :: l => (q.1, .vw q.2) :: tell [] l
  | t :: r, q :: l => (q.1, match t with | none => .vw q.2 | some k => .ob (OV.mk' q.2 k)) :: tell r l
theorem isK_fst : ∀ {l : List Nat} {t : List (Option TK)}, (isK l t).map Prod.fst = l
  | [], _ => rfl
  | i :: l, [] => by unfold isK; rw [List.map_cons, isK_fst]
  | i :: l, t :: r => by unfold isK; rw [List.map_cons, isK_fst]
theorem tells : ∀ {t : List (Option TK)} {l : List (Nat × OV)}, Tells (tell t l) l
  | [], [] => .nil
  | _ :: _, [] => .nil
  | [], q :: l => by unfold tell; exact .v tells
  | none :: r, q :: l => by unfold tell; exact .v tells
  | some k :: r, q :: l => by unfold tell; exact .o tells
noncomputable def cmp (l : List Nat) : Nat → List Nat
  | 0 => []
  | n + 1 => match has n l with
    | true => cmp l n
    | false => n :: cmp l n
theorem cmp_spec {l : List Nat} : ∀ {n i : Nat}, i < n → i ∈ cmp l n ∨ i ∈ l
  | 0, _, h => absurd h (Nat.not_lt_zero _)
  | n + 1, i, h => by
    unfold cmp
    cases q : has n l with
    | true =>
      rcases Nat.lt_succ_iff_lt_or_eq.mp h with h | rfl
      · exact cmp_spec h
      · exact .inr (has_mem q)
    | false =>
      rcases Nat.lt_succ_iff_lt_or_eq.mp h with h | rfl
      · exact (cmp_spec h).elim (fun z => .inl (.tail _ z)) .inr
      · exact .inl (.head _)
noncomputable def rgf {α : Type} : Nat → List α → List Nat
  | _, [] => []
  | i, _ :: l => i :: rgf (Nat.succ i) l
structure WD (w : World) (k : Hook) where
  L : List (Nat × OV)
  T : Tells k.need L
  g : ∀ na, (k.gupd na).map Prod.fst = k.gneed.map Prod.fst
  v : List Nat
  iu : List Nat
  z : List Nat
  n : Nat
  o : List Nat
  I : Bool → Bool → (e : Amb) → (W : List (Code × Pos)) → (a g : Nat → Nat) → List (IT w (Fa L v k.ks e W a))
  ut : Amb → List (Option TK)
  zt : Amb → List (Option TK)
  x : Amb → (Nat → Nat) → (Nat → Nat) → List Nat
noncomputable abbrev wd {w : World} {k : Hook} {L : List (Nat × OV)} (v iu z : List Nat) (n : Nat) (o : List Nat) (I : (e : Amb) → (W : List (Code × Pos)) → (a g : Nat → Nat) → List (IT w (Fa L v k.ks e W a)) := by exact fun _ _ _ _ => []) (T : Tells k.need L := by exact .nil) (ut : Amb → List (Option TK) := fun _ => []) (zt : Amb → List (Option TK) := fun _ => []) (x : Amb → (Nat → Nat) → (Nat → Nat) → List Nat := fun _ _ _ => []) (g : ∀ na, (k.gupd na).map Prod.fst = k.gneed.map Prod.fst := by exact fun _ => rfl) : WD w k := ⟨L, T, g, v, iu, z, n, o, fun _ _ => I, ut, zt, x⟩
noncomputable abbrev wdA {w : World} {k : Hook} {L : List (Nat × OV)} (v iu z : List Nat) (n : Nat) (o : List Nat) (I : Bool → Bool → (e : Amb) → (W : List (Code × Pos)) → (a g : Nat → Nat) → List (IT w (Fa L v k.ks e W a))) (T : Tells k.need L := by exact .nil) (ut : Amb → List (Option TK) := fun _ => []) (zt : Amb → List (Option TK) := fun _ => []) (x : Amb → (Nat → Nat) → (Nat → Nat) → List Nat := fun _ _ _ => []) (g : ∀ na, (k.gupd na).map Prod.fst = k.gneed.map Prod.fst := by exact fun _ => rfl) : WD w k := ⟨L, T, g, v, iu, z, n, o, I, ut, zt, x⟩
noncomputable def nA (v z : List Nat) (e : Amb) (x : (Nat → Nat) → (Nat → Nat) → List Nat) : Nat → Nat := nth (z.map (nth (alF e v 0 0)) ++ x (nth (alF e v 0 0)) (nth (gF e v 0 0)))
section
variable {w : World} {k : Hook} (D : WD w k) (b1 b2 : Bool) (e : Amb) (W : List (Code × Pos))
noncomputable def WD.a : Nat → Nat := nth (alF e D.v 0 0)
noncomputable def WD.gn : Nat → Nat := nth (gF e D.v 0 0)
noncomputable def WD.A : Nat → Nat := nth (D.z.map (D.a e) ++ D.x e (D.a e) (D.gn e))
noncomputable def WD.O : List Ora := mkO (fun a => (D.I b1 b2 (e0 e) W a fun _ => 0).map IT.hs) D.o 0
noncomputable def WD.H : List Ob := ((D.I b1 b2 e W (D.a e) (D.gn e)).map IT.ob).reverse
noncomputable abbrev WD.V : Sta := aV w b1 b2 e W k.tabs k.ks D.L k.gneed
noncomputable def WD.run (t : Sem PySem.Fin) (c : Code) (p : Pos) : Option (List Ora × St) := ev (D.V b1 b2 e W) e.τ D.n (D.O b1 b2 e W) (mkX (D.L.map Prod.snd) e.k k.gneed t c p [])
noncomputable def WD.R : Option (List Ora × St) := D.run b1 b2 e W (den (hcC e k.c)) (hcC e k.c) e.p
noncomputable def WD.zi : List (Nat × Bool) := isK (D.z.map (Nat.add D.L.length)) (D.zt e)
noncomputable def WD.l {α : Type} (r : Option (List Ora × St)) (f : St → α) := ((said r, clsOks D.L, uniq D.z), getsOf (outOf r).T (cmp D.iu D.L.length), see (D.V b1 b2 e W) (outOf r).al (outOf r).T (isK D.iu (D.ut e)), see (D.V b1 b2 e W) (outOf r).al (outOf r).T (D.zi e), f (outOf r), noFrames (outOf r).pre, seeG (outOf r).gl (rgf 0 k.gneed))
noncomputable def WD.r {α : Type} (r : Option (List Ora × St)) (f : α) := ((asked r (D.H b1 b2 e W), true, true), samesOf (D.L.map Prod.snd) e.k (cmp D.iu D.L.length), some (tell (D.ut e) (k.upd (D.A e))), some (tell (D.zt e) (tagN (D.A e) 0 (k.news (D.A e)))), f, true, some (k.gupd (D.A e)))
end
structure Asks (w : World) (k : Hook) (base : List Frame) (s : Shared) : Prop where
  bot : Bot base
  sp : ∀ ks, k.ks = some ks → Spine ks base
  kt : ∀ a o, (Mine.kt w.params).get a = some o → s.heap.get? a = some o
  tbl : k.tabs = true → Tbls s.heap
  need : ∀ q ∈ k.need, ∃ o, s.heap.get? q.1 = some o ∧ q.2.Of o
  nd : (k.need.map Prod.fst).Nodup
  high : ∀ q ∈ k.need, (Mine.kt w.params).get q.1 = none ∧ Tabs k.tabs q.1
  gens : ∀ q ∈ k.gneed, s.gens[q.1]? = some q.2
  gnd : (k.gneed.map Prod.fst).Nodup
theorem nth_map {f : Nat → Nat} {l l' : List Nat} {i : Nat} (h : i < l.length) : nth (l.map f ++ l') i = f l[i] := by
  rw [nth_app (by rwa [List.length_map])]
  unfold nth
  rw [List.getD_eq_getElem?_getD, List.getElem?_map, List.getElem?_eq_getElem h]
  rfl
theorem WD.core {w : World} {k : Hook} {b2 : Bool} (hb : fl2 w = b2) (D : WD w k) {base : List Frame} {s : Shared} (Q : Asks w k base s) {α : Type} (f : St → α) (fv : Amb → α) (t : Sem PySem.Fin) (c : Code) (p : Pos) (t0 : Nat) (κ : Nat → Nat)
    (chk : ∀ kk τ, let e : Amb := ⟨s.heap.objs.size, s.toks, s.gens.size, p, t0, κ, kk, τ⟩
      D.l (fl1 w) b2 e (base.map Frame.where_) (D.run (fl1 w) b2 e (base.map Frame.where_) t c p) f = D.r (fl1 w) b2 e (base.map Frame.where_) (D.run (fl1 w) b2 e (base.map Frame.where_) t c p) (fv e)) :
    ∃ kk τ s', let e : Amb := ⟨s.heap.objs.size, s.toks, s.gens.size, p, t0, κ, kk, τ⟩
      let x := outOf (D.run (fl1 w) b2 e (base.map Frame.where_) t c p)
      f x = fv e ∧ x.pre = [] ∧ (∀ s'' z, Reach (Mo pw w) base s' x.t x.c x.p x.pre s'' z → Reach (Mo pw w) base s t c p [] s'' z) ∧ After k (D.A e) s s' ∧ ∀ i y, nthG x.gl i = some y → s'.gens[y.1]? = some y.2 := by
  subst hb
  obtain ⟨hb, hs, hkt, htb, hneed, hnd, hhigh, hgs, hgn⟩ := Q
  have hfst := D.T.fst
  have H : Here w k.tabs D.L k.gneed s := ⟨hkt, htb, D.T.cells hneed, by rw [hfst]; exact hnd, (fun q hq => by
    have : q.1 ∈ k.need.map Prod.fst := hfst ▸ List.mem_map_of_mem hq
    obtain ⟨q', hq', e⟩ := List.mem_map.mp this
    exact e ▸ hhigh q' hq'), hgs, hgn⟩
  have hW : WOk k.ks (base.map Frame.where_) := by
    cases q : k.ks with
    | none => trivial
    | some ks => exact hs ks q
  have z0 := chk (fun _ => ⟨fun _ => 0, fun _ => 0, fun _ => 0,0⟩) fun _ => ⟨0,0,0,0, fun _ => 0, fun _ => ⟨fun _ => 0, fun _ => 0, fun _ => 0,0⟩, fun _ => ⟨fun _ => 0, fun _ => 0, fun _ => 0,0⟩⟩
  have z0 := (Prod.mk.inj (Prod.mk.inj z0).1).2
  obtain ⟨hc, huz⟩ := Prod.mk.inj z0
  obtain ⟨kk, hkk, OK, core⟩ := walk_core H hc k.ks hb hs
  let am : (Nat → HT) → Amb := fun τ => ⟨s.heap.objs.size, s.toks, s.gens.size, p, t0, κ, kk, τ⟩
  let V := D.V (fl1 w) (fl2 w) (am fun _ => ⟨0,0,0,0, fun _ => 0, fun _ => ⟨fun _ => 0, fun _ => 0, fun _ => 0,0⟩, fun _ => ⟨fun _ => 0, fun _ => 0, fun _ => 0,0⟩⟩) (base.map Frame.where_)
  obtain ⟨τ, s', S, C⟩ := core t c p [] D.n (D.O (fl1 w) (fl2 w) (am fun _ => ⟨0,0,0,0, fun _ => 0, fun _ => ⟨fun _ => 0, fun _ => 0, fun _ => 0,0⟩, fun _ => ⟨fun _ => 0, fun _ => 0, fun _ => 0,0⟩⟩) (base.map Frame.where_)) (fun τ => D.H (fl1 w) (fl2 w) (am τ) (base.map Frame.where_)) (fun τ => (Prod.mk.inj (Prod.mk.inj (chk kk τ)).1).1) fun τ h hh => by
    unfold WD.H at hh
    obtain ⟨x, _, rfl⟩ := List.mem_map.mp (List.mem_reverse.mp hh)
    exact IT.good ⟨fun q hq => OK.lt _ (List.mem_map_of_mem hq), OK.big, hW, rfl⟩ x
  have z := chk kk τ
  unfold WD.l WD.r at z
  simp only [Prod.mk.injEq] at z
  obtain ⟨_, z2, z3, z4, z5, z6, z9⟩ := z
  refine ⟨kk, τ, s', z5, ?_, C, ?_, S.gown⟩
  · cases q : (outOf (D.run (fl1 w) (fl2 w) (am τ) (base.map Frame.where_) t c p)).pre with
    | nil => rfl
    | cons _ _ => rw [q] at z6; cases z6
  change Sat V s s' (outOf (D.run (fl1 w) (fl2 w) (am τ) (base.map Frame.where_) t c p)) at S
  have zi_fst : (D.zi (am τ)).map Prod.fst = D.z.map (Nat.add D.L.length) := isK_fst
  have zu_fst : (isK D.iu (D.ut (am τ))).map Prod.fst = D.iu := isK_fst
  generalize hν : D.A (am τ) = ν at *
  generalize D.zi (am τ) = isN at *
  generalize isK D.iu (D.ut (am τ)) = isU at *
  generalize outOf (D.run (fl1 w) (fl2 w) (am τ) (base.map Frame.where_) t c p) = X at *
  have lo : ∀ a ∈ X.al, s.heap.objs.size ≤ a := fun a ha => (S.alb a ha).1
  have R := S.rel OK rfl rfl
  change see V _ _ _ = _ at z3
  change see V _ _ _ = _ at z4
  obtain ⟨a1, a2⟩ := see_fst z3
  obtain ⟨n1, n2⟩ := see_fst z4
  have hU : Tells _ (k.upd ν) := tells (t := D.ut (am τ))
  have hN : Tells _ (tagN ν 0 (k.news ν)) := tells (t := D.zt (am τ))
  have hnew : naL ν 0 (k.news ν).length = (D.z.map (Nat.add D.L.length)).map (V.adr X.al) := by
    rw [← zi_fst, ← n1, ← hN.fst, tagN_fst]
  have hlen : (k.news ν).length = D.z.length := by
    have := congrArg List.length hnew
    rw [naL_len, List.length_map, List.length_map] at this
    exact this
  have hna : ∀ i (hi : i < (k.news ν).length), D.z[i]'(hlen ▸ hi) < X.al.length ∧ ν i = nth X.al (D.z[i]'(hlen ▸ hi)) := fun i hi => by
    have hz : i < D.z.length := hlen ▸ hi
    have hm : Nat.add D.L.length D.z[i] ∈ isN.map Prod.fst := by rw [zi_fst]; exact List.mem_map_of_mem (List.getElem_mem hz)
    obtain ⟨o, ho⟩ := Option.isSome_iff_exists.mp (n2 _ hm)
    have h1 : Nat.add D.L.length D.z[i] < D.L.length + X.m := (S.own _ o ho).1
    rw [Nat.add_eq] at h1
    refine ⟨by rw [S.alen]; omega, ?_⟩
    have e : nth (naL ν 0 (k.news ν).length) i = nth ((D.z.map (Nat.add D.L.length)).map (V.adr X.al) ++ []) i := by rw [hnew, List.append_nil]
    rw [naL_nth hi, Nat.zero_add, List.map_map, nth_map hz] at e
    rw [e]
    show V.adr X.al (Nat.add D.L.length D.z[i]) = _
    rw [adr_new (V := V) (i := Nat.add D.L.length D.z[i]) (show D.L.length ≤ _ from Nat.le_add_right ..)]
    show nth X.al (Nat.add D.L.length D.z[i] - D.L.length) = _
    rw [Nat.add_eq, Nat.add_sub_cancel_left]
  refine ⟨R.size, fun b o e q t => ?_, hU.cells (see_spec S z3), fun i q hq => ?_, fun i j hi hj e => ?_, S.tbl, R.toks, R.gsize, fun g y e h => R.gkeep g y e fun hm => ?_, fun q hq => ?_, S.bare, S.drawn, S.os⟩
  · by_cases hb' : b ∈ D.L.map Prod.fst
    · obtain ⟨i, hi, rfl⟩ := List.getElem_of_mem hb'
      rw [List.length_map] at hi
      have hLi : D.L[i]? = some D.L[i] := List.getElem?_eq_getElem hi
      have hb2 : (D.L.map Prod.fst)[i]'(by rw [List.length_map]; exact hi) = D.L[i].1 := List.getElem_map ..
      have hadr : V.adr X.al i = D.L[i].1 := by
        rw [adr_old (show i < V.K from hi)]
        show (D.L.map Prod.fst).getD i 0 = _
        rw [List.getD_eq_getElem?_getD, List.getElem?_map, hLi]; rfl
      rcases cmp_spec (l := D.iu) hi with h | h
      · have h1 := sames_spec z2 i h D.L[i].2 (by rw [List.getElem?_map, hLi]; rfl)
        have h2 := (S.own i _ h1).2
        rw [hadr] at h2
        rw [hb2, h2]
        rw [hb2, hkk i _ hLi] at e
        exact e
      · exfalso
        apply q
        rw [hU.fst, a1, hb2, ← hadr, zu_fst]
        exact List.mem_map_of_mem h
    · exact R.keep b o e hb' t
  · have hi : i < (k.news ν).length := (List.getElem?_eq_some_iff.mp hq).1
    obtain ⟨h3, h4⟩ := hna i hi
    refine ⟨by rw [h4]; exact lo _ (nth_mem h3), ?_⟩
    have := tagN_at (na := ν) (i := 0) hq
    rw [Nat.zero_add] at this
    exact hN.cells (see_spec S z4) (ν i, q) (List.mem_of_getElem? this)
  · obtain ⟨x3, x4⟩ := hna i hi
    obtain ⟨y3, y4⟩ := hna j hj
    have e2 := nth_inj S.alnd x3 y3 (by rw [← x4, ← y4]; exact e)
    exact (List.getElem_inj (uniq_nodup huz)).mp e2
  · exact h (D.g _ ▸ hm)
  · obtain ⟨i, _, h⟩ := seeG_spec z9 q hq
    exact S.gown i q h
noncomputable def GoTo (w : World) (base : List Frame) (s : Shared) (c : Code) (p : Pos) (s' : Shared) (c' : Code) : Prop :=
  ∃ p', ∀ s'' e, Reach (Mo pw w) base s' (den c') c' p' [] s'' e → Reach (Mo pw w) base s (den c) c p [] s'' e
noncomputable def Turn (w : World) (k : Hook) (c' : Code) : Prop := ∀ (base : List Frame) (p : Pos) (s : Shared) (c : Code), k.c.Is c → Bot base → (∀ ks, k.ks = some ks → Spine ks base) →
  (∀ a o, (Mine.kt w.params).get a = some o → s.heap.get? a = some o) → (k.tabs = true → Tbls s.heap) →
  (∀ q ∈ k.need, ∃ o, s.heap.get? q.1 = some o ∧ q.2.Of o) → (k.need.map Prod.fst).Nodup → (∀ q ∈ k.need, (Mine.kt w.params).get q.1 = none ∧ Tabs k.tabs q.1) → (∀ q ∈ k.gneed, s.gens[q.1]? = some q.2) → (k.gneed.map Prod.fst).Nodup →
  ∃ na s', GoTo w base s c p s' c' ∧ After k na s s'
noncomputable def CallTo (w : World) (base : List Frame) (s : Shared) (c : Code) (p : Pos) (s' : Shared) (c' : Code) (kd : Kd) (X : Option (List Ora × St)) : Prop :=
  ∃ fr : Frame, (Bot base → Bot (fr :: base)) ∧ (∀ ks, Spine ks base → Spine (kd :: ks) (fr :: base)) ∧ fr.where_.1 = (outOf X).c ∧ ∃ p1, ∀ s1 r, Reach (Mo pw w) (fr :: base) s' (den c') c' p1 [] s1 (.ret r) →
    ∀ s'' e, Reach (Mo pw w) base s1 (contOf (outOf X).t r) (outOf X).c (outOf X).p [] s'' e → Reach (Mo pw w) base s (den c) c p [] s'' e
noncomputable def CallG (w : World) (k : Hook) (c' : (Nat → Nat) → Code) (kd : Kd) (X : Amb → List (Code × Pos) → Option (List Ora × St)) (A : Amb → List (Code × Pos) → Nat → Nat) (GN : Amb → List (Code × Pos) → List (Nat × GenState)) : Prop := ∀ (base : List Frame) (p : Pos) (s : Shared) (c : Code), k.c.Is c → Asks w k base s →
  ∃ na s' e, na = A e (base.map Frame.where_) ∧ CallTo w base s c p s' (c' na) kd (X e (base.map Frame.where_)) ∧ After k na s s' ∧ e.gb = s.gens.size ∧ ∀ q ∈ GN e (base.map Frame.where_), s'.gens[q.1]? = some q.2
noncomputable def CallW (w : World) (k : Hook) (c' : (Nat → Nat) → Code) (kd : Kd) (X : Amb → List (Code × Pos) → Option (List Ora × St)) (A : Amb → List (Code × Pos) → Nat → Nat) : Prop := ∀ (base : List Frame) (p : Pos) (s : Shared) (c : Code), k.c.Is c → Asks w k base s →
  ∃ na s' e, na = A e (base.map Frame.where_) ∧ CallTo w base s c p s' (c' na) kd (X e (base.map Frame.where_)) ∧ After k na s s'
noncomputable def EffAt (w : World) (k : Hook) (base : List Frame) (s : Shared) (t : Sem PySem.Fin) (c : Code) (p : Pos) : Prop := Asks w k base s → ∃ na r s', Reach (Mo pw w) base s t c p [] s' (.ret r) ∧ rv r = some (k.r na) ∧ After k na s s'
noncomputable def TurnAt (w : World) (k : Hook) (base : List Frame) (s : Shared) (t : Sem PySem.Fin) (c : Code) (p : Pos) (c' : Code) : Prop := Asks w k base s → ∃ na s', (∃ p', ∀ s'' e, Reach (Mo pw w) base s' (den c') c' p' [] s'' e → Reach (Mo pw w) base s t c p [] s'' e) ∧ After k na s s'
theorem Eff.go {w k base s c} (E : Eff w k) (p : Pos) (hc : k.c.Is c) (A : Asks w k base s) : ∃ na r s', Reach (Mo pw w) base s (den c) c p [] s' (.ret r) ∧ rv r = some (k.r na) ∧ After k na s s' :=
  E base p s c hc A.bot A.sp A.kt A.tbl A.need A.nd A.high A.gens A.gnd
theorem Turn.go {w k c' base s c} (E : Turn w k c') (p : Pos) (hc : k.c.Is c) (A : Asks w k base s) : ∃ na s', GoTo w base s c p s' c' ∧ After k na s s' :=
  E base p s c hc A.bot A.sp A.kt A.tbl A.need A.nd A.high A.gens A.gnd
theorem againOf_eq {t : Sem PySem.Fin} {c : Code} (h : againOf t = some c) : t = .pure (.again c) ∧ c.quiet = true := by
  cases t with
  | pure f =>
    cases f with
    | done f => cases h
    | again c' =>
      unfold againOf at h
      dsimp only at h
      cases q : quietQ c' with
      | false => rw [q] at h; cases h
      | true => rw [q] at h; cases h; exact ⟨rfl, by rw [← quietQ_eq]; exact q⟩
  | _ => cases h
theorem callOf_eq {t : Sem PySem.Fin} {c : Code} (h : callOf t = some c) : ∃ g l, t = .call c none g l (contOf t) := by
  cases t <;> try (cases h; done)
  rename_i c' hd g l k
  unfold callOf at h
  dsimp only at h
  cases hd with
  | none => cases h; exact ⟨g, l, rfl⟩
  | some _ => cases h
theorem wok {ks : Option (List Kd)} {base : List Frame} (h : ∀ l, ks = some l → Spine l base) : WOk ks (base.map Frame.where_) := by
  cases ks with
  | none => trivial
  | some l => exact h l rfl
theorem code_of {h : HC} {c : Code} (hc : h.Is c) : ∃ t0 κ, ∀ e : Amb, e.t0 = t0 → e.κ = κ → hcC e h = c := by
  cases h with
  | code c₀ =>
    have : c = c₀ := hc
    exact ⟨0, fun _ => 0, fun _ _ _ => this.symm⟩
  | call fv args =>
    obtain ⟨f, vs, rfl, hf, hv⟩ := hc
    obtain ⟨κ, hκ⟩ := vvs_mk hv
    refine ⟨tokV f, κ, fun e h1 h2 => ?_⟩
    show Code.call (fv.mk e.t0) ⟨mkVs e.κ 0 args, []⟩ = _
    rw [h1, h2, vv_mk hf, hκ]
theorem callTo_of {w : World} {base : List Frame} {s s' : Shared} {c c' : Code} {p : Pos} {kd : Kd} {r : Option (List Ora × St)} (z1 : (callOf (outOf r).t, kindOf (outOf r).c) = (some c', some kd)) (z2 : (outOf r).pre = []) (z3 : ∀ s'' z, Reach (Mo pw w) base s' (outOf r).t (outOf r).c (outOf r).p (outOf r).pre s'' z → Reach (Mo pw w) base s (den c) c p [] s'' z) : CallTo w base s c p s' c' kd r := by
  obtain ⟨z5, z7⟩ := Prod.mk.inj z1
  obtain ⟨gg, ll, ht⟩ := callOf_eq z5
  refine ⟨.ret (contOf (outOf r).t) none gg ll (outOf r).c (outOf r).p [], fun hb => bot_ret hb, fun ks hS => kindsOf_spine (fs := [.ret (contOf (outOf r).t) none gg ll (outOf r).c (outOf r).p []]) (ks := [kd]) (by unfold kindsOf kindsOf; dsimp only [Frame.where_]; rw [z7]) hS, rfl, (outOf r).p, fun s1 f hR s'' ee hR' => z3 s'' ee ?_⟩
  rw [z2, ht]
  refine .step (pre₁ := [.ret (contOf (outOf r).t) none gg ll (outOf r).c (outOf r).p []]) (step_call ..) ?_
  refine Reach.under (B := [.ret (contOf (outOf r).t) none gg ll (outOf r).c (outOf r).p []]) (pre := []) hR ?_
  rintro _ _ _ _ ⟨rfl, rfl⟩
  exact .step (pre₁ := []) (step_leaf_ret ..) hR'
noncomputable def wW (ks : Option (List Kd)) (cp : Nat → Cp) (W : List (Code × Pos)) : List (Code × Pos) := match ks with
  | none => W
  | some ks => buildW ks cp 0
theorem wW_of {ks : Option (List Kd)} {W : List (Code × Pos)} (h : WOk ks W) : ∃ cp, W = wW ks cp W := by
  cases ks with
  | none => exact ⟨fun _ => ⟨[], [], default, .Name ⟨#[]⟩ default, .none, {}, default, 0, ""⟩, rfl⟩
  | some ks => exact h
noncomputable def WD.CL {w : World} {k : Hook} (D : WD w k) (b2 : Bool) {α : Type} (R : Bool → Amb → List (Code × Pos) → Option (List Ora × St)) (f : St → α) := fun (e : Amb) (cp : Nat → Cp) (W : List (Code × Pos)) =>
  (D.l false b2 e (wW k.ks cp W) (R false e (wW k.ks cp W)) f, D.l true b2 e (wW k.ks cp W) (R true e (wW k.ks cp W)) f)
noncomputable def WD.CR {w : World} {k : Hook} (D : WD w k) (b2 : Bool) {α : Type} (R : Bool → Amb → List (Code × Pos) → Option (List Ora × St)) (f : Amb → α) := fun (e : Amb) (cp : Nat → Cp) (W : List (Code × Pos)) =>
  (D.r false b2 e (wW k.ks cp W) (R false e (wW k.ks cp W)) (f e), D.r true b2 e (wW k.ks cp W) (R true e (wW k.ks cp W)) (f e))
noncomputable abbrev WD.Chk {w : World} {k : Hook} (D : WD w k) (b2 : Bool) {α : Type} (R : Bool → Amb → List (Code × Pos) → Option (List Ora × St)) (f : St → α) (fv : Amb → α) : Prop := D.CL b2 R f = D.CR b2 R fv
theorem WD.Chk.get {w : World} {k : Hook} {D : WD w k} {b2 : Bool} {α : Type} {R : Bool → Amb → List (Code × Pos) → Option (List Ora × St)} {f : St → α} {fv : Amb → α} (h : D.Chk b2 R f fv) (b1 : Bool) (e : Amb) {W : List (Code × Pos)} (hW : WOk k.ks W) : D.l b1 b2 e W (R b1 e W) f = D.r b1 b2 e W (R b1 e W) (fv e) := by
  obtain ⟨cp, hW⟩ := wW_of hW
  have z := Prod.mk.inj (congrFun (congrFun (congrFun h e) cp) W)
  rw [← hW] at z
  cases b1
  · exact z.1
  · exact z.2
section
variable {w : World} {k : Hook} {b2 : Bool} (hb : fl2 w = b2) (D : WD w k)
include hb
theorem WD.start {base : List Frame} {s : Shared} (Q : Asks w k base s) {c : Code} (hc : k.c.Is c) (p : Pos) {α : Type} (f : St → α) (fv : Amb → α)
    (chk : D.Chk b2 (fun b1 e W => D.R b1 b2 e W) f fv) :
    ∃ e s', e.gb = s.gens.size ∧ let x := outOf (D.R (fl1 w) b2 e (base.map Frame.where_))
      f x = fv e ∧ x.pre = [] ∧ (∀ s'' z, Reach (Mo pw w) base s' x.t x.c x.p x.pre s'' z → Reach (Mo pw w) base s (den c) c p [] s'' z) ∧ After k (D.A e) s s' ∧ ∀ i y, nthG x.gl i = some y → s'.gens[y.1]? = some y.2 := by
  obtain ⟨t0, κ, h⟩ := code_of hc
  have hR : ∀ kk τ, let e : Amb := ⟨s.heap.objs.size, s.toks, s.gens.size, p, t0, κ, kk, τ⟩
      D.R (fl1 w) b2 e (base.map Frame.where_) = D.run (fl1 w) b2 e (base.map Frame.where_) (den c) c p := fun kk τ => by
    intro e
    show D.run (fl1 w) b2 e (base.map Frame.where_) (den (hcC e k.c)) (hcC e k.c) p = _
    rw [h e rfl rfl]
  obtain ⟨kk, τ, s', z⟩ := D.core hb Q f fv (den c) c p t0 κ fun kk τ => by
    have := chk.get (fl1 w) ⟨s.heap.objs.size, s.toks, s.gens.size, p, t0, κ, kk, τ⟩ (wok Q.sp)
    rw [hR] at this
    exact this
  refine ⟨⟨s.heap.objs.size, s.toks, s.gens.size, p, t0, κ, kk, τ⟩, s', rfl, ?_⟩
  rw [hR]
  exact z
theorem effW (chk : D.Chk b2 (fun b1 e W => D.R b1 b2 e W) (fun x => leafV x.t) (fun e => some (k.r (D.A e)))) : Eff w k := by
  intro base p s c hcode h1 h2 h3 h4 h5 h6 h7 h8 h9
  obtain ⟨e, s', _, z1, z2, z3, z4, _⟩ := D.start hb ⟨h1, h2, h3, h4, h5, h6, h7, h8, h9⟩ hcode p _ _ chk
  obtain ⟨r, hr, ht⟩ := leafV_eq z1
  exact ⟨_, r, s', z3 _ _ (.exit ⟨ht, z2⟩), hr, z4⟩
theorem turnW {c' : Code} (chk : D.Chk b2 (fun b1 e W => D.R b1 b2 e W) (fun x => againOf x.t) (fun _ => some c')) : Turn w k c' := by
  intro base p s c hcode h1 h2 h3 h4 h5 h6 h7 h8 h9
  obtain ⟨e, s', _, z1, z2, z3, z4, _⟩ := D.start hb ⟨h1, h2, h3, h4, h5, h6, h7, h8, h9⟩ hcode p _ _ chk
  obtain ⟨ht, hq⟩ := againOf_eq z1
  refine ⟨_, s', ⟨(outOf (D.R (fl1 w) b2 e (base.map Frame.where_))).p, fun s'' f hR => z3 _ _ ?_⟩, z4⟩
  rw [ht, z2]
  exact .step (pre₁ := []) (step_again _ _ _ _ _ _ hq) hR
theorem callW {c' : (Nat → Nat) → Code} {kd : Kd} (chk : D.Chk b2 (fun b1 e W => D.R b1 b2 e W) (fun x => (callOf x.t, kindOf x.c)) (fun e => (some (c' (D.A e)), some kd))) : CallW w k c' kd (fun e W => D.R (fl1 w) (fl2 w) e W) (fun e _ => D.A e) := by
  subst hb
  intro base p s c hcode Q
  obtain ⟨e, s', _, z1, z2, z3, z4, _⟩ := D.start rfl Q hcode p _ _ chk
  exact ⟨_, s', e, rfl, callTo_of z1 z2 z3, z4⟩
theorem callG {c' : (Nat → Nat) → Code} {kd : Kd} {i2 : List Nat} {GN : Amb → List (Nat × GenState)} (chk : D.Chk b2 (fun b1 e W => D.R b1 b2 e W) (fun x => ((callOf x.t, kindOf x.c), seeG x.gl i2)) (fun e => ((some (c' (D.A e)), some kd), some (GN e)))) : CallG w k c' kd (fun e W => D.R (fl1 w) (fl2 w) e W) (fun e _ => D.A e) (fun e _ => GN e) := by
  subst hb
  intro base p s c hcode Q
  obtain ⟨e, s', hg, z1, z2, z3, z4, z5⟩ := D.start rfl Q hcode p _ _ chk
  refine ⟨_, s', e, rfl, callTo_of (Prod.mk.inj z1).1 z2 z3, z4, hg, fun q hq => ?_⟩
  obtain ⟨i, _, h⟩ := seeG_spec (Prod.mk.inj z1).2 q hq
  exact z5 i q h
noncomputable abbrev EffFr (w : World) (k : Hook) (base : List Frame) (s : Shared) (X : Option (List Ora × St)) (r : Result) : Prop := EffAt w k base s (contOf (outOf X).t r) (outOf X).c (outOf X).p
noncomputable abbrev TurnFr (w : World) (k : Hook) (base : List Frame) (s : Shared) (X : Option (List Ora × St)) (r : Result) (c' : Code) : Prop := TurnAt w k base s (contOf (outOf X).t r) (outOf X).c (outOf X).p c'
noncomputable abbrev WD.F (b1 : Bool) (e : Amb) (W : List (Code × Pos)) (X : Option (List Ora × St)) (r : Result) : Option (List Ora × St) := D.run b1 b2 e W (contOf (outOf X).t r) (outOf X).c (outOf X).p
theorem effFrW {base : List Frame} {s : Shared} {W : List (Code × Pos)} (hW : base.map Frame.where_ = W) (X : Bool → Bool → Option (List Ora × St)) {r : Result} (chk : ∀ b1 e, D.l b1 b2 e W (D.F (b2 := b2) b1 e W (X b1 b2) r) (fun x => leafV x.t) = D.r b1 b2 e W (D.F (b2 := b2) b1 e W (X b1 b2) r) (some (k.r (D.A e)))) : EffFr w k base s (X (fl1 w) (fl2 w)) r := by
  subst hb
  subst hW
  intro Q
  obtain ⟨kk, τ, s', z1, z2, z3, z4, _⟩ := D.core rfl Q (fun x => leafV x.t) (fun e => some (k.r (D.A e))) (contOf (outOf (X (fl1 w) (fl2 w))).t r) (outOf (X (fl1 w) (fl2 w))).c (outOf (X (fl1 w) (fl2 w))).p 0 (fun _ => 0) fun kk τ => chk _ _
  obtain ⟨r, hr, ht⟩ := leafV_eq z1
  exact ⟨_, r, s', z3 _ _ (.exit ⟨ht, z2⟩), hr, z4⟩
theorem turnFrW {base : List Frame} {s : Shared} {W : List (Code × Pos)} (hW : base.map Frame.where_ = W) (X : Bool → Bool → Option (List Ora × St)) {r : Result} {c' : Code} (chk : ∀ b1 e, D.l b1 b2 e W (D.F (b2 := b2) b1 e W (X b1 b2) r) (fun x => againOf x.t) = D.r b1 b2 e W (D.F (b2 := b2) b1 e W (X b1 b2) r) (some c')) : TurnFr w k base s (X (fl1 w) (fl2 w)) r c' := by
  subst hb
  subst hW
  intro Q
  obtain ⟨kk, τ, s', z1, z2, z3, z4, _⟩ := D.core rfl Q (fun x => againOf x.t) (fun _ => some c') (contOf (outOf (X (fl1 w) (fl2 w))).t r) (outOf (X (fl1 w) (fl2 w))).c (outOf (X (fl1 w) (fl2 w))).p 0 (fun _ => 0) fun kk τ => chk _ _
  obtain ⟨ht, hq⟩ := againOf_eq z1
  refine ⟨_, s', ⟨(outOf (D.run (fl1 w) (fl2 w) ⟨s.heap.objs.size, s.toks, s.gens.size, (outOf (X (fl1 w) (fl2 w))).p, 0, fun _ => 0, kk, τ⟩ (base.map Frame.where_) (contOf (outOf (X (fl1 w) (fl2 w))).t r) (outOf (X (fl1 w) (fl2 w))).c (outOf (X (fl1 w) (fl2 w))).p)).p, fun s'' f hR => z3 _ _ ?_⟩, z4⟩
  rw [ht, z2]
  exact .step (pre₁ := []) (step_again _ _ _ _ _ _ hq) hR
theorem effFr {base : List Frame} {s : Shared} (X : Bool → Bool → List (Code × Pos) → Option (List Ora × St)) {r : Result} (hS : WOk k.ks (base.map Frame.where_)) (chk : D.Chk b2 (fun b1 e W => D.F (b2 := b2) b1 e W (X b1 b2 W) r) (fun x => leafV x.t) (fun e => (some (k.r (D.A e))))) : EffFr w k base s (X (fl1 w) (fl2 w) (base.map Frame.where_)) r :=
  effFrW hb D rfl (fun b1 b2 => X b1 b2 _) fun b1 e => chk.get b1 e hS
theorem turnFr {base : List Frame} {s : Shared} (X : Bool → Bool → List (Code × Pos) → Option (List Ora × St)) {r : Result} {c' : Code} (hS : WOk k.ks (base.map Frame.where_)) (chk : D.Chk b2 (fun b1 e W => D.F (b2 := b2) b1 e W (X b1 b2 W) r) (fun x => againOf x.t) (fun _ => some c')) : TurnFr w k base s (X (fl1 w) (fl2 w) (base.map Frame.where_)) r c' :=
  turnFrW hb D rfl (fun b1 b2 => X b1 b2 _) fun b1 e => chk.get b1 e hS
end
noncomputable def tabL {X : Type} : (N : Nat) → ((i : Nat) → i < N → X) → List X
  | 0, _ => []
  | N + 1, F => F N (Nat.lt_succ_self N) :: tabL N fun i h => F i (Nat.lt_succ_of_lt h)
noncomputable def tabR {X : Type} : (N : Nat) → ((i : Nat) → i < N → X) → List X
  | 0, _ => []
  | N + 1, F => F N (Nat.lt_succ_self N) :: tabR N fun i h => F i (Nat.lt_succ_of_lt h)
theorem tab_get {X : Type} : ∀ {N : Nat} {F G : (i : Nat) → i < N → X}, tabL N F = tabR N G → ∀ i h, F i h = G i h
  | 0, _, _, _, _, h => absurd h (Nat.not_lt_zero _)
  | N + 1, F, G, e, i, h => by
    obtain ⟨e1, e2⟩ := List.cons.inj e
    rcases Nat.lt_succ_iff_lt_or_eq.mp h with q | rfl
    · exact tab_get e2 i q
    · exact e1
inductive S3 where
  | A
  | N
  | I
noncomputable def s3L {X : Type} (N : Nat) (F : S3 → (i : Nat) → i < N → X) := (tabL N (F .A), tabL N (F .N), tabL N (F .I))
noncomputable def s3R {X : Type} (N : Nat) (F : S3 → (i : Nat) → i < N → X) := (tabR N (F .A), tabR N (F .N), tabR N (F .I))
theorem s3_get {X : Type} {N : Nat} {F G : S3 → (i : Nat) → i < N → X} (e : s3L N F = s3R N G) : ∀ p i h, F p i h = G p i h := by
  obtain ⟨e1, e2⟩ := Prod.mk.inj e
  obtain ⟨e2, e3⟩ := Prod.mk.inj e2
  intro p
  cases p
  · exact tab_get e1
  · exact tab_get e2
  · exact tab_get e3
noncomputable def s1L {X : Type} (F : S3 → X) := (F .A, F .N, F .I)
noncomputable def s1R {X : Type} (F : S3 → X) := (F .A, F .N, F .I)
theorem s1_get {X : Type} {F G : S3 → X} (e : s1L F = s1R G) : ∀ p, F p = G p := by
  obtain ⟨e1, e2⟩ := Prod.mk.inj e
  obtain ⟨e2, e3⟩ := Prod.mk.inj e2
  intro p
  cases p
  · exact e1
  · exact e2
  · exact e3
noncomputable def bL {X : Type} (N : Nat) (F : Bool → (i : Nat) → i < N → X) := (tabL N (F false), tabL N (F true))
noncomputable def bR {X : Type} (N : Nat) (F : Bool → (i : Nat) → i < N → X) := (tabR N (F false), tabR N (F true))
theorem b_get {X : Type} {N : Nat} {F G : Bool → (i : Nat) → i < N → X} (e : bL N F = bR N G) : ∀ p i h, F p i h = G p i h := by
  obtain ⟨e1, e2⟩ := Prod.mk.inj e
  intro p
  cases p
  · exact tab_get e1
  · exact tab_get e2
noncomputable def lst {α : Type} : Nat → (Nat → α) → List α
  | 0, _ => []
  | n + 1, f => f 0 :: lst n fun i => f (Nat.succ i)
theorem lst_len {α : Type} : ∀ (n : Nat) (f : Nat → α), (lst n f).length = n
  | 0, _ => rfl
  | n + 1, f => congrArg Nat.succ (lst_len n _)
theorem ex_lst {α : Type} (d : α) : ∀ l : List α, ∃ n f, l = lst n f
  | [] => ⟨0, fun _ => d, rfl⟩
  | x :: l => by
    obtain ⟨n, f, rfl⟩ := ex_lst d l
    exact ⟨n + 1, fun i => match i with | 0 => x | i + 1 => f i, rfl⟩
noncomputable def ors : List Nat → List Ora → List Ora
  | [], r => r
  | k :: l, r => .n k :: ors l r
noncomputable def mkStr (l : List Nat) : Str := ⟨⟨l⟩⟩
noncomputable abbrev kS0 := mkStr [115,116,101,112]
noncomputable abbrev kS1 := mkStr [112,108,97,99,101]
noncomputable abbrev kS2 := mkStr [47]
noncomputable abbrev kS3 := mkStr [114,111,111,109]
noncomputable abbrev kS4 := mkStr [112,108,97,99,101,115]
noncomputable abbrev kS5 := mkStr [101,110,100,108,101,115,115]
noncomputable abbrev kS6 := mkStr [109,97,114,107]
noncomputable abbrev kS7 := mkStr [112,97,115,115,101,100]
noncomputable abbrev kS8 := mkStr [116,111,103,101,116,104,101,114]
noncomputable abbrev kS9 := mkStr [97,116]
noncomputable abbrev kS10 := mkStr [50,53,55]
noncomputable abbrev kS11 := mkStr [109,97,107,101,114]
noncomputable abbrev kS12 := mkStr [99,108,111,115,101,100]
noncomputable abbrev kS13 := mkStr [95,103,114,111,117,112,105,110,103,95,105,110,116,101,114,118,97,108,115]
noncomputable abbrev kS14 := mkStr [110]
noncomputable abbrev kS15 := mkStr [119,111,114,100,115]
noncomputable abbrev kS16 := mkStr [9]
noncomputable abbrev kS17 := mkStr [97]
noncomputable abbrev kS18 := mkStr [115,116,114,105,100,101]
noncomputable abbrev kS19 := mkStr [99,111,117,110,116]
noncomputable abbrev kS20 := mkStr [103,114,111,117,112,105,110,103]
noncomputable abbrev kS21 := mkStr [114,101,115,112]
noncomputable abbrev kS22 := mkStr [34]
noncomputable abbrev kS23 := mkStr [105]
noncomputable abbrev kS24 := mkStr [115,99,114,105,112,116]
noncomputable abbrev kS25 := mkStr [100,114,97,119,110]
noncomputable abbrev kS26 := mkStr [108,97,115,116,95,105,110,116,101,114,118,97,108]
noncomputable abbrev kS27 := mkStr [105,110,116,101,114,118,97,108]
noncomputable abbrev kS28 := mkStr [110,116]
noncomputable abbrev kS29 := mkStr [100,105,114,110,97,109,101]
noncomputable abbrev kS30 := mkStr [114,101,112,108,121]
noncomputable abbrev kS31 := mkStr [59,59]
noncomputable abbrev kS32 := mkStr [59,59,59]
noncomputable abbrev kS33 := mkStr [59,59,59,59]
noncomputable abbrev kS34 := mkStr [59,59,59,59,59]
noncomputable abbrev kS35 := mkStr [59,59,59,59,59,59]
noncomputable abbrev kS36 := mkStr [119,115]
noncomputable abbrev kS37 := mkStr [84]
noncomputable abbrev kS38 := mkStr [83]
noncomputable abbrev kS39 := mkStr [98]
noncomputable abbrev kS40 := mkStr [59]
noncomputable abbrev kS41 := mkStr [99]
noncomputable abbrev kS42 := mkStr [116,97,98,115,105,122,101]
noncomputable abbrev kS43 := mkStr [116,114,97,105,108,105,110,103]
noncomputable abbrev kS44 := mkStr [105,108]
noncomputable abbrev kS45 := mkStr [99,104]
noncomputable abbrev kS46 := mkStr [115,105,122,101]
noncomputable abbrev kS47 := mkStr [114,97,119]
noncomputable abbrev kS48 := mkStr [116,117,114,110]
noncomputable abbrev kS49 := mkStr [116,111,116,97,108]
noncomputable abbrev kS50 := mkStr [108,101,97,100]
noncomputable abbrev kS51 := mkStr [50,53,55,32,34]
noncomputable abbrev kS52 := mkStr [99,108,97,105,109,46,99,97,108,108,101,114]
noncomputable abbrev kS53 := mkStr [110,111,114,109]
noncomputable abbrev kS54 := mkStr [105,115,95,115,105,109,112,108,101]
noncomputable abbrev kS55 := mkStr [32,34]
noncomputable abbrev kS56 := mkStr [97,34]
noncomputable abbrev kS57 := mkStr [108,97,105,100]
noncomputable def u_maxlen : Str := mkStr [95,109,97,120,108,101,110]
noncomputable def u_cws : Str := mkStr [95,99,111,110,116,105,110,117,97,116,105,111,110,95,119,115]
noncomputable def u_cwsl : Str := mkStr [95,99,111,110,116,105,110,117,97,116,105,111,110,95,119,115,95,108,101,110]
noncomputable def u_split : Str := mkStr [95,115,112,108,105,116,99,104,97,114,115]
noncomputable def u_lines : Str := mkStr [95,108,105,110,101,115]
noncomputable def u_cur : Str := mkStr [95,99,117,114,114,101,110,116,95,108,105,110,101]
noncomputable def u_init : Str := mkStr [95,105,110,105,116,105,97,108,95,115,105,122,101]
noncomputable def uSemi : Str := kS40
noncomputable def uSp : Str := mkStr [32]
noncomputable def uE : Str := mkStr []
noncomputable def uDot0 : Str := mkStr [46,48]
noncomputable def u_self : Str := mkStr [115,101,108,102]
noncomputable def uGen : Str := mkStr [60,103,101,110,101,120,112,114,62]
noncomputable def u_fws : Str := mkStr [102,119,115]
noncomputable def u_part : Str := mkStr [112,97,114,116]
noncomputable def tblV (l : List VV) : OV := ⟨.none, none, .fields l⟩
noncomputable def dictV (l : List (Str × VV)) : OV := ⟨.type "dict", none, .dict l⟩
noncomputable def frmV (l : List (Str × VV)) : OV := ⟨.type "frame", none, .dict l⟩
noncomputable def listV (l : List VV) : OV := ⟨.type "list", none, .seq l⟩
noncomputable def tupV (l : List VV) : OV := ⟨.type "tuple", none, .seq l⟩
noncomputable def objV (n : String) (l : List VV) : OV := ⟨.type n, none, .fields l⟩
noncomputable def accV (ad : Nat) (xs : List VV) : OV := ⟨.ref 185, some ad, .seq xs⟩
noncomputable def adV : OV := dictV [(u_init, .int 0)]
noncomputable def itV (l : Nat) (i : Int) : OV := objV "list_iterator" [.ref l, .int i]
noncomputable def itemV : OV := tupV [.str uE, .str uSemi]
noncomputable def envF (d : Stmt) (L : Nat) (cells : List (Str × Nat)) (qual : Str) (fn cd : Nat) : Env := ⟨scopeOf d, L, 3, cells, qual, some fn, .ref cd, some L, 0⟩
noncomputable def pureH (id : String) (args : List VV) (v : VV) : Hook := ⟨false, .call (.bi id) args, none, [], fun _ => .ret v, fun _ => [], fun _ => [], [], fun _ => []⟩
noncomputable def vws (l : List (Nat × OV)) : List (Nat × SV) := l.map fun q => (q.1, .vw q.2)
theorem vws_tells : ∀ (l : List (Nat × OV)), Tells (vws l) l
  | [] => .nil
  | (a, x) :: l => .v (vws_tells l)
theorem e_lt (w : World) (a b : Int) : Eff w (pureH "int.__lt__" [.int a, .int b] (.bool (decide (a < b)))) := effW rfl (wd [] [] [] 1 []) (by kernel_rfl)
theorem e_gt (w : World) (a b : Int) : Eff w (pureH "int.__gt__" [.int a, .int b] (.bool (decide (b < a)))) := effW rfl (wd [] [] [] 1 []) (by kernel_rfl)
theorem e_le (w : World) (a b : Int) : Eff w (pureH "int.__le__" [.int a, .int b] (.bool (decide (a ≤ b)))) := effW rfl (wd [] [] [] 1 []) (by kernel_rfl)
theorem e_ge (w : World) (a b : Int) : Eff w (pureH "int.__ge__" [.int a, .int b] (.bool (decide (b ≤ a)))) := effW rfl (wd [] [] [] 1 []) (by kernel_rfl)
theorem e_eq (w : World) (a b : Int) : Eff w (pureH "int.__eq__" [.int a, .int b] (.bool (a == b))) := effW rfl (wd [] [] [] 1 []) (by kernel_rfl)
theorem e_ne (w : World) (a b : Int) : Eff w (pureH "int.__ne__" [.int a, .int b] (.bool (a != b))) := effW rfl (wd [] [] [] 1 []) (by kernel_rfl)
noncomputable def lenE : PySem.Expr := match inner (sub 8 4) with
  | s :: _ => match s with
    | .Return (some e) _ => match e with
      | .Call _ a _ _ => match a with
        | x :: _ => x
        | [] => e
      | _ => e
    | _ => .Name uE default
  | [] => .Name uE default
noncomputable def genScope : PySem.Expr → Scope
  | .GeneratorExp _ _ s _ => s
  | .ListComp _ _ s _ => s
  | _ => default
noncomputable def strOf (s : String) : Str := mkStr (s.toList.map Char.toNat)
noncomputable def qLenG : Str := strOf "_Accumulator.__len__.<locals>.<genexpr>"
noncomputable def lenGEnv (L cg : Nat) : Env := ⟨genScope lenE, L, 3, [], strOf "_Accumulator.__len__.<locals>.<genexpr>.", none, .ref cg, some L, 0⟩
noncomputable def susK (e : PySem.Expr) (it : Nat) (env : Env) : Resume → Sem PySem.Fin := fun r =>
  R.onRaiseR (R.bindR (R.bindR (R.bindR (Sem.pure r) (fun d => match d with
    | .send x => pure x
    | .throw e => Fast.tw6087748403438322584 e)) (fun _ => (pure () : Sem Unit))) (fun _ => Fast.tw12377390311714414960 (.compLoop e 0 (.ref it) .none env))) (Fast.tw9442747609961115081 env)
noncomputable def lenS (gf cg it : Nat) : GenState := .suspended (susK lenE it (lenGEnv gf cg)) [] (.compLoop lenE 0 (.ref it) .none (lenGEnv gf cg)) ⟨107,20,107,40⟩ [] false
noncomputable def genV (gi : Nat) (q : Str) : OV := objV "generator" [.int gi, .str uGen, .str q]
noncomputable def frI (it : Nat) : Nat → OV
  | 0 => frmV [(uDot0, .ref it)]
  | _ + 1 => frmV [(uDot0, .ref it), (u_fws, .str uE), (u_part, .str uSemi)]
noncomputable def stI (f s : GenState) : Nat → GenState
  | 0 => f
  | _ + 1 => s
noncomputable def lenF (gf cg it : Nat) : GenState := .fresh (.compStart lenE 0 (.ref it) .none (lenGEnv gf cg))
structure GA where
  acc : Nat
  ad : Nat
  it : Nat
  gf : Nat
  cg : Nat
  g : Nat
  gi : Nat
noncomputable def gnL (a : GA) (i x : Nat) (pre rest : List VV) : List (Nat × OV) := [(a.g, genV a.gi qLenG), (a.it, itV a.acc i), (a.gf, frI a.it i), (a.acc, accV a.ad (pre ++ .ref x :: rest)), (x, itemV)]
noncomputable def gnH (ks : List Kd) (a : GA) (i x : Nat) (pre rest : List VV) : Hook :=
  ⟨false, .call (.bi "generator.__next__") [.ref a.g], some ks, vws (gnL a i x pre rest), fun _ => .ret (.int 1), fun _ => [(a.it, itV a.acc (i + 1 : Nat)), (a.gf, frI a.it (i + 1))], fun _ => [], [(a.gi, stI (lenF a.gf a.cg a.it) (lenS a.gf a.cg a.it) i)], fun _ => [(a.gi, lenS a.gf a.cg a.it)]⟩
noncomputable def geL (a : GA) (i : Nat) (xs : List VV) : List (Nat × OV) := [(a.g, genV a.gi qLenG), (a.it, itV a.acc i), (a.gf, frI a.it i), (a.acc, accV a.ad xs)]
noncomputable def stopV (t : Nat) : OV := objV "StopIteration" [.ref t, .none, .none, .none, .bool false, .none]
noncomputable def endItV (i : Int) : OV := objV "list_iterator" [.none, .int i]
noncomputable def geH (ks : List Kd) (a : GA) (i : Nat) (xs : List VV) : Hook :=
  ⟨false, .call (.bi "generator.__next__") [.ref a.g], some ks, vws (geL a i xs), fun na => .err (.ref (na 1)), fun _ => [(a.it, endItV i)], fun na => [tupV [], stopV (na 0)], [(a.gi, lenS a.gf a.cg a.it)], fun _ => [(a.gi, .finished)]⟩
noncomputable def strE : PySem.Expr := match inner (sub 8 5) with
  | s :: _ => match s with
    | .Return (some e) _ => match e with
      | .Call _ a _ _ => match a with
        | x :: _ => x
        | [] => e
      | _ => e
    | _ => .Name uE default
  | [] => .Name uE default
noncomputable def qStrG : Str := strOf "_Accumulator.__str__.<locals>.<genexpr>"
noncomputable def strGEnv (L cg : Nat) : Env := ⟨genScope strE, L, 3, [], strOf "_Accumulator.__str__.<locals>.<genexpr>.", none, .ref cg, some L, 0⟩
noncomputable def strS (gf cg it : Nat) : GenState := .suspended (susK strE it (strGEnv gf cg)) [] (.compLoop strE 0 (.ref it) .none (strGEnv gf cg)) ⟨110,33,110,62⟩ [] false
noncomputable def strF (gf cg it : Nat) : GenState := .fresh (.compStart strE 0 (.ref it) .none (strGEnv gf cg))
noncomputable def gsL (a : GA) (i x : Nat) (pre rest : List VV) : List (Nat × OV) := [(a.g, genV a.gi qStrG), (a.it, itV a.acc i), (a.gf, frI a.it i), (a.acc, accV a.ad (pre ++ .ref x :: rest)), (x, itemV)]
noncomputable def gsH (ks : List Kd) (a : GA) (i x : Nat) (pre rest : List VV) : Hook :=
  ⟨false, .call (.bi "generator.__next__") [.ref a.g], some ks, vws (gsL a i x pre rest), fun _ => .ret (.str uSemi), fun _ => [(a.it, itV a.acc (i + 1 : Nat)), (a.gf, frI a.it (i + 1))], fun _ => [], [(a.gi, stI (strF a.gf a.cg a.it) (strS a.gf a.cg a.it) i)], fun _ => [(a.gi, strS a.gf a.cg a.it)]⟩
noncomputable def gtL (a : GA) (i : Nat) (xs : List VV) : List (Nat × OV) := [(a.g, genV a.gi qStrG), (a.it, itV a.acc i), (a.gf, frI a.it i), (a.acc, accV a.ad xs)]
noncomputable def gtH (ks : List Kd) (a : GA) (i : Nat) (xs : List VV) : Hook :=
  ⟨false, .call (.bi "generator.__next__") [.ref a.g], some ks, vws (gtL a i xs), fun na => .err (.ref (na 1)), fun _ => [(a.it, endItV i)], fun na => [tupV [], stopV (na 0)], [(a.gi, strS a.gf a.cg a.it)], fun _ => [(a.gi, .finished)]⟩
noncomputable def tl3 : S3 → List Kd
  | .A => [.wh, .fo, .func, .fo, .func, .bi "claim.caller"]
  | .N => [.func, .func, .fo, .func, .bi "claim.caller"]
  | .I => [.func, .func, .func, .fo, .func, .bi "claim.caller"]
noncomputable def ksL (p : S3) : List Kd := .biR "len" :: .func :: tl3 p
noncomputable def ksT (p : S3) : List Kd := .biT "str.__new__" :: .biT "type.__call__" :: .func :: tl3 p
noncomputable def ksG (p : S3) : List Kd := .biR "sum.loop" :: .func :: ksL p
noncomputable def ksU (p : S3) : List Kd := .biR "list.extend.loop" :: .bi "str.join" :: .func :: ksT p
theorem gn (p : S3) {w : World} (a : GA) (x : Nat) (l r : List VV) (h : l.length < 7) : Eff w (gnH (ksG p) a l.length x l r) := by
  obtain ⟨n, f, rfl⟩ := ex_lst VV.none l
  rw [lst_len] at h ⊢
  match n, h with
  | 0, _ =>
    cases q : fl2 w
    · refine effW q (wd [] [1,2] [] 130 (dg 16 0x1111141111411444497767771777677717776777177616663335333133313311122) (T := vws_tells _)) ?_; revert p; exact s1_get (by kernel_rfl)
    · refine effW q (wd [] [1,2] [] 120 (dg 16 0x11111411114114444977677717776777177767771776166633353331311122) (T := vws_tells _)) ?_; revert p; exact s1_get (by kernel_rfl)
  | n + 1, h =>
    replace h : n < 6 := Nat.lt_of_succ_lt_succ h
    refine effW rfl (wd [] [1,2] [] 119 (dg 16 0x11111411114114444977677717776777177767771776166633353331311122) (T := vws_tells _)) ?_; revert p n h; exact s3_get (by kernel_rfl)
theorem gs (p : S3) {w : World} (a : GA) (x : Nat) (l r : List VV) (h : l.length < 7) : Eff w (gsH (ksU p) a l.length x l r) := by
  obtain ⟨n, f, rfl⟩ := ex_lst VV.none l
  rw [lst_len] at h ⊢
  match n, h with
  | 0, _ =>
    cases q : fl2 w
    · refine effW q (wd [] [1,2] [] 111 (dg 16 0x11aa1441444497767771777677717776777177616663335333133313311122) (T := vws_tells _)) ?_; revert p; exact s1_get (by kernel_rfl)
    · refine effW q (wd [] [1,2] [] 101 (dg 16 0x11aa14414444977677717776777177767771776166633353331311122) (T := vws_tells _)) ?_; revert p; exact s1_get (by kernel_rfl)
  | n + 1, h =>
    replace h : n < 6 := Nat.lt_of_succ_lt_succ h
    refine effW rfl (wd [] [1,2] [] 100 (dg 16 0x11aa14414444977677717776777177767771776166633353331311122) (T := vws_tells _)) ?_; revert p n h; exact s3_get (by kernel_rfl)
theorem ge (p : S3) {w : World} (a : GA) (l : List VV) (h : l.length < 8) : Eff w (geH (ksG p) a l.length l) := by
  obtain ⟨n, f, rfl⟩ := ex_lst VV.none l
  rw [lst_len] at h ⊢
  refine effW rfl (wd [24] [1] [2,3] 28 (dg 16 0x1173353331311122) (T := vws_tells _)) ?_; revert p n h; exact s3_get (by kernel_rfl)
theorem gt (p : S3) {w : World} (a : GA) (l : List VV) (h : l.length < 8) : Eff w (gtH (ksU p) a l.length l) := by
  obtain ⟨n, f, rfl⟩ := ex_lst VV.none l
  rw [lst_len] at h ⊢
  refine effW rfl (wd [24] [1] [2,3] 28 (dg 16 0x1173353331311122) (T := vws_tells _)) ?_; revert p n h; exact s3_get (by kernel_rfl)
noncomputable def accL (acc ad : Nat) (ys : List Nat) : List (Nat × OV) := (acc, accV ad (ys.map .ref)) :: (ad, adV) :: ys.map fun y => (y, itemV)
noncomputable def filled (cg : Nat) : List VV := [.int 107, .int 19, .ref cg]
noncomputable def lenH (ks : List Kd) (acc ad : Nat) (ys : List Nat) : Hook :=
  ⟨true, .call (.ref 152) [.ref acc], some ks, vws (accL acc ad ys), fun _ => .ret (.int (ys.length : Nat)), fun _ => [], fun _ => [], [], fun _ => []⟩
noncomputable def upE (na : Nat → Nat) : List (Nat × OV) := [(147, tblV (filled (na 0)))]
theorem eff_tab147 {w : World} {c : HC} {ks : Option (List Kd)} {need : List (Nat × SV)} {r : (Nat → Nat) → RV}
    (F : ∀ cg, Eff w ⟨false, c, ks, (147, .vw (tblV (filled cg))) :: need, r, fun _ => [], fun _ => [], [], fun _ => []⟩)
    (E : Eff w ⟨false, c, ks, (147, .vw (tblV [])) :: need, r, upE, fun _ => [], [], fun _ => []⟩) : Eff w ⟨true, c, ks, need, r, fun _ => [], fun _ => [], [], fun _ => []⟩ := by
  intro base p s c' hcode hb hs hkt htb hneed hnd hhigh hgs hgn
  obtain ⟨⟨o, ho, hv⟩, t2⟩ := htb rfl
  have nd : ∀ t, (((147, .vw (tblV t)) :: need).map (Prod.fst : Nat × SV → Nat)).Nodup := fun t => List.nodup_cons.mpr ⟨fun hm => by
    obtain ⟨q, hq, e⟩ := List.mem_map.mp hm
    exact ((hhigh q hq).2 rfl).1 e, hnd⟩
  have hi : ∀ t, ∀ q ∈ ((147, .vw (tblV t)) :: need : List (Nat × SV)), (kt w.params).get q.1 = none ∧ Tabs false q.1 := fun t q hq => by
    rcases List.mem_cons.mp hq with rfl | hq
    · exact ⟨show (kt w.params).get 147 = none from rfl, fun h => nomatch h⟩
    · exact ⟨(hhigh q hq).1, fun h => nomatch h⟩
  rcases hv with hv | ⟨cg, hv⟩
  · obtain ⟨na, r, s', R, hr, A⟩ := E base p s c' hcode hb hs hkt (fun h => nomatch h) (fun q hq => by
      rcases List.mem_cons.mp hq with rfl | hq
      · exact ⟨o, ho, hv⟩
      · exact hneed q hq) (nd _) (hi _) hgs hgn
    refine ⟨na, r, s', R, hr, A.size, fun b o e _ t => A.keep b o e (fun hm => ?_) (fun h => nomatch h), (fun _ h => nomatch h), (fun i q hq => by have h0 : ([] : List OV)[i]? = some q := hq; simp at h0), fun i j hi => absurd hi (Nat.not_lt_zero _), fun _ => ⟨?_, ?_⟩, A.toks, A.gsize, A.gkeep, A.gupd, A.bare, A.drawn, A.os⟩
    · have := List.mem_singleton.mp hm
      exact (t rfl).1 this
    · obtain ⟨o, ho, hv⟩ := A.upd _ (.head _)
      exact ⟨o, ho, .inr ⟨_, hv⟩⟩
    · exact t2.keep fun o e => A.keep _ o e (fun hm => by have := List.mem_singleton.mp hm; cases this) fun h => nomatch h
  · obtain ⟨na, r, s', R, hr, A⟩ := F cg base p s c' hcode hb hs hkt (fun h => nomatch h) (fun q hq => by
      rcases List.mem_cons.mp hq with rfl | hq
      · exact ⟨o, ho, hv⟩
      · exact hneed q hq) (nd _) (hi _) hgs hgn
    refine ⟨na, r, s', R, hr, A.size, fun b o e _ t => A.keep b o e (fun hm => nomatch hm) (fun h => nomatch h), (fun _ h => nomatch h), (fun i q hq => by have h0 : ([] : List OV)[i]? = some q := hq; simp at h0), fun i j hi => absurd hi (Nat.not_lt_zero _), fun _ => ⟨⟨o, A.keep _ o ho (fun hm => nomatch hm) (fun h => nomatch h), .inr ⟨cg, hv⟩⟩, ?_⟩, A.toks, A.gsize, A.gkeep, A.gupd, A.bare, A.drawn, A.os⟩
    exact t2.keep fun o e => A.keep _ o e (fun hm => nomatch hm) fun h => nomatch h
noncomputable def lenI (p : S3) {w : World} {F : Prop} (a : GA) (K it gf g : Nat) : (l : List Nat) → (r : List VV) → r.length + l.length < 8 → List (IT w F)
  | [], r, h => [p4 (ge p a r h) [g, it, gf, 1] [it] [0] [0]]
  | x :: l, r, h => p4 (gn p a x r (l.map .ref) (by simp only [List.length_cons] at h; omega)) [g, it, gf, 1, K] [it, gf] [0] [0] :: lenI p a (Nat.succ K) it gf g l (r ++ [.ref x]) (by simp only [List.length_cons, List.length_append, List.length_nil] at h ⊢; omega)
noncomputable def lenO (t : List Nat) (k q : Nat) (l : List Nat) : List Nat := [1,1, k + 5, k + 5,1,1,1, k + 5,3,1,1,1,3,1,1,1,1,3,1, k + 6,1,1] ++ t ++ [q + 7, q + 7, k + 5,3,1,1,1,1,1,1,1,3,1,3,1,1,1,3,3,1,4,1, q + 8, q + 8,1, q + 8, q + 8, q + 9, q + 8] ++ l.flatMap (fun _ => 0 :: [q + 9, q + 9, q + 9, q + 9, q + 8]) ++ 0 :: [q + 11]
theorem len (p : S3) {w : World} (acc ad x : Nat) (l : List Nat) (h : l.length < 7 := by simp) : Eff w (lenH (ksL p) acc ad (x :: l)) := by
  obtain ⟨n, f, rfl⟩ := ex_lst 0 l
  rw [lst_len] at h
  refine eff_tab147 (fun cg => ?_) ?_
  · refine effW rfl (wd (20 :: 2 :: 1 :: (lst n f).map (fun _ => 1) ++ [9]) [] [] (8 * n + 103) (lenO [2,1,1] (n + 1) (n + 1) (x :: lst n f)) (T := .v (vws_tells _)) fun e W a g => lenI p ⟨acc, ad, a 1, a 2, cg, a 3, g 0⟩ 3 (n + 5) (n + 6) (n + 7) (x :: lst n f) [] (by simp only [List.length_cons, List.length_nil, lst_len]; omega)) ?_
    revert p n h; exact s3_get (by kernel_rfl)
  · refine effW rfl (wd (32 :: 2 :: 1 :: (lst n f).map (fun _ => 1) ++ [9]) [0] [] (8 * n + 114) (lenO [2,2,2,2,1,1] (n + 1) (n + 4) (x :: lst n f)) (T := .v (vws_tells _)) (x := fun _ a _ => [a 4]) fun e W a g => lenI p ⟨acc, ad, a 1, a 5, a 4, a 6, g 0⟩ 3 (n + 5) (n + 9) (n + 10) (x :: lst n f) [] (by simp only [List.length_cons, List.length_nil, lst_len]; omega)) ?_
    revert p n h; exact s3_get (by kernel_rfl)
noncomputable def contL : Sem PySem.Fin → Obj → Sem PySem.Fin
  | .load _ _ k, o => k o
  | _, _ => .unsupported ""
noncomputable def iaddC (S g : Nat) : Code := .builtin "list.__iadd__" ⟨[.ref S, .ref g], []⟩
noncomputable def extT (S g : Nat) : Sem PySem.Fin := (pyIter (.ref g)).bind fun iter => (holding [iter] (Builtin.List.listLengthHint (.ref g))).bind fun room =>
  if (room || false) = true then rule "list.extend.makes-room" >>= fun _ => Builtin.List.listTouch (.ref S) >>= fun _ => again (.builtin "list.extend.loop" ⟨[.ref S, iter, .ref S], []⟩)
  else again (.builtin "list.extend.loop" ⟨[.ref S, iter, .ref S], []⟩)
theorem iadd_den (S g : Nat) : den (iaddC S g) = Builtin.List.listExtendWith (.ref S) (.ref g) (.ref S) := by
  rw [den_eq]
  unfold iaddC denote
  dsimp only
  rw [PySem.F.entry_list_iadd]
  rfl
theorem iadd_gen (S g : Nat) (h : S ≠ g) (o : Obj) (hc : o.cls = .type "generator") : contL (den (iaddC S g)) o = extT S g := by
  rw [iadd_den]
  have h1 : Builtin.List.listSameRef (.ref S) (.ref g) = false := by simp [Builtin.List.listSameRef, h]
  unfold Builtin.List.listExtendWith
  simp only [h1]
  obtain ⟨c, d, dt, sl⟩ := o
  cases hc
  kernel_rfl
noncomputable def genO (gi : Nat) (q : Str) (a b : Nat) : Obj := (genV gi q).mk' ⟨nth [0, a, b], fun _ => 0, fun _ => 0,0⟩
noncomputable def filledS (cg : Nat) : List VV := [.int 110, .int 32, .ref cg]
noncomputable def semis (k : Nat) : Str := mkStr (List.replicate k 59)
noncomputable def strH (ks : List Kd) (acc ad : Nat) (ys : List Nat) : Hook :=
  ⟨true, .call (.ref 159) [.ref acc], some ks, vws (accL acc ad ys), fun _ => .ret (.str (semis ys.length)), fun _ => [], fun _ => [], [], fun _ => []⟩
noncomputable def upS (na : Nat → Nat) : List (Nat × OV) := [(154, tblV (filledS (na 0)))]
theorem eff_tab154 {w : World} {c : HC} {ks : Option (List Kd)} {need : List (Nat × SV)} {r : (Nat → Nat) → RV}
    (F : ∀ cg, Eff w ⟨false, c, ks, (154, .vw (tblV (filledS cg))) :: need, r, fun _ => [], fun _ => [], [], fun _ => []⟩)
    (E : Eff w ⟨false, c, ks, (154, .vw (tblV [])) :: need, r, upS, fun _ => [], [], fun _ => []⟩) : Eff w ⟨true, c, ks, need, r, fun _ => [], fun _ => [], [], fun _ => []⟩ := by
  intro base p s c' hcode hb hs hkt htb hneed hnd hhigh hgs hgn
  obtain ⟨t2, o, ho, hv⟩ := htb rfl
  have nd : ∀ t, (((154, .vw (tblV t)) :: need).map (Prod.fst : Nat × SV → Nat)).Nodup := fun t => List.nodup_cons.mpr ⟨fun hm => by
    obtain ⟨q, hq, e⟩ := List.mem_map.mp hm
    exact ((hhigh q hq).2 rfl).2 e, hnd⟩
  have hi : ∀ t, ∀ q ∈ ((154, .vw (tblV t)) :: need : List (Nat × SV)), (kt w.params).get q.1 = none ∧ Tabs false q.1 := fun t q hq => by
    rcases List.mem_cons.mp hq with rfl | hq
    · exact ⟨show (kt w.params).get 154 = none from rfl, fun h => nomatch h⟩
    · exact ⟨(hhigh q hq).1, fun h => nomatch h⟩
  rcases hv with hv | ⟨cg, hv⟩
  · obtain ⟨na, r, s', R, hr, A⟩ := E base p s c' hcode hb hs hkt (fun h => nomatch h) (fun q hq => by
      rcases List.mem_cons.mp hq with rfl | hq
      · exact ⟨o, ho, hv⟩
      · exact hneed q hq) (nd _) (hi _) hgs hgn
    refine ⟨na, r, s', R, hr, A.size, fun b o e _ t => A.keep b o e (fun hm => ?_) (fun h => nomatch h), (fun _ h => nomatch h), (fun i q hq => by have h0 : ([] : List OV)[i]? = some q := hq; simp at h0), fun i j hi => absurd hi (Nat.not_lt_zero _), fun _ => ⟨?_, ?_⟩, A.toks, A.gsize, A.gkeep, A.gupd, A.bare, A.drawn, A.os⟩
    · have := List.mem_singleton.mp hm
      exact (t rfl).2 this
    · exact t2.keep fun o e => A.keep _ o e (fun hm => by have := List.mem_singleton.mp hm; cases this) fun h => nomatch h
    · obtain ⟨o, ho, hv⟩ := A.upd _ (.head _)
      exact ⟨o, ho, .inr ⟨_, hv⟩⟩
  · obtain ⟨na, r, s', R, hr, A⟩ := F cg base p s c' hcode hb hs hkt (fun h => nomatch h) (fun q hq => by
      rcases List.mem_cons.mp hq with rfl | hq
      · exact ⟨o, ho, hv⟩
      · exact hneed q hq) (nd _) (hi _) hgs hgn
    refine ⟨na, r, s', R, hr, A.size, fun b o e _ t => A.keep b o e (fun hm => nomatch hm) (fun h => nomatch h), (fun _ h => nomatch h), (fun i q hq => by have h0 : ([] : List OV)[i]? = some q := hq; simp at h0), fun i j hi => absurd hi (Nat.not_lt_zero _), fun _ => ⟨?_, ⟨o, A.keep _ o ho (fun hm => nomatch hm) (fun h => nomatch h), .inr ⟨cg, hv⟩⟩⟩, A.toks, A.gsize, A.gkeep, A.gupd, A.bare, A.drawn, A.os⟩
    exact t2.keep fun o e => A.keep _ o e (fun hm => nomatch hm) fun h => nomatch h
noncomputable def strO (t : List Nat) (k q : Nat) (l : List Nat) : List Nat := [1,1, k + 5, k + 5,1,1, k + 5,3,1,1,1,3,1,1,1,1,3,1, k + 6,1,1] ++ t ++ [q + 7, q + 7,1, q + 8, q + 8, q + 8,1, q + 8, q + 8,1, q + 8] ++ 0 :: [q + 8, q + 8,1, q + 8, q + 8, q + 8, q + 8, q + 9, q + 9, q + 9, q + 9, q + 9, q + 9, q + 8] ++ l.flatMap (fun _ => 0 :: [q + 9, q + 9, q + 9, q + 8]) ++ 0 :: [q + 11, q + 9]
noncomputable def strI (p : S3) {w : World} {F : Prop} (a : GA) (K it gf g : Nat) : (l : List Nat) → (r : List VV) → r.length + l.length < 8 → List (IT w F)
  | [], r, h => [p4 (gt p a r h) [g, it, gf, 1] [it] [0] [0]]
  | x :: l, r, h => p4 (gs p a x r (l.map .ref) (by simp only [List.length_cons] at h; omega)) [g, it, gf, 1, K] [it, gf] [0] [0] :: strI p a (Nat.succ K) it gf g l (r ++ [.ref x]) (by simp only [List.length_cons, List.length_append, List.length_nil] at h ⊢; omega)
theorem str (p : S3) {w : World} (acc ad x : Nat) (l : List Nat) (h : l.length < 6 := by simp) : Eff w (strH (ksT p) acc ad (x :: l)) := by
  obtain ⟨n, f, rfl⟩ := ex_lst 0 l
  rw [lst_len] at h
  refine eff_tab154 (fun cg => ?_) ?_
  · refine effW rfl (wd (20 :: 2 :: 3 :: 1 :: (lst n f).map (fun _ => 1) ++ [9]) [] [] (6 * n + 99) (strO [2,1,1] (n + 1) (n + 1) (x :: lst n f)) (T := .v (vws_tells _)) fun e W a g => .s 0 (t' := extT (a 4) (a 3)) (fun ff => iadd_gen (a 4) (a 3) (by rw [ff.eq]; show e.nb + 4 ≠ e.nb + 3; omega) (genO (g 0) qStrG (e.tb + 2) (e.tb + 3)) rfl) :: strI p ⟨acc, ad, a 1, a 2, cg, a 3, g 0⟩ 3 (n + 5) (n + 6) (n + 7) (x :: lst n f) [] (by simp only [List.length_cons, List.length_nil, lst_len]; omega)) ?_
    revert p n h; exact s3_get (by kernel_rfl)
  · refine effW rfl (wd (32 :: 2 :: 3 :: 1 :: (lst n f).map (fun _ => 1) ++ [9]) [0] [] (6 * n + 110) (strO [2,2,2,2,1,1] (n + 1) (n + 4) (x :: lst n f)) (T := .v (vws_tells _)) (x := fun _ a _ => [a 4]) fun e W a g => .s 0 (t' := extT (a 7) (a 6)) (fun ff => iadd_gen (a 7) (a 6) (by rw [ff.eq]; show e.nb + 7 ≠ e.nb + 6; omega) (genO (g 0) qStrG (e.tb + 7) (e.tb + 8)) rfl) :: strI p ⟨acc, ad, a 1, a 5, a 4, a 6, g 0⟩ 3 (n + 5) (n + 9) (n + 10) (x :: lst n f) [] (by simp only [List.length_cons, List.length_nil, lst_len]; omega)) ?_
    revert p n h; exact s3_get (by kernel_rfl)
theorem reach_of {w : World} {base : List Frame} {c : Code} {p : Pos} {s : Shared} {R : Result → Shared → Prop} (hb : Bot base) (h : ∀ A : Around, codeAny (model pw w) A c R s) : ∃ r s', Reach (Mo pw w) base s (den c) c p [] s' (.ret r) ∧ R r s' := by
  have := h ⟨none, frameCount (Ctx.of c base).below, none, none, unitsOf (Ctx.of c base).below⟩ (Ctx.of c base) p rfl ⟨hb.1, Nat.le_refl _, fun _ h => (nomatch h), fun _ h => (nomatch h), Nat.le_refl _⟩
  obtain ⟨r, s', hr, hR⟩ := this
  rw [← Mo_eq] at hr
  exact ⟨r, s', runs_reach hr base (Ctx.fits_of ..), hR⟩
theorem meets_reach {w : World} {base : List Frame} {p : Pos} {s : Shared} {T : String} {name : Str} {id : String} {b : Builtin} {self : Value} {rest : List Value} {F : PySem.Spec} {R : Result → Shared → Prop} (hb : Bot base)
    (h : Slot T name id) (hT : s.TypeIs self T) (he : entryFor table id = some b) (ha : argsOk id ⟨self :: rest, []⟩) (hm : Meets (b ⟨self :: rest, []⟩) F) (hF : ∀ A, F A R s) :
    ∃ r s', Reach (Mo pw w) base s (den (.call (.builtin id) ⟨self :: rest, []⟩)) (.call (.builtin id) ⟨self :: rest, []⟩) p [] s' (.ret r) ∧ R r s' :=
  reach_of hb fun A => codeAny_call_builtin h.plain he (h.check _ _ _ _ _ _ _ _ hT ha (hm pw w A R s (hF A)))
theorem vvf_bi {f : Value} {n : String} (h : vv f = some (.bi n)) : f = .builtin n := by
  cases f <;> cases h
  rfl
theorem vvs1 {vs : List Value} {a : VV} (h : vvs vs = some [a]) : ∃ t, vs = [a.mk t] := by
  obtain ⟨k, rfl⟩ := vvs_mk h
  exact ⟨k 0, rfl⟩
theorem vvs2 {vs : List Value} {a b : VV} (h : vvs vs = some [a, b]) : ∃ t u, vs = [a.mk t, b.mk u] := by
  obtain ⟨k, rfl⟩ := vvs_mk h
  exact ⟨k 0, k 1, rfl⟩
theorem mkVs_len {k : Nat → Nat} : ∀ (l : List VV) (i : Nat), (mkVs k i l).length = l.length
  | [], _ => rfl
  | _ :: l, i => by unfold mkVs; rw [List.length_cons, List.length_cons, mkVs_len l]
theorem vvs_app {l : List Value} {r : List VV} {x : Value} {y : VV} (h : vvs l = some r) (hx : vv x = some y) : vvs (l ++ [x]) = some (r ++ [y]) := by
  induction l generalizing r with
  | nil => cases h; simp only [List.nil_append, vvs, hx]
  | cons v l ih =>
    unfold vvs at h
    cases e : vv v with
    | none => rw [e] at h; cases h
    | some a =>
      rw [e] at h
      dsimp only at h
      cases e' : vvs l with
      | none => rw [e'] at h; cases h
      | some r' =>
        rw [e'] at h
        cases h
        rw [List.cons_append]
        unfold vvs
        rw [e, ih e']
        rfl
theorem ov_list {xs : Array Value} {l : List VV} {n : Nat} (h : vvs xs.toList = some l) : ov ⟨.type "list", none, .seq xs n, #[]⟩ = some (listV l) := by
  unfold ov payOf
  dsimp only
  rw [h]
  rfl
theorem after_upd {k : Hook} {na : Nat → Nat} {s : Shared} {l : Nat} {o : Obj} {f : Obj → Obj} {v : OV} (ho : s.heap.get? l = some o) (hf : (f o).isFreed = false) (hv : ov (f o) = some v) (hu : k.upd na = [(l, v)]) (hn : k.news na = []) (hg : k.gupd na = []) (ht : k.tabs = false) {t : Nat} (hst : s.toks ≤ t) :
    After k na s { s with heap := s.heap.update l f, toks := t } := by
  refine ⟨Nat.le_of_eq (Heap.size_after_update ..).symm, fun b o' e q _ => ?_, fun q hq => ?_, fun i q hq => ?_, fun i j hi => ?_, fun h => ?_, hst, Nat.le_refl _, fun g y e _ => e, fun q hq => ?_, fun h => h, rfl, rfl⟩
  · rw [hu] at q
    exact (Heap.get?_update_other _ _ (show l ≠ b from fun h => q (by rw [h]; exact .head _))).trans e
  · rw [hu] at hq
    have := List.mem_singleton.mp hq
    subst this
    exact ⟨f o, Heap.get?_update_self f ho hf, hv⟩
  · rw [hn] at hq; simp at hq
  · rw [hn] at hi; exact absurd hi (Nat.not_lt_zero _)
  · rw [ht] at h; cases h
  · rw [hg] at hq; cases hq
noncomputable def appH (l : Nat) (o : Obj) (ls : List VV) (v : VV) : Hook := ⟨false, .call (.bi "list.append") [.ref l, v], none, [(l, .ob o)], fun _ => .ret .none, fun _ => [(l, listV (ls ++ [v]))], fun _ => [], [], fun _ => []⟩
theorem e_append (w : World) (l : Nat) (κ : TK) (ls : List VV) (v : VV) (hls : ls.length ≤ 1000) : Eff w (appH l ((listV ls).mk' κ) ls v) := by
  intro base p s c hc hb _ _ _ hneed _ _ _ _
  obtain ⟨f, vs, rfl, hf, hv⟩ := hc
  obtain rfl := vvf_bi hf
  obtain ⟨t, u, rfl⟩ := vvs2 hv
  obtain ⟨o, ho, rfl⟩ := hneed _ (.head _)
  have ho : s.heap.get? l = some ⟨.type "list", none, .seq ⟨mkVs κ.t 0 ls⟩ κ.e, #[]⟩ := ho
  have hsz : (⟨mkVs κ.t 0 ls⟩ : Array Value).size ≤ sizeLine := by
    show (mkVs κ.t 0 ls).length ≤ 2 ^ 24
    rw [mkVs_len]; omega
  obtain ⟨r, s', R, rfl, rfl⟩ := meets_reach (w := w) (p := p) (s := s) (self := .ref l) (rest := [v.mk u]) (R := fun r s' => r = .ok (.ret .none) ∧ s' = { s with heap := s.heap.update l (Obj.mapSeq fun x_1 => x_1.push (v.mk u)), toks := s.toks }) hb PySem.F.slot_list_append ⟨_, ho, rfl⟩ PySem.F.entry_list_append (by unfold argsOk; kernel_rfl) (PySem.AutoListH.list_append_list_val_0 l ⟨mkVs κ.t 0 ls⟩ κ.e (v.mk u) hsz) (fun A => ⟨ho, rfl, rfl⟩)
  refine ⟨fun _ => 0, _, _, R, rfl, after_upd ho ?_ ?_ rfl rfl rfl rfl (Nat.le_refl _)⟩
  · rfl
  · refine ov_list (xs := (⟨mkVs κ.t 0 ls⟩ : Array Value).push (v.mk u)) ?_
    rw [Array.toList_push]
    exact vvs_app (vvs_mkVs ls 0) (vv_mk' v u)
noncomputable def mkrV (md : Nat) : OV := ⟨.ref 101, some md, .plain⟩
noncomputable def mdV (room : Int) (ln acc : Nat) : OV := dictV [(u_maxlen, .int room), (u_cws, .str uSp), (u_cwsl, .int 1), (u_split, .str uSemi), (u_lines, .ref ln), (u_cur, .ref acc)]
noncomputable def acL (mk md acc ad ln : Nat) (room : Int) (ys : List Nat) : List (Nat × OV) := (mk, mkrV md) :: (md, mdV room ln acc) :: accL acc ad ys
noncomputable def acH (mk md acc ad ln : Nat) (room : Int) (ys : List Nat) : Hook := ⟨true, .call (.ref 98) [.ref mk, .str uE, .str uSemi], some (tl3 .A), vws (acL mk md acc ad ln room ys), fun _ => .ret .none, fun na => [(acc, accV ad ((ys ++ [na 0]).map .ref))], fun _ => [itemV], [], fun _ => []⟩
theorem e_gt' (w : World) {a b : Int} {v : Bool} (h : decide (b < a) = v) : Eff w (pureH "int.__gt__" [.int a, .int b] (.bool v)) := h ▸ e_gt w a b
noncomputable def acO (k : Nat) : List Nat := [1,1, k + 6, k + 6, k + 6, k + 6, k + 6, k + 6,1, k + 6,2,1,1,1,1,2,1,1,1,2,2,1,3,4,1,1,1,4,1,1,1,4,1,1,1,1,4,5, k + 6, k + 6,1,1,1,1, k + 7, k + 7, k + 7, k + 7, k + 7, k + 7,1, k + 7,4,1,1,1,4,1,1,1,4,1,1,1,4,5, k + 7, k + 7,1,4,1,4,4,4,1,1, k + 6,2,1,1,1,1,2,1,1,1,2,2,1,3,1,4,1,1,1,1,0, k + 6,2,1,1,1,1,2,1,1,1,2,2,1,3,0]
noncomputable def ksAC : List Kd := tl3 .A
theorem lenX (p : S3) {w : World} (acc ad : Nat) (l : List Nat) (y : Nat) (h : l.length < 7) : Eff w (lenH (ksL p) acc ad (l ++ [y])) := by
  cases l with
  | nil => exact len p acc ad y []
  | cons x l => exact len p acc ad x (l ++ [y]) (by simp only [List.length_append, List.length_cons, List.length_nil] at h ⊢; omega)
noncomputable def idx : Nat → List Nat → List Nat
  | _, [] => []
  | i, _ :: l => i :: idx (Nat.succ i) l
theorem acN {w : World} (mk md acc ad ln : Nat) (room : Int) (l : List Nat) (q : decide (room < (Nat.succ l.length : Nat)) = false) (h : l.length < 6 := by simp) : Eff w (acH mk md acc ad ln room l) := by
  refine effW rfl (wd [12] [2] [2] 177 (acO l.length) (T := vws_tells _) fun e W a g => [p1 (lenX .A acc ad l (a 2) (by omega)) (2 :: 3 :: idx 4 l ++ [l.length + 6]), p0 (e_gt' w q)]) ?_
  rcases l with _|⟨a1,_|⟨a2,_|⟨a3,_|⟨a4,_|⟨a5,_|⟨a6,_|⟨a7,l⟩⟩⟩⟩⟩⟩⟩
  all_goals first
    | (exfalso; simp only [List.length_cons] at h; omega)
    | kernel_rfl
noncomputable abbrev tOf (r : Option (List Ora × St)) : Sem PySem.Fin := @Option.rec _ (fun _ => Sem PySem.Fin) (.unsupported "") (fun r => r.2.t) r
noncomputable def stA {α : Type} : Sem α → List (Code × Pos) → Sem α
  | .stack k, l => k l
  | m, _ => m
theorem no_comps (b : List Stmt) (e : Env) (p : Pos) (l : List (Code × Pos)) : stA Fast.tw15119167023480647312 ((.func b e, p) :: l) = pure [] := by
  rw [← Fast.te15119167023480647312]
  have h : stA comprehensionsAround ((.func b e, p) :: l) = ((if ((((Code.func b e, p) :: l).map (·.1)).findSome? (·.env?)).map (·.frame) != (((pastTheWaiting ((Code.func b e, p) :: l)).map (·.1)).findSome? (·.env?)).map (·.frame) then (unsupported "caller:past-a-waiting-one" : Sem PUnit) >>= fun _ => pure ((pastTheWaiting ((Code.func b e, p) :: l)).map (·.1)) else pure ((pastTheWaiting ((Code.func b e, p) :: l)).map (·.1))).bind fun cs => pure ((((cs.filter (·.env?.isSome)).takeWhile (·.isInlined))).filterMap (·.env?))) := rfl
  rw [h]
  have e1 : pastTheWaiting ((.func b e, p) :: l) = (.func b e, p) :: pastTheWaiting.go false (some (.func b e)) l := rfl
  rw [e1]
  split
  · rename_i hc
    exact absurd (show (some e.frame != some e.frame) = true from hc) (by simp)
  · rfl
theorem above {a : Nat} (h : 317 ≤ a) : ∃ b, a = b + 317 := ⟨a - 317, by omega⟩
noncomputable def pcH (ks : List Kd) (acc ad : Nat) (ys : List Nat) : Hook := ⟨false, .call (.ref 182) [.ref acc], some ks, vws [(acc, accV ad (ys.map .ref))], fun _ => .ret (.int (ys.length : Nat)), fun _ => [], fun _ => [], [], fun _ => []⟩
noncomputable def ksP : Bool → List Kd
  | true => .fo :: .func :: tl3 .A
  | false => .func :: tl3 .I
noncomputable abbrev pcR (p : Bool) (w : World) (b1 b2 : Bool) (e : Amb) (W : List (Code × Pos)) (acc ad : Nat) (xs : List VV) := aR w b1 b2 e W false (some (ksP p)) [(acc, accV ad xs)] [] 20 (ors [0,0,2,2,0,0,0,0,0,0] []) (aC e (.ref 182) [.ref acc])
theorem pc_ctx (p : Bool) (w : World) (b1 b2 : Bool) (e : Amb) (cp : Nat → Cp) (acc ad : Nat) (xs : List VV) : ∃ (F5 : List Env → Sem Value) (F4 : Value → Sem Value) (F3 : Value → Sem Flow) (F2 : Flow → Sem Flow) (h1 : Value → Sem Unit) (F0 : Flow → Sem PySem.Fin),
    tOf (pcR p w b1 b2 e (buildW (ksP p) cp 0) acc ad xs) = Sem.stack (fun l => R.bindR (R.onRaiseR (R.bindR (R.bindR (R.bindR (R.bindR (stA Fast.tw15119167023480647312 l) F5) F4) F3) F2) h1) F0) := by
  cases p <;> cases b1 <;> with_unfolding_all exact ⟨_, _, _, _, _, _, rfl⟩
theorem pc_code (p : Bool) (w : World) (b1 b2 : Bool) (e : Amb) (cp : Nat → Cp) (acc ad : Nat) (xs : List VV) : ∃ b v, (outOf (pcR p w b1 b2 e (buildW (ksP p) cp 0) acc ad xs)).c = .func b v := by
  cases p <;> cases b1 <;> with_unfolding_all exact ⟨_, _, rfl⟩
noncomputable def pcT (p : Bool) (w : World) (b1 b2 : Bool) (e : Amb) (W : List (Code × Pos)) (acc ad : Nat) (xs : List VV) : Sem PySem.Fin := stA (tOf (pcR p w b1 b2 e W acc ad xs)) (((outOf (pcR p w b1 b2 e W acc ad xs)).c, (outOf (pcR p w b1 b2 e W acc ad xs)).p) :: W)
noncomputable def pcT' (p : Bool) (w : World) (b1 b2 : Bool) (e : Amb) (W : List (Code × Pos)) (acc ad : Nat) (xs : List VV) : Sem PySem.Fin := stA (tOf (pcR p w b1 b2 e W acc ad xs)) [(.func [] default, default)]
theorem pc_same (p : Bool) (w : World) (b1 b2 : Bool) (e : Amb) (W : List (Code × Pos)) (acc ad : Nat) (xs : List VV) (hW : WOk (some (ksP p)) W) : pcT p w b1 b2 e W acc ad xs = pcT' p w b1 b2 e W acc ad xs := by
  obtain ⟨cp, rfl⟩ := hW
  obtain ⟨F5, F4, F3, F2, h1, F0, h⟩ := pc_ctx p w b1 b2 e cp acc ad xs
  obtain ⟨b, v, hc⟩ := pc_code p w b1 b2 e cp acc ad xs
  unfold pcT pcT'
  rw [h, hc]
  show R.bindR (R.onRaiseR (R.bindR (R.bindR (R.bindR (R.bindR (stA Fast.tw15119167023480647312 _) F5) F4) F3) F2) h1) F0 = R.bindR (R.onRaiseR (R.bindR (R.bindR (R.bindR (R.bindR (stA Fast.tw15119167023480647312 _) F5) F4) F3) F2) h1) F0
  rw [no_comps, no_comps]
theorem pc (p : Bool) {w : World} (acc ad x : Nat) (l : List Nat) (ha : 317 ≤ acc) (h : l.length < 7 := by simp) : Eff w (pcH (ksP p) acc ad (x :: l)) := by
  obtain ⟨acc, rfl⟩ := above ha
  obtain ⟨n, f, rfl⟩ := ex_lst 0 l
  rw [lst_len] at h
  refine effW rfl ⟨_, vws_tells _, fun _ => rfl, [], [], [], 76, (dg 16 0x12515121114444144444444122141441111301111113311), fun b1 b2 e W a g => [.s 1 (fun q => pc_same p w b1 b2 (e0 e) W (acc + 317) ad ((x :: lst n f).map .ref) q.W)], fun _ => [], fun _ => [], fun _ _ _ => []⟩ ?_
  clear ha
  revert p n h
  exact b_get (by kernel_rfl)
noncomputable def whileC (s : Stmt) (e : Env) : Code := match s with
  | .While t b o _ => .whileLoop t b o e
  | _ => .func [] e
noncomputable def forC (s : Stmt) (it : Value) (e : Env) : Code := match s with
  | .For t _ b o _ => .forLoop t it b o e
  | _ => .func [] e
theorem e_lt' (w : World) {a b : Int} {v : Bool} (h : decide (a < b) = v) : Eff w (pureH "int.__lt__" [.int a, .int b] (.bool v)) := h ▸ e_lt w a b
theorem e_le' (w : World) {a b : Int} {v : Bool} (h : decide (a ≤ b) = v) : Eff w (pureH "int.__le__" [.int a, .int b] (.bool v)) := h ▸ e_le w a b
theorem e_ge' (w : World) {a b : Int} {v : Bool} (h : decide (b ≤ a) = v) : Eff w (pureH "int.__ge__" [.int a, .int b] (.bool v)) := h ▸ e_ge w a b
theorem e_eq' (w : World) {a b : Int} {v : Bool} (h : (a == b) = v) : Eff w (pureH "int.__eq__" [.int a, .int b] (.bool v)) := h ▸ e_eq w a b
theorem e_ne' (w : World) {a b : Int} {v : Bool} (h : (a != b) = v) : Eff w (pureH "int.__ne__" [.int a, .int b] (.bool v)) := h ▸ e_ne w a b
noncomputable def ksAI : List Kd := [.biR "type.__call__", .func, .biR "type.__call__", .func, .fo, .func, .bi "claim.caller"]
noncomputable def aiH (acc ad : Nat) : Hook := ⟨false, .call (.ref 122) [.ref acc, .int 0], (some ksAI), [(acc, .vw ⟨.ref 185, (some ad), (.seq [])⟩), (ad, .vw ⟨.type "dict", none, (.dict [])⟩)], fun na => .ret (.none), fun na => [(acc, ⟨.ref 185, (some ad), (.seq [])⟩), (ad, ⟨.type "dict", none, (.dict [(u_init, .int 0)])⟩)], fun na => [], [], fun na => []⟩
noncomputable abbrev aiR (w : World) (b1 b2 : Bool) (e : Amb) (W : List (Code × Pos)) (acc ad : Nat) := ((wd [4] [] [] 54 (dg 16 0x1111113331211121212111124414444111) (T := (.v (.v .nil))) : WD w (aiH acc ad))).R b1 b2 e W
theorem ai_ctx (w : World) (b1 b2 : Bool) (e : Amb) (cp : Nat → Cp) (acc ad : Nat) : ∃ (F5 : List Env → Sem Value) (F4 : Value → Sem Value) (F3 : Value → Sem Flow) (F2 : Flow → Sem Flow) (h1 : Value → Sem Unit) (F0 : Flow → Sem PySem.Fin),
    tOf (aiR w b1 b2 e (buildW ksAI cp 0) acc ad) = Sem.stack (fun l => R.bindR (R.onRaiseR (R.bindR (R.bindR (R.bindR (R.bindR (stA Fast.tw15119167023480647312 l) F5) F4) F3) F2) h1) F0) := by
  cases b1 <;> with_unfolding_all exact ⟨_, _, _, _, _, _, rfl⟩
theorem ai_code (w : World) (b1 b2 : Bool) (e : Amb) (cp : Nat → Cp) (acc ad : Nat) : ∃ b v, (outOf (aiR w b1 b2 e (buildW ksAI cp 0) acc ad)).c = .func b v := by
  cases b1 <;> with_unfolding_all exact ⟨_, _, rfl⟩
noncomputable def aiT (w : World) (b1 b2 : Bool) (e : Amb) (W : List (Code × Pos)) (acc ad : Nat) : Sem PySem.Fin := stA (tOf (aiR w b1 b2 e W acc ad)) (((outOf (aiR w b1 b2 e W acc ad)).c, (outOf (aiR w b1 b2 e W acc ad)).p) :: W)
noncomputable def aiT' (w : World) (b1 b2 : Bool) (e : Amb) (W : List (Code × Pos)) (acc ad : Nat) : Sem PySem.Fin := stA (tOf (aiR w b1 b2 e W acc ad)) [(.func [] default, default)]
theorem ai_same (w : World) (b1 b2 : Bool) (e : Amb) (W : List (Code × Pos)) (acc ad : Nat) (hW : WOk (some ksAI) W) : aiT w b1 b2 e W acc ad = aiT' w b1 b2 (e0 e) W acc ad := by
  obtain ⟨cp, rfl⟩ := hW
  rw [show aiT' w b1 b2 (e0 e) (buildW ksAI cp 0) acc ad = aiT' w b1 b2 e (buildW ksAI cp 0) acc ad by cases b1 <;> kernel_rfl]
  obtain ⟨F5, F4, F3, F2, h1, F0, h⟩ := ai_ctx w b1 b2 e cp acc ad
  obtain ⟨b, v, hc⟩ := ai_code w b1 b2 e cp acc ad
  unfold aiT aiT'
  rw [h, hc]
  show R.bindR (R.onRaiseR (R.bindR (R.bindR (R.bindR (R.bindR (stA Fast.tw15119167023480647312 _) F5) F4) F3) F2) h1) F0 = R.bindR (R.onRaiseR (R.bindR (R.bindR (R.bindR (R.bindR (stA Fast.tw15119167023480647312 _) F5) F4) F3) F2) h1) F0
  rw [no_comps, no_comps]
theorem ai_e (w : World) (acc ad : Nat) (hacc : 317 ≤ acc) : Eff w (aiH acc ad) :=
  by
  obtain ⟨acc, rfl⟩ := above hacc
  exact effW rfl (wdA [4,3,8] [0,1] [] 112 (dg 16 0x1222261612111555515555555512215155111140111113331211121212111124414444111) (fun b1 b2 e W A G => [.s 1 (t' := aiT' w b1 b2 (e0 e) W ((acc + 317) + 317) ad) (fun f => ai_same w b1 b2 e W ((acc + 317) + 317) ad f.W)]) (T := (.v (.v .nil)))) (by kernel_rfl)
theorem kt_high {w : World} {s : Shared} (H : ∀ a o, (kt w.params).get a = some o → s.heap.get? a = some o) {a : Nat} (h : s.heap.objs.size ≤ a) : (kt w.params).get a = none := by
  cases e : (kt w.params).get a with
  | none => rfl
  | some o => exact absurd (Heap.lt_size (H a o e)) (Nat.not_lt.mpr h)
theorem Here.asks {w : World} {tabs : Bool} {L : List (Nat × OV)} {G : List (Nat × GenState)} {s : Shared} {base : List Frame} {k : Hook} (H : Here w tabs L G s) (hb : Bot base) (hs : ∀ ks, k.ks = some ks → Spine ks base) (ht : k.tabs = true → tabs = true)
    (hn : ∀ q ∈ k.need, (∃ v, q.2 = .vw v ∧ (q.1, v) ∈ L) ∨ (∃ o, q.2 = .ob o ∧ s.heap.get? q.1 = some o ∧ q.1 ∈ L.map Prod.fst)) (hnd : (k.need.map Prod.fst).Nodup) (hg : ∀ q ∈ k.gneed, q ∈ G) (hgnd : (k.gneed.map Prod.fst).Nodup) : Asks w k base s := by
  refine ⟨hb, hs, H.kt, fun h => H.tbl (ht h), fun q hq => ?_, hnd, fun q hq => ?_, fun q hq => H.gens q (hg q hq), hgnd⟩
  · rcases hn q hq with ⟨v, e, m⟩ | ⟨o, e, m, _⟩
    · obtain ⟨o, h1, h2⟩ := H.cells _ m
      exact ⟨o, h1, by rw [e]; exact h2⟩
    · exact ⟨o, m, by rw [e]; rfl⟩
  · have : ∃ v, (q.1, v) ∈ L := by
      rcases hn q hq with ⟨v, _, m⟩ | ⟨o, _, _, m⟩
      · exact ⟨v, m⟩
      · obtain ⟨q', h1, h2⟩ := List.mem_map.mp m
        exact ⟨q'.2, by rw [← h2]; exact h1⟩
    obtain ⟨v, m⟩ := this
    exact ⟨(H.high _ m).1, fun h => (H.high _ m).2 (ht h)⟩
theorem tagN_mem {na : Nat → Nat} : ∀ {l : List OV} {i : Nat} {q : Nat × OV}, q ∈ tagN na i l → ∃ n, l[n]? = some q.2 ∧ q.1 = na (i + n)
  | [], _, _, h => nomatch h
  | v :: l, i, q, h => by
    unfold tagN at h
    rcases List.mem_cons.mp h with rfl | h
    · exact ⟨0, rfl, rfl⟩
    · obtain ⟨n, h1, h2⟩ := tagN_mem h
      exact ⟨n + 1, h1, by rw [h2]; congr 1; simp only [Nat.succ_eq_add_one]; omega⟩
theorem After.here {w : World} {tabs : Bool} {L L' : List (Nat × OV)} {G G' : List (Nat × GenState)} {s s' : Shared} {k : Hook} {na : Nat → Nat} (H : Here w tabs L G s) (A : After k na s s') (ht : k.tabs = true → tabs = true) (hu : ∀ a ∈ (k.upd na).map Prod.fst, a ∈ L.map Prod.fst)
    (hL : ∀ q ∈ L', q ∈ k.upd na ∨ q ∈ tagN na 0 (k.news na) ∨ (q ∈ L ∧ q.1 ∉ (k.upd na).map Prod.fst)) (nd : (L'.map Prod.fst).Nodup)
    (hG : ∀ q ∈ G', q ∈ k.gupd na ∨ (q ∈ G ∧ q.1 ∉ (k.gupd na).map Prod.fst)) (gnd : (G'.map Prod.fst).Nodup) : Here w tabs L' G' s' := by
  have hi : ∀ a ∈ L.map Prod.fst, (kt w.params).get a = none ∧ Tabs tabs a := fun a ha => by
    obtain ⟨q, h1, rfl⟩ := List.mem_map.mp ha
    exact H.high q h1
  have big := big H.kt
  refine ⟨fun a o e => A.keep a o (H.kt a o e) (fun m => ?_) fun _ => ?_, fun h => ?_, fun q hq => ?_, nd, fun q hq => ?_, fun q hq => ?_, gnd⟩
  · rw [(hi a (hu a m)).1] at e; cases e
  · constructor <;> rintro rfl <;> exact nomatch (show none = some o from e)
  · cases ek : k.tabs with
    | true => exact A.tbl ek
    | false =>
      refine (H.tbl h).keep fun a o hab ho => A.keep a o ho (fun m => ?_) (fun z => by rw [ek] at z; cases z)
      have := (hi a (hu a m)).2 h
      rcases hab with e | e
      · exact this.1 e
      · exact this.2 e
  · rcases hL q hq with h | h | ⟨h, hn⟩
    · exact A.upd q h
    · obtain ⟨n, h1, h2⟩ := tagN_mem h
      rw [Nat.zero_add] at h2
      rw [h2]
      exact (A.new n _ h1).2
    · obtain ⟨o, h1, h2⟩ := H.cells q h
      exact ⟨o, A.keep _ _ h1 hn fun z => (H.high q h).2 (ht z), h2⟩
  · rcases hL q hq with h | h | ⟨h, hn⟩
    · exact hi _ (hu _ (List.mem_map_of_mem h))
    · obtain ⟨n, h1, h2⟩ := tagN_mem h
      rw [Nat.zero_add] at h2
      have := (A.new n _ h1).1
      refine ⟨kt_high H.kt (by rw [h2]; exact this), fun _ => ?_⟩
      rw [h2]
      omega
    · exact H.high q h
  · rcases hG q hq with h | ⟨h, hn⟩
    · exact A.gupd q h
    · exact A.gkeep _ _ (H.gens q h) hn
theorem After.fresh {k : Hook} {na : Nat → Nat} {s s' : Shared} (A : After k na s s') {L : List (Nat × OV)} (H : Cells s.heap L) {i : Nat} {v : OV} (h : (k.news na)[i]? = some v) : na i ∉ L.map Prod.fst := fun m => by
  obtain ⟨q, h1, h2⟩ := List.mem_map.mp m
  obtain ⟨o, h3, _⟩ := H q h1
  have h4 := (A.new i v h).1
  have h5 := Heap.lt_size h3
  rw [show q.1 = na i from h2] at h5
  exact absurd h5 (Nat.not_lt.mpr h4)
theorem Here.obj {w : World} {tabs : Bool} {L : List (Nat × OV)} {G : List (Nat × GenState)} {s : Shared} (H : Here w tabs L G s) {a : Nat} {v : OV} (h : (a, v) ∈ L) (hc : clsOk v.cls = true) : ∃ κ : TK, s.heap.get? a = some (v.mk' κ) := by
  obtain ⟨o, h1, h2⟩ := H.cells _ h
  obtain ⟨κ, e⟩ := ov_mk h2 hc
  exact ⟨κ, by rw [e]; exact h1⟩
noncomputable def d0 : OV := ⟨.none, none, .cell none⟩
noncomputable def pkL : List (Nat × OV) → Nat → Nat × OV
  | [], _ => (0, d0)
  | q :: _, 0 => q
  | _ :: l, i + 1 => pkL l i
theorem pkL_get : ∀ {L : List (Nat × OV)} {i : Nat}, i < L.length → L[i]? = some (pkL L i)
  | [], _, h => absurd h (Nat.not_lt_zero _)
  | _ :: _, 0, _ => rfl
  | q :: l, i + 1, h => by
    show (q :: l)[i + 1]? = some (pkL l i)
    rw [List.getElem?_cons_succ]
    exact pkL_get (Nat.lt_of_succ_lt_succ h)
theorem pkL_mem {L : List (Nat × OV)} {i : Nat} (h : i < L.length) : pkL L i ∈ L := List.mem_of_getElem? (pkL_get h)
theorem pkL_inj {L : List (Nat × OV)} (nd : (L.map Prod.fst).Nodup) {i j : Nat} (hi : i < L.length) (hj : j < L.length) (e : (pkL L i).1 = (pkL L j).1) : i = j := by
  have h1 : (L.map Prod.fst)[i]? = some (pkL L i).1 := by rw [List.getElem?_map, pkL_get hi]; rfl
  have h2 : (L.map Prod.fst)[j]? = some (pkL L j).1 := by rw [List.getElem?_map, pkL_get hj]; rfl
  exact (List.getElem?_inj (by rwa [List.length_map]) nd).mp (by rw [h1, h2, e])
noncomputable def pick (F U N : List (Nat × OV)) (c : Nat × Nat) : Nat × OV := match c.1 with
  | 0 => pkL U c.2
  | 1 => pkL N c.2
  | _ => pkL F c.2
noncomputable def nrm (us : List Nat) (c : Nat × Nat) : Nat × Nat := match c.1 with
  | 0 => (0, nth us c.2)
  | 1 => (1, c.2)
  | _ => (0, c.2)
noncomputable def hasP (c : Nat × Nat) : List (Nat × Nat) → Bool
  | [] => false
  | d :: l => (Nat.beq c.1 d.1 && Nat.beq c.2 d.2) || hasP c l
noncomputable def uniqP : List (Nat × Nat) → Bool
  | [] => true
  | c :: l => !hasP c l && uniqP l
theorem hasP_mem {c : Nat × Nat} : ∀ {l : List (Nat × Nat)}, c ∈ l → hasP c l = true
  | d :: l, h => by
    unfold hasP
    rcases List.mem_cons.mp h with rfl | h
    · rw [Nat.beq_refl, Nat.beq_refl]; rfl
    · rw [hasP_mem h, Bool.or_true]
theorem uniqP_nodup : ∀ {l : List (Nat × Nat)}, uniqP l = true → l.Nodup
  | [], _ => List.nodup_nil
  | c :: l, h => by
    have h : (!hasP c l && uniqP l) = true := h
    obtain ⟨h1, h2⟩ := Bool.and_eq_true_iff.mp h
    refine List.nodup_cons.mpr ⟨fun m => ?_, uniqP_nodup h2⟩
    rw [hasP_mem m] at h1
    cases h1
noncomputable def okC (l n : Nat) (us : List Nat) (c : Nat × Nat) : Bool := match c.1 with
  | 0 => Nat.blt c.2 us.length
  | 1 => Nat.blt c.2 n
  | _ => Nat.blt c.2 l && !has c.2 us
theorem blt_of {a b : Nat} (h : Nat.blt a b = true) : a < b := blt_true h
theorem has_of {k : Nat} : ∀ {l : List Nat}, k ∈ l → has k l = true
  | a :: l, h => by
    unfold has
    cases q : Nat.beq k a with
    | true => rfl
    | false =>
      rcases List.mem_cons.mp h with rfl | h
      · rw [Nat.beq_refl] at q; cases q
      · exact has_of h
theorem Here.perm {w : World} {tabs : Bool} {L L' : List (Nat × OV)} {G : List (Nat × GenState)} {s : Shared} (H : Here w tabs L G s) (h : L'.Perm L) : Here w tabs L' G s :=
  ⟨H.kt, H.tbl, fun q hq => H.cells q (h.mem_iff.mp hq), (h.map Prod.fst).nodup_iff.mpr H.nd, fun q hq => H.high q (h.mem_iff.mp hq), H.gens, H.gnd⟩
theorem tri {α : Type} (a b c : List α) : (a ++ (b ++ c)).Perm ((a ++ c) ++ b) := by
  rw [List.append_assoc]
  exact List.Perm.append_left a List.perm_append_comm
theorem tabs_of {a b : Bool} (h : (!a || b) = true) (e : a = true) : b = true := by
  rw [e] at h
  exact h
theorem After.hereXG {w : World} {tabs : Bool} {F X : List (Nat × OV)} {G G' : List (Nat × GenState)} {s s' : Shared} {k : Hook} {na : Nat → Nat} (A : After k na s s') (H : Here w tabs (F ++ X) G s) (us : List Nat) (cs : List (Nat × Nat)) (hG : ∀ q ∈ G', q ∈ k.gupd na ∨ (q ∈ G ∧ q.1 ∉ (k.gupd na).map Prod.fst)) (gnd : (G'.map Prod.fst).Nodup) (ht : (!k.tabs || tabs) = true)
    (hu : (k.upd na).map Prod.fst = us.map fun i => (pkL F i).1) (hus : us.all (Nat.blt · F.length) = true) (hc : cs.all (okC F.length (k.news na).length us) = true) (hn : uniqP (cs.map (nrm us)) = true) : Here w tabs (cs.map (pick F (k.upd na) (tagN na 0 (k.news na))) ++ X) G' s' := by
  have nd : (F.map Prod.fst ++ X.map Prod.fst).Nodup := by rw [← List.map_append]; exact H.nd
  obtain ⟨ndF, ndX, ndD⟩ := List.nodup_append.mp nd
  have hus : ∀ i ∈ us, i < F.length := fun i hi => blt_of (List.all_eq_true.mp hus i hi)
  have hc : ∀ c ∈ cs, okC F.length (k.news na).length us c = true := List.all_eq_true.mp hc
  have hlen : (k.upd na).length = us.length := by have := congrArg List.length hu; rwa [List.length_map, List.length_map] at this
  have hU : ∀ i, i < us.length → (pkL (k.upd na) i).1 = (pkL F (nth us i)).1 ∧ nth us i ∈ us := fun i hi => by
    have h1 : ((k.upd na).map Prod.fst)[i]? = some (pkL (k.upd na) i).1 := by rw [List.getElem?_map, pkL_get (by rw [hlen]; exact hi)]; rfl
    have h2 : nth us i = us[i] := by unfold nth; rw [List.getD_eq_getElem?_getD, List.getElem?_eq_getElem hi]; rfl
    rw [hu, List.getElem?_map, List.getElem?_eq_getElem hi] at h1
    exact ⟨by rw [h2]; exact (Option.some.inj h1).symm, by rw [h2]; exact List.getElem_mem hi⟩
  have hN : ∀ i, i < (k.news na).length → ∃ v, pkL (tagN na 0 (k.news na)) i = (na i, v) ∧ pkL (tagN na 0 (k.news na)) i ∈ tagN na 0 (k.news na) ∧ s.heap.objs.size ≤ na i := fun i hi => by
    have h1 := tagN_at (na := na) (i := 0) (List.getElem?_eq_getElem hi)
    rw [Nat.zero_add] at h1
    have h2 : i < (tagN na 0 (k.news na)).length := (List.getElem?_eq_some_iff.mp h1).1
    have h3 := pkL_get h2
    rw [h1] at h3
    exact ⟨_, (Option.some.inj h3).symm, pkL_mem h2, (A.new i _ (List.getElem?_eq_getElem hi)).1⟩
  have old : ∀ q ∈ F ++ X, q.1 < s.heap.objs.size := fun q hq => by
    obtain ⟨o, h1, _⟩ := H.cells q hq
    exact Heap.lt_size h1
  have hnu : ∀ q ∈ X, q.1 ∉ (k.upd na).map Prod.fst := fun q hq m => by
    rw [hu] at m
    obtain ⟨i, h1, h2⟩ := List.mem_map.mp m
    exact ndD _ (List.mem_map_of_mem (pkL_mem (hus i h1))) _ (List.mem_map_of_mem hq) h2
  have key : ∀ c ∈ cs, (∃ i, i < F.length ∧ nrm us c = (0, i) ∧ (pick F (k.upd na) (tagN na 0 (k.news na)) c).1 = (pkL F i).1) ∨ (∃ i, i < (k.news na).length ∧ nrm us c = (1, i) ∧ (pick F (k.upd na) (tagN na 0 (k.news na)) c).1 = na i) := fun c hm => by
    have h := hc c hm
    obtain ⟨t, i⟩ := c
    match t, h with
    | 0, h =>
      obtain ⟨h1, h2⟩ := hU i (blt_of h)
      exact .inl ⟨_, hus _ h2, rfl, h1⟩
    | 1, h =>
      obtain ⟨v, h1, _⟩ := hN i (blt_of h)
      exact .inr ⟨i, blt_of h, rfl, congrArg Prod.fst h1⟩
    | _ + 2, h => exact .inl ⟨i, blt_of (Bool.and_eq_true_iff.mp h).1, rfl, rfl⟩
  refine After.here H A (tabs_of ht) (fun a ha => by
    rw [hu] at ha
    obtain ⟨i, h1, rfl⟩ := List.mem_map.mp ha
    exact List.mem_map_of_mem (List.mem_append_left _ (pkL_mem (hus i h1)))) (fun q hq => ?_) ?_ hG gnd
  · rcases List.mem_append.mp hq with hq | hq
    · obtain ⟨⟨t, i⟩, hm, rfl⟩ := List.mem_map.mp hq
      have h := hc _ hm
      match t, h with
      | 0, h => exact .inl (pkL_mem (by rw [hlen]; exact blt_of h))
      | 1, h =>
        obtain ⟨v, _, h1, _⟩ := hN i (blt_of h)
        exact .inr (.inl h1)
      | _ + 2, h =>
        obtain ⟨h1, h2⟩ := Bool.and_eq_true_iff.mp h
        refine .inr (.inr ⟨List.mem_append_left _ (pkL_mem (blt_of h1)), fun m => ?_⟩)
        rw [hu] at m
        obtain ⟨j, h3, h4⟩ := List.mem_map.mp m
        have : j = i := pkL_inj ndF (hus j h3) (blt_of h1) h4
        subst this
        rw [has_of h3] at h2
        cases h2
    · exact .inr (.inr ⟨List.mem_append_right _ hq, hnu q hq⟩)
  · rw [List.map_append, List.map_map, List.nodup_append]
    refine ⟨?_, ndX, fun a ha b hb => ?_⟩
    · have e := uniqP_nodup hn
      unfold List.Nodup at e ⊢
      rw [List.pairwise_map] at e ⊢
      refine e.imp_of_mem fun {c d} hcm hdm hne hab => hne ?_
      have hab : (pick F (k.upd na) (tagN na 0 (k.news na)) c).1 = (pick F (k.upd na) (tagN na 0 (k.news na)) d).1 := hab
      rcases key c hcm with ⟨i, h1, h2, h3⟩ | ⟨i, h1, h2, h3⟩ <;> rcases key d hdm with ⟨j, g1, g2, g3⟩ | ⟨j, g1, g2, g3⟩
      · rw [h2, g2, pkL_inj ndF h1 g1 (by rw [← h3, ← g3]; exact hab)]
      · have z := old _ (List.mem_append_left X (pkL_mem h1))
        obtain ⟨v, _, _, z2⟩ := hN j g1
        rw [← h3, hab, g3] at z
        exact absurd z (Nat.not_lt.mpr z2)
      · have z := old _ (List.mem_append_left X (pkL_mem g1))
        obtain ⟨v, _, _, z2⟩ := hN i h1
        rw [← g3, ← hab, h3] at z
        exact absurd z (Nat.not_lt.mpr z2)
      · rw [h2, g2, A.nand i j h1 g1 (by rw [← h3, ← g3]; exact hab)]
    · rintro rfl
      obtain ⟨c, hcm, rfl⟩ := List.mem_map.mp ha
      rcases key c hcm with ⟨i, h1, _, h3⟩ | ⟨i, h1, _, h3⟩
      · exact ndD _ (List.mem_map_of_mem (pkL_mem h1)) _ hb h3.symm
      · obtain ⟨q, h4, h5⟩ := List.mem_map.mp hb
        have z := old q (List.mem_append_right _ h4)
        obtain ⟨v, _, _, z2⟩ := hN i h1
        rw [h5] at z
        have h3 : (pick F (k.upd na) (tagN na 0 (k.news na)) c).1 = na i := h3
        exact absurd (h3 ▸ z) (Nat.not_lt.mpr z2)
theorem After.hereX {w : World} {tabs : Bool} {F X : List (Nat × OV)} {s s' : Shared} {k : Hook} {na : Nat → Nat} (A : After k na s s') (H : Here w tabs (F ++ X) [] s) (us : List Nat) (cs : List (Nat × Nat)) (ht : (!k.tabs || tabs) = true := by rfl)
    (hu : (k.upd na).map Prod.fst = us.map fun i => (pkL F i).1 := by rfl) (hus : us.all (Nat.blt · F.length) = true := by rfl) (hc : cs.all (okC F.length (k.news na).length us) = true := by rfl) (hn : uniqP (cs.map (nrm us)) = true := by rfl) : Here w tabs (cs.map (pick F (k.upd na) (tagN na 0 (k.news na))) ++ X) [] s' :=
  A.hereXG H us cs (fun _ h => nomatch h) List.nodup_nil ht hu hus hc hn
theorem After.hereG {w : World} {tabs : Bool} {L : List (Nat × OV)} {G G' : List (Nat × GenState)} {s s' : Shared} {k : Hook} {na : Nat → Nat} (A : After k na s s') (H : Here w tabs L G s) (us : List Nat) (cs : List (Nat × Nat)) (hG : ∀ q ∈ G', q ∈ k.gupd na ∨ (q ∈ G ∧ q.1 ∉ (k.gupd na).map Prod.fst)) (gnd : (G'.map Prod.fst).Nodup) (ht : (!k.tabs || tabs) = true := by rfl)
    (hu : (k.upd na).map Prod.fst = us.map fun i => (pkL L i).1 := by rfl) (hus : us.all (Nat.blt · L.length) = true := by rfl) (hc : cs.all (okC L.length (k.news na).length us) = true := by rfl) (hn : uniqP (cs.map (nrm us)) = true := by rfl) : Here w tabs (cs.map (pick L (k.upd na) (tagN na 0 (k.news na)))) G' s' := by
  have := A.hereXG (F := L) (X := []) (by rwa [List.append_nil]) us cs hG gnd ht hu hus hc hn
  rwa [List.append_nil] at this
noncomputable def svE (F : List (Nat × OV)) (c : Nat × Option Obj) : Nat × SV := ((pkL F c.1).1, Option.rec (.vw (pkL F c.1).2) (fun o => .ob o) c.2)
noncomputable def svs (F : List (Nat × OV)) (l : List (Nat × Option Obj)) : List (Nat × SV) := l.map (svE F)
theorem svs_fst {F : List (Nat × OV)} (l : List (Nat × Option Obj)) : (svs F l).map Prod.fst = l.map fun c => (pkL F c.1).1 := by
  unfold svs
  rw [List.map_map]
  rfl
theorem vws_fst' (X : List (Nat × OV)) : (vws X).map Prod.fst = X.map Prod.fst := by unfold vws; rw [List.map_map]; rfl
theorem Here.asksX {w : World} {tabs : Bool} {F X : List (Nat × OV)} {G : List (Nat × GenState)} {s : Shared} {base : List Frame} {k : Hook} {ks : List Kd} (H : Here w tabs (F ++ X) G s) (hb : Bot base) (hs : Spine ks base) (is : List (Nat × Option Obj)) (Y : List (Nat × OV))
    (ho : ∀ c ∈ is, ∀ o, c.2 = some o → s.heap.get? (pkL F c.1).1 = some o) (hY : Y = X ∨ Y = []) (hk : k.ks = some ks := by rfl) (ht : (!k.tabs || tabs) = true := by rfl) (hn : k.need = svs F is ++ vws Y := by rfl) (hi : is.all (fun c => Nat.blt c.1 F.length) = true := by rfl) (hu : uniq (is.map Prod.fst) = true := by rfl) (hg : k.gneed = [] ∨ k.gneed = G := by exact .inl rfl) : Asks w k base s := by
  have hi : ∀ c ∈ is, c.1 < F.length := fun c hc => blt_of (List.all_eq_true.mp hi c hc)
  have nd : (F.map Prod.fst ++ X.map Prod.fst).Nodup := by rw [← List.map_append]; exact H.nd
  obtain ⟨ndF, ndX, ndD⟩ := List.nodup_append.mp nd
  have hYX : ∀ q ∈ Y, q ∈ X := fun q hq => by
    rcases hY with rfl | rfl
    · exact hq
    · cases hq
  refine H.asks hb (fun l e => by rw [hk] at e; cases e; exact hs) (tabs_of ht) (fun q hq => ?_) ?_ (fun q hq => (hg.elim (fun e => by rw [e] at hq; cases hq) fun e => e ▸ hq)) (hg.elim (fun e => by rw [e]; exact List.nodup_nil) fun e => by rw [e]; exact H.gnd)
  · rw [hn] at hq
    rcases List.mem_append.mp hq with hq | hq
    · obtain ⟨⟨i, o⟩, h1, rfl⟩ := List.mem_map.mp hq
      have h2 : pkL F i ∈ F ++ X := List.mem_append_left _ (pkL_mem (hi _ h1))
      cases o with
      | none => exact .inl ⟨_, rfl, h2⟩
      | some o => exact .inr ⟨o, rfl, ho _ h1 o rfl, List.mem_map_of_mem h2⟩
    · unfold vws at hq
      obtain ⟨p, h1, rfl⟩ := List.mem_map.mp hq
      exact .inl ⟨_, rfl, List.mem_append_right _ (hYX _ h1)⟩
  · rw [hn, List.map_append, svs_fst, vws_fst', List.nodup_append]
    refine ⟨?_, ?_, fun a ha b hb => ?_⟩
    · have e := uniq_nodup hu
      unfold List.Nodup at e ⊢
      rw [List.pairwise_map] at e ⊢
      exact e.imp_of_mem fun {c d} hcm hdm hne hab => hne (pkL_inj ndF (hi c hcm) (hi d hdm) hab)
    · rcases hY with rfl | rfl
      · exact ndX
      · exact List.nodup_nil
    · obtain ⟨c, h1, rfl⟩ := List.mem_map.mp ha
      obtain ⟨q, h2, rfl⟩ := List.mem_map.mp hb
      exact ndD _ (List.mem_map_of_mem (pkL_mem (hi c h1))) _ (List.mem_map_of_mem (hYX q h2))
noncomputable def at' : List Nat → List (Nat × Option Obj) := List.map fun i => (i, none)
theorem at_none : ∀ (is : List Nat), ∀ c ∈ at' is, ∀ o, c.2 = some o → False := fun is c hc o e => by
  obtain ⟨i, _, rfl⟩ := List.mem_map.mp hc
  cases e
theorem Here.asksI {w : World} {tabs : Bool} {L : List (Nat × OV)} {G : List (Nat × GenState)} {s : Shared} {base : List Frame} {k : Hook} {ks : List Kd} (H : Here w tabs L G s) (hb : Bot base) (hs : Spine ks base) (is : List Nat) (hk : k.ks = some ks := by rfl) (ht : (!k.tabs || tabs) = true := by rfl) (hn : k.need = svs L (at' is) ++ vws [] := by rfl)
    (hi : (at' is).all (fun c => Nat.blt c.1 L.length) = true := by rfl) (hu : uniq ((at' is).map Prod.fst) = true := by rfl) (hg : k.gneed = [] ∨ k.gneed = G := by exact .inl rfl) : Asks w k base s :=
  Here.asksX (F := L) (X := []) (by rwa [List.append_nil]) hb hs (at' is) [] (fun c hc o e => (at_none is c hc o e).elim) (.inl rfl) hk ht hn hi hu hg
theorem After.hereI {w : World} {tabs : Bool} {L : List (Nat × OV)} {s s' : Shared} {k : Hook} {na : Nat → Nat} (A : After k na s s') (H : Here w tabs L [] s) (us : List Nat) (cs : List (Nat × Nat)) (ht : (!k.tabs || tabs) = true := by rfl)
    (hu : (k.upd na).map Prod.fst = us.map fun i => (pkL L i).1 := by rfl) (hus : us.all (Nat.blt · L.length) = true := by rfl) (hc : cs.all (okC L.length (k.news na).length us) = true := by rfl) (hn : uniqP (cs.map (nrm us)) = true := by rfl) : Here w tabs (cs.map (pick L (k.upd na) (tagN na 0 (k.news na)))) [] s' := by
  have := A.hereX (F := L) (X := []) (by rwa [List.append_nil]) us cs ht hu hus hc hn
  rwa [List.append_nil] at this
theorem ac {α : Type} {P : α → Prop} {x : α} {l : List α} (h : P x) (t : ∀ y ∈ l, P y) : ∀ y ∈ x :: l, P y := List.forall_mem_cons.mpr ⟨h, t⟩
theorem an {α : Type} {P : α → Prop} : ∀ y ∈ ([] : List α), P y := fun _ h => nomatch h
theorem Here.new {w : World} {tabs : Bool} {L : List (Nat × OV)} {G : List (Nat × GenState)} {s : Shared} (H : Here w tabs L G s) (i j : Nat) (hi : Nat.blt i L.length = true := by rfl) (hj : Nat.blt j L.length = true := by rfl) (hu : Nat.beq i j = false := by rfl) : (pkL L i).1 ≠ (pkL L j).1 := fun e => by
  have := pkL_inj H.nd (blt_of hi) (blt_of hj) e
  subst this
  rw [Nat.beq_refl] at hu
  cases hu
theorem after_gen {w : World} {tabs : Bool} {L : List (Nat × OV)} {k : Hook} {na : Nat → Nat} {s s' : Shared} {as : List Nat} (R : Rel k.tabs as [] s s') (H : Here w tabs L [] s') (iu inn : List Nat) (hs : ∀ a ∈ inn.map (fun i => (pkL L i).1), s.heap.objs.size ≤ a) (ht : (!k.tabs || tabs) = true := by rfl) (hg : k.gupd na = [] := by rfl)
    (ha : as = (k.upd na).map Prod.fst := by rfl) (hu : k.upd na = iu.map (pkL L) := by rfl) (hn : tagN na 0 (k.news na) = inn.map (pkL L) := by rfl) (hui : iu.all (Nat.blt · L.length) = true := by rfl) (hni : inn.all (Nat.blt · L.length) = true := by rfl) (hq : uniq inn = true := by rfl) : After k na s s' := by
  have hni : ∀ i ∈ inn, i < L.length := fun i hi => blt_of (List.all_eq_true.mp hni i hi)
  have tl : ∀ (l : List OV) (i : Nat), (tagN na i l).length = l.length := fun l => by
    induction l with
    | nil => intro _; rfl
    | cons v l ih => intro i; unfold tagN; rw [List.length_cons, List.length_cons, ih]
  have hl : (k.news na).length = inn.length := by rw [← tl _ 0, hn, List.length_map]
  have at_ : ∀ (i : Nat) (q : OV), (k.news na)[i]? = some q → ∃ (h : i < inn.length), pkL L inn[i] = (na i, q) := fun i q h => by
    have h1 := tagN_at (na := na) (i := 0) h
    rw [Nat.zero_add, hn, List.getElem?_map] at h1
    have h2 : i < inn.length := by rw [← hl]; exact (List.getElem?_eq_some_iff.mp h).1
    rw [List.getElem?_eq_getElem h2] at h1
    exact ⟨h2, Option.some.inj h1⟩
  refine ⟨R.size, fun b o e q t => R.keep b o e (by rw [ha]; exact q) t, fun q hq => H.cells q ?_, fun i q h => ?_, fun i j hi hj e => ?_, fun h => H.tbl (tabs_of ht h), R.toks, R.gsize, fun g y e q => R.gkeep g y e (fun m => nomatch m), fun q hq => (by rw [hg] at hq; cases hq), R.bare, R.drawn, R.os⟩
  · rw [hu] at hq
    obtain ⟨i, h1, rfl⟩ := List.mem_map.mp hq
    exact pkL_mem (blt_of (List.all_eq_true.mp hui i h1))
  · obtain ⟨h1, h2⟩ := at_ i q h
    have h3 : pkL L inn[i] ∈ L := pkL_mem (hni _ (List.getElem_mem h1))
    have h4 := hs (pkL L inn[i]).1 (List.mem_map.mpr ⟨_, List.getElem_mem h1, rfl⟩)
    rw [h2] at h3 h4
    exact ⟨h4, H.cells _ h3⟩
  · obtain ⟨h1, h2⟩ := at_ i _ (List.getElem?_eq_getElem hi)
    obtain ⟨h3, h4⟩ := at_ j _ (List.getElem?_eq_getElem hj)
    have h5 := pkL_inj H.nd (hni _ (List.getElem_mem h1)) (hni _ (List.getElem_mem h3)) (by rw [h2, h4]; exact e)
    exact (List.getElem_inj (uniq_nodup hq)).mp h5
theorem Here.asksO {w : World} {tabs : Bool} {L : List (Nat × OV)} {G : List (Nat × GenState)} {s : Shared} {base : List Frame} {k : Hook} {ks : List Kd} (H : Here w tabs L G s) (hb : Bot base) (hs : Spine ks base) (is : List (Nat × Option Obj)) (ho : ∀ c ∈ is, ∀ o, c.2 = some o → s.heap.get? (pkL L c.1).1 = some o) (hk : k.ks = some ks := by rfl) (ht : (!k.tabs || tabs) = true := by rfl) (hn : k.need = svs L is ++ vws [] := by rfl)
    (hi : is.all (fun c => Nat.blt c.1 L.length) = true := by rfl) (hu : uniq (is.map Prod.fst) = true := by rfl) (hg : k.gneed = [] ∨ k.gneed = G := by exact .inl rfl) : Asks w k base s :=
  Here.asksX (F := L) (X := []) (by rwa [List.append_nil]) hb hs is [] ho (.inl rfl) hk ht hn hi hu hg
theorem Here.subI {w : World} {tabs : Bool} {L : List (Nat × OV)} {G : List (Nat × GenState)} {s : Shared} (H : Here w tabs L G s) (is : List Nat) (hi : is.all (Nat.blt · L.length) = true := by rfl) (hu : uniq is = true := by rfl) : Here w tabs (is.map (pkL L)) G s := by
  have hi : ∀ i ∈ is, pkL L i ∈ L := fun i h => pkL_mem (blt_of (List.all_eq_true.mp hi i h))
  have m : ∀ q ∈ is.map (pkL L), q ∈ L := fun q h => by
    obtain ⟨i, h1, rfl⟩ := List.mem_map.mp h
    exact hi i h1
  refine ⟨H.kt, H.tbl, fun q h => H.cells q (m q h), ?_, fun q h => H.high q (m q h), H.gens, H.gnd⟩
  have e := uniq_nodup hu
  rw [List.map_map]
  unfold List.Nodup at e ⊢
  rw [List.pairwise_map]
  exact e.imp_of_mem fun {c d} hcm hdm hne hab => hne (pkL_inj H.nd (blt_of (List.all_eq_true.mp ‹_› c hcm)) (blt_of (List.all_eq_true.mp ‹_› d hdm)) hab)
theorem Here.frameI {w : World} {tabs tabs' : Bool} {L L' : List (Nat × OV)} {s s' : Shared} {as gs : List Nat} {G G' : List (Nat × GenState)} (H : Here w tabs L G s) (H' : Here w tabs L' G' s') (R : Rel tabs' as gs s s') (us ls xs : List Nat) (ht : (!tabs' || tabs) = true := by rfl) (hu : as = us.map (fun i => (pkL L i).1) := by rfl) (hl : L'.map Prod.fst = ls.map (fun i => (pkL L i).1) := by rfl)
    (b1 : us.all (Nat.blt · L.length) = true := by rfl) (b2 : ls.all (Nat.blt · L.length) = true := by rfl) (b3 : xs.all (fun i => Nat.blt i L.length && (!has i us && !has i ls)) = true := by rfl) (hx : uniq xs = true := by rfl) : Here w tabs (L' ++ xs.map (pkL L)) G' s' := by
  have b3 : ∀ i ∈ xs, i < L.length ∧ i ∉ us ∧ i ∉ ls := fun i h => by
    have z := List.all_eq_true.mp b3 i h
    obtain ⟨z1, z2⟩ := Bool.and_eq_true_iff.mp z
    obtain ⟨z2, z3⟩ := Bool.and_eq_true_iff.mp z2
    exact ⟨blt_of z1, fun m => (by rw [has_of m] at z2; cases z2), fun m => (by rw [has_of m] at z3; cases z3)⟩
  have nin : ∀ (vs : List Nat), vs.all (Nat.blt · L.length) = true → ∀ i < L.length, i ∉ vs → (pkL L i).1 ∉ vs.map fun i => (pkL L i).1 := fun vs hv i hi hn m => by
    obtain ⟨j, h1, h2⟩ := List.mem_map.mp m
    exact hn (pkL_inj H.nd (blt_of (List.all_eq_true.mp hv j h1)) hi h2 ▸ h1)
  have ndx : ((xs.map (pkL L)).map Prod.fst).Nodup := by
    have e := uniq_nodup hx
    rw [List.map_map]
    unfold List.Nodup at e ⊢
    rw [List.pairwise_map]
    exact e.imp_of_mem fun {c d} hcm hdm hne hab => hne (pkL_inj H.nd (b3 c hcm).1 (b3 d hdm).1 hab)
  refine ⟨H'.kt, H'.tbl, fun q hq => ?_, ?_, fun q hq => ?_, H'.gens, H'.gnd⟩
  · rcases List.mem_append.mp hq with h | h
    · exact H'.cells q h
    · obtain ⟨i, h1, rfl⟩ := List.mem_map.mp h
      obtain ⟨o, ho, hv⟩ := H.cells _ (pkL_mem (b3 i h1).1)
      exact ⟨o, R.keep _ _ ho (by rw [hu]; exact nin us b1 i (b3 i h1).1 (b3 i h1).2.1) fun z => (H.high _ (pkL_mem (b3 i h1).1)).2 (tabs_of ht z), hv⟩
  · rw [List.map_append, List.nodup_append]
    refine ⟨H'.nd, ndx, fun a ha b hb => ?_⟩
    rintro rfl
    rw [hl] at ha
    obtain ⟨q, h1, h2⟩ := List.mem_map.mp hb
    obtain ⟨i, h3, rfl⟩ := List.mem_map.mp h1
    exact nin ls b2 i (b3 i h3).1 (b3 i h3).2.2 (h2 ▸ ha)
  · rcases List.mem_append.mp hq with h | h
    · exact H'.high q h
    · obtain ⟨i, h1, rfl⟩ := List.mem_map.mp h
      exact H.high _ (pkL_mem (b3 i h1).1)
theorem no_ob {P : Obj → Prop} : ∀ o, (none : Option Obj) = some o → P o := fun _ e => nomatch e
theorem the_ob {P : Obj → Prop} {o : Obj} (h : P o) : ∀ o', some o = some o' → P o' := fun _ e => by cases e; exact h
theorem nd_fn {na : Nat → Nat} {n : Nat} (h : ∀ i j, i < n → j < n → na i = na j → i = j) (is : List Nat) (hi : is.all (Nat.blt · n) = true := by rfl) (hu : uniq is = true := by rfl) : (is.map na).Nodup := by
  have e := uniq_nodup hu
  unfold List.Nodup at e ⊢
  rw [List.pairwise_map]
  exact e.imp_of_mem fun {c d} hcm hdm hne hab => hne (h c d (blt_of (List.all_eq_true.mp hi c hcm)) (blt_of (List.all_eq_true.mp hi d hdm)) hab)
theorem Here.left {w : World} {tabs : Bool} {F X : List (Nat × OV)} {G : List (Nat × GenState)} {s : Shared} (H : Here w tabs (F ++ X) G s) : Here w tabs F G s :=
  ⟨H.kt, H.tbl, fun q h => H.cells q (List.mem_append_left _ h), by have := H.nd; rw [List.map_append] at this; exact (List.nodup_append.mp this).1, fun q h => H.high q (List.mem_append_left _ h), H.gens, H.gnd⟩
theorem Asks.none {w : World} {k : Hook} {ks : List Kd} {base : List Frame} {s : Shared} (A : Asks w ⟨k.tabs, k.c, some ks, k.need, k.r, k.upd, k.news, k.gneed, k.gupd⟩ base s) (h : k.ks = none) : Asks w k base s :=
  ⟨A.bot, fun l e => (by rw [h] at e; cases e), A.kt, A.tbl, A.need, A.nd, A.high, A.gens, A.gnd⟩
theorem Here.frameX {w : World} {tabs tabs' : Bool} {F X F' X' : List (Nat × OV)} {s s' : Shared} {as gs : List Nat} {G G' : List (Nat × GenState)} (H : Here w tabs (F ++ X) G s) (H' : Here w tabs (F' ++ X') G' s') (R : Rel tabs' as gs s s') (hx : ∀ q ∈ X', q.1 ∈ X.map Prod.fst ∨ s.heap.objs.size ≤ q.1) (us ls xs : List Nat) (ht : (!tabs' || tabs) = true := by rfl) (hu : as = us.map (fun i => (pkL F i).1) := by rfl) (hl : F'.map Prod.fst = ls.map (fun i => (pkL F i).1) := by rfl)
    (b1 : us.all (Nat.blt · F.length) = true := by rfl) (b2 : ls.all (Nat.blt · F.length) = true := by rfl) (b3 : xs.all (fun i => Nat.blt i F.length && (!has i us && !has i ls)) = true := by rfl) (hx' : uniq xs = true := by rfl) : Here w tabs ((F' ++ xs.map (pkL F)) ++ X') G' s' := by
  have HF := H.left.frameI H'.left R us ls xs ht hu hl b1 b2 b3 hx'
  have b3 : ∀ i ∈ xs, i < F.length := fun i h => blt_of (Bool.and_eq_true_iff.mp (List.all_eq_true.mp b3 i h)).1
  have nd' : (F'.map Prod.fst ++ X'.map Prod.fst).Nodup := by rw [← List.map_append]; exact H'.nd
  have nd0 : (F.map Prod.fst ++ X.map Prod.fst).Nodup := by rw [← List.map_append]; exact H.nd
  obtain ⟨_, ndX, ndD⟩ := List.nodup_append.mp nd'
  obtain ⟨_, _, nd2⟩ := List.nodup_append.mp nd0
  refine ⟨H'.kt, H'.tbl, fun q hq => ?_, ?_, fun q hq => ?_, H'.gens, H'.gnd⟩
  · rcases List.mem_append.mp hq with h | h
    · exact HF.cells q h
    · exact H'.cells q (List.mem_append_right _ h)
  · rw [List.map_append, List.nodup_append]
    refine ⟨HF.nd, ndX, fun a ha b hb => ?_⟩
    rintro rfl
    rw [List.map_append] at ha
    rcases List.mem_append.mp ha with ha | ha
    · exact ndD _ ha _ hb rfl
    · obtain ⟨q, h1, rfl⟩ := List.mem_map.mp ha
      obtain ⟨i, h2, rfl⟩ := List.mem_map.mp h1
      obtain ⟨q', h3, h4⟩ := List.mem_map.mp hb
      rcases hx q' h3 with h | h
      · exact nd2 _ (List.mem_map_of_mem (pkL_mem (b3 i h2))) _ h h4.symm
      · obtain ⟨o, h5, _⟩ := H.cells _ (List.mem_append_left X (pkL_mem (b3 i h2)))
        rw [h4] at h
        exact absurd (Heap.lt_size h5) (Nat.not_lt.mpr h)
  · rcases List.mem_append.mp hq with h | h
    · exact HF.high q h
    · exact H'.high q (List.mem_append_right _ h)
theorem Asks.perm {w : World} {k : Hook} {base : List Frame} {s : Shared} (n : List (Nat × SV)) (A : Asks w ⟨k.tabs, k.c, k.ks, n, k.r, k.upd, k.news, k.gneed, k.gupd⟩ base s) (h : k.need.Perm n) : Asks w k base s :=
  ⟨A.bot, A.sp, A.kt, A.tbl, fun q hq => A.need q (h.mem_iff.mp hq), (h.map Prod.fst).nodup_iff.mpr A.nd, fun q hq => A.high q (h.mem_iff.mp hq), A.gens, A.gnd⟩
noncomputable def sliceV (a b c : VV) : OV := objV "slice" [a, b, c]
noncomputable abbrev siL (acc ad sl v : Nat) (a b c : VV) (xs zs : List VV) : List (Nat × OV) := [(acc, accV ad xs), (sl, sliceV a b c), (v, listV zs)]
noncomputable abbrev siR (w : World) (b1 b2 : Bool) (e : Amb) (W : List (Code × Pos)) (acc ad sl v : Nat) (a : VV) (xs zs : List VV) := aR w b1 b2 e W false none (siL acc ad sl v a .none .none xs zs) [] 8 (ors [1,0,2,2,2,2,2] []) (aC e (.bi "list.__setitem__") [.ref acc, .ref sl, .ref v])
noncomputable def siY1 (w : World) (b1 b2 : Bool) (e : Amb) (W : List (Code × Pos)) (acc ad sl v : Nat) (i : Int) (xs zs : List VV) : { Y : Sem PySem.Fin // ∃ X, tOf (siR w b1 b2 e W acc ad sl v (.int i) xs zs) = @ite _ (Builtin.List.listSameRef (.ref acc) (.ref v) = true) (instDecidableEqBool _ _) X Y } := by
  with_unfolding_all exact ⟨_, _, rfl⟩
noncomputable def siY2 (w : World) (b1 b2 : Bool) (e : Amb) (W : List (Code × Pos)) (acc ad sl v : Nat) (xs zs : List VV) : { Y : Sem PySem.Fin // ∃ X, tOf (siR w b1 b2 e W acc ad sl v .none xs zs) = @ite _ (Builtin.List.listSameRef (.ref acc) (.ref v) = true) (instDecidableEqBool _ _) X Y } := by
  with_unfolding_all exact ⟨_, _, rfl⟩
theorem siY1_same (w : World) (b1 b2 : Bool) (e : Amb) (W : List (Code × Pos)) (acc ad sl v : Nat) (i : Int) (xs zs : List VV) (h : acc ≠ v) : tOf (siR w b1 b2 e W acc ad sl v (.int i) xs zs) = (siY1 w b1 b2 e W acc ad sl v i xs zs).1 := by
  obtain ⟨X, hX⟩ := (siY1 w b1 b2 e W acc ad sl v i xs zs).2
  exact hX.trans (if_neg (by simp [Builtin.List.listSameRef, h]))
theorem siY2_same (w : World) (b1 b2 : Bool) (e : Amb) (W : List (Code × Pos)) (acc ad sl v : Nat) (xs zs : List VV) (h : acc ≠ v) : tOf (siR w b1 b2 e W acc ad sl v .none xs zs) = (siY2 w b1 b2 e W acc ad sl v xs zs).1 := by
  obtain ⟨X, hX⟩ := (siY2 w b1 b2 e W acc ad sl v xs zs).2
  exact hX.trans (if_neg (by simp [Builtin.List.listSameRef, h]))
noncomputable def siH (acc ad sl v : Nat) (a : VV) (xs zs ys : List VV) : Hook := ⟨false, .call (.bi "list.__setitem__") [.ref acc, .ref sl, .ref v], none, vws (siL acc ad sl v a .none .none xs zs), fun _ => .ret .none, fun _ => [(acc, accV ad ys)], fun _ => [], [], fun _ => []⟩
theorem si0 {w : World} (acc ad sl v x : Nat) (l : List Nat) (q : acc ≠ v) (h : l.length < 7 := by simp) : Eff w (siH acc ad sl v (.int (l.length : Nat)) ((l ++ [x]).map .ref) [] (l.map .ref)) := by
  obtain ⟨n, f, rfl⟩ := ex_lst 0 l
  rw [lst_len] at h ⊢
  refine effW rfl (wdA [3] [0] [] 17 (dg 16 0x122224403333312) (fun b1 b2 e W _ _ => [.s 0 (t' := (siY1 w b1 b2 (e0 e) W acc ad sl v (n : Nat) ((lst n f ++ [x]).map .ref) []).1) fun _ => siY1_same w b1 b2 (e0 e) W acc ad sl v _ _ _ q]) (T := vws_tells _)) ?_
  revert n h
  exact tab_get (by kernel_rfl)
theorem si1 {w : World} (acc ad sl v x : Nat) (l : List Nat) (z : List Nat) (q : acc ≠ v) (h : l.length < 6 := by simp) (hz : z.length < 2 := by simp) : Eff w (siH acc ad sl v .none (.ref x :: l.map .ref) (z.map .ref) (z.map .ref)) := by
  obtain ⟨n, f, rfl⟩ := ex_lst 0 l
  rw [lst_len] at h
  obtain ⟨m, g, rfl⟩ := ex_lst 0 z
  rw [lst_len] at hz
  refine effW rfl (wdA [3] [0] [] (n + 17) (dg 16 0x122224403333312) (fun b1 b2 e W _ _ => [.s 0 (t' := (siY2 w b1 b2 (e0 e) W acc ad sl v (.ref x :: (lst n f).map .ref) ((lst m g).map .ref)).1) fun _ => siY2_same w b1 b2 (e0 e) W acc ad sl v _ _ q]) (T := vws_tells _)) ?_
  match m, hz with
  | 0, _ => revert n h; exact tab_get (by kernel_rfl)
  | 1, _ => revert n h; exact tab_get (by kernel_rfl)
noncomputable def extTup (S g : Nat) : Sem PySem.Fin := (Builtin.List.listItems (.ref g)).bind fun xs => (Builtin.List.listItems (.ref S)).bind fun mine =>
  if (!mine.isEmpty && Builtin.List.listTooLong (mine.size + xs.size)) = true then (unsupported "list.extend:memory" : Sem PUnit).bind fun _ => (Builtin.List.listUpdate (.ref S) (· ++ xs)).bind fun _ => ret (.ref S)
  else (Builtin.List.listUpdate (.ref S) (· ++ xs)).bind fun _ => ret (.ref S)
theorem iadd_tup (S g : Nat) (h : S ≠ g) (o : Obj) (hc : o.cls = .type "tuple") : contL (den (iaddC S g)) o = extTup S g := by
  rw [iadd_den]
  have h1 : Builtin.List.listSameRef (.ref S) (.ref g) = false := by simp [Builtin.List.listSameRef, h]
  unfold Builtin.List.listExtendWith
  simp only [h1]
  obtain ⟨c, d, dt, sl⟩ := o
  cases hc
  kernel_rfl
noncomputable def colH (x : Nat) : Hook := ⟨false, .code (.builtin "proto.collect" ⟨[.ref x], []⟩), none, [(x, .vw ⟨.type "tuple", none, (.seq [.str uE, .str uSemi])⟩)], fun na => .ret (.ref (na 0)), fun na => [], fun na => [⟨.type "list", none, (.seq [.str uE, .str uSemi])⟩], [], fun na => []⟩
theorem col_e (w : World) (x : Nat)  : Eff w (colH x) :=
  effW rfl (wd [4,3] [] [0] 9 (dg 16 0x13333202) (fun e _ A G => [.s 0 (t' := extTup (A 0) x) (fun f => iadd_tup (A 0) x (f.ne (.head _) 0 rfl).symm (itemV.mk' (e.k 0)) rfl)]) (T := (.v .nil))) (by kernel_rfl)
noncomputable def ksPop : List Kd := [.func, .func, .func, .fo, .func, .bi "claim.caller"]
noncomputable def pop1H (acc ad x0 : Nat) : Hook := ⟨false, .call (.ref 145) [.ref acc], (some ksPop), [(acc, .vw ⟨.ref 185, (some ad), (.seq [.ref x0])⟩), (ad, .vw ⟨.type "dict", none, (.dict [(u_init, .int 0)])⟩)], fun na => .ret (.ref x0), fun na => [(acc, ⟨.ref 185, (some ad), (.seq [])⟩)], fun na => [], [], fun na => []⟩
noncomputable abbrev pop1R (w : World) (b1 b2 : Bool) (e : Amb) (W : List (Code × Pos)) (acc ad x0 : Nat) := (wd [4,1] [] [] 50 (dg 16 0x111111101321111211121112414411) (fun e _ A G => [p1 (pc false (acc + 317) ad x0 [] (by first | assumption | omega)) [0]]) (T := (.v (.v .nil))) : WD w (pop1H (acc + 317) ad x0)).R b1 b2 e W
theorem pop1_ctx (w : World) (b1 b2 : Bool) (e : Amb) (cp : Nat → Cp) (acc ad x0 : Nat) : ∃ (F5 : List Env → Sem Value) (F4 : Value → Sem Value) (F3 : Value → Sem Flow) (F2 : Flow → Sem Flow) (h1 : Value → Sem Unit) (F0 : Flow → Sem PySem.Fin),
    tOf (pop1R w b1 b2 e (buildW ksPop cp 0) acc ad x0) = Sem.stack (fun l => R.bindR (R.onRaiseR (R.bindR (R.bindR (R.bindR (R.bindR (stA Fast.tw15119167023480647312 l) F5) F4) F3) F2) h1) F0) := by
  cases b1 <;> with_unfolding_all exact ⟨_, _, _, _, _, _, rfl⟩
theorem pop1_code (w : World) (b1 b2 : Bool) (e : Amb) (cp : Nat → Cp) (acc ad x0 : Nat) : ∃ b v, (outOf (pop1R w b1 b2 e (buildW ksPop cp 0) acc ad x0)).c = .func b v := by
  cases b1 <;> with_unfolding_all exact ⟨_, _, rfl⟩
noncomputable def pop1T (w : World) (b1 b2 : Bool) (e : Amb) (W : List (Code × Pos)) (acc ad x0 : Nat) : Sem PySem.Fin := stA (tOf (pop1R w b1 b2 e W acc ad x0)) (((outOf (pop1R w b1 b2 e W acc ad x0)).c, (outOf (pop1R w b1 b2 e W acc ad x0)).p) :: W)
noncomputable def pop1T' (w : World) (b1 b2 : Bool) (e : Amb) (W : List (Code × Pos)) (acc ad x0 : Nat) : Sem PySem.Fin := stA (tOf (pop1R w b1 b2 e W acc ad x0)) [(.func [] default, default)]
theorem pop1_same (w : World) (b1 b2 : Bool) (e : Amb) (W : List (Code × Pos)) (acc ad x0 : Nat) (hW : WOk (some ksPop) W) : pop1T w b1 b2 e W acc ad x0 = pop1T' w b1 b2 (e0 e) W acc ad x0 := by
  obtain ⟨cp, rfl⟩ := hW
  rw [show pop1T' w b1 b2 (e0 e) (buildW ksPop cp 0) acc ad x0 = pop1T' w b1 b2 e (buildW ksPop cp 0) acc ad x0 by cases b1 <;> kernel_rfl]
  obtain ⟨F5, F4, F3, F2, h1, F0, h⟩ := pop1_ctx w b1 b2 e cp acc ad x0
  obtain ⟨b, v, hc⟩ := pop1_code w b1 b2 e cp acc ad x0
  unfold pop1T pop1T'
  rw [h, hc]
  show R.bindR (R.onRaiseR (R.bindR (R.bindR (R.bindR (R.bindR (stA Fast.tw15119167023480647312 _) F5) F4) F3) F2) h1) F0 = R.bindR (R.onRaiseR (R.bindR (R.bindR (R.bindR (R.bindR (stA Fast.tw15119167023480647312 _) F5) F4) F3) F2) h1) F0
  rw [no_comps, no_comps]
theorem pop1_e (w : World) (acc ad x0 : Nat) (hacc : 317 ≤ acc) : Eff w (pop1H acc ad x0) :=
  by
  obtain ⟨acc, rfl⟩ := above hacc
  exact effW rfl (wdA [4,1,3,8] [0] [] 114 (dg 16 0x122221122126161211155551555555551221515511114011111101321111211121112414411) (fun b1 b2 e W A G => [p1 (pc false (acc + 317) ad x0 [] (by first | assumption | omega)) [0], .s 1 (t' := pop1T' w b1 b2 (e0 e) W acc ad x0) (fun f => pop1_same w b1 b2 e W acc ad x0 f.W)]) (T := (.v (.v .nil)))) (by kernel_rfl)
noncomputable def pop2H (acc ad x0 x1 : Nat) : Hook := ⟨false, .call (.ref 145) [.ref acc], (some ksPop), [(acc, .vw ⟨.ref 185, (some ad), (.seq [.ref x0, .ref x1])⟩), (ad, .vw ⟨.type "dict", none, (.dict [(u_init, .int 0)])⟩)], fun na => .ret (.ref x1), fun na => [(acc, ⟨.ref 185, (some ad), (.seq [.ref x0])⟩)], fun na => [], [], fun na => []⟩
noncomputable abbrev pop2R (w : World) (b1 b2 : Bool) (e : Amb) (W : List (Code × Pos)) (acc ad x0 x1 : Nat) := (wd [4,1] [] [] 50 (dg 16 0x111111101321111211121112414411) (fun e _ A G => [p1 (pc false (acc + 317) ad x0 [x1] (by first | assumption | omega)) [0]]) (T := (.v (.v .nil))) : WD w (pop2H (acc + 317) ad x0 x1)).R b1 b2 e W
theorem pop2_ctx (w : World) (b1 b2 : Bool) (e : Amb) (cp : Nat → Cp) (acc ad x0 x1 : Nat) : ∃ (F5 : List Env → Sem Value) (F4 : Value → Sem Value) (F3 : Value → Sem Flow) (F2 : Flow → Sem Flow) (h1 : Value → Sem Unit) (F0 : Flow → Sem PySem.Fin),
    tOf (pop2R w b1 b2 e (buildW ksPop cp 0) acc ad x0 x1) = Sem.stack (fun l => R.bindR (R.onRaiseR (R.bindR (R.bindR (R.bindR (R.bindR (stA Fast.tw15119167023480647312 l) F5) F4) F3) F2) h1) F0) := by
  cases b1 <;> with_unfolding_all exact ⟨_, _, _, _, _, _, rfl⟩
theorem pop2_code (w : World) (b1 b2 : Bool) (e : Amb) (cp : Nat → Cp) (acc ad x0 x1 : Nat) : ∃ b v, (outOf (pop2R w b1 b2 e (buildW ksPop cp 0) acc ad x0 x1)).c = .func b v := by
  cases b1 <;> with_unfolding_all exact ⟨_, _, rfl⟩
noncomputable def pop2T (w : World) (b1 b2 : Bool) (e : Amb) (W : List (Code × Pos)) (acc ad x0 x1 : Nat) : Sem PySem.Fin := stA (tOf (pop2R w b1 b2 e W acc ad x0 x1)) (((outOf (pop2R w b1 b2 e W acc ad x0 x1)).c, (outOf (pop2R w b1 b2 e W acc ad x0 x1)).p) :: W)
noncomputable def pop2T' (w : World) (b1 b2 : Bool) (e : Amb) (W : List (Code × Pos)) (acc ad x0 x1 : Nat) : Sem PySem.Fin := stA (tOf (pop2R w b1 b2 e W acc ad x0 x1)) [(.func [] default, default)]
theorem pop2_same (w : World) (b1 b2 : Bool) (e : Amb) (W : List (Code × Pos)) (acc ad x0 x1 : Nat) (hW : WOk (some ksPop) W) : pop2T w b1 b2 e W acc ad x0 x1 = pop2T' w b1 b2 (e0 e) W acc ad x0 x1 := by
  obtain ⟨cp, rfl⟩ := hW
  rw [show pop2T' w b1 b2 (e0 e) (buildW ksPop cp 0) acc ad x0 x1 = pop2T' w b1 b2 e (buildW ksPop cp 0) acc ad x0 x1 by cases b1 <;> kernel_rfl]
  obtain ⟨F5, F4, F3, F2, h1, F0, h⟩ := pop2_ctx w b1 b2 e cp acc ad x0 x1
  obtain ⟨b, v, hc⟩ := pop2_code w b1 b2 e cp acc ad x0 x1
  unfold pop2T pop2T'
  rw [h, hc]
  show R.bindR (R.onRaiseR (R.bindR (R.bindR (R.bindR (R.bindR (stA Fast.tw15119167023480647312 _) F5) F4) F3) F2) h1) F0 = R.bindR (R.onRaiseR (R.bindR (R.bindR (R.bindR (R.bindR (stA Fast.tw15119167023480647312 _) F5) F4) F3) F2) h1) F0
  rw [no_comps, no_comps]
theorem pop2_e (w : World) (acc ad x0 x1 : Nat) (hacc : 317 ≤ acc) : Eff w (pop2H acc ad x0 x1) :=
  by
  obtain ⟨acc, rfl⟩ := above hacc
  exact effW rfl (wdA [4,1,3,8] [0] [] 114 (dg 16 0x122221122126161211155551555555551221515511114011111101321111211121112414411) (fun b1 b2 e W A G => [p1 (pc false (acc + 317) ad x0 [x1] (by first | assumption | omega)) [0], .s 1 (t' := pop2T' w b1 b2 (e0 e) W acc ad x0 x1) (fun f => pop2_same w b1 b2 e W acc ad x0 x1 f.W)]) (T := (.v (.v .nil)))) (by kernel_rfl)
noncomputable def pop3H (acc ad x0 x1 x2 : Nat) : Hook := ⟨false, .call (.ref 145) [.ref acc], (some ksPop), [(acc, .vw ⟨.ref 185, (some ad), (.seq [.ref x0, .ref x1, .ref x2])⟩), (ad, .vw ⟨.type "dict", none, (.dict [(u_init, .int 0)])⟩)], fun na => .ret (.ref x2), fun na => [(acc, ⟨.ref 185, (some ad), (.seq [.ref x0, .ref x1])⟩)], fun na => [], [], fun na => []⟩
noncomputable abbrev pop3R (w : World) (b1 b2 : Bool) (e : Amb) (W : List (Code × Pos)) (acc ad x0 x1 x2 : Nat) := (wd [4,1] [] [] 50 (dg 16 0x111111101321111211121112414411) (fun e _ A G => [p1 (pc false (acc + 317) ad x0 [x1, x2] (by first | assumption | omega)) [0]]) (T := (.v (.v .nil))) : WD w (pop3H (acc + 317) ad x0 x1 x2)).R b1 b2 e W
theorem pop3_ctx (w : World) (b1 b2 : Bool) (e : Amb) (cp : Nat → Cp) (acc ad x0 x1 x2 : Nat) : ∃ (F5 : List Env → Sem Value) (F4 : Value → Sem Value) (F3 : Value → Sem Flow) (F2 : Flow → Sem Flow) (h1 : Value → Sem Unit) (F0 : Flow → Sem PySem.Fin),
    tOf (pop3R w b1 b2 e (buildW ksPop cp 0) acc ad x0 x1 x2) = Sem.stack (fun l => R.bindR (R.onRaiseR (R.bindR (R.bindR (R.bindR (R.bindR (stA Fast.tw15119167023480647312 l) F5) F4) F3) F2) h1) F0) := by
  cases b1 <;> with_unfolding_all exact ⟨_, _, _, _, _, _, rfl⟩
theorem pop3_code (w : World) (b1 b2 : Bool) (e : Amb) (cp : Nat → Cp) (acc ad x0 x1 x2 : Nat) : ∃ b v, (outOf (pop3R w b1 b2 e (buildW ksPop cp 0) acc ad x0 x1 x2)).c = .func b v := by
  cases b1 <;> with_unfolding_all exact ⟨_, _, rfl⟩
noncomputable def pop3T (w : World) (b1 b2 : Bool) (e : Amb) (W : List (Code × Pos)) (acc ad x0 x1 x2 : Nat) : Sem PySem.Fin := stA (tOf (pop3R w b1 b2 e W acc ad x0 x1 x2)) (((outOf (pop3R w b1 b2 e W acc ad x0 x1 x2)).c, (outOf (pop3R w b1 b2 e W acc ad x0 x1 x2)).p) :: W)
noncomputable def pop3T' (w : World) (b1 b2 : Bool) (e : Amb) (W : List (Code × Pos)) (acc ad x0 x1 x2 : Nat) : Sem PySem.Fin := stA (tOf (pop3R w b1 b2 e W acc ad x0 x1 x2)) [(.func [] default, default)]
theorem pop3_same (w : World) (b1 b2 : Bool) (e : Amb) (W : List (Code × Pos)) (acc ad x0 x1 x2 : Nat) (hW : WOk (some ksPop) W) : pop3T w b1 b2 e W acc ad x0 x1 x2 = pop3T' w b1 b2 (e0 e) W acc ad x0 x1 x2 := by
  obtain ⟨cp, rfl⟩ := hW
  rw [show pop3T' w b1 b2 (e0 e) (buildW ksPop cp 0) acc ad x0 x1 x2 = pop3T' w b1 b2 e (buildW ksPop cp 0) acc ad x0 x1 x2 by cases b1 <;> kernel_rfl]
  obtain ⟨F5, F4, F3, F2, h1, F0, h⟩ := pop3_ctx w b1 b2 e cp acc ad x0 x1 x2
  obtain ⟨b, v, hc⟩ := pop3_code w b1 b2 e cp acc ad x0 x1 x2
  unfold pop3T pop3T'
  rw [h, hc]
  show R.bindR (R.onRaiseR (R.bindR (R.bindR (R.bindR (R.bindR (stA Fast.tw15119167023480647312 _) F5) F4) F3) F2) h1) F0 = R.bindR (R.onRaiseR (R.bindR (R.bindR (R.bindR (R.bindR (stA Fast.tw15119167023480647312 _) F5) F4) F3) F2) h1) F0
  rw [no_comps, no_comps]
theorem pop3_e (w : World) (acc ad x0 x1 x2 : Nat) (hacc : 317 ≤ acc) : Eff w (pop3H acc ad x0 x1 x2) :=
  by
  obtain ⟨acc, rfl⟩ := above hacc
  exact effW rfl (wdA [4,1,3,8] [0] [] 114 (dg 16 0x122221122126161211155551555555551221515511114011111101321111211121112414411) (fun b1 b2 e W A G => [p1 (pc false (acc + 317) ad x0 [x1, x2] (by first | assumption | omega)) [0], .s 1 (t' := pop3T' w b1 b2 (e0 e) W acc ad x0 x1 x2) (fun f => pop3_same w b1 b2 e W acc ad x0 x1 x2 f.W)]) (T := (.v (.v .nil)))) (by kernel_rfl)
noncomputable def pop4H (acc ad x0 x1 x2 x3 : Nat) : Hook := ⟨false, .call (.ref 145) [.ref acc], (some ksPop), [(acc, .vw ⟨.ref 185, (some ad), (.seq [.ref x0, .ref x1, .ref x2, .ref x3])⟩), (ad, .vw ⟨.type "dict", none, (.dict [(u_init, .int 0)])⟩)], fun na => .ret (.ref x3), fun na => [(acc, ⟨.ref 185, (some ad), (.seq [.ref x0, .ref x1, .ref x2])⟩)], fun na => [], [], fun na => []⟩
noncomputable abbrev pop4R (w : World) (b1 b2 : Bool) (e : Amb) (W : List (Code × Pos)) (acc ad x0 x1 x2 x3 : Nat) := (wd [4,1] [] [] 50 (dg 16 0x111111101321111211121112414411) (fun e _ A G => [p1 (pc false (acc + 317) ad x0 [x1, x2, x3] (by first | assumption | omega)) [0]]) (T := (.v (.v .nil))) : WD w (pop4H (acc + 317) ad x0 x1 x2 x3)).R b1 b2 e W
theorem pop4_ctx (w : World) (b1 b2 : Bool) (e : Amb) (cp : Nat → Cp) (acc ad x0 x1 x2 x3 : Nat) : ∃ (F5 : List Env → Sem Value) (F4 : Value → Sem Value) (F3 : Value → Sem Flow) (F2 : Flow → Sem Flow) (h1 : Value → Sem Unit) (F0 : Flow → Sem PySem.Fin),
    tOf (pop4R w b1 b2 e (buildW ksPop cp 0) acc ad x0 x1 x2 x3) = Sem.stack (fun l => R.bindR (R.onRaiseR (R.bindR (R.bindR (R.bindR (R.bindR (stA Fast.tw15119167023480647312 l) F5) F4) F3) F2) h1) F0) := by
  cases b1 <;> with_unfolding_all exact ⟨_, _, _, _, _, _, rfl⟩
theorem pop4_code (w : World) (b1 b2 : Bool) (e : Amb) (cp : Nat → Cp) (acc ad x0 x1 x2 x3 : Nat) : ∃ b v, (outOf (pop4R w b1 b2 e (buildW ksPop cp 0) acc ad x0 x1 x2 x3)).c = .func b v := by
  cases b1 <;> with_unfolding_all exact ⟨_, _, rfl⟩
noncomputable def pop4T (w : World) (b1 b2 : Bool) (e : Amb) (W : List (Code × Pos)) (acc ad x0 x1 x2 x3 : Nat) : Sem PySem.Fin := stA (tOf (pop4R w b1 b2 e W acc ad x0 x1 x2 x3)) (((outOf (pop4R w b1 b2 e W acc ad x0 x1 x2 x3)).c, (outOf (pop4R w b1 b2 e W acc ad x0 x1 x2 x3)).p) :: W)
noncomputable def pop4T' (w : World) (b1 b2 : Bool) (e : Amb) (W : List (Code × Pos)) (acc ad x0 x1 x2 x3 : Nat) : Sem PySem.Fin := stA (tOf (pop4R w b1 b2 e W acc ad x0 x1 x2 x3)) [(.func [] default, default)]
theorem pop4_same (w : World) (b1 b2 : Bool) (e : Amb) (W : List (Code × Pos)) (acc ad x0 x1 x2 x3 : Nat) (hW : WOk (some ksPop) W) : pop4T w b1 b2 e W acc ad x0 x1 x2 x3 = pop4T' w b1 b2 (e0 e) W acc ad x0 x1 x2 x3 := by
  obtain ⟨cp, rfl⟩ := hW
  rw [show pop4T' w b1 b2 (e0 e) (buildW ksPop cp 0) acc ad x0 x1 x2 x3 = pop4T' w b1 b2 e (buildW ksPop cp 0) acc ad x0 x1 x2 x3 by cases b1 <;> kernel_rfl]
  obtain ⟨F5, F4, F3, F2, h1, F0, h⟩ := pop4_ctx w b1 b2 e cp acc ad x0 x1 x2 x3
  obtain ⟨b, v, hc⟩ := pop4_code w b1 b2 e cp acc ad x0 x1 x2 x3
  unfold pop4T pop4T'
  rw [h, hc]
  show R.bindR (R.onRaiseR (R.bindR (R.bindR (R.bindR (R.bindR (stA Fast.tw15119167023480647312 _) F5) F4) F3) F2) h1) F0 = R.bindR (R.onRaiseR (R.bindR (R.bindR (R.bindR (R.bindR (stA Fast.tw15119167023480647312 _) F5) F4) F3) F2) h1) F0
  rw [no_comps, no_comps]
theorem pop4_e (w : World) (acc ad x0 x1 x2 x3 : Nat) (hacc : 317 ≤ acc) : Eff w (pop4H acc ad x0 x1 x2 x3) :=
  by
  obtain ⟨acc, rfl⟩ := above hacc
  exact effW rfl (wdA [4,1,3,8] [0] [] 114 (dg 16 0x122221122126161211155551555555551221515511114011111101321111211121112414411) (fun b1 b2 e W A G => [p1 (pc false (acc + 317) ad x0 [x1, x2, x3] (by first | assumption | omega)) [0], .s 1 (t' := pop4T' w b1 b2 (e0 e) W acc ad x0 x1 x2 x3) (fun f => pop4_same w b1 b2 e W acc ad x0 x1 x2 x3 f.W)]) (T := (.v (.v .nil)))) (by kernel_rfl)
noncomputable def pop5H (acc ad x0 x1 x2 x3 x4 : Nat) : Hook := ⟨false, .call (.ref 145) [.ref acc], (some ksPop), [(acc, .vw ⟨.ref 185, (some ad), (.seq [.ref x0, .ref x1, .ref x2, .ref x3, .ref x4])⟩), (ad, .vw ⟨.type "dict", none, (.dict [(u_init, .int 0)])⟩)], fun na => .ret (.ref x4), fun na => [(acc, ⟨.ref 185, (some ad), (.seq [.ref x0, .ref x1, .ref x2, .ref x3])⟩)], fun na => [], [], fun na => []⟩
noncomputable abbrev pop5R (w : World) (b1 b2 : Bool) (e : Amb) (W : List (Code × Pos)) (acc ad x0 x1 x2 x3 x4 : Nat) := (wd [4,1] [] [] 50 (dg 16 0x111111101321111211121112414411) (fun e _ A G => [p1 (pc false (acc + 317) ad x0 [x1, x2, x3, x4] (by first | assumption | omega)) [0]]) (T := (.v (.v .nil))) : WD w (pop5H (acc + 317) ad x0 x1 x2 x3 x4)).R b1 b2 e W
theorem pop5_ctx (w : World) (b1 b2 : Bool) (e : Amb) (cp : Nat → Cp) (acc ad x0 x1 x2 x3 x4 : Nat) : ∃ (F5 : List Env → Sem Value) (F4 : Value → Sem Value) (F3 : Value → Sem Flow) (F2 : Flow → Sem Flow) (h1 : Value → Sem Unit) (F0 : Flow → Sem PySem.Fin),
    tOf (pop5R w b1 b2 e (buildW ksPop cp 0) acc ad x0 x1 x2 x3 x4) = Sem.stack (fun l => R.bindR (R.onRaiseR (R.bindR (R.bindR (R.bindR (R.bindR (stA Fast.tw15119167023480647312 l) F5) F4) F3) F2) h1) F0) := by
  cases b1 <;> with_unfolding_all exact ⟨_, _, _, _, _, _, rfl⟩
theorem pop5_code (w : World) (b1 b2 : Bool) (e : Amb) (cp : Nat → Cp) (acc ad x0 x1 x2 x3 x4 : Nat) : ∃ b v, (outOf (pop5R w b1 b2 e (buildW ksPop cp 0) acc ad x0 x1 x2 x3 x4)).c = .func b v := by
  cases b1 <;> with_unfolding_all exact ⟨_, _, rfl⟩
noncomputable def pop5T (w : World) (b1 b2 : Bool) (e : Amb) (W : List (Code × Pos)) (acc ad x0 x1 x2 x3 x4 : Nat) : Sem PySem.Fin := stA (tOf (pop5R w b1 b2 e W acc ad x0 x1 x2 x3 x4)) (((outOf (pop5R w b1 b2 e W acc ad x0 x1 x2 x3 x4)).c, (outOf (pop5R w b1 b2 e W acc ad x0 x1 x2 x3 x4)).p) :: W)
noncomputable def pop5T' (w : World) (b1 b2 : Bool) (e : Amb) (W : List (Code × Pos)) (acc ad x0 x1 x2 x3 x4 : Nat) : Sem PySem.Fin := stA (tOf (pop5R w b1 b2 e W acc ad x0 x1 x2 x3 x4)) [(.func [] default, default)]
theorem pop5_same (w : World) (b1 b2 : Bool) (e : Amb) (W : List (Code × Pos)) (acc ad x0 x1 x2 x3 x4 : Nat) (hW : WOk (some ksPop) W) : pop5T w b1 b2 e W acc ad x0 x1 x2 x3 x4 = pop5T' w b1 b2 (e0 e) W acc ad x0 x1 x2 x3 x4 := by
  obtain ⟨cp, rfl⟩ := hW
  rw [show pop5T' w b1 b2 (e0 e) (buildW ksPop cp 0) acc ad x0 x1 x2 x3 x4 = pop5T' w b1 b2 e (buildW ksPop cp 0) acc ad x0 x1 x2 x3 x4 by cases b1 <;> kernel_rfl]
  obtain ⟨F5, F4, F3, F2, h1, F0, h⟩ := pop5_ctx w b1 b2 e cp acc ad x0 x1 x2 x3 x4
  obtain ⟨b, v, hc⟩ := pop5_code w b1 b2 e cp acc ad x0 x1 x2 x3 x4
  unfold pop5T pop5T'
  rw [h, hc]
  show R.bindR (R.onRaiseR (R.bindR (R.bindR (R.bindR (R.bindR (stA Fast.tw15119167023480647312 _) F5) F4) F3) F2) h1) F0 = R.bindR (R.onRaiseR (R.bindR (R.bindR (R.bindR (R.bindR (stA Fast.tw15119167023480647312 _) F5) F4) F3) F2) h1) F0
  rw [no_comps, no_comps]
theorem pop5_e (w : World) (acc ad x0 x1 x2 x3 x4 : Nat) (hacc : 317 ≤ acc) : Eff w (pop5H acc ad x0 x1 x2 x3 x4) :=
  by
  obtain ⟨acc, rfl⟩ := above hacc
  exact effW rfl (wdA [4,1,3,8] [0] [] 114 (dg 16 0x122221122126161211155551555555551221515511114011111101321111211121112414411) (fun b1 b2 e W A G => [p1 (pc false (acc + 317) ad x0 [x1, x2, x3, x4] (by first | assumption | omega)) [0], .s 1 (t' := pop5T' w b1 b2 (e0 e) W acc ad x0 x1 x2 x3 x4) (fun f => pop5_same w b1 b2 e W acc ad x0 x1 x2 x3 x4 f.W)]) (T := (.v (.v .nil)))) (by kernel_rfl)
noncomputable def pop6H (acc ad x0 x1 x2 x3 x4 x5 : Nat) : Hook := ⟨false, .call (.ref 145) [.ref acc], (some ksPop), [(acc, .vw ⟨.ref 185, (some ad), (.seq [.ref x0, .ref x1, .ref x2, .ref x3, .ref x4, .ref x5])⟩), (ad, .vw ⟨.type "dict", none, (.dict [(u_init, .int 0)])⟩)], fun na => .ret (.ref x5), fun na => [(acc, ⟨.ref 185, (some ad), (.seq [.ref x0, .ref x1, .ref x2, .ref x3, .ref x4])⟩)], fun na => [], [], fun na => []⟩
noncomputable abbrev pop6R (w : World) (b1 b2 : Bool) (e : Amb) (W : List (Code × Pos)) (acc ad x0 x1 x2 x3 x4 x5 : Nat) := (wd [4,1] [] [] 50 (dg 16 0x111111101321111211121112414411) (fun e _ A G => [p1 (pc false (acc + 317) ad x0 [x1, x2, x3, x4, x5] (by first | assumption | omega)) [0]]) (T := (.v (.v .nil))) : WD w (pop6H (acc + 317) ad x0 x1 x2 x3 x4 x5)).R b1 b2 e W
theorem pop6_ctx (w : World) (b1 b2 : Bool) (e : Amb) (cp : Nat → Cp) (acc ad x0 x1 x2 x3 x4 x5 : Nat) : ∃ (F5 : List Env → Sem Value) (F4 : Value → Sem Value) (F3 : Value → Sem Flow) (F2 : Flow → Sem Flow) (h1 : Value → Sem Unit) (F0 : Flow → Sem PySem.Fin),
    tOf (pop6R w b1 b2 e (buildW ksPop cp 0) acc ad x0 x1 x2 x3 x4 x5) = Sem.stack (fun l => R.bindR (R.onRaiseR (R.bindR (R.bindR (R.bindR (R.bindR (stA Fast.tw15119167023480647312 l) F5) F4) F3) F2) h1) F0) := by
  cases b1 <;> with_unfolding_all exact ⟨_, _, _, _, _, _, rfl⟩
theorem pop6_code (w : World) (b1 b2 : Bool) (e : Amb) (cp : Nat → Cp) (acc ad x0 x1 x2 x3 x4 x5 : Nat) : ∃ b v, (outOf (pop6R w b1 b2 e (buildW ksPop cp 0) acc ad x0 x1 x2 x3 x4 x5)).c = .func b v := by
  cases b1 <;> with_unfolding_all exact ⟨_, _, rfl⟩
noncomputable def pop6T (w : World) (b1 b2 : Bool) (e : Amb) (W : List (Code × Pos)) (acc ad x0 x1 x2 x3 x4 x5 : Nat) : Sem PySem.Fin := stA (tOf (pop6R w b1 b2 e W acc ad x0 x1 x2 x3 x4 x5)) (((outOf (pop6R w b1 b2 e W acc ad x0 x1 x2 x3 x4 x5)).c, (outOf (pop6R w b1 b2 e W acc ad x0 x1 x2 x3 x4 x5)).p) :: W)
noncomputable def pop6T' (w : World) (b1 b2 : Bool) (e : Amb) (W : List (Code × Pos)) (acc ad x0 x1 x2 x3 x4 x5 : Nat) : Sem PySem.Fin := stA (tOf (pop6R w b1 b2 e W acc ad x0 x1 x2 x3 x4 x5)) [(.func [] default, default)]
theorem pop6_same (w : World) (b1 b2 : Bool) (e : Amb) (W : List (Code × Pos)) (acc ad x0 x1 x2 x3 x4 x5 : Nat) (hW : WOk (some ksPop) W) : pop6T w b1 b2 e W acc ad x0 x1 x2 x3 x4 x5 = pop6T' w b1 b2 (e0 e) W acc ad x0 x1 x2 x3 x4 x5 := by
  obtain ⟨cp, rfl⟩ := hW
  rw [show pop6T' w b1 b2 (e0 e) (buildW ksPop cp 0) acc ad x0 x1 x2 x3 x4 x5 = pop6T' w b1 b2 e (buildW ksPop cp 0) acc ad x0 x1 x2 x3 x4 x5 by cases b1 <;> kernel_rfl]
  obtain ⟨F5, F4, F3, F2, h1, F0, h⟩ := pop6_ctx w b1 b2 e cp acc ad x0 x1 x2 x3 x4 x5
  obtain ⟨b, v, hc⟩ := pop6_code w b1 b2 e cp acc ad x0 x1 x2 x3 x4 x5
  unfold pop6T pop6T'
  rw [h, hc]
  show R.bindR (R.onRaiseR (R.bindR (R.bindR (R.bindR (R.bindR (stA Fast.tw15119167023480647312 _) F5) F4) F3) F2) h1) F0 = R.bindR (R.onRaiseR (R.bindR (R.bindR (R.bindR (R.bindR (stA Fast.tw15119167023480647312 _) F5) F4) F3) F2) h1) F0
  rw [no_comps, no_comps]
theorem pop6_e (w : World) (acc ad x0 x1 x2 x3 x4 x5 : Nat) (hacc : 317 ≤ acc) : Eff w (pop6H acc ad x0 x1 x2 x3 x4 x5) :=
  by
  obtain ⟨acc, rfl⟩ := above hacc
  exact effW rfl (wdA [4,1,3,8] [0] [] 114 (dg 16 0x122221122126161211155551555555551221515511114011111101321111211121112414411) (fun b1 b2 e W A G => [p1 (pc false (acc + 317) ad x0 [x1, x2, x3, x4, x5] (by first | assumption | omega)) [0], .s 1 (t' := pop6T' w b1 b2 (e0 e) W acc ad x0 x1 x2 x3 x4 x5) (fun f => pop6_same w b1 b2 e W acc ad x0 x1 x2 x3 x4 x5 f.W)]) (T := (.v (.v .nil)))) (by kernel_rfl)
noncomputable def aco1H (mk md acc ad ln x0 : Nat) (ls : List VV) (κ : TK) : Hook := ⟨true, .call (.ref 98) [.ref mk, .str uE, .str uSemi], (some ksAC), [(mk, .vw ⟨.ref 101, (some md), .plain⟩), (md, .vw ⟨.type "dict", none, (.dict [(u_maxlen, .int 1), (u_cws, .str uSp), (u_cwsl, .int 1), (u_split, .str uSemi), (u_lines, .ref ln), (u_cur, .ref acc)])⟩), (acc, .vw ⟨.ref 185, (some ad), (.seq [.ref x0])⟩), (ad, .vw ⟨.type "dict", none, (.dict [(u_init, .int 0)])⟩), (ln, .ob (OV.mk' (listV ls) κ)), (x0, .vw ⟨.type "tuple", none, (.seq [.str uE, .str uSemi])⟩)], fun na => .ret (.none), fun na => [(acc, ⟨.ref 185, (some ad), (.seq [.ref (na 0)])⟩), (ad, ⟨.type "dict", none, (.dict [(u_init, .int 0)])⟩), (ln, (listV (ls ++ [.str uSemi])))], fun na => [⟨.type "tuple", none, (.seq [.str uE, .str uSemi])⟩], [], fun na => []⟩
theorem aco1_e (w : World) (mk md acc ad ln x0 : Nat) (ls : List VV) (κ : TK) (hls : ls.length ≤ 1000) (hacc : 317 ≤ acc) : Eff w (aco1H mk md acc ad ln x0 ls κ) :=
  effW rfl (wd [12,1,4,1,28,1,1,1,8,1] [2,3,4] [2] 748 (dg 20 0x32aeef485c691e2e5548703fc0184cc809192bf19b258a31ac43e01926af7388020c547782c7814adcdc64be1a6254bf2fd99aa934f043eac5e73598129b1d95803de8ac0993749318afce8e1a8cc1457a5759d4961752b5d4014dbc0050e32e352f461f0ec0c110ea5e8bf771757ff7ac1a85bdf0c2f825998f109192e6877172baf6436c5cd07b376f76dc1749d586969e2c51638f118cbe16ea2c4d4bc7ae3a6594c14206b72796e3f797785f930a9bd638ed84d7464d4e106468169996b9e826420ded00b004d77dd39797d36cb000ee1491bb80694667eb914eb676249b31a8bab63b47e881d88f05aae95) (fun e _ A G => [p1 (len .A acc ad x0 [(A 2)]) [2,3,5,8], p1 (pc true acc ad x0 [(A 2)] (by first | assumption | omega)) [2], .q (fun f => si0 acc ad (A 10) (A 9) (A 2) [x0] (f.ne (.tail _ (.tail _ (.head _))) 9 rfl)) [2,16,15] [2] [] [], p1 (str .A acc ad x0 []) [2,3,5], p2 (e_append w ln (e.k 4) ls (.str uSemi) (by first | assumption | (simp only [List.length_append, List.length_cons, List.length_nil]; omega))) [4] [4], .q (fun f => si1 acc ad (A 12) (A 8) x0 [] [(A 2)] (f.ne (.tail _ (.tail _ (.head _))) 8 rfl)) [2,18,14] [2] [] []]) (T := (.v (.v (.v (.v (.o (.v .nil))))))) (ut := fun e => [none, none, some ((e.τ 4).u 0)])) (by kernel_rfl)
noncomputable def aco2H (mk md acc ad ln x0 x1 : Nat) (ls : List VV) (κ : TK) : Hook := ⟨true, .call (.ref 98) [.ref mk, .str uE, .str uSemi], (some ksAC), [(mk, .vw ⟨.ref 101, (some md), .plain⟩), (md, .vw ⟨.type "dict", none, (.dict [(u_maxlen, .int 2), (u_cws, .str uSp), (u_cwsl, .int 1), (u_split, .str uSemi), (u_lines, .ref ln), (u_cur, .ref acc)])⟩), (acc, .vw ⟨.ref 185, (some ad), (.seq [.ref x0, .ref x1])⟩), (ad, .vw ⟨.type "dict", none, (.dict [(u_init, .int 0)])⟩), (ln, .ob (OV.mk' (listV ls) κ)), (x0, .vw ⟨.type "tuple", none, (.seq [.str uE, .str uSemi])⟩), (x1, .vw ⟨.type "tuple", none, (.seq [.str uE, .str uSemi])⟩)], fun na => .ret (.none), fun na => [(acc, ⟨.ref 185, (some ad), (.seq [.ref (na 0)])⟩), (ad, ⟨.type "dict", none, (.dict [(u_init, .int 0)])⟩), (ln, (listV (ls ++ [.str kS31])))], fun na => [⟨.type "tuple", none, (.seq [.str uE, .str uSemi])⟩], [], fun na => []⟩
theorem aco2_e (w : World) (mk md acc ad ln x0 x1 : Nat) (ls : List VV) (κ : TK) (hls : ls.length ≤ 1000) (hacc : 317 ≤ acc) : Eff w (aco2H mk md acc ad ln x0 x1 ls κ) :=
  effW rfl (wd [12,1,4,1,28,1,1,1,8,1] [2,3,4] [2] 748 (dg 21 0x1769ca057e08f7326c60bb6fa27a2f3491290eb82425bae9b30fe7ab722bbf6f7e147dbe6344dec671bba032d0e0aada9fc58204cb87db086a93ecfae0be7ea081e834ab33a7dc5e2e201f207d1a580e37af8237def6a5f918613665765f06fe5dbb6a12285f3c9f98a83483d7836424a4ac1124889a17ade81feed27ecf950be68d0d0d8d2095ae435b6fe8418c041550442991ada389fe4482a348b6238efb33a6984fb0a1db2f9a68b2b68b5b33f3c60a72d3730ac397b04b6095b59537d16acea6a63d0daf338591feab064dbd882c2b07bca2f7b6aae7dff5aa6e9603b03b32aeb42739075f9acdcbae08a9c0312f9) (fun e _ A G => [p1 (len .A acc ad x0 [x1, (A 2)]) [2,3,5,6,9], p1 (pc true acc ad x0 [x1, (A 2)] (by first | assumption | omega)) [2], .q (fun f => si0 acc ad (A 10) (A 9) (A 2) [x0, x1] (f.ne (.tail _ (.tail _ (.head _))) 9 rfl)) [2,17,16] [2] [] [], p1 (str .A acc ad x0 [x1]) [2,3,5,6], p2 (e_append w ln (e.k 4) ls (.str kS31) (by first | assumption | (simp only [List.length_append, List.length_cons, List.length_nil]; omega))) [4] [4], .q (fun f => si1 acc ad (A 12) (A 8) x0 [x1] [(A 2)] (f.ne (.tail _ (.tail _ (.head _))) 8 rfl)) [2,19,15] [2] [] []]) (T := (.v (.v (.v (.v (.o (.v (.v .nil)))))))) (ut := fun e => [none, none, some ((e.τ 4).u 0)])) (by kernel_rfl)
noncomputable def aco3H (mk md acc ad ln x0 x1 x2 : Nat) (ls : List VV) (κ : TK) : Hook := ⟨true, .call (.ref 98) [.ref mk, .str uE, .str uSemi], (some ksAC), [(mk, .vw ⟨.ref 101, (some md), .plain⟩), (md, .vw ⟨.type "dict", none, (.dict [(u_maxlen, .int 3), (u_cws, .str uSp), (u_cwsl, .int 1), (u_split, .str uSemi), (u_lines, .ref ln), (u_cur, .ref acc)])⟩), (acc, .vw ⟨.ref 185, (some ad), (.seq [.ref x0, .ref x1, .ref x2])⟩), (ad, .vw ⟨.type "dict", none, (.dict [(u_init, .int 0)])⟩), (ln, .ob (OV.mk' (listV ls) κ)), (x0, .vw ⟨.type "tuple", none, (.seq [.str uE, .str uSemi])⟩), (x1, .vw ⟨.type "tuple", none, (.seq [.str uE, .str uSemi])⟩), (x2, .vw ⟨.type "tuple", none, (.seq [.str uE, .str uSemi])⟩)], fun na => .ret (.none), fun na => [(acc, ⟨.ref 185, (some ad), (.seq [.ref (na 0)])⟩), (ad, ⟨.type "dict", none, (.dict [(u_init, .int 0)])⟩), (ln, (listV (ls ++ [.str kS32])))], fun na => [⟨.type "tuple", none, (.seq [.str uE, .str uSemi])⟩], [], fun na => []⟩
theorem aco3_e (w : World) (mk md acc ad ln x0 x1 x2 : Nat) (ls : List VV) (κ : TK) (hls : ls.length ≤ 1000) (hacc : 317 ≤ acc) : Eff w (aco3H mk md acc ad ln x0 x1 x2 ls κ) :=
  effW rfl (wd [12,1,4,1,28,1,1,1,8,1] [2,3,4] [2] 748 (dg 22 0x3fefe994a9583003a80c0da968cf135a4946756679a98fd25a2f3fdaa88f9370b14e4191ec7a5905463c7798fe929d649ffb62a0edf850d9457716b6056a93a3d99e68b93e498d07fb976b077764d648a9f508931eefd42b9a9d4d11bc2155880363b17bdb1e32df8144bf7f1b3684f941254336b8f2dc9d85d3852b919b1bc5cf2df528c10956d3db41fc0dc9be3f8400cf1b68c164591fe4281e8014b2181dce6be8ec8af9f10b0c09be038173a8500029453aafbbfa657cbf2d42e77bf0b35a2b483663419f773324f1e8ab0a251b7b26d67f5aa4470693bd56b887ba480eea2f0f235818676eaa1fb790f462c04e9f76e1d5cf) (fun e _ A G => [p1 (len .A acc ad x0 [x1, x2, (A 2)]) [2,3,5,6,7,10], p1 (pc true acc ad x0 [x1, x2, (A 2)] (by first | assumption | omega)) [2], .q (fun f => si0 acc ad (A 10) (A 9) (A 2) [x0, x1, x2] (f.ne (.tail _ (.tail _ (.head _))) 9 rfl)) [2,18,17] [2] [] [], p1 (str .A acc ad x0 [x1, x2]) [2,3,5,6,7], p2 (e_append w ln (e.k 4) ls (.str kS32) (by first | assumption | (simp only [List.length_append, List.length_cons, List.length_nil]; omega))) [4] [4], .q (fun f => si1 acc ad (A 12) (A 8) x0 [x1, x2] [(A 2)] (f.ne (.tail _ (.tail _ (.head _))) 8 rfl)) [2,20,16] [2] [] []]) (T := (.v (.v (.v (.v (.o (.v (.v (.v .nil))))))))) (ut := fun e => [none, none, some ((e.τ 4).u 0)])) (by kernel_rfl)
noncomputable def aco4H (mk md acc ad ln x0 x1 x2 x3 : Nat) (ls : List VV) (κ : TK) : Hook := ⟨true, .call (.ref 98) [.ref mk, .str uE, .str uSemi], (some ksAC), [(mk, .vw ⟨.ref 101, (some md), .plain⟩), (md, .vw ⟨.type "dict", none, (.dict [(u_maxlen, .int 4), (u_cws, .str uSp), (u_cwsl, .int 1), (u_split, .str uSemi), (u_lines, .ref ln), (u_cur, .ref acc)])⟩), (acc, .vw ⟨.ref 185, (some ad), (.seq [.ref x0, .ref x1, .ref x2, .ref x3])⟩), (ad, .vw ⟨.type "dict", none, (.dict [(u_init, .int 0)])⟩), (ln, .ob (OV.mk' (listV ls) κ)), (x0, .vw ⟨.type "tuple", none, (.seq [.str uE, .str uSemi])⟩), (x1, .vw ⟨.type "tuple", none, (.seq [.str uE, .str uSemi])⟩), (x2, .vw ⟨.type "tuple", none, (.seq [.str uE, .str uSemi])⟩), (x3, .vw ⟨.type "tuple", none, (.seq [.str uE, .str uSemi])⟩)], fun na => .ret (.none), fun na => [(acc, ⟨.ref 185, (some ad), (.seq [.ref (na 0)])⟩), (ad, ⟨.type "dict", none, (.dict [(u_init, .int 0)])⟩), (ln, (listV (ls ++ [.str kS33])))], fun na => [⟨.type "tuple", none, (.seq [.str uE, .str uSemi])⟩], [], fun na => []⟩
theorem aco4_e (w : World) (mk md acc ad ln x0 x1 x2 x3 : Nat) (ls : List VV) (κ : TK) (hls : ls.length ≤ 1000) (hacc : 317 ≤ acc) : Eff w (aco4H mk md acc ad ln x0 x1 x2 x3 ls κ) :=
  effW rfl (wd [12,1,4,1,28,1,1,1,8,1] [2,3,4] [2] 748 (dg 23 0x467ad30c323faf1ba6bc10977b8a5a7165d8c0f0270dfdc484ecc30343eff93e3e9b0188855fe606d03275642fccf3960c3116c7ed48b35072bbf684742a6bef8d4957f9df0c6b50451b31b14a06042358662b34ee8b03e853ea10fdba180e264f9edc8eda04bad88cfbff6e815b5e77086f7df1b6aa7e5ddadb028e6f88ff1cbb85c2894c61fdd6d4509cb0ced128500347400fa7e304b3e26237ab4e61b9580735d4643f30c9cea12cecf275492502df585ffde42d6d6668968f1d392ef05f2d6aa54dabe4db53f2cf9bf73a046e9ff0cc1a11ef8e7794f1fda526b569c48c827b422285bc10b4d1f561384b515f8df4516f96def1f9ac9) (fun e _ A G => [p1 (len .A acc ad x0 [x1, x2, x3, (A 2)]) [2,3,5,6,7,8,11], p1 (pc true acc ad x0 [x1, x2, x3, (A 2)] (by first | assumption | omega)) [2], .q (fun f => si0 acc ad (A 10) (A 9) (A 2) [x0, x1, x2, x3] (f.ne (.tail _ (.tail _ (.head _))) 9 rfl)) [2,19,18] [2] [] [], p1 (str .A acc ad x0 [x1, x2, x3]) [2,3,5,6,7,8], p2 (e_append w ln (e.k 4) ls (.str kS33) (by first | assumption | (simp only [List.length_append, List.length_cons, List.length_nil]; omega))) [4] [4], .q (fun f => si1 acc ad (A 12) (A 8) x0 [x1, x2, x3] [(A 2)] (f.ne (.tail _ (.tail _ (.head _))) 8 rfl)) [2,21,17] [2] [] []]) (T := (.v (.v (.v (.v (.o (.v (.v (.v (.v .nil)))))))))) (ut := fun e => [none, none, some ((e.τ 4).u 0)])) (by kernel_rfl)
noncomputable def aco5H (mk md acc ad ln x0 x1 x2 x3 x4 : Nat) (ls : List VV) (κ : TK) : Hook := ⟨true, .call (.ref 98) [.ref mk, .str uE, .str uSemi], (some ksAC), [(mk, .vw ⟨.ref 101, (some md), .plain⟩), (md, .vw ⟨.type "dict", none, (.dict [(u_maxlen, .int 5), (u_cws, .str uSp), (u_cwsl, .int 1), (u_split, .str uSemi), (u_lines, .ref ln), (u_cur, .ref acc)])⟩), (acc, .vw ⟨.ref 185, (some ad), (.seq [.ref x0, .ref x1, .ref x2, .ref x3, .ref x4])⟩), (ad, .vw ⟨.type "dict", none, (.dict [(u_init, .int 0)])⟩), (ln, .ob (OV.mk' (listV ls) κ)), (x0, .vw ⟨.type "tuple", none, (.seq [.str uE, .str uSemi])⟩), (x1, .vw ⟨.type "tuple", none, (.seq [.str uE, .str uSemi])⟩), (x2, .vw ⟨.type "tuple", none, (.seq [.str uE, .str uSemi])⟩), (x3, .vw ⟨.type "tuple", none, (.seq [.str uE, .str uSemi])⟩), (x4, .vw ⟨.type "tuple", none, (.seq [.str uE, .str uSemi])⟩)], fun na => .ret (.none), fun na => [(acc, ⟨.ref 185, (some ad), (.seq [.ref (na 0)])⟩), (ad, ⟨.type "dict", none, (.dict [(u_init, .int 0)])⟩), (ln, (listV (ls ++ [.str kS34])))], fun na => [⟨.type "tuple", none, (.seq [.str uE, .str uSemi])⟩], [], fun na => []⟩
theorem aco5_e (w : World) (mk md acc ad ln x0 x1 x2 x3 x4 : Nat) (ls : List VV) (κ : TK) (hls : ls.length ≤ 1000) (hacc : 317 ≤ acc) : Eff w (aco5H mk md acc ad ln x0 x1 x2 x3 x4 ls κ) :=
  effW rfl (wd [12,1,4,1,28,1,1,1,8,1] [2,3,4] [2] 748 (dg 24 0x21e1016cd3d3095bb3b99ca7f0ecff2fe117cd643e3a4ed3d828683e9d69ceec3aa5ffc6a8c3bfbf0070b9f1e65bcea93e039e275af95762c61a10c25b387d729dee540cbb07f9bb591707640c7d321e3333e10ce02725b5e3ad761e15908549933665425db9831ec94742a0a6361b23dea077835ba7f5d2f220ef2478e7a9cc5b866ab5c6fb3ca0f5cb8040f0663a9880e0fbffb5ff573e5419b8abd585379f754edf255fe6183bdfa2de93505059d3ec6d85040018ddddd9867c58a5fd82ccc79f828effecfac8cea0d4b2de1e09ca6ac44cd2b8735158b770d908835d54de45c6db12a5fd359d422c3805709019383c33cd8850d344d6a0216319) (fun e _ A G => [p1 (len .A acc ad x0 [x1, x2, x3, x4, (A 2)]) [2,3,5,6,7,8,9,12], p1 (pc true acc ad x0 [x1, x2, x3, x4, (A 2)] (by first | assumption | omega)) [2], .q (fun f => si0 acc ad (A 10) (A 9) (A 2) [x0, x1, x2, x3, x4] (f.ne (.tail _ (.tail _ (.head _))) 9 rfl)) [2,20,19] [2] [] [], p1 (str .A acc ad x0 [x1, x2, x3, x4]) [2,3,5,6,7,8,9], p2 (e_append w ln (e.k 4) ls (.str kS34) (by first | assumption | (simp only [List.length_append, List.length_cons, List.length_nil]; omega))) [4] [4], .q (fun f => si1 acc ad (A 12) (A 8) x0 [x1, x2, x3, x4] [(A 2)] (f.ne (.tail _ (.tail _ (.head _))) 8 rfl)) [2,22,18] [2] [] []]) (T := (.v (.v (.v (.v (.o (.v (.v (.v (.v (.v .nil))))))))))) (ut := fun e => [none, none, some ((e.τ 4).u 0)])) (by kernel_rfl)
noncomputable def aco6H (mk md acc ad ln x0 x1 x2 x3 x4 x5 : Nat) (ls : List VV) (κ : TK) : Hook := ⟨true, .call (.ref 98) [.ref mk, .str uE, .str uSemi], (some ksAC), [(mk, .vw ⟨.ref 101, (some md), .plain⟩), (md, .vw ⟨.type "dict", none, (.dict [(u_maxlen, .int 6), (u_cws, .str uSp), (u_cwsl, .int 1), (u_split, .str uSemi), (u_lines, .ref ln), (u_cur, .ref acc)])⟩), (acc, .vw ⟨.ref 185, (some ad), (.seq [.ref x0, .ref x1, .ref x2, .ref x3, .ref x4, .ref x5])⟩), (ad, .vw ⟨.type "dict", none, (.dict [(u_init, .int 0)])⟩), (ln, .ob (OV.mk' (listV ls) κ)), (x0, .vw ⟨.type "tuple", none, (.seq [.str uE, .str uSemi])⟩), (x1, .vw ⟨.type "tuple", none, (.seq [.str uE, .str uSemi])⟩), (x2, .vw ⟨.type "tuple", none, (.seq [.str uE, .str uSemi])⟩), (x3, .vw ⟨.type "tuple", none, (.seq [.str uE, .str uSemi])⟩), (x4, .vw ⟨.type "tuple", none, (.seq [.str uE, .str uSemi])⟩), (x5, .vw ⟨.type "tuple", none, (.seq [.str uE, .str uSemi])⟩)], fun na => .ret (.none), fun na => [(acc, ⟨.ref 185, (some ad), (.seq [.ref (na 0)])⟩), (ad, ⟨.type "dict", none, (.dict [(u_init, .int 0)])⟩), (ln, (listV (ls ++ [.str kS35])))], fun na => [⟨.type "tuple", none, (.seq [.str uE, .str uSemi])⟩], [], fun na => []⟩
theorem aco6_e (w : World) (mk md acc ad ln x0 x1 x2 x3 x4 x5 : Nat) (ls : List VV) (κ : TK) (hls : ls.length ≤ 1000) (hacc : 317 ≤ acc) : Eff w (aco6H mk md acc ad ln x0 x1 x2 x3 x4 x5 ls κ) :=
  effW rfl (wd [12,1,4,1,28,1,1,1,8,1] [2,3,4] [2] 748 (dg 25 0x7996e1baf603df8b1437f691b79f2bc12a2c8d63f503e2f057b379ede35265667de412d46642eddef5eedb3b447e72682b02cea03cd36bd284da8b73ae7f18ffd20c7f303d8f0d5858cce9b95e6ceb0d49b4e60cbbc99857a114a4b7df7145a65b4d379600e9df7a27cad82b7a327eb138cb3fe1a5e6390cff095c32d3b524423a2b5f066456de12e9441a8f04892d3149495d66c606a491c127d7888d0fd918873ab881fc53318bf48d0cadee269bcfe267c4b76eb15882106f8f38712c111065790f891d871b9117bff0cddaa094cea99b1df555a513c4cab82e68a8a6f434fadef73ec321ec242c704275dfd324fe1213827b105e527483865dd775ef71) (fun e _ A G => [p1 (len .A acc ad x0 [x1, x2, x3, x4, x5, (A 2)]) [2,3,5,6,7,8,9,10,13], p1 (pc true acc ad x0 [x1, x2, x3, x4, x5, (A 2)] (by first | assumption | omega)) [2], .q (fun f => si0 acc ad (A 10) (A 9) (A 2) [x0, x1, x2, x3, x4, x5] (f.ne (.tail _ (.tail _ (.head _))) 9 rfl)) [2,21,20] [2] [] [], p1 (str .A acc ad x0 [x1, x2, x3, x4, x5]) [2,3,5,6,7,8,9,10], p2 (e_append w ln (e.k 4) ls (.str kS35) (by first | assumption | (simp only [List.length_append, List.length_cons, List.length_nil]; omega))) [4] [4], .q (fun f => si1 acc ad (A 12) (A 8) x0 [x1, x2, x3, x4, x5] [(A 2)] (f.ne (.tail _ (.tail _ (.head _))) 8 rfl)) [2,23,19] [2] [] []]) (T := (.v (.v (.v (.v (.o (.v (.v (.v (.v (.v (.v .nil)))))))))))) (ut := fun e => [none, none, some ((e.τ 4).u 0)])) (by kernel_rfl)
noncomputable def ksNL : List Kd := [.func, .func, .fo, .func, .bi "claim.caller"]
noncomputable def nl1H (mk md acc ad ln x0 : Nat) (room : Int) (ls : List VV) (κ : TK) : Hook := ⟨true, .call (.ref 63) [.ref mk], (some ksNL), [(mk, .vw ⟨.ref 101, (some md), .plain⟩), (md, .vw ⟨.type "dict", none, (.dict [(u_maxlen, .int room), (u_cws, .str uSp), (u_cwsl, .int 1), (u_split, .str uSemi), (u_lines, .ref ln), (u_cur, .ref acc)])⟩), (acc, .vw ⟨.ref 185, (some ad), (.seq [.ref x0])⟩), (ad, .vw ⟨.type "dict", none, (.dict [(u_init, .int 0)])⟩), (ln, .ob (OV.mk' (listV ls) κ)), (x0, .vw ⟨.type "tuple", none, (.seq [.str uE, .str uSemi])⟩)], fun na => .ret (.none), fun na => [(acc, ⟨.ref 185, (some ad), (.seq [])⟩), (ad, ⟨.type "dict", none, (.dict [(u_init, .int 0)])⟩), (ln, (listV (ls ++ [.str uSemi])))], fun na => [], [], fun na => []⟩
theorem nl1_e (w : World) (mk md acc ad ln x0 : Nat) (room : Int) (ls : List VV) (κ : TK) (hls : ls.length ≤ 1000) (hacc : 317 ≤ acc) : Eff w (nl1H mk md acc ad ln x0 room ls κ) :=
  effW rfl (wd [4,1,8,5,8,1,4,1,1,1,1,12,1] [2,3,4] [] 569 (dg 16 0x1555141114141411114f0111414fffff1ffff1111154111141114111431221112111128010111141131221112111128116666312211121111281101111411e11011114111141114e1514411141411111114e1ee111154111141114111431221112111128101111413122111211112811444141cc54111411141114c1cccccc11a11ab0781151441111114141111111431221112111128197971797888015411114111411143122111211112818811) (fun e _ A G => [p2 (pop1_e w acc ad x0 hacc) [2,3] [2], p1 (col_e w x0) [5], p1 (len .N acc ad (A 5) []) [2,3,11], p1 (len .I acc ad (A 5) []) [2,3,11], p1 (str .I acc ad (A 5) []) [2,3,11], p1 (str .N acc ad (A 5) []) [2,3,11], p2 (e_append w ln (e.k 4) ls (.str uSemi) (by first | assumption | (simp only [List.length_append, List.length_cons, List.length_nil]; omega))) [4] [4], .q (fun f => si1 acc ad (A 9) (A 8) (A 5) [] [] (f.ne (.tail _ (.tail _ (.head _))) 8 rfl)) [2,15,14] [2] [] []]) (T := (.v (.v (.v (.v (.o (.v .nil))))))) (ut := fun e => [none, none, some ((e.τ 6).u 0)])) (by kernel_rfl)
noncomputable def nl2H (mk md acc ad ln x0 x1 : Nat) (room : Int) (ls : List VV) (κ : TK) : Hook := ⟨true, .call (.ref 63) [.ref mk], (some ksNL), [(mk, .vw ⟨.ref 101, (some md), .plain⟩), (md, .vw ⟨.type "dict", none, (.dict [(u_maxlen, .int room), (u_cws, .str uSp), (u_cwsl, .int 1), (u_split, .str uSemi), (u_lines, .ref ln), (u_cur, .ref acc)])⟩), (acc, .vw ⟨.ref 185, (some ad), (.seq [.ref x0, .ref x1])⟩), (ad, .vw ⟨.type "dict", none, (.dict [(u_init, .int 0)])⟩), (ln, .ob (OV.mk' (listV ls) κ)), (x0, .vw ⟨.type "tuple", none, (.seq [.str uE, .str uSemi])⟩), (x1, .vw ⟨.type "tuple", none, (.seq [.str uE, .str uSemi])⟩)], fun na => .ret (.none), fun na => [(acc, ⟨.ref 185, (some ad), (.seq [])⟩), (ad, ⟨.type "dict", none, (.dict [(u_init, .int 0)])⟩), (ln, (listV (ls ++ [.str kS31])))], fun na => [], [], fun na => []⟩
theorem nl2_e (w : World) (mk md acc ad ln x0 x1 : Nat) (room : Int) (ls : List VV) (κ : TK) (hls : ls.length ≤ 1000) (hacc : 317 ≤ acc) : Eff w (nl2H mk md acc ad ln x0 x1 room ls κ) :=
  effW rfl (wd [4,1,8,5,8,1,4,1,1,1,1,12,1] [2,3,4] [] 569 (dg 17 0x71b8202f88e62527a8fb0479343fb98e89d8fa961873ccf6455fbcdf436b86c6c5c2a249c6457d87531d4a420ee410f8726efb5e29afcbc9d84255257d8c050db8425fbff39b9ac9355086469d386d430967f37347fe15fcb405180e7ba0f6783d8fa6333e965857fc31739443d65a555855e443f0ac78428af8779d1c86fd4f6b7d97f3e8c5007934be6f90a512bfb9e37fd54dc4d58f4686c688f3ff7f1f88bf5482bbc3cdaa814777db6ff48c88f69a15) (fun e _ A G => [p2 (pop2_e w acc ad x0 x1 hacc) [2,3] [2], p1 (col_e w x1) [6], p1 (len .N acc ad x0 [(A 5)]) [2,3,5,12], p1 (len .I acc ad x0 [(A 5)]) [2,3,5,12], p1 (str .I acc ad x0 [(A 5)]) [2,3,5,12], p1 (str .N acc ad x0 [(A 5)]) [2,3,5,12], p2 (e_append w ln (e.k 4) ls (.str kS31) (by first | assumption | (simp only [List.length_append, List.length_cons, List.length_nil]; omega))) [4] [4], .q (fun f => si1 acc ad (A 9) (A 8) x0 [(A 5)] [] (f.ne (.tail _ (.tail _ (.head _))) 8 rfl)) [2,16,15] [2] [] []]) (T := (.v (.v (.v (.v (.o (.v (.v .nil)))))))) (ut := fun e => [none, none, some ((e.τ 6).u 0)])) (by kernel_rfl)
noncomputable def nl3H (mk md acc ad ln x0 x1 x2 : Nat) (room : Int) (ls : List VV) (κ : TK) : Hook := ⟨true, .call (.ref 63) [.ref mk], (some ksNL), [(mk, .vw ⟨.ref 101, (some md), .plain⟩), (md, .vw ⟨.type "dict", none, (.dict [(u_maxlen, .int room), (u_cws, .str uSp), (u_cwsl, .int 1), (u_split, .str uSemi), (u_lines, .ref ln), (u_cur, .ref acc)])⟩), (acc, .vw ⟨.ref 185, (some ad), (.seq [.ref x0, .ref x1, .ref x2])⟩), (ad, .vw ⟨.type "dict", none, (.dict [(u_init, .int 0)])⟩), (ln, .ob (OV.mk' (listV ls) κ)), (x0, .vw ⟨.type "tuple", none, (.seq [.str uE, .str uSemi])⟩), (x1, .vw ⟨.type "tuple", none, (.seq [.str uE, .str uSemi])⟩), (x2, .vw ⟨.type "tuple", none, (.seq [.str uE, .str uSemi])⟩)], fun na => .ret (.none), fun na => [(acc, ⟨.ref 185, (some ad), (.seq [])⟩), (ad, ⟨.type "dict", none, (.dict [(u_init, .int 0)])⟩), (ln, (listV (ls ++ [.str kS32])))], fun na => [], [], fun na => []⟩
theorem nl3_e (w : World) (mk md acc ad ln x0 x1 x2 : Nat) (room : Int) (ls : List VV) (κ : TK) (hls : ls.length ≤ 1000) (hacc : 317 ≤ acc) : Eff w (nl3H mk md acc ad ln x0 x1 x2 room ls κ) :=
  effW rfl (wd [4,1,8,5,8,1,4,1,1,1,1,12,1] [2,3,4] [] 569 (dg 18 0xb5c077dbb8a0592740cf925fdbb3ed1a155403dfe9868bc3d549437e790a92774b0fe2542deff345835d62887e2a1aa9987014db5465d9ef14f18de0dbc66cf325b26260b4a6fa3aea80fd55d4ad09a35b4e8b922269d19db60e43fc921fd4e75b05dd68bad4c273c7b5f0550043a31236b928140a47881e299175b93ffa7b80f626317d3969688720099fe29ca90dc05206ba1af8a7dcb7b25caff0ed4635c14681def6aa4f601c1b5c9f43fb32de4e64e7918a9db) (fun e _ A G => [p2 (pop3_e w acc ad x0 x1 x2 hacc) [2,3] [2], p1 (col_e w x2) [7], p1 (len .N acc ad x0 [x1, (A 5)]) [2,3,5,6,13], p1 (len .I acc ad x0 [x1, (A 5)]) [2,3,5,6,13], p1 (str .I acc ad x0 [x1, (A 5)]) [2,3,5,6,13], p1 (str .N acc ad x0 [x1, (A 5)]) [2,3,5,6,13], p2 (e_append w ln (e.k 4) ls (.str kS32) (by first | assumption | (simp only [List.length_append, List.length_cons, List.length_nil]; omega))) [4] [4], .q (fun f => si1 acc ad (A 9) (A 8) x0 [x1, (A 5)] [] (f.ne (.tail _ (.tail _ (.head _))) 8 rfl)) [2,17,16] [2] [] []]) (T := (.v (.v (.v (.v (.o (.v (.v (.v .nil))))))))) (ut := fun e => [none, none, some ((e.τ 6).u 0)])) (by kernel_rfl)
noncomputable def nl4H (mk md acc ad ln x0 x1 x2 x3 : Nat) (room : Int) (ls : List VV) (κ : TK) : Hook := ⟨true, .call (.ref 63) [.ref mk], (some ksNL), [(mk, .vw ⟨.ref 101, (some md), .plain⟩), (md, .vw ⟨.type "dict", none, (.dict [(u_maxlen, .int room), (u_cws, .str uSp), (u_cwsl, .int 1), (u_split, .str uSemi), (u_lines, .ref ln), (u_cur, .ref acc)])⟩), (acc, .vw ⟨.ref 185, (some ad), (.seq [.ref x0, .ref x1, .ref x2, .ref x3])⟩), (ad, .vw ⟨.type "dict", none, (.dict [(u_init, .int 0)])⟩), (ln, .ob (OV.mk' (listV ls) κ)), (x0, .vw ⟨.type "tuple", none, (.seq [.str uE, .str uSemi])⟩), (x1, .vw ⟨.type "tuple", none, (.seq [.str uE, .str uSemi])⟩), (x2, .vw ⟨.type "tuple", none, (.seq [.str uE, .str uSemi])⟩), (x3, .vw ⟨.type "tuple", none, (.seq [.str uE, .str uSemi])⟩)], fun na => .ret (.none), fun na => [(acc, ⟨.ref 185, (some ad), (.seq [])⟩), (ad, ⟨.type "dict", none, (.dict [(u_init, .int 0)])⟩), (ln, (listV (ls ++ [.str kS33])))], fun na => [], [], fun na => []⟩
theorem nl4_e (w : World) (mk md acc ad ln x0 x1 x2 x3 : Nat) (room : Int) (ls : List VV) (κ : TK) (hls : ls.length ≤ 1000) (hacc : 317 ≤ acc) : Eff w (nl4H mk md acc ad ln x0 x1 x2 x3 room ls κ) :=
  effW rfl (wd [4,1,8,5,8,1,4,1,1,1,1,12,1] [2,3,4] [] 569 (dg 19 0x63351ad17e11e5a98fe4c1f8b124cc8cc3432ed357142c646fdbc645c7b40e103294d34bb37dad397900ab8db243f26c28668b25ad926711138fc24d78d21de86431a4789d5e2afe0c4063a36fd65e4c88c9ba1f54305ea6dff8663df6fe8c65b985c7deac1699461bee43bbb6901bdc103ab5a3a77b3e5ecb7af06a2015d157587f0fa47f5303be7a6f7f8bf4d27c0df62aadc0b986ae6df46652653ff3c111e00d917df9b11b101eedd081e70db0d325bf47e4e92ba15bd3) (fun e _ A G => [p2 (pop4_e w acc ad x0 x1 x2 x3 hacc) [2,3] [2], p1 (col_e w x3) [8], p1 (len .N acc ad x0 [x1, x2, (A 5)]) [2,3,5,6,7,14], p1 (len .I acc ad x0 [x1, x2, (A 5)]) [2,3,5,6,7,14], p1 (str .I acc ad x0 [x1, x2, (A 5)]) [2,3,5,6,7,14], p1 (str .N acc ad x0 [x1, x2, (A 5)]) [2,3,5,6,7,14], p2 (e_append w ln (e.k 4) ls (.str kS33) (by first | assumption | (simp only [List.length_append, List.length_cons, List.length_nil]; omega))) [4] [4], .q (fun f => si1 acc ad (A 9) (A 8) x0 [x1, x2, (A 5)] [] (f.ne (.tail _ (.tail _ (.head _))) 8 rfl)) [2,18,17] [2] [] []]) (T := (.v (.v (.v (.v (.o (.v (.v (.v (.v .nil)))))))))) (ut := fun e => [none, none, some ((e.τ 6).u 0)])) (by kernel_rfl)
noncomputable def nl5H (mk md acc ad ln x0 x1 x2 x3 x4 : Nat) (room : Int) (ls : List VV) (κ : TK) : Hook := ⟨true, .call (.ref 63) [.ref mk], (some ksNL), [(mk, .vw ⟨.ref 101, (some md), .plain⟩), (md, .vw ⟨.type "dict", none, (.dict [(u_maxlen, .int room), (u_cws, .str uSp), (u_cwsl, .int 1), (u_split, .str uSemi), (u_lines, .ref ln), (u_cur, .ref acc)])⟩), (acc, .vw ⟨.ref 185, (some ad), (.seq [.ref x0, .ref x1, .ref x2, .ref x3, .ref x4])⟩), (ad, .vw ⟨.type "dict", none, (.dict [(u_init, .int 0)])⟩), (ln, .ob (OV.mk' (listV ls) κ)), (x0, .vw ⟨.type "tuple", none, (.seq [.str uE, .str uSemi])⟩), (x1, .vw ⟨.type "tuple", none, (.seq [.str uE, .str uSemi])⟩), (x2, .vw ⟨.type "tuple", none, (.seq [.str uE, .str uSemi])⟩), (x3, .vw ⟨.type "tuple", none, (.seq [.str uE, .str uSemi])⟩), (x4, .vw ⟨.type "tuple", none, (.seq [.str uE, .str uSemi])⟩)], fun na => .ret (.none), fun na => [(acc, ⟨.ref 185, (some ad), (.seq [])⟩), (ad, ⟨.type "dict", none, (.dict [(u_init, .int 0)])⟩), (ln, (listV (ls ++ [.str kS34])))], fun na => [], [], fun na => []⟩
theorem nl5_e (w : World) (mk md acc ad ln x0 x1 x2 x3 x4 : Nat) (room : Int) (ls : List VV) (κ : TK) (hls : ls.length ≤ 1000) (hacc : 317 ≤ acc) : Eff w (nl5H mk md acc ad ln x0 x1 x2 x3 x4 room ls κ) :=
  effW rfl (wd [4,1,8,5,8,1,4,1,1,1,1,12,1] [2,3,4] [] 569 (dg 20 0x14a614edd52b52723f87ce8584df1924aacfae5c0c9ed6ef02b8598bc52539748a7688a6aacc4e6c4bc03003d4a2d76fc073244b2e72320560cfcd192faa961990327b7a22bad62cbeeb768109aaab1102b1424d0f92ec077b48c5f0f67e308f4de3250ff2eebe33c884e900fe86f0a87e6059e94f3c2100300611753889ff15516a78a471b330737ec3ae50f6df45291e50597572da11fb221d88082578f0e93184d18d2b67c1911a44df06852191c62bcc35d4e6b31c398d4bf4ad5) (fun e _ A G => [p2 (pop5_e w acc ad x0 x1 x2 x3 x4 hacc) [2,3] [2], p1 (col_e w x4) [9], p1 (len .N acc ad x0 [x1, x2, x3, (A 5)]) [2,3,5,6,7,8,15], p1 (len .I acc ad x0 [x1, x2, x3, (A 5)]) [2,3,5,6,7,8,15], p1 (str .I acc ad x0 [x1, x2, x3, (A 5)]) [2,3,5,6,7,8,15], p1 (str .N acc ad x0 [x1, x2, x3, (A 5)]) [2,3,5,6,7,8,15], p2 (e_append w ln (e.k 4) ls (.str kS34) (by first | assumption | (simp only [List.length_append, List.length_cons, List.length_nil]; omega))) [4] [4], .q (fun f => si1 acc ad (A 9) (A 8) x0 [x1, x2, x3, (A 5)] [] (f.ne (.tail _ (.tail _ (.head _))) 8 rfl)) [2,19,18] [2] [] []]) (T := (.v (.v (.v (.v (.o (.v (.v (.v (.v (.v .nil))))))))))) (ut := fun e => [none, none, some ((e.τ 6).u 0)])) (by kernel_rfl)
noncomputable def nl6H (mk md acc ad ln x0 x1 x2 x3 x4 x5 : Nat) (room : Int) (ls : List VV) (κ : TK) : Hook := ⟨true, .call (.ref 63) [.ref mk], (some ksNL), [(mk, .vw ⟨.ref 101, (some md), .plain⟩), (md, .vw ⟨.type "dict", none, (.dict [(u_maxlen, .int room), (u_cws, .str uSp), (u_cwsl, .int 1), (u_split, .str uSemi), (u_lines, .ref ln), (u_cur, .ref acc)])⟩), (acc, .vw ⟨.ref 185, (some ad), (.seq [.ref x0, .ref x1, .ref x2, .ref x3, .ref x4, .ref x5])⟩), (ad, .vw ⟨.type "dict", none, (.dict [(u_init, .int 0)])⟩), (ln, .ob (OV.mk' (listV ls) κ)), (x0, .vw ⟨.type "tuple", none, (.seq [.str uE, .str uSemi])⟩), (x1, .vw ⟨.type "tuple", none, (.seq [.str uE, .str uSemi])⟩), (x2, .vw ⟨.type "tuple", none, (.seq [.str uE, .str uSemi])⟩), (x3, .vw ⟨.type "tuple", none, (.seq [.str uE, .str uSemi])⟩), (x4, .vw ⟨.type "tuple", none, (.seq [.str uE, .str uSemi])⟩), (x5, .vw ⟨.type "tuple", none, (.seq [.str uE, .str uSemi])⟩)], fun na => .ret (.none), fun na => [(acc, ⟨.ref 185, (some ad), (.seq [])⟩), (ad, ⟨.type "dict", none, (.dict [(u_init, .int 0)])⟩), (ln, (listV (ls ++ [.str kS35])))], fun na => [], [], fun na => []⟩
theorem nl6_e (w : World) (mk md acc ad ln x0 x1 x2 x3 x4 x5 : Nat) (room : Int) (ls : List VV) (κ : TK) (hls : ls.length ≤ 1000) (hacc : 317 ≤ acc) : Eff w (nl6H mk md acc ad ln x0 x1 x2 x3 x4 x5 room ls κ) :=
  effW rfl (wd [4,1,8,5,8,1,4,1,1,1,1,12,1] [2,3,4] [] 569 (dg 21 0x1cceb13bd96674f5cdd813cf2b3ac1aef62047f8e6999da5fe9a35242bac628f90129d95614a2a6fcd04bacb4cba50f6cac74ec9e8376755f5e256b92aa7643834d6e52e65c976da5c5b81e886633fa267762804429262368f8e25bc3ce38bcaa47595ac9144cdb86d7520a8439494dc468ff74122e82e3ef8eac17eefb847633f4b7c8f9a3e1ae43132657a354d84817eb637fffa972894f5f349e5b337cf411fd011518b4d1d4bae039aa3bc4291c7e2bfed75600521c37e653c5736b4e59) (fun e _ A G => [p2 (pop6_e w acc ad x0 x1 x2 x3 x4 x5 hacc) [2,3] [2], p1 (col_e w x5) [10], p1 (len .N acc ad x0 [x1, x2, x3, x4, (A 5)]) [2,3,5,6,7,8,9,16], p1 (len .I acc ad x0 [x1, x2, x3, x4, (A 5)]) [2,3,5,6,7,8,9,16], p1 (str .I acc ad x0 [x1, x2, x3, x4, (A 5)]) [2,3,5,6,7,8,9,16], p1 (str .N acc ad x0 [x1, x2, x3, x4, (A 5)]) [2,3,5,6,7,8,9,16], p2 (e_append w ln (e.k 4) ls (.str kS35) (by first | assumption | (simp only [List.length_append, List.length_cons, List.length_nil]; omega))) [4] [4], .q (fun f => si1 acc ad (A 9) (A 8) x0 [x1, x2, x3, x4, (A 5)] [] (f.ne (.tail _ (.tail _ (.head _))) 8 rfl)) [2,20,19] [2] [] []]) (T := (.v (.v (.v (.v (.o (.v (.v (.v (.v (.v (.v .nil)))))))))))) (ut := fun e => [none, none, some ((e.τ 6).u 0)])) (by kernel_rfl)
noncomputable def crE (fr cr cl : Nat) : Env := envF (stm 16) fr [(kS57, cl), (kS3, cr)] (strOf "_law_closed_rows.<locals>.") 292 291
noncomputable def crW (fr cr cl : Nat) : Code := whileC (nthS (inner (sub 16 3)) 0) (crE fr cr cl)
noncomputable def ksWT : List Kd := [.fo, .func, .fo, .func, .bi "claim.caller"]
noncomputable def wtn0H (fr cr cl mk md acc ad ln : Nat) (laid words closed step place room : Int) : Hook := ⟨true, .code (crW fr cr cl), (some ksWT), [(fr, .vw ⟨.type "frame", none, (.dict [(kS0, .int step), (kS1, .int place), (kS11, .ref mk), (kS12, .int closed), (kS15, .int words)])⟩), (cl, .vw ⟨.type "cell", none, (.cell (some (.int laid)))⟩), (mk, .vw ⟨.ref 101, (some md), .plain⟩), (md, .vw ⟨.type "dict", none, (.dict [(u_maxlen, .int room), (u_cws, .str uSp), (u_cwsl, .int 1), (u_split, .str uSemi), (u_lines, .ref ln), (u_cur, .ref acc)])⟩), (acc, .vw ⟨.ref 185, (some ad), (.seq [])⟩), (ad, .vw ⟨.type "dict", none, (.dict [(u_init, .int 0)])⟩)], fun na => .next, fun na => [(cl, ⟨.type "cell", none, (.cell (some (.int (laid + 1))))⟩), (acc, ⟨.ref 185, (some ad), (.seq [.ref (na 0)])⟩)], fun na => [⟨.type "tuple", none, (.seq [.str uE, .str uSemi])⟩], [], fun na => []⟩
theorem wtn0_e (w : World) (fr cr cl mk md acc ad ln : Nat) (laid words closed step place room : Int) (h : decide (laid < words) = true) (hr : decide (room < 1) = false) : Turn w (wtn0H fr cr cl mk md acc ad ln laid words closed step place room) (crW fr cr cl) :=
  turnW rfl (wd [1,5] [1,4] [0] 46 (dg 16 0x13313015411114111411142023) (fun e _ A G => [p0 (e_lt' w ‹decide (laid < words) = true›), p2 (acN mk md acc ad ln room [] (by first | assumption | decide)) [2,3,4,5] [4]]) (T := (.v (.v (.v (.v (.v (.v .nil)))))))) (by kernel_rfl)
noncomputable def wtn1H (fr cr cl mk md acc ad ln x0 : Nat) (laid words closed step place room : Int) : Hook := ⟨true, .code (crW fr cr cl), (some ksWT), [(fr, .vw ⟨.type "frame", none, (.dict [(kS0, .int step), (kS1, .int place), (kS11, .ref mk), (kS12, .int closed), (kS15, .int words)])⟩), (cl, .vw ⟨.type "cell", none, (.cell (some (.int laid)))⟩), (mk, .vw ⟨.ref 101, (some md), .plain⟩), (md, .vw ⟨.type "dict", none, (.dict [(u_maxlen, .int room), (u_cws, .str uSp), (u_cwsl, .int 1), (u_split, .str uSemi), (u_lines, .ref ln), (u_cur, .ref acc)])⟩), (acc, .vw ⟨.ref 185, (some ad), (.seq [.ref x0])⟩), (ad, .vw ⟨.type "dict", none, (.dict [(u_init, .int 0)])⟩), (x0, .vw ⟨.type "tuple", none, (.seq [.str uE, .str uSemi])⟩)], fun na => .next, fun na => [(cl, ⟨.type "cell", none, (.cell (some (.int (laid + 1))))⟩), (acc, ⟨.ref 185, (some ad), (.seq [.ref x0, .ref (na 0)])⟩)], fun na => [⟨.type "tuple", none, (.seq [.str uE, .str uSemi])⟩], [], fun na => []⟩
theorem wtn1_e (w : World) (fr cr cl mk md acc ad ln x0 : Nat) (laid words closed step place room : Int) (h : decide (laid < words) = true) (hr : decide (room < 2) = false) : Turn w (wtn1H fr cr cl mk md acc ad ln x0 laid words closed step place room) (crW fr cr cl) :=
  turnW rfl (wd [1,5] [1,4] [0] 46 (dg 16 0x13313015411114111411142023) (fun e _ A G => [p0 (e_lt' w ‹decide (laid < words) = true›), p2 (acN mk md acc ad ln room [x0] (by first | assumption | decide)) [2,3,4,5,6] [4]]) (T := (.v (.v (.v (.v (.v (.v (.v .nil))))))))) (by kernel_rfl)
noncomputable def wtn2H (fr cr cl mk md acc ad ln x0 x1 : Nat) (laid words closed step place room : Int) : Hook := ⟨true, .code (crW fr cr cl), (some ksWT), [(fr, .vw ⟨.type "frame", none, (.dict [(kS0, .int step), (kS1, .int place), (kS11, .ref mk), (kS12, .int closed), (kS15, .int words)])⟩), (cl, .vw ⟨.type "cell", none, (.cell (some (.int laid)))⟩), (mk, .vw ⟨.ref 101, (some md), .plain⟩), (md, .vw ⟨.type "dict", none, (.dict [(u_maxlen, .int room), (u_cws, .str uSp), (u_cwsl, .int 1), (u_split, .str uSemi), (u_lines, .ref ln), (u_cur, .ref acc)])⟩), (acc, .vw ⟨.ref 185, (some ad), (.seq [.ref x0, .ref x1])⟩), (ad, .vw ⟨.type "dict", none, (.dict [(u_init, .int 0)])⟩), (x0, .vw ⟨.type "tuple", none, (.seq [.str uE, .str uSemi])⟩), (x1, .vw ⟨.type "tuple", none, (.seq [.str uE, .str uSemi])⟩)], fun na => .next, fun na => [(cl, ⟨.type "cell", none, (.cell (some (.int (laid + 1))))⟩), (acc, ⟨.ref 185, (some ad), (.seq [.ref x0, .ref x1, .ref (na 0)])⟩)], fun na => [⟨.type "tuple", none, (.seq [.str uE, .str uSemi])⟩], [], fun na => []⟩
theorem wtn2_e (w : World) (fr cr cl mk md acc ad ln x0 x1 : Nat) (laid words closed step place room : Int) (h : decide (laid < words) = true) (hr : decide (room < 3) = false) : Turn w (wtn2H fr cr cl mk md acc ad ln x0 x1 laid words closed step place room) (crW fr cr cl) :=
  turnW rfl (wd [1,5] [1,4] [0] 46 (dg 16 0x13313015411114111411142023) (fun e _ A G => [p0 (e_lt' w ‹decide (laid < words) = true›), p2 (acN mk md acc ad ln room [x0, x1] (by first | assumption | decide)) [2,3,4,5,6,7] [4]]) (T := (.v (.v (.v (.v (.v (.v (.v (.v .nil)))))))))) (by kernel_rfl)
noncomputable def wtn3H (fr cr cl mk md acc ad ln x0 x1 x2 : Nat) (laid words closed step place room : Int) : Hook := ⟨true, .code (crW fr cr cl), (some ksWT), [(fr, .vw ⟨.type "frame", none, (.dict [(kS0, .int step), (kS1, .int place), (kS11, .ref mk), (kS12, .int closed), (kS15, .int words)])⟩), (cl, .vw ⟨.type "cell", none, (.cell (some (.int laid)))⟩), (mk, .vw ⟨.ref 101, (some md), .plain⟩), (md, .vw ⟨.type "dict", none, (.dict [(u_maxlen, .int room), (u_cws, .str uSp), (u_cwsl, .int 1), (u_split, .str uSemi), (u_lines, .ref ln), (u_cur, .ref acc)])⟩), (acc, .vw ⟨.ref 185, (some ad), (.seq [.ref x0, .ref x1, .ref x2])⟩), (ad, .vw ⟨.type "dict", none, (.dict [(u_init, .int 0)])⟩), (x0, .vw ⟨.type "tuple", none, (.seq [.str uE, .str uSemi])⟩), (x1, .vw ⟨.type "tuple", none, (.seq [.str uE, .str uSemi])⟩), (x2, .vw ⟨.type "tuple", none, (.seq [.str uE, .str uSemi])⟩)], fun na => .next, fun na => [(cl, ⟨.type "cell", none, (.cell (some (.int (laid + 1))))⟩), (acc, ⟨.ref 185, (some ad), (.seq [.ref x0, .ref x1, .ref x2, .ref (na 0)])⟩)], fun na => [⟨.type "tuple", none, (.seq [.str uE, .str uSemi])⟩], [], fun na => []⟩
theorem wtn3_e (w : World) (fr cr cl mk md acc ad ln x0 x1 x2 : Nat) (laid words closed step place room : Int) (h : decide (laid < words) = true) (hr : decide (room < 4) = false) : Turn w (wtn3H fr cr cl mk md acc ad ln x0 x1 x2 laid words closed step place room) (crW fr cr cl) :=
  turnW rfl (wd [1,5] [1,4] [0] 46 (dg 16 0x13313015411114111411142023) (fun e _ A G => [p0 (e_lt' w ‹decide (laid < words) = true›), p2 (acN mk md acc ad ln room [x0, x1, x2] (by first | assumption | decide)) [2,3,4,5,6,7,8] [4]]) (T := (.v (.v (.v (.v (.v (.v (.v (.v (.v .nil))))))))))) (by kernel_rfl)
noncomputable def wtn4H (fr cr cl mk md acc ad ln x0 x1 x2 x3 : Nat) (laid words closed step place room : Int) : Hook := ⟨true, .code (crW fr cr cl), (some ksWT), [(fr, .vw ⟨.type "frame", none, (.dict [(kS0, .int step), (kS1, .int place), (kS11, .ref mk), (kS12, .int closed), (kS15, .int words)])⟩), (cl, .vw ⟨.type "cell", none, (.cell (some (.int laid)))⟩), (mk, .vw ⟨.ref 101, (some md), .plain⟩), (md, .vw ⟨.type "dict", none, (.dict [(u_maxlen, .int room), (u_cws, .str uSp), (u_cwsl, .int 1), (u_split, .str uSemi), (u_lines, .ref ln), (u_cur, .ref acc)])⟩), (acc, .vw ⟨.ref 185, (some ad), (.seq [.ref x0, .ref x1, .ref x2, .ref x3])⟩), (ad, .vw ⟨.type "dict", none, (.dict [(u_init, .int 0)])⟩), (x0, .vw ⟨.type "tuple", none, (.seq [.str uE, .str uSemi])⟩), (x1, .vw ⟨.type "tuple", none, (.seq [.str uE, .str uSemi])⟩), (x2, .vw ⟨.type "tuple", none, (.seq [.str uE, .str uSemi])⟩), (x3, .vw ⟨.type "tuple", none, (.seq [.str uE, .str uSemi])⟩)], fun na => .next, fun na => [(cl, ⟨.type "cell", none, (.cell (some (.int (laid + 1))))⟩), (acc, ⟨.ref 185, (some ad), (.seq [.ref x0, .ref x1, .ref x2, .ref x3, .ref (na 0)])⟩)], fun na => [⟨.type "tuple", none, (.seq [.str uE, .str uSemi])⟩], [], fun na => []⟩
theorem wtn4_e (w : World) (fr cr cl mk md acc ad ln x0 x1 x2 x3 : Nat) (laid words closed step place room : Int) (h : decide (laid < words) = true) (hr : decide (room < 5) = false) : Turn w (wtn4H fr cr cl mk md acc ad ln x0 x1 x2 x3 laid words closed step place room) (crW fr cr cl) :=
  turnW rfl (wd [1,5] [1,4] [0] 46 (dg 16 0x13313015411114111411142023) (fun e _ A G => [p0 (e_lt' w ‹decide (laid < words) = true›), p2 (acN mk md acc ad ln room [x0, x1, x2, x3] (by first | assumption | decide)) [2,3,4,5,6,7,8,9] [4]]) (T := (.v (.v (.v (.v (.v (.v (.v (.v (.v (.v .nil)))))))))))) (by kernel_rfl)
noncomputable def wtn5H (fr cr cl mk md acc ad ln x0 x1 x2 x3 x4 : Nat) (laid words closed step place room : Int) : Hook := ⟨true, .code (crW fr cr cl), (some ksWT), [(fr, .vw ⟨.type "frame", none, (.dict [(kS0, .int step), (kS1, .int place), (kS11, .ref mk), (kS12, .int closed), (kS15, .int words)])⟩), (cl, .vw ⟨.type "cell", none, (.cell (some (.int laid)))⟩), (mk, .vw ⟨.ref 101, (some md), .plain⟩), (md, .vw ⟨.type "dict", none, (.dict [(u_maxlen, .int room), (u_cws, .str uSp), (u_cwsl, .int 1), (u_split, .str uSemi), (u_lines, .ref ln), (u_cur, .ref acc)])⟩), (acc, .vw ⟨.ref 185, (some ad), (.seq [.ref x0, .ref x1, .ref x2, .ref x3, .ref x4])⟩), (ad, .vw ⟨.type "dict", none, (.dict [(u_init, .int 0)])⟩), (x0, .vw ⟨.type "tuple", none, (.seq [.str uE, .str uSemi])⟩), (x1, .vw ⟨.type "tuple", none, (.seq [.str uE, .str uSemi])⟩), (x2, .vw ⟨.type "tuple", none, (.seq [.str uE, .str uSemi])⟩), (x3, .vw ⟨.type "tuple", none, (.seq [.str uE, .str uSemi])⟩), (x4, .vw ⟨.type "tuple", none, (.seq [.str uE, .str uSemi])⟩)], fun na => .next, fun na => [(cl, ⟨.type "cell", none, (.cell (some (.int (laid + 1))))⟩), (acc, ⟨.ref 185, (some ad), (.seq [.ref x0, .ref x1, .ref x2, .ref x3, .ref x4, .ref (na 0)])⟩)], fun na => [⟨.type "tuple", none, (.seq [.str uE, .str uSemi])⟩], [], fun na => []⟩
theorem wtn5_e (w : World) (fr cr cl mk md acc ad ln x0 x1 x2 x3 x4 : Nat) (laid words closed step place room : Int) (h : decide (laid < words) = true) (hr : decide (room < 6) = false) : Turn w (wtn5H fr cr cl mk md acc ad ln x0 x1 x2 x3 x4 laid words closed step place room) (crW fr cr cl) :=
  turnW rfl (wd [1,5] [1,4] [0] 46 (dg 16 0x13313015411114111411142023) (fun e _ A G => [p0 (e_lt' w ‹decide (laid < words) = true›), p2 (acN mk md acc ad ln room [x0, x1, x2, x3, x4] (by first | assumption | decide)) [2,3,4,5,6,7,8,9,10] [4]]) (T := (.v (.v (.v (.v (.v (.v (.v (.v (.v (.v (.v .nil))))))))))))) (by kernel_rfl)
noncomputable def wto1H (fr cr cl mk md acc ad ln x0 : Nat) (laid words closed step place : Int) (ls : List VV) (κ : TK) : Hook := ⟨true, .code (crW fr cr cl), (some ksWT), [(fr, .vw ⟨.type "frame", none, (.dict [(kS0, .int step), (kS1, .int place), (kS11, .ref mk), (kS12, .int closed), (kS15, .int words)])⟩), (cl, .vw ⟨.type "cell", none, (.cell (some (.int laid)))⟩), (mk, .vw ⟨.ref 101, (some md), .plain⟩), (md, .vw ⟨.type "dict", none, (.dict [(u_maxlen, .int 1), (u_cws, .str uSp), (u_cwsl, .int 1), (u_split, .str uSemi), (u_lines, .ref ln), (u_cur, .ref acc)])⟩), (acc, .vw ⟨.ref 185, (some ad), (.seq [.ref x0])⟩), (ad, .vw ⟨.type "dict", none, (.dict [(u_init, .int 0)])⟩), (ln, .ob (OV.mk' (listV ls) κ)), (x0, .vw ⟨.type "tuple", none, (.seq [.str uE, .str uSemi])⟩)], fun na => .next, fun na => [(cl, ⟨.type "cell", none, (.cell (some (.int (laid + 1))))⟩), (acc, ⟨.ref 185, (some ad), (.seq [.ref (na 0)])⟩), (ad, ⟨.type "dict", none, (.dict [(u_init, .int 0)])⟩), (ln, (listV (ls ++ [.str kS40])))], fun na => [⟨.type "tuple", none, (.seq [.str uE, .str uSemi])⟩], [], fun na => []⟩
theorem wto1_e (w : World) (fr cr cl mk md acc ad ln x0 : Nat) (laid words closed step place : Int) (ls : List VV) (κ : TK) (h : decide (laid < words) = true) (hls : ls.length ≤ 1000) (hacc : 317 ≤ acc) : Turn w (wto1H fr cr cl mk md acc ad ln x0 laid words closed step place ls κ) (crW fr cr cl) :=
  turnW rfl (wd [1,5] [1,4,5,6] [0] 46 (dg 16 0x13313015411114111411142023) (fun e _ A G => [p0 (e_lt' w ‹decide (laid < words) = true›), p2 (aco1_e w mk md acc ad ln x0 ls (e.k 6) (by assumption) (by assumption)) [2,3,4,5,6,7] [4,5,6]]) (T := (.v (.v (.v (.v (.v (.v (.o (.v .nil))))))))) (ut := fun e => [none, none, none, some ((e.τ 1).u 2)])) (by kernel_rfl)
noncomputable def wto2H (fr cr cl mk md acc ad ln x0 x1 : Nat) (laid words closed step place : Int) (ls : List VV) (κ : TK) : Hook := ⟨true, .code (crW fr cr cl), (some ksWT), [(fr, .vw ⟨.type "frame", none, (.dict [(kS0, .int step), (kS1, .int place), (kS11, .ref mk), (kS12, .int closed), (kS15, .int words)])⟩), (cl, .vw ⟨.type "cell", none, (.cell (some (.int laid)))⟩), (mk, .vw ⟨.ref 101, (some md), .plain⟩), (md, .vw ⟨.type "dict", none, (.dict [(u_maxlen, .int 2), (u_cws, .str uSp), (u_cwsl, .int 1), (u_split, .str uSemi), (u_lines, .ref ln), (u_cur, .ref acc)])⟩), (acc, .vw ⟨.ref 185, (some ad), (.seq [.ref x0, .ref x1])⟩), (ad, .vw ⟨.type "dict", none, (.dict [(u_init, .int 0)])⟩), (ln, .ob (OV.mk' (listV ls) κ)), (x0, .vw ⟨.type "tuple", none, (.seq [.str uE, .str uSemi])⟩), (x1, .vw ⟨.type "tuple", none, (.seq [.str uE, .str uSemi])⟩)], fun na => .next, fun na => [(cl, ⟨.type "cell", none, (.cell (some (.int (laid + 1))))⟩), (acc, ⟨.ref 185, (some ad), (.seq [.ref (na 0)])⟩), (ad, ⟨.type "dict", none, (.dict [(u_init, .int 0)])⟩), (ln, (listV (ls ++ [.str kS31])))], fun na => [⟨.type "tuple", none, (.seq [.str uE, .str uSemi])⟩], [], fun na => []⟩
theorem wto2_e (w : World) (fr cr cl mk md acc ad ln x0 x1 : Nat) (laid words closed step place : Int) (ls : List VV) (κ : TK) (h : decide (laid < words) = true) (hls : ls.length ≤ 1000) (hacc : 317 ≤ acc) : Turn w (wto2H fr cr cl mk md acc ad ln x0 x1 laid words closed step place ls κ) (crW fr cr cl) :=
  turnW rfl (wd [1,5] [1,4,5,6] [0] 46 (dg 16 0x13313015411114111411142023) (fun e _ A G => [p0 (e_lt' w ‹decide (laid < words) = true›), p2 (aco2_e w mk md acc ad ln x0 x1 ls (e.k 6) (by assumption) (by assumption)) [2,3,4,5,6,7,8] [4,5,6]]) (T := (.v (.v (.v (.v (.v (.v (.o (.v (.v .nil)))))))))) (ut := fun e => [none, none, none, some ((e.τ 1).u 2)])) (by kernel_rfl)
noncomputable def wto3H (fr cr cl mk md acc ad ln x0 x1 x2 : Nat) (laid words closed step place : Int) (ls : List VV) (κ : TK) : Hook := ⟨true, .code (crW fr cr cl), (some ksWT), [(fr, .vw ⟨.type "frame", none, (.dict [(kS0, .int step), (kS1, .int place), (kS11, .ref mk), (kS12, .int closed), (kS15, .int words)])⟩), (cl, .vw ⟨.type "cell", none, (.cell (some (.int laid)))⟩), (mk, .vw ⟨.ref 101, (some md), .plain⟩), (md, .vw ⟨.type "dict", none, (.dict [(u_maxlen, .int 3), (u_cws, .str uSp), (u_cwsl, .int 1), (u_split, .str uSemi), (u_lines, .ref ln), (u_cur, .ref acc)])⟩), (acc, .vw ⟨.ref 185, (some ad), (.seq [.ref x0, .ref x1, .ref x2])⟩), (ad, .vw ⟨.type "dict", none, (.dict [(u_init, .int 0)])⟩), (ln, .ob (OV.mk' (listV ls) κ)), (x0, .vw ⟨.type "tuple", none, (.seq [.str uE, .str uSemi])⟩), (x1, .vw ⟨.type "tuple", none, (.seq [.str uE, .str uSemi])⟩), (x2, .vw ⟨.type "tuple", none, (.seq [.str uE, .str uSemi])⟩)], fun na => .next, fun na => [(cl, ⟨.type "cell", none, (.cell (some (.int (laid + 1))))⟩), (acc, ⟨.ref 185, (some ad), (.seq [.ref (na 0)])⟩), (ad, ⟨.type "dict", none, (.dict [(u_init, .int 0)])⟩), (ln, (listV (ls ++ [.str kS32])))], fun na => [⟨.type "tuple", none, (.seq [.str uE, .str uSemi])⟩], [], fun na => []⟩
theorem wto3_e (w : World) (fr cr cl mk md acc ad ln x0 x1 x2 : Nat) (laid words closed step place : Int) (ls : List VV) (κ : TK) (h : decide (laid < words) = true) (hls : ls.length ≤ 1000) (hacc : 317 ≤ acc) : Turn w (wto3H fr cr cl mk md acc ad ln x0 x1 x2 laid words closed step place ls κ) (crW fr cr cl) :=
  turnW rfl (wd [1,5] [1,4,5,6] [0] 46 (dg 16 0x13313015411114111411142023) (fun e _ A G => [p0 (e_lt' w ‹decide (laid < words) = true›), p2 (aco3_e w mk md acc ad ln x0 x1 x2 ls (e.k 6) (by assumption) (by assumption)) [2,3,4,5,6,7,8,9] [4,5,6]]) (T := (.v (.v (.v (.v (.v (.v (.o (.v (.v (.v .nil))))))))))) (ut := fun e => [none, none, none, some ((e.τ 1).u 2)])) (by kernel_rfl)
noncomputable def wto4H (fr cr cl mk md acc ad ln x0 x1 x2 x3 : Nat) (laid words closed step place : Int) (ls : List VV) (κ : TK) : Hook := ⟨true, .code (crW fr cr cl), (some ksWT), [(fr, .vw ⟨.type "frame", none, (.dict [(kS0, .int step), (kS1, .int place), (kS11, .ref mk), (kS12, .int closed), (kS15, .int words)])⟩), (cl, .vw ⟨.type "cell", none, (.cell (some (.int laid)))⟩), (mk, .vw ⟨.ref 101, (some md), .plain⟩), (md, .vw ⟨.type "dict", none, (.dict [(u_maxlen, .int 4), (u_cws, .str uSp), (u_cwsl, .int 1), (u_split, .str uSemi), (u_lines, .ref ln), (u_cur, .ref acc)])⟩), (acc, .vw ⟨.ref 185, (some ad), (.seq [.ref x0, .ref x1, .ref x2, .ref x3])⟩), (ad, .vw ⟨.type "dict", none, (.dict [(u_init, .int 0)])⟩), (ln, .ob (OV.mk' (listV ls) κ)), (x0, .vw ⟨.type "tuple", none, (.seq [.str uE, .str uSemi])⟩), (x1, .vw ⟨.type "tuple", none, (.seq [.str uE, .str uSemi])⟩), (x2, .vw ⟨.type "tuple", none, (.seq [.str uE, .str uSemi])⟩), (x3, .vw ⟨.type "tuple", none, (.seq [.str uE, .str uSemi])⟩)], fun na => .next, fun na => [(cl, ⟨.type "cell", none, (.cell (some (.int (laid + 1))))⟩), (acc, ⟨.ref 185, (some ad), (.seq [.ref (na 0)])⟩), (ad, ⟨.type "dict", none, (.dict [(u_init, .int 0)])⟩), (ln, (listV (ls ++ [.str kS33])))], fun na => [⟨.type "tuple", none, (.seq [.str uE, .str uSemi])⟩], [], fun na => []⟩
theorem wto4_e (w : World) (fr cr cl mk md acc ad ln x0 x1 x2 x3 : Nat) (laid words closed step place : Int) (ls : List VV) (κ : TK) (h : decide (laid < words) = true) (hls : ls.length ≤ 1000) (hacc : 317 ≤ acc) : Turn w (wto4H fr cr cl mk md acc ad ln x0 x1 x2 x3 laid words closed step place ls κ) (crW fr cr cl) :=
  turnW rfl (wd [1,5] [1,4,5,6] [0] 46 (dg 16 0x13313015411114111411142023) (fun e _ A G => [p0 (e_lt' w ‹decide (laid < words) = true›), p2 (aco4_e w mk md acc ad ln x0 x1 x2 x3 ls (e.k 6) (by assumption) (by assumption)) [2,3,4,5,6,7,8,9,10] [4,5,6]]) (T := (.v (.v (.v (.v (.v (.v (.o (.v (.v (.v (.v .nil)))))))))))) (ut := fun e => [none, none, none, some ((e.τ 1).u 2)])) (by kernel_rfl)
noncomputable def wto5H (fr cr cl mk md acc ad ln x0 x1 x2 x3 x4 : Nat) (laid words closed step place : Int) (ls : List VV) (κ : TK) : Hook := ⟨true, .code (crW fr cr cl), (some ksWT), [(fr, .vw ⟨.type "frame", none, (.dict [(kS0, .int step), (kS1, .int place), (kS11, .ref mk), (kS12, .int closed), (kS15, .int words)])⟩), (cl, .vw ⟨.type "cell", none, (.cell (some (.int laid)))⟩), (mk, .vw ⟨.ref 101, (some md), .plain⟩), (md, .vw ⟨.type "dict", none, (.dict [(u_maxlen, .int 5), (u_cws, .str uSp), (u_cwsl, .int 1), (u_split, .str uSemi), (u_lines, .ref ln), (u_cur, .ref acc)])⟩), (acc, .vw ⟨.ref 185, (some ad), (.seq [.ref x0, .ref x1, .ref x2, .ref x3, .ref x4])⟩), (ad, .vw ⟨.type "dict", none, (.dict [(u_init, .int 0)])⟩), (ln, .ob (OV.mk' (listV ls) κ)), (x0, .vw ⟨.type "tuple", none, (.seq [.str uE, .str uSemi])⟩), (x1, .vw ⟨.type "tuple", none, (.seq [.str uE, .str uSemi])⟩), (x2, .vw ⟨.type "tuple", none, (.seq [.str uE, .str uSemi])⟩), (x3, .vw ⟨.type "tuple", none, (.seq [.str uE, .str uSemi])⟩), (x4, .vw ⟨.type "tuple", none, (.seq [.str uE, .str uSemi])⟩)], fun na => .next, fun na => [(cl, ⟨.type "cell", none, (.cell (some (.int (laid + 1))))⟩), (acc, ⟨.ref 185, (some ad), (.seq [.ref (na 0)])⟩), (ad, ⟨.type "dict", none, (.dict [(u_init, .int 0)])⟩), (ln, (listV (ls ++ [.str kS34])))], fun na => [⟨.type "tuple", none, (.seq [.str uE, .str uSemi])⟩], [], fun na => []⟩
theorem wto5_e (w : World) (fr cr cl mk md acc ad ln x0 x1 x2 x3 x4 : Nat) (laid words closed step place : Int) (ls : List VV) (κ : TK) (h : decide (laid < words) = true) (hls : ls.length ≤ 1000) (hacc : 317 ≤ acc) : Turn w (wto5H fr cr cl mk md acc ad ln x0 x1 x2 x3 x4 laid words closed step place ls κ) (crW fr cr cl) :=
  turnW rfl (wd [1,5] [1,4,5,6] [0] 46 (dg 16 0x13313015411114111411142023) (fun e _ A G => [p0 (e_lt' w ‹decide (laid < words) = true›), p2 (aco5_e w mk md acc ad ln x0 x1 x2 x3 x4 ls (e.k 6) (by assumption) (by assumption)) [2,3,4,5,6,7,8,9,10,11] [4,5,6]]) (T := (.v (.v (.v (.v (.v (.v (.o (.v (.v (.v (.v (.v .nil))))))))))))) (ut := fun e => [none, none, none, some ((e.τ 1).u 2)])) (by kernel_rfl)
noncomputable def wto6H (fr cr cl mk md acc ad ln x0 x1 x2 x3 x4 x5 : Nat) (laid words closed step place : Int) (ls : List VV) (κ : TK) : Hook := ⟨true, .code (crW fr cr cl), (some ksWT), [(fr, .vw ⟨.type "frame", none, (.dict [(kS0, .int step), (kS1, .int place), (kS11, .ref mk), (kS12, .int closed), (kS15, .int words)])⟩), (cl, .vw ⟨.type "cell", none, (.cell (some (.int laid)))⟩), (mk, .vw ⟨.ref 101, (some md), .plain⟩), (md, .vw ⟨.type "dict", none, (.dict [(u_maxlen, .int 6), (u_cws, .str uSp), (u_cwsl, .int 1), (u_split, .str uSemi), (u_lines, .ref ln), (u_cur, .ref acc)])⟩), (acc, .vw ⟨.ref 185, (some ad), (.seq [.ref x0, .ref x1, .ref x2, .ref x3, .ref x4, .ref x5])⟩), (ad, .vw ⟨.type "dict", none, (.dict [(u_init, .int 0)])⟩), (ln, .ob (OV.mk' (listV ls) κ)), (x0, .vw ⟨.type "tuple", none, (.seq [.str uE, .str uSemi])⟩), (x1, .vw ⟨.type "tuple", none, (.seq [.str uE, .str uSemi])⟩), (x2, .vw ⟨.type "tuple", none, (.seq [.str uE, .str uSemi])⟩), (x3, .vw ⟨.type "tuple", none, (.seq [.str uE, .str uSemi])⟩), (x4, .vw ⟨.type "tuple", none, (.seq [.str uE, .str uSemi])⟩), (x5, .vw ⟨.type "tuple", none, (.seq [.str uE, .str uSemi])⟩)], fun na => .next, fun na => [(cl, ⟨.type "cell", none, (.cell (some (.int (laid + 1))))⟩), (acc, ⟨.ref 185, (some ad), (.seq [.ref (na 0)])⟩), (ad, ⟨.type "dict", none, (.dict [(u_init, .int 0)])⟩), (ln, (listV (ls ++ [.str kS35])))], fun na => [⟨.type "tuple", none, (.seq [.str uE, .str uSemi])⟩], [], fun na => []⟩
theorem wto6_e (w : World) (fr cr cl mk md acc ad ln x0 x1 x2 x3 x4 x5 : Nat) (laid words closed step place : Int) (ls : List VV) (κ : TK) (h : decide (laid < words) = true) (hls : ls.length ≤ 1000) (hacc : 317 ≤ acc) : Turn w (wto6H fr cr cl mk md acc ad ln x0 x1 x2 x3 x4 x5 laid words closed step place ls κ) (crW fr cr cl) :=
  turnW rfl (wd [1,5] [1,4,5,6] [0] 46 (dg 16 0x13313015411114111411142023) (fun e _ A G => [p0 (e_lt' w ‹decide (laid < words) = true›), p2 (aco6_e w mk md acc ad ln x0 x1 x2 x3 x4 x5 ls (e.k 6) (by assumption) (by assumption)) [2,3,4,5,6,7,8,9,10,11,12] [4,5,6]]) (T := (.v (.v (.v (.v (.v (.v (.o (.v (.v (.v (.v (.v (.v .nil)))))))))))))) (ut := fun e => [none, none, none, some ((e.τ 1).u 2)])) (by kernel_rfl)
noncomputable def wteH (fr cr cl mk : Nat) (laid words closed step place : Int) : Hook := ⟨false, .code (crW fr cr cl), none, [(fr, .vw ⟨.type "frame", none, (.dict [(kS0, .int step), (kS1, .int place), (kS11, .ref mk), (kS12, .int closed), (kS15, .int words)])⟩), (cl, .vw ⟨.type "cell", none, (.cell (some (.int laid)))⟩)], fun na => .next, fun na => [], fun na => [], [], fun na => []⟩
theorem wte_e (w : World) (fr cr cl mk : Nat) (laid words closed step place : Int) (h : decide (laid < words) = false) : Eff w (wteH fr cr cl mk laid words closed step place) :=
  effW rfl (wd [1] [] [] 7 (dg 16 0x1023) (fun e _ A G => [p0 (e_lt' w ‹decide (laid < words) = false›)]) (T := (.v (.v .nil)))) (by kernel_rfl)
noncomputable def crFrV (mk : Nat) (step place closed words : Int) : OV := frmV [(kS0, .int step), (kS1, .int place), (kS11, .ref mk), (kS12, .int closed), (kS15, .int words)]
noncomputable def cellI (i : Int) : OV := ⟨.type "cell", none, .cell (some (.int i))⟩
structure CA where
  fr : Nat
  cr : Nat
  cl : Nat
  mq : Nat
  md : Nat
  acc : Nat
  ad : Nat
  ln : Nat
  step : Int
  place : Int
  room : Int
noncomputable def items (ys : List Nat) : List (Nat × OV) := ys.map fun y => (y, itemV)
noncomputable def mkL (a : CA) (laid : Int) (ls : List VV) (ys : List Nat) : List (Nat × OV) := (a.cl, cellI laid) :: (a.mq, mkrV a.md) :: (a.md, mdV a.room a.ln a.acc) :: (a.acc, accV a.ad (ys.map .ref)) :: (a.ad, adV) :: (a.ln, listV ls) :: items ys
noncomputable def LW (a : CA) (closed words laid : Int) (ls : List VV) (ys : List Nat) : List (Nat × OV) := (a.fr, crFrV a.mq a.step a.place closed words) :: mkL a laid ls ys
noncomputable def wnN (a : CA) (closed words laid : Int) (ys : List Nat) : List (Nat × OV) := (a.fr, crFrV a.mq a.step a.place closed words) :: (a.cl, cellI laid) :: (a.mq, mkrV a.md) :: (a.md, mdV a.room a.ln a.acc) :: (a.acc, accV a.ad (ys.map .ref)) :: (a.ad, adV) :: items ys
noncomputable def wnH (a : CA) (closed words laid : Int) (ys : List Nat) : Hook := ⟨true, .code (crW a.fr a.cr a.cl), some ksWT, vws (wnN a closed words laid ys), fun _ => .next, fun na => [(a.cl, cellI (laid + 1)), (a.acc, accV a.ad ((ys ++ [na 0]).map .ref))], fun _ => [itemV], [], fun _ => []⟩
theorem wn_turn (w : World) (a : CA) (closed words laid : Int) (ys : List Nat) (hk : ys.length ≤ 5) (h : laid < words) (hr : (ys.length : Int) < a.room) : Turn w (wnH a closed words laid ys) (crW a.fr a.cr a.cl) := by
  have h' := decide_eq_true h
  match ys, hk, hr with
  | [], _, hr => exact wtn0_e w a.fr a.cr a.cl a.mq a.md a.acc a.ad a.ln laid words closed a.step a.place a.room h' (decide_eq_false (by simp at hr ⊢; omega))
  | [x0], _, hr => exact wtn1_e w a.fr a.cr a.cl a.mq a.md a.acc a.ad a.ln x0 laid words closed a.step a.place a.room h' (decide_eq_false (by simp at hr ⊢; omega))
  | [x0, x1], _, hr => exact wtn2_e w a.fr a.cr a.cl a.mq a.md a.acc a.ad a.ln x0 x1 laid words closed a.step a.place a.room h' (decide_eq_false (by simp at hr ⊢; omega))
  | [x0, x1, x2], _, hr => exact wtn3_e w a.fr a.cr a.cl a.mq a.md a.acc a.ad a.ln x0 x1 x2 laid words closed a.step a.place a.room h' (decide_eq_false (by simp at hr ⊢; omega))
  | [x0, x1, x2, x3], _, hr => exact wtn4_e w a.fr a.cr a.cl a.mq a.md a.acc a.ad a.ln x0 x1 x2 x3 laid words closed a.step a.place a.room h' (decide_eq_false (by simp at hr ⊢; omega))
  | [x0, x1, x2, x3, x4], _, hr => exact wtn5_e w a.fr a.cr a.cl a.mq a.md a.acc a.ad a.ln x0 x1 x2 x3 x4 laid words closed a.step a.place a.room h' (decide_eq_false (by simp at hr ⊢; omega))
  | _ :: _ :: _ :: _ :: _ :: _ :: l, hk, _ => exact absurd hk (by simp)
noncomputable def woN (a : CA) (closed words laid : Int) (ls : List VV) (κ : TK) (ys : List Nat) : List (Nat × SV) := (a.fr, .vw (crFrV a.mq a.step a.place closed words)) :: (a.cl, .vw (cellI laid)) :: (a.mq, .vw (mkrV a.md)) :: (a.md, .vw (mdV (ys.length : Nat) a.ln a.acc)) :: (a.acc, .vw (accV a.ad (ys.map .ref))) :: (a.ad, .vw adV) :: (a.ln, .ob (OV.mk' (listV ls) κ)) :: vws (items ys)
noncomputable def woH (a : CA) (closed words laid : Int) (ls : List VV) (κ : TK) (ys : List Nat) : Hook := ⟨true, .code (crW a.fr a.cr a.cl), some ksWT, woN a closed words laid ls κ ys, fun _ => .next, fun na => [(a.cl, cellI (laid + 1)), (a.acc, accV a.ad [.ref (na 0)]), (a.ad, adV), (a.ln, listV (ls ++ [.str (semis ys.length)]))], fun _ => [itemV], [], fun _ => []⟩
theorem wo_turn (w : World) (a : CA) (closed words laid : Int) (ls : List VV) (κ : TK) (ys : List Nat) (h1 : 1 ≤ ys.length) (hk : ys.length ≤ 6) (h : laid < words) (hls : ls.length ≤ 1000) (hacc : 317 ≤ a.acc) : Turn w (woH a closed words laid ls κ ys) (crW a.fr a.cr a.cl) := by
  have h' := decide_eq_true h
  match ys, h1, hk with
  | [x0], _, _ => exact wto1_e w a.fr a.cr a.cl a.mq a.md a.acc a.ad a.ln x0 laid words closed a.step a.place ls κ h' hls hacc
  | [x0, x1], _, _ => exact wto2_e w a.fr a.cr a.cl a.mq a.md a.acc a.ad a.ln x0 x1 laid words closed a.step a.place ls κ h' hls hacc
  | [x0, x1, x2], _, _ => exact wto3_e w a.fr a.cr a.cl a.mq a.md a.acc a.ad a.ln x0 x1 x2 laid words closed a.step a.place ls κ h' hls hacc
  | [x0, x1, x2, x3], _, _ => exact wto4_e w a.fr a.cr a.cl a.mq a.md a.acc a.ad a.ln x0 x1 x2 x3 laid words closed a.step a.place ls κ h' hls hacc
  | [x0, x1, x2, x3, x4], _, _ => exact wto5_e w a.fr a.cr a.cl a.mq a.md a.acc a.ad a.ln x0 x1 x2 x3 x4 laid words closed a.step a.place ls κ h' hls hacc
  | [x0, x1, x2, x3, x4, x5], _, _ => exact wto6_e w a.fr a.cr a.cl a.mq a.md a.acc a.ad a.ln x0 x1 x2 x3 x4 x5 laid words closed a.step a.place ls κ h' hls hacc
  | _ :: _ :: _ :: _ :: _ :: _ :: _ :: l, _, hk => exact absurd hk (by simp)
noncomputable def lsOf (r n : Nat) : List VV := List.replicate ((n - 1) / r) (.str (semis r))
noncomputable def kOf (r n : Nat) : Nat := n - r * ((n - 1) / r)
theorem kOf_div {r n : Nat} (h1 : 1 ≤ r) : ∃ q, (n - 1) / r = q ∧ r * q ≤ n ∧ n ≤ r * q + r := by
  refine ⟨_, rfl, ?_⟩
  have e := Nat.div_add_mod (n - 1) r
  have l := Nat.mod_lt (n - 1) h1
  generalize r * ((n - 1) / r) = p at e ⊢
  omega
theorem kOf_le {r n : Nat} (h1 : 1 ≤ r) : kOf r n ≤ r := by
  unfold kOf
  obtain ⟨q, e, _, _⟩ := kOf_div (n := n) h1
  rw [e]
  omega
theorem kOf_lt {r n : Nat} (h1 : 1 ≤ r) (h : kOf r n < r) : kOf r (n + 1) = kOf r n + 1 ∧ lsOf r (n + 1) = lsOf r n := by
  unfold kOf lsOf at *
  obtain ⟨q, e, l, _⟩ := kOf_div (n := n) h1
  rw [Nat.add_sub_cancel]
  rw [e] at h ⊢
  have z : n / r = q := by
    rw [show n = r * q + (n - r * q) by omega, Nat.mul_add_div h1, Nat.div_eq_of_lt h, Nat.add_zero]
  rw [z]
  exact ⟨by omega, rfl⟩
theorem kOf_eq {r n : Nat} (h1 : 1 ≤ r) (h : kOf r n = r) : kOf r (n + 1) = 1 ∧ lsOf r (n + 1) = lsOf r n ++ [.str (semis r)] := by
  unfold kOf lsOf at *
  obtain ⟨q, e, l, _⟩ := kOf_div (n := n) h1
  rw [Nat.add_sub_cancel]
  rw [e] at h ⊢
  have z : n / r = q + 1 := by
    rw [show n = r * q + (n - r * q) by omega, Nat.mul_add_div h1, h, Nat.div_self h1]
  rw [z, List.replicate_succ', Nat.mul_add]
  exact ⟨by omega, rfl⟩
theorem items_fst (ys : List Nat) : (items ys).map Prod.fst = ys := by unfold items; rw [List.map_map]; exact List.map_id _
theorem items_mem {ys : List Nat} {q : Nat × OV} (h : q ∈ items ys) : q.1 ∈ ys ∧ q = (q.1, itemV) := by
  unfold items at h
  obtain ⟨y, h1, rfl⟩ := List.mem_map.mp h
  exact ⟨h1, rfl⟩
theorem items_app (ys : List Nat) (y : Nat) : items (ys ++ [y]) = items ys ++ [(y, itemV)] := List.map_append
noncomputable def F7 (a : CA) (room closed words laid : Int) (ls : List VV) (ys : List Nat) : List (Nat × OV) := [(a.fr, crFrV a.mq a.step a.place closed words), (a.cl, cellI laid), (a.mq, mkrV a.md), (a.md, mdV room a.ln a.acc), (a.acc, accV a.ad (ys.map .ref)), (a.ad, adV), (a.ln, listV ls)]
theorem no_obs {is : List Nat} {P : Nat × Option Obj → Obj → Prop} : ∀ c ∈ at' is, ∀ o, c.2 = some o → P c o := fun c hc o e => (at_none is c hc o e).elim
theorem crw_go (w : World) (a : CA) (r : Nat) (hroom : a.room = (r : Nat)) (h1 : 1 ≤ r) (h6 : r ≤ 6) (hacc : 317 ≤ a.acc) (m : Nat) (hm : m ≤ 1000) (closed : Int) (base : List Frame) (hb : Bot base) (hs : Spine ksWT base) :
    ∀ (d n : Nat), n + d = m → ∀ (ys : List Nat) (s : Shared) (p : Pos), ys.length = kOf r n → Here w true (LW a closed (m : Nat) (n : Nat) (lsOf r n) ys) [] s →
    ∃ ys' s', Reach (Mo pw w) base s (den (crW a.fr a.cr a.cl)) (crW a.fr a.cr a.cl) p [] s' (.ret (.ok .next)) ∧ ys'.length = kOf r m ∧ Here w true (LW a closed (m : Nat) (m : Nat) (lsOf r m) ys') [] s' ∧ Rel true [a.cl, a.acc, a.ad, a.ln] [] s s' ∧ ∀ y ∈ ys', y ∈ ys ∨ s.heap.objs.size ≤ y := by
  intro d
  induction d with
  | zero =>
    intro n hn ys s p hy H
    obtain rfl : n = m := by omega
    have HF : Here w true (F7 a a.room closed (n : Nat) (n : Nat) (lsOf r n) ys ++ items ys) [] s := H
    obtain ⟨na, r', s', R, hr, Af⟩ := (wte_e w a.fr a.cr a.cl a.mq (n : Nat) (n : Nat) closed a.step a.place (decide_eq_false (Int.lt_irrefl _))).go p rfl ((HF.asksX hb hs (at' [0,1]) [] no_obs (.inr rfl)).none rfl)
    obtain ⟨t, rfl⟩ := rv_mk hr
    exact ⟨ys, s', R, hy, Af.hereX HF [] [(2,0), (2,1), (2,2), (2,3), (2,4), (2,5), (2,6)], (Rel.refl true _ _ s).within Af.rel an an (fun h => by cases h), fun y hy => .inl hy⟩
  | succ d ih =>
    intro n hn ys s p hy H
    have hlt : ((n : Nat) : Int) < (m : Nat) := by omega
    by_cases hk : kOf r n < r
    · obtain ⟨e1, e2⟩ := kOf_lt h1 hk
      have HF : Here w true (F7 a a.room closed (m : Nat) (n : Nat) (lsOf r n) ys ++ items ys) [] s := H
      obtain ⟨na, s1, ⟨p', G⟩, Af⟩ := (wn_turn w a closed (m : Nat) (n : Nat) ys (by omega) hlt (by omega)).go p rfl (HF.asksX hb hs (at' [0,1,2,3,4,5]) (items ys) no_obs (.inl rfl))
      have H1 : Here w true (F7 a a.room closed (m : Nat) ((n + 1 : Nat) : Nat) (lsOf r n) (ys ++ [na 0]) ++ (items ys ++ [(na 0, itemV)])) [] s1 := (Af.hereX HF [1,4] [(2,0), (0,0), (2,2), (2,3), (0,1), (2,5), (2,6), (1,0)]).perm (tri _ _ _)
      rw [← items_app, ← e2] at H1
      obtain ⟨ys', s', R, h3, H', R', hys⟩ := ih (n + 1) (by omega) (ys ++ [na 0]) s1 p' (by rw [List.length_append, e1, hy]; rfl) H1
      refine ⟨ys', s', G _ _ R, h3, H', ((Rel.refl true _ _ s).within Af.rel (ac (.inl (.head _)) (ac (.inl (.tail _ (.head _))) an)) an (fun _ => rfl)).trans R', fun y hy => ?_⟩
      rcases hys y hy with h | h
      · rcases List.mem_append.mp h with h | h
        · exact .inl h
        · rw [List.mem_singleton.mp h]
          exact .inr (Af.new 0 itemV rfl).1
      · exact .inr (Nat.le_trans Af.size h)
    · have hk : kOf r n = r := by have := kOf_le (n := n) h1; omega
      obtain ⟨e1, e2⟩ := kOf_eq h1 hk
      have hyr : ys.length = r := by omega
      have hroom' : a.room = (ys.length : Nat) := by rw [hroom, hyr]
      have HF : Here w true (F7 a a.room closed (m : Nat) (n : Nat) (lsOf r n) ys ++ items ys) [] s := H
      obtain ⟨κ, hκ⟩ := HF.obj (a := a.ln) (v := listV (lsOf r n)) (List.mem_append_left _ (.tail _ (.tail _ (.tail _ (.tail _ (.tail _ (.tail _ (.head _)))))))) rfl
      have hlen : (lsOf r n).length ≤ 1000 := by
        unfold lsOf
        rw [List.length_replicate]
        exact Nat.le_trans (Nat.div_le_self _ _) (by omega)
      rw [hroom'] at HF
      obtain ⟨na, s1, ⟨p', G⟩, Af⟩ := (wo_turn w a closed (m : Nat) (n : Nat) (lsOf r n) κ ys (by omega) (by omega) hlt hlen hacc).go p rfl (HF.asksX hb hs [(0, none), (1, none), (2, none), (3, none), (4, none), (5, none), (6, some _)] (items ys) (ac no_ob (ac no_ob (ac no_ob (ac no_ob (ac no_ob (ac no_ob (ac (the_ob hκ) an))))))) (.inl rfl))
      have H1 : Here w true (F7 a (ys.length : Nat) closed (m : Nat) ((n + 1 : Nat) : Nat) (lsOf r n ++ [.str (semis ys.length)]) [na 0] ++ items [na 0]) [] s1 := Af.hereI HF.left [1,4,5,6] [(2,0), (0,0), (2,2), (2,3), (0,1), (0,2), (0,3), (1,0)]
      rw [← hroom', hyr, ← e2] at H1
      obtain ⟨ys', s', R, h3, H', R', hys⟩ := ih (n + 1) (by omega) [na 0] s1 p' (by rw [e1]; rfl) H1
      refine ⟨ys', s', G _ _ R, h3, H', ((Rel.refl true _ _ s).within Af.rel (ac (.inl (.head _)) (ac (.inl (.tail _ (.head _))) (ac (.inl (.tail _ (.tail _ (.head _)))) (ac (.inl (.tail _ (.tail _ (.tail _ (.head _))))) an)))) an (fun _ => rfl)).trans R', fun y hy => ?_⟩
      rcases hys y hy with h | h
      · rw [List.mem_singleton.mp h]
        exact .inr (Af.new 0 itemV rfl).1
      · exact .inr (Nat.le_trans Af.size h)
theorem meets_reach' {w : World} {base : List Frame} {p : Pos} {s : Shared} {id : String} {b : Builtin} {args : Args} {F : PySem.Spec} {R : Result → Shared → Prop} (hb : Bot base)
    (hq : plainId id = true) (he : entryFor table id = some b) (hc : checkBuiltinCall id args = pure ()) (hm : Meets (b args) F) (hF : ∀ A, F A R s) :
    ∃ r s', Reach (Mo pw w) base s (den (.call (.builtin id) args)) (.call (.builtin id) args) p [] s' (.ret r) ∧ R r s' :=
  reach_of hb fun A => codeAny_call_builtin hq he (by rw [hc]; exact wpAny_pure (hm pw w A R s (hF A)))
theorem vvs3 {vs : List Value} {a b c : VV} (h : vvs vs = some [a, b, c]) : ∃ t u v, vs = [a.mk t, b.mk u, c.mk v] := by
  obtain ⟨k, rfl⟩ := vvs_mk h
  exact ⟨k 0, k 1, k 2, rfl⟩
theorem vvs4 {vs : List Value} {a b c d : VV} (h : vvs vs = some [a, b, c, d]) : ∃ t u v x, vs = [a.mk t, b.mk u, c.mk v, d.mk x] := by
  obtain ⟨k, rfl⟩ := vvs_mk h
  exact ⟨k 0, k 1, k 2, k 3, rfl⟩
theorem after_new {k : Hook} {s : Shared} {o : Obj} {v : OV} (hf : o.isFreed = false) (hv : ov o = some v) (hu : ∀ na, k.upd na = []) (hn : ∀ na, k.news na = [v]) (hg : ∀ na, k.gupd na = []) (ht : k.tabs = false) {t : Nat} (hst : s.toks ≤ t) :
    After k (fun _ => s.heap.objs.size) s { s with heap := s.heap.push o, toks := t } := by
  refine ⟨by rw [Heap.size_push]; exact Nat.le_succ _, fun b o' e _ _ => Heap.get?_push_of_some _ e, fun q hq => ?_, fun i q hq => ?_, fun i j hi hj _ => ?_, fun h => ?_, hst, Nat.le_refl _, fun g y e _ => e, fun q hq => ?_, fun h => h, rfl, rfl⟩
  · rw [hu] at hq; cases hq
  · rw [hn] at hq
    cases i with
    | zero => cases hq; exact ⟨Nat.le_refl _, o, Heap.get?_push_size _ hf, hv⟩
    | succ i => simp at hq
  · rw [hn] at hi hj
    simp only [List.length_cons, List.length_nil] at hi hj
    omega
  · rw [ht] at h; cases h
  · rw [hg] at hq; cases hq
noncomputable def rnewH (a b c : Int) : Hook := ⟨false, .call (.bi "range.__new__") [.type "range", .int a, .int b, .int c], none, [], fun na => .ret (.ref (na 0)), fun _ => [], fun _ => [objV "range" [.int a, .int b, .int c]], [], fun _ => []⟩
theorem e_rnew (w : World) (a b c : Int) (hc : c ≠ 0) (hr : Builtin.divisionGoesByPylong (b - a) c = false) : Eff w (rnewH a b c) := by
  intro base p s cc hcc hb _ _ _ hneed _ _ _ _
  obtain ⟨f, vs, rfl, hf, hv⟩ := hcc
  obtain rfl := vvf_bi hf
  obtain ⟨t, u, v, x, rfl⟩ := vvs4 hv
  obtain ⟨r, s', R, rfl, rfl⟩ := meets_reach' (w := w) (p := p) (s := s) (args := ⟨[.type "range", .int a u, .int b v, .int c x], []⟩) (R := fun r s' => r = .ok (.ret (.ref s.heap.objs.size)) ∧ s' = { s with heap := s.heap.push { cls := Value.type "range", data := Data.fields #[Value.int a u, Value.int b v, Value.int c x] }, toks := s.toks }) hb (by decide +kernel) PySem.F.entry_range_new (by kernel_rfl)
    (PySem.AutoRange.range___new___type_int_int_int_1 a b c u v x (by rw [isSubtype_type]; kernel_rfl) (by simpa using hc)) (fun A => ⟨hr, rfl, rfl⟩)
  exact ⟨fun _ => s.heap.objs.size, _, _, R, rfl, after_new rfl rfl (fun _ => rfl) (fun _ => rfl) (fun _ => rfl) rfl (Nat.le_refl _)⟩
theorem rnext_meets (it : Addr) (x left step : Int) (t u v : Tok) (hc0 : ¬left ≤ 0) :
    Meets (Builtin.«range_iterator.__next__» ⟨[.ref it], []⟩) (fun _ R s => s.heap.get? it = some { cls := .type "range_iterator", dict := none, data := .fields #[.int x t, .int left u, .int step v], slots := #[] } ∧ R (.ok (.ret (Value.int x s.toks))) { s with heap := (s.heap.update it (Obj.mapFields fun x_1 => x_1.setIfInBounds 0 (rawInt (x + step)))).update it (Obj.mapFields fun x => x.setIfInBounds 1 (rawInt (left - 1))), toks := s.toks + 1 }) :=
  .of_wp fun prog w A R s h => by obtain ⟨hp, g, d, tk, os⟩ := s; obtain ⟨hl, h⟩ := h; wp_walk; exact ⟨_, rfl, h⟩
noncomputable def smallR (a b c n : Int) : Bool := Builtin.Range.rangeFitsLong a && Builtin.Range.rangeFitsLong b && Builtin.Range.rangeFitsLong c && Builtin.Range.rangeFitsLong n && (n == 0 || if c > 0 then Builtin.Range.rangeFitsLong (b + (c - 1)) else Builtin.Range.rangeFitsLong (b + (c + 1)))
noncomputable def riterH (r : Nat) (a b c n : Int) : Hook := ⟨false, .call (.bi "range.__iter__") [.ref r], none, [(r, .vw (objV "range" [.int a, .int b, .int c]))], fun na => .ret (.ref (na 0)), fun _ => [], fun _ => [objV "range_iterator" [.int a, .int n, .int c]], [], fun _ => []⟩
theorem e_riter (w : World) (r : Nat) (a b c n : Int) (hn : Builtin.Range.rangeSize a b c = n) (hs : smallR a b c n = true) : Eff w (riterH r a b c n) := by
  intro base p s cc hcc hb _ _ _ hneed _ _ _ _
  obtain ⟨f, vs, rfl, hf, hv⟩ := hcc
  obtain rfl := vvf_bi hf
  obtain ⟨t, rfl⟩ := vvs1 hv
  obtain ⟨o, ho, hov⟩ := hneed _ (.head _)
  obtain ⟨κ, rfl⟩ := ov_mk hov rfl
  have ho : s.heap.get? r = some ⟨.type "range", none, .fields #[.int a (κ.t 0), .int b (κ.t 1), .int c (κ.t 2)], #[]⟩ := ho
  subst hn
  obtain ⟨rr, s', R, rfl, rfl⟩ := meets_reach (w := w) (p := p) (s := s) (self := .ref r) (rest := []) (R := fun rr s' => rr = .ok (.ret (.ref s.heap.objs.size)) ∧ s' = { s with heap := s.heap.push { cls := Value.type (if smallR a b c (Builtin.Range.rangeSize a b c) = true then "range_iterator" else "longrange_iterator"), data := Data.fields #[rawInt a, rawInt (Builtin.Range.rangeSize a b c), rawInt c] }, toks := s.toks }) hb PySem.F.slot_range_iter ⟨_, ho, rfl⟩ PySem.F.entry_range_iter (by unfold argsOk; kernel_rfl)
    (PySem.AutoRange.range___iter___range_1 r a b c (κ.t 0) (κ.t 1) (κ.t 2) (by unfold smallR at hs; simp [hs])) (fun A => ⟨ho, rfl, rfl⟩)
  rw [hs] at R
  refine ⟨fun _ => s.heap.objs.size, _, _, R, rfl, after_new rfl ?_ (fun _ => rfl) (fun _ => rfl) (fun _ => rfl) rfl (Nat.le_refl _)⟩
  rfl
noncomputable def ritV (x left c : Int) : OV := objV "range_iterator" [.int x, .int left, .int c]
noncomputable def rnextH (it : Nat) (x left c : Int) : Hook := ⟨false, .call (.bi "range_iterator.__next__") [.ref it], none, [(it, .vw (ritV x left c))], fun _ => .ret (.int x), fun _ => [(it, ritV (x + c) (left - 1) c)], fun _ => [], [], fun _ => []⟩
theorem e_rnext (w : World) (it : Nat) (x left c : Int) (h : 0 < left) : Eff w (rnextH it x left c) := by
  intro base p s cc hcc hb _ _ _ hneed _ _ _ _
  obtain ⟨f, vs, rfl, hf, hv⟩ := hcc
  obtain rfl := vvf_bi hf
  obtain ⟨t, rfl⟩ := vvs1 hv
  obtain ⟨o, ho, hov⟩ := hneed _ (.head _)
  obtain ⟨κ, rfl⟩ := ov_mk hov rfl
  have ho : s.heap.get? it = some ⟨.type "range_iterator", none, .fields #[.int x (κ.t 0), .int left (κ.t 1), .int c (κ.t 2)], #[]⟩ := ho
  obtain ⟨rr, s', R, rfl, rfl⟩ := meets_reach (w := w) (p := p) (s := s) (self := .ref it) (rest := []) (R := fun rr s' => rr = .ok (.ret (.int x s.toks)) ∧ s' = { s with heap := (s.heap.update it (Obj.mapFields fun x_1 => x_1.setIfInBounds 0 (rawInt (x + c)))).update it (Obj.mapFields fun x => x.setIfInBounds 1 (rawInt (left - 1))), toks := s.toks + 1 }) hb PySem.F.slot_range_iterator_next ⟨_, ho, rfl⟩ PySem.F.entry_range_iterator_next (by unfold argsOk; kernel_rfl)
    (rnext_meets it x left c _ _ _ (by omega)) (fun A => ⟨ho, rfl, rfl⟩)
  refine ⟨fun _ => 0, _, _, R, rfl, ?_⟩
  have h1 : (s.heap.update it (Obj.mapFields fun x_1 => x_1.setIfInBounds 0 (rawInt (x + c)))).get? it = some ⟨.type "range_iterator", none, .fields #[rawInt (x + c), .int left (κ.t 1), .int c (κ.t 2)], #[]⟩ := Heap.get?_update_self _ ho rfl
  have h2 := Heap.get?_update_self (Obj.mapFields fun x => x.setIfInBounds 1 (rawInt (left - 1))) h1 rfl
  refine ⟨Nat.le_of_eq (by rw [Heap.size_after_update, Heap.size_after_update]), fun b o' e q _ => ?_, fun q hq => ?_, fun i q hq => ?_, fun i j hi => absurd hi (Nat.not_lt_zero _), fun h => (nomatch h), Nat.le_succ _, Nat.le_refl _, fun g y e _ => e, fun q hq => (nomatch hq), fun h => h, rfl, rfl⟩
  · have hne : it ≠ b := fun h => q (by rw [h]; exact .head _)
    exact (Heap.get?_update_other _ _ hne).trans ((Heap.get?_update_other _ _ hne).trans e)
  · have := List.mem_singleton.mp hq
    subst this
    exact ⟨_, h2, rfl⟩
  · have hq : ([] : List OV)[i]? = some q := hq
    simp at hq
theorem after_same {k : Hook} {na : Nat → Nat} {s : Shared} (hu : k.upd na = []) (hn : k.news na = []) (hg : k.gupd na = []) (ht : k.tabs = false) {t : Nat} (hst : s.toks ≤ t) : After k na s { s with toks := t } := by
  refine ⟨Nat.le_refl _, fun b o' e _ _ => e, fun q hq => ?_, fun i q hq => ?_, fun i j hi => ?_, fun h => ?_, hst, Nat.le_refl _, fun g y e _ => e, fun q hq => ?_, fun h => h, rfl, rfl⟩
  · rw [hu] at hq; cases hq
  · rw [hn] at hq; simp at hq
  · rw [hn] at hi; exact absurd hi (Nat.not_lt_zero _)
  · rw [ht] at h; cases h
  · rw [hg] at hq; cases hq
theorem len_meets (l : Addr) (items : Array Value) (n : Nat) (hf : (items.size : Int) < 2 ^ 63) :
    Meets (Builtin.«len» ⟨[.ref l], []⟩) (fun _ R s => s.heap.get? l = some { cls := .type "list", dict := none, data := .seq items n, slots := #[] } ∧ R (.ok (.ret (Value.int items.size (s.toks + 1)))) { s with toks := s.toks + 1 + 1 }) :=
  .of_wp fun prog w A R s h => by
    obtain ⟨hl, h⟩ := h
    unfold Builtin.«len»
    refine wpAny_bind (m := oneArg "len" _) (wpAny_pure ?_)
    refine wpAny_bind (m := callSpecial? (.ref l) (Str.ofString "__len__")) (wpAny_callSpecial?_slot (name := Str.ofString "__len__") ⟨_, hl, rfl⟩ PySem.F.slot_list_len (wpAny_call_entry PySem.F.slot_list_len ⟨_, hl, rfl⟩ PySem.F.entry_list_len ?_ (by unfold argsOk; kernel_rfl)))
    unfold Builtin.«list.__len__»
    wp_walk
    refine ⟨_, rfl, ?_⟩
    wp_walk
    rw [if_neg (by omega)]
    wp_walk
    exact ⟨_, rfl, h⟩
noncomputable def lenLH (l : Nat) (o : Obj) (n : Nat) : Hook := ⟨false, .call (.bi "len") [.ref l], none, [(l, .ob o)], fun _ => .ret (.int (n : Nat)), fun _ => [], fun _ => [], [], fun _ => []⟩
theorem e_lenL (w : World) (l : Nat) (κ : TK) (ls : List VV) (h : ls.length ≤ 100000) : Eff w (lenLH l ((listV ls).mk' κ) ls.length) := by
  intro base p s cc hcc hb _ _ _ hneed _ _ _ _
  obtain ⟨f, vs, rfl, hf, hv⟩ := hcc
  obtain rfl := vvf_bi hf
  obtain ⟨t, rfl⟩ := vvs1 hv
  obtain ⟨o, ho, rfl⟩ := hneed _ (.head _)
  have ho : s.heap.get? l = some ⟨.type "list", none, .seq ⟨mkVs κ.t 0 ls⟩ κ.e, #[]⟩ := ho
  have e : (⟨mkVs κ.t 0 ls⟩ : Array Value).size = ls.length := mkVs_len ls 0
  obtain ⟨rr, s', R, rfl, rfl⟩ := meets_reach' (w := w) (p := p) (s := s) (id := "len") (args := ⟨[.ref l], []⟩) (R := fun rr s' => rr = .ok (.ret (.int (ls.length : Nat) (s.toks + 1))) ∧ s' = { s with toks := s.toks + 1 + 1 }) hb (by decide +kernel) PySem.entry_len (by kernel_rfl)
    (len_meets l ⟨mkVs κ.t 0 ls⟩ κ.e (by rw [e]; omega)) (fun A => ⟨ho, by rw [e], rfl⟩)
  exact ⟨fun _ => 0, _, _, R, rfl, after_same rfl rfl rfl rfl (by omega)⟩
noncomputable def crF (fr cr cl it : Nat) : Code := forC (sub 16 3) (.ref it) (crE fr cr cl)
noncomputable def ksFT : List Kd := [.func, .fo, .func, .bi "claim.caller"]
noncomputable def ftF1H (fr cr cl mk md acc ln it : Nat) (words closed step place room x left : Int) : Hook := ⟨false, .code (crF fr cr cl it), (some ksFT), [(fr, .vw ⟨.type "frame", none, (.dict [(kS0, .int step), (kS1, .int place), (kS11, .ref mk), (kS12, .int closed)])⟩), (it, .vw ⟨.type "range_iterator", none, (.fields [.int x, .int left, .int step])⟩)], fun na => .next, fun na => [(fr, ⟨.type "frame", none, (.dict [(kS0, .int step), (kS1, .int place), (kS11, .ref mk), (kS12, .int closed), (kS15, .int x)])⟩), (it, ⟨.type "range_iterator", none, (.fields [.int (x + step), .int (left - 1), .int step])⟩)], fun na => [], [], fun na => []⟩
noncomputable def ftF1D (w : World) (fr cr cl mk md acc ln it : Nat) (words closed step place room x left : Int) (h : 0 < left) : WD w (ftF1H fr cr cl mk md acc ln it words closed step place room x left) := wd [1] [0,1] [] 11 (dg 16 0x12203) (fun e _ A G => [p2 (e_rnext w it x left step (by first | assumption | omega)) [1] [1]]) (T := (.v (.v .nil)))
noncomputable def ftF1A (e : Amb) (fr cr cl mk md acc ln it : Nat) (words closed step place room x left : Int) : Nat → Nat := nA [1] [] e fun A G => []
theorem ftF1_e (w : World) (fr cr cl mk md acc ln it : Nat) (words closed step place room x left : Int) (h : 0 < left) : CallW w (ftF1H fr cr cl mk md acc ln it words closed step place room x left) (fun _ => crW fr cr cl) .fo (fun e W => (ftF1D w fr cr cl mk md acc ln it words closed step place room x left h).R (fl1 w) (fl2 w) e W) (fun e _ => ftF1A e fr cr cl mk md acc ln it words closed step place room x left) :=
  callW rfl (ftF1D w fr cr cl mk md acc ln it words closed step place room x left h) (by kernel_rfl)
noncomputable def ftF2H (fr cr cl mk md acc ln it : Nat) (words closed step place room x left : Int) (ls : List VV) (κ : TK) : Hook := ⟨false, .code (crF fr cr cl it), (some ksFT), [(fr, .vw ⟨.type "frame", none, (.dict [(kS0, .int step), (kS1, .int place), (kS11, .ref mk), (kS12, .int closed), (kS15, .int x)])⟩), (mk, .vw ⟨.ref 101, (some md), .plain⟩), (md, .vw ⟨.type "dict", none, (.dict [(u_maxlen, .int room), (u_cws, .str uSp), (u_cwsl, .int 1), (u_split, .str uSemi), (u_lines, .ref ln), (u_cur, .ref acc)])⟩), (ln, .ob (OV.mk' (listV ls) κ))], fun na => .next, fun na => [(fr, ⟨.type "frame", none, (.dict [(kS0, .int step), (kS1, .int place), (kS11, .ref mk), (kS12, .int (closed + ((List.length ls : Nat) : Int))), (kS15, .int x)])⟩)], fun na => [], [], fun na => []⟩
theorem ftF2_e (w : World) (base : List Frame) (s : Shared) (e1 : Amb) (fr cr cl mk md acc ln it : Nat) (words closed step place room x left : Int) (ls : List VV) (κ : TK) (h : 0 < left) (hls : ls.length ≤ 100000) (hS : WOk (some ksFT) (base.map Frame.where_)) : TurnFr w (ftF2H fr cr cl mk md acc ln it words closed step place room x left ls κ) base s ((ftF1D w fr cr cl mk md acc ln it words closed step place room x left h).R (fl1 w) (fl2 w) e1 (base.map Frame.where_)) (.ok .next) (crF fr cr cl it) := by
  exact turnFr rfl (wd [1] [0] [] 39 (dg 16 0x1221041331113111132112) (fun e _ A G => [p1 (e_lenL w ln (e.k 3) ls (by first | assumption | omega)) [3]]) (T := (.v (.v (.v (.o .nil)))))) (fun b1 b2 W => (ftF1D w fr cr cl mk md acc ln it words closed step place room x left h).R b1 b2 e1 W) hS (by kernel_rfl)
noncomputable def ftN1H (fr cr cl mk md acc ln it : Nat) (words closed step place room x left : Int) : Hook := ⟨false, .code (crF fr cr cl it), (some ksFT), [(fr, .vw ⟨.type "frame", none, (.dict [(kS0, .int step), (kS1, .int place), (kS11, .ref mk), (kS12, .int closed), (kS15, .int words)])⟩), (it, .vw ⟨.type "range_iterator", none, (.fields [.int x, .int left, .int step])⟩)], fun na => .next, fun na => [(fr, ⟨.type "frame", none, (.dict [(kS0, .int step), (kS1, .int place), (kS11, .ref mk), (kS12, .int closed), (kS15, .int x)])⟩), (it, ⟨.type "range_iterator", none, (.fields [.int (x + step), .int (left - 1), .int step])⟩)], fun na => [], [], fun na => []⟩
noncomputable def ftN1D (w : World) (fr cr cl mk md acc ln it : Nat) (words closed step place room x left : Int) (h : 0 < left) : WD w (ftN1H fr cr cl mk md acc ln it words closed step place room x left) := wd [1] [0,1] [] 11 (dg 16 0x12203) (fun e _ A G => [p2 (e_rnext w it x left step (by first | assumption | omega)) [1] [1]]) (T := (.v (.v .nil)))
noncomputable def ftN1A (e : Amb) (fr cr cl mk md acc ln it : Nat) (words closed step place room x left : Int) : Nat → Nat := nA [1] [] e fun A G => []
theorem ftN1_e (w : World) (fr cr cl mk md acc ln it : Nat) (words closed step place room x left : Int) (h : 0 < left) : CallW w (ftN1H fr cr cl mk md acc ln it words closed step place room x left) (fun _ => crW fr cr cl) .fo (fun e W => (ftN1D w fr cr cl mk md acc ln it words closed step place room x left h).R (fl1 w) (fl2 w) e W) (fun e _ => ftN1A e fr cr cl mk md acc ln it words closed step place room x left) :=
  callW rfl (ftN1D w fr cr cl mk md acc ln it words closed step place room x left h) (by kernel_rfl)
noncomputable def ftN2H (fr cr cl mk md acc ln it : Nat) (words closed step place room x left : Int) (ls : List VV) (κ : TK) : Hook := ⟨false, .code (crF fr cr cl it), (some ksFT), [(fr, .vw ⟨.type "frame", none, (.dict [(kS0, .int step), (kS1, .int place), (kS11, .ref mk), (kS12, .int closed), (kS15, .int x)])⟩), (mk, .vw ⟨.ref 101, (some md), .plain⟩), (md, .vw ⟨.type "dict", none, (.dict [(u_maxlen, .int room), (u_cws, .str uSp), (u_cwsl, .int 1), (u_split, .str uSemi), (u_lines, .ref ln), (u_cur, .ref acc)])⟩), (ln, .ob (OV.mk' (listV ls) κ))], fun na => .next, fun na => [(fr, ⟨.type "frame", none, (.dict [(kS0, .int step), (kS1, .int place), (kS11, .ref mk), (kS12, .int (closed + ((List.length ls : Nat) : Int))), (kS15, .int x)])⟩)], fun na => [], [], fun na => []⟩
theorem ftN2_e (w : World) (base : List Frame) (s : Shared) (e1 : Amb) (fr cr cl mk md acc ln it : Nat) (words closed step place room x left : Int) (ls : List VV) (κ : TK) (h : 0 < left) (hls : ls.length ≤ 100000) (hS : WOk (some ksFT) (base.map Frame.where_)) : TurnFr w (ftN2H fr cr cl mk md acc ln it words closed step place room x left ls κ) base s ((ftN1D w fr cr cl mk md acc ln it words closed step place room x left h).R (fl1 w) (fl2 w) e1 (base.map Frame.where_)) (.ok .next) (crF fr cr cl it) := by
  exact turnFr rfl (wd [1] [0] [] 39 (dg 16 0x1221041331113111132112) (fun e _ A G => [p1 (e_lenL w ln (e.k 3) ls (by first | assumption | omega)) [3]]) (T := (.v (.v (.v (.o .nil)))))) (fun b1 b2 W => (ftN1D w fr cr cl mk md acc ln it words closed step place room x left h).R b1 b2 e1 W) hS (by kernel_rfl)
noncomputable def fteH (fr cr cl mk md acc ln it : Nat) (y : Int) (words closed step place room x left : Int) : Hook := ⟨false, .code (crF fr cr cl it), (some ksFT), [(it, .vw ⟨.type "range_iterator", none, (.fields [.int y, .int 0, .int step])⟩)], fun na => .next, fun na => [], fun na => [], [], fun na => []⟩
theorem fte_e (w : World) (fr cr cl mk md acc ln it : Nat) (y : Int) (words closed step place room x left : Int)  : Eff w (fteH fr cr cl mk md acc ln it y words closed step place room x left) :=
  effW rfl (wd [8] [] [] 15 (dg 16 0x14222212) (T := (.v .nil))) (by kernel_rfl)
theorem Here.sub {w : World} {tabs : Bool} {L L' : List (Nat × OV)} {G : List (Nat × GenState)} {s : Shared} (H : Here w tabs L G s) (h : ∀ q ∈ L', q ∈ L) (hn : (L'.map Prod.fst).Nodup) : Here w tabs L' G s :=
  ⟨H.kt, H.tbl, fun q hq => H.cells q (h q hq), hn, fun q hq => H.high q (h q hq), H.gens, H.gnd⟩
theorem Here.frame {w : World} {tabs tabs' : Bool} {L L' : List (Nat × OV)} {X : List (Nat × OV)} {G : List (Nat × GenState)} {s s' : Shared} {as gs : List Nat} (H : Here w tabs (L ++ X) G s) (H' : Here w tabs L' G s') (R : Rel tabs' as gs s s') (ht : tabs' = true → tabs = true) (hx : ∀ a ∈ X.map Prod.fst, a ∉ as) (nd : ((L' ++ X).map Prod.fst).Nodup) : Here w tabs (L' ++ X) G s' := by
  refine ⟨H'.kt, H'.tbl, fun q hq => ?_, nd, fun q hq => ?_, H'.gens, H'.gnd⟩
  · rcases List.mem_append.mp hq with h | h
    · exact H'.cells q h
    · obtain ⟨o, ho, hv⟩ := H.cells q (List.mem_append_right _ h)
      exact ⟨o, R.keep _ _ ho (hx _ (List.mem_map_of_mem h)) fun z => (H.high q (List.mem_append_right _ h)).2 (ht z), hv⟩
  · rcases List.mem_append.mp hq with h | h
    · exact H'.high q h
    · exact H.high q (List.mem_append_right _ h)
noncomputable def LF (a : CA) (it : Nat) (fv : OV) (laid x left : Int) (ls : List VV) (ys : List Nat) : List (Nat × OV) := ((a.fr, fv) :: mkL a laid ls ys) ++ [(it, ritV x left a.step)]
noncomputable abbrev crFc (a : CA) (it : Nat) : Code := crF a.fr a.cr a.cl it
noncomputable def f1H (a : CA) (it : Nat) (fv : OV) (closed x left : Int) : Hook := ⟨false, .code (crFc a it), some ksFT, vws [(a.fr, fv), (it, ritV x left a.step)], fun _ => .next, fun _ => [(a.fr, crFrV a.mq a.step a.place closed x), (it, ritV (x + a.step) (left - 1) a.step)], fun _ => [], [], fun _ => []⟩
noncomputable def f2H (a : CA) (it : Nat) (closed x : Int) (ls : List VV) (κ : TK) : Hook := ⟨false, .code (crFc a it), some ksFT, [(a.fr, .vw (crFrV a.mq a.step a.place closed x)), (a.mq, .vw (mkrV a.md)), (a.md, .vw (mdV a.room a.ln a.acc)), (a.ln, .ob (OV.mk' (listV ls) κ))], fun _ => .next, fun _ => [(a.fr, crFrV a.mq a.step a.place (closed + ((List.length ls : Nat) : Int)) x)], fun _ => [], [], fun _ => []⟩
noncomputable def Two (w : World) (a : CA) (it : Nat) (fv : OV) (closed x left : Int) : Prop := ∃ (X : Amb → List (Code × Pos) → Option (List Ora × St)) (A : Amb → List (Code × Pos) → Nat → Nat), CallW w (f1H a it fv closed x left) (fun _ => crW a.fr a.cr a.cl) .fo X A ∧
  ∀ (base : List Frame) (s : Shared) (e1 : Amb) (ls : List VV) (κ : TK), ls.length ≤ 100000 → WOk (some ksFT) (base.map Frame.where_) → TurnAt w (f2H a it closed x ls κ) base s (contOf (outOf (X e1 (base.map Frame.where_))).t (.ok .next)) (outOf (X e1 (base.map Frame.where_))).c (outOf (X e1 (base.map Frame.where_))).p (crFc a it)
theorem two_F (w : World) (a : CA) (it : Nat) (closed x left : Int) (h : 0 < left) : Two w a it (frmV [(kS0, .int a.step), (kS1, .int a.place), (kS11, .ref a.mq), (kS12, .int closed)]) closed x left :=
  ⟨_, _, ftF1_e w a.fr a.cr a.cl a.mq a.md a.acc a.ln it 0 closed a.step a.place a.room x left h, fun base s e1 ls κ h' hS => ftF2_e w base s e1 a.fr a.cr a.cl a.mq a.md a.acc a.ln it 0 closed a.step a.place a.room x left ls κ h h' hS⟩
theorem two_N (w : World) (a : CA) (it : Nat) (words closed x left : Int) (h : 0 < left) : Two w a it (crFrV a.mq a.step a.place closed words) closed x left :=
  ⟨_, _, ftN1_e w a.fr a.cr a.cl a.mq a.md a.acc a.ln it words closed a.step a.place a.room x left h, fun base s e1 ls κ h' hS => ftN2_e w base s e1 a.fr a.cr a.cl a.mq a.md a.acc a.ln it words closed a.step a.place a.room x left ls κ h h' hS⟩
noncomputable def F7' (a : CA) (room : Int) (fv : OV) (laid : Int) (ls : List VV) (ys : List Nat) : List (Nat × OV) := [(a.fr, fv), (a.cl, cellI laid), (a.mq, mkrV a.md), (a.md, mdV room a.ln a.acc), (a.acc, accV a.ad (ys.map .ref)), (a.ad, adV), (a.ln, listV ls)]
noncomputable def F8 (a : CA) (it : Nat) (room : Int) (fv : OV) (laid x left : Int) (ls : List VV) (ys : List Nat) : List (Nat × OV) := [(a.fr, fv), (a.cl, cellI laid), (a.mq, mkrV a.md), (a.md, mdV room a.ln a.acc), (a.acc, accV a.ad (ys.map .ref)), (a.ad, adV), (a.ln, listV ls), (it, ritV x left a.step)]
theorem crf_turn (w : World) (a : CA) (it r : Nat) (hroom : a.room = (r : Nat)) (h1 : 1 ≤ r) (h6 : r ≤ 6) (hacc : 317 ≤ a.acc) (fv : OV) (closed left : Int) (m n : Nat) (hnm : n ≤ m) (hm : m ≤ 1000) (T : Two w a it fv closed (m : Nat) left)
    (base : List Frame) (hb : Bot base) (hs : Spine ksFT base) (ys : List Nat) (s : Shared) (p : Pos) (hy : ys.length = kOf r n) (H : Here w true (LF a it fv (n : Nat) (m : Nat) left (lsOf r n) ys) [] s) :
    ∃ ys' s', GoTo w base s (crFc a it) p s' (crFc a it) ∧ ys'.length = kOf r m ∧ Here w true (LF a it (crFrV a.mq a.step a.place (closed + ((m - 1) / r : Nat)) (m : Nat)) (m : Nat) ((m : Nat) + a.step) (left - 1) (lsOf r m) ys') [] s' ∧ Rel true [a.fr, it, a.cl, a.acc, a.ad, a.ln] [] s s' ∧ ∀ y ∈ ys', y ∈ ys ∨ s.heap.objs.size ≤ y := by
  obtain ⟨X, A, C1, T2⟩ := T
  have HX : Here w true (F8 a it a.room fv (n : Nat) (m : Nat) left (lsOf r n) ys ++ items ys) [] s := H.perm (tri (F7' a a.room fv (n : Nat) (lsOf r n) ys) (items ys) [(it, ritV (m : Nat) left a.step)]).symm
  obtain ⟨na, s1, e1, _, ⟨fr, hB, hSp, _, p1, G1⟩, Af1⟩ := C1 base p s (crFc a it) rfl (HX.asksX hb hs (at' [0,7]) [] no_obs (.inr rfl))
  have H1 : Here w true (F8 a it a.room (crFrV a.mq a.step a.place closed (m : Nat)) (n : Nat) ((m : Nat) + a.step) (left - 1) (lsOf r n) ys ++ items ys) [] s1 := Af1.hereX HX [0,7] [(0,0), (2,1), (2,2), (2,3), (2,4), (2,5), (2,6), (0,1)]
  have H1' : Here w true (LW a closed (m : Nat) (n : Nat) (lsOf r n) ys ++ [(it, ritV ((m : Nat) + a.step) (left - 1) a.step)]) [] s1 := H1.perm (tri (F7' a a.room (crFrV a.mq a.step a.place closed (m : Nat)) (n : Nat) (lsOf r n) ys) (items ys) [(it, ritV ((m : Nat) + a.step) (left - 1) a.step)])
  obtain ⟨ys', s2, R2, hy2, H2, Rl2, hys⟩ := crw_go w a r hroom h1 h6 hacc m hm closed (fr :: base) (hB hb) (hSp _ hs) (m - n) n (by omega) ys s1 p1 hy H1'.left
  have H2 : Here w true (F7' a a.room (crFrV a.mq a.step a.place closed (m : Nat)) (m : Nat) (lsOf r m) ys' ++ items ys') [] s2 := H2
  have H2' : Here w true (F8 a it a.room (crFrV a.mq a.step a.place closed (m : Nat)) (m : Nat) ((m : Nat) + a.step) (left - 1) (lsOf r m) ys' ++ items ys') [] s2 := H1.frameX H2 Rl2 (fun q h => by rw [items_fst]; exact hys _ (items_mem h).1) [1,4,5,6] [0,1,2,3,4,5,6] [7]
  obtain ⟨κ, hκ⟩ := H2.obj (a := a.ln) (v := listV (lsOf r m)) (List.mem_append_left _ (.tail _ (.tail _ (.tail _ (.tail _ (.tail _ (.tail _ (.head _)))))))) rfl
  have hlen : (lsOf r m).length = (m - 1) / r := by unfold lsOf; rw [List.length_replicate]
  obtain ⟨na2, s3, ⟨p', G3⟩, Af3⟩ := T2 base s2 e1 (lsOf r m) κ (by rw [hlen]; exact Nat.le_trans (Nat.div_le_self _ _) (by omega)) hs (H2'.asksX hb hs [(0, none), (2, none), (3, none), (6, some _)] [] (ac no_ob (ac no_ob (ac no_ob (ac (the_ob hκ) an)))) (.inr rfl))
  have H3 : Here w true (F8 a it a.room (crFrV a.mq a.step a.place (closed + ((lsOf r m).length : Nat)) (m : Nat)) (m : Nat) ((m : Nat) + a.step) (left - 1) (lsOf r m) ys' ++ items ys') [] s3 := Af3.hereX H2' [0] [(0,0), (2,1), (2,2), (2,3), (2,4), (2,5), (2,6), (2,7)]
  rw [hlen] at H3
  have ra : Rel true [a.fr, it, a.cl, a.acc, a.ad, a.ln] [] s s1 := (Rel.refl true _ _ s).within Af1.rel (ac (.inl (.head _)) (ac (.inl (.tail _ (.head _))) an)) an (fun h => by cases h)
  refine ⟨ys', s3, ⟨p', fun s'' e hR => G1 s2 _ R2 s'' e (G3 s'' e hR)⟩, hy2, H3.perm (tri (F7' a a.room (crFrV a.mq a.step a.place (closed + ((m - 1) / r : Nat)) (m : Nat)) (m : Nat) (lsOf r m) ys') (items ys') [(it, ritV ((m : Nat) + a.step) (left - 1) a.step)]), ?_, fun y hy => (hys y hy).imp id (Nat.le_trans ra.size)⟩
  exact (ra.within Rl2 (ac (.inl (.tail _ (.tail _ (.head _)))) (ac (.inl (.tail _ (.tail _ (.tail _ (.head _))))) (ac (.inl (.tail _ (.tail _ (.tail _ (.tail _ (.head _)))))) (ac (.inl (.tail _ (.tail _ (.tail _ (.tail _ (.tail _ (.head _))))))) an)))) an (fun h => h)).within Af3.rel (ac (.inl (.head _)) an) an (fun h => by cases h)
noncomputable def cS (P S r : Nat) : Nat → Nat
  | 0 => 0
  | i + 1 => cS P S r i + (P + i * S) / r
theorem crf_rest (w : World) (a : CA) (it r P S : Nat) (hroom : a.room = (r : Nat)) (hst : a.step = (S : Nat)) (h1 : 1 ≤ r) (h6 : r ≤ 6) (hacc : 317 ≤ a.acc) (base : List Frame) (hb : Bot base) (hs : Spine ksFT base) :
    ∀ (d i : Nat), P + 1 + (i + d) * S ≤ 1000 → ∀ (ys : List Nat) (s : Shared) (p : Pos), ys.length = kOf r (P + 1 + i * S) →
    Here w true (LF a it (crFrV a.mq a.step a.place (cS P S r (i + 1) : Nat) (P + 1 + i * S : Nat)) (P + 1 + i * S : Nat) (P + 1 + (i + 1) * S : Nat) (d : Nat) (lsOf r (P + 1 + i * S)) ys) [] s →
    ∃ ys' s', Reach (Mo pw w) base s (den (crFc a it)) (crFc a it) p [] s' (.ret (.ok .next)) ∧ ys'.length = kOf r (P + 1 + (i + d) * S) ∧
      Here w true (LF a it (crFrV a.mq a.step a.place (cS P S r (i + d + 1) : Nat) (P + 1 + (i + d) * S : Nat)) (P + 1 + (i + d) * S : Nat) (P + 1 + (i + d + 1) * S : Nat) 0 (lsOf r (P + 1 + (i + d) * S)) ys') [] s' ∧ Rel true [a.fr, it, a.cl, a.acc, a.ad, a.ln] [] s s' ∧ ∀ y ∈ ys', y ∈ ys ∨ s.heap.objs.size ≤ y := by
  intro d
  induction d with
  | zero =>
    intro i _ ys s p hy H
    have A : Asks w (fteH a.fr a.cr a.cl a.mq a.md a.acc a.ln it (P + 1 + (i + 1) * S : Nat) 0 0 a.step a.place a.room 0 0) base s := H.asks hb (fun ks e => by cases e; exact hs) (fun h => by cases h) (fun q hq => by
      left
      change q ∈ [(it, SV.vw (ritV (P + 1 + (i + 1) * S : Nat) 0 a.step))] at hq
      rw [List.mem_singleton.mp hq]
      exact ⟨_, rfl, List.mem_append_right _ (.head _)⟩) (by show [it].Nodup; simp) (fun q hq => nomatch hq) List.nodup_nil
    obtain ⟨na, r', s', R, hr, Af⟩ := (fte_e w a.fr a.cr a.cl a.mq a.md a.acc a.ln it (P + 1 + (i + 1) * S : Nat) 0 0 a.step a.place a.room 0 0).go p rfl A
    obtain ⟨t, rfl⟩ := rv_mk hr
    exact ⟨ys, s', R, hy, Af.here H (fun h => by cases h) (fun x hx => nomatch hx) (fun q hq => .inr (.inr ⟨hq, fun h => nomatch h⟩)) H.nd (fun q hq => nomatch hq) List.nodup_nil, (Rel.refl true _ _ s).within Af.rel (fun x hx => nomatch hx) (fun x hx => nomatch hx) (fun h => by cases h), fun y hy => .inl hy⟩
  | succ d ih =>
    intro i hm ys s p hy H
    have e1 : (i + 1) * S = i * S + S := Nat.succ_mul i S
    have e2 : (i + (d + 1)) * S = (i + 1 + d) * S := by congr 1; omega
    have hle : (i + 1) * S ≤ (i + (d + 1)) * S := Nat.mul_le_mul_right S (by omega)
    obtain ⟨ys', s1, ⟨p', G⟩, hy', H1, R1, hz1⟩ := crf_turn w a it r hroom h1 h6 hacc _ (cS P S r (i + 1) : Nat) ((d + 1 : Nat) : Int) (P + 1 + (i + 1) * S) (P + 1 + i * S) (by omega) (by omega) (two_N w a it (P + 1 + i * S : Nat) (cS P S r (i + 1) : Nat) (P + 1 + (i + 1) * S : Nat) ((d + 1 : Nat) : Int) (by omega)) base hb hs ys s p hy H
    obtain ⟨ys2, s2, R, hy2, H2, R2, hz2⟩ := ih (i + 1) (by omega) ys' s1 p' hy' (by
      have e3 : ((cS P S r (i + 1) : Nat) : Int) + (((P + 1 + (i + 1) * S - 1) / r : Nat) : Int) = (cS P S r (i + 1 + 1) : Nat) := by
        rw [show P + 1 + (i + 1) * S - 1 = P + (i + 1) * S by omega]
        rfl
      have e4 : ((P + 1 + (i + 1) * S : Nat) : Int) + a.step = (P + 1 + (i + 1 + 1) * S : Nat) := by
        rw [hst, Nat.succ_mul (i + 1) S]
        omega
      have e5 : ((d + 1 : Nat) : Int) - 1 = (d : Nat) := by omega
      rw [e3, e4, e5] at H1
      exact H1)
    rw [show i + 1 + d = i + (d + 1) by omega] at hy2 H2
    exact ⟨ys2, s2, G _ _ R, hy2, H2, R1.trans R2, fun y hy => (hz2 y hy).elim (hz1 y) fun h => .inr (Nat.le_trans R1.size h)⟩
noncomputable def crFr0 (mk : Nat) (step place closed : Int) : OV := frmV [(kS0, .int step), (kS1, .int place), (kS11, .ref mk), (kS12, .int closed)]
theorem crf_go (w : World) (a : CA) (it r P S : Nat) (hroom : a.room = (r : Nat)) (hst : a.step = (S : Nat)) (h1 : 1 ≤ r) (h6 : r ≤ 6) (hS : S ≤ 6) (hP : P ≤ 8) (hacc : 317 ≤ a.acc) (base : List Frame) (hb : Bot base) (hs : Spine ksFT base) (s : Shared) (p : Pos)
    (H : Here w true (LF a it (crFr0 a.mq a.step a.place 0) 0 (P + 1 : Nat) (r : Nat) [] []) [] s) :
    ∃ ys' s', Reach (Mo pw w) base s (den (crFc a it)) (crFc a it) p [] s' (.ret (.ok .next)) ∧ ys'.length = kOf r (P + 1 + (r - 1) * S) ∧
      Here w true (LF a it (crFrV a.mq a.step a.place (cS P S r r : Nat) (P + 1 + (r - 1) * S : Nat)) (P + 1 + (r - 1) * S : Nat) (P + 1 + r * S : Nat) 0 (lsOf r (P + 1 + (r - 1) * S)) ys') [] s' ∧ Rel true [a.fr, it, a.cl, a.acc, a.ad, a.ln] [] s s' ∧ ∀ y ∈ ys', s.heap.objs.size ≤ y := by
  have hl0 : lsOf r 0 = [] := by unfold lsOf; simp
  have hk0 : kOf r 0 = 0 := by unfold kOf; simp
  obtain ⟨ys', s1, ⟨p', G⟩, hy', H1, R1, hz1⟩ := crf_turn w a it r hroom h1 h6 hacc _ 0 (r : Nat) (P + 1) 0 (by omega) (by omega) (two_F w a it 0 (P + 1 : Nat) (r : Nat) (by omega)) base hb hs [] s p (by rw [hk0]; rfl) (by rw [hl0]; exact H)
  have hb2 : (r - 1) * S ≤ 5 * 6 := Nat.mul_le_mul (by omega) hS
  obtain ⟨ys2, s2, R, hy2, H2, R2, hz2⟩ := crf_rest w a it r P S hroom hst h1 h6 hacc base hb hs (r - 1) 0 (by rw [Nat.zero_add]; omega) ys' s1 p' (by rw [Nat.zero_mul]; exact hy') (by
    have e3 : (0 : Int) + (((P + 1 - 1) / r : Nat) : Int) = (cS P S r (0 + 1) : Nat) := by
      show _ = ((0 + (P + 0 * S) / r : Nat) : Int)
      simp
    have e4 : ((P + 1 : Nat) : Int) + a.step = (P + 1 + (0 + 1) * S : Nat) := by
      rw [hst]
      omega
    have e5 : ((r : Nat) : Int) - 1 = ((r - 1 : Nat) : Int) := by omega
    rw [e3, e4, e5] at H1
    rw [Nat.zero_mul]
    exact H1)
  rw [Nat.zero_add, show r - 1 + 1 = r by omega] at *
  exact ⟨ys2, s2, G _ _ R, hy2, H2, R1.trans R2, fun y hy => (hz2 y hy).elim (fun h => (hz1 y h).elim (fun h => nomatch h) id) fun h => Nat.le_trans R1.size h⟩
inductive MadeIs : Made → VV → Prop
  | val {v : Value} {x : VV} (h : vv v = some x) : MadeIs (.val v) x
  | int {i : Int} : MadeIs (.int i) (.int i)
  | str {x : Str} (h : x.length ≤ sizeLine) : MadeIs (.str x) (.str x)
theorem MadeIs.post {m : Made} {x : VV} (h : MadeIs m x) (s : Shared) : m.post (fun v s' => ∃ t, vv v = some x ∧ s.toks ≤ t ∧ s' = { s with toks := t }) s := by
  cases h with
  | val h => exact ⟨s.toks, h, Nat.le_refl _, rfl⟩
  | int => exact ⟨s.toks + 1, rfl, Nat.le_succ _, rfl⟩
  | str h => exact ⟨h, s.toks + 1, rfl, Nat.le_succ _, rfl⟩
theorem eff_gives {w : World} {id : String} {b : Builtin} {args : List VV} {x : VV} (hq : plainId id = true) (he : entryFor table id = some b)
    (h : ∀ vs, vvs vs = some args → checkBuiltinCall id ⟨vs, []⟩ = pure () ∧ ∃ m, Gives (b ⟨vs, []⟩) m ∧ MadeIs m x) : Eff w (pureH id args x) := by
  intro base p s cc hcc hb _ _ _ hneed _ _ _ _
  obtain ⟨f, vs, rfl, hf, hv⟩ := hcc
  obtain rfl := vvf_bi hf
  obtain ⟨hc, m, hg, hm⟩ := h vs hv
  obtain ⟨r, s', R, v, rfl, t, hv, ht, rfl⟩ := meets_reach' (w := w) (p := p) (s := s) (id := id) (args := ⟨vs, []⟩) (F := fun _ R s => m.post (fun v s' => R (.ok (.ret v)) s') s) (R := fun r s' => ∃ v, r = .ok (.ret v) ∧ ∃ t, vv v = some x ∧ s.toks ≤ t ∧ s' = { s with toks := t }) hb hq he hc (fun prog w A R s h => hg prog w A R s h) (fun A => by
    have := hm.post s
    cases hm with
    | val h => exact ⟨_, rfl, this⟩
    | int => exact ⟨_, rfl, this⟩
    | str h => exact ⟨this.1, _, rfl, this.2⟩)
  refine ⟨fun _ => 0, _, _, R, ?_, after_same rfl rfl rfl rfl ht⟩
  show (match vv v with | some x => some (RV.ret x) | none => none) = _
  rw [hv]
  rfl
noncomputable def rep (c n : Nat) : Str := mkStr (List.replicate n c)
theorem rep_fold (c : Nat) : ∀ (n : Nat) (acc : Array Nat), (List.replicate n #[c]).foldl (· ++ ·) acc = acc ++ (⟨List.replicate n c⟩ : Array Nat)
  | 0, acc => by simp
  | n + 1, acc => by
    rw [List.replicate_succ, List.foldl_cons, rep_fold c n, List.replicate_succ]
    apply Array.ext'
    simp
theorem rep_len (c n : Nat) : (rep c n).length = n := by
  show (⟨List.replicate n c⟩ : Array Nat).size = n
  simp
theorem e_smul (w : World) (c : Nat) (n : Int) (h : n ≤ 100000) (h0 : 0 ≤ n) : Eff w (pureH "str.__mul__" [.str (mkStr [c]), .int n] (.str (rep c n.toNat))) := by
  refine eff_gives (by decide +kernel) PySem.F.entry_str_mul fun vs hv => ?_
  obtain ⟨t, u, rfl⟩ := vvs2 hv
  refine ⟨by kernel_rfl, _, gives_str_mul (mkStr [c]) n t u (by simp; omega) ?_ ?_, ?_⟩
  · intro h1 _
    show ¬ ((1 : Nat) : Int) > (2 ^ 63 - 1) / n
    have h2 : n * 1 ≤ 2 ^ 63 - 1 := by omega
    have := (Int.le_ediv_iff_mul_le (a := 1) (b := 2 ^ 63 - 1) (c := n) (by omega)).mpr (by omega)
    omega
  · intro h1 _
    show (decide (1 * n.toNat > 2 ^ 24)) = false
    simp; omega
  · by_cases h1 : n < 1
    · rw [if_pos h1]
      have : n.toNat = 0 := by omega
      rw [this]
      exact .str (x := rep c 0) (by rw [rep_len]; decide)
    · rw [if_neg h1]
      by_cases h2 : (n == 1 || (mkStr [c]).length == 0) = true
      · rw [if_pos h2]
        have h3 : n = 1 := by
          rcases Bool.or_eq_true_iff.mp h2 with h | h
          · exact by simpa using h
          · cases h
        subst h3
        exact .val rfl
      · rw [if_neg h2]
        have e : (⟨(List.replicate n.toNat (mkStr [c]).cps).foldl (· ++ ·) #[]⟩ : Str) = rep c n.toNat := by
          show (⟨(List.replicate n.toNat #[c]).foldl (· ++ ·) #[]⟩ : Str) = _
          rw [rep_fold]
          unfold rep mkStr
          simp
        rw [e]
        exact .str (by rw [rep_len]; show n.toNat ≤ 2 ^ 24; omega)
theorem e_sne (w : World) (a b : Str) {v : Bool} (h : (a.cps.toList != b.cps.toList) = v) : Eff w (pureH "str.__ne__" [.str a, .str b] (.bool v)) := by
  subst h
  refine eff_gives (b := Builtin.«str.__ne__») (by decide +kernel) (entryFor_of_tree (by kernel_rfl)) fun vs hv => ?_
  obtain ⟨t, u, rfl⟩ := vvs2 hv
  exact ⟨by kernel_rfl, _, gives_str_ne a b t u, .val rfl⟩
theorem e_sadd (w : World) (a b : Str) (h : (a ++ b).length ≤ 100000) : Eff w (pureH "str.__add__" [.str a, .str b] (.str (a ++ b))) := by
  refine eff_gives (b := Builtin.«str.__add__») (by decide +kernel) (entryFor_of_tree (by kernel_rfl)) fun vs hv => ?_
  obtain ⟨t, u, rfl⟩ := vvs2 hv
  refine ⟨by kernel_rfl, _, gives_str_add a b t u, ?_⟩
  by_cases h1 : (a.length == 0) = true
  · rw [if_pos h1]
    have : a ++ b = b := by
      have h1 : a.cps.size = 0 := eq_of_beq h1
      show (⟨a.cps ++ b.cps⟩ : Str) = b
      rw [Array.eq_empty_of_size_eq_zero h1, Array.empty_append]
    rw [this]
    exact .val rfl
  · rw [if_neg h1]
    by_cases h2 : (b.length == 0) = true
    · rw [if_pos h2]
      have : a ++ b = a := by
        have h2 : b.cps.size = 0 := eq_of_beq h2
        show (⟨a.cps ++ b.cps⟩ : Str) = a
        rw [Array.eq_empty_of_size_eq_zero h2, Array.append_empty]
      rw [this]
      exact .val rfl
    · rw [if_neg h2]
      exact .str (Nat.le_trans h (by decide))
noncomputable def strsOf : List VV → List Str
  | [] => []
  | v :: l => (match v with | .str s => s | _ => mkStr []) :: strsOf l
noncomputable def allStr : List VV → Prop
  | [] => True
  | v :: l => (∃ s, v = .str s) ∧ allStr l
noncomputable def pairsOf (k : Nat → Nat) : Nat → List VV → List (Str × Tok)
  | _, [] => []
  | i, v :: l => ((match v with | .str s => s | _ => mkStr []), k i) :: pairsOf k (Nat.succ i) l
theorem pairs_vals {k : Nat → Nat} : ∀ {l : List VV} {i : Nat}, allStr l → strValues (pairsOf k i l) = mkVs k i l
  | [], _, _ => rfl
  | v :: l, i, h => by
    obtain ⟨⟨s, rfl⟩, h2⟩ := h
    unfold pairsOf mkVs
    have := pairs_vals (k := k) (l := l) (i := i.succ) h2
    unfold strValues at this ⊢
    rw [List.map_cons, this]
    rfl
theorem pairs_fst {k : Nat → Nat} : ∀ {l : List VV} {i : Nat}, (pairsOf k i l).map (·.1) = strsOf l
  | [], _ => rfl
  | v :: l, i => by unfold pairsOf strsOf; rw [List.map_cons, pairs_fst]
noncomputable def joinS (sep : Str) (l : List VV) : Str := Builtin.Str.glued sep (strsOf l)
theorem made_mono {Q Q' : Value → Shared → Prop} (k : ∀ v s, Q v s → Q' v s) : ∀ {m : Made} {s : Shared}, m.post Q s → m.post Q' s
  | .val _, _, h => k _ _ h
  | .int _, _, h => k _ _ h
  | .str _, _, h => ⟨h.1, k _ _ h.2⟩
  | .float _, _, h => k _ _ h
  | .bytes _, _, h => ⟨h.1, k _ _ h.2⟩
  | .either _ _, _, h => ⟨made_mono k h.1, made_mono k h.2⟩
noncomputable def joinH (sep : Str) (l : Nat) (o : Obj) (ls : List VV) : Hook := ⟨false, .call (.bi "str.join") [.str sep, .ref l], none, [(l, .ob o)], fun _ => .ret (.str (joinS sep ls)), fun _ => [], fun _ => [], [], fun _ => []⟩
theorem e_join (w : World) (sep : Str) (l : Nat) (κ : TK) (ls : List VV) (ha : allStr ls) (hl : (strsOf ls).toArray.foldl (· + ·.length + sep.length) 0 ≤ 100000) (hj : (joinS sep ls).length ≤ 100000) : Eff w (joinH sep l ((listV ls).mk' κ) ls) := by
  intro base p s cc hcc hb _ _ _ hneed _ _ _ _
  obtain ⟨f, vs, rfl, hf, hv⟩ := hcc
  obtain rfl := vvf_bi hf
  obtain ⟨t, u, rfl⟩ := vvs2 hv
  obtain ⟨o, ho, rfl⟩ := hneed _ (.head _)
  have ho : s.heap.get? l = some ⟨.type "list", none, .seq ⟨mkVs κ.t 0 ls⟩ κ.e, #[]⟩ := ho
  have hf := pairs_fst (k := κ.t) (l := ls) (i := 0)
  have hp : (joinMade sep (pairsOf κ.t 0 ls)).post (fun v s' => ∃ t, vv v = some (.str (joinS sep ls)) ∧ s.toks ≤ t ∧ s' = { s with toks := t }) s := by
    unfold joinS at hj ⊢
    rw [← hf] at hj ⊢
    generalize pairsOf κ.t 0 ls = P at *
    match P with
    | [] => exact ⟨Nat.le_trans hj (by decide), s.toks + 1, rfl, Nat.le_succ _, rfl⟩
    | [p] => exact ⟨s.toks, rfl, Nat.le_refl _, rfl⟩
    | p :: q :: r => exact ⟨Nat.le_trans hj (by decide), s.toks + 1, rfl, Nat.le_succ _, rfl⟩
  obtain ⟨r, s', R, v, rfl, t, hv, ht, rfl⟩ := meets_reach' (w := w) (p := p) (s := s) (id := "str.join") (args := ⟨[.str sep t, .ref l], []⟩) (R := fun r s' => ∃ v, r = .ok (.ret v) ∧ ∃ t, vv v = some (.str (joinS sep ls)) ∧ s.toks ≤ t ∧ s' = { s with toks := t }) hb (by decide +kernel) PySem.F.entry_str_join (by kernel_rfl)
    (meets_str_join_list sep t l (pairsOf κ.t 0 ls) (by rw [hf]; show decide (_ > 2 ^ 24) = false; exact decide_eq_false (by omega))) (fun A => ⟨by
      rw [pairs_vals ha]
      exact ⟨_, ho, rfl, κ.e, rfl⟩, by
      exact made_mono (fun v s' h => ⟨v, rfl, h⟩) hp⟩)
  refine ⟨fun _ => 0, _, _, R, ?_, after_same rfl rfl rfl rfl ht⟩
  show (match vv v with | some x => some (RV.ret x) | none => none) = _
  rw [hv]
  rfl
noncomputable def noE : PySem.Expr := .Name uE default
noncomputable def nthE : List PySem.Expr → Nat → PySem.Expr
  | [], _ => noE
  | x :: _, 0 => x
  | _ :: l, n + 1 => nthE l n
noncomputable def testOf : Stmt → PySem.Expr
  | .If t _ _ _ => t
  | .While t _ _ _ => t
  | _ => noE
noncomputable def valOf : Stmt → PySem.Expr
  | .Assign _ v _ => v
  | .Return (some v) _ => v
  | .Expr v _ => v
  | .For _ i _ _ _ => i
  | _ => noE
noncomputable def rightOf : PySem.Expr → PySem.Expr
  | .Compare _ _ r _ => nthE r 0
  | .BinOp _ _ r _ => r
  | _ => noE
noncomputable def argE (i : Nat) : PySem.Expr → PySem.Expr
  | .Call _ a _ _ => nthE a i
  | .List a _ => nthE a i
  | _ => noE
noncomputable def rowsE : PySem.Expr := argE 0 (rightOf (testOf (sub 16 4)))
noncomputable def cellScope (s : Scope) : Scope := { s with names := s.names.map fun q => match q.2 with | .free => (q.1, .cell) | _ => q }
noncomputable def crCE (d2 fr cr cl : Nat) : Env := ⟨cellScope (genScope rowsE), d2,3, [(kS3, cr), (kS57, cl)], strOf "_law_closed_rows.<locals>.", none, .ref 291, some fr, 0⟩
noncomputable def crCL (it2 l2 d2 fr cr cl : Nat) : Code := .compLoop rowsE 0 (.ref it2) (.ref l2) (crCE d2 fr cr cl)
noncomputable def crCS (it2 l2 d2 fr cr cl : Nat) : Code := .compStart rowsE 0 (.ref it2) (.ref l2) (crCE d2 fr cr cl)
noncomputable def s_at : Str := kS9
noncomputable def cellV (i : Int) : OV := ⟨.type "cell", none, .cell (some (.int i))⟩
noncomputable def csH (it2 l2 d2 fr cr cl : Nat) (laid room n xe ate : Int) (rs : List VV) : Hook := ⟨false, .code (crCS it2 l2 d2 fr cr cl), some [.func, .fo, .func, .bi "claim.caller"], vws [(it2, objV "range_iterator" [.int 0, .int n, .int room]), (d2, dictV []), (cr, cellV room), (cl, cellV laid), (l2, listV [])], fun _ => .next, fun _ => [(it2, objV "range_iterator" [.int xe, .int 0, .int room]), (d2, dictV [(s_at, .int ate)]), (l2, listV rs)], fun _ => [], [], fun _ => []⟩
noncomputable def ksCL : List Kd := [.func, .fo, .func, .bi "claim.caller"]
noncomputable def csTH (it2 l2 d2 fr cr cl : Nat) (at' left room : Int) : Hook := ⟨false, .code (crCS it2 l2 d2 fr cr cl), (some ksCL), [(it2, .vw ⟨.type "range_iterator", none, (.fields [.int at', .int left, .int room])⟩)], fun na => .next, fun na => [], fun na => [], [], fun na => []⟩
theorem csT_e (w : World) (it2 l2 d2 fr cr cl : Nat) (at' left room : Int)  (hb2 : fl2 w = true) : Turn w (csTH it2 l2 d2 fr cr cl at' left room) (crCL it2 l2 d2 fr cr cl) :=
  turnW hb2 (wd [] [] [] 1 [] (T := (.v .nil))) (by kernel_rfl)
noncomputable def csFH (it2 l2 d2 fr cr cl : Nat) (at' left room : Int) : Hook := ⟨false, .code (crCS it2 l2 d2 fr cr cl), (some ksCL), [(it2, .vw ⟨.type "range_iterator", none, (.fields [.int at', .int left, .int room])⟩)], fun na => .next, fun na => [], fun na => [], [], fun na => []⟩
theorem csF_e (w : World) (it2 l2 d2 fr cr cl : Nat) (at' left room : Int)  (hb2 : fl2 w = false) : Turn w (csFH it2 l2 d2 fr cr cl at' left room) (crCL it2 l2 d2 fr cr cl) :=
  turnW hb2 (wd [] [] [] 11 (dg 16 0x122122) (T := (.v .nil))) (by kernel_rfl)
noncomputable def clA0H (it2 l2 d2 fr cr cl : Nat) (at' left room laid prev : Int) (ls : List VV) (κ : TK) : Hook := ⟨false, .code (crCL it2 l2 d2 fr cr cl), (some ksCL), [(it2, .vw ⟨.type "range_iterator", none, (.fields [.int at', .int left, .int room])⟩), (d2, .vw ⟨.type "dict", none, (.dict [])⟩), (cr, .vw ⟨.type "cell", none, (.cell (some (.int room)))⟩), (cl, .vw ⟨.type "cell", none, (.cell (some (.int laid)))⟩), (l2, .ob (OV.mk' (listV ls) κ))], fun na => .next, fun na => [(it2, ⟨.type "range_iterator", none, (.fields [.int (at' + room), .int (left - 1), .int room])⟩), (d2, ⟨.type "dict", none, (.dict [(kS9, .int at')])⟩), (l2, (listV (ls ++ [.str (rep 59 (Int.toNat ((laid - at'))))])))], fun na => [], [], fun na => []⟩
theorem clA0_e (w : World) (it2 l2 d2 fr cr cl : Nat) (at' left room laid prev : Int) (ls : List VV) (κ : TK) (h : 0 < left) (hlt : decide (laid - at' < room) = true) (h0 : 0 ≤ laid - at') (h1 : laid - at' ≤ 100000) (hls : ls.length ≤ 1000) : Turn w (clA0H it2 l2 d2 fr cr cl at' left room laid prev ls κ) (crCL it2 l2 d2 fr cr cl) :=
  turnW rfl (wd [1,12,1,8,1,1] [0,1,4] [] 105 (dg 16 0x1001999b88788818999908878881899998878881898717711354113302) (fun e _ A G => [p2 (e_rnext w it2 at' left room (by first | assumption | omega)) [0] [0], p0 (e_lt' w ‹decide ((laid - at') < room) = true›), p0 (e_smul w 59 ((laid - at')) (by first | assumption | omega) (by first | assumption | omega)), p2 (e_append w l2 (e.k 4) ls (.str (rep 59 (Int.toNat ((laid - at'))))) (by first | assumption | (simp only [List.length_append, List.length_cons, List.length_nil]; omega))) [4] [4]]) (T := (.v (.v (.v (.v (.o .nil)))))) (ut := fun e => [none, none, some ((e.τ 3).u 0)])) (by kernel_rfl)
noncomputable def clB0H (it2 l2 d2 fr cr cl : Nat) (at' left room laid prev : Int) (ls : List VV) (κ : TK) : Hook := ⟨false, .code (crCL it2 l2 d2 fr cr cl), (some ksCL), [(it2, .vw ⟨.type "range_iterator", none, (.fields [.int at', .int left, .int room])⟩), (d2, .vw ⟨.type "dict", none, (.dict [])⟩), (cr, .vw ⟨.type "cell", none, (.cell (some (.int room)))⟩), (cl, .vw ⟨.type "cell", none, (.cell (some (.int laid)))⟩), (l2, .ob (OV.mk' (listV ls) κ))], fun na => .next, fun na => [(it2, ⟨.type "range_iterator", none, (.fields [.int (at' + room), .int (left - 1), .int room])⟩), (d2, ⟨.type "dict", none, (.dict [(kS9, .int at')])⟩), (l2, (listV (ls ++ [.str (rep 59 (Int.toNat room))])))], fun na => [], [], fun na => []⟩
theorem clB0_e (w : World) (it2 l2 d2 fr cr cl : Nat) (at' left room laid prev : Int) (ls : List VV) (κ : TK) (h : 0 < left) (hlt : decide (laid - at' < room) = false) (h0 : 0 ≤ room) (h1 : room ≤ 100000) (hls : ls.length ≤ 1000) : Turn w (clB0H it2 l2 d2 fr cr cl at' left room laid prev ls κ) (crCL it2 l2 d2 fr cr cl) :=
  turnW rfl (wd [1,12,1,8,1,1] [0,1,4] [] 102 (dg 16 0x1001999b88788818908878881899998878881898717711354113302) (fun e _ A G => [p2 (e_rnext w it2 at' left room (by first | assumption | omega)) [0] [0], p0 (e_lt' w ‹decide ((laid - at') < room) = false›), p0 (e_smul w 59 room (by first | assumption | omega) (by first | assumption | omega)), p2 (e_append w l2 (e.k 4) ls (.str (rep 59 (Int.toNat room))) (by first | assumption | (simp only [List.length_append, List.length_cons, List.length_nil]; omega))) [4] [4]]) (T := (.v (.v (.v (.v (.o .nil)))))) (ut := fun e => [none, none, some ((e.τ 3).u 0)])) (by kernel_rfl)
noncomputable def clA1H (it2 l2 d2 fr cr cl : Nat) (at' left room laid prev : Int) (ls : List VV) (κ : TK) : Hook := ⟨false, .code (crCL it2 l2 d2 fr cr cl), (some ksCL), [(it2, .vw ⟨.type "range_iterator", none, (.fields [.int at', .int left, .int room])⟩), (d2, .vw ⟨.type "dict", none, (.dict [(kS9, .int prev)])⟩), (cr, .vw ⟨.type "cell", none, (.cell (some (.int room)))⟩), (cl, .vw ⟨.type "cell", none, (.cell (some (.int laid)))⟩), (l2, .ob (OV.mk' (listV ls) κ))], fun na => .next, fun na => [(it2, ⟨.type "range_iterator", none, (.fields [.int (at' + room), .int (left - 1), .int room])⟩), (d2, ⟨.type "dict", none, (.dict [(kS9, .int at')])⟩), (l2, (listV (ls ++ [.str (rep 59 (Int.toNat ((laid - at'))))])))], fun na => [], [], fun na => []⟩
theorem clA1_e (w : World) (it2 l2 d2 fr cr cl : Nat) (at' left room laid prev : Int) (ls : List VV) (κ : TK) (h : 0 < left) (hlt : decide (laid - at' < room) = true) (h0 : 0 ≤ laid - at') (h1 : laid - at' ≤ 100000) (hls : ls.length ≤ 1000) : Turn w (clA1H it2 l2 d2 fr cr cl at' left room laid prev ls κ) (crCL it2 l2 d2 fr cr cl) :=
  turnW rfl (wd [1,12,1,8,1,1] [0,1,4] [] 105 (dg 16 0x1001999b88788818999908878881899998878881898717711354113302) (fun e _ A G => [p2 (e_rnext w it2 at' left room (by first | assumption | omega)) [0] [0], p0 (e_lt' w ‹decide ((laid - at') < room) = true›), p0 (e_smul w 59 ((laid - at')) (by first | assumption | omega) (by first | assumption | omega)), p2 (e_append w l2 (e.k 4) ls (.str (rep 59 (Int.toNat ((laid - at'))))) (by first | assumption | (simp only [List.length_append, List.length_cons, List.length_nil]; omega))) [4] [4]]) (T := (.v (.v (.v (.v (.o .nil)))))) (ut := fun e => [none, none, some ((e.τ 3).u 0)])) (by kernel_rfl)
noncomputable def clB1H (it2 l2 d2 fr cr cl : Nat) (at' left room laid prev : Int) (ls : List VV) (κ : TK) : Hook := ⟨false, .code (crCL it2 l2 d2 fr cr cl), (some ksCL), [(it2, .vw ⟨.type "range_iterator", none, (.fields [.int at', .int left, .int room])⟩), (d2, .vw ⟨.type "dict", none, (.dict [(kS9, .int prev)])⟩), (cr, .vw ⟨.type "cell", none, (.cell (some (.int room)))⟩), (cl, .vw ⟨.type "cell", none, (.cell (some (.int laid)))⟩), (l2, .ob (OV.mk' (listV ls) κ))], fun na => .next, fun na => [(it2, ⟨.type "range_iterator", none, (.fields [.int (at' + room), .int (left - 1), .int room])⟩), (d2, ⟨.type "dict", none, (.dict [(kS9, .int at')])⟩), (l2, (listV (ls ++ [.str (rep 59 (Int.toNat room))])))], fun na => [], [], fun na => []⟩
theorem clB1_e (w : World) (it2 l2 d2 fr cr cl : Nat) (at' left room laid prev : Int) (ls : List VV) (κ : TK) (h : 0 < left) (hlt : decide (laid - at' < room) = false) (h0 : 0 ≤ room) (h1 : room ≤ 100000) (hls : ls.length ≤ 1000) : Turn w (clB1H it2 l2 d2 fr cr cl at' left room laid prev ls κ) (crCL it2 l2 d2 fr cr cl) :=
  turnW rfl (wd [1,12,1,8,1,1] [0,1,4] [] 102 (dg 16 0x1001999b88788818908878881899998878881898717711354113302) (fun e _ A G => [p2 (e_rnext w it2 at' left room (by first | assumption | omega)) [0] [0], p0 (e_lt' w ‹decide ((laid - at') < room) = false›), p0 (e_smul w 59 room (by first | assumption | omega) (by first | assumption | omega)), p2 (e_append w l2 (e.k 4) ls (.str (rep 59 (Int.toNat room))) (by first | assumption | (simp only [List.length_append, List.length_cons, List.length_nil]; omega))) [4] [4]]) (T := (.v (.v (.v (.v (.o .nil)))))) (ut := fun e => [none, none, some ((e.τ 3).u 0)])) (by kernel_rfl)
noncomputable def cleH (it2 l2 d2 fr cr cl : Nat) (at' room : Int) : Hook := ⟨false, .code (crCL it2 l2 d2 fr cr cl), (some ksCL), [(it2, .vw ⟨.type "range_iterator", none, (.fields [.int at', .int 0, .int room])⟩)], fun na => .next, fun na => [], fun na => [], [], fun na => []⟩
theorem cle_e (w : World) (it2 l2 d2 fr cr cl : Nat) (at' room : Int)  : Eff w (cleH it2 l2 d2 fr cr cl at' room) :=
  effW rfl (wd [8] [] [] 14 (dg 16 0x14222212) (T := (.v .nil))) (by kernel_rfl)
theorem e_mul (w : World) (a b : Int) (h1 : -1000000 ≤ a) (h2 : a ≤ 1000000) : Eff w (pureH "int.__mul__" [.int a, .int b] (.int (a * b))) := by
  refine eff_gives (b := Builtin.«int.__mul__») (by decide +kernel) (entryFor_of_tree (by kernel_rfl)) fun vs hv => ?_
  obtain ⟨t, u, rfl⟩ := vvs2 hv
  exact ⟨by kernel_rfl, _, gives_int_mul a b t u (PySem.IntMulOk.of_left (PySem.intBits_le_64 (by omega) (by omega))), .int⟩
theorem log2_small {n : Nat} (h : n ≤ 1000000) : n.log2 ≤ 20 := by
  by_cases h0 : n = 0
  · subst h0; decide
  · have := (Nat.log2_lt h0 (k := 21)).mpr (by omega)
    omega
theorem dgp_small (a b : Int) (h : b.natAbs ≤ 1000000) : Builtin.divisionGoesByPylong a b = false := by
  unfold Builtin.divisionGoesByPylong
  have : ¬ ((if (b == 0) = true then 0 else b.natAbs.log2 / 30 + 1) > 300) := by
    split
    · omega
    · have := log2_small h
      omega
  simp only [decide_eq_false this, Bool.false_and]
theorem e_fdiv (w : World) (a b : Int) (h0 : b ≠ 0) (h : b.natAbs ≤ 1000000) : Eff w (pureH "int.__floordiv__" [.int a, .int b] (.int (a.fdiv b))) := by
  refine eff_gives (b := Builtin.«int.__floordiv__») (by decide +kernel) (entryFor_of_tree (by kernel_rfl)) fun vs hv => ?_
  obtain ⟨t, u, rfl⟩ := vvs2 hv
  exact ⟨by kernel_rfl, _, PySem.AutoIntG4.int___floordiv___int_int_1 a t b u (by simpa using h0) (by rw [dgp_small a b h]; simp), .int⟩
theorem e_mod (w : World) (a b : Int) (h0 : b ≠ 0) : Eff w (pureH "int.__mod__" [.int a, .int b] (.int (a.fmod b))) := by
  refine eff_gives (b := Builtin.«int.__mod__») (by decide +kernel) (entryFor_of_tree (by kernel_rfl)) fun vs hv => ?_
  obtain ⟨t, u, rfl⟩ := vvs2 hv
  exact ⟨by kernel_rfl, _, PySem.AutoIntG6.int___mod___int_int_1 a t b u (by simpa using h0), .int⟩
noncomputable def ksCR : List Kd := [.fo, .func, .bi "claim.caller"]
noncomputable def cf1H (step room place : Int) : Hook := ⟨false, .call (.ref 292) [.int step, .int room, .int place], (some ksCR), [], fun na => .next, fun na => [], fun na => [⟨.type "frame", none, (.dict [(kS0, .int step), (kS1, .int place), (kS11, .ref (na 3)), (kS12, .int 0)])⟩, ⟨.type "cell", none, (.cell (some (.int room)))⟩, ⟨.type "cell", none, (.cell (some (.int 0)))⟩, ⟨.ref 101, (some (na 4)), .plain⟩, ⟨.type "dict", none, (.dict [(u_maxlen, .int room), (u_cws, .str uSp), (u_cwsl, .int 1), (u_split, .str uSemi), (u_lines, .ref (na 7)), (u_cur, .ref (na 5))])⟩, ⟨.ref 185, (some (na 6)), (.seq [])⟩, ⟨.type "dict", none, (.dict [(u_init, .int 0)])⟩, ⟨.type "list", none, (.seq [])⟩, ⟨.type "range_iterator", none, (.fields [.int (place + 1), .int room, .int step])⟩], [], fun na => []⟩
noncomputable def cf1D (w : World) (step room place : Int) (hst : step ≠ 0) (hs1 : 0 ≤ step) (hs2 : step ≤ 6) (hdv : Builtin.divisionGoesByPylong ((place + 1 + step * room) - (place + 1)) step = false) (hn : Builtin.Range.rangeSize (place + 1) (place + 1 + step * room) step = room) (hsm : smallR (place + 1) (place + 1 + step * room) step room = true) : WD w (cf1H step room place) := wd [36,1,1,5,5] [] [0,1,2,4,3,8,7,6,10] 407 (dg 16 0x1c0bbbb1bb0121032121211224422555161116161611116701111a1a1111111111111111111171555161116161611116755516111616161111677555161116161611116711711555161116161611116775551611161616111167717777777777111111161611111111111111111111111111111131122332211) (fun e _ A G => [.q (fun f => ai_e w (A 8) (A 7) (f.hi 8 rfl)) [8,7] [8,7] [] [], p0 (e_mul w step room (by first | assumption | omega) (by first | assumption | omega)), p0 (e_rnew w ((place + 1)) ((place + 1 + step * room)) step (by first | assumption | decide) (by assumption)), p1 (e_riter w (A 9) ((place + 1)) ((place + 1 + step * room)) step room hn hsm) [9]])
noncomputable def cf1A (e : Amb) (step room place : Int) : Nat → Nat := nA [36,1,1,5,5] [0,1,2,4,3,8,7,6,10] e fun A G => []
theorem cf1_e (w : World) (step room place : Int) (hst : step ≠ 0) (hs1 : 0 ≤ step) (hs2 : step ≤ 6) (hdv : Builtin.divisionGoesByPylong ((place + 1 + step * room) - (place + 1)) step = false) (hn : Builtin.Range.rangeSize (place + 1) (place + 1 + step * room) step = room) (hsm : smallR (place + 1) (place + 1 + step * room) step room = true) : CallW w (cf1H step room place) (fun na => crF (na 0) (na 1) (na 2) (na 8)) .func (fun e W => (cf1D w step room place hst hs1 hs2 hdv hn hsm).R (fl1 w) (fl2 w) e W) (fun e _ => cf1A e step room place) :=
  callW rfl (cf1D w step room place hst hs1 hs2 hdv hn hsm) (by kernel_rfl)
noncomputable def cf2_1H (e1 : Amb) (step room place : Int) (x0 : Nat) (laid closed words n xe ate : Int) (ls rs : List VV) (κ : TK) : Hook := ⟨true, .call (.ref 292) [.int step, .int room, .int place], (some ksCR), [((cf1A e1 step room place 0), .vw ⟨.type "frame", none, (.dict [(kS0, .int step), (kS1, .int place), (kS11, .ref (cf1A e1 step room place 3)), (kS12, .int closed), (kS15, .int words)])⟩), ((cf1A e1 step room place 1), .vw ⟨.type "cell", none, (.cell (some (.int room)))⟩), ((cf1A e1 step room place 2), .vw ⟨.type "cell", none, (.cell (some (.int laid)))⟩), ((cf1A e1 step room place 3), .vw ⟨.ref 101, (some (cf1A e1 step room place 4)), .plain⟩), ((cf1A e1 step room place 4), .vw ⟨.type "dict", none, (.dict [(u_maxlen, .int room), (u_cws, .str uSp), (u_cwsl, .int 1), (u_split, .str uSemi), (u_lines, .ref (cf1A e1 step room place 7)), (u_cur, .ref (cf1A e1 step room place 5))])⟩), ((cf1A e1 step room place 5), .vw ⟨.ref 185, (some (cf1A e1 step room place 6)), (.seq [.ref x0])⟩), ((cf1A e1 step room place 6), .vw ⟨.type "dict", none, (.dict [(u_init, .int 0)])⟩), ((cf1A e1 step room place 7), .ob (OV.mk' (listV ls) κ)), (x0, .vw ⟨.type "tuple", none, (.seq [.str uE, .str uSemi])⟩)], fun na => .ret (.int closed), fun na => [((cf1A e1 step room place 5), ⟨.ref 185, (some (cf1A e1 step room place 6)), (.seq [])⟩), ((cf1A e1 step room place 6), ⟨.type "dict", none, (.dict [(u_init, .int 0)])⟩), ((cf1A e1 step room place 7), (listV (ls ++ [.str kS40])))], fun na => [], [], fun na => []⟩
theorem cf2_1_e (w : World) (base : List Frame) (s : Shared) (e1 : Amb) (step room place : Int) (x0 : Nat) (laid closed words n xe ate : Int) (ls rs : List VV) (κ : TK) (g1 : step ≠ 0) (g2 : 0 ≤ step) (g3 : step ≤ 6) (g4 : Builtin.divisionGoesByPylong ((place + 1 + step * room) - (place + 1)) step = false) (g5 : Builtin.Range.rangeSize (place + 1) (place + 1 + step * room) step = room) (g6 : smallR (place + 1) (place + 1 + step * room) step room = true) (hls : ls.length ≤ 1000) (hacc : 317 ≤ cf1A e1 step room place 5) (hr0 : room ≠ 0) (hdv : Builtin.divisionGoesByPylong (laid - 0) room = false) (hn : Builtin.Range.rangeSize 0 laid room = n) (hsm : smallR 0 laid room n = true) (hcs : ∀ it2 l2 d2 : Nat, Eff w (csH it2 l2 d2 (cf1A e1 step room place 0) (cf1A e1 step room place 1) (cf1A e1 step room place 2) laid room n xe ate rs)) (ha1 : allStr (ls ++ [.str kS40])) (hb1 : (strsOf (ls ++ [.str kS40])).toArray.foldl (· + ·.length + kS2.length) 0 ≤ 100000) (hc1 : (joinS kS2 (ls ++ [.str kS40])).length ≤ 100000) (ha2 : allStr rs) (hb2 : (strsOf rs).toArray.foldl (· + ·.length + kS2.length) 0 ≤ 100000) (hc2 : (joinS kS2 rs).length ≤ 100000) (hne : ((joinS kS2 (ls ++ [.str kS40])).cps.toList != (joinS kS2 rs).cps.toList) = false) (hS : WOk (some ksCR) (base.map Frame.where_)) : EffFr w (cf2_1H e1 step room place x0 laid closed words n xe ate ls rs κ) base s ((cf1D w step room place g1 g2 g3 g4 g5 g6).R (fl1 w) (fl2 w) e1 (base.map Frame.where_)) (.ok .next) := by
  exact effFr rfl (wd [4,1,1,5,5,8,1,1,1] [5,6,7] [] 139 (dg 16 0x1200fff0d0cccc1cc01341106155111511115bb01651111511151115b1bbbb11116511115111511152) (fun e _ A G => [p2 (nl1_e w (cf1A e1 step room place 3) (cf1A e1 step room place 4) (cf1A e1 step room place 5) (cf1A e1 step room place 6) (cf1A e1 step room place 7) x0 room ls (e.k 7) (by assumption) (by assumption)) [3,4,5,6,7,8] [5,6,7], p1 (e_join w kS2 (cf1A e1 step room place 7) ((e.τ 0).u 2) (ls ++ [.str kS40]) (by assumption) (by assumption) (by assumption)) [7], p0 (e_rnew w 0 laid room (by first | assumption | decide) (by assumption)), p1 (e_riter w (A 1) 0 laid room n hn hsm) [10], p2 (hcs (A 2) (A 3) (A 4)) [11,13,1,2,12] [11,13,12], p1 (e_join w kS2 (A 3) ((e.τ 4).u 2) rs (by assumption) (by assumption) (by assumption)) [12], p0 (e_sne w (joinS kS2 (ls ++ [.str kS40])) (joinS kS2 rs) (by assumption))]) (T := (.v (.v (.v (.v (.v (.v (.v (.o (.v .nil)))))))))) (ut := fun e => [none, none, some ((e.τ 0).u 2)])) (fun b1 b2 W => (cf1D w step room place g1 g2 g3 g4 g5 g6).R b1 b2 e1 W) hS (by kernel_rfl)
noncomputable def cf2_2H (e1 : Amb) (step room place : Int) (x0 x1 : Nat) (laid closed words n xe ate : Int) (ls rs : List VV) (κ : TK) : Hook := ⟨true, .call (.ref 292) [.int step, .int room, .int place], (some ksCR), [((cf1A e1 step room place 0), .vw ⟨.type "frame", none, (.dict [(kS0, .int step), (kS1, .int place), (kS11, .ref (cf1A e1 step room place 3)), (kS12, .int closed), (kS15, .int words)])⟩), ((cf1A e1 step room place 1), .vw ⟨.type "cell", none, (.cell (some (.int room)))⟩), ((cf1A e1 step room place 2), .vw ⟨.type "cell", none, (.cell (some (.int laid)))⟩), ((cf1A e1 step room place 3), .vw ⟨.ref 101, (some (cf1A e1 step room place 4)), .plain⟩), ((cf1A e1 step room place 4), .vw ⟨.type "dict", none, (.dict [(u_maxlen, .int room), (u_cws, .str uSp), (u_cwsl, .int 1), (u_split, .str uSemi), (u_lines, .ref (cf1A e1 step room place 7)), (u_cur, .ref (cf1A e1 step room place 5))])⟩), ((cf1A e1 step room place 5), .vw ⟨.ref 185, (some (cf1A e1 step room place 6)), (.seq [.ref x0, .ref x1])⟩), ((cf1A e1 step room place 6), .vw ⟨.type "dict", none, (.dict [(u_init, .int 0)])⟩), ((cf1A e1 step room place 7), .ob (OV.mk' (listV ls) κ)), (x0, .vw ⟨.type "tuple", none, (.seq [.str uE, .str uSemi])⟩), (x1, .vw ⟨.type "tuple", none, (.seq [.str uE, .str uSemi])⟩)], fun na => .ret (.int closed), fun na => [((cf1A e1 step room place 5), ⟨.ref 185, (some (cf1A e1 step room place 6)), (.seq [])⟩), ((cf1A e1 step room place 6), ⟨.type "dict", none, (.dict [(u_init, .int 0)])⟩), ((cf1A e1 step room place 7), (listV (ls ++ [.str kS31])))], fun na => [], [], fun na => []⟩
theorem cf2_2_e (w : World) (base : List Frame) (s : Shared) (e1 : Amb) (step room place : Int) (x0 x1 : Nat) (laid closed words n xe ate : Int) (ls rs : List VV) (κ : TK) (g1 : step ≠ 0) (g2 : 0 ≤ step) (g3 : step ≤ 6) (g4 : Builtin.divisionGoesByPylong ((place + 1 + step * room) - (place + 1)) step = false) (g5 : Builtin.Range.rangeSize (place + 1) (place + 1 + step * room) step = room) (g6 : smallR (place + 1) (place + 1 + step * room) step room = true) (hls : ls.length ≤ 1000) (hacc : 317 ≤ cf1A e1 step room place 5) (hr0 : room ≠ 0) (hdv : Builtin.divisionGoesByPylong (laid - 0) room = false) (hn : Builtin.Range.rangeSize 0 laid room = n) (hsm : smallR 0 laid room n = true) (hcs : ∀ it2 l2 d2 : Nat, Eff w (csH it2 l2 d2 (cf1A e1 step room place 0) (cf1A e1 step room place 1) (cf1A e1 step room place 2) laid room n xe ate rs)) (ha1 : allStr (ls ++ [.str kS31])) (hb1 : (strsOf (ls ++ [.str kS31])).toArray.foldl (· + ·.length + kS2.length) 0 ≤ 100000) (hc1 : (joinS kS2 (ls ++ [.str kS31])).length ≤ 100000) (ha2 : allStr rs) (hb2 : (strsOf rs).toArray.foldl (· + ·.length + kS2.length) 0 ≤ 100000) (hc2 : (joinS kS2 rs).length ≤ 100000) (hne : ((joinS kS2 (ls ++ [.str kS31])).cps.toList != (joinS kS2 rs).cps.toList) = false) (hS : WOk (some ksCR) (base.map Frame.where_)) : EffFr w (cf2_2H e1 step room place x0 x1 laid closed words n xe ate ls rs κ) base s ((cf1D w step room place g1 g2 g3 g4 g5 g6).R (fl1 w) (fl2 w) e1 (base.map Frame.where_)) (.ok .next) := by
  exact effFr rfl (wd [4,1,1,5,5,8,1,1,1] [5,6,7] [] 139 (dg 17 0x97b6f964fe495c8e721ef801f47db2ac6f6a4dc66bd46da2614c8a195af50f3adad10b3e297ae6fef60) (fun e _ A G => [p2 (nl2_e w (cf1A e1 step room place 3) (cf1A e1 step room place 4) (cf1A e1 step room place 5) (cf1A e1 step room place 6) (cf1A e1 step room place 7) x0 x1 room ls (e.k 7) (by assumption) (by assumption)) [3,4,5,6,7,8,9] [5,6,7], p1 (e_join w kS2 (cf1A e1 step room place 7) ((e.τ 0).u 2) (ls ++ [.str kS31]) (by assumption) (by assumption) (by assumption)) [7], p0 (e_rnew w 0 laid room (by first | assumption | decide) (by assumption)), p1 (e_riter w (A 1) 0 laid room n hn hsm) [11], p2 (hcs (A 2) (A 3) (A 4)) [12,14,1,2,13] [12,14,13], p1 (e_join w kS2 (A 3) ((e.τ 4).u 2) rs (by assumption) (by assumption) (by assumption)) [13], p0 (e_sne w (joinS kS2 (ls ++ [.str kS31])) (joinS kS2 rs) (by assumption))]) (T := (.v (.v (.v (.v (.v (.v (.v (.o (.v (.v .nil))))))))))) (ut := fun e => [none, none, some ((e.τ 0).u 2)])) (fun b1 b2 W => (cf1D w step room place g1 g2 g3 g4 g5 g6).R b1 b2 e1 W) hS (by kernel_rfl)
noncomputable def cf2_3H (e1 : Amb) (step room place : Int) (x0 x1 x2 : Nat) (laid closed words n xe ate : Int) (ls rs : List VV) (κ : TK) : Hook := ⟨true, .call (.ref 292) [.int step, .int room, .int place], (some ksCR), [((cf1A e1 step room place 0), .vw ⟨.type "frame", none, (.dict [(kS0, .int step), (kS1, .int place), (kS11, .ref (cf1A e1 step room place 3)), (kS12, .int closed), (kS15, .int words)])⟩), ((cf1A e1 step room place 1), .vw ⟨.type "cell", none, (.cell (some (.int room)))⟩), ((cf1A e1 step room place 2), .vw ⟨.type "cell", none, (.cell (some (.int laid)))⟩), ((cf1A e1 step room place 3), .vw ⟨.ref 101, (some (cf1A e1 step room place 4)), .plain⟩), ((cf1A e1 step room place 4), .vw ⟨.type "dict", none, (.dict [(u_maxlen, .int room), (u_cws, .str uSp), (u_cwsl, .int 1), (u_split, .str uSemi), (u_lines, .ref (cf1A e1 step room place 7)), (u_cur, .ref (cf1A e1 step room place 5))])⟩), ((cf1A e1 step room place 5), .vw ⟨.ref 185, (some (cf1A e1 step room place 6)), (.seq [.ref x0, .ref x1, .ref x2])⟩), ((cf1A e1 step room place 6), .vw ⟨.type "dict", none, (.dict [(u_init, .int 0)])⟩), ((cf1A e1 step room place 7), .ob (OV.mk' (listV ls) κ)), (x0, .vw ⟨.type "tuple", none, (.seq [.str uE, .str uSemi])⟩), (x1, .vw ⟨.type "tuple", none, (.seq [.str uE, .str uSemi])⟩), (x2, .vw ⟨.type "tuple", none, (.seq [.str uE, .str uSemi])⟩)], fun na => .ret (.int closed), fun na => [((cf1A e1 step room place 5), ⟨.ref 185, (some (cf1A e1 step room place 6)), (.seq [])⟩), ((cf1A e1 step room place 6), ⟨.type "dict", none, (.dict [(u_init, .int 0)])⟩), ((cf1A e1 step room place 7), (listV (ls ++ [.str kS32])))], fun na => [], [], fun na => []⟩
theorem cf2_3_e (w : World) (base : List Frame) (s : Shared) (e1 : Amb) (step room place : Int) (x0 x1 x2 : Nat) (laid closed words n xe ate : Int) (ls rs : List VV) (κ : TK) (g1 : step ≠ 0) (g2 : 0 ≤ step) (g3 : step ≤ 6) (g4 : Builtin.divisionGoesByPylong ((place + 1 + step * room) - (place + 1)) step = false) (g5 : Builtin.Range.rangeSize (place + 1) (place + 1 + step * room) step = room) (g6 : smallR (place + 1) (place + 1 + step * room) step room = true) (hls : ls.length ≤ 1000) (hacc : 317 ≤ cf1A e1 step room place 5) (hr0 : room ≠ 0) (hdv : Builtin.divisionGoesByPylong (laid - 0) room = false) (hn : Builtin.Range.rangeSize 0 laid room = n) (hsm : smallR 0 laid room n = true) (hcs : ∀ it2 l2 d2 : Nat, Eff w (csH it2 l2 d2 (cf1A e1 step room place 0) (cf1A e1 step room place 1) (cf1A e1 step room place 2) laid room n xe ate rs)) (ha1 : allStr (ls ++ [.str kS32])) (hb1 : (strsOf (ls ++ [.str kS32])).toArray.foldl (· + ·.length + kS2.length) 0 ≤ 100000) (hc1 : (joinS kS2 (ls ++ [.str kS32])).length ≤ 100000) (ha2 : allStr rs) (hb2 : (strsOf rs).toArray.foldl (· + ·.length + kS2.length) 0 ≤ 100000) (hc2 : (joinS kS2 rs).length ≤ 100000) (hne : ((joinS kS2 (ls ++ [.str kS32])).cps.toList != (joinS kS2 rs).cps.toList) = false) (hS : WOk (some ksCR) (base.map Frame.where_)) : EffFr w (cf2_3H e1 step room place x0 x1 x2 laid closed words n xe ate ls rs κ) base s ((cf1D w step room place g1 g2 g3 g4 g5 g6).R (fl1 w) (fl2 w) e1 (base.map Frame.where_)) (.ok .next) := by
  exact effFr rfl (wd [4,1,1,5,5,8,1,1,1] [5,6,7] [] 139 (dg 18 0x3c62e874a369b19acadee1109f393fa8774d67d14187a83ca5679744220d38ffa583508dd57bc604c2bd8) (fun e _ A G => [p2 (nl3_e w (cf1A e1 step room place 3) (cf1A e1 step room place 4) (cf1A e1 step room place 5) (cf1A e1 step room place 6) (cf1A e1 step room place 7) x0 x1 x2 room ls (e.k 7) (by assumption) (by assumption)) [3,4,5,6,7,8,9,10] [5,6,7], p1 (e_join w kS2 (cf1A e1 step room place 7) ((e.τ 0).u 2) (ls ++ [.str kS32]) (by assumption) (by assumption) (by assumption)) [7], p0 (e_rnew w 0 laid room (by first | assumption | decide) (by assumption)), p1 (e_riter w (A 1) 0 laid room n hn hsm) [12], p2 (hcs (A 2) (A 3) (A 4)) [13,15,1,2,14] [13,15,14], p1 (e_join w kS2 (A 3) ((e.τ 4).u 2) rs (by assumption) (by assumption) (by assumption)) [14], p0 (e_sne w (joinS kS2 (ls ++ [.str kS32])) (joinS kS2 rs) (by assumption))]) (T := (.v (.v (.v (.v (.v (.v (.v (.o (.v (.v (.v .nil)))))))))))) (ut := fun e => [none, none, some ((e.τ 0).u 2)])) (fun b1 b2 W => (cf1D w step room place g1 g2 g3 g4 g5 g6).R b1 b2 e1 W) hS (by kernel_rfl)
noncomputable def cf2_4H (e1 : Amb) (step room place : Int) (x0 x1 x2 x3 : Nat) (laid closed words n xe ate : Int) (ls rs : List VV) (κ : TK) : Hook := ⟨true, .call (.ref 292) [.int step, .int room, .int place], (some ksCR), [((cf1A e1 step room place 0), .vw ⟨.type "frame", none, (.dict [(kS0, .int step), (kS1, .int place), (kS11, .ref (cf1A e1 step room place 3)), (kS12, .int closed), (kS15, .int words)])⟩), ((cf1A e1 step room place 1), .vw ⟨.type "cell", none, (.cell (some (.int room)))⟩), ((cf1A e1 step room place 2), .vw ⟨.type "cell", none, (.cell (some (.int laid)))⟩), ((cf1A e1 step room place 3), .vw ⟨.ref 101, (some (cf1A e1 step room place 4)), .plain⟩), ((cf1A e1 step room place 4), .vw ⟨.type "dict", none, (.dict [(u_maxlen, .int room), (u_cws, .str uSp), (u_cwsl, .int 1), (u_split, .str uSemi), (u_lines, .ref (cf1A e1 step room place 7)), (u_cur, .ref (cf1A e1 step room place 5))])⟩), ((cf1A e1 step room place 5), .vw ⟨.ref 185, (some (cf1A e1 step room place 6)), (.seq [.ref x0, .ref x1, .ref x2, .ref x3])⟩), ((cf1A e1 step room place 6), .vw ⟨.type "dict", none, (.dict [(u_init, .int 0)])⟩), ((cf1A e1 step room place 7), .ob (OV.mk' (listV ls) κ)), (x0, .vw ⟨.type "tuple", none, (.seq [.str uE, .str uSemi])⟩), (x1, .vw ⟨.type "tuple", none, (.seq [.str uE, .str uSemi])⟩), (x2, .vw ⟨.type "tuple", none, (.seq [.str uE, .str uSemi])⟩), (x3, .vw ⟨.type "tuple", none, (.seq [.str uE, .str uSemi])⟩)], fun na => .ret (.int closed), fun na => [((cf1A e1 step room place 5), ⟨.ref 185, (some (cf1A e1 step room place 6)), (.seq [])⟩), ((cf1A e1 step room place 6), ⟨.type "dict", none, (.dict [(u_init, .int 0)])⟩), ((cf1A e1 step room place 7), (listV (ls ++ [.str kS33])))], fun na => [], [], fun na => []⟩
theorem cf2_4_e (w : World) (base : List Frame) (s : Shared) (e1 : Amb) (step room place : Int) (x0 x1 x2 x3 : Nat) (laid closed words n xe ate : Int) (ls rs : List VV) (κ : TK) (g1 : step ≠ 0) (g2 : 0 ≤ step) (g3 : step ≤ 6) (g4 : Builtin.divisionGoesByPylong ((place + 1 + step * room) - (place + 1)) step = false) (g5 : Builtin.Range.rangeSize (place + 1) (place + 1 + step * room) step = room) (g6 : smallR (place + 1) (place + 1 + step * room) step room = true) (hls : ls.length ≤ 1000) (hacc : 317 ≤ cf1A e1 step room place 5) (hr0 : room ≠ 0) (hdv : Builtin.divisionGoesByPylong (laid - 0) room = false) (hn : Builtin.Range.rangeSize 0 laid room = n) (hsm : smallR 0 laid room n = true) (hcs : ∀ it2 l2 d2 : Nat, Eff w (csH it2 l2 d2 (cf1A e1 step room place 0) (cf1A e1 step room place 1) (cf1A e1 step room place 2) laid room n xe ate rs)) (ha1 : allStr (ls ++ [.str kS33])) (hb1 : (strsOf (ls ++ [.str kS33])).toArray.foldl (· + ·.length + kS2.length) 0 ≤ 100000) (hc1 : (joinS kS2 (ls ++ [.str kS33])).length ≤ 100000) (ha2 : allStr rs) (hb2 : (strsOf rs).toArray.foldl (· + ·.length + kS2.length) 0 ≤ 100000) (hc2 : (joinS kS2 rs).length ≤ 100000) (hne : ((joinS kS2 (ls ++ [.str kS33])).cps.toList != (joinS kS2 rs).cps.toList) = false) (hS : WOk (some ksCR) (base.map Frame.where_)) : EffFr w (cf2_4H e1 step room place x0 x1 x2 x3 laid closed words n xe ate ls rs κ) base s ((cf1D w step room place g1 g2 g3 g4 g5 g6).R (fl1 w) (fl2 w) e1 (base.map Frame.where_)) (.ok .next) := by
  exact effFr rfl (wd [4,1,1,5,5,8,1,1,1] [5,6,7] [] 139 (dg 19 0x12b8fc34a47345c0f833c5b495efbc2401d51cff5469d6b6bee1b2cb581786f926a7edfe9740321ab25ccba) (fun e _ A G => [p2 (nl4_e w (cf1A e1 step room place 3) (cf1A e1 step room place 4) (cf1A e1 step room place 5) (cf1A e1 step room place 6) (cf1A e1 step room place 7) x0 x1 x2 x3 room ls (e.k 7) (by assumption) (by assumption)) [3,4,5,6,7,8,9,10,11] [5,6,7], p1 (e_join w kS2 (cf1A e1 step room place 7) ((e.τ 0).u 2) (ls ++ [.str kS33]) (by assumption) (by assumption) (by assumption)) [7], p0 (e_rnew w 0 laid room (by first | assumption | decide) (by assumption)), p1 (e_riter w (A 1) 0 laid room n hn hsm) [13], p2 (hcs (A 2) (A 3) (A 4)) [14,16,1,2,15] [14,16,15], p1 (e_join w kS2 (A 3) ((e.τ 4).u 2) rs (by assumption) (by assumption) (by assumption)) [15], p0 (e_sne w (joinS kS2 (ls ++ [.str kS33])) (joinS kS2 rs) (by assumption))]) (T := (.v (.v (.v (.v (.v (.v (.v (.o (.v (.v (.v (.v .nil))))))))))))) (ut := fun e => [none, none, some ((e.τ 0).u 2)])) (fun b1 b2 W => (cf1D w step room place g1 g2 g3 g4 g5 g6).R b1 b2 e1 W) hS (by kernel_rfl)
noncomputable def cf2_5H (e1 : Amb) (step room place : Int) (x0 x1 x2 x3 x4 : Nat) (laid closed words n xe ate : Int) (ls rs : List VV) (κ : TK) : Hook := ⟨true, .call (.ref 292) [.int step, .int room, .int place], (some ksCR), [((cf1A e1 step room place 0), .vw ⟨.type "frame", none, (.dict [(kS0, .int step), (kS1, .int place), (kS11, .ref (cf1A e1 step room place 3)), (kS12, .int closed), (kS15, .int words)])⟩), ((cf1A e1 step room place 1), .vw ⟨.type "cell", none, (.cell (some (.int room)))⟩), ((cf1A e1 step room place 2), .vw ⟨.type "cell", none, (.cell (some (.int laid)))⟩), ((cf1A e1 step room place 3), .vw ⟨.ref 101, (some (cf1A e1 step room place 4)), .plain⟩), ((cf1A e1 step room place 4), .vw ⟨.type "dict", none, (.dict [(u_maxlen, .int room), (u_cws, .str uSp), (u_cwsl, .int 1), (u_split, .str uSemi), (u_lines, .ref (cf1A e1 step room place 7)), (u_cur, .ref (cf1A e1 step room place 5))])⟩), ((cf1A e1 step room place 5), .vw ⟨.ref 185, (some (cf1A e1 step room place 6)), (.seq [.ref x0, .ref x1, .ref x2, .ref x3, .ref x4])⟩), ((cf1A e1 step room place 6), .vw ⟨.type "dict", none, (.dict [(u_init, .int 0)])⟩), ((cf1A e1 step room place 7), .ob (OV.mk' (listV ls) κ)), (x0, .vw ⟨.type "tuple", none, (.seq [.str uE, .str uSemi])⟩), (x1, .vw ⟨.type "tuple", none, (.seq [.str uE, .str uSemi])⟩), (x2, .vw ⟨.type "tuple", none, (.seq [.str uE, .str uSemi])⟩), (x3, .vw ⟨.type "tuple", none, (.seq [.str uE, .str uSemi])⟩), (x4, .vw ⟨.type "tuple", none, (.seq [.str uE, .str uSemi])⟩)], fun na => .ret (.int closed), fun na => [((cf1A e1 step room place 5), ⟨.ref 185, (some (cf1A e1 step room place 6)), (.seq [])⟩), ((cf1A e1 step room place 6), ⟨.type "dict", none, (.dict [(u_init, .int 0)])⟩), ((cf1A e1 step room place 7), (listV (ls ++ [.str kS34])))], fun na => [], [], fun na => []⟩
theorem cf2_5_e (w : World) (base : List Frame) (s : Shared) (e1 : Amb) (step room place : Int) (x0 x1 x2 x3 x4 : Nat) (laid closed words n xe ate : Int) (ls rs : List VV) (κ : TK) (g1 : step ≠ 0) (g2 : 0 ≤ step) (g3 : step ≤ 6) (g4 : Builtin.divisionGoesByPylong ((place + 1 + step * room) - (place + 1)) step = false) (g5 : Builtin.Range.rangeSize (place + 1) (place + 1 + step * room) step = room) (g6 : smallR (place + 1) (place + 1 + step * room) step room = true) (hls : ls.length ≤ 1000) (hacc : 317 ≤ cf1A e1 step room place 5) (hr0 : room ≠ 0) (hdv : Builtin.divisionGoesByPylong (laid - 0) room = false) (hn : Builtin.Range.rangeSize 0 laid room = n) (hsm : smallR 0 laid room n = true) (hcs : ∀ it2 l2 d2 : Nat, Eff w (csH it2 l2 d2 (cf1A e1 step room place 0) (cf1A e1 step room place 1) (cf1A e1 step room place 2) laid room n xe ate rs)) (ha1 : allStr (ls ++ [.str kS34])) (hb1 : (strsOf (ls ++ [.str kS34])).toArray.foldl (· + ·.length + kS2.length) 0 ≤ 100000) (hc1 : (joinS kS2 (ls ++ [.str kS34])).length ≤ 100000) (ha2 : allStr rs) (hb2 : (strsOf rs).toArray.foldl (· + ·.length + kS2.length) 0 ≤ 100000) (hc2 : (joinS kS2 rs).length ≤ 100000) (hne : ((joinS kS2 (ls ++ [.str kS34])).cps.toList != (joinS kS2 rs).cps.toList) = false) (hS : WOk (some ksCR) (base.map Frame.where_)) : EffFr w (cf2_5H e1 step room place x0 x1 x2 x3 x4 laid closed words n xe ate ls rs κ) base s ((cf1D w step room place g1 g2 g3 g4 g5 g6).R (fl1 w) (fl2 w) e1 (base.map Frame.where_)) (.ok .next) := by
  exact effFr rfl (wd [4,1,1,5,5,8,1,1,1] [5,6,7] [] 139 (dg 20 0x4a39bac76415f94c3c42564e08a8363fffbb1682f66eca7b184f7b78fb0bf7d60946e37fa874b2982ea78636) (fun e _ A G => [p2 (nl5_e w (cf1A e1 step room place 3) (cf1A e1 step room place 4) (cf1A e1 step room place 5) (cf1A e1 step room place 6) (cf1A e1 step room place 7) x0 x1 x2 x3 x4 room ls (e.k 7) (by assumption) (by assumption)) [3,4,5,6,7,8,9,10,11,12] [5,6,7], p1 (e_join w kS2 (cf1A e1 step room place 7) ((e.τ 0).u 2) (ls ++ [.str kS34]) (by assumption) (by assumption) (by assumption)) [7], p0 (e_rnew w 0 laid room (by first | assumption | decide) (by assumption)), p1 (e_riter w (A 1) 0 laid room n hn hsm) [14], p2 (hcs (A 2) (A 3) (A 4)) [15,17,1,2,16] [15,17,16], p1 (e_join w kS2 (A 3) ((e.τ 4).u 2) rs (by assumption) (by assumption) (by assumption)) [16], p0 (e_sne w (joinS kS2 (ls ++ [.str kS34])) (joinS kS2 rs) (by assumption))]) (T := (.v (.v (.v (.v (.v (.v (.v (.o (.v (.v (.v (.v (.v .nil)))))))))))))) (ut := fun e => [none, none, some ((e.τ 0).u 2)])) (fun b1 b2 W => (cf1D w step room place g1 g2 g3 g4 g5 g6).R b1 b2 e1 W) hS (by kernel_rfl)
noncomputable def cf2_6H (e1 : Amb) (step room place : Int) (x0 x1 x2 x3 x4 x5 : Nat) (laid closed words n xe ate : Int) (ls rs : List VV) (κ : TK) : Hook := ⟨true, .call (.ref 292) [.int step, .int room, .int place], (some ksCR), [((cf1A e1 step room place 0), .vw ⟨.type "frame", none, (.dict [(kS0, .int step), (kS1, .int place), (kS11, .ref (cf1A e1 step room place 3)), (kS12, .int closed), (kS15, .int words)])⟩), ((cf1A e1 step room place 1), .vw ⟨.type "cell", none, (.cell (some (.int room)))⟩), ((cf1A e1 step room place 2), .vw ⟨.type "cell", none, (.cell (some (.int laid)))⟩), ((cf1A e1 step room place 3), .vw ⟨.ref 101, (some (cf1A e1 step room place 4)), .plain⟩), ((cf1A e1 step room place 4), .vw ⟨.type "dict", none, (.dict [(u_maxlen, .int room), (u_cws, .str uSp), (u_cwsl, .int 1), (u_split, .str uSemi), (u_lines, .ref (cf1A e1 step room place 7)), (u_cur, .ref (cf1A e1 step room place 5))])⟩), ((cf1A e1 step room place 5), .vw ⟨.ref 185, (some (cf1A e1 step room place 6)), (.seq [.ref x0, .ref x1, .ref x2, .ref x3, .ref x4, .ref x5])⟩), ((cf1A e1 step room place 6), .vw ⟨.type "dict", none, (.dict [(u_init, .int 0)])⟩), ((cf1A e1 step room place 7), .ob (OV.mk' (listV ls) κ)), (x0, .vw ⟨.type "tuple", none, (.seq [.str uE, .str uSemi])⟩), (x1, .vw ⟨.type "tuple", none, (.seq [.str uE, .str uSemi])⟩), (x2, .vw ⟨.type "tuple", none, (.seq [.str uE, .str uSemi])⟩), (x3, .vw ⟨.type "tuple", none, (.seq [.str uE, .str uSemi])⟩), (x4, .vw ⟨.type "tuple", none, (.seq [.str uE, .str uSemi])⟩), (x5, .vw ⟨.type "tuple", none, (.seq [.str uE, .str uSemi])⟩)], fun na => .ret (.int closed), fun na => [((cf1A e1 step room place 5), ⟨.ref 185, (some (cf1A e1 step room place 6)), (.seq [])⟩), ((cf1A e1 step room place 6), ⟨.type "dict", none, (.dict [(u_init, .int 0)])⟩), ((cf1A e1 step room place 7), (listV (ls ++ [.str kS35])))], fun na => [], [], fun na => []⟩
theorem cf2_6_e (w : World) (base : List Frame) (s : Shared) (e1 : Amb) (step room place : Int) (x0 x1 x2 x3 x4 x5 : Nat) (laid closed words n xe ate : Int) (ls rs : List VV) (κ : TK) (g1 : step ≠ 0) (g2 : 0 ≤ step) (g3 : step ≤ 6) (g4 : Builtin.divisionGoesByPylong ((place + 1 + step * room) - (place + 1)) step = false) (g5 : Builtin.Range.rangeSize (place + 1) (place + 1 + step * room) step = room) (g6 : smallR (place + 1) (place + 1 + step * room) step room = true) (hls : ls.length ≤ 1000) (hacc : 317 ≤ cf1A e1 step room place 5) (hr0 : room ≠ 0) (hdv : Builtin.divisionGoesByPylong (laid - 0) room = false) (hn : Builtin.Range.rangeSize 0 laid room = n) (hsm : smallR 0 laid room n = true) (hcs : ∀ it2 l2 d2 : Nat, Eff w (csH it2 l2 d2 (cf1A e1 step room place 0) (cf1A e1 step room place 1) (cf1A e1 step room place 2) laid room n xe ate rs)) (ha1 : allStr (ls ++ [.str kS35])) (hb1 : (strsOf (ls ++ [.str kS35])).toArray.foldl (· + ·.length + kS2.length) 0 ≤ 100000) (hc1 : (joinS kS2 (ls ++ [.str kS35])).length ≤ 100000) (ha2 : allStr rs) (hb2 : (strsOf rs).toArray.foldl (· + ·.length + kS2.length) 0 ≤ 100000) (hc2 : (joinS kS2 rs).length ≤ 100000) (hne : ((joinS kS2 (ls ++ [.str kS35])).cps.toList != (joinS kS2 rs).cps.toList) = false) (hS : WOk (some ksCR) (base.map Frame.where_)) : EffFr w (cf2_6H e1 step room place x0 x1 x2 x3 x4 x5 laid closed words n xe ate ls rs κ) base s ((cf1D w step room place g1 g2 g3 g4 g5 g6).R (fl1 w) (fl2 w) e1 (base.map Frame.where_)) (.ok .next) := by
  exact effFr rfl (wd [4,1,1,5,5,8,1,1,1] [5,6,7] [] 139 (dg 21 0xf05e14096609d6fd4db3983abe15447f2680fb2b45690a4c10c3478b3ae3eadd9d3120983608df8d21c1c7884) (fun e _ A G => [p2 (nl6_e w (cf1A e1 step room place 3) (cf1A e1 step room place 4) (cf1A e1 step room place 5) (cf1A e1 step room place 6) (cf1A e1 step room place 7) x0 x1 x2 x3 x4 x5 room ls (e.k 7) (by assumption) (by assumption)) [3,4,5,6,7,8,9,10,11,12,13] [5,6,7], p1 (e_join w kS2 (cf1A e1 step room place 7) ((e.τ 0).u 2) (ls ++ [.str kS35]) (by assumption) (by assumption) (by assumption)) [7], p0 (e_rnew w 0 laid room (by first | assumption | decide) (by assumption)), p1 (e_riter w (A 1) 0 laid room n hn hsm) [15], p2 (hcs (A 2) (A 3) (A 4)) [16,18,1,2,17] [16,18,17], p1 (e_join w kS2 (A 3) ((e.τ 4).u 2) rs (by assumption) (by assumption) (by assumption)) [17], p0 (e_sne w (joinS kS2 (ls ++ [.str kS35])) (joinS kS2 rs) (by assumption))]) (T := (.v (.v (.v (.v (.v (.v (.v (.o (.v (.v (.v (.v (.v (.v .nil))))))))))))))) (ut := fun e => [none, none, some ((e.τ 0).u 2)])) (fun b1 b2 W => (cf1D w step room place g1 g2 g3 g4 g5 g6).R b1 b2 e1 W) hS (by kernel_rfl)
theorem after_of {k : Hook} {na : Nat → Nat} {s s' : Shared} {as gs : List Nat} (R : Rel k.tabs as gs s s') (ha : ∀ a ∈ as, a ∈ (k.upd na).map Prod.fst) (hg : ∀ g ∈ gs, g ∈ (k.gupd na).map Prod.fst) (hu : Cells s'.heap (k.upd na)) (hn : k.news na = [])
    (ht : k.tabs = true → Tbls s'.heap) (hgu : ∀ q ∈ k.gupd na, s'.gens[q.1]? = some q.2) : After k na s s' :=
  ⟨R.size, fun b o e q t => R.keep b o e (fun m => q (ha b m)) t, hu, fun i q h => by rw [hn] at h; simp at h, fun i j hi => by rw [hn] at hi; exact absurd hi (Nat.not_lt_zero _), ht, R.toks, R.gsize, fun g y e q => R.gkeep g y e fun m => q (hg g m), hgu, R.bare, R.drawn, R.os⟩
theorem asks_here {w : World} {k : Hook} {base : List Frame} {s : Shared} {L : List (Nat × OV)} (A : Asks w k base s) (T : Tells k.need L) : Here w k.tabs L k.gneed s :=
  ⟨A.kt, A.tbl, T.cells A.need, by rw [T.fst]; exact A.nd, fun q hq => by
    have : q.1 ∈ k.need.map Prod.fst := T.fst ▸ List.mem_map_of_mem hq
    obtain ⟨q', hq', e⟩ := List.mem_map.mp this
    exact e ▸ A.high q' hq', A.gens, A.gnd⟩
theorem eff_of {w : World} {k : Hook} (h : ∀ (base : List Frame) (p : Pos) (s : Shared) (c : Code), k.c.Is c → Asks w k base s → ∃ na r s', Reach (Mo pw w) base s (den c) c p [] s' (.ret r) ∧ rv r = some (k.r na) ∧ After k na s s') : Eff w k :=
  fun base p s c hc hb hs hkt htb hn hnd hh hg hgn => h base p s c hc ⟨hb, hs, hkt, htb, hn, hnd, hh, hg, hgn⟩
structure CC where
  it2 : Nat
  l2 : Nat
  d2 : Nat
  fr : Nat
  cr : Nat
  cl : Nat
noncomputable abbrev CC.C (a : CC) : Code := crCL a.it2 a.l2 a.d2 a.fr a.cr a.cl
noncomputable def ctH (a : CC) (at' left room laid : Int) (dv : OV) (ls : List VV) (κ : TK) (m : Nat) : Hook := ⟨false, .code a.C, some ksCL, [(a.it2, .vw (ritV at' left room)), (a.d2, .vw dv), (a.cr, .vw (cellV room)), (a.cl, .vw (cellV laid)), (a.l2, .ob ((listV ls).mk' κ))], fun _ => .next, fun _ => [(a.it2, ritV (at' + room) (left - 1) room), (a.d2, dictV [(s_at, .int at')]), (a.l2, listV (ls ++ [.str (rep 59 m)]))], fun _ => [], [], fun _ => []⟩
noncomputable def dvOf : Option Int → OV
  | none => dictV []
  | some p => dictV [(s_at, .int p)]
theorem ct_turn (w : World) (a : CC) (at' left room laid : Int) (pr : Option Int) (ls : List VV) (κ : TK) (h : 0 < left) (h0 : 0 ≤ laid - at') (h1 : laid ≤ 1000) (h2 : 0 ≤ at') (hr : 0 ≤ room) (hr6 : room ≤ 6) (hls : ls.length ≤ 1000) :
    Turn w (ctH a at' left room laid (dvOf pr) ls κ (if laid - at' < room then laid - at' else room).toNat) a.C := by
  by_cases q : laid - at' < room
  · rw [if_pos q]
    cases pr with
    | none => exact clA0_e w a.it2 a.l2 a.d2 a.fr a.cr a.cl at' left room laid 0 ls κ h (decide_eq_true q) h0 (by omega) hls
    | some p => exact clA1_e w a.it2 a.l2 a.d2 a.fr a.cr a.cl at' left room laid p ls κ h (decide_eq_true q) h0 (by omega) hls
  · rw [if_neg q]
    cases pr with
    | none => exact clB0_e w a.it2 a.l2 a.d2 a.fr a.cr a.cl at' left room laid 0 ls κ h (decide_eq_false q) hr (by omega) hls
    | some p => exact clB1_e w a.it2 a.l2 a.d2 a.fr a.cr a.cl at' left room laid p ls κ h (decide_eq_false q) hr (by omega) hls
noncomputable def rowsTo (r m : Nat) : Nat → List VV
  | 0 => []
  | i + 1 => rowsTo r m i ++ [.str (rep 59 (if m - i * r < r then m - i * r else r))]
theorem rowsTo_len (r m i : Nat) : (rowsTo r m i).length = i := by
  induction i with
  | zero => rfl
  | succ i ih => unfold rowsTo; rw [List.length_append, ih]; rfl
noncomputable def LC (a : CC) (x left : Int) (pr : Option Int) (room laid : Int) (ls : List VV) : List (Nat × OV) := [(a.it2, ritV x left room), (a.d2, dvOf pr), (a.cr, cellV room), (a.cl, cellV laid), (a.l2, listV ls)]
theorem cc_go (w : World) (a : CC) (r m n : Nat) (hr : 1 ≤ r) (h6 : r ≤ 6) (hm : m ≤ 1000) (hn : (n - 1) * r < m) (base : List Frame) (hb : Bot base) (hs : Spine ksCL base) :
    ∀ (d i : Nat), i + d = n → ∀ (pr : Option Int) (s : Shared) (p : Pos), (d = 0 → pr = some (((n - 1) * r : Nat) : Int)) → Here w false (LC a (i * r : Nat) (d : Nat) pr (r : Nat) (m : Nat) (rowsTo r m i)) [] s →
    ∃ s', Reach (Mo pw w) base s (den a.C) a.C p [] s' (.ret (.ok .next)) ∧ Here w false (LC a (n * r : Nat) 0 (some (((n - 1) * r : Nat) : Int)) (r : Nat) (m : Nat) (rowsTo r m n)) [] s' ∧ Rel false [a.it2, a.d2, a.l2] [] s s' := by
  intro d
  induction d with
  | zero =>
    intro i hi pr s p hpr H
    obtain rfl : i = n := by omega
    rw [hpr rfl] at H
    obtain ⟨na, r', s', R, hr', Af⟩ := (cle_e w a.it2 a.l2 a.d2 a.fr a.cr a.cl (i * r : Nat) (r : Nat)).go p rfl (H.asksI hb hs [0])
    obtain ⟨t, rfl⟩ := rv_mk hr'
    exact ⟨s', R, Af.hereI H [] [(2,0), (2,1), (2,2), (2,3), (2,4)], (Rel.refl false _ _ s).within Af.rel an an (fun h => by cases h)⟩
  | succ d ih =>
    intro i hi pr s p _ H
    have e1 : (i + 1) * r = i * r + r := Nat.succ_mul i r
    have hle : i * r ≤ (n - 1) * r := Nat.mul_le_mul_right r (by omega)
    have hn1000 : i ≤ 1000 := by
      have : i * 1 ≤ i * r := Nat.mul_le_mul_left i hr
      omega
    obtain ⟨κ, hκ⟩ := H.obj (a := a.l2) (v := listV (rowsTo r m i)) (.tail _ (.tail _ (.tail _ (.tail _ (.head _))))) rfl
    have hmin : (if ((m : Nat) : Int) - (i * r : Nat) < (r : Nat) then ((m : Nat) : Int) - (i * r : Nat) else (r : Nat)).toNat = if m - i * r < r then m - i * r else r := by
      split <;> split <;> omega
    have T := ct_turn w a (i * r : Nat) ((d + 1 : Nat) : Int) (r : Nat) (m : Nat) pr (rowsTo r m i) κ (by omega) (by omega) (by omega) (by omega) (by omega) (by omega) (by rw [rowsTo_len]; omega)
    rw [hmin] at T
    obtain ⟨na, s1, ⟨p', G⟩, Af⟩ := T.go (base := base) (s := s) p rfl (H.asksO hb hs [(0, none), (1, none), (2, none), (3, none), (4, some _)] (ac no_ob (ac no_ob (ac no_ob (ac no_ob (ac (the_ob hκ) an))))))
    have H1 : Here w false (LC a ((i * r : Nat) + (r : Nat)) (((d + 1 : Nat) : Int) - 1) (some ((i * r : Nat) : Int)) (r : Nat) (m : Nat) (rowsTo r m (i + 1))) [] s1 := Af.hereI H [0,1,4] [(0,0), (0,1), (2,2), (2,3), (0,2)]
    have e2 : (((i + 1) * r : Nat) : Int) = (i * r : Nat) + (r : Nat) := by omega
    have e3 : ((d + 1 : Nat) : Int) - 1 = (d : Nat) := by omega
    rw [← e2, e3] at H1
    obtain ⟨s', R, H', R'⟩ := ih (i + 1) (by omega) (some ((i * r : Nat) : Int)) s1 p' (fun h => by subst h; rw [show n - 1 = i by omega]) H1
    exact ⟨s', G _ _ R, H', ((Rel.refl false _ _ s).within Af.rel (fun x hx => .inl hx) an (fun h => by cases h)).trans R'⟩
theorem e_cs (w : World) (a : CC) (r m n : Nat) (hr : 1 ≤ r) (h6 : r ≤ 6) (hm : m ≤ 1000) (h1 : 1 ≤ n) (hn : (n - 1) * r < m) : Eff w (csH a.it2 a.l2 a.d2 a.fr a.cr a.cl (m : Nat) (r : Nat) (n : Nat) (n * r : Nat) ((n - 1) * r : Nat) (rowsTo r m n)) := eff_of fun base p s c hc A => by
  obtain rfl : c = _ := hc
  have H := asks_here A (L := LC a 0 (n : Nat) none (r : Nat) (m : Nat) []) (vws_tells _)
  have hs : Spine ksCL base := A.sp _ rfl
  have start : ∃ s1, GoTo w base s (crCS a.it2 a.l2 a.d2 a.fr a.cr a.cl) p s1 a.C ∧ Here w false (LC a 0 (n : Nat) none (r : Nat) (m : Nat) []) [] s1 ∧ Rel false [] [] s s1 := by
    cases hb2 : fl2 w with
    | true =>
      obtain ⟨na, s1, G, Af⟩ := (csT_e w a.it2 a.l2 a.d2 a.fr a.cr a.cl 0 (n : Nat) (r : Nat) hb2).go (base := base) (s := s) p rfl (H.asksI A.bot hs [0])
      exact ⟨s1, G, Af.hereI H [] [(2,0), (2,1), (2,2), (2,3), (2,4)], Af.rel⟩
    | false =>
      obtain ⟨na, s1, G, Af⟩ := (csF_e w a.it2 a.l2 a.d2 a.fr a.cr a.cl 0 (n : Nat) (r : Nat) hb2).go (base := base) (s := s) p rfl (H.asksI A.bot hs [0])
      exact ⟨s1, G, Af.hereI H [] [(2,0), (2,1), (2,2), (2,3), (2,4)], Af.rel⟩
  obtain ⟨s1, ⟨p', G⟩, H1, R1⟩ := start
  obtain ⟨s2, R, H2, R2⟩ := cc_go w a r m n hr h6 hm hn base A.bot hs n 0 (by omega) none s1 p' (fun h => by omega) (by rw [Nat.zero_mul]; exact H1)
  exact ⟨fun _ => 0, _, s2, G _ _ R, rfl, after_gen (((Rel.refl false _ _ s).within R1 an an (fun h => h)).trans R2) H2 [0,1,4] [] an⟩
theorem strsOf_app (l m : List VV) : strsOf (l ++ m) = strsOf l ++ strsOf m := by
  induction l with
  | nil => rfl
  | cons v l ih => show _ :: strsOf (l ++ m) = _ :: (strsOf l ++ strsOf m); rw [ih]
theorem allStr_app {l m : List VV} (h : allStr l) (h' : allStr m) : allStr (l ++ m) := by
  induction l with
  | nil => exact h'
  | cons v l ih => exact ⟨h.1, ih h.2⟩
theorem rowsTo_all (r m i : Nat) : allStr (rowsTo r m i) := by
  induction i with
  | zero => exact trivial
  | succ i ih => exact allStr_app ih ⟨⟨_, rfl⟩, trivial⟩
theorem fold_add (n : Nat) : ∀ (l : List Str) (a : Nat), l.foldl (fun x s => x + s.length + n) a = a + l.foldl (fun x s => x + s.length + n) 0
  | [], a => by simp
  | s :: l, a => by
    rw [List.foldl_cons, List.foldl_cons, fold_add n l, fold_add n l (0 + s.length + n)]
    omega
theorem rowsTo_sum (r m i : Nat) : (strsOf (rowsTo r m i)).foldl (fun x s => x + s.length + 1) 0 ≤ i * (r + 1) := by
  induction i with
  | zero => exact Nat.zero_le _
  | succ i ih =>
    unfold rowsTo
    rw [strsOf_app, List.foldl_append]
    show _ + (rep 59 _).length + 1 ≤ _
    rw [rep_len, Nat.succ_mul]
    split <;> omega
theorem glue_size (sep : Array Nat) : ∀ (l : List Str) (a : Array Nat), (l.foldl (fun acc p => acc ++ sep ++ p.cps) a).size = a.size + l.foldl (fun x s => x + s.length + sep.size) 0
  | [], a => by simp
  | s :: l, a => by
    rw [List.foldl_cons, List.foldl_cons, glue_size sep l, fold_add sep.size l (0 + s.length + sep.size), Array.size_append, Array.size_append]
    show a.size + sep.size + s.length + _ = _
    omega
theorem glued_le (sep : Str) (l : List Str) : (Builtin.Str.glued sep l).length ≤ l.foldl (fun x s => x + s.length + sep.length) 0 := by
  cases l with
  | nil => exact Nat.le_refl _
  | cons s l =>
    show ((l.foldl (fun acc p => acc ++ sep.cps ++ p.cps) s.cps).size) ≤ _
    rw [glue_size, List.foldl_cons, fold_add sep.length l (0 + s.length + sep.length)]
    show s.length + _ ≤ _
    have : sep.length = sep.cps.size := rfl
    rw [this]
    omega
theorem rows_eq (r m : Nat) (h1 : 1 ≤ r) (h6 : r ≤ 6) (hm : 1 ≤ m) : rowsTo r m ((m - 1) / r + 1) = lsOf r m ++ [.str (semis (kOf r m))] := by
  have key : ∀ q, q ≤ (m - 1) / r → rowsTo r m q = List.replicate q (.str (semis r)) := fun q => by
    induction q with
    | zero => intro _; rfl
    | succ q ih =>
      intro hq
      unfold rowsTo
      rw [ih (by omega), List.replicate_succ']
      have h2 : (q + 1) * r ≤ m - 1 := Nat.le_trans (Nat.mul_le_mul_right r hq) (Nat.div_mul_le_self _ _)
      have h3 : (q + 1) * r = q * r + r := Nat.succ_mul q r
      rw [if_neg (by omega)]
      rfl
  show rowsTo r m ((m - 1) / r) ++ _ = _
  rw [key _ (Nat.le_refl _)]
  have e : m - (m - 1) / r * r = kOf r m := by
    unfold kOf
    rw [Nat.mul_comm]
  have hk := kOf_le (n := m) h1
  rw [e]
  unfold lsOf
  congr 3
  split
  · rfl
  · rw [show kOf r m = r by omega]; rfl
theorem small_of (a b c n : Int) (h : -1000000 ≤ a ∧ a ≤ 1000000) (hb : -1000000 ≤ b ∧ b ≤ 1000000) (hc : 0 < c ∧ c ≤ 1000000) (hn : 0 ≤ n ∧ n ≤ 1000000) : smallR a b c n = true := by
  unfold smallR Builtin.Range.rangeFitsLong
  rw [if_pos (by omega)]
  simp only [Bool.and_eq_true, Bool.or_eq_true, decide_eq_true_eq]
  refine ⟨⟨⟨⟨⟨?_, ?_⟩, ⟨?_, ?_⟩⟩, ⟨?_, ?_⟩⟩, ⟨?_, ?_⟩⟩, .inr ⟨?_, ?_⟩⟩ <;> omega
theorem size_up (a b c : Int) (hc : 0 < c) (h : a < b) : Builtin.Range.rangeSize a b c = (b - a - 1) / c + 1 := by
  unfold Builtin.Range.rangeSize
  rw [if_pos hc, if_pos h]
noncomputable def caOf (ν : Nat → Nat) (S P r : Int) : CA := ⟨ν 0, ν 1, ν 2, ν 3, ν 4, ν 5, ν 6, ν 7, S, P, r⟩
noncomputable def r2N (a : CA) (laid closed words : Int) (ls : List VV) (κ : TK) (ys : List Nat) : List (Nat × SV) := (a.fr, .vw (crFrV a.mq a.step a.place closed words)) :: (a.cr, .vw (cellV a.room)) :: (a.cl, .vw (cellV laid)) :: (a.mq, .vw (mkrV a.md)) :: (a.md, .vw (mdV a.room a.ln a.acc)) :: (a.acc, .vw (accV a.ad (ys.map .ref))) :: (a.ad, .vw adV) :: (a.ln, .ob (OV.mk' (listV ls) κ)) :: vws (items ys)
noncomputable def r2H (a : CA) (laid closed words : Int) (ls : List VV) (κ : TK) (ys : List Nat) : Hook := ⟨true, .call (.ref 292) [.int a.step, .int a.room, .int a.place], some ksCR, r2N a laid closed words ls κ ys, fun _ => .ret (.int closed), fun _ => [(a.acc, accV a.ad []), (a.ad, adV), (a.ln, listV (ls ++ [.str (semis ys.length)]))], fun _ => [], [], fun _ => []⟩
theorem r2_at (w : World) (base : List Frame) (s : Shared) (e1 : Amb) (S r P : Int) (ys : List Nat) (laid closed words n xe ate : Int) (ls rs : List VV) (κ : TK) (g1 : S ≠ 0) (g2 : 0 ≤ S) (g3 : S ≤ 6) (g4 : Builtin.divisionGoesByPylong ((P + 1 + S * r) - (P + 1)) S = false) (g5 : Builtin.Range.rangeSize (P + 1) (P + 1 + S * r) S = r) (g6 : smallR (P + 1) (P + 1 + S * r) S r = true) (hk1 : 1 ≤ ys.length) (hk6 : ys.length ≤ 6)
    (hls : ls.length ≤ 1000) (hacc : 317 ≤ cf1A e1 S r P 5) (hr0 : r ≠ 0) (hdv : Builtin.divisionGoesByPylong (laid - 0) r = false) (hn : Builtin.Range.rangeSize 0 laid r = n) (hsm : smallR 0 laid r n = true)
    (hcs : ∀ it2 l2 d2 : Nat, Eff w (csH it2 l2 d2 (cf1A e1 S r P 0) (cf1A e1 S r P 1) (cf1A e1 S r P 2) laid r n xe ate rs))
    (he : ls ++ [.str (semis ys.length)] = rs) (ha : allStr rs) (hb : (strsOf rs).foldl (fun x s => x + s.length + 1) 0 ≤ 100000) (hS : WOk (some ksCR) (base.map Frame.where_)) :
    EffFr w (r2H (caOf (cf1A e1 S r P) S P r) laid closed words ls κ ys) base s ((cf1D w S r P g1 g2 g3 g4 g5 g6).R (fl1 w) (fl2 w) e1 (base.map Frame.where_)) (.ok .next) := by
  have hb' : (strsOf rs).toArray.foldl (fun x1 x2 => x1 + x2.length + kS2.length) 0 ≤ 100000 := by
    rw [List.foldl_toArray]
    exact hb
  have hc : (joinS kS2 rs).length ≤ 100000 := Nat.le_trans (glued_le _ _) hb
  have hne : ((joinS kS2 rs).cps.toList != (joinS kS2 rs).cps.toList) = false := by simp
  match ys, hk1, hk6 with
  | [x0], _, _ =>
    have he : ls ++ [.str kS40] = rs := he
    exact cf2_1_e w base s e1 S r P x0 laid closed words n xe ate ls rs κ g1 g2 g3 g4 g5 g6 hls hacc hr0 hdv hn hsm hcs (by rw [he]; exact ha) (by rw [he]; exact hb') (by rw [he]; exact hc) ha hb' hc (by rw [he]; exact hne) hS
  | [x0, x1], _, _ =>
    have he : ls ++ [.str kS31] = rs := he
    exact cf2_2_e w base s e1 S r P x0 x1 laid closed words n xe ate ls rs κ g1 g2 g3 g4 g5 g6 hls hacc hr0 hdv hn hsm hcs (by rw [he]; exact ha) (by rw [he]; exact hb') (by rw [he]; exact hc) ha hb' hc (by rw [he]; exact hne) hS
  | [x0, x1, x2], _, _ =>
    have he : ls ++ [.str kS32] = rs := he
    exact cf2_3_e w base s e1 S r P x0 x1 x2 laid closed words n xe ate ls rs κ g1 g2 g3 g4 g5 g6 hls hacc hr0 hdv hn hsm hcs (by rw [he]; exact ha) (by rw [he]; exact hb') (by rw [he]; exact hc) ha hb' hc (by rw [he]; exact hne) hS
  | [x0, x1, x2, x3], _, _ =>
    have he : ls ++ [.str kS33] = rs := he
    exact cf2_4_e w base s e1 S r P x0 x1 x2 x3 laid closed words n xe ate ls rs κ g1 g2 g3 g4 g5 g6 hls hacc hr0 hdv hn hsm hcs (by rw [he]; exact ha) (by rw [he]; exact hb') (by rw [he]; exact hc) ha hb' hc (by rw [he]; exact hne) hS
  | [x0, x1, x2, x3, x4], _, _ =>
    have he : ls ++ [.str kS34] = rs := he
    exact cf2_5_e w base s e1 S r P x0 x1 x2 x3 x4 laid closed words n xe ate ls rs κ g1 g2 g3 g4 g5 g6 hls hacc hr0 hdv hn hsm hcs (by rw [he]; exact ha) (by rw [he]; exact hb') (by rw [he]; exact hc) ha hb' hc (by rw [he]; exact hne) hS
  | [x0, x1, x2, x3, x4, x5], _, _ =>
    have he : ls ++ [.str kS35] = rs := he
    exact cf2_6_e w base s e1 S r P x0 x1 x2 x3 x4 x5 laid closed words n xe ate ls rs κ g1 g2 g3 g4 g5 g6 hls hacc hr0 hdv hn hsm hcs (by rw [he]; exact ha) (by rw [he]; exact hb') (by rw [he]; exact hc) ha hb' hc (by rw [he]; exact hne) hS
  | _ :: _ :: _ :: _ :: _ :: _ :: _ :: l, _, hk => exact absurd hk (by simp)
noncomputable def crH (S r P : Nat) : Hook := ⟨true, .call (.ref 292) [.int (S : Nat), .int (r : Nat), .int (P : Nat)], some ksCR, [], fun _ => .ret (.int (cS P S r r : Nat)), fun _ => [], fun _ => [], [], fun _ => []⟩
theorem e_cr (w : World) (S r P : Nat) (hS1 : 1 ≤ S) (hS6 : S ≤ 6) (h1 : 1 ≤ r) (h6 : r ≤ 6) (hP : P ≤ 8) : Eff w (crH S r P) := eff_of fun base p s c hc A => by
  have H := asks_here A (L := []) .nil
  have hspc : Spine ksCR base := A.sp _ rfl
  have hSr : S * r ≤ 6 * 6 := Nat.mul_le_mul hS6 h6
  have hSr1 : 1 * 1 ≤ S * r := Nat.mul_le_mul hS1 h1
  have eSr : ((S : Nat) : Int) * (r : Nat) = ((S * r : Nat) : Int) := by simp
  have hn : Builtin.Range.rangeSize ((P : Nat) + 1) ((P : Nat) + 1 + (S : Nat) * (r : Nat)) (S : Nat) = (r : Nat) := by
    rw [size_up _ _ _ (by omega) (by rw [eSr]; omega)]
    have e1 : ((P : Nat) : Int) + 1 + (S : Nat) * (r : Nat) - ((P : Nat) + 1) - 1 = (((S * r : Nat) - 1 : Nat) : Int) := by rw [eSr]; omega
    rw [e1]
    have e2 : (S * r - 1) / S + 1 = r := by
      have : S * r - 1 = (S - 1) + S * (r - 1) := by
        rw [Nat.mul_sub, Nat.mul_one]
        have : S * 1 ≤ S * r := Nat.mul_le_mul_left S h1
        omega
      rw [this, Nat.add_mul_div_left _ _ (by omega), Nat.div_eq_of_lt (by omega)]
      omega
    omega
  have g6 := small_of ((P : Nat) + 1) ((P : Nat) + 1 + (S : Nat) * (r : Nat)) (S : Nat) (r : Nat) (by omega) (by rw [eSr]; omega) (by omega) (by omega)
  have g1 : ((S : Nat) : Int) ≠ 0 := by omega
  have g2 : (0 : Int) ≤ (S : Nat) := by omega
  have g3 : ((S : Nat) : Int) ≤ 6 := by omega
  have g4 := dgp_small ((P : Nat) + 1 + (S : Nat) * (r : Nat) - ((P : Nat) + 1)) (S : Nat) (by omega)
  obtain ⟨na, s1, e1, hna, ⟨fr0, hB, hSp, -, p1, G1⟩, Af1⟩ := (cf1_e w (S : Nat) (r : Nat) (P : Nat) g1 g2 g3 g4 hn g6) base p s c hc (H.asksI A.bot hspc [])
  obtain rfl : na = cf1A e1 (S : Nat) (r : Nat) (P : Nat) := hna
  have hnew : ∀ i v, ((cf1H (S : Nat) (r : Nat) (P : Nat)).news (cf1A e1 (S : Nat) (r : Nat) (P : Nat)))[i]? = some v → s.heap.objs.size ≤ cf1A e1 (S : Nat) (r : Nat) (P : Nat) i := fun i v h => (Af1.new i v h).1
  have H1 : Here w true (F8 (caOf (cf1A e1 (S : Nat) (r : Nat) (P : Nat)) (S : Nat) (P : Nat) (r : Nat)) (cf1A e1 (S : Nat) (r : Nat) (P : Nat) 8) (r : Nat) (crFr0 (cf1A e1 (S : Nat) (r : Nat) (P : Nat) 3) (S : Nat) (P : Nat) 0) 0 (P + 1 : Nat) (r : Nat) [] [] ++ [(cf1A e1 (S : Nat) (r : Nat) (P : Nat) 1, cellV (r : Nat))]) [] s1 := Af1.hereI H [] [(1,0), (1,2), (1,3), (1,4), (1,5), (1,6), (1,7), (1,8), (1,1)]
  generalize hna : cf1A e1 (S : Nat) (r : Nat) (P : Nat) = na at *
  let a := caOf na (S : Nat) (P : Nat) (r : Nat)
  have hbig := big H.kt
  have hacc : 317 ≤ a.acc := Nat.le_trans hbig (hnew 5 _ rfl)
  obtain ⟨ys, s2, R2, hy, H2, Rl2, hys⟩ := crf_go w a (na 8) r P S rfl rfl h1 h6 hS6 hP hacc (fr0 :: base) (hB A.bot) (hSp _ hspc) s1 p1 H1.left
  let m := P + 1 + (r - 1) * S
  have hm : m = P + 1 + (r - 1) * S := rfl
  have hm40 : m ≤ 40 := by
    have : (r - 1) * S ≤ 5 * 6 := Nat.mul_le_mul (by omega) hS6
    omega
  have H2 : Here w true (F8 a (na 8) (r : Nat) (crFrV (na 3) (S : Nat) (P : Nat) (cS P S r r : Nat) (m : Nat)) (m : Nat) (P + 1 + r * S : Nat) 0 (lsOf r m) ys ++ items ys) [] s2 := H2.perm (tri (F7' a (r : Nat) (crFrV (na 3) (S : Nat) (P : Nat) (cS P S r r : Nat) (m : Nat)) (m : Nat) (lsOf r m) ys) (items ys) [(na 8, ritV (P + 1 + r * S : Nat) 0 (S : Nat))]).symm
  have H1' : Here w true (F8 a (na 8) (r : Nat) (crFr0 (na 3) (S : Nat) (P : Nat) 0) 0 (P + 1 : Nat) (r : Nat) [] [] ++ [(na 1, cellV (r : Nat))] ++ []) [] s1 := by rw [List.append_nil]; exact H1
  have H2' := H1'.frameX H2 Rl2 (fun q h => .inr (hys _ (items_mem h).1)) [0,7,1,4,5,6] [0,1,2,3,4,5,6,7] [8]
  obtain ⟨κ, hκ⟩ := H2.obj (a := a.ln) (v := listV (lsOf r m)) (List.mem_append_left _ (.tail _ (.tail _ (.tail _ (.tail _ (.tail _ (.tail _ (.head _)))))))) rfl
  have hk1 : 1 ≤ ys.length := by
    rw [hy]
    unfold kOf
    have : r * ((P + 1 + (r - 1) * S - 1) / r) ≤ P + 1 + (r - 1) * S - 1 := Nat.mul_div_le _ _
    omega
  have hk6 : ys.length ≤ 6 := by
    rw [hy]
    exact Nat.le_trans (kOf_le h1) h6
  have hq1 : (m - 1) / r * r ≤ m - 1 := Nat.div_mul_le_self _ _
  have hq2 : (m - 1) / r ≤ m - 1 := Nat.div_le_self _ _
  have hrows := rows_eq r m h1 h6 (by omega)
  generalize hqd : (m - 1) / r = q at hq1 hq2 hrows
  have f1 : (lsOf r m).length ≤ 1000 := by unfold lsOf; rw [List.length_replicate, hqd]; omega
  have f2 : Builtin.Range.rangeSize 0 (m : Nat) (r : Nat) = (q + 1 : Nat) := by
    rw [size_up _ _ _ (by omega) (by omega)]
    have e1 : ((m : Nat) : Int) - 0 - 1 = ((m - 1 : Nat) : Int) := by omega
    rw [e1, show ((m - 1 : Nat) : Int) / (r : Nat) = (((m - 1) / r : Nat) : Int) from (Int.natCast_ediv _ _).symm, hqd]
    omega
  have f3 : (strsOf (rowsTo r m (q + 1))).foldl (fun x s => x + s.length + 1) 0 ≤ 100000 := by
    refine Nat.le_trans (rowsTo_sum r m _) ?_
    have : (q + 1) * (r + 1) ≤ 40 * 7 := Nat.mul_le_mul (by omega) (by omega)
    omega
  have f4 := small_of 0 (m : Nat) (r : Nat) (q + 1 : Nat) (by omega) (by omega) (by omega) (by omega)
  have f5 := dgp_small ((m : Nat) - 0) (r : Nat) (by omega)
  have hEq := r2_at w base s2 e1 (S : Nat) (r : Nat) (P : Nat) ys (m : Nat) (cS P S r r : Nat) (m : Nat) (q + 1 : Nat) ((q + 1) * r : Nat) ((q + 1 - 1) * r : Nat) (lsOf r m) (rowsTo r m (q + 1)) κ g1 g2 g3 g4 hn g6 hk1 hk6 f1 (by rw [hna]; exact hacc) (by omega) f5 f2 f4
    (fun it2 l2 d2 => e_cs w ⟨it2, l2, d2, _, _, _⟩ r m (q + 1) h1 h6 (by omega) (by omega) (by rw [Nat.add_sub_cancel]; omega)) (by rw [hrows, hy]) (rowsTo_all _ _ _) f3 hspc
  rw [hna] at hEq
  obtain ⟨na2, rr, s3, R3, hr3, Af3⟩ := hEq (H2'.asksX A.bot hspc [(0, none), (8, none), (1, none), (2, none), (3, none), (4, none), (5, none), (6, some _)] (items ys) (ac no_ob (ac no_ob (ac no_ob (ac no_ob (ac no_ob (ac no_ob (ac no_ob (ac (the_ob hκ) an)))))))) (.inl rfl))
  have RR : Rel true [] [] s s3 := (((Rel.refl true [] [] s).within Af1.rel an an (fun h => by cases h)).within Rl2 (ac (.inr (.inl (hnew 0 _ rfl))) (ac (.inr (.inl (hnew 8 _ rfl))) (ac (.inr (.inl (hnew 2 _ rfl))) (ac (.inr (.inl (hnew 5 _ rfl))) (ac (.inr (.inl (hnew 6 _ rfl))) (ac (.inr (.inl (hnew 7 _ rfl))) an)))))) an (fun h => h)).within Af3.rel (ac (.inr (.inl (hnew 5 _ rfl))) (ac (.inr (.inl (hnew 6 _ rfl))) (ac (.inr (.inl (hnew 7 _ rfl))) an))) an (fun h => h)
  exact ⟨fun _ => 0, rr, s3, G1 s2 _ R2 s3 _ R3, hr3, after_of (as := []) (gs := []) RR an an (fun q hq => nomatch hq) rfl (fun _ => Af3.tbl rfl) (fun q hq => nomatch hq)⟩
noncomputable def giE (gf : Nat) : Env := envF (stm 3) gf [] (strOf "_grouping_intervals.<locals>.") 28 27
noncomputable def giF (gf : Nat) : GenState := .fresh (.func (inner (stm 3)) (giE gf))
noncomputable def ksNX : List Kd := [.biR "next", .func, .fo, .func, .bi "claim.caller"]
noncomputable def ksNW : List Kd := [.biR "next", .wh, .fo, .func, .fo, .func, .bi "claim.caller"]
noncomputable def P0 : Params := { strHash := fun _ => 0, shareClass := fun _ => 0, mergeTok := fun t => t, idOf := fun _ => 0, idOfShared := fun _ _ => 0, followText := fun _ => false, idOfImm := fun _ => 0 }
noncomputable def cp0 : Nat → Cp := fun _ => ⟨[], [], default, noE, .none, ⟨[], []⟩, default, 0, ""⟩
noncomputable def dk : TK := ⟨fun _ => 0, fun _ => 0, fun _ => 0,0⟩
noncomputable def τ0 : Nat → HT := fun _ => ⟨0,0,0,0, fun _ => 0, fun _ => dk, fun _ => dk⟩
noncomputable def k0 : Nat → TK := fun _ => dk
noncomputable def gst1 (gf li : Nat) : GenState := match nthG (outOf (ev (mkV P0 true true false [0, gf, 1] 3 li 0 0 [0] (some ksNX) (buildW ksNX cp0 0)) τ0 72 (mkO (fun _ => []) (dg 16 0x11313113335545551515414433311122) 0) (mkX [⟨.type "generator", none, (.fields [.int ((0 : Nat) : Int), .str kS13, .str kS13])⟩, ⟨.type "frame", none, (.dict [(kS20, .ref 1)])⟩, ⟨.type "list", none, (.seq [.int 3, .int 0])⟩] k0 [(0, giF gf)] (den (.call (.builtin "generator.__next__") ⟨[.ref 0], []⟩)) (.call (.builtin "generator.__next__") ⟨[.ref 0], []⟩) default []))).gl 0 with
  | some x => x.2
  | none => .finished
noncomputable def gst2 (gf li : Nat) : GenState := match nthG (outOf (ev (mkV P0 true true false [0, gf, 1, li] 4 li 0 0 [0] (some ksNX) (buildW ksNX cp0 0)) τ0 67 (mkO (fun _ => []) (dg 16 0x1131313113335545551533311122) 0) (mkX [⟨.type "generator", none, (.fields [.int ((0 : Nat) : Int), .str kS13, .str kS13])⟩, ⟨.type "frame", none, (.dict [(kS20, .ref 1), (kS26, .none), (kS27, .int 3)])⟩, ⟨.type "list", none, (.seq [.int 3, .int 0])⟩, ⟨.type "list_iterator", none, (.fields [.ref 1, .int 1])⟩] k0 [(0, gst1 gf li)] (den (.call (.builtin "generator.__next__") ⟨[.ref 0], []⟩)) (.call (.builtin "generator.__next__") ⟨[.ref 0], []⟩) default []))).gl 0 with
  | some x => x.2
  | none => .finished
noncomputable def ng1H (g gi gf gl : Nat) (room : Int) : Hook := ⟨false, .call (.bi "generator.__next__") [.ref g], (some ksNX), [(g, .vw ⟨.type "generator", none, (.fields [.int ((gi : Nat) : Int), .str kS13, .str kS13])⟩), (gf, .vw ⟨.type "frame", none, (.dict [(kS20, .ref gl)])⟩), (gl, .vw ⟨.type "list", none, (.seq [.int room, .int 0])⟩)], fun na => .ret (.int room), fun na => [(gf, ⟨.type "frame", none, (.dict [(kS20, .ref gl), (kS26, .none), (kS27, .int room)])⟩)], fun na => [⟨.type "list_iterator", none, (.fields [.ref gl, .int 1])⟩], [(gi, giF gf)], fun na => [(gi, gst1 gf (na 0))]⟩
theorem ng1_e (w : World) (g gi gf gl : Nat) (room : Int) (h1 : (room == 127) = false) (h2 : (room == 0) = false) : Eff w (ng1H g gi gf gl room) :=
  effW rfl (wd [4,1,1] [1] [0] 68 (dg 16 0x11303013335545551515414433311122) (fun e _ A G => [p0 (e_eq' w ‹(room == 127) = false›), p0 (e_eq' w ‹(room == 0) = false›)]) (T := (.v (.v (.v .nil))))) (by kernel_rfl)
noncomputable def ng2H (g gi gf gl li : Nat) (room : Int) : Hook := ⟨false, .call (.bi "generator.__next__") [.ref g], (some ksNW), [(g, .vw ⟨.type "generator", none, (.fields [.int ((gi : Nat) : Int), .str kS13, .str kS13])⟩), (gf, .vw ⟨.type "frame", none, (.dict [(kS20, .ref gl), (kS26, .none), (kS27, .int room)])⟩), (gl, .vw ⟨.type "list", none, (.seq [.int room, .int 0])⟩), (li, .vw ⟨.type "list_iterator", none, (.fields [.ref gl, .int 1])⟩)], fun na => .ret (.int room), fun na => [(gf, ⟨.type "frame", none, (.dict [(kS20, .ref gl), (kS26, .int room), (kS27, .int 0)])⟩), (li, ⟨.type "list_iterator", none, (.fields [.ref gl, .int 2])⟩)], fun na => [], [(gi, gst1 gf li)], fun na => [(gi, gst2 gf li)]⟩
theorem ng2_e (w : World) (g gi gf gl li : Nat) (room : Int)  : Eff w (ng2H g gi gf gl li room) :=
  effW rfl (wd [] [1,3] [] 67 (dg 16 0x1131313113335545551533311122) (T := (.v (.v (.v (.v .nil)))))) (by kernel_rfl)
noncomputable def ng3H (g gi gf gl li : Nat) (room : Int) : Hook := ⟨false, .call (.bi "generator.__next__") [.ref g], (some ksNW), [(g, .vw ⟨.type "generator", none, (.fields [.int ((gi : Nat) : Int), .str kS13, .str kS13])⟩), (gf, .vw ⟨.type "frame", none, (.dict [(kS20, .ref gl), (kS26, .int room), (kS27, .int 0)])⟩), (gl, .vw ⟨.type "list", none, (.seq [.int room, .int 0])⟩), (li, .vw ⟨.type "list_iterator", none, (.fields [.ref gl, .int 2])⟩)], fun na => .ret (.int room), fun na => [], fun na => [], [(gi, gst2 gf li)], fun na => [(gi, gst2 gf li)]⟩
theorem ng3_e (w : World) (g gi gf gl li : Nat) (room : Int)  : Eff w (ng3H g gi gf gl li room) :=
  effW rfl (wd [] [] [] 14 (dg 16 0x11311122) (T := (.v (.v (.v (.v .nil)))))) (by kernel_rfl)
noncomputable def pmE (fr : Nat) : Env := envF (stm 17) fr [] (strOf "_law_passed_marks.<locals>.") 299 298
noncomputable def pmF (fr it : Nat) : Code := forC (sub 17 6) (.ref it) (pmE fr)
noncomputable def pmW (fr : Nat) : Code := whileC (nthS (inner (sub 17 6)) 0) (pmE fr)
noncomputable def pa1H (step place : Int) : Hook := ⟨false, .call (.ref 299) [.int step, .int 1, .int place], (some ksCR), [], fun na => .next, fun na => [], fun na => [⟨.type "frame", none, (.dict [(kS0, .int step), (kS3, .int 1), (kS1, .int place), (kS4, .ref (na 1)), (kS5, .ref (na 2)), (kS6, .int 1), (kS7, .int 0), (kS8, .int 0)])⟩, ⟨.type "list", none, (.seq [.int place])⟩, ⟨.type "generator", none, (.fields [.int (((na 7) : Nat) : Int), .str kS13, .str kS13])⟩, ⟨.type "frame", none, (.dict [(kS20, .ref (na 4)), (kS26, .none), (kS27, .int 1)])⟩, ⟨.type "list", none, (.seq [.int 1, .int 0])⟩, ⟨.type "list_iterator", none, (.fields [.ref (na 4), .int 1])⟩, ⟨.type "list_iterator", none, (.fields [.ref (na 1), .int 0])⟩], [], fun na => []⟩
noncomputable def pa1D (w : World) (step place : Int) (h1 : (step == 127) = false) (h2 : (step == 0) = false) : WD w (pa1H step place) := wd [28,2,24,2,4,5,4] [] [0,1,13,12,11,14,15] 265 (dg 18 0x8ddc748e92e7b69db283712ed4112333eff129be8913454118f8f87c8d2ca4dcc6dd9e38ce95ad39436463e5720fc0ba3aa553849b944d0b) (fun e _ A G => [p4 (ng1_e w (A 13) (G 1) (A 12) (A 11) 1 (by decide) (by decide)) [13,12,11] [12] [1] [1]]) (x := fun e A G => [(G 1)])
noncomputable def pa1A (e : Amb) (step place : Int) : Nat → Nat := nA [28,2,24,2,4,5,4] [0,1,13,12,11,14,15] e fun A G => [(G 1)]
theorem pa1_e (w : World) (step place : Int) (h1 : (step == 127) = false) (h2 : (step == 0) = false) : CallG w (pa1H step place) (fun na => pmF (na 0) (na 6)) .func (fun e W => (pa1D w step place h1 h2).R (fl1 w) (fl2 w) e W) (fun e _ => pa1A e step place) (fun e _ => [(pa1A e step place 7, gst1 (pa1A e step place 3) (pa1A e step place 5))]) :=
  callG rfl (pa1D w step place h1 h2) (i2 := [1]) (by kernel_rfl)
noncomputable def pa2H (step place : Int) : Hook := ⟨false, .call (.ref 299) [.int step, .int 2, .int place], (some ksCR), [], fun na => .next, fun na => [], fun na => [⟨.type "frame", none, (.dict [(kS0, .int step), (kS3, .int 2), (kS1, .int place), (kS4, .ref (na 1)), (kS18, .int step), (kS5, .ref (na 2)), (kS6, .int 2), (kS7, .int 0), (kS8, .int 0)])⟩, ⟨.type "list", none, (.seq [.int place, .int ((place + step))])⟩, ⟨.type "generator", none, (.fields [.int (((na 7) : Nat) : Int), .str kS13, .str kS13])⟩, ⟨.type "frame", none, (.dict [(kS20, .ref (na 4)), (kS26, .none), (kS27, .int 2)])⟩, ⟨.type "list", none, (.seq [.int 2, .int 0])⟩, ⟨.type "list_iterator", none, (.fields [.ref (na 4), .int 1])⟩, ⟨.type "list_iterator", none, (.fields [.ref (na 1), .int 0])⟩], [], fun na => []⟩
noncomputable def pa2D (w : World) (step place : Int) (h1 : (step == 127) = false) (h2 : (step == 0) = false) : WD w (pa2H step place) := wd [28,2,8,1,1,16,2,4,5,4] [] [0,1,13,12,11,14,15] 375 (dg 18 0xb1de227405962647f40e56cbd90f03ab5ba52b4cfac4893b62c303b040231b54d1851a772e659230d7391930944bbcab603b5e1b06b090ffe7d3982d740a601705fc879e15feed554ba3aa553849b944d0b) (fun e _ A G => [p0 (e_eq' w ‹(step == 127) = false›), p0 (e_eq' w ‹(step == 0) = false›), p4 (ng1_e w (A 13) (G 1) (A 12) (A 11) 2 (by decide) (by decide)) [13,12,11] [12] [1] [1]]) (x := fun e A G => [(G 1)])
noncomputable def pa2A (e : Amb) (step place : Int) : Nat → Nat := nA [28,2,8,1,1,16,2,4,5,4] [0,1,13,12,11,14,15] e fun A G => [(G 1)]
theorem pa2_e (w : World) (step place : Int) (h1 : (step == 127) = false) (h2 : (step == 0) = false) : CallG w (pa2H step place) (fun na => pmF (na 0) (na 6)) .func (fun e W => (pa2D w step place h1 h2).R (fl1 w) (fl2 w) e W) (fun e _ => pa2A e step place) (fun e _ => [(pa2A e step place 7, gst1 (pa2A e step place 3) (pa2A e step place 5))]) :=
  callG rfl (pa2D w step place h1 h2) (i2 := [1]) (by kernel_rfl)
noncomputable def pa3H (step place : Int) : Hook := ⟨false, .call (.ref 299) [.int step, .int 3, .int place], (some ksCR), [], fun na => .next, fun na => [], fun na => [⟨.type "frame", none, (.dict [(kS0, .int step), (kS3, .int 3), (kS1, .int place), (kS4, .ref (na 1)), (kS18, .int step), (kS5, .ref (na 2)), (kS6, .int 3), (kS7, .int 0), (kS8, .int 0)])⟩, ⟨.type "list", none, (.seq [.int place, .int ((place + step)), .int (((place + step) + step))])⟩, ⟨.type "generator", none, (.fields [.int (((na 7) : Nat) : Int), .str kS13, .str kS13])⟩, ⟨.type "frame", none, (.dict [(kS20, .ref (na 4)), (kS26, .none), (kS27, .int 3)])⟩, ⟨.type "list", none, (.seq [.int 3, .int 0])⟩, ⟨.type "list_iterator", none, (.fields [.ref (na 4), .int 1])⟩, ⟨.type "list_iterator", none, (.fields [.ref (na 1), .int 0])⟩], [], fun na => []⟩
noncomputable def pa3D (w : World) (step place : Int) (h1 : (step == 127) = false) (h2 : (step == 0) = false) : WD w (pa3H step place) := wd [28,2,8,1,1,1,1,16,2,4,5,4] [] [0,1,13,12,11,14,15] 485 (dg 18 0xdf03675bf13ff52b4cac2d9bf35f732cb60954a32e26abacafea12f937f8de145b8a29f9fc64130a481ad151efcbdb3ae73a135276fed1dbd6d34d4da120f6f5a5855e0f11278b1b1eb37b78be87686264c8bc934b54745d984e703079e15feed554ba3aa553849b944d0b) (fun e _ A G => [p0 (e_eq' w ‹(step == 127) = false›), p0 (e_eq' w ‹(step == 0) = false›), p0 (e_eq' w ‹(step == 127) = false›), p0 (e_eq' w ‹(step == 0) = false›), p4 (ng1_e w (A 13) (G 1) (A 12) (A 11) 3 (by decide) (by decide)) [13,12,11] [12] [1] [1]]) (x := fun e A G => [(G 1)])
noncomputable def pa3A (e : Amb) (step place : Int) : Nat → Nat := nA [28,2,8,1,1,1,1,16,2,4,5,4] [0,1,13,12,11,14,15] e fun A G => [(G 1)]
theorem pa3_e (w : World) (step place : Int) (h1 : (step == 127) = false) (h2 : (step == 0) = false) : CallG w (pa3H step place) (fun na => pmF (na 0) (na 6)) .func (fun e W => (pa3D w step place h1 h2).R (fl1 w) (fl2 w) e W) (fun e _ => pa3A e step place) (fun e _ => [(pa3A e step place 7, gst1 (pa3A e step place 3) (pa3A e step place 5))]) :=
  callG rfl (pa3D w step place h1 h2) (i2 := [1]) (by kernel_rfl)
noncomputable def pa4H (step place : Int) : Hook := ⟨false, .call (.ref 299) [.int step, .int 4, .int place], (some ksCR), [], fun na => .next, fun na => [], fun na => [⟨.type "frame", none, (.dict [(kS0, .int step), (kS3, .int 4), (kS1, .int place), (kS4, .ref (na 1)), (kS18, .int step), (kS5, .ref (na 2)), (kS6, .int 4), (kS7, .int 0), (kS8, .int 0)])⟩, ⟨.type "list", none, (.seq [.int place, .int ((place + step)), .int (((place + step) + step)), .int ((((place + step) + step) + step))])⟩, ⟨.type "generator", none, (.fields [.int (((na 7) : Nat) : Int), .str kS13, .str kS13])⟩, ⟨.type "frame", none, (.dict [(kS20, .ref (na 4)), (kS26, .none), (kS27, .int 4)])⟩, ⟨.type "list", none, (.seq [.int 4, .int 0])⟩, ⟨.type "list_iterator", none, (.fields [.ref (na 4), .int 1])⟩, ⟨.type "list_iterator", none, (.fields [.ref (na 1), .int 0])⟩], [], fun na => []⟩
noncomputable def pa4D (w : World) (step place : Int) (h1 : (step == 127) = false) (h2 : (step == 0) = false) : WD w (pa4H step place) := wd [28,2,8,1,1,1,1,1,1,16,2,4,5,4] [] [0,1,13,12,11,14,15] 595 (dg 18 0x1179e164399219ec7b60bbe90616c6bce824ad9bd0a2ec95a83f7205e94d2d7406397afddf7b75cdc4df63c15cd76d51eff5a8b2c1dd609f26410a0be0e03a551aa3cd0b3d41db820f5b368d7ac3cc713b1fdc706f2e9809946ad987c2284e8d72e14a65ba38bdc800d85037ebf78aa4745d984e703079e15feed554ba3aa553849b944d0b) (fun e _ A G => [p0 (e_eq' w ‹(step == 127) = false›), p0 (e_eq' w ‹(step == 0) = false›), p0 (e_eq' w ‹(step == 127) = false›), p0 (e_eq' w ‹(step == 0) = false›), p0 (e_eq' w ‹(step == 127) = false›), p0 (e_eq' w ‹(step == 0) = false›), p4 (ng1_e w (A 13) (G 1) (A 12) (A 11) 4 (by decide) (by decide)) [13,12,11] [12] [1] [1]]) (x := fun e A G => [(G 1)])
noncomputable def pa4A (e : Amb) (step place : Int) : Nat → Nat := nA [28,2,8,1,1,1,1,1,1,16,2,4,5,4] [0,1,13,12,11,14,15] e fun A G => [(G 1)]
theorem pa4_e (w : World) (step place : Int) (h1 : (step == 127) = false) (h2 : (step == 0) = false) : CallG w (pa4H step place) (fun na => pmF (na 0) (na 6)) .func (fun e W => (pa4D w step place h1 h2).R (fl1 w) (fl2 w) e W) (fun e _ => pa4A e step place) (fun e _ => [(pa4A e step place 7, gst1 (pa4A e step place 3) (pa4A e step place 5))]) :=
  callG rfl (pa4D w step place h1 h2) (i2 := [1]) (by kernel_rfl)
noncomputable def pa5H (step place : Int) : Hook := ⟨false, .call (.ref 299) [.int step, .int 5, .int place], (some ksCR), [], fun na => .next, fun na => [], fun na => [⟨.type "frame", none, (.dict [(kS0, .int step), (kS3, .int 5), (kS1, .int place), (kS4, .ref (na 1)), (kS18, .int step), (kS5, .ref (na 2)), (kS6, .int 5), (kS7, .int 0), (kS8, .int 0)])⟩, ⟨.type "list", none, (.seq [.int place, .int ((place + step)), .int (((place + step) + step)), .int ((((place + step) + step) + step)), .int (((((place + step) + step) + step) + step))])⟩, ⟨.type "generator", none, (.fields [.int (((na 7) : Nat) : Int), .str kS13, .str kS13])⟩, ⟨.type "frame", none, (.dict [(kS20, .ref (na 4)), (kS26, .none), (kS27, .int 5)])⟩, ⟨.type "list", none, (.seq [.int 5, .int 0])⟩, ⟨.type "list_iterator", none, (.fields [.ref (na 4), .int 1])⟩, ⟨.type "list_iterator", none, (.fields [.ref (na 1), .int 0])⟩], [], fun na => []⟩
noncomputable def pa5D (w : World) (step place : Int) (h1 : (step == 127) = false) (h2 : (step == 0) = false) : WD w (pa5H step place) := wd [28,2,8,1,1,1,1,1,1,1,1,16,2,4,5,4] [] [0,1,13,12,11,14,15] 705 (dg 18 0x15e96baeee00f4a43259e6edf4fc671276eaa80bf95ba4fdbb19bedd4e5f9654a97d919ee322fa060b3de6dda72730096c71de512f3f0d13254dd36116ed6783c405e71e4137ba96c842a43a06dd565c6b90d74ee491bb54ed6c2eb6726e2b33ad9a1938afa9b5d0ffe717e2608e5c2ca00bdcf81acb101929fd1b4cc9546e2003c24785037ebf78aa4745d984e703079e15feed554ba3aa553849b944d0b) (fun e _ A G => [p0 (e_eq' w ‹(step == 127) = false›), p0 (e_eq' w ‹(step == 0) = false›), p0 (e_eq' w ‹(step == 127) = false›), p0 (e_eq' w ‹(step == 0) = false›), p0 (e_eq' w ‹(step == 127) = false›), p0 (e_eq' w ‹(step == 0) = false›), p0 (e_eq' w ‹(step == 127) = false›), p0 (e_eq' w ‹(step == 0) = false›), p4 (ng1_e w (A 13) (G 1) (A 12) (A 11) 5 (by decide) (by decide)) [13,12,11] [12] [1] [1]]) (x := fun e A G => [(G 1)])
noncomputable def pa5A (e : Amb) (step place : Int) : Nat → Nat := nA [28,2,8,1,1,1,1,1,1,1,1,16,2,4,5,4] [0,1,13,12,11,14,15] e fun A G => [(G 1)]
theorem pa5_e (w : World) (step place : Int) (h1 : (step == 127) = false) (h2 : (step == 0) = false) : CallG w (pa5H step place) (fun na => pmF (na 0) (na 6)) .func (fun e W => (pa5D w step place h1 h2).R (fl1 w) (fl2 w) e W) (fun e _ => pa5A e step place) (fun e _ => [(pa5A e step place 7, gst1 (pa5A e step place 3) (pa5A e step place 5))]) :=
  callG rfl (pa5D w step place h1 h2) (i2 := [1]) (by kernel_rfl)
noncomputable def pa6H (step place : Int) : Hook := ⟨false, .call (.ref 299) [.int step, .int 6, .int place], (some ksCR), [], fun na => .next, fun na => [], fun na => [⟨.type "frame", none, (.dict [(kS0, .int step), (kS3, .int 6), (kS1, .int place), (kS4, .ref (na 1)), (kS18, .int step), (kS5, .ref (na 2)), (kS6, .int 6), (kS7, .int 0), (kS8, .int 0)])⟩, ⟨.type "list", none, (.seq [.int place, .int ((place + step)), .int (((place + step) + step)), .int ((((place + step) + step) + step)), .int (((((place + step) + step) + step) + step)), .int ((((((place + step) + step) + step) + step) + step))])⟩, ⟨.type "generator", none, (.fields [.int (((na 7) : Nat) : Int), .str kS13, .str kS13])⟩, ⟨.type "frame", none, (.dict [(kS20, .ref (na 4)), (kS26, .none), (kS27, .int 6)])⟩, ⟨.type "list", none, (.seq [.int 6, .int 0])⟩, ⟨.type "list_iterator", none, (.fields [.ref (na 4), .int 1])⟩, ⟨.type "list_iterator", none, (.fields [.ref (na 1), .int 0])⟩], [], fun na => []⟩
noncomputable def pa6D (w : World) (step place : Int) (h1 : (step == 127) = false) (h2 : (step == 0) = false) : WD w (pa6H step place) := wd [28,2,8,1,1,1,1,1,1,1,1,1,1,16,2,4,5,4] [] [0,1,13,12,11,14,15] 815 (dg 18 0x1b792db5251b94de18d56c5700be781055bf72aa28f6da3899d5949aad9effb5417e03f2255dd0527ecfa9fe150eb2552d2387cf9cf0094f0465ffd94e3a85a1504d5356eafc9c6cef8fe4052cb0fd2b6d1b8ff84b5c34d7f3918c5988f6579a9d0ffb76ed7617e08ab184cb72612f93735d0fc9f539a7254a0347995a73548f29b60cd237ca3aa949504e965ef66142e3c00ef079add546e2003c24785037ebf78aa4745d984e703079e15feed554ba3aa553849b944d0b) (fun e _ A G => [p0 (e_eq' w ‹(step == 127) = false›), p0 (e_eq' w ‹(step == 0) = false›), p0 (e_eq' w ‹(step == 127) = false›), p0 (e_eq' w ‹(step == 0) = false›), p0 (e_eq' w ‹(step == 127) = false›), p0 (e_eq' w ‹(step == 0) = false›), p0 (e_eq' w ‹(step == 127) = false›), p0 (e_eq' w ‹(step == 0) = false›), p0 (e_eq' w ‹(step == 127) = false›), p0 (e_eq' w ‹(step == 0) = false›), p4 (ng1_e w (A 13) (G 1) (A 12) (A 11) 6 (by decide) (by decide)) [13,12,11] [12] [1] [1]]) (x := fun e A G => [(G 1)])
noncomputable def pa6A (e : Amb) (step place : Int) : Nat → Nat := nA [28,2,8,1,1,1,1,1,1,1,1,1,1,16,2,4,5,4] [0,1,13,12,11,14,15] e fun A G => [(G 1)]
theorem pa6_e (w : World) (step place : Int) (h1 : (step == 127) = false) (h2 : (step == 0) = false) : CallG w (pa6H step place) (fun na => pmF (na 0) (na 6)) .func (fun e W => (pa6D w step place h1 h2).R (fl1 w) (fl2 w) e W) (fun e _ => pa6A e step place) (fun e _ => [(pa6A e step place 7, gst1 (pa6A e step place 3) (pa6A e step place 5))]) :=
  callG rfl (pa6D w step place h1 h2) (i2 := [1]) (by kernel_rfl)
theorem linext_meets (it l : Addr) (i : Nat) (items : Array Value) (n : Nat) (t : Tok) (x : Value) (hx : items[i]? = some x) :
    Meets (Builtin.«list_iterator.__next__» ⟨[.ref it], []⟩) (fun _ R s => s.heap.get? it = some { cls := .type "list_iterator", dict := none, data := .fields #[.ref l, .int (i : Nat) t], slots := #[] } ∧ s.heap.get? l = some { cls := .type "list", dict := none, data := .seq items n, slots := #[] } ∧ R (.ok (.ret x)) { s with heap := s.heap.update it (Obj.mapFields fun x => x.setIfInBounds 1 (rawInt ((i : Nat) + 1))) }) :=
  .of_wp fun prog w A R s h => by
    obtain ⟨hit, hl, h⟩ := h
    unfold Builtin.«list_iterator.__next__»
    wp_walk
    rw [Int.toNat_natCast, hx]
    wp_walk
    exact ⟨_, rfl, h⟩
noncomputable def litV (l : Nat) (i : Nat) : OV := objV "list_iterator" [.ref l, .int (i : Nat)]
noncomputable def lnextH (it l : Nat) (i : Nat) (o : Obj) (v : VV) : Hook := ⟨false, .call (.bi "list_iterator.__next__") [.ref it], none, [(it, .vw (litV l i)), (l, .ob o)], fun _ => .ret v, fun _ => [(it, litV l (i + 1))], fun _ => [], [], fun _ => []⟩
theorem mkVs_at {k : Nat → Nat} : ∀ {l : List VV} {j i : Nat} {v : VV}, l[i]? = some v → (mkVs k j l)[i]? = some (v.mk (k (j + i)))
  | [], _, _, _, h => by simp at h
  | x :: l, j, 0, v, h => by cases h; unfold mkVs; rfl
  | x :: l, j, i + 1, v, h => by
    unfold mkVs
    have := mkVs_at (k := k) (l := l) (j := j.succ) (i := i) (v := v) (by simpa using h)
    rw [show j.succ + i = j + (i + 1) by simp only [Nat.succ_eq_add_one]; omega] at this
    simpa using this
theorem e_lnext (w : World) (it l : Nat) (i : Nat) (κ : TK) (ls : List VV) (v : VV) (hv : ls[i]? = some v) : Eff w (lnextH it l i ((listV ls).mk' κ) v) := by
  intro base p s cc hcc hb _ _ _ hneed _ _ _ _
  obtain ⟨f, vs, rfl, hf, hv'⟩ := hcc
  obtain rfl := vvf_bi hf
  obtain ⟨t, rfl⟩ := vvs1 hv'
  obtain ⟨o, ho, hov⟩ := hneed _ (.head _)
  obtain ⟨κ', rfl⟩ := ov_mk hov rfl
  obtain ⟨o2, ho2, rfl⟩ := hneed _ (.tail _ (.head _))
  have ho : s.heap.get? it = some ⟨.type "list_iterator", none, .fields #[.ref l, .int (i : Nat) (κ'.t 1)], #[]⟩ := ho
  have ho2 : s.heap.get? l = some ⟨.type "list", none, .seq ⟨mkVs κ.t 0 ls⟩ κ.e, #[]⟩ := ho2
  have hx : (⟨mkVs κ.t 0 ls⟩ : Array Value)[i]? = some (v.mk (κ.t (0 + i))) := by
    rw [List.getElem?_toArray]
    exact mkVs_at hv
  obtain ⟨rr, s', R, rfl, rfl⟩ := meets_reach (w := w) (p := p) (s := s) (self := .ref it) (rest := []) (R := fun rr s' => rr = .ok (.ret (v.mk (κ.t (0 + i)))) ∧ s' = { s with heap := s.heap.update it (Obj.mapFields fun x => x.setIfInBounds 1 (rawInt ((i : Nat) + 1))), toks := s.toks }) hb PySem.slot_listiter_next ⟨_, ho, rfl⟩ PySem.entry_listiter_next (PySem.args_listiter_next _)
    (linext_meets it l i _ κ.e (κ'.t 1) _ hx) (fun A => ⟨ho, ho2, rfl, rfl⟩)
  refine ⟨fun _ => 0, _, _, R, by show (match vv (v.mk _) with | some x => some (RV.ret x) | none => none) = _; rw [vv_mk']; rfl, after_upd ho rfl ?_ rfl rfl rfl rfl (Nat.le_refl _)⟩
  rfl
noncomputable def ksPW : List Kd := [.fo, .func, .fo, .func, .bi "claim.caller"]
noncomputable def ksPF : List Kd := [.func, .fo, .func, .bi "claim.caller"]
noncomputable def pw1NH (fr pl g gi gf gl li : Nat) (step room place mark passed together at' : Int) : Hook := ⟨false, .code (pmW fr), (some ksPW), [(fr, .vw ⟨.type "frame", none, (.dict [(kS0, .int step), (kS3, .int room), (kS1, .int place), (kS4, .ref pl), (kS5, .ref g), (kS6, .int mark), (kS7, .int passed), (kS8, .int together), (kS9, .int at')])⟩), (g, .vw ⟨.type "generator", none, (.fields [.int ((gi : Nat) : Int), .str kS13, .str kS13])⟩), (gf, .vw ⟨.type "frame", none, (.dict [(kS20, .ref gl), (kS26, .none), (kS27, .int room)])⟩), (gl, .vw ⟨.type "list", none, (.seq [.int room, .int 0])⟩), (li, .vw ⟨.type "list_iterator", none, (.fields [.ref gl, .int 1])⟩)], fun na => .next, fun na => [(fr, ⟨.type "frame", none, (.dict [(kS0, .int step), (kS3, .int room), (kS1, .int place), (kS4, .ref pl), (kS5, .ref g), (kS6, .int (mark + room)), (kS7, .int (passed + 1)), (kS8, .int together), (kS9, .int at')])⟩), (gf, ⟨.type "frame", none, (.dict [(kS20, .ref gl), (kS26, .int room), (kS27, .int 0)])⟩), (li, ⟨.type "list_iterator", none, (.fields [.ref gl, .int 2])⟩)], fun na => [], [(gi, gst1 gf li)], fun na => [(gi, gst2 gf li)]⟩
theorem pw1N_e (w : World) (fr pl g gi gf gl li : Nat) (step room place mark passed together at' : Int) (h : decide (mark ≤ at') = true) : Turn w (pw1NH fr pl g gi gf gl li step room place mark passed together at') (pmW fr) :=
  turnW rfl (wd [1,1] [0,2,4] [] 49 (dg 16 0x1221033121122212022) (fun e _ A G => [p0 (e_le' w ‹decide (mark ≤ at') = true›), p4 (ng2_e w g gi gf gl li room) [1,2,3,4] [2,4] [0] [0]]) (T := (.v (.v (.v (.v (.v .nil))))))) (by kernel_rfl)
noncomputable def pw2NH (fr pl g gi gf gl li : Nat) (step room place mark passed together at' : Int) : Hook := ⟨false, .code (pmW fr), (some ksPW), [(fr, .vw ⟨.type "frame", none, (.dict [(kS0, .int step), (kS3, .int room), (kS1, .int place), (kS4, .ref pl), (kS5, .ref g), (kS6, .int mark), (kS7, .int passed), (kS8, .int together), (kS9, .int at')])⟩), (g, .vw ⟨.type "generator", none, (.fields [.int ((gi : Nat) : Int), .str kS13, .str kS13])⟩), (gf, .vw ⟨.type "frame", none, (.dict [(kS20, .ref gl), (kS26, .int room), (kS27, .int 0)])⟩), (gl, .vw ⟨.type "list", none, (.seq [.int room, .int 0])⟩), (li, .vw ⟨.type "list_iterator", none, (.fields [.ref gl, .int 2])⟩)], fun na => .next, fun na => [(fr, ⟨.type "frame", none, (.dict [(kS0, .int step), (kS3, .int room), (kS1, .int place), (kS4, .ref pl), (kS5, .ref g), (kS6, .int (mark + room)), (kS7, .int (passed + 1)), (kS8, .int together), (kS9, .int at')])⟩)], fun na => [], [(gi, gst2 gf li)], fun na => [(gi, gst2 gf li)]⟩
theorem pw2N_e (w : World) (fr pl g gi gf gl li : Nat) (step room place mark passed together at' : Int) (h : decide (mark ≤ at') = true) : Turn w (pw2NH fr pl g gi gf gl li step room place mark passed together at') (pmW fr) :=
  turnW rfl (wd [1,1] [0] [] 49 (dg 16 0x1221033121122212022) (fun e _ A G => [p0 (e_le' w ‹decide (mark ≤ at') = true›), p4 (ng3_e w g gi gf gl li room) [1,2,3,4] [] [0] [0]]) (T := (.v (.v (.v (.v (.v .nil))))))) (by kernel_rfl)
noncomputable def pweNH (fr pl g gi gf gl li : Nat) (step room place mark passed together at' : Int) : Hook := ⟨false, .code (pmW fr), (some ksPW), [(fr, .vw ⟨.type "frame", none, (.dict [(kS0, .int step), (kS3, .int room), (kS1, .int place), (kS4, .ref pl), (kS5, .ref g), (kS6, .int mark), (kS7, .int passed), (kS8, .int together), (kS9, .int at')])⟩)], fun na => .next, fun na => [], fun na => [], [], fun na => []⟩
theorem pweN_e (w : World) (fr pl g gi gf gl li : Nat) (step room place mark passed together at' : Int) (h : decide (mark ≤ at') = false) : Eff w (pweNH fr pl g gi gf gl li step room place mark passed together at') :=
  effW rfl (wd [1] [] [] 7 (dg 16 0x1022) (fun e _ A G => [p0 (e_le' w ‹decide (mark ≤ at') = false›)]) (T := (.v .nil))) (by kernel_rfl)
noncomputable def pf0N1H (fr pl g it i : Nat) (step room place mark passed together prev at' : Int) (ls : List VV) (κ : TK) : Hook := ⟨false, .code (pmF fr it), (some ksPF), [(fr, .vw ⟨.type "frame", none, (.dict [(kS0, .int step), (kS3, .int room), (kS1, .int place), (kS4, .ref pl), (kS5, .ref g), (kS6, .int mark), (kS7, .int passed), (kS8, .int together)])⟩), (it, .vw ⟨.type "list_iterator", none, (.fields [.ref pl, .int (((i : Nat) : Int))])⟩), (pl, .ob (OV.mk' (listV ls) κ))], fun na => .next, fun na => [(fr, ⟨.type "frame", none, (.dict [(kS0, .int step), (kS3, .int room), (kS1, .int place), (kS4, .ref pl), (kS5, .ref g), (kS6, .int mark), (kS7, .int passed), (kS8, .int together), (kS9, .int at')])⟩), (it, ⟨.type "list_iterator", none, (.fields [.ref pl, .int (((i + 1 : Nat) : Int))])⟩)], fun na => [], [], fun na => []⟩
noncomputable def pf0N1D (w : World) (fr pl g it i : Nat) (step room place mark passed together prev at' : Int) (ls : List VV) (κ : TK) (h : ls[i]? = some (.int at')) : WD w (pf0N1H fr pl g it i step room place mark passed together prev at' ls κ) := wd [1] [0,1] [] 11 (dg 16 0x12203) (fun e _ A G => [p2 (e_lnext w it pl i (e.k 2) ls (.int at') (by assumption)) [1,2] [1]]) (T := (.v (.v (.o .nil))))
noncomputable def pf0N1A (e : Amb) (fr pl g it i : Nat) (step room place mark passed together prev at' : Int) (ls : List VV) (κ : TK) : Nat → Nat := nA [1] [] e fun A G => []
theorem pf0N1_e (w : World) (fr pl g it i : Nat) (step room place mark passed together prev at' : Int) (ls : List VV) (κ : TK) (h : ls[i]? = some (.int at')) : CallW w (pf0N1H fr pl g it i step room place mark passed together prev at' ls κ) (fun _ => pmW fr) .fo (fun e W => (pf0N1D w fr pl g it i step room place mark passed together prev at' ls κ h).R (fl1 w) (fl2 w) e W) (fun e _ => pf0N1A e fr pl g it i step room place mark passed together prev at' ls κ) :=
  callW rfl (pf0N1D w fr pl g it i step room place mark passed together prev at' ls κ h) (by kernel_rfl)
noncomputable def pf0N2H (fr pl g it i : Nat) (step room place mark passed together prev at' : Int) (ls : List VV) (κ : TK) (mark2 passed2 : Int) : Hook := ⟨false, .code (pmF fr it), (some ksPF), [(fr, .vw ⟨.type "frame", none, (.dict [(kS0, .int step), (kS3, .int room), (kS1, .int place), (kS4, .ref pl), (kS5, .ref g), (kS6, .int mark2), (kS7, .int passed2), (kS8, .int together), (kS9, .int at')])⟩)], fun na => .next, fun na => [(fr, ⟨.type "frame", none, (.dict [(kS0, .int step), (kS3, .int room), (kS1, .int place), (kS4, .ref pl), (kS5, .ref g), (kS6, .int mark2), (kS7, .int passed2), (kS8, .int (together + passed2)), (kS9, .int at')])⟩)], fun na => [], [], fun na => []⟩
theorem pf0N2_e (w : World) (base : List Frame) (s : Shared) (e1 : Amb) (fr pl g it i : Nat) (step room place mark passed together prev at' : Int) (ls : List VV) (κ : TK) (mark2 passed2 : Int) (h : ls[i]? = some (.int at')) (hS : WOk (some ksPF) (base.map Frame.where_)) : TurnFr w (pf0N2H fr pl g it i step room place mark passed together prev at' ls κ mark2 passed2) base s ((pf0N1D w fr pl g it i step room place mark passed together prev at' ls κ h).R (fl1 w) (fl2 w) e1 (base.map Frame.where_)) (.ok .next) (pmF fr it) := by
  exact turnFr rfl (wd [] [0] [] 16 (dg 16 0x122122) (T := (.v .nil))) (fun b1 b2 W => (pf0N1D w fr pl g it i step room place mark passed together prev at' ls κ h).R b1 b2 e1 W) hS (by kernel_rfl)
noncomputable def pf1N1H (fr pl g it i : Nat) (step room place mark passed together prev at' : Int) (ls : List VV) (κ : TK) : Hook := ⟨false, .code (pmF fr it), (some ksPF), [(fr, .vw ⟨.type "frame", none, (.dict [(kS0, .int step), (kS3, .int room), (kS1, .int place), (kS4, .ref pl), (kS5, .ref g), (kS6, .int mark), (kS7, .int passed), (kS8, .int together), (kS9, .int prev)])⟩), (it, .vw ⟨.type "list_iterator", none, (.fields [.ref pl, .int (((i : Nat) : Int))])⟩), (pl, .ob (OV.mk' (listV ls) κ))], fun na => .next, fun na => [(fr, ⟨.type "frame", none, (.dict [(kS0, .int step), (kS3, .int room), (kS1, .int place), (kS4, .ref pl), (kS5, .ref g), (kS6, .int mark), (kS7, .int passed), (kS8, .int together), (kS9, .int at')])⟩), (it, ⟨.type "list_iterator", none, (.fields [.ref pl, .int (((i + 1 : Nat) : Int))])⟩)], fun na => [], [], fun na => []⟩
noncomputable def pf1N1D (w : World) (fr pl g it i : Nat) (step room place mark passed together prev at' : Int) (ls : List VV) (κ : TK) (h : ls[i]? = some (.int at')) : WD w (pf1N1H fr pl g it i step room place mark passed together prev at' ls κ) := wd [1] [0,1] [] 11 (dg 16 0x12203) (fun e _ A G => [p2 (e_lnext w it pl i (e.k 2) ls (.int at') (by assumption)) [1,2] [1]]) (T := (.v (.v (.o .nil))))
noncomputable def pf1N1A (e : Amb) (fr pl g it i : Nat) (step room place mark passed together prev at' : Int) (ls : List VV) (κ : TK) : Nat → Nat := nA [1] [] e fun A G => []
theorem pf1N1_e (w : World) (fr pl g it i : Nat) (step room place mark passed together prev at' : Int) (ls : List VV) (κ : TK) (h : ls[i]? = some (.int at')) : CallW w (pf1N1H fr pl g it i step room place mark passed together prev at' ls κ) (fun _ => pmW fr) .fo (fun e W => (pf1N1D w fr pl g it i step room place mark passed together prev at' ls κ h).R (fl1 w) (fl2 w) e W) (fun e _ => pf1N1A e fr pl g it i step room place mark passed together prev at' ls κ) :=
  callW rfl (pf1N1D w fr pl g it i step room place mark passed together prev at' ls κ h) (by kernel_rfl)
noncomputable def pf1N2H (fr pl g it i : Nat) (step room place mark passed together prev at' : Int) (ls : List VV) (κ : TK) (mark2 passed2 : Int) : Hook := ⟨false, .code (pmF fr it), (some ksPF), [(fr, .vw ⟨.type "frame", none, (.dict [(kS0, .int step), (kS3, .int room), (kS1, .int place), (kS4, .ref pl), (kS5, .ref g), (kS6, .int mark2), (kS7, .int passed2), (kS8, .int together), (kS9, .int at')])⟩)], fun na => .next, fun na => [(fr, ⟨.type "frame", none, (.dict [(kS0, .int step), (kS3, .int room), (kS1, .int place), (kS4, .ref pl), (kS5, .ref g), (kS6, .int mark2), (kS7, .int passed2), (kS8, .int (together + passed2)), (kS9, .int at')])⟩)], fun na => [], [], fun na => []⟩
theorem pf1N2_e (w : World) (base : List Frame) (s : Shared) (e1 : Amb) (fr pl g it i : Nat) (step room place mark passed together prev at' : Int) (ls : List VV) (κ : TK) (mark2 passed2 : Int) (h : ls[i]? = some (.int at')) (hS : WOk (some ksPF) (base.map Frame.where_)) : TurnFr w (pf1N2H fr pl g it i step room place mark passed together prev at' ls κ mark2 passed2) base s ((pf1N1D w fr pl g it i step room place mark passed together prev at' ls κ h).R (fl1 w) (fl2 w) e1 (base.map Frame.where_)) (.ok .next) (pmF fr it) := by
  exact turnFr rfl (wd [] [0] [] 16 (dg 16 0x122122) (T := (.v .nil))) (fun b1 b2 W => (pf1N1D w fr pl g it i step room place mark passed together prev at' ls κ h).R b1 b2 e1 W) hS (by kernel_rfl)
noncomputable def pw1SH (fr pl g gi gf gl li : Nat) (step room place mark passed together at' : Int) : Hook := ⟨false, .code (pmW fr), (some ksPW), [(fr, .vw ⟨.type "frame", none, (.dict [(kS0, .int step), (kS3, .int room), (kS1, .int place), (kS4, .ref pl), (kS18, .int step), (kS5, .ref g), (kS6, .int mark), (kS7, .int passed), (kS8, .int together), (kS9, .int at')])⟩), (g, .vw ⟨.type "generator", none, (.fields [.int ((gi : Nat) : Int), .str kS13, .str kS13])⟩), (gf, .vw ⟨.type "frame", none, (.dict [(kS20, .ref gl), (kS26, .none), (kS27, .int room)])⟩), (gl, .vw ⟨.type "list", none, (.seq [.int room, .int 0])⟩), (li, .vw ⟨.type "list_iterator", none, (.fields [.ref gl, .int 1])⟩)], fun na => .next, fun na => [(fr, ⟨.type "frame", none, (.dict [(kS0, .int step), (kS3, .int room), (kS1, .int place), (kS4, .ref pl), (kS18, .int step), (kS5, .ref g), (kS6, .int (mark + room)), (kS7, .int (passed + 1)), (kS8, .int together), (kS9, .int at')])⟩), (gf, ⟨.type "frame", none, (.dict [(kS20, .ref gl), (kS26, .int room), (kS27, .int 0)])⟩), (li, ⟨.type "list_iterator", none, (.fields [.ref gl, .int 2])⟩)], fun na => [], [(gi, gst1 gf li)], fun na => [(gi, gst2 gf li)]⟩
theorem pw1S_e (w : World) (fr pl g gi gf gl li : Nat) (step room place mark passed together at' : Int) (h : decide (mark ≤ at') = true) : Turn w (pw1SH fr pl g gi gf gl li step room place mark passed together at') (pmW fr) :=
  turnW rfl (wd [1,1] [0,2,4] [] 49 (dg 16 0x1221033121122212022) (fun e _ A G => [p0 (e_le' w ‹decide (mark ≤ at') = true›), p4 (ng2_e w g gi gf gl li room) [1,2,3,4] [2,4] [0] [0]]) (T := (.v (.v (.v (.v (.v .nil))))))) (by kernel_rfl)
noncomputable def pw2SH (fr pl g gi gf gl li : Nat) (step room place mark passed together at' : Int) : Hook := ⟨false, .code (pmW fr), (some ksPW), [(fr, .vw ⟨.type "frame", none, (.dict [(kS0, .int step), (kS3, .int room), (kS1, .int place), (kS4, .ref pl), (kS18, .int step), (kS5, .ref g), (kS6, .int mark), (kS7, .int passed), (kS8, .int together), (kS9, .int at')])⟩), (g, .vw ⟨.type "generator", none, (.fields [.int ((gi : Nat) : Int), .str kS13, .str kS13])⟩), (gf, .vw ⟨.type "frame", none, (.dict [(kS20, .ref gl), (kS26, .int room), (kS27, .int 0)])⟩), (gl, .vw ⟨.type "list", none, (.seq [.int room, .int 0])⟩), (li, .vw ⟨.type "list_iterator", none, (.fields [.ref gl, .int 2])⟩)], fun na => .next, fun na => [(fr, ⟨.type "frame", none, (.dict [(kS0, .int step), (kS3, .int room), (kS1, .int place), (kS4, .ref pl), (kS18, .int step), (kS5, .ref g), (kS6, .int (mark + room)), (kS7, .int (passed + 1)), (kS8, .int together), (kS9, .int at')])⟩)], fun na => [], [(gi, gst2 gf li)], fun na => [(gi, gst2 gf li)]⟩
theorem pw2S_e (w : World) (fr pl g gi gf gl li : Nat) (step room place mark passed together at' : Int) (h : decide (mark ≤ at') = true) : Turn w (pw2SH fr pl g gi gf gl li step room place mark passed together at') (pmW fr) :=
  turnW rfl (wd [1,1] [0] [] 49 (dg 16 0x1221033121122212022) (fun e _ A G => [p0 (e_le' w ‹decide (mark ≤ at') = true›), p4 (ng3_e w g gi gf gl li room) [1,2,3,4] [] [0] [0]]) (T := (.v (.v (.v (.v (.v .nil))))))) (by kernel_rfl)
noncomputable def pweSH (fr pl g gi gf gl li : Nat) (step room place mark passed together at' : Int) : Hook := ⟨false, .code (pmW fr), (some ksPW), [(fr, .vw ⟨.type "frame", none, (.dict [(kS0, .int step), (kS3, .int room), (kS1, .int place), (kS4, .ref pl), (kS18, .int step), (kS5, .ref g), (kS6, .int mark), (kS7, .int passed), (kS8, .int together), (kS9, .int at')])⟩)], fun na => .next, fun na => [], fun na => [], [], fun na => []⟩
theorem pweS_e (w : World) (fr pl g gi gf gl li : Nat) (step room place mark passed together at' : Int) (h : decide (mark ≤ at') = false) : Eff w (pweSH fr pl g gi gf gl li step room place mark passed together at') :=
  effW rfl (wd [1] [] [] 7 (dg 16 0x1022) (fun e _ A G => [p0 (e_le' w ‹decide (mark ≤ at') = false›)]) (T := (.v .nil))) (by kernel_rfl)
noncomputable def pf0S1H (fr pl g it i : Nat) (step room place mark passed together prev at' : Int) (ls : List VV) (κ : TK) : Hook := ⟨false, .code (pmF fr it), (some ksPF), [(fr, .vw ⟨.type "frame", none, (.dict [(kS0, .int step), (kS3, .int room), (kS1, .int place), (kS4, .ref pl), (kS18, .int step), (kS5, .ref g), (kS6, .int mark), (kS7, .int passed), (kS8, .int together)])⟩), (it, .vw ⟨.type "list_iterator", none, (.fields [.ref pl, .int (((i : Nat) : Int))])⟩), (pl, .ob (OV.mk' (listV ls) κ))], fun na => .next, fun na => [(fr, ⟨.type "frame", none, (.dict [(kS0, .int step), (kS3, .int room), (kS1, .int place), (kS4, .ref pl), (kS18, .int step), (kS5, .ref g), (kS6, .int mark), (kS7, .int passed), (kS8, .int together), (kS9, .int at')])⟩), (it, ⟨.type "list_iterator", none, (.fields [.ref pl, .int (((i + 1 : Nat) : Int))])⟩)], fun na => [], [], fun na => []⟩
noncomputable def pf0S1D (w : World) (fr pl g it i : Nat) (step room place mark passed together prev at' : Int) (ls : List VV) (κ : TK) (h : ls[i]? = some (.int at')) : WD w (pf0S1H fr pl g it i step room place mark passed together prev at' ls κ) := wd [1] [0,1] [] 11 (dg 16 0x12203) (fun e _ A G => [p2 (e_lnext w it pl i (e.k 2) ls (.int at') (by assumption)) [1,2] [1]]) (T := (.v (.v (.o .nil))))
noncomputable def pf0S1A (e : Amb) (fr pl g it i : Nat) (step room place mark passed together prev at' : Int) (ls : List VV) (κ : TK) : Nat → Nat := nA [1] [] e fun A G => []
theorem pf0S1_e (w : World) (fr pl g it i : Nat) (step room place mark passed together prev at' : Int) (ls : List VV) (κ : TK) (h : ls[i]? = some (.int at')) : CallW w (pf0S1H fr pl g it i step room place mark passed together prev at' ls κ) (fun _ => pmW fr) .fo (fun e W => (pf0S1D w fr pl g it i step room place mark passed together prev at' ls κ h).R (fl1 w) (fl2 w) e W) (fun e _ => pf0S1A e fr pl g it i step room place mark passed together prev at' ls κ) :=
  callW rfl (pf0S1D w fr pl g it i step room place mark passed together prev at' ls κ h) (by kernel_rfl)
noncomputable def pf0S2H (fr pl g it i : Nat) (step room place mark passed together prev at' : Int) (ls : List VV) (κ : TK) (mark2 passed2 : Int) : Hook := ⟨false, .code (pmF fr it), (some ksPF), [(fr, .vw ⟨.type "frame", none, (.dict [(kS0, .int step), (kS3, .int room), (kS1, .int place), (kS4, .ref pl), (kS18, .int step), (kS5, .ref g), (kS6, .int mark2), (kS7, .int passed2), (kS8, .int together), (kS9, .int at')])⟩)], fun na => .next, fun na => [(fr, ⟨.type "frame", none, (.dict [(kS0, .int step), (kS3, .int room), (kS1, .int place), (kS4, .ref pl), (kS18, .int step), (kS5, .ref g), (kS6, .int mark2), (kS7, .int passed2), (kS8, .int (together + passed2)), (kS9, .int at')])⟩)], fun na => [], [], fun na => []⟩
theorem pf0S2_e (w : World) (base : List Frame) (s : Shared) (e1 : Amb) (fr pl g it i : Nat) (step room place mark passed together prev at' : Int) (ls : List VV) (κ : TK) (mark2 passed2 : Int) (h : ls[i]? = some (.int at')) (hS : WOk (some ksPF) (base.map Frame.where_)) : TurnFr w (pf0S2H fr pl g it i step room place mark passed together prev at' ls κ mark2 passed2) base s ((pf0S1D w fr pl g it i step room place mark passed together prev at' ls κ h).R (fl1 w) (fl2 w) e1 (base.map Frame.where_)) (.ok .next) (pmF fr it) := by
  exact turnFr rfl (wd [] [0] [] 16 (dg 16 0x122122) (T := (.v .nil))) (fun b1 b2 W => (pf0S1D w fr pl g it i step room place mark passed together prev at' ls κ h).R b1 b2 e1 W) hS (by kernel_rfl)
noncomputable def pf1S1H (fr pl g it i : Nat) (step room place mark passed together prev at' : Int) (ls : List VV) (κ : TK) : Hook := ⟨false, .code (pmF fr it), (some ksPF), [(fr, .vw ⟨.type "frame", none, (.dict [(kS0, .int step), (kS3, .int room), (kS1, .int place), (kS4, .ref pl), (kS18, .int step), (kS5, .ref g), (kS6, .int mark), (kS7, .int passed), (kS8, .int together), (kS9, .int prev)])⟩), (it, .vw ⟨.type "list_iterator", none, (.fields [.ref pl, .int (((i : Nat) : Int))])⟩), (pl, .ob (OV.mk' (listV ls) κ))], fun na => .next, fun na => [(fr, ⟨.type "frame", none, (.dict [(kS0, .int step), (kS3, .int room), (kS1, .int place), (kS4, .ref pl), (kS18, .int step), (kS5, .ref g), (kS6, .int mark), (kS7, .int passed), (kS8, .int together), (kS9, .int at')])⟩), (it, ⟨.type "list_iterator", none, (.fields [.ref pl, .int (((i + 1 : Nat) : Int))])⟩)], fun na => [], [], fun na => []⟩
noncomputable def pf1S1D (w : World) (fr pl g it i : Nat) (step room place mark passed together prev at' : Int) (ls : List VV) (κ : TK) (h : ls[i]? = some (.int at')) : WD w (pf1S1H fr pl g it i step room place mark passed together prev at' ls κ) := wd [1] [0,1] [] 11 (dg 16 0x12203) (fun e _ A G => [p2 (e_lnext w it pl i (e.k 2) ls (.int at') (by assumption)) [1,2] [1]]) (T := (.v (.v (.o .nil))))
noncomputable def pf1S1A (e : Amb) (fr pl g it i : Nat) (step room place mark passed together prev at' : Int) (ls : List VV) (κ : TK) : Nat → Nat := nA [1] [] e fun A G => []
theorem pf1S1_e (w : World) (fr pl g it i : Nat) (step room place mark passed together prev at' : Int) (ls : List VV) (κ : TK) (h : ls[i]? = some (.int at')) : CallW w (pf1S1H fr pl g it i step room place mark passed together prev at' ls κ) (fun _ => pmW fr) .fo (fun e W => (pf1S1D w fr pl g it i step room place mark passed together prev at' ls κ h).R (fl1 w) (fl2 w) e W) (fun e _ => pf1S1A e fr pl g it i step room place mark passed together prev at' ls κ) :=
  callW rfl (pf1S1D w fr pl g it i step room place mark passed together prev at' ls κ h) (by kernel_rfl)
noncomputable def pf1S2H (fr pl g it i : Nat) (step room place mark passed together prev at' : Int) (ls : List VV) (κ : TK) (mark2 passed2 : Int) : Hook := ⟨false, .code (pmF fr it), (some ksPF), [(fr, .vw ⟨.type "frame", none, (.dict [(kS0, .int step), (kS3, .int room), (kS1, .int place), (kS4, .ref pl), (kS18, .int step), (kS5, .ref g), (kS6, .int mark2), (kS7, .int passed2), (kS8, .int together), (kS9, .int at')])⟩)], fun na => .next, fun na => [(fr, ⟨.type "frame", none, (.dict [(kS0, .int step), (kS3, .int room), (kS1, .int place), (kS4, .ref pl), (kS18, .int step), (kS5, .ref g), (kS6, .int mark2), (kS7, .int passed2), (kS8, .int (together + passed2)), (kS9, .int at')])⟩)], fun na => [], [], fun na => []⟩
theorem pf1S2_e (w : World) (base : List Frame) (s : Shared) (e1 : Amb) (fr pl g it i : Nat) (step room place mark passed together prev at' : Int) (ls : List VV) (κ : TK) (mark2 passed2 : Int) (h : ls[i]? = some (.int at')) (hS : WOk (some ksPF) (base.map Frame.where_)) : TurnFr w (pf1S2H fr pl g it i step room place mark passed together prev at' ls κ mark2 passed2) base s ((pf1S1D w fr pl g it i step room place mark passed together prev at' ls κ h).R (fl1 w) (fl2 w) e1 (base.map Frame.where_)) (.ok .next) (pmF fr it) := by
  exact turnFr rfl (wd [] [0] [] 16 (dg 16 0x122122) (T := (.v .nil))) (fun b1 b2 W => (pf1S1D w fr pl g it i step room place mark passed together prev at' ls κ h).R b1 b2 e1 W) hS (by kernel_rfl)
noncomputable def pfe1H (fr pl it : Nat) (p0 : Int) : Hook := ⟨false, .code (pmF fr it), (some ksPF), [(it, .vw ⟨.type "list_iterator", none, (.fields [.ref pl, .int 1])⟩), (pl, .vw ⟨.type "list", none, (.seq [.int p0])⟩)], fun na => .next, fun na => [(it, ⟨.type "list_iterator", none, (.fields [.none, .int 1])⟩)], fun na => [], [], fun na => []⟩
theorem pfe1_e (w : World) (fr pl it : Nat) (p0 : Int)  : Eff w (pfe1H fr pl it p0) :=
  effW rfl (wd [8] [0] [] 17 (dg 16 0x1522322212) (T := (.v (.v .nil)))) (by kernel_rfl)
noncomputable def pt1H (e1 : Amb) (step place : Int) (pl g : Nat) (room mark passed together prev : Int) : Hook := ⟨false, .call (.ref 299) [.int step, .int 1, .int place], (some ksCR), [((pa1A e1 step place 0), .vw ⟨.type "frame", none, (.dict [(kS0, .int step), (kS3, .int room), (kS1, .int place), (kS4, .ref pl), (kS5, .ref g), (kS6, .int mark), (kS7, .int passed), (kS8, .int together), (kS9, .int prev)])⟩)], fun na => .ret (.int together), fun na => [], fun na => [], [], fun na => []⟩
theorem pt1_e (w : World) (base : List Frame) (s : Shared) (e1 : Amb) (step place : Int) (pl g : Nat) (room mark passed together prev : Int) (h1 : (step == 127) = false) (h2 : (step == 0) = false) (hS : WOk (some ksCR) (base.map Frame.where_)) : EffFr w (pt1H e1 step place pl g room mark passed together prev) base s ((pa1D w step place h1 h2).R (fl1 w) (fl2 w) e1 (base.map Frame.where_)) (.ok .next) := by
  exact effFr rfl (wd [] [] [] 3 (dg 16 0x12) (T := (.v .nil))) (fun b1 b2 W => (pa1D w step place h1 h2).R b1 b2 e1 W) hS (by kernel_rfl)
noncomputable def pfe2H (fr pl it : Nat) (p0 p1 : Int) : Hook := ⟨false, .code (pmF fr it), (some ksPF), [(it, .vw ⟨.type "list_iterator", none, (.fields [.ref pl, .int 2])⟩), (pl, .vw ⟨.type "list", none, (.seq [.int p0, .int p1])⟩)], fun na => .next, fun na => [(it, ⟨.type "list_iterator", none, (.fields [.none, .int 2])⟩)], fun na => [], [], fun na => []⟩
theorem pfe2_e (w : World) (fr pl it : Nat) (p0 p1 : Int)  : Eff w (pfe2H fr pl it p0 p1) :=
  effW rfl (wd [8] [0] [] 17 (dg 16 0x1522322212) (T := (.v (.v .nil)))) (by kernel_rfl)
noncomputable def pt2H (e1 : Amb) (step place : Int) (pl g : Nat) (room mark passed together prev : Int) : Hook := ⟨false, .call (.ref 299) [.int step, .int 2, .int place], (some ksCR), [((pa2A e1 step place 0), .vw ⟨.type "frame", none, (.dict [(kS0, .int step), (kS3, .int room), (kS1, .int place), (kS4, .ref pl), (kS18, .int step), (kS5, .ref g), (kS6, .int mark), (kS7, .int passed), (kS8, .int together), (kS9, .int prev)])⟩)], fun na => .ret (.int together), fun na => [], fun na => [], [], fun na => []⟩
theorem pt2_e (w : World) (base : List Frame) (s : Shared) (e1 : Amb) (step place : Int) (pl g : Nat) (room mark passed together prev : Int) (h1 : (step == 127) = false) (h2 : (step == 0) = false) (hS : WOk (some ksCR) (base.map Frame.where_)) : EffFr w (pt2H e1 step place pl g room mark passed together prev) base s ((pa2D w step place h1 h2).R (fl1 w) (fl2 w) e1 (base.map Frame.where_)) (.ok .next) := by
  exact effFr rfl (wd [] [] [] 3 (dg 16 0x12) (T := (.v .nil))) (fun b1 b2 W => (pa2D w step place h1 h2).R b1 b2 e1 W) hS (by kernel_rfl)
noncomputable def pfe3H (fr pl it : Nat) (p0 p1 p2 : Int) : Hook := ⟨false, .code (pmF fr it), (some ksPF), [(it, .vw ⟨.type "list_iterator", none, (.fields [.ref pl, .int 3])⟩), (pl, .vw ⟨.type "list", none, (.seq [.int p0, .int p1, .int p2])⟩)], fun na => .next, fun na => [(it, ⟨.type "list_iterator", none, (.fields [.none, .int 3])⟩)], fun na => [], [], fun na => []⟩
theorem pfe3_e (w : World) (fr pl it : Nat) (p0 p1 p2 : Int)  : Eff w (pfe3H fr pl it p0 p1 p2) :=
  effW rfl (wd [8] [0] [] 17 (dg 16 0x1522322212) (T := (.v (.v .nil)))) (by kernel_rfl)
noncomputable def pt3H (e1 : Amb) (step place : Int) (pl g : Nat) (room mark passed together prev : Int) : Hook := ⟨false, .call (.ref 299) [.int step, .int 3, .int place], (some ksCR), [((pa3A e1 step place 0), .vw ⟨.type "frame", none, (.dict [(kS0, .int step), (kS3, .int room), (kS1, .int place), (kS4, .ref pl), (kS18, .int step), (kS5, .ref g), (kS6, .int mark), (kS7, .int passed), (kS8, .int together), (kS9, .int prev)])⟩)], fun na => .ret (.int together), fun na => [], fun na => [], [], fun na => []⟩
theorem pt3_e (w : World) (base : List Frame) (s : Shared) (e1 : Amb) (step place : Int) (pl g : Nat) (room mark passed together prev : Int) (h1 : (step == 127) = false) (h2 : (step == 0) = false) (hS : WOk (some ksCR) (base.map Frame.where_)) : EffFr w (pt3H e1 step place pl g room mark passed together prev) base s ((pa3D w step place h1 h2).R (fl1 w) (fl2 w) e1 (base.map Frame.where_)) (.ok .next) := by
  exact effFr rfl (wd [] [] [] 3 (dg 16 0x12) (T := (.v .nil))) (fun b1 b2 W => (pa3D w step place h1 h2).R b1 b2 e1 W) hS (by kernel_rfl)
noncomputable def pfe4H (fr pl it : Nat) (p0 p1 p2 p3 : Int) : Hook := ⟨false, .code (pmF fr it), (some ksPF), [(it, .vw ⟨.type "list_iterator", none, (.fields [.ref pl, .int 4])⟩), (pl, .vw ⟨.type "list", none, (.seq [.int p0, .int p1, .int p2, .int p3])⟩)], fun na => .next, fun na => [(it, ⟨.type "list_iterator", none, (.fields [.none, .int 4])⟩)], fun na => [], [], fun na => []⟩
theorem pfe4_e (w : World) (fr pl it : Nat) (p0 p1 p2 p3 : Int)  : Eff w (pfe4H fr pl it p0 p1 p2 p3) :=
  effW rfl (wd [8] [0] [] 17 (dg 16 0x1522322212) (T := (.v (.v .nil)))) (by kernel_rfl)
noncomputable def pt4H (e1 : Amb) (step place : Int) (pl g : Nat) (room mark passed together prev : Int) : Hook := ⟨false, .call (.ref 299) [.int step, .int 4, .int place], (some ksCR), [((pa4A e1 step place 0), .vw ⟨.type "frame", none, (.dict [(kS0, .int step), (kS3, .int room), (kS1, .int place), (kS4, .ref pl), (kS18, .int step), (kS5, .ref g), (kS6, .int mark), (kS7, .int passed), (kS8, .int together), (kS9, .int prev)])⟩)], fun na => .ret (.int together), fun na => [], fun na => [], [], fun na => []⟩
theorem pt4_e (w : World) (base : List Frame) (s : Shared) (e1 : Amb) (step place : Int) (pl g : Nat) (room mark passed together prev : Int) (h1 : (step == 127) = false) (h2 : (step == 0) = false) (hS : WOk (some ksCR) (base.map Frame.where_)) : EffFr w (pt4H e1 step place pl g room mark passed together prev) base s ((pa4D w step place h1 h2).R (fl1 w) (fl2 w) e1 (base.map Frame.where_)) (.ok .next) := by
  exact effFr rfl (wd [] [] [] 3 (dg 16 0x12) (T := (.v .nil))) (fun b1 b2 W => (pa4D w step place h1 h2).R b1 b2 e1 W) hS (by kernel_rfl)
noncomputable def pfe5H (fr pl it : Nat) (p0 p1 p2 p3 p4 : Int) : Hook := ⟨false, .code (pmF fr it), (some ksPF), [(it, .vw ⟨.type "list_iterator", none, (.fields [.ref pl, .int 5])⟩), (pl, .vw ⟨.type "list", none, (.seq [.int p0, .int p1, .int p2, .int p3, .int p4])⟩)], fun na => .next, fun na => [(it, ⟨.type "list_iterator", none, (.fields [.none, .int 5])⟩)], fun na => [], [], fun na => []⟩
theorem pfe5_e (w : World) (fr pl it : Nat) (p0 p1 p2 p3 p4 : Int)  : Eff w (pfe5H fr pl it p0 p1 p2 p3 p4) :=
  effW rfl (wd [8] [0] [] 17 (dg 16 0x1522322212) (T := (.v (.v .nil)))) (by kernel_rfl)
noncomputable def pt5H (e1 : Amb) (step place : Int) (pl g : Nat) (room mark passed together prev : Int) : Hook := ⟨false, .call (.ref 299) [.int step, .int 5, .int place], (some ksCR), [((pa5A e1 step place 0), .vw ⟨.type "frame", none, (.dict [(kS0, .int step), (kS3, .int room), (kS1, .int place), (kS4, .ref pl), (kS18, .int step), (kS5, .ref g), (kS6, .int mark), (kS7, .int passed), (kS8, .int together), (kS9, .int prev)])⟩)], fun na => .ret (.int together), fun na => [], fun na => [], [], fun na => []⟩
theorem pt5_e (w : World) (base : List Frame) (s : Shared) (e1 : Amb) (step place : Int) (pl g : Nat) (room mark passed together prev : Int) (h1 : (step == 127) = false) (h2 : (step == 0) = false) (hS : WOk (some ksCR) (base.map Frame.where_)) : EffFr w (pt5H e1 step place pl g room mark passed together prev) base s ((pa5D w step place h1 h2).R (fl1 w) (fl2 w) e1 (base.map Frame.where_)) (.ok .next) := by
  exact effFr rfl (wd [] [] [] 3 (dg 16 0x12) (T := (.v .nil))) (fun b1 b2 W => (pa5D w step place h1 h2).R b1 b2 e1 W) hS (by kernel_rfl)
noncomputable def pfe6H (fr pl it : Nat) (p0 p1 p2 p3 p4 p5 : Int) : Hook := ⟨false, .code (pmF fr it), (some ksPF), [(it, .vw ⟨.type "list_iterator", none, (.fields [.ref pl, .int 6])⟩), (pl, .vw ⟨.type "list", none, (.seq [.int p0, .int p1, .int p2, .int p3, .int p4, .int p5])⟩)], fun na => .next, fun na => [(it, ⟨.type "list_iterator", none, (.fields [.none, .int 6])⟩)], fun na => [], [], fun na => []⟩
theorem pfe6_e (w : World) (fr pl it : Nat) (p0 p1 p2 p3 p4 p5 : Int)  : Eff w (pfe6H fr pl it p0 p1 p2 p3 p4 p5) :=
  effW rfl (wd [8] [0] [] 17 (dg 16 0x1522322212) (T := (.v (.v .nil)))) (by kernel_rfl)
noncomputable def pt6H (e1 : Amb) (step place : Int) (pl g : Nat) (room mark passed together prev : Int) : Hook := ⟨false, .call (.ref 299) [.int step, .int 6, .int place], (some ksCR), [((pa6A e1 step place 0), .vw ⟨.type "frame", none, (.dict [(kS0, .int step), (kS3, .int room), (kS1, .int place), (kS4, .ref pl), (kS18, .int step), (kS5, .ref g), (kS6, .int mark), (kS7, .int passed), (kS8, .int together), (kS9, .int prev)])⟩)], fun na => .ret (.int together), fun na => [], fun na => [], [], fun na => []⟩
theorem pt6_e (w : World) (base : List Frame) (s : Shared) (e1 : Amb) (step place : Int) (pl g : Nat) (room mark passed together prev : Int) (h1 : (step == 127) = false) (h2 : (step == 0) = false) (hS : WOk (some ksCR) (base.map Frame.where_)) : EffFr w (pt6H e1 step place pl g room mark passed together prev) base s ((pa6D w step place h1 h2).R (fl1 w) (fl2 w) e1 (base.map Frame.where_)) (.ok .next) := by
  exact effFr rfl (wd [] [] [] 3 (dg 16 0x12) (T := (.v .nil))) (fun b1 b2 W => (pa6D w step place h1 h2).R b1 b2 e1 W) hS (by kernel_rfl)
structure PQ where
  fr : Nat
  pl : Nat
  g : Nat
  gi : Nat
  gf : Nat
  gl : Nat
  li : Nat
  it : Nat
  S : Nat
  r : Nat
  P : Nat
noncomputable def s_step : Str := kS0
noncomputable def s_room : Str := kS3
noncomputable def s_place : Str := kS1
noncomputable def s_places : Str := kS4
noncomputable def s_stride : Str := kS18
noncomputable def s_endless : Str := kS5
noncomputable def s_mark : Str := kS6
noncomputable def s_passed : Str := kS7
noncomputable def s_together : Str := kS8
noncomputable def s_grouping : Str := kS20
noncomputable def s_last : Str := kS26
noncomputable def s_interval : Str := kS27
noncomputable def s_gi : Str := kS13
noncomputable def pFr (a : PQ) (st : Bool) (mark passed together : Int) (at' : Option Int) : OV := match st, at' with
  | false, none => frmV [(s_step, .int (a.S : Nat)), (s_room, .int (a.r : Nat)), (s_place, .int (a.P : Nat)), (s_places, .ref a.pl), (s_endless, .ref a.g), (s_mark, .int mark), (s_passed, .int passed), (s_together, .int together)]
  | false, some x => frmV [(s_step, .int (a.S : Nat)), (s_room, .int (a.r : Nat)), (s_place, .int (a.P : Nat)), (s_places, .ref a.pl), (s_endless, .ref a.g), (s_mark, .int mark), (s_passed, .int passed), (s_together, .int together), (s_at, .int x)]
  | true, none => frmV [(s_step, .int (a.S : Nat)), (s_room, .int (a.r : Nat)), (s_place, .int (a.P : Nat)), (s_places, .ref a.pl), (s_stride, .int (a.S : Nat)), (s_endless, .ref a.g), (s_mark, .int mark), (s_passed, .int passed), (s_together, .int together)]
  | true, some x => frmV [(s_step, .int (a.S : Nat)), (s_room, .int (a.r : Nat)), (s_place, .int (a.P : Nat)), (s_places, .ref a.pl), (s_stride, .int (a.S : Nat)), (s_endless, .ref a.g), (s_mark, .int mark), (s_passed, .int passed), (s_together, .int together), (s_at, .int x)]
noncomputable def pGen (gi : Nat) : OV := objV "generator" [.int (gi : Nat), .str s_gi, .str s_gi]
noncomputable def pGf (a : PQ) : Bool → OV
  | false => frmV [(s_grouping, .ref a.gl), (s_last, .none), (s_interval, .int (a.r : Nat))]
  | true => frmV [(s_grouping, .ref a.gl), (s_last, .int (a.r : Nat)), (s_interval, .int 0)]
noncomputable def pSt (a : PQ) : Bool → GenState
  | false => gst1 a.gf a.li
  | true => gst2 a.gf a.li
noncomputable def pIx : Bool → Nat
  | false => 1
  | true => 2
noncomputable def LP (a : PQ) (st ph : Bool) (mark passed together : Int) (at' : Option Int) : List (Nat × OV) := [(a.fr, pFr a st mark passed together at'), (a.g, pGen a.gi), (a.gf, pGf a ph), (a.gl, listV [.int (a.r : Nat), .int 0]), (a.li, litV a.gl (pIx ph))]
noncomputable def pwH (a : PQ) (st ph : Bool) (mark passed together at' : Int) : Hook := ⟨false, .code (pmW a.fr), some ksPW, vws (LP a st ph mark passed together (some at')), fun _ => .next, fun _ => (a.fr, pFr a st (mark + (a.r : Nat)) (passed + 1) together (some at')) :: (match ph with | false => [(a.gf, pGf a true), (a.li, litV a.gl 2)] | true => []), fun _ => [], [(a.gi, pSt a ph)], fun _ => [(a.gi, pSt a true)]⟩
theorem pw_turn (w : World) (a : PQ) (st ph : Bool) (mark passed together at' : Int) (h : mark ≤ at') : Turn w (pwH a st ph mark passed together at') (pmW a.fr) := by
  have h := decide_eq_true h
  cases st <;> cases ph
  · exact pw1N_e w a.fr a.pl a.g a.gi a.gf a.gl a.li (a.S : Nat) (a.r : Nat) (a.P : Nat) mark passed together at' h
  · exact pw2N_e w a.fr a.pl a.g a.gi a.gf a.gl a.li (a.S : Nat) (a.r : Nat) (a.P : Nat) mark passed together at' h
  · exact pw1S_e w a.fr a.pl a.g a.gi a.gf a.gl a.li (a.S : Nat) (a.r : Nat) (a.P : Nat) mark passed together at' h
  · exact pw2S_e w a.fr a.pl a.g a.gi a.gf a.gl a.li (a.S : Nat) (a.r : Nat) (a.P : Nat) mark passed together at' h
noncomputable def pweH' (a : PQ) (st : Bool) (mark passed together at' : Int) : Hook := ⟨false, .code (pmW a.fr), some ksPW, vws [(a.fr, pFr a st mark passed together (some at'))], fun _ => .next, fun _ => [], fun _ => [], [], fun _ => []⟩
theorem pw_end (w : World) (a : PQ) (st : Bool) (mark passed together at' : Int) (h : ¬ mark ≤ at') : Eff w (pweH' a st mark passed together at') := by
  have h := decide_eq_false h
  cases st
  · exact pweN_e w a.fr a.pl a.g a.gi a.gf a.gl a.li (a.S : Nat) (a.r : Nat) (a.P : Nat) mark passed together at' h
  · exact pweS_e w a.fr a.pl a.g a.gi a.gf a.gl a.li (a.S : Nat) (a.r : Nat) (a.P : Nat) mark passed together at' h
theorem vws_mem {L : List (Nat × OV)} {q : Nat × SV} (h : q ∈ vws L) : ∃ v, q.2 = .vw v ∧ (q.1, v) ∈ L := by
  obtain ⟨q', h1, rfl⟩ := List.mem_map.mp h
  exact ⟨q'.2, rfl, h1⟩
theorem pw_go (w : World) (a : PQ) (st : Bool) (hr : 1 ≤ a.r) (together : Int) (m : Nat) (base : List Frame) (hb : Bot base) (hs : Spine ksPW base) :
    ∀ (d q : Nat) (ph : Bool) (s : Shared) (p : Pos), q + d = m / a.r → Here w false (LP a st ph ((q + 1) * a.r : Nat) (q : Nat) together (some (m : Nat))) [(a.gi, pSt a ph)] s →
    ∃ ph' s', Reach (Mo pw w) base s (den (pmW a.fr)) (pmW a.fr) p [] s' (.ret (.ok .next)) ∧ Here w false (LP a st ph' ((m / a.r + 1) * a.r : Nat) (m / a.r : Nat) together (some (m : Nat))) [(a.gi, pSt a ph')] s' ∧ Rel false [a.fr, a.gf, a.li] [a.gi] s s' := by
  intro d
  induction d with
  | zero =>
    intro q ph s p hq H
    obtain rfl : q = m / a.r := by omega
    have hlt : ¬ (((m / a.r + 1) * a.r : Nat) : Int) ≤ (m : Nat) := by
      have h2 : m < (m / a.r + 1) * a.r := by
        rw [Nat.mul_comm]
        exact Nat.lt_mul_div_succ m (by omega)
      omega
    obtain ⟨na, r', s', R, hr', Af⟩ := (pw_end w a st _ (m / a.r : Nat) together (m : Nat) hlt).go (base := base) (s := s) p rfl (H.asksI hb hs [0])
    obtain ⟨t, rfl⟩ := rv_mk hr'
    exact ⟨ph, s', R, Af.hereG H [] [(2,0), (2,1), (2,2), (2,3), (2,4)] (fun q hq => .inr ⟨hq, fun h => nomatch h⟩) H.gnd, (Rel.refl false _ _ s).within Af.rel an an (fun h => by cases h)⟩
  | succ d ih =>
    intro q ph s p hq H
    have hle : (((q + 1) * a.r : Nat) : Int) ≤ (m : Nat) := by
      have h1 : (q + 1) * a.r ≤ m / a.r * a.r := Nat.mul_le_mul_right _ (by omega)
      have h2 := Nat.div_mul_le_self m a.r
      omega
    have e1 : (((q + 1) * a.r : Nat) : Int) + (a.r : Nat) = ((q + 1 + 1) * a.r : Nat) := by
      rw [Nat.succ_mul (q + 1)]
      omega
    have e2 : ((q : Nat) : Int) + 1 = (q + 1 : Nat) := by omega
    obtain ⟨na, s1, ⟨p', G⟩, Af⟩ := (pw_turn w a st ph ((q + 1) * a.r : Nat) (q : Nat) together (m : Nat) hle).go (base := base) (s := s) p rfl (H.asksI hb hs [0,1,2,3,4] (hg := .inr rfl))
    cases ph with
    | false =>
      have H1 : Here w false (LP a st true (((q + 1) * a.r : Nat) + (a.r : Nat)) ((q : Nat) + 1) together (some (m : Nat))) [(a.gi, pSt a true)] s1 := Af.hereG H [0,2,4] [(0,0), (2,1), (0,1), (2,3), (0,2)] (fun z hz => .inl hz) H.gnd
      rw [e1, e2] at H1
      obtain ⟨ph', s', R, H', R'⟩ := ih (q + 1) true s1 p' (by omega) H1
      exact ⟨ph', s', G _ _ R, H', ((Rel.refl false _ _ s).within Af.rel (fun x hx => .inl hx) (fun x hx => .inl hx) (fun h => by cases h)).trans R'⟩
    | true =>
      have H1 : Here w false (LP a st true (((q + 1) * a.r : Nat) + (a.r : Nat)) ((q : Nat) + 1) together (some (m : Nat))) [(a.gi, pSt a true)] s1 := Af.hereG H [0] [(0,0), (2,1), (2,2), (2,3), (2,4)] (fun z hz => .inl hz) H.gnd
      rw [e1, e2] at H1
      obtain ⟨ph', s', R, H', R'⟩ := ih (q + 1) true s1 p' (by omega) H1
      exact ⟨ph', s', G _ _ R, H', ((Rel.refl false _ _ s).within Af.rel (ac (.inl (.head _)) an) (fun x hx => .inl hx) (fun h => by cases h)).trans R'⟩
noncomputable def plS (S P : Nat) : Nat → Int
  | 0 => (P : Nat)
  | i + 1 => plS S P i + (S : Nat)
theorem plS_eq (S P i : Nat) : plS S P i = (P + i * S : Nat) := by
  induction i with
  | zero => rw [Nat.zero_mul]; rfl
  | succ i ih =>
    show plS S P i + (S : Nat) = _
    rw [ih, Nat.succ_mul]
    omega
noncomputable def placesL (S P r : Nat) : List VV := (List.range r).map fun i => VV.int (plS S P i)
noncomputable def LPF (a : PQ) (st ph : Bool) (mark passed together : Int) (at' : Option Int) (i : Nat) (ls : List VV) : List (Nat × OV) := LP a st ph mark passed together at' ++ [(a.it, litV a.pl i), (a.pl, listV ls)]
noncomputable abbrev pmFc (a : PQ) : Code := pmF a.fr a.it
noncomputable def g1H (a : PQ) (st : Bool) (mark passed together : Int) (o at' : Option Int) (x : Int) (i : Nat) (ls : List VV) (κ : TK) : Hook := ⟨false, .code (pmFc a), some ksPF, [(a.fr, .vw (pFr a st mark passed together o)), (a.it, .vw (litV a.pl i)), (a.pl, .ob ((listV ls).mk' κ))], fun _ => .next, fun _ => [(a.fr, pFr a st mark passed together (some x)), (a.it, litV a.pl (i + 1))], fun _ => [], [], fun _ => []⟩
noncomputable def g2H (a : PQ) (st : Bool) (mark passed together x : Int) : Hook := ⟨false, .code (pmFc a), some ksPF, [(a.fr, .vw (pFr a st mark passed together (some x)))], fun _ => .next, fun _ => [(a.fr, pFr a st mark passed (together + passed) (some x))], fun _ => [], [], fun _ => []⟩
noncomputable def TwoP (w : World) (a : PQ) (st : Bool) (mark passed together : Int) (o : Option Int) (x : Int) (i : Nat) (ls : List VV) (κ : TK) : Prop := ∃ (X : Amb → List (Code × Pos) → Option (List Ora × St)) (A : Amb → List (Code × Pos) → Nat → Nat), CallW w (g1H a st mark passed together o o x i ls κ) (fun _ => pmW a.fr) .fo X A ∧
  ∀ (base : List Frame) (s : Shared) (e1 : Amb) (mark' passed' : Int), WOk (some ksPF) (base.map Frame.where_) → TurnAt w (g2H a st mark' passed' together x) base s (contOf (outOf (X e1 (base.map Frame.where_))).t (.ok .next)) (outOf (X e1 (base.map Frame.where_))).c (outOf (X e1 (base.map Frame.where_))).p (pmFc a)
theorem twoP (w : World) (a : PQ) (st : Bool) (mark passed together : Int) (o : Option Int) (x : Int) (i : Nat) (ls : List VV) (κ : TK) (h : ls[i]? = some (.int x)) : TwoP w a st mark passed together o x i ls κ := by
  cases st <;> cases o
  · exact ⟨_, _, pf0N1_e w a.fr a.pl a.g a.it i (a.S : Nat) (a.r : Nat) (a.P : Nat) mark passed together 0 x ls κ h, fun base s e1 m' p' hS => pf0N2_e w base s e1 a.fr a.pl a.g a.it i (a.S : Nat) (a.r : Nat) (a.P : Nat) mark passed together 0 x ls κ m' p' h hS⟩
  · rename_i y
    exact ⟨_, _, pf1N1_e w a.fr a.pl a.g a.it i (a.S : Nat) (a.r : Nat) (a.P : Nat) mark passed together y x ls κ h, fun base s e1 m' p' hS => pf1N2_e w base s e1 a.fr a.pl a.g a.it i (a.S : Nat) (a.r : Nat) (a.P : Nat) mark passed together y x ls κ m' p' h hS⟩
  · exact ⟨_, _, pf0S1_e w a.fr a.pl a.g a.it i (a.S : Nat) (a.r : Nat) (a.P : Nat) mark passed together 0 x ls κ h, fun base s e1 m' p' hS => pf0S2_e w base s e1 a.fr a.pl a.g a.it i (a.S : Nat) (a.r : Nat) (a.P : Nat) mark passed together 0 x ls κ m' p' h hS⟩
  · rename_i y
    exact ⟨_, _, pf1S1_e w a.fr a.pl a.g a.it i (a.S : Nat) (a.r : Nat) (a.P : Nat) mark passed together y x ls κ h, fun base s e1 m' p' hS => pf1S2_e w base s e1 a.fr a.pl a.g a.it i (a.S : Nat) (a.r : Nat) (a.P : Nat) mark passed together y x ls κ m' p' h hS⟩
theorem pf_turn (w : World) (a : PQ) (st ph : Bool) (hr : 1 ≤ a.r) (together : Int) (o : Option Int) (m q i : Nat) (ls : List VV) (hx : ls[i]? = some (.int (m : Nat))) (hq : q ≤ m / a.r) (base : List Frame) (hb : Bot base) (hs : Spine ksPF base) (s : Shared) (p : Pos)
    (H : Here w false (LPF a st ph ((q + 1) * a.r : Nat) (q : Nat) together o i ls) [(a.gi, pSt a ph)] s) :
    ∃ ph' s', GoTo w base s (pmFc a) p s' (pmFc a) ∧ Here w false (LPF a st ph' ((m / a.r + 1) * a.r : Nat) (m / a.r : Nat) (together + (m / a.r : Nat)) (some (m : Nat)) (i + 1) ls) [(a.gi, pSt a ph')] s' ∧ Rel false [a.fr, a.gf, a.li, a.it] [a.gi] s s' := by
  obtain ⟨κ, hκ⟩ := H.obj (a := a.pl) (v := listV ls) (.tail _ (.tail _ (.tail _ (.tail _ (.tail _ (.tail _ (.head _))))))) rfl
  obtain ⟨X, A, C1, T2⟩ := twoP w a st ((q + 1) * a.r : Nat) (q : Nat) together o (m : Nat) i ls κ hx
  obtain ⟨na, s1, e1, _, ⟨fr, hB, hSp, _, p1, G1⟩, Af1⟩ := C1 base p s (pmFc a) rfl (H.asksO hb hs [(0, none), (5, none), (6, some _)] (ac no_ob (ac no_ob (ac (the_ob hκ) an))))
  have H1 : Here w false (LPF a st ph ((q + 1) * a.r : Nat) (q : Nat) together (some (m : Nat)) (i + 1) ls) [(a.gi, pSt a ph)] s1 := Af1.hereG H [0,5] [(0,0), (2,1), (2,2), (2,3), (2,4), (0,1), (2,6)] (fun z hz => .inr ⟨hz, fun h => nomatch h⟩) H.gnd
  obtain ⟨ph', s2, R2, H2, Rl2⟩ := pw_go w a st hr together m (fr :: base) (hB hb) (hSp _ hs) (m / a.r - q) q ph s1 p1 (by omega) (H1.subI [0,1,2,3,4])
  have H2' : Here w false (LPF a st ph' ((m / a.r + 1) * a.r : Nat) (m / a.r : Nat) together (some (m : Nat)) (i + 1) ls) [(a.gi, pSt a ph')] s2 := H1.frameI H2 Rl2 [0,2,4] [0,1,2,3,4] [5,6]
  obtain ⟨na2, s3, ⟨p', G3⟩, Af3⟩ := T2 base s2 e1 ((m / a.r + 1) * a.r : Nat) (m / a.r : Nat) hs (H2'.asksI hb hs [0])
  refine ⟨ph', s3, ⟨p', fun s'' e hR => G1 s2 _ R2 s'' e (G3 s'' e hR)⟩, Af3.hereG H2' [0] [(0,0), (2,1), (2,2), (2,3), (2,4), (2,5), (2,6)] (fun z hz => .inr ⟨hz, fun h => nomatch h⟩) H2'.gnd, ?_⟩
  exact (((Rel.refl false _ _ s).within Af1.rel (ac (.inl (.head _)) (ac (.inl (.tail _ (.tail _ (.tail _ (.head _))))) an)) an (fun h => by cases h)).within Rl2 (ac (.inl (.head _)) (ac (.inl (.tail _ (.head _))) (ac (.inl (.tail _ (.tail _ (.head _)))) an))) (fun x hx => .inl hx) (fun h => h)).within Af3.rel (ac (.inl (.head _)) an) an (fun h => by cases h)
noncomputable def peH (a : PQ) (i : Nat) (ls : List VV) : Hook := ⟨false, .code (pmFc a), some ksPF, vws [(a.it, litV a.pl i), (a.pl, listV ls)], fun _ => .next, fun _ => [(a.it, objV "list_iterator" [.none, .int (i : Nat)])], fun _ => [], [], fun _ => []⟩
theorem pe_end (w : World) (a : PQ) (h1 : 1 ≤ a.r) (h6 : a.r ≤ 6) : Eff w (peH a a.r (placesL a.S a.P a.r)) := by
  obtain ⟨fr, pl, g, gi, gf, gl, li, it, S, r, P⟩ := a
  dsimp only at *
  obtain rfl | rfl | rfl | rfl | rfl | rfl : r = 1 ∨ r = 2 ∨ r = 3 ∨ r = 4 ∨ r = 5 ∨ r = 6 := by omega
  · exact pfe1_e w fr pl it (plS S P 0)
  · exact pfe2_e w fr pl it (plS S P 0) (plS S P 1)
  · exact pfe3_e w fr pl it (plS S P 0) (plS S P 1) (plS S P 2)
  · exact pfe4_e w fr pl it (plS S P 0) (plS S P 1) (plS S P 2) (plS S P 3)
  · exact pfe5_e w fr pl it (plS S P 0) (plS S P 1) (plS S P 2) (plS S P 3) (plS S P 4)
  · exact pfe6_e w fr pl it (plS S P 0) (plS S P 1) (plS S P 2) (plS S P 3) (plS S P 4) (plS S P 5)
theorem pf_go (w : World) (a : PQ) (st : Bool) (h1 : 1 ≤ a.r) (h6 : a.r ≤ 6) (base : List Frame) (hb : Bot base) (hs : Spine ksPF base) :
    ∀ (d i q : Nat) (ph : Bool) (o : Option Int) (s : Shared) (p : Pos), i + d = a.r → (0 < d → q ≤ (a.P + i * a.S) / a.r) → (d = 0 → ∃ x, o = some x) →
    Here w false (LPF a st ph ((q + 1) * a.r : Nat) (q : Nat) (cS a.P a.S a.r i : Nat) o i (placesL a.S a.P a.r)) [(a.gi, pSt a ph)] s →
    ∃ q' x s', Reach (Mo pw w) base s (den (pmFc a)) (pmFc a) p [] s' (.ret (.ok .next)) ∧ Here w false [(a.fr, pFr a st ((q' + 1) * a.r : Nat) (q' : Nat) (cS a.P a.S a.r a.r : Nat) (some x))] [] s' ∧ Rel false [a.fr, a.gf, a.li, a.it] [a.gi] s s' := by
  intro d
  induction d with
  | zero =>
    intro i q ph o s p hi _ ho H
    obtain rfl : i = a.r := by omega
    obtain ⟨x, rfl⟩ := ho rfl
    obtain ⟨na, r', s', R, hr', Af⟩ := (pe_end w a h1 h6).go (base := base) (s := s) p rfl (H.asksI hb hs [5,6])
    obtain ⟨t, rfl⟩ := rv_mk hr'
    exact ⟨q, x, s', R, Af.hereG H [5] [(2,0)] (fun q hq => nomatch hq) List.nodup_nil, (Rel.refl false _ _ s).within Af.rel (ac (.inl (.tail _ (.tail _ (.tail _ (.head _))))) an) an (fun h => by cases h)⟩
  | succ d ih =>
    intro i q ph o s p hi hq _ H
    have hx : (placesL a.S a.P a.r)[i]? = some (.int ((a.P + i * a.S : Nat) : Int)) := by
      unfold placesL
      rw [List.getElem?_map, List.getElem?_range (by omega)]
      show some (VV.int (plS a.S a.P i)) = _
      rw [plS_eq]
    obtain ⟨ph', s1, ⟨p', G⟩, H1, R1⟩ := pf_turn w a st ph h1 (cS a.P a.S a.r i : Nat) o (a.P + i * a.S) q i _ hx (hq (by omega)) base hb hs s p H
    obtain ⟨q', x, s', R, H', R'⟩ := ih (i + 1) ((a.P + i * a.S) / a.r) ph' (some ((a.P + i * a.S : Nat) : Int)) s1 p' (by omega) (fun _ => Nat.div_le_div_right (by rw [Nat.succ_mul]; omega)) (fun _ => ⟨_, rfl⟩) H1
    exact ⟨q', x, s', G _ _ R, H', R1.trans R'⟩
noncomputable def stOf : Nat → Bool
  | 1 => false
  | _ => true
noncomputable def paU (S r P : Nat) : Hook := ⟨false, .call (.ref 299) [.int (S : Nat), .int (r : Nat), .int (P : Nat)], some ksCR, [], fun _ => .next, fun _ => [], fun na => [pFr ⟨na 0, na 1, na 2, na 7, na 3, na 4, na 5, na 6, S, r, P⟩ (stOf r) (r : Nat) 0 0 none, listV (placesL S P r), pGen (na 7), pGf ⟨na 0, na 1, na 2, na 7, na 3, na 4, na 5, na 6, S, r, P⟩ false, listV [.int (r : Nat), .int 0], litV (na 4) 1, litV (na 1) 0], [], fun _ => []⟩
noncomputable def ptU (S r P fr pl g : Nat) (mark passed together x : Int) : Hook := ⟨false, .call (.ref 299) [.int (S : Nat), .int (r : Nat), .int (P : Nat)], some ksCR, [(fr, .vw (pFr ⟨fr, pl, g, 0,0,0,0,0, S, r, P⟩ (stOf r) mark passed together (some x)))], fun _ => .ret (.int together), fun _ => [], fun _ => [], [], fun _ => []⟩
theorem pm_parts (w : World) (S r P : Nat) (hS1 : 1 ≤ S) (hS6 : S ≤ 6) (h1 : 1 ≤ r) (h6 : r ≤ 6) : ∃ (X : Amb → List (Code × Pos) → Option (List Ora × St)) (A : Amb → List (Code × Pos) → Nat → Nat), CallG w (paU S r P) (fun na => pmF (na 0) (na 6)) .func X A (fun e W => [(A e W 7, gst1 (A e W 3) (A e W 5))]) ∧ (∀ e W, e.gb ≤ A e W 7) ∧
    ∀ (base : List Frame) (s : Shared) (e1 : Amb) (pl g : Nat) (mark passed together x : Int), WOk (some ksCR) (base.map Frame.where_) → EffAt w (ptU S r P (A e1 (base.map Frame.where_) 0) pl g mark passed together x) base s (contOf (outOf (X e1 (base.map Frame.where_))).t (.ok .next)) (outOf (X e1 (base.map Frame.where_))).c (outOf (X e1 (base.map Frame.where_))).p := by
  have a1 : (((S : Nat) : Int) == 127) = false := by simp; omega
  have a2 : (((S : Nat) : Int) == 0) = false := by simp; omega
  obtain rfl | rfl | rfl | rfl | rfl | rfl : r = 1 ∨ r = 2 ∨ r = 3 ∨ r = 4 ∨ r = 5 ∨ r = 6 := by omega
  · exact ⟨_, _, pa1_e w (S : Nat) (P : Nat) a1 a2, fun _ _ => Nat.le_add_right _ _, fun base s e1 pl g m p t x hS => pt1_e w base s e1 (S : Nat) (P : Nat) pl g 1 m p t x a1 a2 hS⟩
  · exact ⟨_, _, pa2_e w (S : Nat) (P : Nat) a1 a2, fun _ _ => Nat.le_add_right _ _, fun base s e1 pl g m p t x hS => pt2_e w base s e1 (S : Nat) (P : Nat) pl g 2 m p t x a1 a2 hS⟩
  · exact ⟨_, _, pa3_e w (S : Nat) (P : Nat) a1 a2, fun _ _ => Nat.le_add_right _ _, fun base s e1 pl g m p t x hS => pt3_e w base s e1 (S : Nat) (P : Nat) pl g 3 m p t x a1 a2 hS⟩
  · exact ⟨_, _, pa4_e w (S : Nat) (P : Nat) a1 a2, fun _ _ => Nat.le_add_right _ _, fun base s e1 pl g m p t x hS => pt4_e w base s e1 (S : Nat) (P : Nat) pl g 4 m p t x a1 a2 hS⟩
  · exact ⟨_, _, pa5_e w (S : Nat) (P : Nat) a1 a2, fun _ _ => Nat.le_add_right _ _, fun base s e1 pl g m p t x hS => pt5_e w base s e1 (S : Nat) (P : Nat) pl g 5 m p t x a1 a2 hS⟩
  · exact ⟨_, _, pa6_e w (S : Nat) (P : Nat) a1 a2, fun _ _ => Nat.le_add_right _ _, fun base s e1 pl g m p t x hS => pt6_e w base s e1 (S : Nat) (P : Nat) pl g 6 m p t x a1 a2 hS⟩
noncomputable def pmH (S r P : Nat) : Hook := ⟨false, .call (.ref 299) [.int (S : Nat), .int (r : Nat), .int (P : Nat)], some ksCR, [], fun _ => .ret (.int (cS P S r r : Nat)), fun _ => [], fun _ => [], [], fun _ => []⟩
theorem e_pm (w : World) (S r P : Nat) (hS1 : 1 ≤ S) (hS6 : S ≤ 6) (h1 : 1 ≤ r) (h6 : r ≤ 6) : Eff w (pmH S r P) := eff_of fun base p s c hc A => by
  have H := asks_here A (L := []) .nil
  have hspc : Spine ksCR base := A.sp _ rfl
  obtain ⟨X, AA, C1, hA, T2⟩ := pm_parts w S r P hS1 hS6 h1 h6
  obtain ⟨na, s1, e1, hna, ⟨fr0, hB, hSp, _, p1, G1⟩, Af1, hgb, hG⟩ := C1 base p s c hc (H.asksI A.bot hspc [])
  let a : PQ := ⟨na 0, na 1, na 2, na 7, na 3, na 4, na 5, na 6, S, r, P⟩
  have H0 : Here w false (LPF a (stOf r) false (r : Nat) (0 : Nat) (cS P S r 0 : Nat) none 0 (placesL S P r)) [] s1 := Af1.hereI H [] [(1,0), (1,2), (1,3), (1,4), (1,5), (1,6), (1,1)]
  have hg := hG _ (.head _)
  rw [← hna] at hg
  have H1 : Here w false (LPF a (stOf r) false (r : Nat) (0 : Nat) (cS P S r 0 : Nat) none 0 (placesL S P r)) [(na 7, pSt a false)] s1 := ⟨H0.kt, H0.tbl, H0.cells, H0.nd, H0.high, ac hg an, by simp⟩
  obtain ⟨q', x, s2, R2, H2, Rl2⟩ := pf_go w a (stOf r) h1 h6 (fr0 :: base) (hB A.bot) (hSp _ hspc) r 0 0 false none s1 p1 (Nat.zero_add _) (fun _ => Nat.zero_le _) (fun h => absurd h (by omega)) (by rw [Nat.zero_add, Nat.one_mul]; exact H1)
  have hE := T2 base s2 e1 (na 1) (na 2) ((q' + 1) * r : Nat) (q' : Nat) (cS P S r r : Nat) x hspc
  rw [← hna] at hE
  obtain ⟨na2, rr, s3, R3, hr3, Af3⟩ := hE (H2.asksI A.bot hspc [0])
  have g7 : s.gens.size ≤ na 7 := by rw [hna, ← hgb]; exact hA _ _
  exact ⟨fun _ => 0, rr, s3, G1 s2 _ R2 s3 _ R3, hr3, after_of (as := []) (gs := []) ((((Rel.refl false [] [] s).within Af1.rel an an (fun h => by cases h)).within Rl2 (ac (.inr (.inl (Af1.new 0 _ rfl).1)) (ac (.inr (.inl (Af1.new 3 _ rfl).1)) (ac (.inr (.inl (Af1.new 5 _ rfl).1)) (ac (.inr (.inl (Af1.new 6 _ rfl).1)) an)))) (ac (.inr g7) an) (fun h => h)).within Af3.rel an an (fun h => by cases h)) an an (fun q hq => nomatch hq) rfl (fun h => by cases h) (fun q hq => nomatch hq)⟩
theorem siter_meets (x : Str) (t : Tok) (ha : x.cps.all (· < 128) = true) :
    Meets (Builtin.«str.__iter__» ⟨[.str x t], []⟩) (fun _ R s => R (.ok (.ret (Value.ref s.heap.objs.size))) { s with heap := s.heap.push { cls := Value.type "str_ascii_iterator", data := Data.fields #[.str x t, rawInt 0] } }) :=
  .of_wp fun prog w A R s h => by
    unfold Builtin.«str.__iter__»
    wp_walk
    refine ⟨_, rfl, ?_⟩
    rw [show (Builtin.Str.isExactStr (Value.str x t) && x.cps.all fun x => decide (x < 128)) = true from by rw [ha]; rfl]
    exact h
theorem snext_meets (it : Addr) (x : Str) (t u : Tok) (i c : Nat) (hc : x.cps[i]? = some c) :
    Meets (Builtin.«str_ascii_iterator.__next__» ⟨[.ref it], []⟩) (fun _ R s => s.heap.get? it = some { cls := .type "str_ascii_iterator", dict := none, data := .fields #[.str x t, .int (i : Nat) u], slots := #[] } ∧ R (.ok (.ret (Value.str ⟨#[c]⟩ s.toks))) { s with heap := s.heap.update it (Obj.mapFields fun x => x.setIfInBounds 1 (rawInt ((i : Nat) + 1))), toks := s.toks + 1 }) :=
  .of_wp fun prog w A R s h => by
    obtain ⟨hit, h⟩ := h
    unfold Builtin.«str_ascii_iterator.__next__»
    wp_walk
    rw [Int.toNat_natCast, hc]
    wp_walk
    exact ⟨_, rfl, h⟩
theorem fits_idx {k : Nat} (h : k ≤ 100000) : Builtin.List.listFitsIndex (k : Nat) = true := by
  unfold Builtin.List.listFitsIndex
  simp
  omega
theorem lget_meets (l : Addr) (items : Array Value) (n k : Nat) (t : Tok) (v : Value) (kk : Int) (hkk : kk = (k : Nat)) (hf : Builtin.List.listFitsIndex kk = true) (hv : items[k]? = some v) :
    Meets (Builtin.«list.__getitem__» ⟨[.ref l, .int kk t], []⟩) (fun _ R s => s.heap.get? l = some { cls := .type "list", dict := none, data := .seq items n, slots := #[] } ∧ R (.ok (.ret v)) s) := by
  refine Meets.of_wp fun prog w A R s h => ?_
  obtain ⟨hl, h⟩ := h
  show wpAny _ _ (Builtin.List.listSubscript? (.int kk t) >>= _) _ _ s
  refine wpAny_bind (PySem.wpAny_listSubscript_int hf ?_)
  clear hf
  subst hkk
  show wpAny _ _ ((seqItemAt l k >>= fun r => pure (r.map (k, ·))) >>= _) _ _ s
  refine wpAny_bind (wpAny_bind (wpAny_seqItemAt hl rfl (wpAny_pure ?_)))
  rw [hv]
  first
    | exact wpAny_bind (wpAny_pure (wpAny_pure ⟨v, rfl, h⟩))
    | exact wpAny_pure ⟨v, rfl, h⟩
theorem lset_meets (l : Addr) (items : Array Value) (n k : Nat) (t : Tok) (v : Value) (kk : Int) (hkk : kk = (k : Nat)) (hf : Builtin.List.listFitsIndex kk = true) (hs : k < items.size) :
    Meets (Builtin.«list.__setitem__» ⟨[.ref l, .int kk t, v], []⟩) (fun _ R s => s.heap.get? l = some { cls := .type "list", dict := none, data := .seq items n, slots := #[] } ∧ R (.ok (.ret .none)) { s with heap := s.heap.update l (Obj.mapSeq fun x => x.setIfInBounds k v) }) := by
  refine Meets.of_wp fun prog w A R s h => ?_
  obtain ⟨hl, h⟩ := h
  show wpAny _ _ (Builtin.List.listSubscript? (.int kk t) >>= _) _ _ s
  refine wpAny_bind (PySem.wpAny_listSubscript_int hf ?_)
  clear hf
  subst hkk
  show wpAny _ _ ((seqItemAt l k >>= fun r => pure (r.map (k, ·))) >>= _) _ _ s
  refine wpAny_bind (wpAny_bind (wpAny_seqItemAt hl rfl (wpAny_pure ?_)))
  rw [show items[k]? = some items[k] from Array.getElem?_eq_getElem hs]
  show wpAny _ _ (setSeqItemAt l k v >>= _) _ _ s
  refine wpAny_bind (wpAny_setSeqItemAt hl rfl ?_)
  first
    | exact wpAny_bind (wpAny_pure (wpAny_pure ⟨.none, rfl, h⟩))
    | exact wpAny_pure ⟨.none, rfl, h⟩
noncomputable def sitV (x : Str) (i : Nat) : OV := objV "str_ascii_iterator" [.str x, .int (i : Nat)]
noncomputable def siterH (x : Str) : Hook := ⟨false, .call (.bi "str.__iter__") [.str x], none, [], fun na => .ret (.ref (na 0)), fun _ => [], fun _ => [sitV x 0], [], fun _ => []⟩
theorem e_siter (w : World) (x : Str) (ha : x.cps.all (· < 128) = true) : Eff w (siterH x) := by
  intro base p s cc hcc hb _ _ _ hneed _ _ _ _
  obtain ⟨f, vs, rfl, hf, hv⟩ := hcc
  obtain rfl := vvf_bi hf
  obtain ⟨t, rfl⟩ := vvs1 hv
  obtain ⟨r, s', R, rfl, rfl⟩ := meets_reach' (w := w) (p := p) (s := s) (id := "str.__iter__") (args := ⟨[.str x t], []⟩) (R := fun r s' => r = .ok (.ret (.ref s.heap.objs.size)) ∧ s' = { s with heap := s.heap.push { cls := Value.type "str_ascii_iterator", data := Data.fields #[.str x t, rawInt 0] }, toks := s.toks }) hb (by decide +kernel) (entryFor_of_tree (by kernel_rfl)) (by kernel_rfl)
    (siter_meets x t ha) (fun A => ⟨rfl, rfl⟩)
  exact ⟨fun _ => s.heap.objs.size, _, _, R, rfl, after_new rfl rfl (fun _ => rfl) (fun _ => rfl) (fun _ => rfl) rfl (Nat.le_refl _)⟩
noncomputable def snextH (it : Nat) (x : Str) (i c : Nat) : Hook := ⟨false, .call (.bi "str_ascii_iterator.__next__") [.ref it], none, [(it, .vw (sitV x i))], fun _ => .ret (.str (mkStr [c])), fun _ => [(it, sitV x (i + 1))], fun _ => [], [], fun _ => []⟩
theorem e_snext (w : World) (it : Nat) (x : Str) (i c : Nat) (hc : x.cps[i]? = some c) : Eff w (snextH it x i c) := by
  intro base p s cc hcc hb _ _ _ hneed _ _ _ _
  obtain ⟨f, vs, rfl, hf, hv'⟩ := hcc
  obtain rfl := vvf_bi hf
  obtain ⟨t, rfl⟩ := vvs1 hv'
  obtain ⟨o, ho, hov⟩ := hneed _ (.head _)
  obtain ⟨κ', rfl⟩ := ov_mk hov rfl
  have ho : s.heap.get? it = some ⟨.type "str_ascii_iterator", none, .fields #[.str x (κ'.t 0), .int (i : Nat) (κ'.t 1)], #[]⟩ := ho
  obtain ⟨rr, s', R, rfl, rfl⟩ := meets_reach (w := w) (p := p) (s := s) (self := .ref it) (rest := []) (R := fun rr s' => rr = .ok (.ret (.str ⟨#[c]⟩ s.toks)) ∧ s' = { s with heap := s.heap.update it (Obj.mapFields fun x => x.setIfInBounds 1 (rawInt ((i : Nat) + 1))), toks := s.toks + 1 }) hb PySem.F.slot_str_ascii_iterator_next ⟨_, ho, rfl⟩ PySem.F.entry_str_ascii_iterator_next (PySem.F.args_str_ascii_iterator_next_1 _)
    (snext_meets it x _ _ i c hc) (fun A => ⟨ho, rfl, rfl⟩)
  exact ⟨fun _ => 0, _, _, R, rfl, after_upd ho rfl rfl rfl rfl rfl rfl (Nat.le_succ _)⟩
noncomputable def lgetH (l : Nat) (o : Obj) (k : Nat) (v : VV) : Hook := ⟨false, .call (.bi "list.__getitem__") [.ref l, .int (k : Nat)], none, [(l, .ob o)], fun _ => .ret v, fun _ => [], fun _ => [], [], fun _ => []⟩
theorem e_lget (w : World) (l : Nat) (κ : TK) (ls : List VV) (k : Nat) (v : VV) (hk : k ≤ 100000) (hv : ls[k]? = some v) : Eff w (lgetH l ((listV ls).mk' κ) k v) := by
  intro base p s cc hcc hb _ _ _ hneed _ _ _ _
  obtain ⟨f, vs, rfl, hf, hv'⟩ := hcc
  obtain rfl := vvf_bi hf
  obtain ⟨t, u, rfl⟩ := vvs2 hv'
  obtain ⟨o, ho, rfl⟩ := hneed _ (.head _)
  have ho : s.heap.get? l = some ⟨.type "list", none, .seq ⟨mkVs κ.t 0 ls⟩ κ.e, #[]⟩ := ho
  have hx : (⟨mkVs κ.t 0 ls⟩ : Array Value)[k]? = some (v.mk (κ.t (0 + k))) := by
    rw [List.getElem?_toArray]
    exact mkVs_at hv
  have key : ∀ kk : Int, kk = ((k : Nat) : Int) → ∃ rr s', Reach (Mo pw w) base s (den (.call (.builtin "list.__getitem__") ⟨[.ref l, .int kk u], []⟩)) (.call (.builtin "list.__getitem__") ⟨[.ref l, .int kk u], []⟩) p [] s' (.ret rr) ∧ (rr = .ok (.ret (v.mk (κ.t (0 + k)))) ∧ s' = s) := fun kk hkk =>
    meets_reach (w := w) (p := p) (s := s) (self := .ref l) (rest := [.int kk u]) (R := fun rr s' => rr = .ok (.ret (v.mk (κ.t (0 + k)))) ∧ s' = s) hb PySem.F.slot_list_getitem ⟨_, ho, rfl⟩ PySem.F.entry_list_getitem (by unfold argsOk; kernel_rfl)
    (lget_meets l _ κ.e k u _ kk hkk (hkk ▸ fits_idx hk) hx) (fun A => ⟨ho, rfl, rfl⟩)
  obtain ⟨rr, s', R, rfl, hs'⟩ := key _ rfl
  subst hs'
  exact ⟨fun _ => 0, _, _, R, by show (match vv (v.mk _) with | some x => some (RV.ret x) | none => none) = _; rw [vv_mk']; rfl, after_same (s := s') (t := s'.toks) rfl rfl rfl rfl (Nat.le_refl _)⟩
noncomputable def lsetH (l : Nat) (o : Obj) (ls : List VV) (k : Nat) (v : VV) : Hook := ⟨false, .call (.bi "list.__setitem__") [.ref l, .int (k : Nat), v], none, [(l, .ob o)], fun _ => .ret .none, fun _ => [(l, listV (ls.set k v))], fun _ => [], [], fun _ => []⟩
theorem vvs_set {l : List Value} {r : List VV} {k : Nat} {x : Value} {y : VV} (h : vvs l = some r) (hx : vv x = some y) : vvs (l.set k x) = some (r.set k y) := by
  induction l generalizing r k with
  | nil => cases h; rfl
  | cons v l ih =>
    unfold vvs at h
    cases e : vv v with
    | none => rw [e] at h; cases h
    | some a =>
      rw [e] at h
      dsimp only at h
      cases e' : vvs l with
      | none => rw [e'] at h; cases h
      | some r' =>
        rw [e'] at h
        cases h
        cases k with
        | zero => show vvs (x :: l) = some (y :: r'); unfold vvs; rw [hx, e']
        | succ k =>
          show vvs (v :: l.set k x) = some (a :: r'.set k y)
          unfold vvs
          rw [e, ih e']
theorem e_lset (w : World) (l : Nat) (κ : TK) (ls : List VV) (k : Nat) (v : VV) (hk : k ≤ 100000) (hv : k < ls.length) : Eff w (lsetH l ((listV ls).mk' κ) ls k v) := by
  intro base p s cc hcc hb _ _ _ hneed _ _ _ _
  obtain ⟨f, vs, rfl, hf, hv'⟩ := hcc
  obtain rfl := vvf_bi hf
  obtain ⟨t, u, x, rfl⟩ := vvs3 hv'
  obtain ⟨o, ho, rfl⟩ := hneed _ (.head _)
  have ho : s.heap.get? l = some ⟨.type "list", none, .seq ⟨mkVs κ.t 0 ls⟩ κ.e, #[]⟩ := ho
  have key : ∀ kk : Int, kk = ((k : Nat) : Int) → ∃ rr s', Reach (Mo pw w) base s (den (.call (.builtin "list.__setitem__") ⟨[.ref l, .int kk u, v.mk x], []⟩)) (.call (.builtin "list.__setitem__") ⟨[.ref l, .int kk u, v.mk x], []⟩) p [] s' (.ret rr) ∧ (rr = .ok (.ret .none) ∧ s' = { s with heap := s.heap.update l (Obj.mapSeq fun y => y.setIfInBounds k (v.mk x)), toks := s.toks }) := fun kk hkk =>
    meets_reach (w := w) (p := p) (s := s) (self := .ref l) (rest := [.int kk u, v.mk x]) (R := fun rr s' => rr = .ok (.ret .none) ∧ s' = { s with heap := s.heap.update l (Obj.mapSeq fun y => y.setIfInBounds k (v.mk x)), toks := s.toks }) hb PySem.F.slot_list_setitem ⟨_, ho, rfl⟩ PySem.F.entry_list_setitem (by unfold argsOk; kernel_rfl)
    (lset_meets l _ κ.e k u _ kk hkk (hkk ▸ fits_idx hk) (by show k < (mkVs κ.t 0 ls).length; rw [mkVs_len]; exact hv)) (fun A => ⟨ho, rfl, rfl⟩)
  obtain ⟨rr, s', R, rfl, rfl⟩ := key _ rfl
  refine ⟨fun _ => 0, _, _, R, rfl, after_upd ho ?_ ?_ rfl rfl rfl rfl (Nat.le_refl _)⟩
  · rfl
  · refine ov_list (xs := (⟨mkVs κ.t 0 ls⟩ : Array Value).setIfInBounds k (v.mk x)) ?_
    rw [Array.toList_setIfInBounds]
    exact vvs_set (vvs_mkVs ls 0) (vv_mk' v x)
noncomputable def laddH (l m : Nat) (o o' : Obj) (ls ms : List VV) : Hook := ⟨false, .call (.bi "list.__add__") [.ref l, .ref m], none, [(l, .ob o), (m, .ob o')], fun na => .ret (.ref (na 0)), fun _ => [], fun _ => [listV (ls ++ ms)], [], fun _ => []⟩
theorem vvs_app' {l l' : List Value} {r r' : List VV} (h : vvs l = some r) (h' : vvs l' = some r') : vvs (l ++ l') = some (r ++ r') := by
  induction l generalizing r with
  | nil => cases h; exact h'
  | cons v l ih =>
    unfold vvs at h
    cases e : vv v with
    | none => rw [e] at h; cases h
    | some a =>
      rw [e] at h
      dsimp only at h
      cases e' : vvs l with
      | none => rw [e'] at h; cases h
      | some r'' =>
        rw [e'] at h
        cases h
        rw [List.cons_append]
        unfold vvs
        rw [e, ih e']
        rfl
theorem e_ladd (w : World) (l m : Nat) (κ κ' : TK) (ls ms : List VV) (hl : ls.length + ms.length ≤ 100000) : Eff w (laddH l m ((listV ls).mk' κ) ((listV ms).mk' κ') ls ms) := by
  intro base p s cc hcc hb _ _ _ hneed _ _ _ _
  obtain ⟨f, vs, rfl, hf, hv'⟩ := hcc
  obtain rfl := vvf_bi hf
  obtain ⟨t, u, rfl⟩ := vvs2 hv'
  obtain ⟨o, ho, rfl⟩ := hneed _ (.head _)
  obtain ⟨o2, ho2, rfl⟩ := hneed _ (.tail _ (.head _))
  have ho : s.heap.get? l = some ⟨.type "list", none, .seq ⟨mkVs κ.t 0 ls⟩ κ.e, #[]⟩ := ho
  have ho2 : s.heap.get? m = some ⟨.type "list", none, .seq ⟨mkVs κ'.t 0 ms⟩ κ'.e, #[]⟩ := ho2
  obtain ⟨rr, s', R, rfl, rfl⟩ := meets_reach (w := w) (p := p) (s := s) (self := .ref l) (rest := [.ref m]) (R := fun rr s' => rr = .ok (.ret (.ref s.heap.objs.size)) ∧ s' = { s with heap := s.heap.push { cls := Value.type "list", data := Data.seq ((⟨mkVs κ.t 0 ls⟩ : Array Value) ++ ⟨mkVs κ'.t 0 ms⟩) }, toks := s.toks }) hb PySem.F.slot_list_add ⟨_, ho, rfl⟩ PySem.F.entry_list_add (by unfold argsOk; kernel_rfl)
    (PySem.AutoSeq1.list___add___list_list_0 l _ κ.e m _ κ'.e (by show (mkVs κ.t 0 ls).length + (mkVs κ'.t 0 ms).length ≤ 2 ^ 24; rw [mkVs_len, mkVs_len]; omega)) (fun A => ⟨ho, ho2, rfl, rfl⟩)
  refine ⟨fun _ => s.heap.objs.size, _, _, R, rfl, after_new rfl ?_ (fun _ => rfl) (fun _ => rfl) (fun _ => rfl) rfl (Nat.le_refl _)⟩
  refine ov_list ?_
  rw [Array.toList_append]
  exact vvs_app' (vvs_mkVs ls 0) (vvs_mkVs ms 0)
noncomputable def lmulH (l : Nat) (v : VV) (n : Int) : Hook := ⟨false, .call (.bi "list.__mul__") [.ref l, .int n], none, [(l, .vw (listV [v]))], fun na => .ret (.ref (na 0)), fun _ => [], fun _ => [listV (List.replicate n.toNat v)], [], fun _ => []⟩
theorem arr_rep (x : Value) : ∀ (n : Nat) (acc : Array Value), (List.replicate n #[x]).foldl (· ++ ·) acc = acc ++ (⟨List.replicate n x⟩ : Array Value)
  | 0, acc => by simp
  | n + 1, acc => by
    rw [List.replicate_succ, List.foldl_cons, arr_rep x n, List.replicate_succ]
    apply Array.ext'
    simp
theorem vvs_rep (x : Value) (y : VV) (h : vv x = some y) : ∀ n : Nat, vvs (List.replicate n x) = some (List.replicate n y)
  | 0 => rfl
  | n + 1 => by
    rw [List.replicate_succ, List.replicate_succ]
    unfold vvs
    rw [h, vvs_rep x y h n]
theorem e_lmul (w : World) (l : Nat) (v : VV) (n : Int) (h0 : 0 ≤ n) (hn : n ≤ 100000) : Eff w (lmulH l v n) := by
  intro base p s cc hcc hb _ _ _ hneed _ _ _ _
  obtain ⟨f, vs, rfl, hf, hv'⟩ := hcc
  obtain rfl := vvf_bi hf
  obtain ⟨t, u, rfl⟩ := vvs2 hv'
  obtain ⟨o, ho, hov⟩ := hneed _ (.head _)
  obtain ⟨κ, rfl⟩ := ov_mk hov rfl
  have ho : s.heap.get? l = some ⟨.type "list", none, .seq #[v.mk (κ.t 0)] κ.e, #[]⟩ := ho
  obtain ⟨rr, s', R, rfl, rfl⟩ := meets_reach (w := w) (p := p) (s := s) (self := .ref l) (rest := [.int n u]) (R := fun rr s' => rr = .ok (.ret (.ref s.heap.objs.size)) ∧ s' = { s with heap := s.heap.push { cls := Value.type "list", data := Data.seq (List.foldl (fun x1 x2 => x1 ++ x2) #[] (List.replicate n.toNat #[v.mk (κ.t 0)])) }, toks := s.toks }) hb PySem.F.slot_list_mul ⟨_, ho, rfl⟩ PySem.F.entry_list_mul (by unfold argsOk; kernel_rfl)
    (PySem.AutoListH.list___mul___list_int_3 l #[v.mk (κ.t 0)] κ.e n u (by unfold Builtin.List.listFitsIndex; simp; omega) (by show ¬ 1 * n.toNat > _; omega) (by show ¬ decide (1 * n.toNat > 2 ^ 24) = true; simp; omega)) (fun A => ⟨ho, rfl, rfl⟩)
  refine ⟨fun _ => s.heap.objs.size, _, _, R, rfl, after_new rfl ?_ (fun _ => rfl) (fun _ => rfl) (fun _ => rfl) rfl (Nat.le_refl _)⟩
  refine ov_list ?_
  rw [arr_rep]
  simp only [Array.empty_append]
  exact vvs_rep _ _ (vv_mk' v _) _
noncomputable def wsE (fr : Nat) : Env := envF (sub 14 1) fr [] (strOf "Whitespace.__init__.<locals>.") 238 237
noncomputable def wsF (fr it : Nat) : Code := forC (nthS (inner (sub 14 1)) 4) (.ref it) (wsE fr)
noncomputable def ksWS : List Kd := [.func, .biR "type.__call__", .fo, .func, .bi "claim.caller"]
noncomputable def ws0SH (fr it se co i bb : Nat) (n nt : Int) (x pc : Str) (ls : List VV) (κ : TK) : Hook := ⟨false, .code (wsF fr it), (some ksWS), [(fr, .vw ⟨.type "frame", none, (.dict [(u_self, .ref se), (kS36, .str x), (kS37, .str kS16), (kS38, .str uSp), (kS19, .ref co), (kS39, .int (((bb : Nat) : Int))), (kS14, .int n), (kS28, .int nt)])⟩), (it, .vw ⟨.type "str_ascii_iterator", none, (.fields [.str x, .int (((i : Nat) : Int))])⟩)], fun na => .next, fun na => [(fr, ⟨.type "frame", none, (.dict [(u_self, .ref se), (kS36, .str x), (kS37, .str kS16), (kS38, .str uSp), (kS19, .ref co), (kS39, .int (((bb : Nat) : Int) + 1)), (kS14, .int (n + 1)), (kS28, .int nt), (kS45, .str uSp)])⟩), (it, ⟨.type "str_ascii_iterator", none, (.fields [.str x, .int (((i + 1 : Nat) : Int))])⟩)], fun na => [], [], fun na => []⟩
theorem ws0S_e (w : World) (fr it se co i bb : Nat) (n nt : Int) (x pc : Str) (ls : List VV) (κ : TK) (h : x.cps[i]? = some 32) : Turn w (ws0SH fr it se co i bb n nt x pc ls κ) (wsF fr it) :=
  turnW rfl (wd [1] [0,1] [] 52 (dg 16 0x1221222121222203) (fun e _ A G => [p2 (e_snext w it x i 32 (by assumption)) [1] [1]]) (T := (.v (.v .nil)))) (by kernel_rfl)
noncomputable def ws1SH (fr it se co i bb : Nat) (n nt : Int) (x pc : Str) (ls : List VV) (κ : TK) : Hook := ⟨false, .code (wsF fr it), (some ksWS), [(fr, .vw ⟨.type "frame", none, (.dict [(u_self, .ref se), (kS36, .str x), (kS37, .str kS16), (kS38, .str uSp), (kS19, .ref co), (kS39, .int (((bb : Nat) : Int))), (kS14, .int n), (kS28, .int nt), (kS45, .str pc)])⟩), (it, .vw ⟨.type "str_ascii_iterator", none, (.fields [.str x, .int (((i : Nat) : Int))])⟩)], fun na => .next, fun na => [(fr, ⟨.type "frame", none, (.dict [(u_self, .ref se), (kS36, .str x), (kS37, .str kS16), (kS38, .str uSp), (kS19, .ref co), (kS39, .int (((bb : Nat) : Int) + 1)), (kS14, .int (n + 1)), (kS28, .int nt), (kS45, .str uSp)])⟩), (it, ⟨.type "str_ascii_iterator", none, (.fields [.str x, .int (((i + 1 : Nat) : Int))])⟩)], fun na => [], [], fun na => []⟩
theorem ws1S_e (w : World) (fr it se co i bb : Nat) (n nt : Int) (x pc : Str) (ls : List VV) (κ : TK) (h : x.cps[i]? = some 32) : Turn w (ws1SH fr it se co i bb n nt x pc ls κ) (wsF fr it) :=
  turnW rfl (wd [1] [0,1] [] 52 (dg 16 0x1221222121222203) (fun e _ A G => [p2 (e_snext w it x i 32 (by assumption)) [1] [1]]) (T := (.v (.v .nil)))) (by kernel_rfl)
noncomputable def ws0TH (fr it se co i bb : Nat) (n nt : Int) (x pc : Str) (ls : List VV) (κ : TK) : Hook := ⟨false, .code (wsF fr it), (some ksWS), [(fr, .vw ⟨.type "frame", none, (.dict [(u_self, .ref se), (kS36, .str x), (kS37, .str kS16), (kS38, .str uSp), (kS19, .ref co), (kS39, .int (((bb : Nat) : Int))), (kS14, .int n), (kS28, .int nt)])⟩), (it, .vw ⟨.type "str_ascii_iterator", none, (.fields [.str x, .int (((i : Nat) : Int))])⟩), (co, .ob (OV.mk' (listV ls) κ))], fun na => .next, fun na => [(fr, ⟨.type "frame", none, (.dict [(u_self, .ref se), (kS36, .str x), (kS37, .str kS16), (kS38, .str uSp), (kS19, .ref (na 0)), (kS39, .int 0), (kS14, .int (n + 1)), (kS28, .int (nt + 1)), (kS45, .str kS16)])⟩), (it, ⟨.type "str_ascii_iterator", none, (.fields [.str x, .int (((i + 1 : Nat) : Int))])⟩)], fun na => [(listV (List.set (ls ++ (List.replicate (Int.toNat ((((bb : Nat) : Int) - ((List.length ls : Nat) : Int) + 1))) (.int 0))) bb (.int 1)))], [], fun na => []⟩
theorem ws0T_e (w : World) (fr it se co i bb : Nat) (n nt : Int) (x pc : Str) (ls : List VV) (κ : TK) (h : x.cps[i]? = some 9) (hge : decide (((List.length ls : Nat) : Int) ≤ ((bb : Nat) : Int)) = true) (hls : ls.length ≤ 100000) (h0 : 0 ≤ ((bb : Nat) : Int) - ((List.length ls : Nat) : Int) + 1) (h1 : ((bb : Nat) : Int) - ((List.length ls : Nat) : Int) + 1 ≤ 100000) (hadd : ls.length + (List.replicate (Int.toNat (((bb : Nat) : Int) - ((List.length ls : Nat) : Int) + 1)) (VV.int 0)).length ≤ 100000) (hbb : bb ≤ 100000) (hget : (ls ++ (List.replicate (Int.toNat (((bb : Nat) : Int) - ((List.length ls : Nat) : Int) + 1)) (VV.int 0)))[bb]? = some (.int 0)) (hset : bb < (ls ++ (List.replicate (Int.toNat (((bb : Nat) : Int) - ((List.length ls : Nat) : Int) + 1)) (VV.int 0))).length) : Turn w (ws0TH fr it se co i bb n nt x pc ls κ) (wsF fr it) :=
  turnW rfl (wd [1,1,1,4,1,5,5,1,1] [0,1] [2] 160 (dg 16 0x1220772210777222204640551511021122002112221222121221222203) (fun e _ A G => [p2 (e_snext w it x i 9 (by assumption)) [1] [1], p1 (e_lenL w co (e.k 2) ls (by first | assumption | omega)) [2], p0 (e_ge' w ‹decide ((((List.length ls : Nat) : Int)) ≤ (((bb : Nat) : Int))) = true›), p1 (e_lenL w co (e.k 2) ls (by first | assumption | omega)) [2], p1 (e_lmul w (A 0) (.int 0) ((((bb : Nat) : Int) - ((List.length ls : Nat) : Int) + 1)) (by assumption) (by assumption)) [3], p1 (e_ladd w co (A 1) (e.k 2) ((e.τ 4).v 0) ls (List.replicate (Int.toNat ((((bb : Nat) : Int) - ((List.length ls : Nat) : Int) + 1))) (.int 0)) (by assumption)) [2,4], p1 (e_lget w (A 2) ((e.τ 5).v 0) (ls ++ (List.replicate (Int.toNat ((((bb : Nat) : Int) - ((List.length ls : Nat) : Int) + 1))) (.int 0))) bb (.int 0) (by first | assumption | omega) (by assumption)) [5], p2 (e_lset w (A 2) ((e.τ 5).v 0) (ls ++ (List.replicate (Int.toNat ((((bb : Nat) : Int) - ((List.length ls : Nat) : Int) + 1))) (.int 0))) bb (.int 1) (by first | assumption | omega) (by assumption)) [5] [5]]) (T := (.v (.v (.o .nil)))) (zt := fun e => [some ((e.τ 7).u 0)])) (by kernel_rfl)
noncomputable def ws1TH (fr it se co i bb : Nat) (n nt : Int) (x pc : Str) (ls : List VV) (κ : TK) : Hook := ⟨false, .code (wsF fr it), (some ksWS), [(fr, .vw ⟨.type "frame", none, (.dict [(u_self, .ref se), (kS36, .str x), (kS37, .str kS16), (kS38, .str uSp), (kS19, .ref co), (kS39, .int (((bb : Nat) : Int))), (kS14, .int n), (kS28, .int nt), (kS45, .str pc)])⟩), (it, .vw ⟨.type "str_ascii_iterator", none, (.fields [.str x, .int (((i : Nat) : Int))])⟩), (co, .ob (OV.mk' (listV ls) κ))], fun na => .next, fun na => [(fr, ⟨.type "frame", none, (.dict [(u_self, .ref se), (kS36, .str x), (kS37, .str kS16), (kS38, .str uSp), (kS19, .ref (na 0)), (kS39, .int 0), (kS14, .int (n + 1)), (kS28, .int (nt + 1)), (kS45, .str kS16)])⟩), (it, ⟨.type "str_ascii_iterator", none, (.fields [.str x, .int (((i + 1 : Nat) : Int))])⟩)], fun na => [(listV (List.set (ls ++ (List.replicate (Int.toNat ((((bb : Nat) : Int) - ((List.length ls : Nat) : Int) + 1))) (.int 0))) bb (.int 1)))], [], fun na => []⟩
theorem ws1T_e (w : World) (fr it se co i bb : Nat) (n nt : Int) (x pc : Str) (ls : List VV) (κ : TK) (h : x.cps[i]? = some 9) (hge : decide (((List.length ls : Nat) : Int) ≤ ((bb : Nat) : Int)) = true) (hls : ls.length ≤ 100000) (h0 : 0 ≤ ((bb : Nat) : Int) - ((List.length ls : Nat) : Int) + 1) (h1 : ((bb : Nat) : Int) - ((List.length ls : Nat) : Int) + 1 ≤ 100000) (hadd : ls.length + (List.replicate (Int.toNat (((bb : Nat) : Int) - ((List.length ls : Nat) : Int) + 1)) (VV.int 0)).length ≤ 100000) (hbb : bb ≤ 100000) (hget : (ls ++ (List.replicate (Int.toNat (((bb : Nat) : Int) - ((List.length ls : Nat) : Int) + 1)) (VV.int 0)))[bb]? = some (.int 0)) (hset : bb < (ls ++ (List.replicate (Int.toNat (((bb : Nat) : Int) - ((List.length ls : Nat) : Int) + 1)) (VV.int 0))).length) : Turn w (ws1TH fr it se co i bb n nt x pc ls κ) (wsF fr it) :=
  turnW rfl (wd [1,1,1,4,1,5,5,1,1] [0,1] [2] 160 (dg 16 0x1220772210777222204640551511021122002112221222121221222203) (fun e _ A G => [p2 (e_snext w it x i 9 (by assumption)) [1] [1], p1 (e_lenL w co (e.k 2) ls (by first | assumption | omega)) [2], p0 (e_ge' w ‹decide ((((List.length ls : Nat) : Int)) ≤ (((bb : Nat) : Int))) = true›), p1 (e_lenL w co (e.k 2) ls (by first | assumption | omega)) [2], p1 (e_lmul w (A 0) (.int 0) ((((bb : Nat) : Int) - ((List.length ls : Nat) : Int) + 1)) (by assumption) (by assumption)) [3], p1 (e_ladd w co (A 1) (e.k 2) ((e.τ 4).v 0) ls (List.replicate (Int.toNat ((((bb : Nat) : Int) - ((List.length ls : Nat) : Int) + 1))) (.int 0)) (by assumption)) [2,4], p1 (e_lget w (A 2) ((e.τ 5).v 0) (ls ++ (List.replicate (Int.toNat ((((bb : Nat) : Int) - ((List.length ls : Nat) : Int) + 1))) (.int 0))) bb (.int 0) (by first | assumption | omega) (by assumption)) [5], p2 (e_lset w (A 2) ((e.τ 5).v 0) (ls ++ (List.replicate (Int.toNat ((((bb : Nat) : Int) - ((List.length ls : Nat) : Int) + 1))) (.int 0))) bb (.int 1) (by first | assumption | omega) (by assumption)) [5] [5]]) (T := (.v (.v (.o .nil)))) (zt := fun e => [some ((e.τ 7).u 0)])) (by kernel_rfl)
noncomputable abbrev seL (it : Nat) (x : Str) (i : Nat) : List (Nat × OV) := [(it, sitV x i)]
noncomputable abbrev seR (w : World) (b1 b2 : Bool) (e : Amb) (W : List (Code × Pos)) (it : Nat) (x : Str) (i : Nat) := aR w b1 b2 e W false none (seL it x i) [] 4 (ors [1,1,1] []) (aC e (.bi "str_ascii_iterator.__next__") [.ref it])
noncomputable def seY (it : Nat) (x : Str) (t : Nat) : Sem PySem.Fin := R.bindR (rule s!"{"str_ascii_iterator"}.__next__.end") fun _ => R.bindR (Fast.tw17858455048448223758 (.ref it) 0 Value.none) fun _ => R.bindR (Fast.tw3461954006293484611 [.str x t]) fun _ => R.bindR (Fast.tw11364817496384490316 (.type "StopIteration") []) fun v => Fast.tw17609497360097468838 v
noncomputable def seF (it : Nat) (i c : Nat) : Sem PySem.Fin := R.bindR (Fast.tw17858455048448223758 (.ref it) 1 (rawInt ((i : Nat) + 1))) fun _ => Fast.tw15973247252070878614 ⟨#[c]⟩
theorem se_shape (w : World) (b1 b2 : Bool) (e : Amb) (W : List (Code × Pos)) (it : Nat) (x : Str) (i : Nat) : tOf (seR w b1 b2 e W it x i) = (match x.cps[Int.toNat ((i : Nat) : Int)]? with
    | some c => seF it i c
    | none => seY it x ((e.k 0).t 0)) := by kernel_rfl
theorem seY_same (w : World) (b1 b2 : Bool) (e : Amb) (W : List (Code × Pos)) (it : Nat) (x : Str) (i : Nat) (h : x.cps[i]? = none) : tOf (seR w b1 b2 e W it x i) = seY it x ((e.k 0).t 0) := by
  rw [se_shape]
  have : x.cps[Int.toNat ((i : Nat) : Int)]? = none := by rw [Int.toNat_natCast]; exact h
  rw [this]
noncomputable def sendEH (it : Nat) (x : Str) (i : Nat) : Hook := ⟨false, .call (.bi "str_ascii_iterator.__next__") [.ref it], none, [(it, .vw ⟨.type "str_ascii_iterator", none, (.fields [.str x, .int (((i : Nat) : Int))])⟩)], fun na => .err (.ref (na 0)), fun na => [(it, ⟨.type "str_ascii_iterator", none, (.fields [.none, .int (((i : Nat) : Int))])⟩)], fun na => [⟨.type "StopIteration", none, (.fields [.ref (na 1), .none, .none, .none, .bool false, .none])⟩, ⟨.type "tuple", none, (.seq [])⟩], [], fun na => []⟩
theorem sendE_e (w : World) (it : Nat) (x : Str) (i : Nat) (h : x.cps[i]? = none) : Eff w (sendEH it x i) :=
  effW rfl (wdA [3,8] [0] [1,0] 12 (dg 16 0x1220222) (fun b1 b2 e W A G => [.s 0 (t' := seY it x ((e.k 0).t 0)) (fun _ => seY_same w b1 b2 (e0 e) W it x i h)]) (T := (.v .nil))) (by kernel_rfl)
noncomputable def copied (h : Heap) (items : Array Value) : Heap := (h.push { cls := .type "list", data := .seq ([] : List Value).toArray }).update h.objs.size (Obj.mapSeq (· ++ items))
theorem copied_at (h : Heap) (items : Array Value) : ∃ o n, (copied h items).get? h.objs.size = some o ∧ o.data = .seq items n := by
  have hS : (h.push { cls := .type "list", data := .seq ([] : List Value).toArray }).get? h.objs.size = some { cls := .type "list", data := .seq #[] 0 } := Heap.get?_push_size _ rfl
  obtain ⟨n', hd'⟩ := Obj.data_mapSeq (o := ({ cls := .type "list", data := .seq #[] 0 } : Obj)) rfl (· ++ items)
  rw [Array.empty_append] at hd'
  exact ⟨_, n', Heap.get?_update_self (Obj.mapSeq (· ++ items)) hS rfl, hd'⟩
theorem copied_keep (h : Heap) (items : Array Value) {b : Nat} {o : Obj} (hb : h.get? b = some o) : (copied h items).get? b = some o :=
  (Heap.get?_update_other _ _ (Nat.ne_of_gt (Heap.lt_size hb))).trans (Heap.get?_push_of_some _ hb)
theorem copied_size (h : Heap) (items : Array Value) : (copied h items).objs.size = h.objs.size + 1 := by
  unfold copied
  rw [Heap.size_after_update, Heap.size_push]
theorem collect_list {prog : Program} {w : World} {A : Around} {E : Value → Shared → Prop} {s : Shared} {Q : List Value → Shared → Prop} (it : Addr) {o : Obj} {items : Array Value} {n : Nat}
    (ho : s.heap.get? it = some o) (hc : o.cls = .type "list") (hd : o.data = .seq items n) (hQ : Q items.toList { s with heap := copied s.heap items }) (hsz : items.size ≤ sizeLine) :
    wpAny (model prog w) A (collect (.ref it)) Q E s := by
  unfold collect
  refine wpAny_bind (wpAny_runValue (codeAny_builtin PySem.F.entry_proto_collect ?_))
  rw [Around.under_plainId PySem.F.plain_proto_collect _]
  show wpAny _ A.in1 (newList [] >>= fun l => again (.builtin "list.__iadd__" ⟨[l, .ref it], []⟩)) _ _ s
  refine wpAny_bind (wpAny_newObj_type ?_)
  refine wpAny_pure ⟨plainId_quiet PySem.F.plain_list_iadd _, codeAny_builtin PySem.F.entry_list_iadd ?_⟩
  rw [Around.under_plainId PySem.F.plain_list_iadd _]
  show wpAny _ A.in1 (Builtin.List.listExtendWith (.ref s.heap.objs.size) (.ref it) (.ref s.heap.objs.size)) _ _ _
  have hS : (s.heap.push { cls := .type "list", data := .seq ([] : List Value).toArray }).get? s.heap.objs.size = some { cls := .type "list", data := .seq #[] 0 } := Heap.get?_push_size _ rfl
  obtain ⟨oo, k, hk, hkd⟩ := copied_at s.heap items
  have fin' : wpAny (model prog w) A (match Value.ref s.heap.objs.size with
      | Value.ref a => do
        match (← load a).data with
          | Data.seq xs _ => pure xs.toList
          | _ => unsupported "internal:collect"
      | _ => unsupported "internal:collect") Q E { s with heap := copied s.heap items } := by
    show wpAny _ A (load s.heap.objs.size >>= _) _ _ _
    refine wpAny_bind (wpAny_load hk ?_)
    rw [hkd]
    exact wpAny_pure hQ
  refine wpAny_mono (wpAny_extend_seq (hsz := hsz) (A := A) (R := fun r s' => r = .ok (.ret (.ref s.heap.objs.size)) ∧ s' = { s with heap := copied s.heap items })
    (s := { s with heap := s.heap.push { cls := .type "list", data := .seq ([] : List Value).toArray } }) _ it _ 0 (.inl rfl) hS (Heap.get?_push_of_some _ ho) hc hd ⟨rfl, rfl⟩) (fun fin s' h => ?_) (fun e s' h => ?_)
  · cases fin with
    | done f =>
      obtain ⟨e, rfl⟩ := h
      cases e
      exact fin'
    | again c' => exact ⟨h.1, codeAny_mono h.2 fun r s'' hr => by obtain ⟨rfl, rfl⟩ := hr; exact fin'⟩
  · exact absurd h.1 (by simp)
theorem tnew_meets (l : Addr) (o : Obj) (items : Array Value) (n : Nat) (hc : o.cls = .type "list") (hd : o.data = .seq items n) (hsz : items.size ≤ sizeLine) :
    Meets (Builtin.«tuple.__new__» ⟨[.type "tuple", .ref l], []⟩)
      (fun _ R s => s.heap.get? l = some o ∧ R (.ok (.ret (.ref (copied s.heap items).objs.size))) { s with heap := (copied s.heap items).push { cls := .type "tuple", data := .seq items } }) :=
  .of_wp fun prog w A R s h => by
    obtain ⟨ht, h⟩ := h
    have hsub := sub_tuple_self
    have hinit := init_tuple_lookup
    have hmh := madeHere_tuple
    have hT : Shared.TypeIs s (.ref l) "list" := ⟨o, ht, hc⟩
    wp_walk using AutoSeq1.wpAny_loadPart' ht, wpAny_typeOf hT, collect_list (hsz := hsz) l ht hc hd
    refine ⟨_, rfl, ?_⟩
    have e : items.toList.toArray = items := by simp
    rw [e]
    exact h
noncomputable def tnewH (l : Nat) (ls : List VV) (κ : TK) : Hook := ⟨false, .call (.bi "tuple.__new__") [.type "tuple", .ref l], none, [(l, .ob ((listV ls).mk' κ))], fun na => .ret (.ref (na 0)), fun _ => [], fun _ => [tupV ls], [], fun _ => []⟩
theorem tnew_e (w : World) (l : Nat) (ls : List VV) (κ : TK) (hls : ls.length ≤ 100000) : Eff w (tnewH l ls κ) := by
  intro base p s cc hcc hb _ _ _ hneed _ _ _ _
  obtain ⟨f, vs, rfl, hf, hv'⟩ := hcc
  obtain rfl := vvf_bi hf
  obtain ⟨t, u, rfl⟩ := vvs2 hv'
  obtain ⟨o, ho, rfl⟩ := hneed _ (.head _)
  have ho : s.heap.get? l = some ⟨.type "list", none, .seq ⟨mkVs κ.t 0 ls⟩ κ.e, #[]⟩ := ho
  obtain ⟨rr, s', R, rfl, rfl⟩ := meets_reach' (w := w) (p := p) (s := s) (id := "tuple.__new__") (args := ⟨[.type "tuple", .ref l], []⟩) (R := fun rr s' => rr = .ok (.ret (.ref (copied s.heap ⟨mkVs κ.t 0 ls⟩).objs.size)) ∧ s' = { s with heap := (copied s.heap ⟨mkVs κ.t 0 ls⟩).push { cls := .type "tuple", data := .seq ⟨mkVs κ.t 0 ls⟩ } }) hb (by decide +kernel) PySem.F.entry_tuple_new (PySem.F.newCall_tuple_1 _)
    (tnew_meets l _ ⟨mkVs κ.t 0 ls⟩ κ.e rfl rfl (by show (mkVs κ.t 0 ls).length ≤ 2 ^ 24; rw [mkVs_len]; omega)) (fun A => ⟨ho, rfl, rfl⟩)
  refine ⟨fun _ => (copied s.heap ⟨mkVs κ.t 0 ls⟩).objs.size, _, _, R, rfl, ?_⟩
  have hsz := copied_size s.heap ⟨mkVs κ.t 0 ls⟩
  refine ⟨by rw [Heap.size_push, hsz]; omega, fun b o' e _ _ => Heap.get?_push_of_some _ (copied_keep _ _ e), fun q hq => (nomatch hq), fun i q hq => ?_, fun i j hi hj _ => ?_, fun h => (nomatch h), Nat.le_refl _, Nat.le_refl _, fun g y e _ => e, fun q hq => (nomatch hq), fun h => h, rfl, rfl⟩
  · have hq : [tupV ls][i]? = some q := hq
    cases i with
    | zero =>
      cases hq
      refine ⟨by rw [hsz]; omega, _, Heap.get?_push_size _ rfl, ?_⟩
      unfold ov payOf
      dsimp only
      rw [show vvs (mkVs κ.t 0 ls) = some ls from vvs_mkVs ls 0]
      rfl
    | succ i => simp at hq
  · have hi : i < 1 := hi
    have hj : j < 1 := hj
    omega
noncomputable def ksWI : List Kd := [.biR "type.__call__", .fo, .func, .bi "claim.caller"]
noncomputable def wi1H (se sd : Nat) (x : Str) : Hook := ⟨false, .call (.ref 238) [.ref se, .str x], (some ksWI), [(se, .vw ⟨.ref 283, (some sd), .plain⟩), (sd, .vw ⟨.type "dict", none, (.dict [])⟩)], fun na => .next, fun na => [(sd, ⟨.type "dict", none, (.dict [(kS47, .str x)])⟩)], fun na => [⟨.type "frame", none, (.dict [(u_self, .ref se), (kS36, .str x), (kS37, .str kS16), (kS38, .str uSp), (kS19, .ref (na 1)), (kS39, .int 0), (kS14, .int 0), (kS28, .int 0)])⟩, ⟨.type "list", none, (.seq [])⟩, ⟨.type "str_ascii_iterator", none, (.fields [.str x, .int 0])⟩], [], fun na => []⟩
noncomputable def wi1D (w : World) (se sd : Nat) (x : Str) (h : x.cps.all (· < 128) = true) : WD w (wi1H se sd x) := wd [24,5] [1] [0,5,6] 190 (dg 16 0x1a0312211121111244444444444448665666166656661666566616651555111111111111111111333121112121211112441444411) (fun e _ A G => [p0 (e_siter w x (by assumption))]) (T := (.v (.v .nil)))
noncomputable def wi1A (e : Amb) (se sd : Nat) (x : Str) : Nat → Nat := nA [24,5] [0,5,6] e fun A G => []
theorem wi1_e (w : World) (se sd : Nat) (x : Str) (h : x.cps.all (· < 128) = true) : CallW w (wi1H se sd x) (fun na => wsF (na 0) (na 2)) .func (fun e W => (wi1D w se sd x h).R (fl1 w) (fl2 w) e W) (fun e _ => wi1A e se sd x) :=
  callW rfl (wi1D w se sd x h) (by kernel_rfl)
noncomputable def wi2H (e1 : Amb) (se sd co : Nat) (x pc : Str) (n nt b : Int) (ls : List VV) (κ : TK) : Hook := ⟨false, .call (.ref 238) [.ref se, .str x], (some ksWI), [((wi1A e1 se sd x 0), .vw ⟨.type "frame", none, (.dict [(u_self, .ref se), (kS36, .str x), (kS37, .str kS16), (kS38, .str uSp), (kS19, .ref co), (kS39, .int b), (kS14, .int n), (kS28, .int nt), (kS45, .str pc)])⟩), (se, .vw ⟨.ref 283, (some sd), .plain⟩), (sd, .vw ⟨.type "dict", none, (.dict [(kS47, .str x)])⟩), (co, .ob (OV.mk' (listV ls) κ))], fun na => .ret (.none), fun na => [(sd, ⟨.type "dict", none, (.dict [(kS47, .str x), (kS14, .int n), (kS28, .int nt), (kS53, .ref (na 0)), (kS54, .bool (decide (((List.length ls : Nat) : Int) ≤ 1)))])⟩)], fun na => [⟨.type "tuple", none, (.seq [.ref (na 1), .int b])⟩, (tupV  ls)], [], fun na => []⟩
theorem wi2_e (w : World) (base : List Frame) (s : Shared) (e1 : Amb) (se sd co : Nat) (x pc : Str) (n nt b : Int) (ls : List VV) (κ : TK) (h : x.cps.all (· < 128) = true) (hls : ls.length ≤ 100000) (hS : WOk (some ksWI) (base.map Frame.where_)) : EffFr w (wi2H e1 se sd co x pc n nt b ls κ) base s ((wi1D w se sd x h).R (fl1 w) (fl2 w) e1 (base.map Frame.where_)) (.ok .next) := by
  exact effFr rfl (wd [5,4,1,1] [2] [1,0] 147 (dg 16 0x14441311131313111132002114441311131313111132266166012114441311131313111132244413111313131111322) (fun e _ A G => [p1 (tnew_e w co ls (e.k 3) (by assumption)) [3], p1 (e_lenL w co (e.k 3) ls (by first | assumption | omega)) [3], p0 (e_le w ((((List.length ls : Nat) : Int))) 1)]) (T := (.v (.v (.v (.o .nil))))) (zt := fun e => [none, some ((e.τ 0).v 0)])) (fun b1 b2 W => (wi1D w se sd x h).R b1 b2 e1 W) hS (by kernel_rfl)
noncomputable def wseH (fr it i : Nat) (x : Str) : Hook := ⟨false, .code (wsF fr it), (some ksWS), [(it, .vw ⟨.type "str_ascii_iterator", none, (.fields [.str x, .int (((i : Nat) : Int))])⟩)], fun na => .next, fun na => [(it, ⟨.type "str_ascii_iterator", none, (.fields [.none, .int (((i : Nat) : Int))])⟩)], fun na => [], [], fun na => []⟩
theorem wse_e (w : World) (fr it i : Nat) (x : Str) (h : x.cps[i]? = none) : Eff w (wseH fr it i x) :=
  effW rfl (wd [9] [0] [] 5 (dg 16 0x1302) (fun e _ A G => [p2 (sendE_e w it x i (by assumption)) [0] [0]]) (T := (.v .nil))) (by kernel_rfl)
theorem lenT_meets (l : Addr) (items : Array Value) (n : Nat) (hf : (items.size : Int) < 2 ^ 63) :
    Meets (Builtin.«len» ⟨[.ref l], []⟩) (fun _ R s => s.heap.get? l = some { cls := .type "tuple", dict := none, data := .seq items n, slots := #[] } ∧ R (.ok (.ret (Value.int items.size (s.toks + 1)))) { s with toks := s.toks + 1 + 1 }) :=
  .of_wp fun prog w A R s h => by
    obtain ⟨hl, h⟩ := h
    unfold Builtin.«len»
    refine wpAny_bind (m := oneArg "len" _) (wpAny_pure ?_)
    refine wpAny_bind (m := callSpecial? (.ref l) (Str.ofString "__len__")) (wpAny_callSpecial?_slot (name := Str.ofString "__len__") ⟨_, hl, rfl⟩ PySem.F.slot_tuple_len (wpAny_call_entry PySem.F.slot_tuple_len ⟨_, hl, rfl⟩ PySem.F.entry_tuple_len ?_ (by unfold argsOk; kernel_rfl)))
    unfold Builtin.«tuple.__len__»
    wp_walk
    refine ⟨_, rfl, ?_⟩
    wp_walk
    rw [if_neg (by omega)]
    wp_walk
    exact ⟨_, rfl, h⟩
noncomputable def lenTH (l : Nat) (o : Obj) (n : Nat) : Hook := ⟨false, .call (.bi "len") [.ref l], none, [(l, .ob o)], fun _ => .ret (.int (n : Nat)), fun _ => [], fun _ => [], [], fun _ => []⟩
theorem e_lenT (w : World) (l : Nat) (κ : TK) (ls : List VV) (h : ls.length ≤ 100000) : Eff w (lenTH l ((tupV ls).mk' κ) ls.length) := by
  intro base p s cc hcc hb _ _ _ hneed _ _ _ _
  obtain ⟨f, vs, rfl, hf, hv⟩ := hcc
  obtain rfl := vvf_bi hf
  obtain ⟨t, rfl⟩ := vvs1 hv
  obtain ⟨o, ho, rfl⟩ := hneed _ (.head _)
  have ho : s.heap.get? l = some ⟨.type "tuple", none, .seq ⟨mkVs κ.t 0 ls⟩ κ.e, #[]⟩ := ho
  have e : (⟨mkVs κ.t 0 ls⟩ : Array Value).size = ls.length := mkVs_len ls 0
  obtain ⟨rr, s', R, rfl, rfl⟩ := meets_reach' (w := w) (p := p) (s := s) (id := "len") (args := ⟨[.ref l], []⟩) (R := fun rr s' => rr = .ok (.ret (.int (ls.length : Nat) (s.toks + 1))) ∧ s' = { s with toks := s.toks + 1 + 1 }) hb (by decide +kernel) PySem.entry_len (by kernel_rfl)
    (lenT_meets l ⟨mkVs κ.t 0 ls⟩ κ.e (by rw [e]; omega)) (fun A => ⟨ho, by rw [e], rfl⟩)
  exact ⟨fun _ => 0, _, _, R, rfl, after_same rfl rfl rfl rfl (by omega)⟩
theorem tget_meets (l : Addr) (items : Array Value) (n k : Nat) (t : Tok) (v : Value) (kk : Int) (hkk : kk = (k : Nat)) (hk : k ≤ 100000) (hv : items[k]? = some v) :
    Meets (Builtin.«tuple.__getitem__» ⟨[.ref l, .int kk t], []⟩) (fun _ R s => s.heap.get? l = some { cls := .type "tuple", dict := none, data := .seq items n, slots := #[] } ∧ R (.ok (.ret v)) s) := by
  refine Meets.of_wp fun prog w A R s h => ?_
  obtain ⟨hl, h⟩ := h
  unfold Builtin.«tuple.__getitem__»
  have f1 := AutoSeq1.idx_int
  wp_walk using AutoSeq1.wpAny_loadPart' hl
  have hs : k < items.size := (Array.getElem?_eq_some_iff.mp hv).1
  have hb : (seqIndex? kk items.size).bind (items[·]?) = some v := by
    subst hkk
    have e : seqIndex? ((k : Nat) : Int) items.size = some k := by
      unfold seqIndex?
      simp
      omega
    rw [e]
    exact hv
  rw [if_neg (by simp; omega)]
  show wpAny _ _ (match (seqIndex? kk items.size).bind (items[·]?) with | some x => ret x | none => _) _ _ _
  rw [hb]
  exact wpAny_pure ⟨_, rfl, h⟩
noncomputable def tgetH (l : Nat) (o : Obj) (k : Nat) (v : VV) : Hook := ⟨false, .call (.bi "tuple.__getitem__") [.ref l, .int (k : Nat)], none, [(l, .ob o)], fun _ => .ret v, fun _ => [], fun _ => [], [], fun _ => []⟩
theorem e_tget (w : World) (l : Nat) (κ : TK) (ls : List VV) (k : Nat) (v : VV) (hk : k ≤ 100000) (hv : ls[k]? = some v) : Eff w (tgetH l ((tupV ls).mk' κ) k v) := by
  intro base p s cc hcc hb _ _ _ hneed _ _ _ _
  obtain ⟨f, vs, rfl, hf, hv'⟩ := hcc
  obtain rfl := vvf_bi hf
  obtain ⟨t, u, rfl⟩ := vvs2 hv'
  obtain ⟨o, ho, rfl⟩ := hneed _ (.head _)
  have ho : s.heap.get? l = some ⟨.type "tuple", none, .seq ⟨mkVs κ.t 0 ls⟩ κ.e, #[]⟩ := ho
  have hx : (⟨mkVs κ.t 0 ls⟩ : Array Value)[k]? = some (v.mk (κ.t (0 + k))) := by
    rw [List.getElem?_toArray]
    exact mkVs_at hv
  have key : ∀ kk : Int, kk = ((k : Nat) : Int) → ∃ rr s', Reach (Mo pw w) base s (den (.call (.builtin "tuple.__getitem__") ⟨[.ref l, .int kk u], []⟩)) (.call (.builtin "tuple.__getitem__") ⟨[.ref l, .int kk u], []⟩) p [] s' (.ret rr) ∧ (rr = .ok (.ret (v.mk (κ.t (0 + k)))) ∧ s' = s) := fun kk hkk =>
    meets_reach (w := w) (p := p) (s := s) (self := .ref l) (rest := [.int kk u]) (R := fun rr s' => rr = .ok (.ret (v.mk (κ.t (0 + k)))) ∧ s' = s) hb PySem.F.slot_tuple_getitem ⟨_, ho, rfl⟩ PySem.F.entry_tuple_getitem (by unfold argsOk; kernel_rfl)
    (tget_meets l _ κ.e k u _ kk hkk hk hx) (fun A => ⟨ho, rfl, rfl⟩)
  obtain ⟨rr, s', R, rfl, hs'⟩ := key _ rfl
  subst hs'
  exact ⟨fun _ => 0, _, _, R, by show (match vv (v.mk _) with | some x => some (RV.ret x) | none => none) = _; rw [vv_mk']; rfl, after_same (s := s') (t := s'.toks) rfl rfl rfl rfl (Nat.le_refl _)⟩
noncomputable def idE (fr : Nat) : Env := envF (sub 14 3) fr [] (strOf "Whitespace.indent_level.<locals>.") 252 251
noncomputable def idF (fr it : Nat) : Code := forC (nthS (inner (sub 14 3)) 2) (.ref it) (idE fr)
noncomputable def ksID : List Kd := [.func, .fo, .func, .bi "claim.caller"]
noncomputable def id1H (se sd no tu ts : Nat) (x : Str) (b n nt nn : Int) (sm : Bool) (ls : List VV) (κ : TK) : Hook := ⟨false, .call (.ref 252) [.ref se, .int ((ts : Nat) : Int)], (some ksCR), [(se, .vw ⟨.ref 283, (some sd), .plain⟩), (sd, .vw ⟨.type "dict", none, (.dict [(kS47, .str x), (kS14, .int n), (kS28, .int nt), (kS53, .ref no), (kS54, .bool sm)])⟩), (no, .vw ⟨.type "tuple", none, (.seq [.ref tu, .int b])⟩), (tu, .ob (OV.mk' (tupV  ls) κ))], fun na => .next, fun na => [], fun na => [⟨.type "frame", none, (.dict [(u_self, .ref se), (kS42, .int (((ts : Nat) : Int))), (kS19, .ref tu), (kS43, .int b), (kS44, .int 0)])⟩, ⟨.type "range_iterator", none, (.fields [.int (((ts : Nat) : Int)), .int nn, .int 1])⟩], [], fun na => []⟩
noncomputable def id1D (w : World) (se sd no tu ts : Nat) (x : Str) (b n nt nn : Int) (sm : Bool) (ls : List VV) (κ : TK) (hls : ls.length ≤ 100000) (hn : Builtin.Range.rangeSize ((ts : Nat) : Int) ((List.length ls : Nat) : Int) 1 = nn) (hsm : smallR ((ts : Nat) : Int) ((List.length ls : Nat) : Int) 1 nn = true) : WD w (id1H se sd no tu ts x b n nt nn sm ls κ) := wd [16,1,4,5] [] [0,5] 141 (dg 16 0x1b0aaaa1aa1106116116666669774777177747771777477717741444312211121111261666611) (fun e _ A G => [p1 (e_lenT w tu (e.k 3) ls (by first | assumption | omega)) [3], p1 (e_riter w (A 4) ((((ts : Nat) : Int))) ((((List.length ls : Nat) : Int))) 1 nn hn hsm) [8]]) (T := (.v (.v (.v (.o .nil)))))
noncomputable def id1A (e : Amb) (se sd no tu ts : Nat) (x : Str) (b n nt nn : Int) (sm : Bool) (ls : List VV) (κ : TK) : Nat → Nat := nA [16,1,4,5] [0,5] e fun A G => []
theorem id1_e (w : World) (se sd no tu ts : Nat) (x : Str) (b n nt nn : Int) (sm : Bool) (ls : List VV) (κ : TK) (hls : ls.length ≤ 100000) (hn : Builtin.Range.rangeSize ((ts : Nat) : Int) ((List.length ls : Nat) : Int) 1 = nn) (hsm : smallR ((ts : Nat) : Int) ((List.length ls : Nat) : Int) 1 nn = true) : CallW w (id1H se sd no tu ts x b n nt nn sm ls κ) (fun na => idF (na 0) (na 1)) .func (fun e W => (id1D w se sd no tu ts x b n nt nn sm ls κ hls hn hsm).R (fl1 w) (fl2 w) e W) (fun e _ => id1A e se sd no tu ts x b n nt nn sm ls κ) :=
  callW rfl (id1D w se sd no tu ts x b n nt nn sm ls κ hls hn hsm) (by kernel_rfl)
noncomputable def idt0H (se tu ts fr it i : Nat) (b il left pi v : Int) (ls : List VV) (κ : TK) : Hook := ⟨false, .code (idF fr it), (some ksID), [(fr, .vw ⟨.type "frame", none, (.dict [(u_self, .ref se), (kS42, .int (((ts : Nat) : Int))), (kS19, .ref tu), (kS43, .int b), (kS44, .int il)])⟩), (it, .vw ⟨.type "range_iterator", none, (.fields [.int (((i : Nat) : Int)), .int left, .int 1])⟩), (tu, .ob (OV.mk' (tupV  ls) κ))], fun na => .next, fun na => [(fr, ⟨.type "frame", none, (.dict [(u_self, .ref se), (kS42, .int (((ts : Nat) : Int))), (kS19, .ref tu), (kS43, .int b), (kS44, .int (il + (Int.fdiv ((i : Nat) : Int) ((ts : Nat) : Int)) * v)), (kS23, .int (((i : Nat) : Int)))])⟩), (it, ⟨.type "range_iterator", none, (.fields [.int (((i : Nat) : Int) + 1), .int (left - 1), .int 1])⟩)], fun na => [], [], fun na => []⟩
theorem idt0_e (w : World) (se tu ts fr it i : Nat) (b il left pi v : Int) (ls : List VV) (κ : TK) (h : 0 < left) (hts : ((ts : Nat) : Int) ≠ 0) (hta : (((ts : Nat) : Int)).natAbs ≤ 1000000) (hv : ls[i]? = some (.int v)) (hi : i ≤ 100000) (hm1 : -1000000 ≤ Int.fdiv ((i : Nat) : Int) ((ts : Nat) : Int)) (hm2 : Int.fdiv ((i : Nat) : Int) ((ts : Nat) : Int) ≤ 1000000) : Turn w (idt0H se tu ts fr it i b il left pi v ls κ) (idF fr it) :=
  turnW rfl (wd [1,1,1,1] [0,1] [] 42 (dg 16 0x1221004442202222203) (fun e _ A G => [p2 (e_rnext w it ((((i : Nat) : Int))) left 1 (by first | assumption | omega)) [1] [1], p0 (e_fdiv w ((((i : Nat) : Int))) ((((ts : Nat) : Int))) (by first | assumption | omega) (by first | assumption | omega)), p1 (e_tget w tu (e.k 2) ls i (.int v) (by first | assumption | omega) (by assumption)) [2], p0 (e_mul w (((Int.fdiv ((i : Nat) : Int) ((ts : Nat) : Int)))) v (by first | assumption | omega) (by first | assumption | omega))]) (T := (.v (.v (.o .nil))))) (by kernel_rfl)
noncomputable def idt1H (se tu ts fr it i : Nat) (b il left pi v : Int) (ls : List VV) (κ : TK) : Hook := ⟨false, .code (idF fr it), (some ksID), [(fr, .vw ⟨.type "frame", none, (.dict [(u_self, .ref se), (kS42, .int (((ts : Nat) : Int))), (kS19, .ref tu), (kS43, .int b), (kS44, .int il), (kS23, .int pi)])⟩), (it, .vw ⟨.type "range_iterator", none, (.fields [.int (((i : Nat) : Int)), .int left, .int 1])⟩), (tu, .ob (OV.mk' (tupV  ls) κ))], fun na => .next, fun na => [(fr, ⟨.type "frame", none, (.dict [(u_self, .ref se), (kS42, .int (((ts : Nat) : Int))), (kS19, .ref tu), (kS43, .int b), (kS44, .int (il + (Int.fdiv ((i : Nat) : Int) ((ts : Nat) : Int)) * v)), (kS23, .int (((i : Nat) : Int)))])⟩), (it, ⟨.type "range_iterator", none, (.fields [.int (((i : Nat) : Int) + 1), .int (left - 1), .int 1])⟩)], fun na => [], [], fun na => []⟩
theorem idt1_e (w : World) (se tu ts fr it i : Nat) (b il left pi v : Int) (ls : List VV) (κ : TK) (h : 0 < left) (hts : ((ts : Nat) : Int) ≠ 0) (hta : (((ts : Nat) : Int)).natAbs ≤ 1000000) (hv : ls[i]? = some (.int v)) (hi : i ≤ 100000) (hm1 : -1000000 ≤ Int.fdiv ((i : Nat) : Int) ((ts : Nat) : Int)) (hm2 : Int.fdiv ((i : Nat) : Int) ((ts : Nat) : Int) ≤ 1000000) : Turn w (idt1H se tu ts fr it i b il left pi v ls κ) (idF fr it) :=
  turnW rfl (wd [1,1,1,1] [0,1] [] 42 (dg 16 0x1221004442202222203) (fun e _ A G => [p2 (e_rnext w it ((((i : Nat) : Int))) left 1 (by first | assumption | omega)) [1] [1], p0 (e_fdiv w ((((i : Nat) : Int))) ((((ts : Nat) : Int))) (by first | assumption | omega) (by first | assumption | omega)), p1 (e_tget w tu (e.k 2) ls i (.int v) (by first | assumption | omega) (by assumption)) [2], p0 (e_mul w (((Int.fdiv ((i : Nat) : Int) ((ts : Nat) : Int)))) v (by first | assumption | omega) (by first | assumption | omega))]) (T := (.v (.v (.o .nil))))) (by kernel_rfl)
noncomputable def ideH (fr it : Nat) (y : Int) : Hook := ⟨false, .code (idF fr it), (some ksID), [(it, .vw ⟨.type "range_iterator", none, (.fields [.int y, .int 0, .int 1])⟩)], fun na => .next, fun na => [], fun na => [], [], fun na => []⟩
theorem ide_e (w : World) (fr it : Nat) (y : Int)  : Eff w (ideH fr it y) :=
  effW rfl (wd [8] [] [] 15 (dg 16 0x14222212) (T := (.v .nil))) (by kernel_rfl)
noncomputable def id21H (e1 : Amb) (se sd no tu ts : Nat) (x : Str) (b n nt nn : Int) (sm : Bool) (ls : List VV) (κ : TK) (il pi : Int) : Hook := ⟨false, .call (.ref 252) [.ref se, .int ((ts : Nat) : Int)], (some ksCR), [((id1A e1 se sd no tu ts x b n nt nn sm ls κ 0), .vw ⟨.type "frame", none, (.dict [(u_self, .ref se), (kS42, .int (((ts : Nat) : Int))), (kS19, .ref tu), (kS43, .int b), (kS44, .int il), (kS23, .int pi)])⟩), (se, .vw ⟨.ref 283, (some sd), .plain⟩), (sd, .vw ⟨.type "dict", none, (.dict [(kS47, .str x), (kS14, .int n), (kS28, .int nt), (kS53, .ref no), (kS54, .bool sm)])⟩)], fun na => .ret (.int (b + ((ts : Nat) : Int) * (il + nt))), fun na => [], fun na => [], [], fun na => []⟩
theorem id21_e (w : World) (base : List Frame) (s : Shared) (e1 : Amb) (se sd no tu ts : Nat) (x : Str) (b n nt nn : Int) (sm : Bool) (ls : List VV) (κ : TK) (il pi : Int) (hls : ls.length ≤ 100000) (hn : Builtin.Range.rangeSize ((ts : Nat) : Int) ((List.length ls : Nat) : Int) 1 = nn) (hsm : smallR ((ts : Nat) : Int) ((List.length ls : Nat) : Int) 1 nn = true) (hta1 : -1000000 ≤ ((ts : Nat) : Int)) (hta2 : ((ts : Nat) : Int) ≤ 1000000) (hS : WOk (some ksCR) (base.map Frame.where_)) : EffFr w (id21H e1 se sd no tu ts x b n nt nn sm ls κ il pi) base s ((id1D w se sd no tu ts x b n nt nn sm ls κ hls hn hsm).R (fl1 w) (fl2 w) e1 (base.map Frame.where_)) (.ok .next) := by
  exact effFr rfl (wd [1] [] [] 38 (dg 16 0x110141331113111132222) (fun e _ A G => [p0 (e_mul w ((((ts : Nat) : Int))) (((il + nt))) (by first | assumption | omega) (by first | assumption | omega))]) (T := (.v (.v (.v .nil))))) (fun b1 b2 W => (id1D w se sd no tu ts x b n nt nn sm ls κ hls hn hsm).R b1 b2 e1 W) hS (by kernel_rfl)
noncomputable def id20H (e1 : Amb) (se sd no tu ts : Nat) (x : Str) (b n nt nn : Int) (sm : Bool) (ls : List VV) (κ : TK) (il pi : Int) : Hook := ⟨false, .call (.ref 252) [.ref se, .int ((ts : Nat) : Int)], (some ksCR), [((id1A e1 se sd no tu ts x b n nt nn sm ls κ 0), .vw ⟨.type "frame", none, (.dict [(u_self, .ref se), (kS42, .int (((ts : Nat) : Int))), (kS19, .ref tu), (kS43, .int b), (kS44, .int il)])⟩), (se, .vw ⟨.ref 283, (some sd), .plain⟩), (sd, .vw ⟨.type "dict", none, (.dict [(kS47, .str x), (kS14, .int n), (kS28, .int nt), (kS53, .ref no), (kS54, .bool sm)])⟩)], fun na => .ret (.int (b + ((ts : Nat) : Int) * (il + nt))), fun na => [], fun na => [], [], fun na => []⟩
theorem id20_e (w : World) (base : List Frame) (s : Shared) (e1 : Amb) (se sd no tu ts : Nat) (x : Str) (b n nt nn : Int) (sm : Bool) (ls : List VV) (κ : TK) (il pi : Int) (hls : ls.length ≤ 100000) (hn : Builtin.Range.rangeSize ((ts : Nat) : Int) ((List.length ls : Nat) : Int) 1 = nn) (hsm : smallR ((ts : Nat) : Int) ((List.length ls : Nat) : Int) 1 nn = true) (hta1 : -1000000 ≤ ((ts : Nat) : Int)) (hta2 : ((ts : Nat) : Int) ≤ 1000000) (hS : WOk (some ksCR) (base.map Frame.where_)) : EffFr w (id20H e1 se sd no tu ts x b n nt nn sm ls κ il pi) base s ((id1D w se sd no tu ts x b n nt nn sm ls κ hls hn hsm).R (fl1 w) (fl2 w) e1 (base.map Frame.where_)) (.ok .next) := by
  exact effFr rfl (wd [1] [] [] 38 (dg 16 0x110141331113111132222) (fun e _ A G => [p0 (e_mul w ((((ts : Nat) : Int))) (((il + nt))) (by first | assumption | omega) (by first | assumption | omega))]) (T := (.v (.v (.v .nil))))) (fun b1 b2 W => (id1D w se sd no tu ts x b n nt nn sm ls κ hls hn hsm).R b1 b2 e1 W) hS (by kernel_rfl)
structure WA where
  fr : Nat
  it : Nat
  se : Nat
  x : Str
noncomputable def wsFr (a : WA) (co : Nat) (b n nt : Int) : Option Str → OV
  | none => frmV [(u_self, .ref a.se), (kS36, .str a.x), (kS37, .str kS16), (kS38, .str uSp), (kS19, .ref co), (kS39, .int b), (kS14, .int n), (kS28, .int nt)]
  | some c => frmV [(u_self, .ref a.se), (kS36, .str a.x), (kS37, .str kS16), (kS38, .str uSp), (kS19, .ref co), (kS39, .int b), (kS14, .int n), (kS28, .int nt), (kS45, .str c)]
noncomputable def tabW (ls : List VV) (b : Nat) : List VV := List.set (ls ++ List.replicate (Int.toNat (((b : Nat) : Int) - ((List.length ls : Nat) : Int) + 1)) (.int 0)) b (.int 1)
structure WSt where
  b : Nat
  n : Nat
  nt : Nat
  ls : List VV
noncomputable def wStep (t : WSt) (c : Nat) : WSt := if c = 32 then ⟨t.b + 1, t.n + 1, t.nt, t.ls⟩ else ⟨0, t.n + 1, t.nt + 1, tabW t.ls t.b⟩
noncomputable def wOk : List Nat → WSt → Prop
  | [], _ => True
  | c :: l, t => (c = 32 ∨ c = 9 ∧ t.ls.length ≤ t.b) ∧ t.b ≤ 1000 ∧ wOk l (wStep t c)
noncomputable def LWS (a : WA) (co i : Nat) (t : WSt) (ch : Option Str) : List (Nat × OV) := [(a.fr, wsFr a co (t.b : Nat) (t.n : Nat) (t.nt : Nat) ch), (a.it, sitV a.x i), (co, listV t.ls)]
noncomputable def wsSH (a : WA) (co i : Nat) (t : WSt) (ch : Option Str) : Hook := ⟨false, .code (wsF a.fr a.it), some ksWS, vws [(a.fr, wsFr a co (t.b : Nat) (t.n : Nat) (t.nt : Nat) ch), (a.it, sitV a.x i)], fun _ => .next, fun _ => [(a.fr, wsFr a co ((t.b : Nat) + 1) ((t.n : Nat) + 1) (t.nt : Nat) (some uSp)), (a.it, sitV a.x (i + 1))], fun _ => [], [], fun _ => []⟩
noncomputable def wsTH (a : WA) (co i : Nat) (t : WSt) (ch : Option Str) (κ : TK) : Hook := ⟨false, .code (wsF a.fr a.it), some ksWS, [(a.fr, .vw (wsFr a co (t.b : Nat) (t.n : Nat) (t.nt : Nat) ch)), (a.it, .vw (sitV a.x i)), (co, .ob ((listV t.ls).mk' κ))], fun _ => .next, fun na => [(a.fr, wsFr a (na 0) 0 ((t.n : Nat) + 1) ((t.nt : Nat) + 1) (some kS16)), (a.it, sitV a.x (i + 1))], fun _ => [listV (tabW t.ls t.b)], [], fun _ => []⟩
theorem ws_S (w : World) (a : WA) (co i : Nat) (t : WSt) (ch : Option Str) (h : a.x.cps[i]? = some 32) : Turn w (wsSH a co i t ch) (wsF a.fr a.it) := by
  cases ch with
  | none => exact ws0S_e w a.fr a.it a.se co i t.b (t.n : Nat) (t.nt : Nat) a.x uE [] dk h
  | some c => exact ws1S_e w a.fr a.it a.se co i t.b (t.n : Nat) (t.nt : Nat) a.x c [] dk h
theorem ws_T (w : World) (a : WA) (co i : Nat) (t : WSt) (ch : Option Str) (κ : TK) (h : a.x.cps[i]? = some 9) (hl : t.ls.length ≤ t.b) (hb : t.b ≤ 1000) : Turn w (wsTH a co i t ch κ) (wsF a.fr a.it) := by
  have e1 : (List.replicate (Int.toNat (((t.b : Nat) : Int) - ((List.length t.ls : Nat) : Int) + 1)) (VV.int 0)).length = t.b - t.ls.length + 1 := by
    rw [List.length_replicate]; omega
  have e2 : (t.ls ++ List.replicate (Int.toNat (((t.b : Nat) : Int) - ((List.length t.ls : Nat) : Int) + 1)) (VV.int 0))[t.b]? = some (.int 0) := by
    rw [List.getElem?_append_right hl, List.getElem?_replicate, if_pos (by omega)]
  have e3 : t.b < (t.ls ++ List.replicate (Int.toNat (((t.b : Nat) : Int) - ((List.length t.ls : Nat) : Int) + 1)) (VV.int 0)).length := by
    rw [List.length_append, e1]; omega
  cases ch with
  | none => exact ws0T_e w a.fr a.it a.se co i t.b (t.n : Nat) (t.nt : Nat) a.x uE t.ls κ h (decide_eq_true (by omega)) (by omega) (by omega) (by omega) (by rw [e1]; omega) (by omega) e2 e3
  | some c => exact ws1T_e w a.fr a.it a.se co i t.b (t.n : Nat) (t.nt : Nat) a.x c t.ls κ h (decide_eq_true (by omega)) (by omega) (by omega) (by omega) (by rw [e1]; omega) (by omega) e2 e3
theorem ws_go (w : World) (a : WA) (base : List Frame) (hb : Bot base) (hs : Spine ksWS base) :
    ∀ (cs : List Nat) (i co : Nat) (t : WSt) (ch : Option Str) (s : Shared) (p : Pos), a.x.cps.toList.drop i = cs → wOk cs t → (cs = [] → ∃ c, ch = some c) → Here w false (LWS a co i t ch) [] s →
    ∃ co' c' i' s', Reach (Mo pw w) base s (den (wsF a.fr a.it)) (wsF a.fr a.it) p [] s' (.ret (.ok .next)) ∧ Here w false [(a.fr, wsFr a co' ((cs.foldl wStep t).b : Nat) ((cs.foldl wStep t).n : Nat) ((cs.foldl wStep t).nt : Nat) (some c')), (co', listV (cs.foldl wStep t).ls)] [] s' ∧ Rel false [a.fr, a.it] [] s s' ∧ (co' = co ∨ s.heap.objs.size ≤ co') ∧ i' = i + cs.length := by
  intro cs
  induction cs with
  | nil =>
    intro i co t ch s p hd _ hch H
    obtain ⟨c, rfl⟩ := hch rfl
    have hx : a.x.cps[i]? = none := by
      have := List.drop_eq_nil_iff.mp hd
      rw [Array.getElem?_eq_none_iff]
      simpa using this
    obtain ⟨na, r', s', R, hr', Af⟩ := (wse_e w a.fr a.it i a.x hx).go (base := base) (s := s) p rfl (H.asksI hb hs [1])
    obtain ⟨tt, rfl⟩ := rv_mk hr'
    exact ⟨co, c, i, s', R, Af.hereI H [1] [(2,0), (2,2)], (Rel.refl false _ _ s).within Af.rel (ac (.inl (.tail _ (.head _))) an) an (fun h => by cases h), .inl rfl, rfl⟩
  | cons c cs ih =>
    intro i co t ch s p hd hok _ H
    obtain ⟨hc, htb, hok'⟩ := hok
    have hx : a.x.cps[i]? = some c := by
      have h1 : (a.x.cps.toList.drop i)[0]? = some c := by rw [hd]; rfl
      rw [List.getElem?_drop, Nat.add_zero] at h1
      simpa using h1
    have hd' : a.x.cps.toList.drop (i + 1) = cs := by
      rw [← List.drop_drop, hd]
      rfl
    rcases hc with rfl | ⟨rfl, hl⟩
    · obtain ⟨na, s1, ⟨p', G⟩, Af⟩ := (ws_S w a co i t ch hx).go (base := base) (s := s) p rfl (H.asksI hb hs [0,1])
      have H1 : Here w false (LWS a co (i + 1) (wStep t 32) (some uSp)) [] s1 := Af.hereI H [0,1] [(0,0), (0,1), (2,2)]
      obtain ⟨co', c', i', s', R, H', R', hco, hi⟩ := ih (i + 1) co (wStep t 32) (some uSp) s1 p' hd' hok' (fun _ => ⟨_, rfl⟩) H1
      exact ⟨co', c', i', s', G _ _ R, H', ((Rel.refl false _ _ s).within Af.rel (fun y hy => .inl hy) (fun x hx => nomatch hx) (fun h => by cases h)).trans R', hco.imp id (Nat.le_trans Af.size), by rw [hi, List.length_cons]; omega⟩
    · obtain ⟨κ, hκ⟩ := H.obj (a := co) (v := listV t.ls) (.tail _ (.tail _ (.head _))) rfl
      obtain ⟨na, s1, ⟨p', G⟩, Af⟩ := (ws_T w a co i t ch κ hx hl htb).go (base := base) (s := s) p rfl (H.asksO hb hs [(0, none), (1, none), (2, some _)] (ac no_ob (ac no_ob (ac (the_ob hκ) an))))
      have H1 : Here w false (LWS a (na 0) (i + 1) (wStep t 9) (some kS16)) [] s1 := Af.hereI H [0,1] [(0,0), (0,1), (1,0)]
      obtain ⟨co', c', i', s', R, H', R', hco, hi⟩ := ih (i + 1) (na 0) (wStep t 9) (some kS16) s1 p' hd' hok' (fun _ => ⟨_, rfl⟩) H1
      exact ⟨co', c', i', s', G _ _ R, H', ((Rel.refl false _ _ s).within Af.rel (fun y hy => .inl hy) (fun x hx => nomatch hx) (fun h => by cases h)).trans R', .inr (hco.elim (fun h => h ▸ (Af.new 0 _ rfl).1) (Nat.le_trans Af.size)), by rw [hi, List.length_cons]; omega⟩
theorem after_last {k k2 : Hook} {na : Nat → Nat} {s s2 s3 : Shared} (R : Rel k.tabs ((k.upd na).map Prod.fst) ((k.gupd na).map Prod.fst) s s2) (Af : After k2 na s2 s3) (ht : k2.tabs = k.tabs) (hu : k2.upd na = k.upd na) (hn : k2.news na = k.news na) (hg : k2.gupd na = k.gupd na) : After k na s s3 := by
  have Rl := Af.rel
  rw [ht, hu, hg] at Rl
  have RR := R.trans Rl
  refine ⟨RR.size, RR.keep, hu ▸ Af.upd, fun i q h => ?_, fun i j hi hj e => Af.nand i j (by rw [hn]; exact hi) (by rw [hn]; exact hj) e, fun h => Af.tbl (ht ▸ h), RR.toks, RR.gsize, RR.gkeep, hg ▸ Af.gupd, RR.bare, RR.drawn, RR.os⟩
  obtain ⟨h1, h2⟩ := Af.new i q (by rw [hn]; exact h)
  exact ⟨Nat.le_trans R.size h1, h2⟩
noncomputable def s_raw : Str := kS47
noncomputable def s_n : Str := kS14
noncomputable def s_nt : Str := kS28
noncomputable def s_norm : Str := kS53
noncomputable def s_simple : Str := kS54
noncomputable def wsSelf (sd : Nat) : OV := ⟨.ref 283, some sd, .plain⟩
noncomputable def wsDict (x : Str) (t : WSt) (no : Nat) : OV := dictV [(s_raw, .str x), (s_n, .int (t.n : Nat)), (s_nt, .int (t.nt : Nat)), (s_norm, .ref no), (s_simple, .bool (decide (((List.length t.ls : Nat) : Int) ≤ 1)))]
noncomputable def wEnd (x : Str) : WSt := x.cps.toList.foldl wStep ⟨0,0,0, []⟩
noncomputable def wiH (se sd : Nat) (x : Str) : Hook := ⟨false, .call (.ref 238) [.ref se, .str x], some ksWI, vws [(se, wsSelf sd), (sd, dictV [])], fun _ => .ret .none, fun na => [(sd, wsDict x (wEnd x) (na 0))], fun na => [tupV [.ref (na 1), .int ((wEnd x).b : Nat)], tupV (wEnd x).ls], [], fun _ => []⟩
theorem e_wi (w : World) (se sd : Nat) (x : Str) (ha : x.cps.all (· < 128) = true) (hne : x.cps.toList ≠ []) (hok : wOk x.cps.toList ⟨0,0,0, []⟩) (hlen : (wEnd x).ls.length ≤ 100000) : Eff w (wiH se sd x) := eff_of fun base p s c hc A => by
  have H := asks_here A (L := [(se, wsSelf sd), (sd, dictV [])]) (vws_tells _)
  have hspc : Spine ksWI base := A.sp _ rfl
  obtain ⟨na, s1, e1, hna, ⟨fr0, hB, hSp, _, p1, G1⟩, Af1⟩ := (wi1_e w se sd x ha) base p s c hc (H.asksI A.bot hspc [0,1])
  obtain rfl : na = wi1A e1 se sd x := hna
  let a : WA := ⟨wi1A e1 se sd x 0, wi1A e1 se sd x 2, se, x⟩
  have H1 : Here w false ([(wi1A e1 se sd x 0, wsFr a (wi1A e1 se sd x 1) 0 0 0 none), (wi1A e1 se sd x 2, sitV x 0), (se, wsSelf sd), (sd, dictV [(s_raw, .str x)])] ++ [(wi1A e1 se sd x 1, listV [])]) [] s1 := Af1.hereI H [1] [(1,0), (1,2), (2,0), (0,0), (1,1)]
  obtain ⟨co', c', i', s2, R2, H2, Rl2, hco, _⟩ := ws_go w a (fr0 :: base) (hB A.bot) (hSp _ hspc) x.cps.toList 0 (wi1A e1 se sd x 1) ⟨0,0,0, []⟩ none s1 p1 rfl hok (fun h => absurd h hne) (H1.subI [0,1,4])
  have H2 : Here w false ([(wi1A e1 se sd x 0, wsFr a co' ((wEnd x).b : Nat) ((wEnd x).n : Nat) ((wEnd x).nt : Nat) (some c'))] ++ [(co', listV (wEnd x).ls)]) [] s2 := H2
  have H2' := H1.frameX H2 Rl2 (ac (hco.imp (fun h : co' = _ => List.mem_singleton.mpr h) id) an) [0,1] [0] [2,3]
  obtain ⟨κ, hκ⟩ := H2.obj (a := co') (v := listV (wEnd x).ls) (.tail _ (.head _)) rfl
  obtain ⟨na2, rr, s3, R3, hr3, Af3⟩ := wi2_e w base s2 e1 se sd co' x c' ((wEnd x).n : Nat) ((wEnd x).nt : Nat) ((wEnd x).b : Nat) (wEnd x).ls κ ha hlen hspc (H2'.asksO A.bot hspc [(0, none), (1, none), (2, none), (3, some _)] (ac no_ob (ac no_ob (ac no_ob (ac (the_ob hκ) an)))))
  exact ⟨na2, rr, s3, G1 s2 _ R2 s3 _ R3, hr3, after_last (k := wiH se sd x) (((Rel.refl false [sd] [] s).within Af1.rel (fun y hy => .inl hy) an (fun h => by cases h)).within Rl2 (ac (.inr (.inl (Af1.new 0 _ rfl).1)) (ac (.inr (.inl (Af1.new 2 _ rfl).1)) an)) an (fun h => h)) Af3 rfl rfl rfl rfl⟩
noncomputable def idFr (se ts tu : Nat) (b il : Int) : Option Int → OV
  | none => frmV [(u_self, .ref se), (kS42, .int (ts : Nat)), (kS19, .ref tu), (kS43, .int b), (kS44, .int il)]
  | some i => frmV [(u_self, .ref se), (kS42, .int (ts : Nat)), (kS19, .ref tu), (kS43, .int b), (kS44, .int il), (kS23, .int i)]
noncomputable def idtH (se ts tu fr it i : Nat) (b il left v : Int) (o : Option Int) (ls : List VV) (κ : TK) : Hook := ⟨false, .code (idF fr it), some ksID, [(fr, .vw (idFr se ts tu b il o)), (it, .vw (ritV (i : Nat) left 1)), (tu, .ob ((tupV ls).mk' κ))], fun _ => .next, fun _ => [(fr, idFr se ts tu b (il + Int.fdiv (i : Nat) (ts : Nat) * v) (some (i : Nat))), (it, ritV ((i : Nat) + 1) (left - 1) 1)], fun _ => [], [], fun _ => []⟩
theorem idt (w : World) (se ts tu fr it i : Nat) (b il left v : Int) (o : Option Int) (ls : List VV) (κ : TK) (h : 0 < left) (h1 : 1 ≤ ts) (h6 : ts ≤ 1000) (hv : ls[i]? = some (.int v)) (hi : i ≤ 100000) : Turn w (idtH se ts tu fr it i b il left v o ls κ) (idF fr it) := by
  have e : Int.fdiv ((i : Nat) : Int) ((ts : Nat) : Int) = ((i / ts : Nat) : Int) := by rw [Int.fdiv_eq_ediv_of_nonneg _ (by omega)]; exact (Int.natCast_ediv i ts).symm
  have hd : i / ts ≤ i := Nat.div_le_self _ _
  have hm1 : -1000000 ≤ Int.fdiv ((i : Nat) : Int) ((ts : Nat) : Int) := by rw [e]; generalize i / ts = q at *; omega
  have hm2 : Int.fdiv ((i : Nat) : Int) ((ts : Nat) : Int) ≤ 1000000 := by rw [e]; generalize i / ts = q at *; omega
  cases o with
  | none => exact idt0_e w se tu ts fr it i b il left 0 v ls κ h (by omega) (by omega) hv hi hm1 hm2
  | some p => exact idt1_e w se tu ts fr it i b il left p v ls κ h (by omega) (by omega) hv hi hm1 hm2
noncomputable def ilAcc (ts : Nat) (vals : List Int) : Nat → Nat → Int → Int
  | _, 0, il => il
  | i, d + 1, il => ilAcc ts vals (i + 1) d (il + Int.fdiv (i : Nat) (ts : Nat) * vals.getD i 0)
noncomputable def LID (se ts tu fr it i : Nat) (b il left : Int) (o : Option Int) (ls : List VV) : List (Nat × OV) := [(fr, idFr se ts tu b il o), (it, ritV (i : Nat) left 1), (tu, tupV ls)]
theorem id_go (w : World) (se ts tu fr it : Nat) (b : Int) (vals : List Int) (h1 : 1 ≤ ts) (h6 : ts ≤ 1000) (hl : vals.length ≤ 100000) (base : List Frame) (hb : Bot base) (hs : Spine ksID base) :
    ∀ (d i : Nat) (il : Int) (o : Option Int) (s : Shared) (p : Pos), (0 < d → i + d = vals.length) → Here w false (LID se ts tu fr it i b il (d : Nat) o (vals.map .int)) [] s →
    ∃ o' s', Reach (Mo pw w) base s (den (idF fr it)) (idF fr it) p [] s' (.ret (.ok .next)) ∧ Here w false [(fr, idFr se ts tu b (ilAcc ts vals i d il) o')] [] s' ∧ Rel false [fr, it] [] s s' := by
  intro d
  induction d with
  | zero =>
    intro i il o s p _ H
    obtain ⟨na, r', s', R, hr', Af⟩ := (ide_e w fr it (i : Nat)).go (base := base) (s := s) p rfl (H.asksI hb hs [1])
    obtain ⟨tt, rfl⟩ := rv_mk hr'
    exact ⟨o, s', R, Af.hereI H [] [(2,0)], (Rel.refl false _ _ s).within Af.rel an an (fun h => by cases h)⟩
  | succ d ih =>
    intro i il o s p hd H
    have hd := hd (by omega)
    obtain ⟨κ, hκ⟩ := H.obj (a := tu) (v := tupV (vals.map .int)) (.tail _ (.tail _ (.head _))) rfl
    have hv : (vals.map VV.int)[i]? = some (.int (vals.getD i 0)) := by
      rw [List.getElem?_map, List.getD_eq_getElem?_getD, List.getElem?_eq_getElem (show i < vals.length by omega)]
      rfl
    obtain ⟨na, s1, ⟨p', G⟩, Af⟩ := (idt w se ts tu fr it i b il ((d + 1 : Nat) : Int) (vals.getD i 0) o (vals.map .int) κ (by omega) h1 h6 hv (by omega)).go (base := base) (s := s) p rfl (H.asksO hb hs [(0, none), (1, none), (2, some _)] (ac no_ob (ac no_ob (ac (the_ob hκ) an))))
    have e3 : ((d + 1 : Nat) : Int) - 1 = (d : Nat) := by omega
    have H1 : Here w false (LID se ts tu fr it (i + 1) b (il + Int.fdiv (i : Nat) (ts : Nat) * vals.getD i 0) (((d + 1 : Nat) : Int) - 1) (some (i : Nat)) (vals.map .int)) [] s1 := Af.hereI H [0,1] [(0,0), (0,1), (2,2)]
    rw [e3] at H1
    obtain ⟨o', s', R, H', R'⟩ := ih (i + 1) _ (some (i : Nat)) s1 p' (fun _ => by omega) H1
    exact ⟨o', s', G _ _ R, H', ((Rel.refl false _ _ s).within Af.rel (fun y hy => .inl hy) (fun x hx => nomatch hx) (fun h => by cases h)).trans R'⟩
noncomputable def idD (x : Str) (n nt : Int) (no : Nat) (sm : Bool) : OV := dictV [(s_raw, .str x), (s_n, .int n), (s_nt, .int nt), (s_norm, .ref no), (s_simple, .bool sm)]
noncomputable def idNeed (se sd no tu : Nat) (x : Str) (b n nt : Int) (sm : Bool) (vals : List Int) : List (Nat × OV) := [(se, wsSelf sd), (sd, idD x n nt no sm), (no, tupV [.ref tu, .int b]), (tu, tupV (vals.map .int))]
noncomputable def idH (se sd no tu ts : Nat) (x : Str) (b n nt : Int) (sm : Bool) (vals : List Int) (d : Nat) : Hook := ⟨false, .call (.ref 252) [.ref se, .int (ts : Nat)], some ksCR, vws (idNeed se sd no tu x b n nt sm vals), fun _ => .ret (.int (b + (ts : Nat) * (ilAcc ts vals ts d 0 + nt))), fun _ => [], fun _ => [], [], fun _ => []⟩
theorem e_id (w : World) (se sd no tu ts : Nat) (x : Str) (b n nt : Int) (sm : Bool) (vals : List Int) (d : Nat) (h1 : 1 ≤ ts) (h6 : ts ≤ 1000) (hl : vals.length ≤ 1000) (hd : d = vals.length - ts) : Eff w (idH se sd no tu ts x b n nt sm vals d) := eff_of fun base p s c hc A => by
  have H := asks_here A (L := idNeed se sd no tu x b n nt sm vals) (vws_tells _)
  have hs : Spine ksCR base := A.sp _ rfl
  obtain ⟨κ, hκ⟩ := H.obj (a := tu) (v := tupV (vals.map .int)) (.tail _ (.tail _ (.tail _ (.head _)))) rfl
  have hlen : (vals.map VV.int).length = vals.length := List.length_map ..
  have hn : Builtin.Range.rangeSize ((ts : Nat) : Int) (((vals.map VV.int).length : Nat) : Int) 1 = (d : Nat) := by
    rw [hlen]
    unfold Builtin.Range.rangeSize
    rw [if_pos (by omega)]
    split <;> omega
  have hA : (vals.map VV.int).length ≤ 100000 := by rw [hlen]; omega
  have hB := small_of (ts : Nat) ((vals.map VV.int).length : Nat) 1 (d : Nat) (by omega) (by rw [hlen]; omega) (by omega) (by omega)
  have b1 : ((ts : Nat) : Int).natAbs ≤ 1000000 := by omega
  obtain ⟨na, s1, e1, hna, ⟨fr0, hB', hSp, -, p1, G1⟩, Af1⟩ := (id1_e w se sd no tu ts x b n nt (d : Nat) sm (vals.map .int) κ hA hn hB) base p s c hc (H.asksO A.bot hs [(0, none), (1, none), (2, none), (3, some _)] (ac no_ob (ac no_ob (ac no_ob (ac (the_ob hκ) an)))))
  obtain rfl : na = id1A e1 se sd no tu ts x b n nt (d : Nat) sm (vals.map .int) κ := hna
  have H1 := Af1.hereI H [] [(1,0), (1,1), (2,3), (2,0), (2,1)]
  obtain ⟨o', s2, R2, H2, Rl2⟩ := id_go w se ts tu (id1A e1 se sd no tu ts x b n nt (d : Nat) sm (vals.map .int) κ 0) (id1A e1 se sd no tu ts x b n nt (d : Nat) sm (vals.map .int) κ 1) b vals h1 h6 (by omega) (fr0 :: base) (hB' A.bot) (hSp _ hs) d ts 0 none s1 p1 (fun _ => by omega) (H1.subI [0,1,2])
  have H2' := H1.frameI H2 Rl2 [0,1] [0] [3,4]
  have RR : Rel false [] [] s s2 := ((Rel.refl false [] [] s).within Af1.rel an an fun h => h).within Rl2 (ac (.inr (.inl (Af1.new 0 _ rfl).1)) (ac (.inr (.inl (Af1.new 1 _ rfl).1)) an)) an fun h => h
  cases o' with
  | none =>
    obtain ⟨na2, rr, s3, R3, hr3, Af3⟩ := id20_e w base s2 e1 se sd no tu ts x b n nt (d : Nat) sm (vals.map .int) κ (ilAcc ts vals ts d 0) 0 hA hn hB (by omega) (by omega) hs (H2'.asksI A.bot hs [0,1,2])
    exact ⟨na2, rr, s3, G1 s2 _ R2 s3 _ R3, hr3, after_last (k := idH se sd no tu ts x b n nt sm vals d) RR Af3 rfl rfl rfl rfl⟩
  | some i =>
    obtain ⟨na2, rr, s3, R3, hr3, Af3⟩ := id21_e w base s2 e1 se sd no tu ts x b n nt (d : Nat) sm (vals.map .int) κ (ilAcc ts vals ts d 0) i hA hn hB (by omega) (by omega) hs (H2'.asksI A.bot hs [0,1,2])
    exact ⟨na2, rr, s3, G1 s2 _ R2 s3 _ R3, hr3, after_last (k := idH se sd no tu ts x b n nt sm vals d) RR Af3 rfl rfl rfl rfl⟩
theorem e_sget (w : World) (x : Str) (k c : Nat) (hk : k ≤ 100000) (hc : x.cps[k]? = some c) : Eff w (pureH "str.__getitem__" [.str x, .int (k : Nat)] (.str (mkStr [c]))) := by
  have key : ∀ kk : Int, kk = ((k : Nat) : Int) → Eff w (pureH "str.__getitem__" [.str x, .int kk] (.str (mkStr [c]))) := fun kk hkk => by
    refine eff_gives (b := Builtin.«str.__getitem__») (by decide +kernel) (entryFor_of_tree (by kernel_rfl)) fun vs hv => ?_
    obtain ⟨t, u, rfl⟩ := vvs2 hv
    refine ⟨by kernel_rfl, _, gives_str_getitem x kk t u c (by simp; omega) ?_, .str (show 1 ≤ 2 ^ 24 by decide)⟩
    have hs : k < x.cps.size := (Array.getElem?_eq_some_iff.mp hc).1
    subst hkk
    have e : seqIndex? ((k : Nat) : Int) x.length = some k := by
      unfold seqIndex?
      have : x.length = x.cps.size := rfl
      simp
      omega
    rw [e]
    exact hc
  exact key _ rfl
noncomputable def pxE (fr : Nat) : Env := envF (stm 12) fr [] (strOf "parse257.<locals>.") 221 220
noncomputable def pxW (fr : Nat) : Code := whileC (nthS (inner (stm 12)) 5) (pxE fr)
noncomputable def ksPX : List Kd := [.func, .fo, .func, .bi "claim.caller"]
noncomputable def px0QH (fr i : Nat) (n : Int) (x dn pc : Str) : Hook := ⟨false, .code (pxW fr), (some ksPX), [(fr, .vw ⟨.type "frame", none, (.dict [(kS21, .str x), (kS29, .str dn), (kS23, .int (((i : Nat) : Int))), (kS14, .int n)])⟩)], fun na => .next, fun na => [(fr, ⟨.type "frame", none, (.dict [(kS21, .str x), (kS29, .str ((dn ++ kS22))), (kS23, .int (((i + 2 : Nat) : Int))), (kS14, .int n), (kS41, .str kS22)])⟩)], fun na => [], [], fun na => []⟩
theorem px0Q_e (w : World) (fr i : Nat) (n : Int) (x dn pc : Str) (h : decide (((i : Nat) : Int) < n) = true) (hk : i + 1 ≤ 100000) (hi : i ≤ 100000) (hc : x.cps[i]? = some 34) (hc2 : x.cps[i + 1]? = some 34) (hge : decide (n ≤ ((i + 1 : Nat) : Int)) = false) (hd : (dn ++ kS22).length ≤ 100000) : Turn w (px0QH fr i n x dn pc) (pxW fr) :=
  turnW rfl (wd [1,1,1,1,1] [0] [] 97 (dg 16 0x1220222212102202212221222022022) (fun e _ A G => [p0 (e_lt' w ‹decide ((((i : Nat) : Int)) < n) = true›), p0 (e_sget w x i 34 (by first | assumption | omega) (by assumption)), p0 (e_ge' w ‹decide (n ≤ (((i + 1 : Nat) : Int))) = false›), p0 (e_sget w x (i + 1) 34 (by first | assumption | omega) (by assumption)), p0 (e_sadd w dn kS22 (by assumption))]) (T := (.v .nil))) (by kernel_rfl)
noncomputable def px0AH (fr i : Nat) (n : Int) (x dn pc : Str) : Hook := ⟨false, .code (pxW fr), (some ksPX), [(fr, .vw ⟨.type "frame", none, (.dict [(kS21, .str x), (kS29, .str dn), (kS23, .int (((i : Nat) : Int))), (kS14, .int n)])⟩)], fun na => .next, fun na => [(fr, ⟨.type "frame", none, (.dict [(kS21, .str x), (kS29, .str ((dn ++ kS17))), (kS23, .int (((i + 1 : Nat) : Int))), (kS14, .int n), (kS41, .str kS17)])⟩)], fun na => [], [], fun na => []⟩
theorem px0A_e (w : World) (fr i : Nat) (n : Int) (x dn pc : Str) (h : decide (((i : Nat) : Int) < n) = true) (hi : i ≤ 100000) (hc : x.cps[i]? = some 97) (hd : (dn ++ kS17).length ≤ 100000) : Turn w (px0AH fr i n x dn pc) (pxW fr) :=
  turnW rfl (wd [1,1,1] [0] [] 61 (dg 16 0x12202212221222022022) (fun e _ A G => [p0 (e_lt' w ‹decide ((((i : Nat) : Int)) < n) = true›), p0 (e_sget w x i 97 (by first | assumption | omega) (by assumption)), p0 (e_sadd w dn kS17 (by assumption))]) (T := (.v .nil))) (by kernel_rfl)
noncomputable def px1QH (fr i : Nat) (n : Int) (x dn pc : Str) : Hook := ⟨false, .code (pxW fr), (some ksPX), [(fr, .vw ⟨.type "frame", none, (.dict [(kS21, .str x), (kS29, .str dn), (kS23, .int (((i : Nat) : Int))), (kS14, .int n), (kS41, .str pc)])⟩)], fun na => .next, fun na => [(fr, ⟨.type "frame", none, (.dict [(kS21, .str x), (kS29, .str ((dn ++ kS22))), (kS23, .int (((i + 2 : Nat) : Int))), (kS14, .int n), (kS41, .str kS22)])⟩)], fun na => [], [], fun na => []⟩
theorem px1Q_e (w : World) (fr i : Nat) (n : Int) (x dn pc : Str) (h : decide (((i : Nat) : Int) < n) = true) (hk : i + 1 ≤ 100000) (hi : i ≤ 100000) (hc : x.cps[i]? = some 34) (hc2 : x.cps[i + 1]? = some 34) (hge : decide (n ≤ ((i + 1 : Nat) : Int)) = false) (hd : (dn ++ kS22).length ≤ 100000) : Turn w (px1QH fr i n x dn pc) (pxW fr) :=
  turnW rfl (wd [1,1,1,1,1] [0] [] 97 (dg 16 0x1220222212102202212221222022022) (fun e _ A G => [p0 (e_lt' w ‹decide ((((i : Nat) : Int)) < n) = true›), p0 (e_sget w x i 34 (by first | assumption | omega) (by assumption)), p0 (e_ge' w ‹decide (n ≤ (((i + 1 : Nat) : Int))) = false›), p0 (e_sget w x (i + 1) 34 (by first | assumption | omega) (by assumption)), p0 (e_sadd w dn kS22 (by assumption))]) (T := (.v .nil))) (by kernel_rfl)
noncomputable def px1AH (fr i : Nat) (n : Int) (x dn pc : Str) : Hook := ⟨false, .code (pxW fr), (some ksPX), [(fr, .vw ⟨.type "frame", none, (.dict [(kS21, .str x), (kS29, .str dn), (kS23, .int (((i : Nat) : Int))), (kS14, .int n), (kS41, .str pc)])⟩)], fun na => .next, fun na => [(fr, ⟨.type "frame", none, (.dict [(kS21, .str x), (kS29, .str ((dn ++ kS17))), (kS23, .int (((i + 1 : Nat) : Int))), (kS14, .int n), (kS41, .str kS17)])⟩)], fun na => [], [], fun na => []⟩
theorem px1A_e (w : World) (fr i : Nat) (n : Int) (x dn pc : Str) (h : decide (((i : Nat) : Int) < n) = true) (hi : i ≤ 100000) (hc : x.cps[i]? = some 97) (hd : (dn ++ kS17).length ≤ 100000) : Turn w (px1AH fr i n x dn pc) (pxW fr) :=
  turnW rfl (wd [1,1,1] [0] [] 61 (dg 16 0x12202212221222022022) (fun e _ A G => [p0 (e_lt' w ‹decide ((((i : Nat) : Int)) < n) = true›), p0 (e_sget w x i 97 (by first | assumption | omega) (by assumption)), p0 (e_sadd w dn kS17 (by assumption))]) (T := (.v .nil))) (by kernel_rfl)
noncomputable def px1BH (fr i : Nat) (n : Int) (x dn pc : Str) : Hook := ⟨false, .code (pxW fr), (some ksPX), [(fr, .vw ⟨.type "frame", none, (.dict [(kS21, .str x), (kS29, .str dn), (kS23, .int (((i : Nat) : Int))), (kS14, .int (((i + 1 : Nat) : Int))), (kS41, .str pc)])⟩)], fun na => .next, fun na => [(fr, ⟨.type "frame", none, (.dict [(kS21, .str x), (kS29, .str dn), (kS23, .int (((i + 1 : Nat) : Int))), (kS14, .int (((i + 1 : Nat) : Int))), (kS41, .str kS22)])⟩)], fun na => [], [], fun na => []⟩
theorem px1B_e (w : World) (fr i : Nat) (n : Int) (x dn pc : Str) (h : decide (((i : Nat) : Int) < ((i + 1 : Nat) : Int)) = true) (hi : i ≤ 100000) (hc : x.cps[i]? = some 34) (hge : decide (((i + 1 : Nat) : Int) ≤ ((i + 1 : Nat) : Int)) = true) : Eff w (px1BH fr i n x dn pc) :=
  effW rfl (wd [1,1,1] [0] [] 55 (dg 16 0x102212221222022022) (fun e _ A G => [p0 (e_lt' w ‹decide ((((i : Nat) : Int)) < (((i + 1 : Nat) : Int))) = true›), p0 (e_sget w x i 34 (by first | assumption | omega) (by assumption)), p0 (e_ge' w ‹decide ((((i + 1 : Nat) : Int)) ≤ (((i + 1 : Nat) : Int))) = true›)]) (T := (.v .nil))) (by kernel_rfl)
noncomputable def pxFr (x dn : Str) (i n : Int) : Option Str → OV
  | none => frmV [(kS21, .str x), (kS29, .str dn), (kS23, .int i), (kS14, .int n)]
  | some c => frmV [(kS21, .str x), (kS29, .str dn), (kS23, .int i), (kS14, .int n), (kS41, .str c)]
noncomputable def pxH (fr i j n : Nat) (x dn dn' c : Str) (o : Option Str) : Hook := ⟨false, .code (pxW fr), some ksPX, vws [(fr, pxFr x dn (i : Nat) (n : Nat) o)], fun _ => .next, fun _ => [(fr, pxFr x dn' (j : Nat) (n : Nat) (some c))], fun _ => [], [], fun _ => []⟩
theorem px_Q (w : World) (fr i n : Nat) (x dn : Str) (o : Option Str) (h1 : x.cps[i]? = some 34) (h2 : x.cps[i + 1]? = some 34) (hn : i + 1 < n) (hi : n ≤ 1000) (hd : (dn ++ kS22).length ≤ 100000) : Turn w (pxH fr i (i + 2) n x dn (dn ++ kS22) kS22 o) (pxW fr) := by
  cases o with
  | none => exact px0Q_e w fr i (n : Nat) x dn uE (decide_eq_true (by omega)) (by omega) (by omega) h1 h2 (decide_eq_false (by omega)) hd
  | some c => exact px1Q_e w fr i (n : Nat) x dn c (decide_eq_true (by omega)) (by omega) (by omega) h1 h2 (decide_eq_false (by omega)) hd
theorem px_A (w : World) (fr i n : Nat) (x dn : Str) (o : Option Str) (h1 : x.cps[i]? = some 97) (hn : i < n) (hi : n ≤ 1000) (hd : (dn ++ kS17).length ≤ 100000) : Turn w (pxH fr i (i + 1) n x dn (dn ++ kS17) kS17 o) (pxW fr) := by
  cases o with
  | none => exact px0A_e w fr i (n : Nat) x dn uE (decide_eq_true (by omega)) (by omega) h1 hd
  | some c => exact px1A_e w fr i (n : Nat) x dn c (decide_eq_true (by omega)) (by omega) h1 hd
noncomputable def pxBH (fr i : Nat) (x dn pc : Str) : Hook := ⟨false, .code (pxW fr), some ksPX, vws [(fr, pxFr x dn (i : Nat) (i + 1 : Nat) (some pc))], fun _ => .next, fun _ => [(fr, pxFr x dn (i + 1 : Nat) (i + 1 : Nat) (some kS22))], fun _ => [], [], fun _ => []⟩
theorem px_B (w : World) (fr i : Nat) (x dn pc : Str) (h1 : x.cps[i]? = some 34) (hi : i ≤ 1000) : Eff w (pxBH fr i x dn pc) :=
  px1B_e w fr i 0 x dn pc (decide_eq_true (by omega)) (by omega) h1 (decide_eq_true (by omega))
noncomputable def pxD : Nat → Str → Str
  | 0, dn => dn ++ kS17
  | q + 1, dn => pxD q (dn ++ kS22)
theorem drop_get {x : Str} {i : Nat} {c : Nat} {l : List Nat} (h : x.cps.toList.drop i = c :: l) : x.cps[i]? = some c ∧ x.cps.toList.drop (i + 1) = l := by
  constructor
  · have h1 : (x.cps.toList.drop i)[0]? = some c := by rw [h]; rfl
    rw [List.getElem?_drop, Nat.add_zero] at h1
    simpa using h1
  · rw [← List.drop_drop, h]
    rfl
theorem px_next {w : World} {fr : Nat} {v v' : OV} {s s1 : Shared} {k : Hook} {na : Nat → Nat} (H : Here w false [(fr, v)] [] s) (Af : After k na s s1) (ht : k.tabs = false) (hu : k.upd na = [(fr, v')]) (hg : k.gupd na = []) : Here w false [(fr, v')] [] s1 ∧ Rel false [fr] [] s s1 := by
  refine ⟨Af.here H (fun h => by rw [ht] at h; cases h) (fun y hy => by rw [hu] at hy; exact hy) (fun z hz => .inl (by rw [hu]; exact hz)) (by simp) (fun q hq => nomatch hq) List.nodup_nil, ?_⟩
  have R := Af.rel
  rw [hu, hg] at R
  exact (Rel.refl false _ _ s).within R (fun x hx => .inl hx) (fun x hx => nomatch hx) (fun h => by rw [ht] at h; cases h)
theorem px_ask {w : World} {fr : Nat} {v : OV} {s : Shared} {base : List Frame} {k : Hook} (H : Here w false [(fr, v)] [] s) (hb : Bot base) (hs : Spine ksPX base) (ht : k.tabs = false) (hk : k.ks = some ksPX) (hn : k.need = vws [(fr, v)]) (hg : k.gneed = []) : Asks w k base s :=
  H.asks hb (fun ks e => by rw [hk] at e; cases e; exact hs) (fun h => by rw [ht] at h; cases h) (fun z hz => by
    rw [hn] at hz
    exact .inl (vws_mem hz)) (by rw [hn]; show [fr].Nodup; simp) (fun q hq => by rw [hg] at hq; cases hq) (by rw [hg]; exact List.nodup_nil)
theorem px_go (w : World) (fr n : Nat) (x : Str) (hx : x.cps.toList.length = n) (hn : n ≤ 1000) (base : List Frame) (hb : Bot base) (hs : Spine ksPX base) :
    ∀ (q i : Nat) (dn : Str) (o : Option Str) (s : Shared) (p : Pos), x.cps.toList.drop i = List.replicate (2 * q) 34 ++ [97,34] → dn.length + q ≤ 50000 → Here w false [(fr, pxFr x dn (i : Nat) (n : Nat) o)] [] s →
    ∃ s', Reach (Mo pw w) base s (den (pxW fr)) (pxW fr) p [] s' (.ret (.ok .next)) ∧ Here w false [(fr, pxFr x (pxD q dn) (n : Nat) (n : Nat) (some kS22))] [] s' ∧ Rel false [fr] [] s s' := by
  intro q
  induction q with
  | zero =>
    intro i dn o s p hd hl H
    obtain ⟨h1, h2⟩ := drop_get (c := 97) (l := [34]) hd
    obtain ⟨h3, h4⟩ := drop_get h2
    have hlen : i + 2 = n := by
      have := congrArg List.length hd
      rw [List.length_drop, hx] at this
      simp at this
      omega
    have hdl : (dn ++ kS17).length ≤ 100000 := by
      show (dn.cps ++ #[97]).size ≤ _
      rw [Array.size_append]
      have : dn.cps.size = dn.length := rfl
      simp
      omega
    obtain ⟨na, s1, ⟨p', G⟩, Af⟩ := (px_A w fr i n x dn o h1 (by omega) hn hdl).go (base := base) (s := s) p rfl (px_ask H hb hs rfl rfl rfl rfl)
    obtain ⟨H1, R1⟩ := px_next H Af rfl rfl rfl
    obtain rfl : n = i + 1 + 1 := by omega
    obtain ⟨na2, r', s2, R, hr', Af2⟩ := (px_B w fr (i + 1) x (dn ++ kS17) kS17 h3 (by omega)).go (base := base) (s := s1) p' rfl (px_ask H1 hb hs rfl rfl rfl rfl)
    obtain ⟨t, rfl⟩ := rv_mk hr'
    obtain ⟨H2, R2⟩ := px_next H1 Af2 rfl rfl rfl
    exact ⟨s2, G _ _ R, H2, R1.trans R2⟩
  | succ q ih =>
    intro i dn o s p hd hl H
    have hd : x.cps.toList.drop i = 34 :: 34 :: (List.replicate (2 * q) 34 ++ [97,34]) := by
      rw [hd, show 2 * (q + 1) = 2 * q + 1 + 1 by omega, List.replicate_succ, List.replicate_succ]
      rfl
    obtain ⟨h1, h2⟩ := drop_get hd
    obtain ⟨h3, h4⟩ := drop_get h2
    have hlen : i + 2 < n := by
      have := congrArg List.length hd
      rw [List.length_drop, hx] at this
      simp at this
      omega
    have hdl : (dn ++ kS22).length = dn.length + 1 := by
      show (dn.cps ++ #[34]).size = _
      rw [Array.size_append]
      rfl
    obtain ⟨na, s1, ⟨p', G⟩, Af⟩ := (px_Q w fr i n x dn o h1 h3 (by omega) hn (by omega)).go (base := base) (s := s) p rfl (px_ask H hb hs rfl rfl rfl rfl)
    obtain ⟨H1, R1⟩ := px_next H Af rfl rfl rfl
    obtain ⟨s2, R, H2, R2⟩ := ih (i + 2) (dn ++ kS22) (some kS22) s1 p' h4 (by omega) H1
    exact ⟨s2, G _ _ R, H2, R1.trans R2⟩
noncomputable def optI : Option Int → VV
  | none => .none
  | some i => .int i
noncomputable def sliceS (x : Str) (l u : Option Int) : Str := StrLaws.sliceText x l u
theorem made_slice {x : Str} {t : Tok} (l u : Option (Int × Tok)) (h : x.length ≤ 100000) : MadeIs (sliceMade x t l u none) (.str (sliceS x (l.map (·.1)) (u.map (·.1)))) := by
  unfold sliceMade sliceS StrLaws.sliceText slicePicked
  simp only [Option.map_none, Option.getD_none]
  split
  · exact .val rfl
  · refine .str ?_
    have h1 := indices_len_le (l.map (·.1)) (u.map (·.1)) x.length
    show (List.toArray _).size ≤ 2 ^ 24
    have h2 := List.length_filterMap_le (x.cps[·]?) (Builtin.Str.strSliceIndices (l.map (·.1)) (u.map (·.1)) 1 x.length)
    rw [List.size_toArray]
    omega
noncomputable def ssliceH (x : Str) (a : Nat) (l u : Option Int) : Hook := ⟨false, .call (.bi "str.__getitem__") [.str x, .ref a], none, [(a, .vw (objV "slice" [optI l, optI u, .none]))], fun _ => .ret (.str (sliceS x l u)), fun _ => [], fun _ => [], [], fun _ => []⟩
theorem e_sslice (w : World) (x : Str) (a : Nat) (l u : Option Int) (hx : x.length ≤ 100000) : Eff w (ssliceH x a l u) := by
  intro base p s cc hcc hb _ _ _ hneed _ _ _ _
  obtain ⟨f, vs, rfl, hf, hv'⟩ := hcc
  obtain rfl := vvf_bi hf
  obtain ⟨t, v, rfl⟩ := vvs2 hv'
  obtain ⟨o, ho, hov⟩ := hneed _ (.head _)
  obtain ⟨κ', rfl⟩ := ov_mk hov rfl
  have hsl : s.heap.IsSlice a (l.map fun i => (i, κ'.t 0)) (u.map fun i => (i, κ'.t 1)) none := by
    refine ⟨_, ho, rfl, ?_⟩
    cases l <;> cases u <;> rfl
  have hm := made_slice (x := x) (t := t) (l.map fun i => (i, κ'.t 0)) (u.map fun i => (i, κ'.t 1)) hx
  have e1 : (l.map fun i => (i, κ'.t 0)).map (·.1) = l := by cases l <;> rfl
  have e2 : (u.map fun i => (i, κ'.t 1)).map (·.1) = u := by cases u <;> rfl
  rw [e1, e2] at hm
  obtain ⟨r, s', R, w', rfl, tt, hv, ht, rfl⟩ := meets_reach' (w := w) (p := p) (s := s) (id := "str.__getitem__") (args := ⟨[.str x t, .ref a], []⟩) (R := fun r s' => ∃ v, r = .ok (.ret v) ∧ ∃ t, vv v = some (.str (sliceS x l u)) ∧ s.toks ≤ t ∧ s' = { s with toks := t }) hb (by decide +kernel) (entryFor_of_tree (by kernel_rfl)) (by kernel_rfl)
    (meets_str_getitem_slice x t a _ _ none rfl) (fun A => ⟨hsl, by
      have h1 := hm.post s
      exact made_mono (fun v s' h => ⟨v, rfl, h⟩) h1⟩)
  refine ⟨fun _ => 0, _, _, R, ?_, after_same rfl rfl rfl rfl ht⟩
  show (match vv w' with | some x => some (RV.ret x) | none => none) = _
  rw [hv]
  rfl
theorem lenS_meets (x : Str) (t : Tok) (hf : (x.length : Int) < 2 ^ 63) :
    Meets (Builtin.«len» ⟨[.str x t], []⟩) (fun _ R s => R (.ok (.ret (Value.int x.length (s.toks + 1)))) { s with toks := s.toks + 1 + 1 }) :=
  .of_wp fun prog w A R s h => by
    unfold Builtin.«len»
    refine wpAny_bind (m := oneArg "len" _) (wpAny_pure ?_)
    refine wpAny_bind (m := callSpecial? (.str x t) (Str.ofString "__len__")) (wpAny_callSpecial?_slot (name := Str.ofString "__len__") (typeIs_str _ _ _) PySem.F.slot_str_len (wpAny_call_entry PySem.F.slot_str_len (typeIs_str _ _ _) PySem.F.entry_str_len ?_ (by unfold argsOk; kernel_rfl)))
    unfold Builtin.«str.__len__»
    wp_walk
    refine ⟨_, rfl, ?_⟩
    wp_walk
    rw [if_neg (by omega)]
    wp_walk
    exact ⟨_, rfl, h⟩
theorem e_lenS (w : World) (x : Str) (h : x.length ≤ 100000) : Eff w (pureH "len" [.str x] (.int ((x.length : Nat) : Int))) := by
  intro base p s cc hcc hb _ _ _ hneed _ _ _ _
  obtain ⟨f, vs, rfl, hf, hv⟩ := hcc
  obtain rfl := vvf_bi hf
  obtain ⟨t, rfl⟩ := vvs1 hv
  obtain ⟨rr, s', R, rfl, rfl⟩ := meets_reach' (w := w) (p := p) (s := s) (id := "len") (args := ⟨[.str x t], []⟩) (R := fun rr s' => rr = .ok (.ret (.int (x.length : Nat) (s.toks + 1))) ∧ s' = { s with toks := s.toks + 1 + 1 }) hb (by decide +kernel) PySem.entry_len (by kernel_rfl)
    (lenS_meets x t (by omega)) (fun A => ⟨rfl, rfl⟩)
  exact ⟨fun _ => 0, _, _, R, rfl, after_same rfl rfl rfl rfl (by omega)⟩
noncomputable def ssliceLH (x : Str) (a : Nat) (l u : Option Int) (y : Str) : Hook := ⟨false, .call (.bi "str.__getitem__") [.str x, .ref a], none, [(a, .vw (objV "slice" [optI l, optI u, .none]))], fun _ => .ret (.str y), fun _ => [], fun _ => [], [], fun _ => []⟩
theorem e_ssliceL (w : World) (x : Str) (a : Nat) (l u : Option Int) (y : Str) (hx : x.length ≤ 100000) (h : sliceS x l u = y) : Eff w (ssliceLH x a l u y) := by
  subst h
  exact e_sslice w x a l u hx
noncomputable def py1H (x : Str) : Hook := ⟨false, .call (.ref 221) [.str x], (some ksCR), [], fun na => .next, fun na => [], fun na => [⟨.type "frame", none, (.dict [(kS21, .str x), (kS29, .str uE), (kS23, .int 5), (kS14, .int (((x.length : Nat) : Int)))])⟩], [], fun na => []⟩
noncomputable def py1D (w : World) (x : Str) (hx : x.length ≤ 100000) (h1 : sliceS x none (some 3) = kS10) (h2 : sliceS x (some 3) (some 5) = kS55) : WD w (py1H x) := wd [8,1,4,1,1] [] [0] 73 (dg 16 0x1220211222210210212211) (fun e _ A G => [p1 (e_ssliceL w x (A 1) none (some 3) kS10 (by assumption) (by assumption)) [1], p1 (e_ssliceL w x (A 2) (some 3) (some 5) kS55 (by assumption) (by assumption)) [2], p0 (e_lenS w x (by assumption))])
noncomputable def py1A (e : Amb) (x : Str) : Nat → Nat := nA [8,1,4,1,1] [0] e fun A G => []
theorem py1_e (w : World) (x : Str) (hx : x.length ≤ 100000) (h1 : sliceS x none (some 3) = kS10) (h2 : sliceS x (some 3) (some 5) = kS55) : CallW w (py1H x) (fun na => pxW (na 0)) .func (fun e W => (py1D w x hx h1 h2).R (fl1 w) (fl2 w) e W) (fun e _ => py1A e x) :=
  callW rfl (py1D w x hx h1 h2) (by kernel_rfl)
noncomputable def py2H (e1 : Amb) (x : Str) (i n : Int) (dn pc : Str) : Hook := ⟨false, .call (.ref 221) [.str x], (some ksCR), [((py1A e1 x 0), .vw ⟨.type "frame", none, (.dict [(kS21, .str x), (kS29, .str dn), (kS23, .int i), (kS14, .int n), (kS41, .str pc)])⟩)], fun na => .ret (.str dn), fun na => [], fun na => [], [], fun na => []⟩
theorem py2_e (w : World) (base : List Frame) (s : Shared) (e1 : Amb) (x : Str) (i n : Int) (dn pc : Str) (hx : x.length ≤ 100000) (h1 : sliceS x none (some 3) = kS10) (h2 : sliceS x (some 3) (some 5) = kS55) (hS : WOk (some ksCR) (base.map Frame.where_)) : EffFr w (py2H e1 x i n dn pc) base s ((py1D w x hx h1 h2).R (fl1 w) (fl2 w) e1 (base.map Frame.where_)) (.ok .next) := by
  exact effFr rfl (wd [] [] [] 3 (dg 16 0x12) (T := (.v .nil))) (fun b1 b2 W => (py1D w x hx h1 h2).R b1 b2 e1 W) hS (by kernel_rfl)
theorem sliceS_nat (x : Str) {a b : Nat} (hab : a ≤ b) (hb : b ≤ x.length) : sliceS x (some (a : Int)) (some (b : Int)) = mkStr ((x.cps.toList.drop a).take (b - a)) := StrLaws.sliceText_nat x hab hb
theorem sliceS_none_lo (x : Str) (u : Option Int) : sliceS x none u = sliceS x (some 0) u := by
  unfold sliceS StrLaws.sliceText
  rw [StrLaws.sliceIdx_none_lo]
theorem sliceS_none_hi (x : Str) (l : Option Int) : sliceS x l none = sliceS x l (some (x.length : Int)) := by
  unfold sliceS StrLaws.sliceText
  rw [StrLaws.sliceIdx_none_hi]
noncomputable def pxHk (x y : Str) : Hook := ⟨false, .call (.ref 221) [.str x], some ksCR, [], fun _ => .ret (.str y), fun _ => [], fun _ => [], [], fun _ => []⟩
theorem e_px (w : World) (q : Nat) (x : Str) (hx : x.cps.toList = 50 :: 53 :: 55 :: 32 :: 34 :: (List.replicate (2 * q) 34 ++ [97,34])) (hq : q ≤ 400) : Eff w (pxHk x (pxD q uE)) := eff_of fun base p s c hc A => by
  have H := asks_here A (L := []) .nil
  have hspc : Spine ksCR base := A.sp _ rfl
  have hlen : x.cps.toList.length = 2 * q + 7 := by rw [hx]; simp
  have hlen' : x.length = 2 * q + 7 := by
    show x.cps.size = _
    simpa using hlen
  have h1 : sliceS x none (some 3) = kS10 := by
    rw [sliceS_none_lo]
    refine (sliceS_nat x (a := 0) (b := 3) (by omega) (by omega)).trans ?_
    rw [hx]
    rfl
  have h2 : sliceS x (some 3) (some 5) = kS55 := by
    refine (sliceS_nat x (a := 3) (b := 5) (by omega) (by omega)).trans ?_
    rw [hx]
    rfl
  obtain ⟨na, s1, e1, hna, ⟨fr0, hB, hSp, -, p1, G1⟩, Af1⟩ := (py1_e w x (by omega) h1 h2) base p s c hc (H.asks A.bot (fun ks e => by cases e; exact hspc) (fun h => by cases h) (fun z hz => nomatch hz) List.nodup_nil (fun q hq => nomatch hq) List.nodup_nil)
  have hnew : s.heap.objs.size ≤ na 0 := (Af1.new 0 _ rfl).1
  have H1 : Here w false [(na 0, pxFr x uE (5 : Nat) (x.length : Nat) none)] [] s1 := Af1.here H (fun h => by cases h) (fun y hy => nomatch hy) (fun z hz => by
      show z ∈ [] ∨ z ∈ tagN na 0 [pxFr x uE (5 : Nat) (x.length : Nat) none] ∨ _ ∧ z.1 ∉ []
      exact .inr (.inl hz)) (by simp) (fun q hq => nomatch hq) List.nodup_nil
  obtain ⟨s2, R2, H2, Rl2⟩ := px_go w (na 0) x.length x (by rw [hlen, hlen']) (by omega) (fr0 :: base) (hB A.bot) (hSp _ hspc) q 5 uE none s1 p1 (by rw [hx]; rfl) (by show 0 + q ≤ _; omega) H1
  have hna : na = py1A e1 x := hna
  obtain ⟨na2, rr, s3, R3, hr3, Af3⟩ := py2_e w base s2 e1 x (x.length : Nat) (x.length : Nat) (pxD q uE) kS22 (by omega) h1 h2 hspc (H2.asks A.bot (fun ks e => by cases e; exact hspc) (fun h => by cases h) (fun z hz => by
        have hz : z ∈ [(py1A e1 x 0, SV.vw (pxFr x (pxD q uE) (x.length : Nat) (x.length : Nat) (some kS22)))] := hz
        rw [← hna] at hz
        simp only [List.mem_cons, List.not_mem_nil, or_false] at hz
        subst hz
        exact .inl ⟨_, rfl, .head _⟩) (by
        show [py1A e1 x 0].Nodup
        simp) (fun q hq => nomatch hq) List.nodup_nil)
  refine ⟨na2, rr, s3, G1 s2 _ R2 s3 _ R3, hr3, after_last (k := pxHk x (pxD q uE)) ?_ Af3 rfl rfl rfl rfl⟩
  have ra : Rel false [] [] s s1 := (Rel.refl false [] [] s).within Af1.rel (fun y hy => nomatch hy) (fun x hx => nomatch hx) (fun h => by cases h)
  exact ra.within Rl2 (fun y hy => .inr (.inl (by
    change y ∈ [na 0] at hy
    simp only [List.mem_cons, List.not_mem_nil, or_false] at hy
    subst hy
    exact hnew))) (fun x hx => nomatch hx) (fun h => h)
theorem e_modv (w : World) (a b v : Int) (h0 : b ≠ 0) (h : Int.fmod a b = v) : Eff w (pureH "int.__mod__" [.int a, .int b] (.int v)) := h ▸ e_mod w a b h0
noncomputable def s_step2 : Str := kS0
noncomputable def s_room2 : Str := kS3
noncomputable def s_place2 : Str := kS1
noncomputable def caX : PySem.Expr := argE 0 (valOf (nthS (inner (sub 20 4)) 0))
noncomputable def cbX : PySem.Expr := argE 0 (argE 0 (valOf (nthS (inner (sub 20 4)) 2)))
noncomputable def cdX : PySem.Expr := argE 0 (valOf (sub 18 0))
noncomputable def caE' (d2 fr c1 c2 c3 : Nat) : Env := ⟨cellScope (genScope caX), d2,3, [(s_step2, c1), (s_room2, c2), (s_place2, c3)], strOf "law.<locals>.", none, .ref 315, some fr, 0⟩
noncomputable def caCL (it2 l2 d2 fr c1 c2 c3 : Nat) : Code := .compLoop caX 0 (.ref it2) (.ref l2) (caE' d2 fr c1 c2 c3)
noncomputable def caCS (it2 l2 d2 fr c1 c2 c3 : Nat) : Code := .compStart caX 0 (.ref it2) (.ref l2) (caE' d2 fr c1 c2 c3)
noncomputable def cbE' (d2 fr c2 c3 : Nat) : Env := ⟨cellScope (genScope cbX), d2,3, [(s_room2, c2), (s_place2, c3)], strOf "law.<locals>.", none, .ref 315, some fr, 0⟩
noncomputable def cbCL (it2 l2 d2 fr c2 c3 : Nat) : Code := .compLoop cbX 0 (.ref it2) (.ref l2) (cbE' d2 fr c2 c3)
noncomputable def cbCS (it2 l2 d2 fr c2 c3 : Nat) : Code := .compStart cbX 0 (.ref it2) (.ref l2) (cbE' d2 fr c2 c3)
noncomputable def cdE' (d2 fr c1 c2 : Nat) : Env := ⟨cellScope (genScope cdX), d2,3, [(s_step2, c1), (s_room2, c2)], strOf "_law_reply.<locals>.", none, .ref 303, some fr, 0⟩
noncomputable def cdCL (it2 l2 d2 fr c1 c2 : Nat) : Code := .compLoop cdX 0 (.ref it2) (.ref l2) (cdE' d2 fr c1 c2)
noncomputable def cdCS (it2 l2 d2 fr c1 c2 : Nat) : Code := .compStart cdX 0 (.ref it2) (.ref l2) (cdE' d2 fr c1 c2)
noncomputable def caSTH (it2 l2 d2 fr c_step c_room c_place : Nat) (at' left : Int) : Hook := ⟨false, .code (caCS it2 l2 d2 fr c_step c_room c_place), (some ksCR), [(it2, .vw ⟨.type "range_iterator", none, (.fields [.int at', .int left, .int 1])⟩)], fun na => .next, fun na => [], fun na => [], [], fun na => []⟩
theorem caST_e (w : World) (it2 l2 d2 fr c_step c_room c_place : Nat) (at' left : Int)  (hb2 : fl2 w = true) : Turn w (caSTH it2 l2 d2 fr c_step c_room c_place at' left) (caCL it2 l2 d2 fr c_step c_room c_place) :=
  turnW hb2 (wd [] [] [] 1 [] (T := (.v .nil))) (by kernel_rfl)
noncomputable def caSFH (it2 l2 d2 fr c_step c_room c_place : Nat) (at' left : Int) : Hook := ⟨false, .code (caCS it2 l2 d2 fr c_step c_room c_place), (some ksCR), [(it2, .vw ⟨.type "range_iterator", none, (.fields [.int at', .int left, .int 1])⟩)], fun na => .next, fun na => [], fun na => [], [], fun na => []⟩
theorem caSF_e (w : World) (it2 l2 d2 fr c_step c_room c_place : Nat) (at' left : Int)  (hb2 : fl2 w = false) : Turn w (caSFH it2 l2 d2 fr c_step c_room c_place at' left) (caCL it2 l2 d2 fr c_step c_room c_place) :=
  turnW hb2 (wd [] [] [] 11 (dg 16 0x122122) (T := (.v .nil))) (by kernel_rfl)
noncomputable def ca0H (it2 l2 d2 fr c_step c_room c_place : Nat) (at' left step room place prev : Int) (ls : List VV) (κ : TK) : Hook := ⟨false, .code (caCL it2 l2 d2 fr c_step c_room c_place), (some ksCR), [(it2, .vw ⟨.type "range_iterator", none, (.fields [.int at', .int left, .int 1])⟩), (d2, .vw ⟨.type "dict", none, (.dict [])⟩), (c_step, .vw ⟨.type "cell", none, (.cell (some (.int step)))⟩), (c_room, .vw ⟨.type "cell", none, (.cell (some (.int room)))⟩), (c_place, .vw ⟨.type "cell", none, (.cell (some (.int place)))⟩), (l2, .ob (OV.mk' (listV ls) κ))], fun na => .next, fun na => [(it2, ⟨.type "range_iterator", none, (.fields [.int (at' + 1), .int (left - 1), .int 1])⟩), (d2, ⟨.type "dict", none, (.dict [(kS48, .int at')])⟩), (l2, (listV (ls ++ [.int (Int.fdiv (step * at' + place) room)])))], fun na => [], [], fun na => []⟩
theorem ca0_e (w : World) (it2 l2 d2 fr c_step c_room c_place : Nat) (at' left step room place prev : Int) (ls : List VV) (κ : TK) (h : 0 < left) (hs1 : -1000000 ≤ step) (hs2 : step ≤ 1000000) (hr0 : room ≠ 0) (hr : room.natAbs ≤ 1000000) (hls : ls.length ≤ 1000) : Turn w (ca0H it2 l2 d2 fr c_step c_room c_place at' left step room place prev ls κ) (caCL it2 l2 d2 fr c_step c_room c_place) :=
  turnW rfl (wd [1,1,1,1] [0,1,5] [] 28 (dg 16 0x1005160343302) (fun e _ A G => [p2 (e_rnext w it2 at' left 1 (by first | assumption | omega)) [0] [0], p0 (e_mul w step at' (by first | assumption | omega) (by first | assumption | omega)), p0 (e_fdiv w ((step * at' + place)) room (by first | assumption | omega) (by first | assumption | omega)), p2 (e_append w l2 (e.k 5) ls (.int (Int.fdiv (step * at' + place) room)) (by first | assumption | (simp only [List.length_append, List.length_cons, List.length_nil]; omega))) [5] [5]]) (T := (.v (.v (.v (.v (.v (.o .nil))))))) (ut := fun e => [none, none, some ((e.τ 3).u 0)])) (by kernel_rfl)
noncomputable def ca1H (it2 l2 d2 fr c_step c_room c_place : Nat) (at' left step room place prev : Int) (ls : List VV) (κ : TK) : Hook := ⟨false, .code (caCL it2 l2 d2 fr c_step c_room c_place), (some ksCR), [(it2, .vw ⟨.type "range_iterator", none, (.fields [.int at', .int left, .int 1])⟩), (d2, .vw ⟨.type "dict", none, (.dict [(kS48, .int prev)])⟩), (c_step, .vw ⟨.type "cell", none, (.cell (some (.int step)))⟩), (c_room, .vw ⟨.type "cell", none, (.cell (some (.int room)))⟩), (c_place, .vw ⟨.type "cell", none, (.cell (some (.int place)))⟩), (l2, .ob (OV.mk' (listV ls) κ))], fun na => .next, fun na => [(it2, ⟨.type "range_iterator", none, (.fields [.int (at' + 1), .int (left - 1), .int 1])⟩), (d2, ⟨.type "dict", none, (.dict [(kS48, .int at')])⟩), (l2, (listV (ls ++ [.int (Int.fdiv (step * at' + place) room)])))], fun na => [], [], fun na => []⟩
theorem ca1_e (w : World) (it2 l2 d2 fr c_step c_room c_place : Nat) (at' left step room place prev : Int) (ls : List VV) (κ : TK) (h : 0 < left) (hs1 : -1000000 ≤ step) (hs2 : step ≤ 1000000) (hr0 : room ≠ 0) (hr : room.natAbs ≤ 1000000) (hls : ls.length ≤ 1000) : Turn w (ca1H it2 l2 d2 fr c_step c_room c_place at' left step room place prev ls κ) (caCL it2 l2 d2 fr c_step c_room c_place) :=
  turnW rfl (wd [1,1,1,1] [0,1,5] [] 28 (dg 16 0x1005160343302) (fun e _ A G => [p2 (e_rnext w it2 at' left 1 (by first | assumption | omega)) [0] [0], p0 (e_mul w step at' (by first | assumption | omega) (by first | assumption | omega)), p0 (e_fdiv w ((step * at' + place)) room (by first | assumption | omega) (by first | assumption | omega)), p2 (e_append w l2 (e.k 5) ls (.int (Int.fdiv (step * at' + place) room)) (by first | assumption | (simp only [List.length_append, List.length_cons, List.length_nil]; omega))) [5] [5]]) (T := (.v (.v (.v (.v (.v (.o .nil))))))) (ut := fun e => [none, none, some ((e.τ 3).u 0)])) (by kernel_rfl)
noncomputable def caEH (it2 l2 d2 fr c_step c_room c_place : Nat) (at' : Int) : Hook := ⟨false, .code (caCL it2 l2 d2 fr c_step c_room c_place), (some ksCR), [(it2, .vw ⟨.type "range_iterator", none, (.fields [.int at', .int 0, .int 1])⟩)], fun na => .next, fun na => [], fun na => [], [], fun na => []⟩
theorem caE_e (w : World) (it2 l2 d2 fr c_step c_room c_place : Nat) (at' : Int)  : Eff w (caEH it2 l2 d2 fr c_step c_room c_place at') :=
  effW rfl (wd [8] [] [] 14 (dg 16 0x14222212) (T := (.v .nil))) (by kernel_rfl)
noncomputable def cbSTH (it2 l2 d2 fr c_room c_place : Nat) (at' left : Int) : Hook := ⟨false, .code (cbCS it2 l2 d2 fr c_room c_place), (some ksCR), [(it2, .vw ⟨.type "range_iterator", none, (.fields [.int at', .int left, .int 1])⟩)], fun na => .next, fun na => [], fun na => [], [], fun na => []⟩
theorem cbST_e (w : World) (it2 l2 d2 fr c_room c_place : Nat) (at' left : Int)  (hb2 : fl2 w = true) : Turn w (cbSTH it2 l2 d2 fr c_room c_place at' left) (cbCL it2 l2 d2 fr c_room c_place) :=
  turnW hb2 (wd [] [] [] 1 [] (T := (.v .nil))) (by kernel_rfl)
noncomputable def cbSFH (it2 l2 d2 fr c_room c_place : Nat) (at' left : Int) : Hook := ⟨false, .code (cbCS it2 l2 d2 fr c_room c_place), (some ksCR), [(it2, .vw ⟨.type "range_iterator", none, (.fields [.int at', .int left, .int 1])⟩)], fun na => .next, fun na => [], fun na => [], [], fun na => []⟩
theorem cbSF_e (w : World) (it2 l2 d2 fr c_room c_place : Nat) (at' left : Int)  (hb2 : fl2 w = false) : Turn w (cbSFH it2 l2 d2 fr c_room c_place at' left) (cbCL it2 l2 d2 fr c_room c_place) :=
  turnW hb2 (wd [] [] [] 11 (dg 16 0x122122) (T := (.v .nil))) (by kernel_rfl)
noncomputable def cb0H (it2 l2 d2 fr c_room c_place : Nat) (at' left room place prev : Int) (ls : List VV) (κ : TK) : Hook := ⟨false, .code (cbCL it2 l2 d2 fr c_room c_place), (some ksCR), [(it2, .vw ⟨.type "range_iterator", none, (.fields [.int at', .int left, .int 1])⟩), (d2, .vw ⟨.type "dict", none, (.dict [])⟩), (c_room, .vw ⟨.type "cell", none, (.cell (some (.int room)))⟩), (c_place, .vw ⟨.type "cell", none, (.cell (some (.int place)))⟩), (l2, .ob (OV.mk' (listV ls) κ))], fun na => .next, fun na => [(it2, ⟨.type "range_iterator", none, (.fields [.int (at' + 1), .int (left - 1), .int 1])⟩), (d2, ⟨.type "dict", none, (.dict [(kS48, .int at')])⟩), (l2, (listV (ls ++ [.str (((rep 32 (Int.toNat ((room * at' + place)))) ++ kS16))])))], fun na => [], [], fun na => []⟩
theorem cb0_e (w : World) (it2 l2 d2 fr c_room c_place : Nat) (at' left room place prev : Int) (ls : List VV) (κ : TK) (h : 0 < left) (hs1 : -1000000 ≤ room) (hs2 : room ≤ 1000000) (h0 : 0 ≤ room * at' + place) (h1 : room * at' + place ≤ 100000) (hd : ((rep 32 (Int.toNat (room * at' + place))) ++ kS16).length ≤ 100000) (hls : ls.length ≤ 1000) : Turn w (cb0H it2 l2 d2 fr c_room c_place at' left room place prev ls κ) (cbCL it2 l2 d2 fr c_room c_place) :=
  turnW rfl (wd [1,1,1,1,1] [0,1,4] [] 36 (dg 16 0x10001150343302) (fun e _ A G => [p2 (e_rnext w it2 at' left 1 (by first | assumption | omega)) [0] [0], p0 (e_mul w room at' (by first | assumption | omega) (by first | assumption | omega)), p0 (e_smul w 32 ((room * at' + place)) (by first | assumption | omega) (by first | assumption | omega)), p0 (e_sadd w (rep 32 (Int.toNat ((room * at' + place)))) kS16 (by assumption)), p2 (e_append w l2 (e.k 4) ls (.str (((rep 32 (Int.toNat ((room * at' + place)))) ++ kS16))) (by first | assumption | (simp only [List.length_append, List.length_cons, List.length_nil]; omega))) [4] [4]]) (T := (.v (.v (.v (.v (.o .nil)))))) (ut := fun e => [none, none, some ((e.τ 4).u 0)])) (by kernel_rfl)
noncomputable def cb1H (it2 l2 d2 fr c_room c_place : Nat) (at' left room place prev : Int) (ls : List VV) (κ : TK) : Hook := ⟨false, .code (cbCL it2 l2 d2 fr c_room c_place), (some ksCR), [(it2, .vw ⟨.type "range_iterator", none, (.fields [.int at', .int left, .int 1])⟩), (d2, .vw ⟨.type "dict", none, (.dict [(kS48, .int prev)])⟩), (c_room, .vw ⟨.type "cell", none, (.cell (some (.int room)))⟩), (c_place, .vw ⟨.type "cell", none, (.cell (some (.int place)))⟩), (l2, .ob (OV.mk' (listV ls) κ))], fun na => .next, fun na => [(it2, ⟨.type "range_iterator", none, (.fields [.int (at' + 1), .int (left - 1), .int 1])⟩), (d2, ⟨.type "dict", none, (.dict [(kS48, .int at')])⟩), (l2, (listV (ls ++ [.str (((rep 32 (Int.toNat ((room * at' + place)))) ++ kS16))])))], fun na => [], [], fun na => []⟩
theorem cb1_e (w : World) (it2 l2 d2 fr c_room c_place : Nat) (at' left room place prev : Int) (ls : List VV) (κ : TK) (h : 0 < left) (hs1 : -1000000 ≤ room) (hs2 : room ≤ 1000000) (h0 : 0 ≤ room * at' + place) (h1 : room * at' + place ≤ 100000) (hd : ((rep 32 (Int.toNat (room * at' + place))) ++ kS16).length ≤ 100000) (hls : ls.length ≤ 1000) : Turn w (cb1H it2 l2 d2 fr c_room c_place at' left room place prev ls κ) (cbCL it2 l2 d2 fr c_room c_place) :=
  turnW rfl (wd [1,1,1,1,1] [0,1,4] [] 36 (dg 16 0x10001150343302) (fun e _ A G => [p2 (e_rnext w it2 at' left 1 (by first | assumption | omega)) [0] [0], p0 (e_mul w room at' (by first | assumption | omega) (by first | assumption | omega)), p0 (e_smul w 32 ((room * at' + place)) (by first | assumption | omega) (by first | assumption | omega)), p0 (e_sadd w (rep 32 (Int.toNat ((room * at' + place)))) kS16 (by assumption)), p2 (e_append w l2 (e.k 4) ls (.str (((rep 32 (Int.toNat ((room * at' + place)))) ++ kS16))) (by first | assumption | (simp only [List.length_append, List.length_cons, List.length_nil]; omega))) [4] [4]]) (T := (.v (.v (.v (.v (.o .nil)))))) (ut := fun e => [none, none, some ((e.τ 4).u 0)])) (by kernel_rfl)
noncomputable def cbEH (it2 l2 d2 fr c_room c_place : Nat) (at' : Int) : Hook := ⟨false, .code (cbCL it2 l2 d2 fr c_room c_place), (some ksCR), [(it2, .vw ⟨.type "range_iterator", none, (.fields [.int at', .int 0, .int 1])⟩)], fun na => .next, fun na => [], fun na => [], [], fun na => []⟩
theorem cbE_e (w : World) (it2 l2 d2 fr c_room c_place : Nat) (at' : Int)  : Eff w (cbEH it2 l2 d2 fr c_room c_place at') :=
  effW rfl (wd [8] [] [] 14 (dg 16 0x14222212) (T := (.v .nil))) (by kernel_rfl)
noncomputable def cdSTH (it2 l2 d2 fr c_step c_room : Nat) (at' left : Int) : Hook := ⟨false, .code (cdCS it2 l2 d2 fr c_step c_room), (some ksCL), [(it2, .vw ⟨.type "range_iterator", none, (.fields [.int at', .int left, .int 1])⟩)], fun na => .next, fun na => [], fun na => [], [], fun na => []⟩
theorem cdST_e (w : World) (it2 l2 d2 fr c_step c_room : Nat) (at' left : Int)  (hb2 : fl2 w = true) : Turn w (cdSTH it2 l2 d2 fr c_step c_room at' left) (cdCL it2 l2 d2 fr c_step c_room) :=
  turnW hb2 (wd [] [] [] 1 [] (T := (.v .nil))) (by kernel_rfl)
noncomputable def cdSFH (it2 l2 d2 fr c_step c_room : Nat) (at' left : Int) : Hook := ⟨false, .code (cdCS it2 l2 d2 fr c_step c_room), (some ksCL), [(it2, .vw ⟨.type "range_iterator", none, (.fields [.int at', .int left, .int 1])⟩)], fun na => .next, fun na => [], fun na => [], [], fun na => []⟩
theorem cdSF_e (w : World) (it2 l2 d2 fr c_step c_room : Nat) (at' left : Int)  (hb2 : fl2 w = false) : Turn w (cdSFH it2 l2 d2 fr c_step c_room at' left) (cdCL it2 l2 d2 fr c_step c_room) :=
  turnW hb2 (wd [] [] [] 11 (dg 16 0x122122) (T := (.v .nil))) (by kernel_rfl)
noncomputable def cd0CH (it2 l2 d2 fr c_step c_room : Nat) (at' left step room prev : Int) (ls : List VV) (κ : TK) : Hook := ⟨false, .code (cdCL it2 l2 d2 fr c_step c_room), (some ksCL), [(it2, .vw ⟨.type "range_iterator", none, (.fields [.int at', .int left, .int 1])⟩), (d2, .vw ⟨.type "dict", none, (.dict [])⟩), (c_step, .vw ⟨.type "cell", none, (.cell (some (.int step)))⟩), (c_room, .vw ⟨.type "cell", none, (.cell (some (.int room)))⟩), (l2, .ob (OV.mk' (listV ls) κ))], fun na => .next, fun na => [(it2, ⟨.type "range_iterator", none, (.fields [.int (at' + 1), .int (left - 1), .int 1])⟩), (d2, ⟨.type "dict", none, (.dict [(kS46, .int at')])⟩), (l2, (listV (ls ++ [.int at'])))], fun na => [], [], fun na => []⟩
theorem cd0C_e (w : World) (it2 l2 d2 fr c_step c_room : Nat) (at' left step room prev : Int) (ls : List VV) (κ : TK) (h : 0 < left) (ha0 : at' ≠ 0) (hw : Int.fmod step at' = 0) (hv : Int.fmod room at' = 0) (hls : ls.length ≤ 1000) : Turn w (cd0CH it2 l2 d2 fr c_step c_room at' left step room prev ls κ) (cdCL it2 l2 d2 fr c_step c_room) :=
  turnW rfl (wd [1,1,1,1] [0,1,4] [] 37 (dg 16 0x103103510343302) (fun e _ A G => [p2 (e_rnext w it2 at' left 1 (by first | assumption | omega)) [0] [0], .q (h := pureH "int.__mod__" [.int step, .int at'] (.int 0)) (fun f => e_modv w _ _ _ (by assumption) (by assumption)) [] [] [] [], .q (h := pureH "int.__mod__" [.int room, .int at'] (.int 0)) (fun f => e_modv w _ _ _ (by assumption) (by assumption)) [] [] [] [], p2 (e_append w l2 (e.k 4) ls (.int at') (by first | assumption | (simp only [List.length_append, List.length_cons, List.length_nil]; omega))) [4] [4]]) (T := (.v (.v (.v (.v (.o .nil)))))) (ut := fun e => [none, none, some ((e.τ 3).u 0)])) (by kernel_rfl)
noncomputable def cd1AH (it2 l2 d2 fr c_step c_room : Nat) (at' left step room prev v : Int) : Hook := ⟨false, .code (cdCL it2 l2 d2 fr c_step c_room), (some ksCL), [(it2, .vw ⟨.type "range_iterator", none, (.fields [.int at', .int left, .int 1])⟩), (d2, .vw ⟨.type "dict", none, (.dict [(kS46, .int prev)])⟩), (c_step, .vw ⟨.type "cell", none, (.cell (some (.int step)))⟩), (c_room, .vw ⟨.type "cell", none, (.cell (some (.int room)))⟩)], fun na => .next, fun na => [(it2, ⟨.type "range_iterator", none, (.fields [.int (at' + 1), .int (left - 1), .int 1])⟩), (d2, ⟨.type "dict", none, (.dict [(kS46, .int at')])⟩)], fun na => [], [], fun na => []⟩
theorem cd1A_e (w : World) (it2 l2 d2 fr c_step c_room : Nat) (at' left step room prev v : Int) (h : 0 < left) (ha0 : at' ≠ 0) (hv : Int.fmod step at' = v) (hb : (v == 0) = false) : Turn w (cd1AH it2 l2 d2 fr c_step c_room at' left step room prev v) (cdCL it2 l2 d2 fr c_step c_room) :=
  turnW rfl (wd [1,1,1] [0,1] [] 20 (dg 16 0x100343302) (fun e _ A G => [p2 (e_rnext w it2 at' left 1 (by first | assumption | omega)) [0] [0], .q (h := pureH "int.__mod__" [.int step, .int at'] (.int v)) (fun f => e_modv w _ _ _ (by assumption) (by assumption)) [] [] [] [], p0 (e_eq' w ‹(v == 0) = false›)]) (T := (.v (.v (.v (.v .nil)))))) (by kernel_rfl)
noncomputable def cd1BH (it2 l2 d2 fr c_step c_room : Nat) (at' left step room prev v : Int) : Hook := ⟨false, .code (cdCL it2 l2 d2 fr c_step c_room), (some ksCL), [(it2, .vw ⟨.type "range_iterator", none, (.fields [.int at', .int left, .int 1])⟩), (d2, .vw ⟨.type "dict", none, (.dict [(kS46, .int prev)])⟩), (c_step, .vw ⟨.type "cell", none, (.cell (some (.int step)))⟩), (c_room, .vw ⟨.type "cell", none, (.cell (some (.int room)))⟩)], fun na => .next, fun na => [(it2, ⟨.type "range_iterator", none, (.fields [.int (at' + 1), .int (left - 1), .int 1])⟩), (d2, ⟨.type "dict", none, (.dict [(kS46, .int at')])⟩)], fun na => [], [], fun na => []⟩
theorem cd1B_e (w : World) (it2 l2 d2 fr c_step c_room : Nat) (at' left step room prev v : Int) (h : 0 < left) (ha0 : at' ≠ 0) (hw : Int.fmod step at' = 0) (hv : Int.fmod room at' = v) (hb : (v == 0) = false) : Turn w (cd1BH it2 l2 d2 fr c_step c_room at' left step room prev v) (cdCL it2 l2 d2 fr c_step c_room) :=
  turnW rfl (wd [1,1,1,1] [0,1] [] 32 (dg 16 0x1003510343302) (fun e _ A G => [p2 (e_rnext w it2 at' left 1 (by first | assumption | omega)) [0] [0], .q (h := pureH "int.__mod__" [.int step, .int at'] (.int 0)) (fun f => e_modv w _ _ _ (by assumption) (by assumption)) [] [] [] [], .q (h := pureH "int.__mod__" [.int room, .int at'] (.int v)) (fun f => e_modv w _ _ _ (by assumption) (by assumption)) [] [] [] [], p0 (e_eq' w ‹(v == 0) = false›)]) (T := (.v (.v (.v (.v .nil)))))) (by kernel_rfl)
noncomputable def cd1CH (it2 l2 d2 fr c_step c_room : Nat) (at' left step room prev : Int) (ls : List VV) (κ : TK) : Hook := ⟨false, .code (cdCL it2 l2 d2 fr c_step c_room), (some ksCL), [(it2, .vw ⟨.type "range_iterator", none, (.fields [.int at', .int left, .int 1])⟩), (d2, .vw ⟨.type "dict", none, (.dict [(kS46, .int prev)])⟩), (c_step, .vw ⟨.type "cell", none, (.cell (some (.int step)))⟩), (c_room, .vw ⟨.type "cell", none, (.cell (some (.int room)))⟩), (l2, .ob (OV.mk' (listV ls) κ))], fun na => .next, fun na => [(it2, ⟨.type "range_iterator", none, (.fields [.int (at' + 1), .int (left - 1), .int 1])⟩), (d2, ⟨.type "dict", none, (.dict [(kS46, .int at')])⟩), (l2, (listV (ls ++ [.int at'])))], fun na => [], [], fun na => []⟩
theorem cd1C_e (w : World) (it2 l2 d2 fr c_step c_room : Nat) (at' left step room prev : Int) (ls : List VV) (κ : TK) (h : 0 < left) (ha0 : at' ≠ 0) (hw : Int.fmod step at' = 0) (hv : Int.fmod room at' = 0) (hls : ls.length ≤ 1000) : Turn w (cd1CH it2 l2 d2 fr c_step c_room at' left step room prev ls κ) (cdCL it2 l2 d2 fr c_step c_room) :=
  turnW rfl (wd [1,1,1,1] [0,1,4] [] 37 (dg 16 0x103103510343302) (fun e _ A G => [p2 (e_rnext w it2 at' left 1 (by first | assumption | omega)) [0] [0], .q (h := pureH "int.__mod__" [.int step, .int at'] (.int 0)) (fun f => e_modv w _ _ _ (by assumption) (by assumption)) [] [] [] [], .q (h := pureH "int.__mod__" [.int room, .int at'] (.int 0)) (fun f => e_modv w _ _ _ (by assumption) (by assumption)) [] [] [] [], p2 (e_append w l2 (e.k 4) ls (.int at') (by first | assumption | (simp only [List.length_append, List.length_cons, List.length_nil]; omega))) [4] [4]]) (T := (.v (.v (.v (.v (.o .nil)))))) (ut := fun e => [none, none, some ((e.τ 3).u 0)])) (by kernel_rfl)
noncomputable def cdEH (it2 l2 d2 fr c_step c_room : Nat) (at' : Int) : Hook := ⟨false, .code (cdCL it2 l2 d2 fr c_step c_room), (some ksCL), [(it2, .vw ⟨.type "range_iterator", none, (.fields [.int at', .int 0, .int 1])⟩)], fun na => .next, fun na => [], fun na => [], [], fun na => []⟩
theorem cdE_e (w : World) (it2 l2 d2 fr c_step c_room : Nat) (at' : Int)  : Eff w (cdEH it2 l2 d2 fr c_step c_room at') :=
  effW rfl (wd [8] [] [] 14 (dg 16 0x14222212) (T := (.v .nil))) (by kernel_rfl)
structure CP where
  ks : List Kd
  C : Code
  CS : Code
  it : Nat
  d2 : Nat
  l2 : Nat
  X : List (Nat × OV)
  n : Nat
  x0 : Int
  dv : Nat → OV
  ls : Nat → List VV
noncomputable def CP.st (a : CP) (x left : Int) (i : Nat) : List (Nat × OV) := (a.it, ritV x left 1) :: (a.d2, a.dv i) :: (a.X ++ [(a.l2, listV (a.ls i))])
noncomputable def cpH (ks : List Kd) (C : Code) (need : List (Nat × SV)) (upd : List (Nat × OV)) : Hook := ⟨false, .code C, some ks, need, fun _ => .next, fun _ => upd, fun _ => [], [], fun _ => []⟩
inductive CP.Step (a : CP) (w : World) (x left : Int) (i : Nat) : Prop
  | full (h : ∀ κ, Turn w (cpH a.ks a.C ((a.it, .vw (ritV x left 1)) :: (a.d2, .vw (a.dv i)) :: (vws a.X ++ [(a.l2, .ob ((listV (a.ls i)).mk' κ))])) [(a.it, ritV (x + 1) (left - 1) 1), (a.d2, a.dv (i + 1)), (a.l2, listV (a.ls (i + 1)))]) a.C)
  | skip (e : a.ls (i + 1) = a.ls i) (h : Turn w (cpH a.ks a.C ((a.it, .vw (ritV x left 1)) :: (a.d2, .vw (a.dv i)) :: vws a.X) [(a.it, ritV (x + 1) (left - 1) 1), (a.d2, a.dv (i + 1))]) a.C)
theorem CP.st_fst (a : CP) (x left : Int) (i : Nat) : (a.st x left i).map Prod.fst = a.it :: a.d2 :: (a.X.map Prod.fst ++ [a.l2]) := by
  unfold CP.st
  simp
theorem cp_step {w : World} {a : CP} {x left : Int} {i : Nat} (T : a.Step w x left i) {base : List Frame} (hb : Bot base) (hs : Spine a.ks base) {s : Shared} (p : Pos) (H : Here w false (a.st x left i) [] s) :
    ∃ s1, GoTo w base s a.C p s1 a.C ∧ Here w false (a.st (x + 1) (left - 1) (i + 1)) [] s1 ∧ Rel false [a.it, a.d2, a.l2] [] s s1 := by
  have HX : Here w false ([(a.it, ritV x left 1), (a.d2, a.dv i), (a.l2, listV (a.ls i))] ++ a.X) [] s := H.perm (tri [(a.it, ritV x left 1), (a.d2, a.dv i)] a.X [(a.l2, listV (a.ls i))]).symm
  have back : ∀ {s1 : Shared}, Here w false ([(a.it, ritV (x + 1) (left - 1) 1), (a.d2, a.dv (i + 1)), (a.l2, listV (a.ls (i + 1)))] ++ a.X) [] s1 → Here w false (a.st (x + 1) (left - 1) (i + 1)) [] s1 := fun h => h.perm (tri [(a.it, ritV (x + 1) (left - 1) 1), (a.d2, a.dv (i + 1))] a.X [(a.l2, listV (a.ls (i + 1)))])
  cases T with
  | full h =>
    obtain ⟨κ, hκ⟩ := HX.obj (a := a.l2) (v := listV (a.ls i)) (.tail _ (.tail _ (.head _))) rfl
    obtain ⟨na, s1, G, Af⟩ := (h κ).go (base := base) (s := s) p rfl (Asks.perm _ (HX.asksX hb hs [(0, none), (1, none), (2, some _)] a.X (ac no_ob (ac no_ob (ac (the_ob hκ) an))) (.inl rfl)) (tri [(a.it, SV.vw (ritV x left 1)), (a.d2, SV.vw (a.dv i))] (vws a.X) [(a.l2, SV.ob ((listV (a.ls i)).mk' κ))]))
    exact ⟨s1, G, back (Af.hereX HX [0,1,2] [(0,0), (0,1), (0,2)]), Af.rel⟩
  | skip e h =>
    obtain ⟨na, s1, G, Af⟩ := h.go (base := base) (s := s) p rfl (HX.asksX hb hs [(0, none), (1, none)] a.X (ac no_ob (ac no_ob an)) (.inl rfl))
    have H1 : Here w false ([(a.it, ritV (x + 1) (left - 1) 1), (a.d2, a.dv (i + 1)), (a.l2, listV (a.ls i))] ++ a.X) [] s1 := Af.hereX HX [0,1] [(0,0), (0,1), (2,2)]
    rw [← e] at H1
    exact ⟨s1, G, back H1, (Rel.refl false _ _ s).within Af.rel (ac (.inl (.head _)) (ac (.inl (.tail _ (.head _))) an)) an (fun h => by cases h)⟩
noncomputable def CP.H (a : CP) : Hook := cpH a.ks a.CS (vws (a.st a.x0 (a.n : Nat) 0)) [(a.it, ritV (a.x0 + (a.n : Nat)) 0 1), (a.d2, a.dv a.n), (a.l2, listV (a.ls a.n))]
theorem cp_eff (w : World) (a : CP) (hS : Turn w (cpH a.ks a.CS [(a.it, .vw (ritV a.x0 (a.n : Nat) 1))] []) a.C) (hT : ∀ i left, i < a.n → 0 < left → a.Step w (a.x0 + (i : Nat)) left i)
    (hE : Eff w (cpH a.ks a.C [(a.it, .vw (ritV (a.x0 + (a.n : Nat)) 0 1))] [])) : Eff w a.H := eff_of fun base p s c hc A => by
  obtain rfl : c = _ := hc
  have H := asks_here A (L := a.st a.x0 (a.n : Nat) 0) (vws_tells _)
  have hs : Spine a.ks base := A.sp _ rfl
  have one : ∀ {x left : Int} {i : Nat} {s : Shared} (C : Code), Here w false (a.st x left i) [] s → Asks w (cpH a.ks C [(a.it, .vw (ritV x left 1))] []) base s := fun C H => H.asks A.bot (fun ks e => by cases e; exact hs) (fun h => by cases h) (fun q hq => by
    rw [List.mem_singleton.mp hq]
    exact .inl ⟨_, rfl, .head _⟩) (by show [a.it].Nodup; simp) (fun q hq => nomatch hq) List.nodup_nil
  have go : ∀ (d i : Nat), i + d = a.n → ∀ (s : Shared) (p : Pos), Here w false (a.st (a.x0 + (i : Nat)) (d : Nat) i) [] s →
      ∃ s', Reach (Mo pw w) base s (den a.C) a.C p [] s' (.ret (.ok .next)) ∧ Here w false (a.st (a.x0 + (a.n : Nat)) 0 a.n) [] s' ∧ Rel false [a.it, a.d2, a.l2] [] s s' := by
    intro d
    induction d with
    | zero =>
      intro i hi s p H
      obtain rfl : i = a.n := by omega
      obtain ⟨na, r', s', R, hr', Af⟩ := hE.go (base := base) (s := s) p rfl (one a.C H)
      obtain ⟨t, rfl⟩ := rv_mk hr'
      exact ⟨s', R, Af.here H (fun h => by cases h) (fun x hx => nomatch hx) (fun q hq => .inr (.inr ⟨hq, fun h => nomatch h⟩)) H.nd (fun q hq => nomatch hq) List.nodup_nil, (Rel.refl false _ _ s).within Af.rel (fun x hx => nomatch hx) (fun x hx => nomatch hx) (fun h => by cases h)⟩
    | succ d ih =>
      intro i hi s p H
      obtain ⟨s1, ⟨p', G⟩, H1, R1⟩ := cp_step (hT i _ (by omega) (show (0 : Int) < ((d + 1 : Nat) : Int) by omega)) A.bot hs p H
      rw [show ((d + 1 : Nat) : Int) - 1 = (d : Nat) by omega, show a.x0 + (i : Nat) + 1 = a.x0 + ((i + 1 : Nat) : Int) by omega] at H1
      obtain ⟨s', R, H', R'⟩ := ih (i + 1) (by omega) s1 p' H1
      exact ⟨s', G _ _ R, H', R1.trans R'⟩
  obtain ⟨na, s1, ⟨p', G⟩, Af⟩ := hS.go (base := base) (s := s) p rfl (one a.CS H)
  have H1 : Here w false (a.st a.x0 (a.n : Nat) 0) [] s1 := Af.here H (fun h => by cases h) (fun x hx => nomatch hx) (fun q hq => .inr (.inr ⟨hq, fun h => nomatch h⟩)) H.nd (fun q hq => nomatch hq) List.nodup_nil
  obtain ⟨s2, R, H2, R2⟩ := go a.n 0 (by omega) s1 p' (by rw [show a.x0 + ((0 : Nat) : Int) = a.x0 by omega]; exact H1)
  have R1 : Rel false [] [] s s1 := Af.rel
  refine ⟨fun _ => 0, _, s2, G _ _ R, rfl, after_of (((Rel.refl false _ _ s).within R1 (fun x hx => nomatch hx) (fun x hx => nomatch hx) (fun h => h)).trans R2) (fun x hx => hx) (fun g hg => nomatch hg) (fun q hq => ?_) rfl (fun h => by cases h) (fun q hq => nomatch hq)⟩
  change q ∈ [(a.it, ritV (a.x0 + (a.n : Nat)) 0 1), (a.d2, a.dv a.n), (a.l2, listV (a.ls a.n))] at hq
  simp only [List.mem_cons, List.not_mem_nil, or_false] at hq
  refine H2.cells _ ?_
  unfold CP.st
  rcases hq with rfl | rfl | rfl <;> simp
noncomputable def s_turn : Str := kS48
noncomputable def s_size : Str := kS46
noncomputable def dvN (s : Str) (x0 : Int) : Nat → OV
  | 0 => dictV []
  | i + 1 => dictV [(s, .int (x0 + (i : Nat)))]
noncomputable def caLs (S r P : Nat) : Nat → List VV
  | 0 => []
  | i + 1 => caLs S r P i ++ [.int (Int.fdiv ((S : Nat) * (0 + (i : Nat)) + (P : Nat)) (r : Nat))]
theorem caLs_len (S r P i : Nat) : (caLs S r P i).length = i := by
  induction i with
  | zero => rfl
  | succ i ih => unfold caLs; rw [List.length_append, ih]; rfl
noncomputable def caP (it l2 d2 fr c1 c2 c3 S r P : Nat) : CP := ⟨ksCR, caCL it l2 d2 fr c1 c2 c3, caCS it l2 d2 fr c1 c2 c3, it, d2, l2, [(c1, cellV (S : Nat)), (c2, cellV (r : Nat)), (c3, cellV (P : Nat))], r, 0, dvN s_turn 0, caLs S r P⟩
theorem e_ca (w : World) (it l2 d2 fr c1 c2 c3 S r P : Nat) (hS : S ≤ 1000) (hr : 1 ≤ r) (hr6 : r ≤ 1000) : Eff w (caP it l2 d2 fr c1 c2 c3 S r P).H := by
  refine cp_eff w _ ?_ (fun i left hi hl => ?_) ?_
  · cases hb : fl2 w with
    | true => exact caST_e w it l2 d2 fr c1 c2 c3 0 (r : Nat) hb
    | false => exact caSF_e w it l2 d2 fr c1 c2 c3 0 (r : Nat) hb
  · have hi : i < r := hi
    refine .full fun κ => ?_
    cases i with
    | zero => exact ca0_e w it l2 d2 fr c1 c2 c3 (0 + ((0 : Nat) : Int)) left (S : Nat) (r : Nat) (P : Nat) 0 (caLs S r P 0) κ hl (by omega) (by omega) (by omega) (by omega) (by rw [caLs_len]; omega)
    | succ i => exact ca1_e w it l2 d2 fr c1 c2 c3 (0 + ((i + 1 : Nat) : Int)) left (S : Nat) (r : Nat) (P : Nat) (0 + (i : Nat)) (caLs S r P (i + 1)) κ hl (by omega) (by omega) (by omega) (by omega) (by rw [caLs_len]; omega)
  · exact caE_e w it l2 d2 fr c1 c2 c3 (0 + (r : Nat))
noncomputable def cbS (r P i : Nat) : Str := rep 32 (Int.toNat ((r : Nat) * (0 + (i : Nat)) + (P : Nat))) ++ kS16
noncomputable def cbLs (r P : Nat) : Nat → List VV
  | 0 => []
  | i + 1 => cbLs r P i ++ [.str (cbS r P i)]
theorem cbLs_len (r P i : Nat) : (cbLs r P i).length = i := by
  induction i with
  | zero => rfl
  | succ i ih => unfold cbLs; rw [List.length_append, ih]; rfl
theorem cbS_len (r P i : Nat) : (cbS r P i).length = r * i + P + 1 := by
  show (_ ++ _ : Array Nat).size = _
  rw [Array.size_append]
  show (rep 32 _).length + 1 = _
  rw [rep_len]
  have : ((r : Nat) : Int) * (0 + (i : Nat)) = ((r * i : Nat) : Int) := by rw [Int.zero_add, Int.natCast_mul]
  rw [this]
  omega
noncomputable def cbP (it l2 d2 fr c2 c3 S r P : Nat) : CP := ⟨ksCR, cbCL it l2 d2 fr c2 c3, cbCS it l2 d2 fr c2 c3, it, d2, l2, [(c2, cellV (r : Nat)), (c3, cellV (P : Nat))], S, 0, dvN s_turn 0, cbLs r P⟩
theorem e_cb (w : World) (it l2 d2 fr c2 c3 S r P : Nat) (hS : S ≤ 100) (hr6 : r ≤ 100) (hP : P ≤ 100) : Eff w (cbP it l2 d2 fr c2 c3 S r P).H := by
  refine cp_eff w _ ?_ (fun i left hi hl => ?_) ?_
  · cases hb : fl2 w with
    | true => exact cbST_e w it l2 d2 fr c2 c3 0 (S : Nat) hb
    | false => exact cbSF_e w it l2 d2 fr c2 c3 0 (S : Nat) hb
  · have hi : i < S := hi
    refine .full fun κ => ?_
    have hm : r * i ≤ 100 * 100 := Nat.mul_le_mul hr6 (by omega)
    have he : ((r : Nat) : Int) * (0 + (i : Nat)) = ((r * i : Nat) : Int) := by rw [Int.zero_add, Int.natCast_mul]
    have hd : (cbS r P i).length ≤ 100000 := by rw [cbS_len]; omega
    cases i with
    | zero => exact cb0_e w it l2 d2 fr c2 c3 (0 + ((0 : Nat) : Int)) left (r : Nat) (P : Nat) 0 (cbLs r P 0) κ hl (by omega) (by omega) (by rw [he]; omega) (by rw [he]; omega) hd (by rw [cbLs_len]; omega)
    | succ i => exact cb1_e w it l2 d2 fr c2 c3 (0 + ((i + 1 : Nat) : Int)) left (r : Nat) (P : Nat) (0 + (i : Nat)) (cbLs r P (i + 1)) κ hl (by omega) (by omega) (by rw [he]; omega) (by rw [he]; omega) hd (by rw [cbLs_len]; omega)
  · exact cbE_e w it l2 d2 fr c2 c3 (0 + (S : Nat))
noncomputable def cdLs (S r : Nat) : Nat → List VV
  | 0 => []
  | i + 1 => if Int.fmod (S : Nat) (1 + (i : Nat)) = 0 ∧ Int.fmod (r : Nat) (1 + (i : Nat)) = 0 then cdLs S r i ++ [.int (1 + (i : Nat))] else cdLs S r i
theorem cdLs_len (S r i : Nat) : (cdLs S r i).length ≤ i := by
  induction i with
  | zero => exact Nat.le_refl _
  | succ i ih =>
    unfold cdLs
    split
    · rw [List.length_append]
      show _ + 1 ≤ _
      omega
    · omega
noncomputable def cdP (it l2 d2 fr c1 c2 S r : Nat) : CP := ⟨ksCL, cdCL it l2 d2 fr c1 c2, cdCS it l2 d2 fr c1 c2, it, d2, l2, [(c1, cellV (S : Nat)), (c2, cellV (r : Nat))], 6,1, dvN s_size 1, cdLs S r⟩
theorem e_cd (w : World) (it l2 d2 fr c1 c2 S r : Nat) : Eff w (cdP it l2 d2 fr c1 c2 S r).H := by
  refine cp_eff w _ ?_ (fun i left hi hl => ?_) ?_
  · cases hb : fl2 w with
    | true => exact cdST_e w it l2 d2 fr c1 c2 1 6 hb
    | false => exact cdSF_e w it l2 d2 fr c1 c2 1 6 hb
  · have hi : i < 6 := hi
    cases i with
    | zero =>
      refine .full fun κ => ?_
      have h1 : Int.fmod (S : Nat) (1 + ((0 : Nat) : Int)) = 0 := Int.fmod_one _
      have h2 : Int.fmod (r : Nat) (1 + ((0 : Nat) : Int)) = 0 := Int.fmod_one _
      have e : cdLs S r 1 = [.int (1 + ((0 : Nat) : Int))] := by
        unfold cdLs
        rw [if_pos ⟨h1, h2⟩]
        rfl
      show Turn w (cpH _ _ _ [_, _, (l2, listV (cdLs S r 1))]) _
      rw [e]
      exact cd0C_e w it l2 d2 fr c1 c2 (1 + ((0 : Nat) : Int)) left (S : Nat) (r : Nat) 0 [] κ hl (by omega) h1 h2 (by decide)
    | succ i =>
      by_cases h1 : Int.fmod (S : Nat) (1 + ((i + 1 : Nat) : Int)) = 0
      · by_cases h2 : Int.fmod (r : Nat) (1 + ((i + 1 : Nat) : Int)) = 0
        · refine .full fun κ => ?_
          have e : cdLs S r (i + 2) = cdLs S r (i + 1) ++ [.int (1 + ((i + 1 : Nat) : Int))] := by
            rw [cdLs, if_pos ⟨h1, h2⟩]
          show Turn w (cpH _ _ _ [_, _, (l2, listV (cdLs S r (i + 2)))]) _
          rw [e]
          exact cd1C_e w it l2 d2 fr c1 c2 (1 + ((i + 1 : Nat) : Int)) left (S : Nat) (r : Nat) (1 + (i : Nat)) (cdLs S r (i + 1)) κ hl (by omega) h1 h2 (by have := cdLs_len S r (i + 1); omega)
        · refine .skip (by show cdLs S r (i + 2) = _; rw [cdLs, if_neg fun h => h2 h.2]; rfl) ?_
          exact cd1B_e w it l2 d2 fr c1 c2 (1 + ((i + 1 : Nat) : Int)) left (S : Nat) (r : Nat) (1 + (i : Nat)) _ hl (by omega) h1 rfl (beq_eq_false_iff_ne.mpr h2)
      · refine .skip (by show cdLs S r (i + 2) = _; rw [cdLs, if_neg fun h => h1 h.1]; rfl) ?_
        exact cd1A_e w it l2 d2 fr c1 c2 (1 + ((i + 1 : Nat) : Int)) left (S : Nat) (r : Nat) (1 + (i : Nat)) _ hl (by omega) rfl (beq_eq_false_iff_ne.mpr h1)
  · exact cdE_e w it l2 d2 fr c1 c2 (1 + (6 : Nat))
noncomputable def mx1H (l : Nat) : Hook := ⟨false, .call (.bi "max") [.ref l], none, [(l, .vw ⟨.type "list", none, (.seq [.int 1])⟩)], fun na => .ret (.int 1), fun na => [], fun na => [], [], fun na => []⟩
theorem mx1_e (w : World) (l : Nat)  : Eff w (mx1H l) :=
  effW rfl (wd [16] [] [] 47 (dg 16 0x1444633233313444433233313432122) (T := (.v .nil))) (by kernel_rfl)
noncomputable def mx2H (l : Nat) : Hook := ⟨false, .call (.bi "max") [.ref l], none, [(l, .vw ⟨.type "list", none, (.seq [.int 1, .int 2])⟩)], fun na => .ret (.int 2), fun na => [], fun na => [], [], fun na => []⟩
theorem mx2_e (w : World) (l : Nat)  : Eff w (mx2H l) :=
  effW rfl (wd [16] [] [] 69 (dg 16 0x14446332333134444133233313444433233313432122) (T := (.v .nil))) (by kernel_rfl)
noncomputable def mx3H (l : Nat) : Hook := ⟨false, .call (.bi "max") [.ref l], none, [(l, .vw ⟨.type "list", none, (.seq [.int 1, .int 3])⟩)], fun na => .ret (.int 3), fun na => [], fun na => [], [], fun na => []⟩
theorem mx3_e (w : World) (l : Nat)  : Eff w (mx3H l) :=
  effW rfl (wd [16] [] [] 69 (dg 16 0x14446332333134444133233313444433233313432122) (T := (.v .nil))) (by kernel_rfl)
noncomputable def mx4H (l : Nat) : Hook := ⟨false, .call (.bi "max") [.ref l], none, [(l, .vw ⟨.type "list", none, (.seq [.int 1, .int 2, .int 4])⟩)], fun na => .ret (.int 4), fun na => [], fun na => [], [], fun na => []⟩
theorem mx4_e (w : World) (l : Nat)  : Eff w (mx4H l) :=
  effW rfl (wd [16] [] [] 91 (dg 16 0x144463323331344441332333134444133233313444433233313432122) (T := (.v .nil))) (by kernel_rfl)
noncomputable def mx5H (l : Nat) : Hook := ⟨false, .call (.bi "max") [.ref l], none, [(l, .vw ⟨.type "list", none, (.seq [.int 1, .int 5])⟩)], fun na => .ret (.int 5), fun na => [], fun na => [], [], fun na => []⟩
theorem mx5_e (w : World) (l : Nat)  : Eff w (mx5H l) :=
  effW rfl (wd [16] [] [] 69 (dg 16 0x14446332333134444133233313444433233313432122) (T := (.v .nil))) (by kernel_rfl)
noncomputable def mx6H (l : Nat) : Hook := ⟨false, .call (.bi "max") [.ref l], none, [(l, .vw ⟨.type "list", none, (.seq [.int 1, .int 2, .int 3, .int 6])⟩)], fun na => .ret (.int 6), fun na => [], fun na => [], [], fun na => []⟩
theorem mx6_e (w : World) (l : Nat)  : Eff w (mx6H l) :=
  effW rfl (wd [16] [] [] 113 (dg 16 0x1444633233313444413323331344441332333134444133233313444433233313432122) (T := (.v .nil))) (by kernel_rfl)
theorem runs_size {M : Model} {Γ : Ctx} {p : Pos} {t : Sem PySem.Fin} {fs : List Frame} {s s' : Shared} {e : End} (h : Runs M Γ p t fs s e s') : s.heap.objs.size ≤ s'.heap.objs.size := by
  induction h <;> (try simp only [Shared.setGen, Heap.size_push, Heap.size_after_update] at *) <;> omega
theorem after_kept {k : Hook} {s s' : Shared} (hu : ∀ na, k.upd na = []) (hn : ∀ na, k.news na = []) (hg : ∀ na, k.gupd na = []) (ht : k.tabs = false) (hk : ∀ b o, s.heap.get? b = some o → s'.heap.get? b = some o) (hgs : s'.gens = s.gens) (hd : s'.drawn = s.drawn) (ho : s'.os = s.os)
    (h1 : s.heap.objs.size ≤ s'.heap.objs.size) (h2 : s.toks ≤ s'.toks) : After k (fun _ => 0) s s' := by
  refine ⟨h1, fun b o e _ _ => hk b o e, fun q hq => ?_, fun i q hq => ?_, fun i j hi hj _ => ?_, fun h => ?_, h2, by rw [hgs]; exact Nat.le_refl _, fun g y e _ => by rw [hgs]; exact e, fun q hq => ?_, fun h => by rw [hgs]; exact h, hd, ho⟩
  · rw [hu] at hq; cases hq
  · rw [hn] at hq; simp at hq
  · rw [hn] at hi; exact absurd hi (Nat.not_lt_zero _)
  · rw [ht] at h; cases h
  · rw [hg] at hq; cases hq
theorem reach_of0 {w : World} {base : List Frame} {c : Code} {p : Pos} {s : Shared} {R : Result → Shared → Prop} (hb : Bot base) (h : ∀ A : Around, A.handled = none → codeAny (model pw w) A c R s) : ∃ r s', Reach (Mo pw w) base s (den c) c p [] s' (.ret r) ∧ (s.heap.objs.size ≤ s'.heap.objs.size ∧ s.toks ≤ s'.toks) ∧ R r s' := by
  obtain ⟨r, s', hr, hR⟩ := h ⟨none, frameCount (Ctx.of c base).below, none, none, unitsOf (Ctx.of c base).below⟩ rfl (Ctx.of c base) p rfl ⟨hb.1, Nat.le_refl _, fun _ h => (nomatch h), fun _ h => (nomatch h), Nat.le_refl _⟩
  have h1 := runs_size hr
  have h2 := Runs.toks_le hr
  rw [← Mo_eq] at hr
  exact ⟨r, s', runs_reach hr base (Ctx.fits_of ..), ⟨h1, h2⟩, hR⟩
noncomputable def sumH (l : Nat) (o : Obj) (tot : Int) : Hook := ⟨false, .call (.bi "sum") [.ref l], none, [(l, .ob o)], fun _ => .ret (.int tot), fun _ => [], fun _ => [], [], fun _ => []⟩
noncomputable def ipairs (k : Nat → Nat) : Nat → List Int → List (Int × Tok)
  | _, [] => []
  | i, v :: l => (v, k i) :: ipairs k (Nat.succ i) l
theorem ipairs_mk {k : Nat → Nat} : ∀ (l : List Int) (i : Nat), (ipairs k i l).map (fun q => Value.int q.1 q.2) = mkVs k i (l.map VV.int)
  | [], _ => rfl
  | v :: l, i => by unfold ipairs; rw [List.map_cons, ipairs_mk l]; rfl
theorem ipairs_fst {k : Nat → Nat} : ∀ (l : List Int) (i : Nat), (ipairs k i l).map (·.1) = l
  | [], _ => rfl
  | v :: l, i => by unfold ipairs; rw [List.map_cons, ipairs_fst l]
theorem e_sum (w : World) (l : Nat) (κ : TK) (vals : List Int) : Eff w (sumH l ((listV (vals.map .int)).mk' κ) vals.sum) := by
  intro base p s cc hcc hb _ _ _ hneed _ _ _ _
  obtain ⟨f, vs, rfl, hf, hv⟩ := hcc
  obtain rfl := vvf_bi hf
  obtain ⟨t, rfl⟩ := vvs1 hv
  obtain ⟨o, ho, rfl⟩ := hneed _ (.head _)
  have ho : s.heap.get? l = some ⟨.type "list", none, .seq ⟨mkVs κ.t 0 (vals.map .int)⟩ κ.e, #[]⟩ := ho
  have hl : s.heap.IsList l (intItems (ipairs κ.t 0 vals).toArray) := by
    have e : intItems (ipairs κ.t 0 vals).toArray = ⟨mkVs κ.t 0 (vals.map .int)⟩ := by
      apply Array.ext'
      show ((ipairs κ.t 0 vals).toArray.map _).toList = _
      rw [Array.toList_map]
      exact ipairs_mk vals 0
    rw [e]
    exact ⟨_, ho, rfl, κ.e, rfl⟩
  obtain ⟨r, s', R, m, h', tk, t', hk, rfl, rfl⟩ := reach_of0 (w := w) (p := p) (s := s) (c := .call (.builtin "sum") ⟨[.ref l], []⟩) (R := fun r s' => ∃ h' tk t', (∀ b o, s.heap.get? b = some o → h'.get? b = some o) ∧ r = .ok (.ret (.int vals.sum t')) ∧ s' = { s with heap := h', toks := tk }) hb (fun A hA => by
    refine codeAny_call_builtin F.plain_sum F.entry_sum ?_
    rw [show checkBuiltinCall "sum" ⟨[.ref l], []⟩ = pure () by kernel_rfl]
    refine wpAny_pure ?_
    unfold Builtin.«sum»
    simp only [List.length_cons, List.length_nil]
    rw [if_neg (by decide)]
    refine wpAny_bind (wpAny_of_eq (show Builtin.Builtins.bindParams "sum" ["start"] 0 { } = pure [none] from rfl) ?_)
    refine wpAny_bind (iter_intList hl fun s₂ e st hfp hlI => ?_)
    subst e
    refine wpAny_bind (wpAny_mkInt ?_)
    refine wpAny_bind (wpAny_pure ?_)
    simp only [List.forIn_cons, List.forIn_nil]
    refine wpAny_bind (wpAny_bind (wpAny_bind (wpAny_isInstance (T := "int") (b := false) (typeIs_int _ _ _) PySem.sub_int_str ?_)))
    simp only [Bool.false_eq_true, if_false]
    refine wpAny_pure (wpAny_bind (wpAny_bind (wpAny_isInstance (T := "int") (b := false) (typeIs_int _ _ _) PySem.sub_int_bytes ?_)))
    simp only [Bool.false_eq_true, if_false]
    refine wpAny_pure (wpAny_bind (wpAny_bind (wpAny_isInstance (T := "int") (b := false) (typeIs_int _ _ _) PySem.sub_int_bytearray ?_)))
    simp only [Bool.false_eq_true, if_false]
    refine wpAny_pure (wpAny_pure ?_)
    refine wpAny_bind (wpAny_newObj_type ?_)
    have W := Walks.list (prog := pw) (w := w) (A := A.in1) hA _ l hlI (intItems (ipairs κ.t 0 vals).toArray)
    refine wpAny_pure ⟨plainId_quiet F.plain_sum_loop _, codeAny_sum_loopG W (numAt (ipairs κ.t 0 vals).toArray) (fun _ _ => intItems_at) _ (fun hm => Nat.lt_irrefl _ (hfp _ hm)) _ 0 _ _ 0 0 (Or.inl rfl) rfl (Nat.zero_le _)
      (W.frame _ _ _ st fun b _ o e => Heap.get?_push_of_some _ e) (Heap.get?_push_size _ rfl) fun h' tk t' hk => ?_⟩
    refine ⟨h', tk, t', fun b o e => ?_, ?_, rfl⟩
    · have hb := Heap.lt_size e
      refine hk b o (fun hm => ?_) (fun hm => ?_) (Heap.get?_push_of_some _ (Heap.get?_push_of_some _ e))
      · rw [List.mem_singleton.mp hm] at hb
        exact Nat.lt_irrefl _ hb
      · have hm : b = (s.heap.push _).objs.size := hm
        rw [Heap.size_push] at hm
        rw [hm] at hb
        exact Nat.not_succ_le_self _ (Nat.le_of_lt hb)
    · rw [preSum_eq, List.take_of_length_le (by simp [intItems]), ipairs_fst])
  exact ⟨fun _ => 0, _, _, R, rfl, after_kept (fun _ => rfl) (fun _ => rfl) (fun _ => rfl) rfl hk rfl rfl rfl m.1 m.2⟩
noncomputable def lneH (a b : Nat) (t : Int) : Hook := ⟨false, .call (.bi "list.__ne__") [.ref a, .ref b], none, vws [(a, listV [.int t, .int t]), (b, listV [.int t, .int t])], fun _ => .ret (.bool false), fun _ => [], fun _ => [], [], fun _ => []⟩
theorem e_lne (w : World) (a b : Nat) (t : Int) : Eff w (lneH a b t) := by
  intro base p s cc hcc hb _ _ _ hneed _ _ _ _
  obtain ⟨f, vs, rfl, hf, hv⟩ := hcc
  obtain rfl := vvf_bi hf
  obtain ⟨x, y, rfl⟩ := vvs2 hv
  obtain ⟨o, ho, hov⟩ := hneed _ (.head _)
  obtain ⟨κ, rfl⟩ := ov_mk hov rfl
  obtain ⟨o, ho', hov⟩ := hneed _ (.tail _ (.head _))
  obtain ⟨κ', rfl⟩ := ov_mk hov rfl
  have ho : s.heap.get? a = some ⟨.type "list", none, .seq #[.int t (κ.t 0), .int t (κ.t 1)] κ.e, #[]⟩ := ho
  have ho' : s.heap.get? b = some ⟨.type "list", none, .seq #[.int t (κ'.t 0), .int t (κ'.t 1)] κ'.e, #[]⟩ := ho'
  have he : ∀ (A : Around) (s : Shared) (j : Nat) (h1 : j < #[Value.int t (κ.t 0), .int t (κ.t 1)].size) (h2 : j < #[Value.int t (κ'.t 0), .int t (κ'.t 1)].size), SeqAt.EqAt A s #[Value.int t (κ.t 0), .int t (κ.t 1)][j] #[Value.int t (κ'.t 0), .int t (κ'.t 1)][j] true := fun A s j h1 h2 => by
    have e : (t == t) = true := beq_self_eq_true t
    match j, h1, h2 with
    | 0, _, _ => intro prog w E Q hQ; exact wpAny_eqBool_int (by rw [e]; exact hQ)
    | 1, _, _ => intro prog w E Q hQ; exact wpAny_eqBool_int (by rw [e]; exact hQ)
  obtain ⟨rr, s', R, rfl, rfl⟩ := meets_reach (w := w) (p := p) (s := s) (self := .ref a) (rest := [.ref b]) (R := fun rr s' => rr = .ok (.ret (.bool false)) ∧ s' = { s with toks := s.toks }) hb F.slot_list_ne ⟨_, ho, rfl⟩ F.entry_list_ne (F.args_list_ne_2 _ _)
    (SeqAt.list_neAt a b #[.int t (κ.t 0), .int t (κ.t 1)] #[.int t (κ'.t 0), .int t (κ'.t 1)] κ.e κ'.e none none #[] #[] rfl fun _ => true) (fun A => ⟨ho, ho', fun j h1 h2 => he _ _ j h1 h2, rfl, rfl⟩)
  exact ⟨fun _ => 0, _, _, R, rfl, after_same rfl rfl rfl rfl (Nat.le_refl _)⟩
noncomputable def cdGH (it l2 d2 fr c1 c2 : Nat) (S r x de : Int) (ls : List VV) : Hook := cpH ksCL (cdCS it l2 d2 fr c1 c2) (vws [(it, ritV 1 6 1), (d2, dictV []), (c1, cellV S), (c2, cellV r), (l2, listV [])]) [(it, ritV x 0 1), (d2, dictV [(s_size, .int de)]), (l2, listV ls)]
noncomputable def caGH (it l2 d2 fr c1 c2 c3 : Nat) (S r P x de : Int) (ls : List VV) : Hook := cpH ksCR (caCS it l2 d2 fr c1 c2 c3) (vws [(it, ritV 0 r 1), (d2, dictV []), (c1, cellV S), (c2, cellV r), (c3, cellV P), (l2, listV [])]) [(it, ritV x 0 1), (d2, dictV [(s_turn, .int de)]), (l2, listV ls)]
noncomputable def cbGH (it l2 d2 fr c2 c3 : Nat) (S r P x de : Int) (ls : List VV) : Hook := cpH ksCR (cbCS it l2 d2 fr c2 c3) (vws [(it, ritV 0 S 1), (d2, dictV []), (c2, cellV r), (c3, cellV P), (l2, listV [])]) [(it, ritV x 0 1), (d2, dictV [(s_turn, .int de)]), (l2, listV ls)]
noncomputable def mxH (l : Nat) (o : Obj) (g : Int) : Hook := ⟨false, .call (.bi "max") [.ref l], none, [(l, .ob o)], fun _ => .ret (.int g), fun _ => [], fun _ => [], [], fun _ => []⟩
theorem eff_ob {w : World} {c : HC} {ks : Option (List Kd)} {l : Nat} {v : OV} {κ : TK} {r : RV} (h : Eff w ⟨false, c, ks, [(l, .vw v)], fun _ => r, fun _ => [], fun _ => [], [], fun _ => []⟩) : Eff w ⟨false, c, ks, [(l, .ob (v.mk' κ))], fun _ => r, fun _ => [], fun _ => [], [], fun _ => []⟩ := eff_of fun base p s cc hc A => by
  obtain ⟨o, ho, rfl⟩ := A.need _ (.head _)
  obtain ⟨na, r', s', R, hr, Af⟩ := h base p s cc hc A.bot A.sp A.kt A.tbl (fun q hq => by
    rw [List.mem_singleton.mp hq]
    exact ⟨_, ho, ov_of_mk ..⟩) A.nd (fun q hq => by
    rw [List.mem_singleton.mp hq]
    exact A.high (l, .ob (v.mk' κ)) (.head _)) A.gens A.gnd
  exact ⟨na, r', s', R, hr, Af.size, Af.keep, Af.upd, Af.new, Af.nand, Af.tbl, Af.toks, Af.gsize, Af.gkeep, Af.gupd, Af.bare, Af.drawn, Af.os⟩
theorem e_cd' (w : World) (S r : Nat) (it l2 d2 fr c1 c2 : Nat) : Eff w (cdGH it l2 d2 fr c1 c2 (S : Nat) (r : Nat) 7 6 (cdLs S r 6)) := e_cd w it l2 d2 fr c1 c2 S r
theorem e_ca' (w : World) (S r P : Nat) (hS : S ≤ 1000) (hr : 1 ≤ r) (hr6 : r ≤ 1000) (it l2 d2 fr c1 c2 c3 : Nat) : Eff w (caGH it l2 d2 fr c1 c2 c3 (S : Nat) (r : Nat) (P : Nat) (r : Nat) ((r : Nat) - 1) (caLs S r P r)) := by
  have h := e_ca w it l2 d2 fr c1 c2 c3 S r P hS hr hr6
  obtain ⟨n, rfl⟩ : ∃ n, r = n + 1 := ⟨r - 1, by omega⟩
  have e : (caP it l2 d2 fr c1 c2 c3 S (n + 1) P).H = caGH it l2 d2 fr c1 c2 c3 (S : Nat) (n + 1 : Nat) (P : Nat) (0 + (n + 1 : Nat)) (0 + (n : Nat)) (caLs S (n + 1) P (n + 1)) := rfl
  rw [e] at h
  rw [show (0 : Int) + ((n + 1 : Nat) : Int) = ((n + 1 : Nat) : Int) by omega, show (0 : Int) + (n : Nat) = ((n + 1 : Nat) : Int) - 1 by omega] at h
  exact h
theorem e_cb' (w : World) (S r P : Nat) (hS1 : 1 ≤ S) (hS : S ≤ 100) (hr6 : r ≤ 100) (hP : P ≤ 100) (it l2 d2 fr c2 c3 : Nat) : Eff w (cbGH it l2 d2 fr c2 c3 (S : Nat) (r : Nat) (P : Nat) (S : Nat) ((S : Nat) - 1) (cbLs r P S)) := by
  have h := e_cb w it l2 d2 fr c2 c3 S r P hS hr6 hP
  obtain ⟨n, rfl⟩ : ∃ n, S = n + 1 := ⟨S - 1, by omega⟩
  have e : (cbP it l2 d2 fr c2 c3 (n + 1) r P).H = cbGH it l2 d2 fr c2 c3 (n + 1 : Nat) (r : Nat) (P : Nat) (0 + (n + 1 : Nat)) (0 + (n : Nat)) (cbLs r P (n + 1)) := rfl
  rw [e] at h
  rw [show (0 : Int) + ((n + 1 : Nat) : Int) = ((n + 1 : Nat) : Int) by omega, show (0 : Int) + (n : Nat) = ((n + 1 : Nat) : Int) - 1 by omega] at h
  exact h
noncomputable def rpH (step room place x de g : Int) (ls : List VV) : Hook := ⟨false, .call (.ref 304) [.int step, .int room, .int place], (some ksCR), [], fun na => .ret (.str ((((kS51 ++ (rep 34 (Int.toNat (((step - 1) * (room - 1) + g - 1 + 2 * g * Int.fdiv place g)))))) ++ kS56))), fun na => [], fun na => [], [], fun na => []⟩
theorem rp_e (w : World) (step room place x de g : Int) (ls : List VV) (hst : 1 ≤ step ∧ step ≤ 100) (hrm : 1 ≤ room ∧ room ≤ 100) (hg : 1 ≤ g ∧ g ≤ 6) (hm0 : 0 ≤ (step - 1) * (room - 1) + g - 1 + 2 * g * Int.fdiv place g) (hm1 : (step - 1) * (room - 1) + g - 1 + 2 * g * Int.fdiv place g ≤ 100000) (hl1 : (kS51 ++ (rep 34 (Int.toNat ((step - 1) * (room - 1) + g - 1 + 2 * g * Int.fdiv place g)))).length ≤ 100000) (hl2 : ((kS51 ++ (rep 34 (Int.toNat ((step - 1) * (room - 1) + g - 1 + 2 * g * Int.fdiv place g)))) ++ kS56).length ≤ 100000) (hcd : ∀ it l2 d2 fr c1 c2 : Nat, Eff w (cdGH it l2 d2 fr c1 c2 step room x de ls)) (hmx : ∀ (l : Nat) (κ : TK), Eff w (mxH l (OV.mk' (listV ls) κ) g)) : Eff w (rpH step room place x de g ls) :=
  effW rfl (wd [28,1,1,1,1,1,1,1,1,1] [] [] 150 (dg 16 0x1000122210022021120141322088806555515555155111111122443311) (fun e _ A G => [.q (h := cdGH (A 4) (A 5) (A 6) (A 0) (A 1) (A 2) step room x de ls) (fun f => hcd _ _ _ _ _ _) [4,6,1,2,5] [4,6,5] [] [], .q (h := mxH (A 5) (OV.mk' (listV ls) ((e.τ 0).u 2)) g) (fun f => hmx _ _) [5] [] [] [], p0 (e_mul w ((step - 1)) ((room - 1)) (by first | assumption | omega) (by first | assumption | omega)), p0 (e_mul w 2 g (by first | assumption | omega) (by first | assumption | omega)), p0 (e_fdiv w place g (by first | assumption | omega) (by first | assumption | omega)), p0 (e_mul w ((2 * g)) ((Int.fdiv place g)) (by first | assumption | omega) (by first | assumption | omega)), p0 (e_smul w 34 (((step - 1) * (room - 1) + g - 1 + 2 * g * Int.fdiv place g)) (by first | assumption | omega) (by first | assumption | omega)), p0 (e_sadd w kS51 (rep 34 (Int.toNat (((step - 1) * (room - 1) + g - 1 + 2 * g * Int.fdiv place g)))) (by assumption)), p0 (e_sadd w ((kS51 ++ (rep 34 (Int.toNat (((step - 1) * (room - 1) + g - 1 + 2 * g * Int.fdiv place g)))))) kS56 (by assumption))])) (by kernel_rfl)
noncomputable def lwE (fr c1 c2 c3 : Nat) : Env := envF (stm 20) fr [(s_place, c3), (s_room, c2), (s_step, c1)] (strOf "law.<locals>.") 316 315
noncomputable def lwF (it fr c1 c2 c3 : Nat) : Code := forC (sub 20 4) (.ref it) (lwE fr c1 c2 c3)
noncomputable def lwC (fr c1 c2 c3 : Nat) : Code := .func (inner (stm 20)) (lwE fr c1 c2 c3)
noncomputable def ksLW (fr c1 c2 c3 : Nat) : List Kd := [.cd (lwC fr c1 c2 c3), .bi "claim.caller"]
noncomputable def ksRF (it fr c1 c2 c3 : Nat) : List Kd := [.cd (lwF it fr c1 c2 c3), .cd (lwC fr c1 c2 c3), .bi "claim.caller"]
noncomputable def rfE (rfr : Nat) : Env := envF (stm 19) rfr [] (strOf "_law_refused.<locals>.") 311 310
noncomputable def ksPR (it fr c1 c2 c3 rfr : Nat) : List Kd := .cd (.func (inner (stm 19)) (rfE rfr)) :: ksRF it fr c1 c2 c3
noncomputable def ksTp : List Kd := [.bi "claim.caller"]
noncomputable def lwK (fr c1 c2 c3 : Nat) : List Kd := .fo :: ksLW fr c1 c2 c3
noncomputable def kH (k : Hook) (ks : List Kd) : Hook := ⟨k.tabs, k.c, some ks, k.need, k.r, k.upd, k.news, k.gneed, k.gupd⟩
theorem eff_ks {w : World} {k : Hook} {ks : List Kd} (h : Eff w k) (hs : ∀ base, Spine ks base → ∀ l, k.ks = some l → Spine l base) : Eff w (kH k ks) := eff_of fun base p s c hc A => by
  obtain ⟨na, r, s', R, hr, Af⟩ := h base p s c hc A.bot (fun l hl => hs base (A.sp _ rfl) l hl) A.kt A.tbl A.need A.nd A.high A.gens A.gnd
  exact ⟨na, r, s', R, hr, Af.size, Af.keep, Af.upd, Af.new, Af.nand, Af.tbl, Af.toks, Af.gsize, Af.gkeep, Af.gupd, Af.bare, Af.drawn, Af.os⟩
theorem sp_cr {fr c1 c2 c3 : Nat} {base : List Frame} (h : Spine (lwK fr c1 c2 c3) base) : Spine ksCR base := by
  obtain ⟨c, h⟩ := h
  exact ⟨fun i => match i with | 0 => c 0 | 1 => { c 1 with b := inner (stm 20), e := lwE fr c1 c2 c3 } | n => c n, h⟩
theorem sp_wi {fr c1 c2 c3 : Nat} {base : List Frame} (h : Spine (.biR "type.__call__" :: lwK fr c1 c2 c3) base) : Spine ksWI base := by
  obtain ⟨c, h⟩ := h
  exact ⟨fun i => match i with | 0 => c 0 | 1 => c 1 | 2 => { c 2 with b := inner (stm 20), e := lwE fr c1 c2 c3 } | n => c n, h⟩
theorem sp_code {ks : List Kd} {f : Frame} {base : List Frame} {cc : Code} (h : Spine ks base) (hc : f.where_.1 = cc) : Spine (.cd cc :: ks) (f :: base) := by
  obtain ⟨c, h⟩ := h
  refine ⟨fun i => match i with | 0 => { c 0 with q := f.where_.2 } | i + 1 => c i, ?_⟩
  show f.where_ :: base.map Frame.where_ = (cc, f.where_.2) :: buildW ks _ 1
  have e : ∀ (ks : List Kd) (i : Nat) (c' : Nat → Cp), (∀ j, i ≤ j → c' (j + 1) = c j) → buildW ks c' (i + 1) = buildW ks c i := fun ks => by
    induction ks with
    | nil => intro i c' _; rfl
    | cons k ks ih =>
      intro i c' hj
      show k.mk (c' (i + 1)) :: buildW ks c' (i + 1 + 1) = k.mk (c i) :: buildW ks c (i + 1)
      rw [hj i (Nat.le_refl _), ih (i + 1) c' fun j h => hj j (by omega)]
  rw [e ks 0 _ fun j _ => rfl, h, ← hc]
noncomputable def pureK (t : Bool) (f : VV) (args : List VV) (ks : List Kd) (v : VV) : Hook := ⟨t, .call f args, some ks, [], fun _ => .ret v, fun _ => [], fun _ => [], [], fun _ => []⟩
noncomputable def wiG (se sd : Nat) (x : Str) (b n nt : Int) (sm : Bool) (vals : List VV) (ks : List Kd) : Hook := ⟨false, .call (.ref 238) [.ref se, .str x], some ks, vws [(se, wsSelf sd), (sd, dictV [])], fun _ => .ret .none, fun na => [(sd, dictV [(s_raw, .str x), (s_n, .int n), (s_nt, .int nt), (s_norm, .ref (na 0)), (s_simple, .bool sm)])], fun na => [tupV [.ref (na 1), .int b], tupV vals], [], fun _ => []⟩
noncomputable def idG (se sd no tu : Nat) (step : Int) (x : Str) (b n nt : Int) (sm : Bool) (o : Obj) (v : Int) (ks : List Kd) : Hook := ⟨false, .call (.ref 252) [.ref se, .int step], some ks, [(se, .vw (wsSelf sd)), (sd, .vw (idD x n nt no sm)), (no, .vw (tupV [.ref tu, .int b])), (tu, .ob o)], fun _ => .ret (.int v), fun _ => [], fun _ => [], [], fun _ => []⟩
noncomputable def jnG (l : Nat) (o : Obj) (x : Str) : Hook := ⟨false, .call (.bi "str.join") [.str uE, .ref l], none, [(l, .ob o)], fun _ => .ret (.str x), fun _ => [], fun _ => [], [], fun _ => []⟩
noncomputable def lwSl (c1 c2 c3 : Nat) : List (Option SL) := [some (.ref 3), none, some .ni, none, some (.ref 316), some (.ref 0), some (.ref c3), some (.ref c2), some (.ref c1)]
structure C4 (α : Type) where
  f3 : α → Sem Unit
  f2 : Unit → Sem Unit
  f1 : Unit → Sem Flow
  f0 : Flow → Sem PySem.Fin
noncomputable def C4.on {α : Type} (F : C4 α) (m : Sem α) : Sem PySem.Fin := R.bindR (R.bindR (R.bindR (R.bindR m F.f3) F.f2) F.f1) F.f0
structure C5 (α : Type) where
  f3 : α → Sem Unit
  f2 : Unit → Sem Flow
  f1 : Flow → Sem Flow
  h : Value → Sem Unit
  f0 : Flow → Sem PySem.Fin
noncomputable def C5.on {α : Type} (F : C5 α) (m : Sem α) : Sem PySem.Fin := R.bindR (R.onRaiseR (R.bindR (R.bindR (R.bindR m F.f3) F.f2) F.f1) F.h) F.f0
noncomputable def envsOf (L : List (Code × Pos)) : List Env := List.filterMap (fun x => x.fst.env?) (R.filterR (fun x => x.fst.isFrame) L)
noncomputable def fAt (env : Env) (L : List (Code × Pos)) : Sem Value := R.bindR (Fast.tw10665104254819526710 (env :: envsOf L)) fun r => match r with
  | some f => pure f
  | none => unsupported "internal:frame-not-on-the-stack"
theorem f_at (c : Code) (p : Pos) (env : Env) (L : List (Code × Pos)) (hf : c.isFrame = true) (he : c.env? = some env) : stA (Fast.tw597062882220602849 env) ((c, p) :: L) = fAt env L := by
  have h : stA (Fast.tw597062882220602849 env) ((c, p) :: L) = R.bindR (Fast.tw10665104254819526710 (List.dropWhile (fun x => x.frame != env.frame) (List.filterMap (fun x => x.fst.env?) (R.filterR (fun x => x.fst.isFrame) ((c, p) :: L))))) fun r => match r with
      | some f => pure f
      | none => unsupported "internal:frame-not-on-the-stack" := rfl
  rw [h]
  have e1 : R.filterR (fun x : Code × Pos => x.fst.isFrame) ((c, p) :: L) = (c, p) :: R.filterR (fun x => x.fst.isFrame) L := by
    show @Bool.rec (fun _ => List (Code × Pos)) _ _ c.isFrame = _
    rw [hf]
    rfl
  have e2 : List.filterMap (fun x : Code × Pos => x.fst.env?) ((c, p) :: R.filterR (fun x => x.fst.isFrame) L) = env :: envsOf L := by
    rw [List.filterMap_cons]
    dsimp only
    rw [he]
    rfl
  rw [e1, e2, List.dropWhile_cons_of_neg (by simp)]
  rfl
noncomputable def idAt (x : Code × Pos) : Option String := match x.1 with
  | .builtin id _ => some id
  | _ => none
noncomputable def cellsTop (b : Bool) (L : List (Code × Pos)) : List Value :=
  let ids := @Fast.tw7723801398212525404 String (@instBEqOfDecidableEq String S.strDecS) (List.filterMap idAt L)
  [if (Fast.tw2947500364327052199 ids).length > sizeLine then Value.none else Value.str (Fast.tw2947500364327052199 ids) 0, Value.bool b]
noncomputable def pAt (b : Bool) (p : Pos) (L : List (Code × Pos)) : Sem (List Value) := pure (if (p.line == 0) = true then [] else rawInt p.line :: rawInt p.endLine :: rawInt p.col :: rawInt p.endCol :: cellsTop b L)
theorem p_at (c : Code) (p : Pos) (env : Env) (f : Addr) (b : Bool) (L : List (Code × Pos)) (hf : c.isFrame = true) (he : c.env? = some env) (hr : env.frame = some f) : stA (Fast.tw17431863860829184973 f b) ((c, p) :: L) = pAt b p L := by
  have hh : (c.env?.bind fun x => x.frame) = some f := by rw [he]; exact hr
  have e1 : R.findR (fun (x : Code × Pos) => match x with | (c, _) => (c.env?.bind fun x => x.frame) == some f) ((c, p) :: L) = some (c, p) := by
    show @Bool.rec (fun _ => Option (Code × Pos)) _ _ ((c.env?.bind fun x => x.frame) == some f) = _
    rw [hh, beq_self_eq_true]
  have h : stA (Fast.tw17431863860829184973 f b) ((c, p) :: L) = (match R.findR (fun (x : Code × Pos) => match x with | (c, _) => (c.env?.bind fun x => x.frame) == some f) ((c, p) :: L) with
    | some (_, pos) => pure (if (pos.line == 0) = true then [] else [rawInt ↑pos.line, rawInt ↑pos.endLine, rawInt ↑pos.col, rawInt ↑pos.endCol] ++ Fast.tw10967294825066124259 f b ((c, p) :: L))
    | none => pure []) := rfl
  rw [h, e1]
  have e2 : Fast.tw10967294825066124259 f b ((c, p) :: L) = cellsTop b L := by
    unfold Fast.tw10967294825066124259 Fast.tw3625924680344080684
    rw [List.dropWhile_cons_of_neg (by dsimp only; rw [hf, hh]; simp)]
    dsimp only
    have e3 : ∀ g : Code × Pos → Option String, (∀ c q, g (c, q) = idAt (c, q)) → List.filterMap g L = List.filterMap idAt L := fun g hg => by
      rw [show g = idAt from funext fun x => hg x.1 x.2]
    rw [e3 _ fun c q => by cases c <;> rfl]
    rfl
  rw [e2]
  rfl
noncomputable def ksPR0 : List Kd := [.func, .fo, .func, .bi "claim.caller"]
noncomputable def ksER : List Kd := [.func, .func, .fo, .func, .bi "claim.caller"]
noncomputable def pr1H (x : Str) : Hook := ⟨false, .call (.ref 221) [.str x], (some ksPR0), [], fun na => .next, fun na => [], fun na => [⟨.type "frame", none, (.dict [(kS21, .str x)])⟩], [], fun na => []⟩
noncomputable def pr1D (w : World) (x : Str) (hx : x.length ≤ 100000) (hne : ((sliceS x none (some 3)).cps.toList != kS10.cps.toList) = true) : WD w (pr1H x) := wd [8,1,1] [] [0] 30 (dg 16 0x1112100212211) (fun e _ A G => [p1 (e_sslice w x (A 1) none (some 3) (by assumption)) [1], p0 (e_sne w (sliceS x none (some 3)) kS10 (by assumption))]) (x := fun e A G => [(e.κ 0)])
noncomputable def pr1A (e : Amb) (x : Str) : Nat → Nat := nA [8,1,1] [0] e fun A G => [(e.κ 0)]
theorem pr1_e (w : World) (x : Str) (hx : x.length ≤ 100000) (hne : ((sliceS x none (some 3)).cps.toList != kS10.cps.toList) = true) : CallW w (pr1H x) (fun na => .call (.ref 212) ⟨[.str x (na 1)], []⟩) .func (fun e W => (pr1D w x hx hne).R (fl1 w) (fl2 w) e W) (fun e _ => pr1A e x) :=
  callW rfl (pr1D w x hx hne) (by kernel_rfl)
noncomputable def erH (x : Str) : Hook := ⟨false, .call (.ref 212) [.str x], (some ksER), [], fun na => .ret (.ref (na 0)), fun na => [], fun na => [⟨.ref 212, none, (.fields [.ref (na 1), .none, .none, .none, .bool false, .none])⟩, ⟨.type "tuple", none, (.seq [.str x])⟩], [], fun na => []⟩
theorem er_e (w : World) (x : Str)  : Eff w (erH x) :=
  effW rfl (wd [12] [] [1,2] 51 (dg 16 0x13331313111111313111111111111111111111111)) (by kernel_rfl)
noncomputable def pr20H (e1 : Amb) (x : Str) (it fr c1 c2 c3 sc dr le rfr exc tup : Nat) (t : Int) (y : Str) : Hook := ⟨false, .call (.ref 221) [.str x], (some (ksPR it fr c1 c2 c3 rfr)), [((pr1A e1 x 0), .vw ⟨.type "frame", none, (.dict [(kS21, .str x)])⟩), (rfr, .vw ⟨.type "frame", none, (.dict [(kS30, .str x)])⟩), (fr, .vw ⟨.type "frame", none, (.dict [(kS24, .ref sc), (kS25, .ref dr), (kS49, .int t), (kS50, .ref le), (kS30, .str y)])⟩), (exc, .vw ⟨.ref 212, none, (.fields [.ref tup, .none, .none, .none, .bool false, .none])⟩)], fun na => .err (.ref exc), fun na => [((pr1A e1 x 0), ⟨.type "frame", none, (.fr [(kS21, .str x)] (some (.ref 220)) [(some (.ref 3)), none, (some (.ref rfr)), none, (some (.ref 221)), (some (.ref 0))])⟩), (rfr, ⟨.type "frame", none, (.fr [(kS30, .str x)] (some (.ref 310)) [(some (.ref 3)), none, (some (.ref fr)), none, (some (.ref 311)), (some (.ref 0))])⟩), (fr, ⟨.type "frame", none, (.fr [(kS24, .ref sc), (kS25, .ref dr), (kS49, .int t), (kS50, .ref le), (kS30, .str y)] (some (.ref 315)) [(some (.ref 3)), none, (some .ni), none, (some (.ref 316)), (some (.ref 0)), (some (.ref c3)), (some (.ref c2)), (some (.ref c1))])⟩), (exc, ⟨.ref 212, none, (.fields [.ref tup, .ref (na 0), .none, .none, .bool false, .none])⟩)], fun na => [⟨.type "traceback", none, (.fields [.none, .ref (pr1A e1 x 0), .none, .none, .none, .int 130, .int 130, .int 8, .int 31, .str kS52, .bool false])⟩], [], fun na => []⟩
noncomputable abbrev pr20R0 (w : World) (b1 b2 : Bool) (e : Amb) (cp : Nat → Cp) (e1 : Amb) (x : Str) (it fr c1 c2 c3 sc dr le rfr exc tup : Nat) (t : Int) (y : Str) (hx : x.length ≤ 100000) (hne : ((sliceS x none (some 3)).cps.toList != kS10.cps.toList) = true) := (wd [] [] [] 11 (dg 16 0x155155155) (T := (.v (.v (.v (.v .nil))))) : WD w (pr20H e1 x it fr c1 c2 c3 sc dr le rfr exc tup t y)).F (b2 := b2) b1 e (buildW (ksPR it fr c1 c2 c3 rfr) cp 0) ((pr1D w x hx hne).R b1 b2 e1 (buildW (ksPR it fr c1 c2 c3 rfr) cp 0)) (.ok (.ret (.ref exc)))
noncomputable def pr20C0 (w : World) (b1 b2 : Bool) (e : Amb) (cp : Nat → Cp) (e1 : Amb) (x : Str) (it fr c1 c2 c3 sc dr le rfr exc tup : Nat) (t : Int) (y : Str) (hx : x.length ≤ 100000) (hne : ((sliceS x none (some 3)).cps.toList != kS10.cps.toList) = true) : { F : C4 Value // tOf (pr20R0 w b1 b2 e cp e1 x it fr c1 c2 c3 sc dr le rfr exc tup t y hx hne) = Sem.stack (fun l => F.on (stA (Fast.tw597062882220602849 (pxE (pr1A e1 x 0))) l)) } := by
  cases b1 <;> with_unfolding_all exact ⟨⟨_, _, _, _⟩, rfl⟩
theorem pr20K0 (w : World) (b1 b2 : Bool) (e : Amb) (cp : Nat → Cp) (e1 : Amb) (x : Str) (it fr c1 c2 c3 sc dr le rfr exc tup : Nat) (t : Int) (y : Str) (hx : x.length ≤ 100000) (hne : ((sliceS x none (some 3)).cps.toList != kS10.cps.toList) = true) : (outOf (pr20R0 w b1 b2 e cp e1 x it fr c1 c2 c3 sc dr le rfr exc tup t y hx hne)).c = .func (inner (stm 12)) (pxE (pr1A e1 x 0)) := by
  cases b1 <;> kernel_rfl
noncomputable def pr20T0 (w : World) (b1 b2 : Bool) (e : Amb) (cp : Nat → Cp) (e1 : Amb) (x : Str) (it fr c1 c2 c3 sc dr le rfr exc tup : Nat) (t : Int) (y : Str) (hx : x.length ≤ 100000) (hne : ((sliceS x none (some 3)).cps.toList != kS10.cps.toList) = true) : Sem PySem.Fin := stA (tOf (pr20R0 w b1 b2 e cp e1 x it fr c1 c2 c3 sc dr le rfr exc tup t y hx hne)) (((outOf (pr20R0 w b1 b2 e cp e1 x it fr c1 c2 c3 sc dr le rfr exc tup t y hx hne)).c, (outOf (pr20R0 w b1 b2 e cp e1 x it fr c1 c2 c3 sc dr le rfr exc tup t y hx hne)).p) :: (buildW (ksPR it fr c1 c2 c3 rfr) cp 0))
noncomputable def pr20T0' (w : World) (b1 b2 : Bool) (e : Amb) (cp : Nat → Cp) (e1 : Amb) (x : Str) (it fr c1 c2 c3 sc dr le rfr exc tup : Nat) (t : Int) (y : Str) (hx : x.length ≤ 100000) (hne : ((sliceS x none (some 3)).cps.toList != kS10.cps.toList) = true) : Sem PySem.Fin := (pr20C0 w b1 b2 e cp e1 x it fr c1 c2 c3 sc dr le rfr exc tup t y hx hne).1.on (fAt (pxE (pr1A e1 x 0)) (buildW (ksPR it fr c1 c2 c3 rfr) cp 0))
theorem pr20_same0 (w : World) (b1 b2 : Bool) (e : Amb) (cp : Nat → Cp) (e1 : Amb) (x : Str) (it fr c1 c2 c3 sc dr le rfr exc tup : Nat) (t : Int) (y : Str) (hx : x.length ≤ 100000) (hne : ((sliceS x none (some 3)).cps.toList != kS10.cps.toList) = true) : pr20T0 w b1 b2 e cp e1 x it fr c1 c2 c3 sc dr le rfr exc tup t y hx hne = pr20T0' w b1 b2 e cp e1 x it fr c1 c2 c3 sc dr le rfr exc tup t y hx hne := by
  unfold pr20T0 pr20T0'
  generalize pr20C0 w b1 b2 e cp e1 x it fr c1 c2 c3 sc dr le rfr exc tup t y hx hne = G
  obtain ⟨F, h⟩ := G
  dsimp only
  rw [h, pr20K0]
  exact congrArg F.on (f_at _ _ _ _ rfl rfl)
noncomputable abbrev pr20R1 (w : World) (b1 b2 : Bool) (e : Amb) (cp : Nat → Cp) (e1 : Amb) (x : Str) (it fr c1 c2 c3 sc dr le rfr exc tup : Nat) (t : Int) (y : Str) (hx : x.length ≤ 100000) (hne : ((sliceS x none (some 3)).cps.toList != kS10.cps.toList) = true) := (wdA [3] [] [] 20 (dg 16 0x1443322055155155) (fun b1 b2 e W A G => [.s 1 (t' := pr20T0' w b1 b2 (e0 e) cp e1 x it fr c1 c2 c3 sc dr le rfr exc tup t y hx hne) (fun _ => pr20_same0 w b1 b2 (e0 e) cp e1 x it fr c1 c2 c3 sc dr le rfr exc tup t y hx hne)]) (T := (.v (.v (.v (.v .nil))))) : WD w (pr20H e1 x it fr c1 c2 c3 sc dr le rfr exc tup t y)).F (b2 := b2) b1 e (buildW (ksPR it fr c1 c2 c3 rfr) cp 0) ((pr1D w x hx hne).R b1 b2 e1 (buildW (ksPR it fr c1 c2 c3 rfr) cp 0)) (.ok (.ret (.ref exc)))
noncomputable def pr20C1 (w : World) (b1 b2 : Bool) (e : Amb) (cp : Nat → Cp) (e1 : Amb) (x : Str) (it fr c1 c2 c3 sc dr le rfr exc tup : Nat) (t : Int) (y : Str) (hx : x.length ≤ 100000) (hne : ((sliceS x none (some 3)).cps.toList != kS10.cps.toList) = true) : { F : C4 (List Value) // tOf (pr20R1 w b1 b2 e cp e1 x it fr c1 c2 c3 sc dr le rfr exc tup t y hx hne) = Sem.stack (fun l => F.on (stA (Fast.tw17431863860829184973 (pr1A e1 x 0) false) l)) } := by
  cases b1 <;> with_unfolding_all exact ⟨⟨_, _, _, _⟩, rfl⟩
theorem pr20K1 (w : World) (b1 b2 : Bool) (e : Amb) (cp : Nat → Cp) (e1 : Amb) (x : Str) (it fr c1 c2 c3 sc dr le rfr exc tup : Nat) (t : Int) (y : Str) (hx : x.length ≤ 100000) (hne : ((sliceS x none (some 3)).cps.toList != kS10.cps.toList) = true) : (outOf (pr20R1 w b1 b2 e cp e1 x it fr c1 c2 c3 sc dr le rfr exc tup t y hx hne)).c = .func (inner (stm 12)) (pxE (pr1A e1 x 0)) := by
  cases b1 <;> kernel_rfl
noncomputable def pr20T1 (w : World) (b1 b2 : Bool) (e : Amb) (cp : Nat → Cp) (e1 : Amb) (x : Str) (it fr c1 c2 c3 sc dr le rfr exc tup : Nat) (t : Int) (y : Str) (hx : x.length ≤ 100000) (hne : ((sliceS x none (some 3)).cps.toList != kS10.cps.toList) = true) : Sem PySem.Fin := stA (tOf (pr20R1 w b1 b2 e cp e1 x it fr c1 c2 c3 sc dr le rfr exc tup t y hx hne)) (((outOf (pr20R1 w b1 b2 e cp e1 x it fr c1 c2 c3 sc dr le rfr exc tup t y hx hne)).c, (outOf (pr20R1 w b1 b2 e cp e1 x it fr c1 c2 c3 sc dr le rfr exc tup t y hx hne)).p) :: (buildW (ksPR it fr c1 c2 c3 rfr) cp 0))
noncomputable def pr20T1' (w : World) (b1 b2 : Bool) (e : Amb) (cp : Nat → Cp) (e1 : Amb) (x : Str) (it fr c1 c2 c3 sc dr le rfr exc tup : Nat) (t : Int) (y : Str) (hx : x.length ≤ 100000) (hne : ((sliceS x none (some 3)).cps.toList != kS10.cps.toList) = true) : Sem PySem.Fin := (pr20C1 w b1 b2 e cp e1 x it fr c1 c2 c3 sc dr le rfr exc tup t y hx hne).1.on (pAt false (outOf (pr20R1 w b1 b2 e cp e1 x it fr c1 c2 c3 sc dr le rfr exc tup t y hx hne)).p (buildW (ksPR it fr c1 c2 c3 rfr) cp 0))
theorem pr20_same1 (w : World) (b1 b2 : Bool) (e : Amb) (cp : Nat → Cp) (e1 : Amb) (x : Str) (it fr c1 c2 c3 sc dr le rfr exc tup : Nat) (t : Int) (y : Str) (hx : x.length ≤ 100000) (hne : ((sliceS x none (some 3)).cps.toList != kS10.cps.toList) = true) : pr20T1 w b1 b2 e cp e1 x it fr c1 c2 c3 sc dr le rfr exc tup t y hx hne = pr20T1' w b1 b2 e cp e1 x it fr c1 c2 c3 sc dr le rfr exc tup t y hx hne := by
  unfold pr20T1 pr20T1'
  generalize pr20C1 w b1 b2 e cp e1 x it fr c1 c2 c3 sc dr le rfr exc tup t y hx hne = G
  obtain ⟨F, h⟩ := G
  dsimp only
  rw [h, pr20K1]
  exact congrArg F.on (p_at _ _ _ _ _ _ rfl rfl rfl)
theorem pr20_e (w : World) (base : List Frame) (s : Shared) (e1 : Amb) (x : Str) (it fr c1 c2 c3 sc dr le rfr exc tup : Nat) (t : Int) (y : Str) (hx : x.length ≤ 100000) (hne : ((sliceS x none (some 3)).cps.toList != kS10.cps.toList) = true) (hS : WOk (some (ksPR it fr c1 c2 c3 rfr)) (base.map Frame.where_)) : EffFr w (pr20H e1 x it fr c1 c2 c3 sc dr le rfr exc tup t y) base s ((pr1D w x hx hne).R (fl1 w) (fl2 w) e1 (base.map Frame.where_)) (.ok (.ret (.ref exc))) := by
  obtain ⟨cp, hW⟩ := hS
  rw [hW]
  exact effFrW rfl (wdA [3,3,4] [0,1,2,3] [0] 28 (dg 16 0x1665550443322055155155) (fun b1 b2 e W A G => [.s 1 (t' := pr20T0' w b1 b2 (e0 e) cp e1 x it fr c1 c2 c3 sc dr le rfr exc tup t y hx hne) (fun _ => pr20_same0 w b1 b2 (e0 e) cp e1 x it fr c1 c2 c3 sc dr le rfr exc tup t y hx hne), .s 1 (t' := pr20T1' w b1 b2 (e0 e) cp e1 x it fr c1 c2 c3 sc dr le rfr exc tup t y hx hne) (fun _ => pr20_same1 w b1 b2 (e0 e) cp e1 x it fr c1 c2 c3 sc dr le rfr exc tup t y hx hne)]) (T := (.v (.v (.v (.v .nil)))))) hW (fun b1 b2 => (pr1D w x hx hne).R b1 b2 e1 (buildW (ksPR it fr c1 c2 c3 rfr) cp 0)) fun b1 _ => by cases b1 <;> kernel_rfl
noncomputable def pr21H (e1 : Amb) (x : Str) (it fr c1 c2 c3 sc dr le rfr exc tup : Nat) (t : Int) (y : Str) : Hook := ⟨false, .call (.ref 221) [.str x], (some (ksPR it fr c1 c2 c3 rfr)), [((pr1A e1 x 0), .vw ⟨.type "frame", none, (.dict [(kS21, .str x)])⟩), (rfr, .vw ⟨.type "frame", none, (.dict [(kS30, .str x)])⟩), (fr, .vw ⟨.type "frame", none, (.fr [(kS24, .ref sc), (kS25, .ref dr), (kS49, .int t), (kS50, .ref le), (kS30, .str y)] (some (.ref 315)) [(some (.ref 3)), none, (some .ni), none, (some (.ref 316)), (some (.ref 0)), (some (.ref c3)), (some (.ref c2)), (some (.ref c1))])⟩), (exc, .vw ⟨.ref 212, none, (.fields [.ref tup, .none, .none, .none, .bool false, .none])⟩)], fun na => .err (.ref exc), fun na => [((pr1A e1 x 0), ⟨.type "frame", none, (.fr [(kS21, .str x)] (some (.ref 220)) [(some (.ref 3)), none, (some (.ref rfr)), none, (some (.ref 221)), (some (.ref 0))])⟩), (rfr, ⟨.type "frame", none, (.fr [(kS30, .str x)] (some (.ref 310)) [(some (.ref 3)), none, (some (.ref fr)), none, (some (.ref 311)), (some (.ref 0))])⟩), (exc, ⟨.ref 212, none, (.fields [.ref tup, .ref (na 0), .none, .none, .bool false, .none])⟩)], fun na => [⟨.type "traceback", none, (.fields [.none, .ref (pr1A e1 x 0), .none, .none, .none, .int 130, .int 130, .int 8, .int 31, .str kS52, .bool false])⟩], [], fun na => []⟩
noncomputable abbrev pr21R0 (w : World) (b1 b2 : Bool) (e : Amb) (cp : Nat → Cp) (e1 : Amb) (x : Str) (it fr c1 c2 c3 sc dr le rfr exc tup : Nat) (t : Int) (y : Str) (hx : x.length ≤ 100000) (hne : ((sliceS x none (some 3)).cps.toList != kS10.cps.toList) = true) := (wd [] [] [] 11 (dg 16 0x155155155) (T := (.v (.v (.v (.v .nil))))) : WD w (pr21H e1 x it fr c1 c2 c3 sc dr le rfr exc tup t y)).F (b2 := b2) b1 e (buildW (ksPR it fr c1 c2 c3 rfr) cp 0) ((pr1D w x hx hne).R b1 b2 e1 (buildW (ksPR it fr c1 c2 c3 rfr) cp 0)) (.ok (.ret (.ref exc)))
noncomputable def pr21C0 (w : World) (b1 b2 : Bool) (e : Amb) (cp : Nat → Cp) (e1 : Amb) (x : Str) (it fr c1 c2 c3 sc dr le rfr exc tup : Nat) (t : Int) (y : Str) (hx : x.length ≤ 100000) (hne : ((sliceS x none (some 3)).cps.toList != kS10.cps.toList) = true) : { F : C4 Value // tOf (pr21R0 w b1 b2 e cp e1 x it fr c1 c2 c3 sc dr le rfr exc tup t y hx hne) = Sem.stack (fun l => F.on (stA (Fast.tw597062882220602849 (pxE (pr1A e1 x 0))) l)) } := by
  cases b1 <;> with_unfolding_all exact ⟨⟨_, _, _, _⟩, rfl⟩
theorem pr21K0 (w : World) (b1 b2 : Bool) (e : Amb) (cp : Nat → Cp) (e1 : Amb) (x : Str) (it fr c1 c2 c3 sc dr le rfr exc tup : Nat) (t : Int) (y : Str) (hx : x.length ≤ 100000) (hne : ((sliceS x none (some 3)).cps.toList != kS10.cps.toList) = true) : (outOf (pr21R0 w b1 b2 e cp e1 x it fr c1 c2 c3 sc dr le rfr exc tup t y hx hne)).c = .func (inner (stm 12)) (pxE (pr1A e1 x 0)) := by
  cases b1 <;> kernel_rfl
noncomputable def pr21T0 (w : World) (b1 b2 : Bool) (e : Amb) (cp : Nat → Cp) (e1 : Amb) (x : Str) (it fr c1 c2 c3 sc dr le rfr exc tup : Nat) (t : Int) (y : Str) (hx : x.length ≤ 100000) (hne : ((sliceS x none (some 3)).cps.toList != kS10.cps.toList) = true) : Sem PySem.Fin := stA (tOf (pr21R0 w b1 b2 e cp e1 x it fr c1 c2 c3 sc dr le rfr exc tup t y hx hne)) (((outOf (pr21R0 w b1 b2 e cp e1 x it fr c1 c2 c3 sc dr le rfr exc tup t y hx hne)).c, (outOf (pr21R0 w b1 b2 e cp e1 x it fr c1 c2 c3 sc dr le rfr exc tup t y hx hne)).p) :: (buildW (ksPR it fr c1 c2 c3 rfr) cp 0))
noncomputable def pr21T0' (w : World) (b1 b2 : Bool) (e : Amb) (cp : Nat → Cp) (e1 : Amb) (x : Str) (it fr c1 c2 c3 sc dr le rfr exc tup : Nat) (t : Int) (y : Str) (hx : x.length ≤ 100000) (hne : ((sliceS x none (some 3)).cps.toList != kS10.cps.toList) = true) : Sem PySem.Fin := (pr21C0 w b1 b2 e cp e1 x it fr c1 c2 c3 sc dr le rfr exc tup t y hx hne).1.on (fAt (pxE (pr1A e1 x 0)) (buildW (ksPR it fr c1 c2 c3 rfr) cp 0))
theorem pr21_same0 (w : World) (b1 b2 : Bool) (e : Amb) (cp : Nat → Cp) (e1 : Amb) (x : Str) (it fr c1 c2 c3 sc dr le rfr exc tup : Nat) (t : Int) (y : Str) (hx : x.length ≤ 100000) (hne : ((sliceS x none (some 3)).cps.toList != kS10.cps.toList) = true) : pr21T0 w b1 b2 e cp e1 x it fr c1 c2 c3 sc dr le rfr exc tup t y hx hne = pr21T0' w b1 b2 e cp e1 x it fr c1 c2 c3 sc dr le rfr exc tup t y hx hne := by
  unfold pr21T0 pr21T0'
  generalize pr21C0 w b1 b2 e cp e1 x it fr c1 c2 c3 sc dr le rfr exc tup t y hx hne = G
  obtain ⟨F, h⟩ := G
  dsimp only
  rw [h, pr21K0]
  exact congrArg F.on (f_at _ _ _ _ rfl rfl)
noncomputable abbrev pr21R1 (w : World) (b1 b2 : Bool) (e : Amb) (cp : Nat → Cp) (e1 : Amb) (x : Str) (it fr c1 c2 c3 sc dr le rfr exc tup : Nat) (t : Int) (y : Str) (hx : x.length ≤ 100000) (hne : ((sliceS x none (some 3)).cps.toList != kS10.cps.toList) = true) := (wdA [3] [] [] 18 (dg 16 0x143322055155155) (fun b1 b2 e W A G => [.s 1 (t' := pr21T0' w b1 b2 (e0 e) cp e1 x it fr c1 c2 c3 sc dr le rfr exc tup t y hx hne) (fun _ => pr21_same0 w b1 b2 (e0 e) cp e1 x it fr c1 c2 c3 sc dr le rfr exc tup t y hx hne)]) (T := (.v (.v (.v (.v .nil))))) : WD w (pr21H e1 x it fr c1 c2 c3 sc dr le rfr exc tup t y)).F (b2 := b2) b1 e (buildW (ksPR it fr c1 c2 c3 rfr) cp 0) ((pr1D w x hx hne).R b1 b2 e1 (buildW (ksPR it fr c1 c2 c3 rfr) cp 0)) (.ok (.ret (.ref exc)))
noncomputable def pr21C1 (w : World) (b1 b2 : Bool) (e : Amb) (cp : Nat → Cp) (e1 : Amb) (x : Str) (it fr c1 c2 c3 sc dr le rfr exc tup : Nat) (t : Int) (y : Str) (hx : x.length ≤ 100000) (hne : ((sliceS x none (some 3)).cps.toList != kS10.cps.toList) = true) : { F : C4 (List Value) // tOf (pr21R1 w b1 b2 e cp e1 x it fr c1 c2 c3 sc dr le rfr exc tup t y hx hne) = Sem.stack (fun l => F.on (stA (Fast.tw17431863860829184973 (pr1A e1 x 0) false) l)) } := by
  cases b1 <;> with_unfolding_all exact ⟨⟨_, _, _, _⟩, rfl⟩
theorem pr21K1 (w : World) (b1 b2 : Bool) (e : Amb) (cp : Nat → Cp) (e1 : Amb) (x : Str) (it fr c1 c2 c3 sc dr le rfr exc tup : Nat) (t : Int) (y : Str) (hx : x.length ≤ 100000) (hne : ((sliceS x none (some 3)).cps.toList != kS10.cps.toList) = true) : (outOf (pr21R1 w b1 b2 e cp e1 x it fr c1 c2 c3 sc dr le rfr exc tup t y hx hne)).c = .func (inner (stm 12)) (pxE (pr1A e1 x 0)) := by
  cases b1 <;> kernel_rfl
noncomputable def pr21T1 (w : World) (b1 b2 : Bool) (e : Amb) (cp : Nat → Cp) (e1 : Amb) (x : Str) (it fr c1 c2 c3 sc dr le rfr exc tup : Nat) (t : Int) (y : Str) (hx : x.length ≤ 100000) (hne : ((sliceS x none (some 3)).cps.toList != kS10.cps.toList) = true) : Sem PySem.Fin := stA (tOf (pr21R1 w b1 b2 e cp e1 x it fr c1 c2 c3 sc dr le rfr exc tup t y hx hne)) (((outOf (pr21R1 w b1 b2 e cp e1 x it fr c1 c2 c3 sc dr le rfr exc tup t y hx hne)).c, (outOf (pr21R1 w b1 b2 e cp e1 x it fr c1 c2 c3 sc dr le rfr exc tup t y hx hne)).p) :: (buildW (ksPR it fr c1 c2 c3 rfr) cp 0))
noncomputable def pr21T1' (w : World) (b1 b2 : Bool) (e : Amb) (cp : Nat → Cp) (e1 : Amb) (x : Str) (it fr c1 c2 c3 sc dr le rfr exc tup : Nat) (t : Int) (y : Str) (hx : x.length ≤ 100000) (hne : ((sliceS x none (some 3)).cps.toList != kS10.cps.toList) = true) : Sem PySem.Fin := (pr21C1 w b1 b2 e cp e1 x it fr c1 c2 c3 sc dr le rfr exc tup t y hx hne).1.on (pAt false (outOf (pr21R1 w b1 b2 e cp e1 x it fr c1 c2 c3 sc dr le rfr exc tup t y hx hne)).p (buildW (ksPR it fr c1 c2 c3 rfr) cp 0))
theorem pr21_same1 (w : World) (b1 b2 : Bool) (e : Amb) (cp : Nat → Cp) (e1 : Amb) (x : Str) (it fr c1 c2 c3 sc dr le rfr exc tup : Nat) (t : Int) (y : Str) (hx : x.length ≤ 100000) (hne : ((sliceS x none (some 3)).cps.toList != kS10.cps.toList) = true) : pr21T1 w b1 b2 e cp e1 x it fr c1 c2 c3 sc dr le rfr exc tup t y hx hne = pr21T1' w b1 b2 e cp e1 x it fr c1 c2 c3 sc dr le rfr exc tup t y hx hne := by
  unfold pr21T1 pr21T1'
  generalize pr21C1 w b1 b2 e cp e1 x it fr c1 c2 c3 sc dr le rfr exc tup t y hx hne = G
  obtain ⟨F, h⟩ := G
  dsimp only
  rw [h, pr21K1]
  exact congrArg F.on (p_at _ _ _ _ _ _ rfl rfl rfl)
theorem pr21_e (w : World) (base : List Frame) (s : Shared) (e1 : Amb) (x : Str) (it fr c1 c2 c3 sc dr le rfr exc tup : Nat) (t : Int) (y : Str) (hx : x.length ≤ 100000) (hne : ((sliceS x none (some 3)).cps.toList != kS10.cps.toList) = true) (hS : WOk (some (ksPR it fr c1 c2 c3 rfr)) (base.map Frame.where_)) : EffFr w (pr21H e1 x it fr c1 c2 c3 sc dr le rfr exc tup t y) base s ((pr1D w x hx hne).R (fl1 w) (fl2 w) e1 (base.map Frame.where_)) (.ok (.ret (.ref exc))) := by
  obtain ⟨cp, hW⟩ := hS
  rw [hW]
  exact effFrW rfl (wdA [3,3,4] [0,1,3] [0] 26 (dg 16 0x166555043322055155155) (fun b1 b2 e W A G => [.s 1 (t' := pr21T0' w b1 b2 (e0 e) cp e1 x it fr c1 c2 c3 sc dr le rfr exc tup t y hx hne) (fun _ => pr21_same0 w b1 b2 (e0 e) cp e1 x it fr c1 c2 c3 sc dr le rfr exc tup t y hx hne), .s 1 (t' := pr21T1' w b1 b2 (e0 e) cp e1 x it fr c1 c2 c3 sc dr le rfr exc tup t y hx hne) (fun _ => pr21_same1 w b1 b2 (e0 e) cp e1 x it fr c1 c2 c3 sc dr le rfr exc tup t y hx hne)]) (T := (.v (.v (.v (.v .nil)))))) hW (fun b1 b2 => (pr1D w x hx hne).R b1 b2 e1 (buildW (ksPR it fr c1 c2 c3 rfr) cp 0)) fun b1 _ => by cases b1 <;> kernel_rfl
noncomputable def rf1H (it fr c1 c2 c3 : Nat) (x : Str) : Hook := ⟨false, .call (.ref 311) [.str x], (some (ksRF it fr c1 c2 c3)), [], fun na => .next, fun na => [], fun na => [⟨.type "frame", none, (.dict [(kS30, .str x)])⟩], [], fun na => []⟩
noncomputable def rf1D (w : World) (it fr c1 c2 c3 : Nat) (x : Str)  : WD w (rf1H it fr c1 c2 c3 x) := wd [4] [] [0] 19 (dg 16 0x112112211) (x := fun e A G => [(e.κ 0)])
noncomputable def rf1A (e : Amb) (it fr c1 c2 c3 : Nat) (x : Str) : Nat → Nat := nA [4] [0] e fun A G => [(e.κ 0)]
theorem rf1_e (w : World) (it fr c1 c2 c3 : Nat) (x : Str)  : CallW w (rf1H it fr c1 c2 c3 x) (fun na => .call (.ref 221) ⟨[.str x (na 1)], []⟩) .func (fun e W => (rf1D w it fr c1 c2 c3 x).R (fl1 w) (fl2 w) e W) (fun e _ => rf1A e it fr c1 c2 c3 x) :=
  callW rfl (rf1D w it fr c1 c2 c3 x) (by kernel_rfl)
theorem rf1_cc (w : World) (b1 b2 : Bool) (e : Amb) (cp : Nat → Cp) (it fr c1 c2 c3 : Nat) (x : Str) : (outOf ((rf1D w it fr c1 c2 c3 x).R b1 b2 e (buildW (ksRF it fr c1 c2 c3) cp 0))).c = .func (inner (stm 19)) (rfE (rf1A e it fr c1 c2 c3 x 0)) := by
  cases b1 <;> kernel_rfl
noncomputable def rf2H (e1 : Amb) (it fr c1 c2 c3 : Nat) (x : Str) (exc tup tb pfr : Nat) : Hook := ⟨false, .call (.ref 311) [.str x], (some (ksRF it fr c1 c2 c3)), [((rf1A e1 it fr c1 c2 c3 x 0), .vw ⟨.type "frame", none, (.fr [(kS30, .str x)] (some (.ref 310)) [(some (.ref 3)), none, (some (.ref fr)), none, (some (.ref 311)), (some (.ref 0))])⟩), (exc, .vw ⟨.ref 212, none, (.fields [.ref tup, .ref tb, .none, .none, .bool false, .none])⟩), (tb, .vw ⟨.type "traceback", none, (.fields [.none, .ref pfr, .none, .none, .none, .int 130, .int 130, .int 8, .int 31, .str kS52, .bool false])⟩), (tup, .vw ⟨.type "tuple", none, (.seq [.str x])⟩)], fun na => .ret (.bool (x.cps.toList == x.cps.toList)), fun na => [((rf1A e1 it fr c1 c2 c3 x 0), ⟨.type "frame", none, (.fr [(kS30, .str x)] (some (.ref 310)) [(some (.ref 3)), none, (some (.ref fr)), none, (some (.ref 311)), (some (.ref 0))])⟩), (exc, ⟨.ref 212, none, (.fields [.ref tup, .ref (na 0), .none, .none, .bool false, .none])⟩), (tb, ⟨.type "traceback", none, (.fields [.none, .ref pfr, .none, .none, .none, .int 130, .int 130, .int 8, .int 31, .str kS52, .bool false])⟩)], fun na => [⟨.type "traceback", none, (.fields [.ref tb, .ref (rf1A e1 it fr c1 c2 c3 x 0), .none, .none, .none, .int 226, .int 226, .int 8, .int 23, .str kS52, .bool true])⟩], [], fun na => []⟩
noncomputable abbrev rf2R0 (w : World) (b1 b2 : Bool) (e : Amb) (cp : Nat → Cp) (e1 : Amb) (it fr c1 c2 c3 : Nat) (x : Str) (exc tup tb pfr : Nat) (heq : (x.cps.toList == x.cps.toList) = true) := (wd [] [] [] 4 (dg 16 0x14443) (T := (.v (.v (.v (.v .nil))))) : WD w (rf2H e1 it fr c1 c2 c3 x exc tup tb pfr)).F (b2 := b2) b1 e (buildW (ksRF it fr c1 c2 c3) cp 0) ((rf1D w it fr c1 c2 c3 x).R b1 b2 e1 (buildW (ksRF it fr c1 c2 c3) cp 0)) (.error (.ref exc))
noncomputable def rf2C0 (w : World) (b1 b2 : Bool) (e : Amb) (cp : Nat → Cp) (e1 : Amb) (it fr c1 c2 c3 : Nat) (x : Str) (exc tup tb pfr : Nat) (heq : (x.cps.toList == x.cps.toList) = true) : { F : C5 Value // tOf (rf2R0 w b1 b2 e cp e1 it fr c1 c2 c3 x exc tup tb pfr heq) = Sem.stack (fun l => F.on (stA (Fast.tw597062882220602849 (rfE (rf1A e1 it fr c1 c2 c3 x 0))) l)) } := by
  cases b1 <;> with_unfolding_all exact ⟨⟨_, _, _, _, _⟩, rfl⟩
theorem rf2K0 (w : World) (b1 b2 : Bool) (e : Amb) (cp : Nat → Cp) (e1 : Amb) (it fr c1 c2 c3 : Nat) (x : Str) (exc tup tb pfr : Nat) (heq : (x.cps.toList == x.cps.toList) = true) : (outOf (rf2R0 w b1 b2 e cp e1 it fr c1 c2 c3 x exc tup tb pfr heq)).c = .func (inner (stm 19)) (rfE (rf1A e1 it fr c1 c2 c3 x 0)) := by
  cases b1 <;> kernel_rfl
noncomputable def rf2T0 (w : World) (b1 b2 : Bool) (e : Amb) (cp : Nat → Cp) (e1 : Amb) (it fr c1 c2 c3 : Nat) (x : Str) (exc tup tb pfr : Nat) (heq : (x.cps.toList == x.cps.toList) = true) : Sem PySem.Fin := stA (tOf (rf2R0 w b1 b2 e cp e1 it fr c1 c2 c3 x exc tup tb pfr heq)) (((outOf (rf2R0 w b1 b2 e cp e1 it fr c1 c2 c3 x exc tup tb pfr heq)).c, (outOf (rf2R0 w b1 b2 e cp e1 it fr c1 c2 c3 x exc tup tb pfr heq)).p) :: (buildW (ksRF it fr c1 c2 c3) cp 0))
noncomputable def rf2T0' (w : World) (b1 b2 : Bool) (e : Amb) (cp : Nat → Cp) (e1 : Amb) (it fr c1 c2 c3 : Nat) (x : Str) (exc tup tb pfr : Nat) (heq : (x.cps.toList == x.cps.toList) = true) : Sem PySem.Fin := (rf2C0 w b1 b2 e cp e1 it fr c1 c2 c3 x exc tup tb pfr heq).1.on (fAt (rfE (rf1A e1 it fr c1 c2 c3 x 0)) (buildW (ksRF it fr c1 c2 c3) cp 0))
theorem rf2_same0 (w : World) (b1 b2 : Bool) (e : Amb) (cp : Nat → Cp) (e1 : Amb) (it fr c1 c2 c3 : Nat) (x : Str) (exc tup tb pfr : Nat) (heq : (x.cps.toList == x.cps.toList) = true) : rf2T0 w b1 b2 e cp e1 it fr c1 c2 c3 x exc tup tb pfr heq = rf2T0' w b1 b2 e cp e1 it fr c1 c2 c3 x exc tup tb pfr heq := by
  unfold rf2T0 rf2T0'
  generalize rf2C0 w b1 b2 e cp e1 it fr c1 c2 c3 x exc tup tb pfr heq = G
  obtain ⟨F, h⟩ := G
  dsimp only
  rw [h, rf2K0]
  exact congrArg F.on (f_at _ _ _ _ rfl rfl)
noncomputable abbrev rf2R1 (w : World) (b1 b2 : Bool) (e : Amb) (cp : Nat → Cp) (e1 : Amb) (it fr c1 c2 c3 : Nat) (x : Str) (exc tup tb pfr : Nat) (heq : (x.cps.toList == x.cps.toList) = true) := (wdA [3] [] [] 7 (dg 16 0x1204443) (fun b1 b2 e W A G => [.s 1 (t' := rf2T0' w b1 b2 (e0 e) cp e1 it fr c1 c2 c3 x exc tup tb pfr heq) (fun _ => rf2_same0 w b1 b2 (e0 e) cp e1 it fr c1 c2 c3 x exc tup tb pfr heq)]) (T := (.v (.v (.v (.v .nil))))) : WD w (rf2H e1 it fr c1 c2 c3 x exc tup tb pfr)).F (b2 := b2) b1 e (buildW (ksRF it fr c1 c2 c3) cp 0) ((rf1D w it fr c1 c2 c3 x).R b1 b2 e1 (buildW (ksRF it fr c1 c2 c3) cp 0)) (.error (.ref exc))
noncomputable def rf2C1 (w : World) (b1 b2 : Bool) (e : Amb) (cp : Nat → Cp) (e1 : Amb) (it fr c1 c2 c3 : Nat) (x : Str) (exc tup tb pfr : Nat) (heq : (x.cps.toList == x.cps.toList) = true) : { F : C5 (List Value) // tOf (rf2R1 w b1 b2 e cp e1 it fr c1 c2 c3 x exc tup tb pfr heq) = Sem.stack (fun l => F.on (stA (Fast.tw17431863860829184973 (rf1A e1 it fr c1 c2 c3 x 0) true) l)) } := by
  cases b1 <;> with_unfolding_all exact ⟨⟨_, _, _, _, _⟩, rfl⟩
theorem rf2K1 (w : World) (b1 b2 : Bool) (e : Amb) (cp : Nat → Cp) (e1 : Amb) (it fr c1 c2 c3 : Nat) (x : Str) (exc tup tb pfr : Nat) (heq : (x.cps.toList == x.cps.toList) = true) : (outOf (rf2R1 w b1 b2 e cp e1 it fr c1 c2 c3 x exc tup tb pfr heq)).c = .func (inner (stm 19)) (rfE (rf1A e1 it fr c1 c2 c3 x 0)) := by
  cases b1 <;> kernel_rfl
noncomputable def rf2T1 (w : World) (b1 b2 : Bool) (e : Amb) (cp : Nat → Cp) (e1 : Amb) (it fr c1 c2 c3 : Nat) (x : Str) (exc tup tb pfr : Nat) (heq : (x.cps.toList == x.cps.toList) = true) : Sem PySem.Fin := stA (tOf (rf2R1 w b1 b2 e cp e1 it fr c1 c2 c3 x exc tup tb pfr heq)) (((outOf (rf2R1 w b1 b2 e cp e1 it fr c1 c2 c3 x exc tup tb pfr heq)).c, (outOf (rf2R1 w b1 b2 e cp e1 it fr c1 c2 c3 x exc tup tb pfr heq)).p) :: (buildW (ksRF it fr c1 c2 c3) cp 0))
noncomputable def rf2T1' (w : World) (b1 b2 : Bool) (e : Amb) (cp : Nat → Cp) (e1 : Amb) (it fr c1 c2 c3 : Nat) (x : Str) (exc tup tb pfr : Nat) (heq : (x.cps.toList == x.cps.toList) = true) : Sem PySem.Fin := (rf2C1 w b1 b2 e cp e1 it fr c1 c2 c3 x exc tup tb pfr heq).1.on (pAt true (outOf (rf2R1 w b1 b2 e cp e1 it fr c1 c2 c3 x exc tup tb pfr heq)).p (buildW (ksRF it fr c1 c2 c3) cp 0))
theorem rf2_same1 (w : World) (b1 b2 : Bool) (e : Amb) (cp : Nat → Cp) (e1 : Amb) (it fr c1 c2 c3 : Nat) (x : Str) (exc tup tb pfr : Nat) (heq : (x.cps.toList == x.cps.toList) = true) : rf2T1 w b1 b2 e cp e1 it fr c1 c2 c3 x exc tup tb pfr heq = rf2T1' w b1 b2 e cp e1 it fr c1 c2 c3 x exc tup tb pfr heq := by
  unfold rf2T1 rf2T1'
  generalize rf2C1 w b1 b2 e cp e1 it fr c1 c2 c3 x exc tup tb pfr heq = G
  obtain ⟨F, h⟩ := G
  dsimp only
  rw [h, rf2K1]
  exact congrArg F.on (p_at _ _ _ _ _ _ rfl rfl rfl)
theorem rf2_e (w : World) (base : List Frame) (s : Shared) (e1 : Amb) (it fr c1 c2 c3 : Nat) (x : Str) (exc tup tb pfr : Nat) (heq : (x.cps.toList == x.cps.toList) = true) (hS : WOk (some (ksRF it fr c1 c2 c3)) (base.map Frame.where_)) : EffFr w (rf2H e1 it fr c1 c2 c3 x exc tup tb pfr) base s ((rf1D w it fr c1 c2 c3 x).R (fl1 w) (fl2 w) e1 (base.map Frame.where_)) (.error (.ref exc)) := by
  obtain ⟨cp, hW⟩ := hS
  rw [hW]
  exact effFrW rfl (wdA [3,3,4] [0,1,2] [0] 87 (dg 16 0x1222212153131111113112112266311311111663330204443) (fun b1 b2 e W A G => [.s 1 (t' := rf2T0' w b1 b2 (e0 e) cp e1 it fr c1 c2 c3 x exc tup tb pfr heq) (fun _ => rf2_same0 w b1 b2 (e0 e) cp e1 it fr c1 c2 c3 x exc tup tb pfr heq), .s 1 (t' := rf2T1' w b1 b2 (e0 e) cp e1 it fr c1 c2 c3 x exc tup tb pfr heq) (fun _ => rf2_same1 w b1 b2 (e0 e) cp e1 it fr c1 c2 c3 x exc tup tb pfr heq)]) (T := (.v (.v (.v (.v .nil)))))) hW (fun b1 b2 => (rf1D w it fr c1 c2 c3 x).R b1 b2 e1 (buildW (ksRF it fr c1 c2 c3) cp 0)) fun b1 _ => by cases b1 <;> kernel_rfl
theorem lslice_meets (l sl : Addr) (items : Array Value) (n : Nat) (vl vu vs : Value) (lo hi st : Option Int) (pl : IsPart vl lo) (pu : IsPart vu hi) (ps : IsPart vs st) (h0 : st ≠ some 0) (hsz : items.size ≤ sizeLine) (sls : Array (Option Value)) :
    Meets (Builtin.«list.__getitem__» ⟨[.ref l, .ref sl], []⟩) (fun _ R s => (s.heap.get? l = some { cls := .type "list", dict := none, data := .seq items n, slots := #[] } ∧ s.heap.get? sl = some { cls := .type "slice", dict := none, data := .fields #[vl, vu, vs], slots := sls }) ∧
      R (.ok (.ret (.ref s.heap.objs.size))) { s with heap := s.heap.push { cls := .type "list", data := .seq (slicePick items lo hi st) } }) := by
  refine Meets.of_wp fun prog w A R s h => ?_
  obtain ⟨⟨hl, hs⟩, h⟩ := h
  have hTs : s.TypeIs (.ref sl) "slice" := ⟨_, hs, rfl⟩
  show wpAny _ _ (Builtin.List.listSubscript? (.ref sl) >>= _) _ _ s
  refine wpAny_bind ?_
  unfold Builtin.List.listSubscript?
  refine wpAny_bind (wpAny_specialOf hTs slice_no_index ?_)
  simp only [Option.isNone_none, if_true]
  refine wpAny_pure ?_
  show wpAny _ _ (typeOf (.ref sl) >>= _) _ _ s
  refine wpAny_bind (wpAny_typeOf hTs ?_)
  rw [if_neg (by decide)]
  rw [listSliceParts_eq]
  have hstep : ¬ ((rawPart st == rawInt 0) = true) := by
    cases st with
    | none => exact Bool.false_ne_true
    | some c =>
      intro hh
      have : c = 0 := by simpa [rawPart, rawInt] using hh
      exact h0 (by rw [this])
  refine wpAny_bind (wpAny_bind (wpAny_field hs rfl (x := vs) rfl (wpAny_bind (wpAny_listPart ps ?_))))
  rw [if_neg hstep]
  refine wpAny_bind (wpAny_field hs rfl (x := vl) rfl (wpAny_bind (wpAny_listPart pl ?_)))
  refine wpAny_bind (wpAny_field hs rfl (x := vu) rfl (wpAny_bind (wpAny_listPart pu (wpAny_pure ?_))))
  refine wpAny_bind (m := Builtin.List.listItems (.ref l)) ?_
  unfold Builtin.List.listItems
  refine wpAny_bind (wpAny_seqItems hl rfl (wpAny_pure ?_))
  refine wpAny_bind (wpAny_of_eq (sliceIndices_raw lo hi st items.size h0) ?_)
  exact wpAny_bind (wpAny_newObj_type (wpAny_pure ⟨_, rfl, h⟩) (Nat.le_trans (slicePick_size_le items lo hi st) hsz))
noncomputable def lsl4H (l sl : Nat) (o : Obj) (x0 x1 x2 x3 : Int) : Hook := ⟨false, .call (.bi "list.__getitem__") [.ref l, .ref sl], none, [(l, .ob o), (sl, .vw (objV "slice" [.none, .int 4, .none]))], fun na => .ret (.ref (na 0)), fun _ => [], fun _ => [listV [.int x0, .int x1, .int x2, .int x3]], [], fun _ => []⟩
theorem e_lsl4 (w : World) (l sl : Nat) (κ : TK) (x0 x1 x2 x3 : Int) (ls : List VV) (hls : ls.length ≤ 1000) : Eff w (lsl4H l sl ((listV (.int x0 :: .int x1 :: .int x2 :: .int x3 :: ls)).mk' κ) x0 x1 x2 x3) := by
  intro base p s cc hcc hb _ _ _ hneed _ _ _ _
  obtain ⟨f, vs, rfl, hf, hv⟩ := hcc
  obtain rfl := vvf_bi hf
  obtain ⟨t, u, rfl⟩ := vvs2 hv
  obtain ⟨o, ho, rfl⟩ := hneed _ (.head _)
  obtain ⟨o', ho', hov⟩ := hneed _ (.tail _ (.head _))
  obtain ⟨κ', rfl⟩ := ov_mk hov rfl
  have ho : s.heap.get? l = some ⟨.type "list", none, .seq ⟨mkVs κ.t 0 (.int x0 :: .int x1 :: .int x2 :: .int x3 :: ls)⟩ κ.e, #[]⟩ := ho
  have ho' : s.heap.get? sl = some ⟨.type "slice", none, .fields #[.none, .int 4 (κ'.t 1), .none], #[]⟩ := ho'
  have hlen : (mkVs κ.t 0 (.int x0 :: .int x1 :: .int x2 :: .int x3 :: ls)).length = ls.length + 4 := by
    have := mkVs_len (k := κ.t) (.int x0 :: .int x1 :: .int x2 :: .int x3 :: ls) 0
    exact this
  have e : slicePick ⟨mkVs κ.t 0 (.int x0 :: .int x1 :: .int x2 :: .int x3 :: ls)⟩ none (some 4) none = #[.int x0 (κ.t 0), .int x1 (κ.t 1), .int x2 (κ.t 2), .int x3 (κ.t 3)] := by
    have e1 : slicePick ⟨mkVs κ.t 0 (.int x0 :: .int x1 :: .int x2 :: .int x3 :: ls)⟩ none (some 4) none = slicePick ⟨mkVs κ.t 0 (.int x0 :: .int x1 :: .int x2 :: .int x3 :: ls)⟩ (some ((0 : Nat) : Int)) (some ((4 : Nat) : Int)) none := by
      unfold slicePick sliceBounds
      simp
      rw [show max (0 : Int) (min 0 ((mkVs κ.t 0 (.int x0 :: .int x1 :: .int x2 :: .int x3 :: ls)).length : Int)) = 0 by omega]
    rw [e1, slicePick_run _ 0 4 (by show 4 ≤ List.length _; rw [hlen]; omega) (by omega)]
    apply Array.ext'
    simp
    rfl
  obtain ⟨rr, s', R, rfl, rfl⟩ := meets_reach (w := w) (p := p) (s := s) (self := .ref l) (rest := [.ref sl]) (R := fun rr s' => rr = .ok (.ret (.ref s.heap.objs.size)) ∧ s' = { s with heap := s.heap.push { cls := .type "list", data := .seq (slicePick ⟨mkVs κ.t 0 (.int x0 :: .int x1 :: .int x2 :: .int x3 :: ls)⟩ none (some 4) none) }, toks := s.toks }) hb slot_list_getitem ⟨_, ho, rfl⟩ entry_list_getitem (args_list_getitem _ _)
    (lslice_meets l sl _ κ.e .none (.int 4 (κ'.t 1)) .none none (some 4) none .none (.int 4 _) .none (by simp) (by show List.length _ ≤ _; rw [hlen]; exact Nat.le_trans (show ls.length + 4 ≤ 1004 by omega) (by decide)) #[]) (fun A => ⟨⟨ho, ho'⟩, rfl, rfl⟩)
  rw [e] at R
  exact ⟨fun _ => s.heap.objs.size, _, _, R, rfl, after_new rfl rfl (fun _ => rfl) (fun _ => rfl) (fun _ => rfl) rfl (Nat.le_refl _)⟩
structure LAh (w : World) (fr c1 c2 c3 : Nat) (step room place t xa da xb db b n nt : Int) (sm : Bool) (x y q : Str) (la lb vals : List VV) : Prop where
  hst : 1 ≤ step ∧ step ≤ 6
  hrm : 1 ≤ room ∧ room ≤ 6
  hnr : Builtin.Range.rangeSize 0 room 1 = room
  hsr : smallR 0 room 1 room = true
  hns : Builtin.Range.rangeSize 0 step 1 = step
  hss : smallR 0 step 1 step = true
  ht : 0 ≤ t ∧ t ≤ 1000
  hy : y.length ≤ 100000
  hne1 : (step * (t + step) != step * (t + step)) = false
  hz1 : ((rep 34 (Int.toNat t)) ++ kS17).length ≤ 100000
  hz2 : (((rep 34 (Int.toNat t)) ++ kS17).cps.toList != ((rep 34 (Int.toNat t)) ++ kS17).cps.toList) = false
  hq : (q ++ (sliceS y (some 3) none)).length ≤ 100000
  hca : ∀ it l2 d2 : Nat, Eff w (kH (caGH it l2 d2 fr c1 c2 c3 step room place xa da la) (lwK fr c1 c2 c3))
  hcb : ∀ it l2 d2 : Nat, Eff w (kH (cbGH it l2 d2 fr c2 c3 step room place xb db lb) (lwK fr c1 c2 c3))
  hsum : ∀ (l : Nat) (κ : TK), Eff w (sumH l (OV.mk' (listV la) κ) t)
  hjn : ∀ (l : Nat) (κ : TK), Eff w (jnG l (OV.mk' (listV lb) κ) x)
  hcr : Eff w (pureK true (.ref 292) [.int step, .int room, .int place] (lwK fr c1 c2 c3) (.int t))
  hpm : Eff w (pureK false (.ref 299) [.int step, .int room, .int place] (lwK fr c1 c2 c3) (.int t))
  hrp : Eff w (pureK false (.ref 304) [.int step, .int room, .int place] (lwK fr c1 c2 c3) (.str y))
  hpx : Eff w (pureK false (.ref 221) [.str y] (lwK fr c1 c2 c3) (.str ((rep 34 (Int.toNat t)) ++ kS17)))
  hwi : ∀ se sd : Nat, Eff w (wiG se sd x b n nt sm vals (.biR "type.__call__" :: (lwK fr c1 c2 c3)))
  hid : ∀ (se sd no tu : Nat) (κ : TK), Eff w (idG se sd no tu step x b n nt sm (OV.mk' (tupV vals) κ) (step * (t + step)) (lwK fr c1 c2 c3))
  hir : Eff w (pureH "int.__repr__" [.int (300 + t)] (.str q))
noncomputable def la0H (it fr c1 c2 c3 sc dr pl le0 : Nat) (step room place p' t t0 xa da xb db b n nt : Int) (sm : Bool) (x y y0 q : Str) (la lb vals : List VV) : Hook := ⟨true, .code (lwF it fr c1 c2 c3), (some (ksLW fr c1 c2 c3)), [(fr, .vw ⟨.type "frame", none, (.dict [(kS24, .ref sc), (kS25, .ref dr)])⟩), (it, .vw ⟨.type "list_iterator", none, (.fields [.ref pl, .int 0])⟩), (pl, .vw ⟨.type "list", none, (.seq [.int place, .int p'])⟩), (c1, .vw ⟨.type "cell", none, (.cell (some (.int step)))⟩), (c2, .vw ⟨.type "cell", none, (.cell (some (.int room)))⟩), (c3, .vw ⟨.type "cell", none, (.cell none)⟩)], fun na => .next, fun na => [(fr, ⟨.type "frame", none, (.dict [(kS24, .ref sc), (kS25, .ref dr), (kS49, .int t), (kS50, .ref (na 0)), (kS30, .str y)])⟩), (it, ⟨.type "list_iterator", none, (.fields [.ref pl, .int 1])⟩), (c3, ⟨.type "cell", none, (.cell (some (.int place)))⟩)], fun na => [], [], fun na => []⟩
noncomputable def la0D (w : World) (it fr c1 c2 c3 sc dr pl le0 : Nat) (step room place p' t t0 xa da xb db b n nt : Int) (sm : Bool) (x y y0 q : Str) (la lb vals : List VV) (h : LAh w fr c1 c2 c3 step room place t xa da xb db b n nt sm x y q la lb vals) : WD w (la0H it fr c1 c2 c3 sc dr pl le0 step room place p' t t0 xa da xb db b n nt sm x y y0 q la lb vals) := wd [4,5,8,1,1,1,1,8,1,4,5,8,1,1,8,9,1,1,1,1,1,1,1,1,1,4,1,1] [0,1,5] [] 339 (dg 20 0x38fb0844c3e301d350cdd5d94df3f2f7f0e32b14bee9d33721cbdbf0568c424a31a1a810c14a8884a9305473e1ede6739c9d0d14039eeaa376b2eba7e535310b9fa62c3efc4199dba2e12da8442d4a1a0c431773275554d217587) (fun e _ A G => have hst := h.hst; have hrm := h.hrm; have hnr := h.hnr; have hsr := h.hsr; have hns := h.hns; have hss := h.hss; have ht := h.ht; have hy := h.hy; have hne1 := h.hne1; have hz1 := h.hz1; have hz2 := h.hz2; have hq := h.hq; [p1 (e_riter w (A 0) 0 room 1 room (by assumption) (by assumption)) [6], .q (h := kH (caGH (A 1) (A 2) (A 3) fr c1 c2 c3 step room place xa da la) (lwK fr c1 c2 c3)) (fun f => h.hca _ _ _) [7,9,3,4,5,8] [7,9,8] [] [], .q (h := sumH (A 2) (OV.mk' (listV la) ((e.τ 1).u 2)) t) (fun f => h.hsum _ _) [8] [] [] [], p0 (h.hcr), p0 (h.hpm), .q (h := lneH (A 4) (A 5) t) (fun f => e_lne w _ _ t) [10,11] [] [] [], p1 (e_riter w (A 6) 0 step 1 step (by assumption) (by assumption)) [12], .q (h := kH (cbGH (A 7) (A 8) (A 9) fr c2 c3 step room place xb db lb) (lwK fr c1 c2 c3)) (fun f => h.hcb _ _ _) [13,15,4,5,14] [13,15,14] [] [], .q (h := jnG (A 8) (OV.mk' (listV lb) ((e.τ 7).u 2)) x) (fun f => h.hjn _ _) [14] [] [] [], .q (h := wiG (A 11) (A 10) x b n nt sm vals (.biR "type.__call__" :: (lwK fr c1 c2 c3))) (fun f => h.hwi _ _) [17,16] [16] [] [], .q (h := idG (A 11) (A 10) (A 12) (A 13) step x b n nt sm (OV.mk' (tupV vals) ((e.τ 9).v 1)) (step * (t + step)) (lwK fr c1 c2 c3)) (fun f => h.hid _ _ _ _ _) [17,16,18,19] [] [] [], p0 (e_mul w step ((t + step)) (by first | assumption | omega) (by first | assumption | omega)), p0 (e_ne' w ‹((step * (t + step)) != (step * (t + step))) = false›), p0 (h.hrp), p0 (h.hpx), p0 (e_smul w 34 t (by first | assumption | omega) (by first | assumption | omega)), p0 (e_sadd w (rep 34 (Int.toNat t)) kS17 (by assumption)), p0 (e_sne w ((rep 34 (Int.toNat t)) ++ kS17) ((rep 34 (Int.toNat t)) ++ kS17) (by assumption)), p0 (h.hir), p1 (e_sslice w y (A 14) (some 3) none (by assumption)) [20], p0 (e_sadd w q (sliceS y (some 3) none) (by assumption))]) (T := (.v (.v (.v (.v (.v (.v .nil))))))) (x := fun e A G => [(A 11), (e.τ 20).t])
noncomputable def la0A (e : Amb) (it fr c1 c2 c3 sc dr pl le0 : Nat) (step room place p' t t0 xa da xb db b n nt : Int) (sm : Bool) (x y y0 q : Str) (la lb vals : List VV) : Nat → Nat := nA [4,5,8,1,1,1,1,8,1,4,5,8,1,1,8,9,1,1,1,1,1,1,1,1,1,4,1,1] [] e fun A G => [(A 11), (e.τ 20).t]
theorem la0_e (w : World) (it fr c1 c2 c3 sc dr pl le0 : Nat) (step room place p' t t0 xa da xb db b n nt : Int) (sm : Bool) (x y y0 q : Str) (la lb vals : List VV) (h : LAh w fr c1 c2 c3 step room place t xa da xb db b n nt sm x y q la lb vals) : CallW w (la0H it fr c1 c2 c3 sc dr pl le0 step room place p' t t0 xa da xb db b n nt sm x y y0 q la lb vals) (fun na => .call (.ref 311) ⟨[.str (q ++ (sliceS y (some 3) none)) (na 1)], []⟩) .fo (fun e W => (la0D w it fr c1 c2 c3 sc dr pl le0 step room place p' t t0 xa da xb db b n nt sm x y y0 q la lb vals h).R (fl1 w) (fl2 w) e W) (fun e _ => la0A e it fr c1 c2 c3 sc dr pl le0 step room place p' t t0 xa da xb db b n nt sm x y y0 q la lb vals) :=
  callW rfl (la0D w it fr c1 c2 c3 sc dr pl le0 step room place p' t t0 xa da xb db b n nt sm x y y0 q la lb vals h) (by kernel_rfl)
theorem la0_cc (w : World) (b1 b2 : Bool) (e : Amb) (cp : Nat → Cp) (it fr c1 c2 c3 sc dr pl le0 : Nat) (step room place p' t t0 xa da xb db b n nt : Int) (sm : Bool) (x y y0 q : Str) (la lb vals : List VV) (h : LAh w fr c1 c2 c3 step room place t xa da xb db b n nt sm x y q la lb vals) : (outOf ((la0D w it fr c1 c2 c3 sc dr pl le0 step room place p' t t0 xa da xb db b n nt sm x y y0 q la lb vals h).R b1 b2 e (buildW (ksLW fr c1 c2 c3) cp 0))).c = lwF it fr c1 c2 c3 := by
  cases b1 <;> kernel_rfl
noncomputable def la1H (it fr c1 c2 c3 sc dr pl le0 : Nat) (step room place p' t t0 xa da xb db b n nt : Int) (sm : Bool) (x y y0 q : Str) (la lb vals : List VV) : Hook := ⟨true, .code (lwF it fr c1 c2 c3), (some (ksLW fr c1 c2 c3)), [(fr, .vw ⟨.type "frame", none, (.fr [(kS24, .ref sc), (kS25, .ref dr), (kS49, .int t0), (kS50, .ref le0), (kS30, .str y0)] (some (.ref 315)) [(some (.ref 3)), none, (some .ni), none, (some (.ref 316)), (some (.ref 0)), (some (.ref c3)), (some (.ref c2)), (some (.ref c1))])⟩), (it, .vw ⟨.type "list_iterator", none, (.fields [.ref pl, .int 1])⟩), (pl, .vw ⟨.type "list", none, (.seq [.int p', .int place])⟩), (c1, .vw ⟨.type "cell", none, (.cell (some (.int step)))⟩), (c2, .vw ⟨.type "cell", none, (.cell (some (.int room)))⟩), (c3, .vw ⟨.type "cell", none, (.cell (some (.int p')))⟩)], fun na => .next, fun na => [(fr, ⟨.type "frame", none, (.fr [(kS24, .ref sc), (kS25, .ref dr), (kS49, .int t), (kS50, .ref (na 0)), (kS30, .str y)] (some (.ref 315)) [(some (.ref 3)), none, (some .ni), none, (some (.ref 316)), (some (.ref 0)), (some (.ref c3)), (some (.ref c2)), (some (.ref c1))])⟩), (it, ⟨.type "list_iterator", none, (.fields [.ref pl, .int 2])⟩), (c3, ⟨.type "cell", none, (.cell (some (.int place)))⟩)], fun na => [], [], fun na => []⟩
noncomputable def la1D (w : World) (it fr c1 c2 c3 sc dr pl le0 : Nat) (step room place p' t t0 xa da xb db b n nt : Int) (sm : Bool) (x y y0 q : Str) (la lb vals : List VV) (h : LAh w fr c1 c2 c3 step room place t xa da xb db b n nt sm x y q la lb vals) : WD w (la1H it fr c1 c2 c3 sc dr pl le0 step room place p' t t0 xa da xb db b n nt sm x y y0 q la lb vals) := wd [4,5,8,1,1,1,1,8,1,4,5,8,1,1,8,9,1,1,1,1,1,1,1,1,1,4,1,1] [0,1,5] [] 339 (dg 20 0x38fb0844c3e301d350cdd5d94df3f2f7f0e32b14bee9d33721cbdbf0568c424a31a1a810c14a8884a9305473e1ede6739c9d0d14039eeaa376b2eba7e535310b9fa62c3efc4199dba2e12da8442d4a1a0c431773275554d217587) (fun e _ A G => have hst := h.hst; have hrm := h.hrm; have hnr := h.hnr; have hsr := h.hsr; have hns := h.hns; have hss := h.hss; have ht := h.ht; have hy := h.hy; have hne1 := h.hne1; have hz1 := h.hz1; have hz2 := h.hz2; have hq := h.hq; [p1 (e_riter w (A 0) 0 room 1 room (by assumption) (by assumption)) [6], .q (h := kH (caGH (A 1) (A 2) (A 3) fr c1 c2 c3 step room place xa da la) (lwK fr c1 c2 c3)) (fun f => h.hca _ _ _) [7,9,3,4,5,8] [7,9,8] [] [], .q (h := sumH (A 2) (OV.mk' (listV la) ((e.τ 1).u 2)) t) (fun f => h.hsum _ _) [8] [] [] [], p0 (h.hcr), p0 (h.hpm), .q (h := lneH (A 4) (A 5) t) (fun f => e_lne w _ _ t) [10,11] [] [] [], p1 (e_riter w (A 6) 0 step 1 step (by assumption) (by assumption)) [12], .q (h := kH (cbGH (A 7) (A 8) (A 9) fr c2 c3 step room place xb db lb) (lwK fr c1 c2 c3)) (fun f => h.hcb _ _ _) [13,15,4,5,14] [13,15,14] [] [], .q (h := jnG (A 8) (OV.mk' (listV lb) ((e.τ 7).u 2)) x) (fun f => h.hjn _ _) [14] [] [] [], .q (h := wiG (A 11) (A 10) x b n nt sm vals (.biR "type.__call__" :: (lwK fr c1 c2 c3))) (fun f => h.hwi _ _) [17,16] [16] [] [], .q (h := idG (A 11) (A 10) (A 12) (A 13) step x b n nt sm (OV.mk' (tupV vals) ((e.τ 9).v 1)) (step * (t + step)) (lwK fr c1 c2 c3)) (fun f => h.hid _ _ _ _ _) [17,16,18,19] [] [] [], p0 (e_mul w step ((t + step)) (by first | assumption | omega) (by first | assumption | omega)), p0 (e_ne' w ‹((step * (t + step)) != (step * (t + step))) = false›), p0 (h.hrp), p0 (h.hpx), p0 (e_smul w 34 t (by first | assumption | omega) (by first | assumption | omega)), p0 (e_sadd w (rep 34 (Int.toNat t)) kS17 (by assumption)), p0 (e_sne w ((rep 34 (Int.toNat t)) ++ kS17) ((rep 34 (Int.toNat t)) ++ kS17) (by assumption)), p0 (h.hir), p1 (e_sslice w y (A 14) (some 3) none (by assumption)) [20], p0 (e_sadd w q (sliceS y (some 3) none) (by assumption))]) (T := (.v (.v (.v (.v (.v (.v .nil))))))) (x := fun e A G => [(A 11), (e.τ 20).t])
noncomputable def la1A (e : Amb) (it fr c1 c2 c3 sc dr pl le0 : Nat) (step room place p' t t0 xa da xb db b n nt : Int) (sm : Bool) (x y y0 q : Str) (la lb vals : List VV) : Nat → Nat := nA [4,5,8,1,1,1,1,8,1,4,5,8,1,1,8,9,1,1,1,1,1,1,1,1,1,4,1,1] [] e fun A G => [(A 11), (e.τ 20).t]
theorem la1_e (w : World) (it fr c1 c2 c3 sc dr pl le0 : Nat) (step room place p' t t0 xa da xb db b n nt : Int) (sm : Bool) (x y y0 q : Str) (la lb vals : List VV) (h : LAh w fr c1 c2 c3 step room place t xa da xb db b n nt sm x y q la lb vals) : CallW w (la1H it fr c1 c2 c3 sc dr pl le0 step room place p' t t0 xa da xb db b n nt sm x y y0 q la lb vals) (fun na => .call (.ref 311) ⟨[.str (q ++ (sliceS y (some 3) none)) (na 1)], []⟩) .fo (fun e W => (la1D w it fr c1 c2 c3 sc dr pl le0 step room place p' t t0 xa da xb db b n nt sm x y y0 q la lb vals h).R (fl1 w) (fl2 w) e W) (fun e _ => la1A e it fr c1 c2 c3 sc dr pl le0 step room place p' t t0 xa da xb db b n nt sm x y y0 q la lb vals) :=
  callW rfl (la1D w it fr c1 c2 c3 sc dr pl le0 step room place p' t t0 xa da xb db b n nt sm x y y0 q la lb vals h) (by kernel_rfl)
theorem la1_cc (w : World) (b1 b2 : Bool) (e : Amb) (cp : Nat → Cp) (it fr c1 c2 c3 sc dr pl le0 : Nat) (step room place p' t t0 xa da xb db b n nt : Int) (sm : Bool) (x y y0 q : Str) (la lb vals : List VV) (h : LAh w fr c1 c2 c3 step room place t xa da xb db b n nt sm x y q la lb vals) : (outOf ((la1D w it fr c1 c2 c3 sc dr pl le0 step room place p' t t0 xa da xb db b n nt sm x y y0 q la lb vals h).R b1 b2 e (buildW (ksLW fr c1 c2 c3) cp 0))).c = lwF it fr c1 c2 c3 := by
  cases b1 <;> kernel_rfl
noncomputable def lc0H (e1 : Amb) (it fr c1 c2 c3 sc dr pl le0 : Nat) (step room place p' t t0 xa da xb db b n nt : Int) (sm : Bool) (x y y0 q : Str) (la lb vals : List VV) : Hook := ⟨false, .code (lwF it fr c1 c2 c3), (some (ksLW fr c1 c2 c3)), [], fun na => .next, fun na => [], fun na => [], [], fun na => []⟩
theorem lc0_e (w : World) (base : List Frame) (s : Shared) (e1 : Amb) (it fr c1 c2 c3 sc dr pl le0 : Nat) (step room place p' t t0 xa da xb db b n nt : Int) (sm : Bool) (x y y0 q : Str) (la lb vals : List VV) (h : LAh w fr c1 c2 c3 step room place t xa da xb db b n nt sm x y q la lb vals) (hS : WOk (some (ksLW fr c1 c2 c3)) (base.map Frame.where_)) : TurnFr w (lc0H e1 it fr c1 c2 c3 sc dr pl le0 step room place p' t t0 xa da xb db b n nt sm x y y0 q la lb vals) base s ((la0D w it fr c1 c2 c3 sc dr pl le0 step room place p' t t0 xa da xb db b n nt sm x y y0 q la lb vals h).R (fl1 w) (fl2 w) e1 (base.map Frame.where_)) (.ok (.ret (.bool true))) (lwF it fr c1 c2 c3) := by
  exact turnFr rfl (wd [] [] [] 2 []) (fun b1 b2 W => (la0D w it fr c1 c2 c3 sc dr pl le0 step room place p' t t0 xa da xb db b n nt sm x y y0 q la lb vals h).R b1 b2 e1 W) hS (by kernel_rfl)
noncomputable def lc1H (e1 : Amb) (it fr c1 c2 c3 sc dr pl le0 : Nat) (step room place p' t t0 xa da xb db b n nt : Int) (sm : Bool) (x y y0 q : Str) (la lb vals : List VV) : Hook := ⟨false, .code (lwF it fr c1 c2 c3), (some (ksLW fr c1 c2 c3)), [], fun na => .next, fun na => [], fun na => [], [], fun na => []⟩
theorem lc1_e (w : World) (base : List Frame) (s : Shared) (e1 : Amb) (it fr c1 c2 c3 sc dr pl le0 : Nat) (step room place p' t t0 xa da xb db b n nt : Int) (sm : Bool) (x y y0 q : Str) (la lb vals : List VV) (h : LAh w fr c1 c2 c3 step room place t xa da xb db b n nt sm x y q la lb vals) (hS : WOk (some (ksLW fr c1 c2 c3)) (base.map Frame.where_)) : TurnFr w (lc1H e1 it fr c1 c2 c3 sc dr pl le0 step room place p' t t0 xa da xb db b n nt sm x y y0 q la lb vals) base s ((la1D w it fr c1 c2 c3 sc dr pl le0 step room place p' t t0 xa da xb db b n nt sm x y y0 q la lb vals h).R (fl1 w) (fl2 w) e1 (base.map Frame.where_)) (.ok (.ret (.bool true))) (lwF it fr c1 c2 c3) := by
  exact turnFr rfl (wd [] [] [] 2 []) (fun b1 b2 W => (la1D w it fr c1 c2 c3 sc dr pl le0 step room place p' t t0 xa da xb db b n nt sm x y y0 q la lb vals h).R b1 b2 e1 W) hS (by kernel_rfl)
noncomputable def lt0TH (sc : Nat) : Hook := ⟨false, .call (.ref 316) [.ref sc], (some ksTp), [(sc, .vw ⟨.type "list", none, (.seq [])⟩)], fun na => .next, fun na => [], fun na => [⟨.type "frame", none, (.dict [(kS24, .ref sc), (kS25, .ref (na 6))])⟩, ⟨.type "list_iterator", none, (.fields [.ref (na 2), .int 0])⟩, ⟨.type "list", none, (.seq [.int 2, .int 7])⟩, ⟨.type "cell", none, (.cell (some (.int 4)))⟩, ⟨.type "cell", none, (.cell (some (.int 6)))⟩, ⟨.type "cell", none, (.cell none)⟩], [], fun na => []⟩
noncomputable def lt0TD (w : World) (sc : Nat)  (hb2 : fl2 w = true) : WD w (lt0TH sc) := wd [68] [] [0,16,15,1,2,3] 254 (dg 20 0x10fdc7d5070d41440aee0f4f86b3e00aa53de42ee71b05dacc368eea50fdfca50c4ef7559a8452f66805cd0be0be9bf6f7a8042d83baa195702ef85) (T := (.v .nil)) (x := fun e A G => [(A 14)])
noncomputable def lt0TA (e : Amb) (sc : Nat) : Nat → Nat := nA [68] [0,16,15,1,2,3] e fun A G => [(A 14)]
theorem lt0T_e (w : World) (sc : Nat)  (hb2 : fl2 w = true) : CallW w (lt0TH sc) (fun na => lwF (na 1) (na 0) (na 3) (na 4) (na 5)) .func (fun e W => (lt0TD w sc hb2).R (fl1 w) (fl2 w) e W) (fun e _ => lt0TA e sc) :=
  callW hb2 (lt0TD w sc hb2) (by kernel_rfl)
theorem lt0T_cc (w : World) (b1 : Bool) (e : Amb) (cp : Nat → Cp) (sc : Nat) (hb2 : fl2 w = true) : (outOf ((lt0TD w sc hb2).R b1 true e (buildW ksTp cp 0))).c = lwC (lt0TA e sc 0) (lt0TA e sc 3) (lt0TA e sc 4) (lt0TA e sc 5) := by
  cases b1 <;> kernel_rfl
noncomputable def ld0TH (e1 : Amb) (sc : Nat) : Hook := ⟨false, .call (.ref 316) [.ref sc], (some ksTp), [], fun na => .ret (.bool true), fun na => [], fun na => [], [], fun na => []⟩
theorem ld0T_e (w : World) (base : List Frame) (s : Shared) (e1 : Amb) (sc : Nat)  (hb2 : fl2 w = true) (hS : WOk (some ksTp) (base.map Frame.where_)) : EffFr w (ld0TH e1 sc) base s ((lt0TD w sc hb2).R (fl1 w) (fl2 w) e1 (base.map Frame.where_)) (.ok .next) := by
  exact effFr hb2 (wd [] [] [] 1 []) (fun b1 b2 W => (lt0TD w sc hb2).R b1 b2 e1 W) hS (by kernel_rfl)
noncomputable def leH (it fr c1 c2 c3 pl : Nat) (p p' : Int) : Hook := ⟨false, .code (lwF it fr c1 c2 c3), (some (ksLW fr c1 c2 c3)), [(it, .vw ⟨.type "list_iterator", none, (.fields [.ref pl, .int 2])⟩), (pl, .vw ⟨.type "list", none, (.seq [.int p, .int p'])⟩)], fun na => .next, fun na => [(it, ⟨.type "list_iterator", none, (.fields [.none, .int 2])⟩)], fun na => [], [], fun na => []⟩
theorem le_e (w : World) (it fr c1 c2 c3 pl : Nat) (p p' : Int)  : Eff w (leH it fr c1 c2 c3 pl p p') :=
  effW rfl (wd [8] [0] [] 17 (dg 16 0x1522322212) (T := (.v (.v .nil)))) (by kernel_rfl)
noncomputable def lt0FH (sc : Nat) : Hook := ⟨false, .call (.ref 316) [.ref sc], (some ksTp), [(sc, .vw ⟨.type "list", none, (.seq [])⟩)], fun na => .next, fun na => [], fun na => [⟨.type "frame", none, (.dict [(kS24, .ref sc), (kS25, .ref (na 6))])⟩, ⟨.type "list_iterator", none, (.fields [.ref (na 2), .int 0])⟩, ⟨.type "list", none, (.seq [.int 2, .int 7])⟩, ⟨.type "cell", none, (.cell (some (.int 4)))⟩, ⟨.type "cell", none, (.cell (some (.int 6)))⟩, ⟨.type "cell", none, (.cell none)⟩], [], fun na => []⟩
noncomputable def lt0FD (w : World) (sc : Nat)  (hb2 : fl2 w = false) : WD w (lt0FH sc) := wd [68] [] [0,16,15,1,2,3] 264 (dg 20 0x33da7a16dbc5336ce65b003971d46f787cc7209c22c7379df7b57fa493ab1b42afcffc4dfdcc522e78f3b4007f9db245cdafa1dd806e31a3aa195702ef85) (T := (.v .nil)) (x := fun e A G => [(A 14)])
noncomputable def lt0FA (e : Amb) (sc : Nat) : Nat → Nat := nA [68] [0,16,15,1,2,3] e fun A G => [(A 14)]
theorem lt0F_e (w : World) (sc : Nat)  (hb2 : fl2 w = false) : CallW w (lt0FH sc) (fun na => lwF (na 1) (na 0) (na 3) (na 4) (na 5)) .func (fun e W => (lt0FD w sc hb2).R (fl1 w) (fl2 w) e W) (fun e _ => lt0FA e sc) :=
  callW hb2 (lt0FD w sc hb2) (by kernel_rfl)
theorem lt0F_cc (w : World) (b1 : Bool) (e : Amb) (cp : Nat → Cp) (sc : Nat) (hb2 : fl2 w = false) : (outOf ((lt0FD w sc hb2).R b1 false e (buildW ksTp cp 0))).c = lwC (lt0FA e sc 0) (lt0FA e sc 3) (lt0FA e sc 4) (lt0FA e sc 5) := by
  cases b1 <;> kernel_rfl
noncomputable def ld0FH (e1 : Amb) (sc : Nat) : Hook := ⟨false, .call (.ref 316) [.ref sc], (some ksTp), [], fun na => .ret (.bool true), fun na => [], fun na => [], [], fun na => []⟩
theorem ld0F_e (w : World) (base : List Frame) (s : Shared) (e1 : Amb) (sc : Nat)  (hb2 : fl2 w = false) (hS : WOk (some ksTp) (base.map Frame.where_)) : EffFr w (ld0FH e1 sc) base s ((lt0FD w sc hb2).R (fl1 w) (fl2 w) e1 (base.map Frame.where_)) (.ok .next) := by
  exact effFr hb2 (wd [] [] [] 1 []) (fun b1 b2 W => (lt0FD w sc hb2).R b1 b2 e1 W) hS (by kernel_rfl)
noncomputable def lt1TH (sc : Nat) (x0 : Int) : Hook := ⟨false, .call (.ref 316) [.ref sc], (some ksTp), [(sc, .vw ⟨.type "list", none, (.seq [.int x0])⟩)], fun na => .next, fun na => [], fun na => [⟨.type "frame", none, (.dict [(kS24, .ref sc), (kS25, .ref (na 6))])⟩, ⟨.type "list_iterator", none, (.fields [.ref (na 2), .int 0])⟩, ⟨.type "list", none, (.seq [.int 2, .int 7])⟩, ⟨.type "cell", none, (.cell (some (.int (1 + Int.fmod (Int.fmod x0 1000000) 6))))⟩, ⟨.type "cell", none, (.cell (some (.int 6)))⟩, ⟨.type "cell", none, (.cell none)⟩], [], fun na => []⟩
noncomputable def lt1TD (w : World) (sc : Nat) (x0 : Int)  (hb2 : fl2 w = true) : WD w (lt1TH sc x0) := wd [36,1,24,1,8] [] [0,16,15,1,2,3] 292 (dg 20 0x5c1c3535b65cd9165d72520c7f94e7ea457f0bd08cff1112a37f061b5b6eff2aadd021a69ae017e5c3e77d80cc59e69768b7aff0ed0d540906603a614864583baa195702ef85) (fun e _ A G => [.q (h := pureH "int.__mod__" [.int x0, .int 1000000] (.int (Int.fmod x0 1000000))) (fun f => e_mod w _ _ (by decide)) [] [] [] [], .q (h := pureH "int.__mod__" [.int ((Int.fmod x0 1000000)), .int 6] (.int (Int.fmod ((Int.fmod x0 1000000)) 6))) (fun f => e_mod w _ _ (by decide)) [] [] [] []]) (T := (.v .nil)) (x := fun e A G => [(A 14)])
noncomputable def lt1TA (e : Amb) (sc : Nat) (x0 : Int) : Nat → Nat := nA [36,1,24,1,8] [0,16,15,1,2,3] e fun A G => [(A 14)]
theorem lt1T_e (w : World) (sc : Nat) (x0 : Int)  (hb2 : fl2 w = true) : CallW w (lt1TH sc x0) (fun na => lwF (na 1) (na 0) (na 3) (na 4) (na 5)) .func (fun e W => (lt1TD w sc x0 hb2).R (fl1 w) (fl2 w) e W) (fun e _ => lt1TA e sc x0) :=
  callW hb2 (lt1TD w sc x0 hb2) (by kernel_rfl)
theorem lt1T_cc (w : World) (b1 : Bool) (e : Amb) (cp : Nat → Cp) (sc : Nat) (x0 : Int) (hb2 : fl2 w = true) : (outOf ((lt1TD w sc x0 hb2).R b1 true e (buildW ksTp cp 0))).c = lwC (lt1TA e sc x0 0) (lt1TA e sc x0 3) (lt1TA e sc x0 4) (lt1TA e sc x0 5) := by
  cases b1 <;> kernel_rfl
noncomputable def ld1TH (e1 : Amb) (sc : Nat) (x0 : Int) : Hook := ⟨false, .call (.ref 316) [.ref sc], (some ksTp), [], fun na => .ret (.bool true), fun na => [], fun na => [], [], fun na => []⟩
theorem ld1T_e (w : World) (base : List Frame) (s : Shared) (e1 : Amb) (sc : Nat) (x0 : Int)  (hb2 : fl2 w = true) (hS : WOk (some ksTp) (base.map Frame.where_)) : EffFr w (ld1TH e1 sc x0) base s ((lt1TD w sc x0 hb2).R (fl1 w) (fl2 w) e1 (base.map Frame.where_)) (.ok .next) := by
  exact effFr hb2 (wd [] [] [] 1 []) (fun b1 b2 W => (lt1TD w sc x0 hb2).R b1 b2 e1 W) hS (by kernel_rfl)
noncomputable def lt1FH (sc : Nat) (x0 : Int) : Hook := ⟨false, .call (.ref 316) [.ref sc], (some ksTp), [(sc, .vw ⟨.type "list", none, (.seq [.int x0])⟩)], fun na => .next, fun na => [], fun na => [⟨.type "frame", none, (.dict [(kS24, .ref sc), (kS25, .ref (na 6))])⟩, ⟨.type "list_iterator", none, (.fields [.ref (na 2), .int 0])⟩, ⟨.type "list", none, (.seq [.int 2, .int 7])⟩, ⟨.type "cell", none, (.cell (some (.int (1 + Int.fmod (Int.fmod x0 1000000) 6))))⟩, ⟨.type "cell", none, (.cell (some (.int 6)))⟩, ⟨.type "cell", none, (.cell none)⟩], [], fun na => []⟩
noncomputable def lt1FD (w : World) (sc : Nat) (x0 : Int)  (hb2 : fl2 w = false) : WD w (lt1FH sc x0) := wd [36,1,24,1,8] [] [0,16,15,1,2,3] 302 (dg 20 0x1191915622ac6d97f80ad20e4a4592cbfb095f6ce324966da21736562fcc87c34feef6ab1b02460edf01a33c14fa15af5905291adff6cecb48ac2100fc45e13e6e31a3aa195702ef85) (fun e _ A G => [.q (h := pureH "int.__mod__" [.int x0, .int 1000000] (.int (Int.fmod x0 1000000))) (fun f => e_mod w _ _ (by decide)) [] [] [] [], .q (h := pureH "int.__mod__" [.int ((Int.fmod x0 1000000)), .int 6] (.int (Int.fmod ((Int.fmod x0 1000000)) 6))) (fun f => e_mod w _ _ (by decide)) [] [] [] []]) (T := (.v .nil)) (x := fun e A G => [(A 14)])
noncomputable def lt1FA (e : Amb) (sc : Nat) (x0 : Int) : Nat → Nat := nA [36,1,24,1,8] [0,16,15,1,2,3] e fun A G => [(A 14)]
theorem lt1F_e (w : World) (sc : Nat) (x0 : Int)  (hb2 : fl2 w = false) : CallW w (lt1FH sc x0) (fun na => lwF (na 1) (na 0) (na 3) (na 4) (na 5)) .func (fun e W => (lt1FD w sc x0 hb2).R (fl1 w) (fl2 w) e W) (fun e _ => lt1FA e sc x0) :=
  callW hb2 (lt1FD w sc x0 hb2) (by kernel_rfl)
theorem lt1F_cc (w : World) (b1 : Bool) (e : Amb) (cp : Nat → Cp) (sc : Nat) (x0 : Int) (hb2 : fl2 w = false) : (outOf ((lt1FD w sc x0 hb2).R b1 false e (buildW ksTp cp 0))).c = lwC (lt1FA e sc x0 0) (lt1FA e sc x0 3) (lt1FA e sc x0 4) (lt1FA e sc x0 5) := by
  cases b1 <;> kernel_rfl
noncomputable def ld1FH (e1 : Amb) (sc : Nat) (x0 : Int) : Hook := ⟨false, .call (.ref 316) [.ref sc], (some ksTp), [], fun na => .ret (.bool true), fun na => [], fun na => [], [], fun na => []⟩
theorem ld1F_e (w : World) (base : List Frame) (s : Shared) (e1 : Amb) (sc : Nat) (x0 : Int)  (hb2 : fl2 w = false) (hS : WOk (some ksTp) (base.map Frame.where_)) : EffFr w (ld1FH e1 sc x0) base s ((lt1FD w sc x0 hb2).R (fl1 w) (fl2 w) e1 (base.map Frame.where_)) (.ok .next) := by
  exact effFr hb2 (wd [] [] [] 1 []) (fun b1 b2 W => (lt1FD w sc x0 hb2).R b1 b2 e1 W) hS (by kernel_rfl)
noncomputable def lt2TH (sc : Nat) (x0 x1 : Int) : Hook := ⟨false, .call (.ref 316) [.ref sc], (some ksTp), [(sc, .vw ⟨.type "list", none, (.seq [.int x0, .int x1])⟩)], fun na => .next, fun na => [], fun na => [⟨.type "frame", none, (.dict [(kS24, .ref sc), (kS25, .ref (na 6))])⟩, ⟨.type "list_iterator", none, (.fields [.ref (na 2), .int 0])⟩, ⟨.type "list", none, (.seq [.int 2, .int 7])⟩, ⟨.type "cell", none, (.cell (some (.int (1 + Int.fmod (Int.fmod x0 1000000) 6))))⟩, ⟨.type "cell", none, (.cell (some (.int (1 + Int.fmod (Int.fmod x1 1000000) 6))))⟩, ⟨.type "cell", none, (.cell none)⟩], [], fun na => []⟩
noncomputable def lt2TD (w : World) (sc : Nat) (x0 x1 : Int)  (hb2 : fl2 w = true) : WD w (lt2TH sc x0 x1) := wd [36,1,1,24,1,1,8] [] [0,16,15,1,2,3] 326 (dg 20 0x13f9247bec2838cdba10449db98183dd0b22607703844e54699ac04c555c05737c4fe1bf46ce3f1f77b1591021c3e456414d36135b4c89c87024c644ca4ef53a498a64b83a614864583baa195702ef85) (fun e _ A G => [.q (h := pureH "int.__mod__" [.int x0, .int 1000000] (.int (Int.fmod x0 1000000))) (fun f => e_mod w _ _ (by decide)) [] [] [] [], .q (h := pureH "int.__mod__" [.int x1, .int 1000000] (.int (Int.fmod x1 1000000))) (fun f => e_mod w _ _ (by decide)) [] [] [] [], .q (h := pureH "int.__mod__" [.int ((Int.fmod x0 1000000)), .int 6] (.int (Int.fmod ((Int.fmod x0 1000000)) 6))) (fun f => e_mod w _ _ (by decide)) [] [] [] [], .q (h := pureH "int.__mod__" [.int ((Int.fmod x1 1000000)), .int 6] (.int (Int.fmod ((Int.fmod x1 1000000)) 6))) (fun f => e_mod w _ _ (by decide)) [] [] [] []]) (T := (.v .nil)) (x := fun e A G => [(A 14)])
noncomputable def lt2TA (e : Amb) (sc : Nat) (x0 x1 : Int) : Nat → Nat := nA [36,1,1,24,1,1,8] [0,16,15,1,2,3] e fun A G => [(A 14)]
theorem lt2T_e (w : World) (sc : Nat) (x0 x1 : Int)  (hb2 : fl2 w = true) : CallW w (lt2TH sc x0 x1) (fun na => lwF (na 1) (na 0) (na 3) (na 4) (na 5)) .func (fun e W => (lt2TD w sc x0 x1 hb2).R (fl1 w) (fl2 w) e W) (fun e _ => lt2TA e sc x0 x1) :=
  callW hb2 (lt2TD w sc x0 x1 hb2) (by kernel_rfl)
theorem lt2T_cc (w : World) (b1 : Bool) (e : Amb) (cp : Nat → Cp) (sc : Nat) (x0 x1 : Int) (hb2 : fl2 w = true) : (outOf ((lt2TD w sc x0 x1 hb2).R b1 true e (buildW ksTp cp 0))).c = lwC (lt2TA e sc x0 x1 0) (lt2TA e sc x0 x1 3) (lt2TA e sc x0 x1 4) (lt2TA e sc x0 x1 5) := by
  cases b1 <;> kernel_rfl
noncomputable def ld2TH (e1 : Amb) (sc : Nat) (x0 x1 : Int) : Hook := ⟨false, .call (.ref 316) [.ref sc], (some ksTp), [], fun na => .ret (.bool true), fun na => [], fun na => [], [], fun na => []⟩
theorem ld2T_e (w : World) (base : List Frame) (s : Shared) (e1 : Amb) (sc : Nat) (x0 x1 : Int)  (hb2 : fl2 w = true) (hS : WOk (some ksTp) (base.map Frame.where_)) : EffFr w (ld2TH e1 sc x0 x1) base s ((lt2TD w sc x0 x1 hb2).R (fl1 w) (fl2 w) e1 (base.map Frame.where_)) (.ok .next) := by
  exact effFr hb2 (wd [] [] [] 1 []) (fun b1 b2 W => (lt2TD w sc x0 x1 hb2).R b1 b2 e1 W) hS (by kernel_rfl)
noncomputable def lt2FH (sc : Nat) (x0 x1 : Int) : Hook := ⟨false, .call (.ref 316) [.ref sc], (some ksTp), [(sc, .vw ⟨.type "list", none, (.seq [.int x0, .int x1])⟩)], fun na => .next, fun na => [], fun na => [⟨.type "frame", none, (.dict [(kS24, .ref sc), (kS25, .ref (na 6))])⟩, ⟨.type "list_iterator", none, (.fields [.ref (na 2), .int 0])⟩, ⟨.type "list", none, (.seq [.int 2, .int 7])⟩, ⟨.type "cell", none, (.cell (some (.int (1 + Int.fmod (Int.fmod x0 1000000) 6))))⟩, ⟨.type "cell", none, (.cell (some (.int (1 + Int.fmod (Int.fmod x1 1000000) 6))))⟩, ⟨.type "cell", none, (.cell none)⟩], [], fun na => []⟩
noncomputable def lt2FD (w : World) (sc : Nat) (x0 x1 : Int)  (hb2 : fl2 w = false) : WD w (lt2FH sc x0 x1) := wd [36,1,1,24,1,1,8] [] [0,16,15,1,2,3] 336 (dg 20 0x3cf412972e71bf59d4122566565e7faa523aa8e3337b840b1b478358f37f13a2af1ec7acfad4ea22c805f90c7b0b10943ac8e146925f537af03c3a116e6575e020ed97ec1e0fc45e13e6e31a3aa195702ef85) (fun e _ A G => [.q (h := pureH "int.__mod__" [.int x0, .int 1000000] (.int (Int.fmod x0 1000000))) (fun f => e_mod w _ _ (by decide)) [] [] [] [], .q (h := pureH "int.__mod__" [.int x1, .int 1000000] (.int (Int.fmod x1 1000000))) (fun f => e_mod w _ _ (by decide)) [] [] [] [], .q (h := pureH "int.__mod__" [.int ((Int.fmod x0 1000000)), .int 6] (.int (Int.fmod ((Int.fmod x0 1000000)) 6))) (fun f => e_mod w _ _ (by decide)) [] [] [] [], .q (h := pureH "int.__mod__" [.int ((Int.fmod x1 1000000)), .int 6] (.int (Int.fmod ((Int.fmod x1 1000000)) 6))) (fun f => e_mod w _ _ (by decide)) [] [] [] []]) (T := (.v .nil)) (x := fun e A G => [(A 14)])
noncomputable def lt2FA (e : Amb) (sc : Nat) (x0 x1 : Int) : Nat → Nat := nA [36,1,1,24,1,1,8] [0,16,15,1,2,3] e fun A G => [(A 14)]
theorem lt2F_e (w : World) (sc : Nat) (x0 x1 : Int)  (hb2 : fl2 w = false) : CallW w (lt2FH sc x0 x1) (fun na => lwF (na 1) (na 0) (na 3) (na 4) (na 5)) .func (fun e W => (lt2FD w sc x0 x1 hb2).R (fl1 w) (fl2 w) e W) (fun e _ => lt2FA e sc x0 x1) :=
  callW hb2 (lt2FD w sc x0 x1 hb2) (by kernel_rfl)
theorem lt2F_cc (w : World) (b1 : Bool) (e : Amb) (cp : Nat → Cp) (sc : Nat) (x0 x1 : Int) (hb2 : fl2 w = false) : (outOf ((lt2FD w sc x0 x1 hb2).R b1 false e (buildW ksTp cp 0))).c = lwC (lt2FA e sc x0 x1 0) (lt2FA e sc x0 x1 3) (lt2FA e sc x0 x1 4) (lt2FA e sc x0 x1 5) := by
  cases b1 <;> kernel_rfl
noncomputable def ld2FH (e1 : Amb) (sc : Nat) (x0 x1 : Int) : Hook := ⟨false, .call (.ref 316) [.ref sc], (some ksTp), [], fun na => .ret (.bool true), fun na => [], fun na => [], [], fun na => []⟩
theorem ld2F_e (w : World) (base : List Frame) (s : Shared) (e1 : Amb) (sc : Nat) (x0 x1 : Int)  (hb2 : fl2 w = false) (hS : WOk (some ksTp) (base.map Frame.where_)) : EffFr w (ld2FH e1 sc x0 x1) base s ((lt2FD w sc x0 x1 hb2).R (fl1 w) (fl2 w) e1 (base.map Frame.where_)) (.ok .next) := by
  exact effFr hb2 (wd [] [] [] 1 []) (fun b1 b2 W => (lt2FD w sc x0 x1 hb2).R b1 b2 e1 W) hS (by kernel_rfl)
noncomputable def lt3TH (sc : Nat) (x0 x1 x2 : Int) : Hook := ⟨false, .call (.ref 316) [.ref sc], (some ksTp), [(sc, .vw ⟨.type "list", none, (.seq [.int x0, .int x1, .int x2])⟩)], fun na => .next, fun na => [], fun na => [⟨.type "frame", none, (.dict [(kS24, .ref sc), (kS25, .ref (na 6))])⟩, ⟨.type "list_iterator", none, (.fields [.ref (na 2), .int 0])⟩, ⟨.type "list", none, (.seq [.int (Int.fmod (Int.fmod x2 1000000) 9), .int 7])⟩, ⟨.type "cell", none, (.cell (some (.int (1 + Int.fmod (Int.fmod x0 1000000) 6))))⟩, ⟨.type "cell", none, (.cell (some (.int (1 + Int.fmod (Int.fmod x1 1000000) 6))))⟩, ⟨.type "cell", none, (.cell none)⟩], [], fun na => []⟩
noncomputable def lt3TD (w : World) (sc : Nat) (x0 x1 x2 : Int)  (hb2 : fl2 w = true) : WD w (lt3TH sc x0 x1 x2) := wd [36,1,1,1,24,1,1,1,8] [] [0,16,15,1,2,3] 360 (dg 20 0x454bc6d6e827af7c147dffa8890d65697c485d0e2fd7def51308a38bf2be0d3746b87f5e30b1113ce549c4d3ddf2a8e136f53160130e362f6adb39c725974b1cc8744417b4014bffeba498a64b83a614864583baa195702ef85) (fun e _ A G => [.q (h := pureH "int.__mod__" [.int x0, .int 1000000] (.int (Int.fmod x0 1000000))) (fun f => e_mod w _ _ (by decide)) [] [] [] [], .q (h := pureH "int.__mod__" [.int x1, .int 1000000] (.int (Int.fmod x1 1000000))) (fun f => e_mod w _ _ (by decide)) [] [] [] [], .q (h := pureH "int.__mod__" [.int x2, .int 1000000] (.int (Int.fmod x2 1000000))) (fun f => e_mod w _ _ (by decide)) [] [] [] [], .q (h := pureH "int.__mod__" [.int ((Int.fmod x0 1000000)), .int 6] (.int (Int.fmod ((Int.fmod x0 1000000)) 6))) (fun f => e_mod w _ _ (by decide)) [] [] [] [], .q (h := pureH "int.__mod__" [.int ((Int.fmod x1 1000000)), .int 6] (.int (Int.fmod ((Int.fmod x1 1000000)) 6))) (fun f => e_mod w _ _ (by decide)) [] [] [] [], .q (h := pureH "int.__mod__" [.int ((Int.fmod x2 1000000)), .int 9] (.int (Int.fmod ((Int.fmod x2 1000000)) 9))) (fun f => e_mod w _ _ (by decide)) [] [] [] []]) (T := (.v .nil)) (x := fun e A G => [(A 14)])
noncomputable def lt3TA (e : Amb) (sc : Nat) (x0 x1 x2 : Int) : Nat → Nat := nA [36,1,1,1,24,1,1,1,8] [0,16,15,1,2,3] e fun A G => [(A 14)]
theorem lt3T_e (w : World) (sc : Nat) (x0 x1 x2 : Int)  (hb2 : fl2 w = true) : CallW w (lt3TH sc x0 x1 x2) (fun na => lwF (na 1) (na 0) (na 3) (na 4) (na 5)) .func (fun e W => (lt3TD w sc x0 x1 x2 hb2).R (fl1 w) (fl2 w) e W) (fun e _ => lt3TA e sc x0 x1 x2) :=
  callW hb2 (lt3TD w sc x0 x1 x2 hb2) (by kernel_rfl)
theorem lt3T_cc (w : World) (b1 : Bool) (e : Amb) (cp : Nat → Cp) (sc : Nat) (x0 x1 x2 : Int) (hb2 : fl2 w = true) : (outOf ((lt3TD w sc x0 x1 x2 hb2).R b1 true e (buildW ksTp cp 0))).c = lwC (lt3TA e sc x0 x1 x2 0) (lt3TA e sc x0 x1 x2 3) (lt3TA e sc x0 x1 x2 4) (lt3TA e sc x0 x1 x2 5) := by
  cases b1 <;> kernel_rfl
noncomputable def ld3TH (e1 : Amb) (sc : Nat) (x0 x1 x2 : Int) : Hook := ⟨false, .call (.ref 316) [.ref sc], (some ksTp), [], fun na => .ret (.bool true), fun na => [], fun na => [], [], fun na => []⟩
theorem ld3T_e (w : World) (base : List Frame) (s : Shared) (e1 : Amb) (sc : Nat) (x0 x1 x2 : Int)  (hb2 : fl2 w = true) (hS : WOk (some ksTp) (base.map Frame.where_)) : EffFr w (ld3TH e1 sc x0 x1 x2) base s ((lt3TD w sc x0 x1 x2 hb2).R (fl1 w) (fl2 w) e1 (base.map Frame.where_)) (.ok .next) := by
  exact effFr hb2 (wd [] [] [] 1 []) (fun b1 b2 W => (lt3TD w sc x0 x1 x2 hb2).R b1 b2 e1 W) hS (by kernel_rfl)
noncomputable def lt3FH (sc : Nat) (x0 x1 x2 : Int) : Hook := ⟨false, .call (.ref 316) [.ref sc], (some ksTp), [(sc, .vw ⟨.type "list", none, (.seq [.int x0, .int x1, .int x2])⟩)], fun na => .next, fun na => [], fun na => [⟨.type "frame", none, (.dict [(kS24, .ref sc), (kS25, .ref (na 6))])⟩, ⟨.type "list_iterator", none, (.fields [.ref (na 2), .int 0])⟩, ⟨.type "list", none, (.seq [.int (Int.fmod (Int.fmod x2 1000000) 9), .int 7])⟩, ⟨.type "cell", none, (.cell (some (.int (1 + Int.fmod (Int.fmod x0 1000000) 6))))⟩, ⟨.type "cell", none, (.cell (some (.int (1 + Int.fmod (Int.fmod x1 1000000) 6))))⟩, ⟨.type "cell", none, (.cell none)⟩], [], fun na => []⟩
noncomputable def lt3FD (w : World) (sc : Nat) (x0 x1 x2 : Int)  (hb2 : fl2 w = false) : WD w (lt3FH sc x0 x1 x2) := wd [36,1,1,1,24,1,1,1,8] [] [0,16,15,1,2,3] 370 (dg 20 0xd379808f57fb1c4969898475144021bc2a87d5fb8b81892968561d1ad68a7dd4f0928ab232185ddb16bb5feb9114c9e14cf7c4ee72271edc34d98612ff77f5f996bcd0cd5614f52ec1e00ed97ec1e0fc45e13e6e31a3aa195702ef85) (fun e _ A G => [.q (h := pureH "int.__mod__" [.int x0, .int 1000000] (.int (Int.fmod x0 1000000))) (fun f => e_mod w _ _ (by decide)) [] [] [] [], .q (h := pureH "int.__mod__" [.int x1, .int 1000000] (.int (Int.fmod x1 1000000))) (fun f => e_mod w _ _ (by decide)) [] [] [] [], .q (h := pureH "int.__mod__" [.int x2, .int 1000000] (.int (Int.fmod x2 1000000))) (fun f => e_mod w _ _ (by decide)) [] [] [] [], .q (h := pureH "int.__mod__" [.int ((Int.fmod x0 1000000)), .int 6] (.int (Int.fmod ((Int.fmod x0 1000000)) 6))) (fun f => e_mod w _ _ (by decide)) [] [] [] [], .q (h := pureH "int.__mod__" [.int ((Int.fmod x1 1000000)), .int 6] (.int (Int.fmod ((Int.fmod x1 1000000)) 6))) (fun f => e_mod w _ _ (by decide)) [] [] [] [], .q (h := pureH "int.__mod__" [.int ((Int.fmod x2 1000000)), .int 9] (.int (Int.fmod ((Int.fmod x2 1000000)) 9))) (fun f => e_mod w _ _ (by decide)) [] [] [] []]) (T := (.v .nil)) (x := fun e A G => [(A 14)])
noncomputable def lt3FA (e : Amb) (sc : Nat) (x0 x1 x2 : Int) : Nat → Nat := nA [36,1,1,1,24,1,1,1,8] [0,16,15,1,2,3] e fun A G => [(A 14)]
theorem lt3F_e (w : World) (sc : Nat) (x0 x1 x2 : Int)  (hb2 : fl2 w = false) : CallW w (lt3FH sc x0 x1 x2) (fun na => lwF (na 1) (na 0) (na 3) (na 4) (na 5)) .func (fun e W => (lt3FD w sc x0 x1 x2 hb2).R (fl1 w) (fl2 w) e W) (fun e _ => lt3FA e sc x0 x1 x2) :=
  callW hb2 (lt3FD w sc x0 x1 x2 hb2) (by kernel_rfl)
theorem lt3F_cc (w : World) (b1 : Bool) (e : Amb) (cp : Nat → Cp) (sc : Nat) (x0 x1 x2 : Int) (hb2 : fl2 w = false) : (outOf ((lt3FD w sc x0 x1 x2 hb2).R b1 false e (buildW ksTp cp 0))).c = lwC (lt3FA e sc x0 x1 x2 0) (lt3FA e sc x0 x1 x2 3) (lt3FA e sc x0 x1 x2 4) (lt3FA e sc x0 x1 x2 5) := by
  cases b1 <;> kernel_rfl
noncomputable def ld3FH (e1 : Amb) (sc : Nat) (x0 x1 x2 : Int) : Hook := ⟨false, .call (.ref 316) [.ref sc], (some ksTp), [], fun na => .ret (.bool true), fun na => [], fun na => [], [], fun na => []⟩
theorem ld3F_e (w : World) (base : List Frame) (s : Shared) (e1 : Amb) (sc : Nat) (x0 x1 x2 : Int)  (hb2 : fl2 w = false) (hS : WOk (some ksTp) (base.map Frame.where_)) : EffFr w (ld3FH e1 sc x0 x1 x2) base s ((lt3FD w sc x0 x1 x2 hb2).R (fl1 w) (fl2 w) e1 (base.map Frame.where_)) (.ok .next) := by
  exact effFr hb2 (wd [] [] [] 1 []) (fun b1 b2 W => (lt3FD w sc x0 x1 x2 hb2).R b1 b2 e1 W) hS (by kernel_rfl)
noncomputable def lt4TH (sc : Nat) (x0 x1 x2 x3 : Int) (ls : List VV) (κ : TK) : Hook := ⟨false, .call (.ref 316) [.ref sc], (some ksTp), [(sc, .ob (OV.mk' (listV (.int x0 :: .int x1 :: .int x2 :: .int x3 :: ls)) κ))], fun na => .next, fun na => [], fun na => [⟨.type "frame", none, (.dict [(kS24, .ref sc), (kS25, .ref (na 6))])⟩, ⟨.type "list_iterator", none, (.fields [.ref (na 2), .int 0])⟩, ⟨.type "list", none, (.seq [.int (Int.fmod (Int.fmod x2 1000000) 9), .int (Int.fmod (Int.fmod x3 1000000) 9)])⟩, ⟨.type "cell", none, (.cell (some (.int (1 + Int.fmod (Int.fmod x0 1000000) 6))))⟩, ⟨.type "cell", none, (.cell (some (.int (1 + Int.fmod (Int.fmod x1 1000000) 6))))⟩, ⟨.type "cell", none, (.cell none)⟩], [], fun na => []⟩
noncomputable def lt4TD (w : World) (sc : Nat) (x0 x1 x2 x3 : Int) (ls : List VV) (κ : TK) (hls : ls.length ≤ 1000) (hb2 : fl2 w = true) : WD w (lt4TH sc x0 x1 x2 x3 ls κ) := wd [20,5,12,1,1,1,1,24,1,1,1,1,8] [] [0,16,15,1,2,3] 384 (dg 20 0x326b62e10d2c5c181406cad379ac21fe4934f57e33ba3fe2b629c92cb9d5c2bc905fb0d73bf16a76337ba3cc7911f824ee5f775e449555ba8e55b0983d8a90d41eb14a6444bb0528c2d7346a58e043a670416d2ca5faf78ec13d50c040eef85) (fun e _ A G => [p1 (e_lsl4 w sc (A 4) (e.k 0) x0 x1 x2 x3 ls hls) [0,5], .q (h := pureH "int.__mod__" [.int x0, .int 1000000] (.int (Int.fmod x0 1000000))) (fun f => e_mod w _ _ (by decide)) [] [] [] [], .q (h := pureH "int.__mod__" [.int x1, .int 1000000] (.int (Int.fmod x1 1000000))) (fun f => e_mod w _ _ (by decide)) [] [] [] [], .q (h := pureH "int.__mod__" [.int x2, .int 1000000] (.int (Int.fmod x2 1000000))) (fun f => e_mod w _ _ (by decide)) [] [] [] [], .q (h := pureH "int.__mod__" [.int x3, .int 1000000] (.int (Int.fmod x3 1000000))) (fun f => e_mod w _ _ (by decide)) [] [] [] [], .q (h := pureH "int.__mod__" [.int ((Int.fmod x0 1000000)), .int 6] (.int (Int.fmod ((Int.fmod x0 1000000)) 6))) (fun f => e_mod w _ _ (by decide)) [] [] [] [], .q (h := pureH "int.__mod__" [.int ((Int.fmod x1 1000000)), .int 6] (.int (Int.fmod ((Int.fmod x1 1000000)) 6))) (fun f => e_mod w _ _ (by decide)) [] [] [] [], .q (h := pureH "int.__mod__" [.int ((Int.fmod x2 1000000)), .int 9] (.int (Int.fmod ((Int.fmod x2 1000000)) 9))) (fun f => e_mod w _ _ (by decide)) [] [] [] [], .q (h := pureH "int.__mod__" [.int ((Int.fmod x3 1000000)), .int 9] (.int (Int.fmod ((Int.fmod x3 1000000)) 9))) (fun f => e_mod w _ _ (by decide)) [] [] [] []]) (T := (.o .nil)) (x := fun e A G => [(A 14)])
noncomputable def lt4TA (e : Amb) (sc : Nat) (x0 x1 x2 x3 : Int) (ls : List VV) (κ : TK) : Nat → Nat := nA [20,5,12,1,1,1,1,24,1,1,1,1,8] [0,16,15,1,2,3] e fun A G => [(A 14)]
theorem lt4T_e (w : World) (sc : Nat) (x0 x1 x2 x3 : Int) (ls : List VV) (κ : TK) (hls : ls.length ≤ 1000) (hb2 : fl2 w = true) : CallW w (lt4TH sc x0 x1 x2 x3 ls κ) (fun na => lwF (na 1) (na 0) (na 3) (na 4) (na 5)) .func (fun e W => (lt4TD w sc x0 x1 x2 x3 ls κ hls hb2).R (fl1 w) (fl2 w) e W) (fun e _ => lt4TA e sc x0 x1 x2 x3 ls κ) :=
  callW hb2 (lt4TD w sc x0 x1 x2 x3 ls κ hls hb2) (by kernel_rfl)
theorem lt4T_cc (w : World) (b1 : Bool) (e : Amb) (cp : Nat → Cp) (sc : Nat) (x0 x1 x2 x3 : Int) (ls : List VV) (κ : TK) (hls : ls.length ≤ 1000) (hb2 : fl2 w = true) : (outOf ((lt4TD w sc x0 x1 x2 x3 ls κ hls hb2).R b1 true e (buildW ksTp cp 0))).c = lwC (lt4TA e sc x0 x1 x2 x3 ls κ 0) (lt4TA e sc x0 x1 x2 x3 ls κ 3) (lt4TA e sc x0 x1 x2 x3 ls κ 4) (lt4TA e sc x0 x1 x2 x3 ls κ 5) := by
  cases b1 <;> kernel_rfl
noncomputable def ld4TH (e1 : Amb) (sc : Nat) (x0 x1 x2 x3 : Int) (ls : List VV) (κ : TK) : Hook := ⟨false, .call (.ref 316) [.ref sc], (some ksTp), [], fun na => .ret (.bool true), fun na => [], fun na => [], [], fun na => []⟩
theorem ld4T_e (w : World) (base : List Frame) (s : Shared) (e1 : Amb) (sc : Nat) (x0 x1 x2 x3 : Int) (ls : List VV) (κ : TK) (hls : ls.length ≤ 1000) (hb2 : fl2 w = true) (hS : WOk (some ksTp) (base.map Frame.where_)) : EffFr w (ld4TH e1 sc x0 x1 x2 x3 ls κ) base s ((lt4TD w sc x0 x1 x2 x3 ls κ hls hb2).R (fl1 w) (fl2 w) e1 (base.map Frame.where_)) (.ok .next) := by
  exact effFr hb2 (wd [] [] [] 1 []) (fun b1 b2 W => (lt4TD w sc x0 x1 x2 x3 ls κ hls hb2).R b1 b2 e1 W) hS (by kernel_rfl)
noncomputable def lt4FH (sc : Nat) (x0 x1 x2 x3 : Int) (ls : List VV) (κ : TK) : Hook := ⟨false, .call (.ref 316) [.ref sc], (some ksTp), [(sc, .ob (OV.mk' (listV (.int x0 :: .int x1 :: .int x2 :: .int x3 :: ls)) κ))], fun na => .next, fun na => [], fun na => [⟨.type "frame", none, (.dict [(kS24, .ref sc), (kS25, .ref (na 6))])⟩, ⟨.type "list_iterator", none, (.fields [.ref (na 2), .int 0])⟩, ⟨.type "list", none, (.seq [.int (Int.fmod (Int.fmod x2 1000000) 9), .int (Int.fmod (Int.fmod x3 1000000) 9)])⟩, ⟨.type "cell", none, (.cell (some (.int (1 + Int.fmod (Int.fmod x0 1000000) 6))))⟩, ⟨.type "cell", none, (.cell (some (.int (1 + Int.fmod (Int.fmod x1 1000000) 6))))⟩, ⟨.type "cell", none, (.cell none)⟩], [], fun na => []⟩
noncomputable def lt4FD (w : World) (sc : Nat) (x0 x1 x2 x3 : Int) (ls : List VV) (κ : TK) (hls : ls.length ≤ 1000) (hb2 : fl2 w = false) : WD w (lt4FH sc x0 x1 x2 x3 ls κ) := wd [20,5,12,1,1,1,1,24,1,1,1,1,8] [] [0,16,15,1,2,3] 394 (dg 20 0x99de37814d73a00c7b1dba79df108ebd44e8de2f635c23769e6b052fbe1f9889f398066cd7ae7e25389d119fc07a1686b474d7086eccbbdf92df012c99cf1e7b56aa8c467ebfbd7ea49b40b58bba6673ae13aa6c818826b0dc9fbc62152c040eef85) (fun e _ A G => [p1 (e_lsl4 w sc (A 4) (e.k 0) x0 x1 x2 x3 ls hls) [0,5], .q (h := pureH "int.__mod__" [.int x0, .int 1000000] (.int (Int.fmod x0 1000000))) (fun f => e_mod w _ _ (by decide)) [] [] [] [], .q (h := pureH "int.__mod__" [.int x1, .int 1000000] (.int (Int.fmod x1 1000000))) (fun f => e_mod w _ _ (by decide)) [] [] [] [], .q (h := pureH "int.__mod__" [.int x2, .int 1000000] (.int (Int.fmod x2 1000000))) (fun f => e_mod w _ _ (by decide)) [] [] [] [], .q (h := pureH "int.__mod__" [.int x3, .int 1000000] (.int (Int.fmod x3 1000000))) (fun f => e_mod w _ _ (by decide)) [] [] [] [], .q (h := pureH "int.__mod__" [.int ((Int.fmod x0 1000000)), .int 6] (.int (Int.fmod ((Int.fmod x0 1000000)) 6))) (fun f => e_mod w _ _ (by decide)) [] [] [] [], .q (h := pureH "int.__mod__" [.int ((Int.fmod x1 1000000)), .int 6] (.int (Int.fmod ((Int.fmod x1 1000000)) 6))) (fun f => e_mod w _ _ (by decide)) [] [] [] [], .q (h := pureH "int.__mod__" [.int ((Int.fmod x2 1000000)), .int 9] (.int (Int.fmod ((Int.fmod x2 1000000)) 9))) (fun f => e_mod w _ _ (by decide)) [] [] [] [], .q (h := pureH "int.__mod__" [.int ((Int.fmod x3 1000000)), .int 9] (.int (Int.fmod ((Int.fmod x3 1000000)) 9))) (fun f => e_mod w _ _ (by decide)) [] [] [] []]) (T := (.o .nil)) (x := fun e A G => [(A 14)])
noncomputable def lt4FA (e : Amb) (sc : Nat) (x0 x1 x2 x3 : Int) (ls : List VV) (κ : TK) : Nat → Nat := nA [20,5,12,1,1,1,1,24,1,1,1,1,8] [0,16,15,1,2,3] e fun A G => [(A 14)]
theorem lt4F_e (w : World) (sc : Nat) (x0 x1 x2 x3 : Int) (ls : List VV) (κ : TK) (hls : ls.length ≤ 1000) (hb2 : fl2 w = false) : CallW w (lt4FH sc x0 x1 x2 x3 ls κ) (fun na => lwF (na 1) (na 0) (na 3) (na 4) (na 5)) .func (fun e W => (lt4FD w sc x0 x1 x2 x3 ls κ hls hb2).R (fl1 w) (fl2 w) e W) (fun e _ => lt4FA e sc x0 x1 x2 x3 ls κ) :=
  callW hb2 (lt4FD w sc x0 x1 x2 x3 ls κ hls hb2) (by kernel_rfl)
theorem lt4F_cc (w : World) (b1 : Bool) (e : Amb) (cp : Nat → Cp) (sc : Nat) (x0 x1 x2 x3 : Int) (ls : List VV) (κ : TK) (hls : ls.length ≤ 1000) (hb2 : fl2 w = false) : (outOf ((lt4FD w sc x0 x1 x2 x3 ls κ hls hb2).R b1 false e (buildW ksTp cp 0))).c = lwC (lt4FA e sc x0 x1 x2 x3 ls κ 0) (lt4FA e sc x0 x1 x2 x3 ls κ 3) (lt4FA e sc x0 x1 x2 x3 ls κ 4) (lt4FA e sc x0 x1 x2 x3 ls κ 5) := by
  cases b1 <;> kernel_rfl
noncomputable def ld4FH (e1 : Amb) (sc : Nat) (x0 x1 x2 x3 : Int) (ls : List VV) (κ : TK) : Hook := ⟨false, .call (.ref 316) [.ref sc], (some ksTp), [], fun na => .ret (.bool true), fun na => [], fun na => [], [], fun na => []⟩
theorem ld4F_e (w : World) (base : List Frame) (s : Shared) (e1 : Amb) (sc : Nat) (x0 x1 x2 x3 : Int) (ls : List VV) (κ : TK) (hls : ls.length ≤ 1000) (hb2 : fl2 w = false) (hS : WOk (some ksTp) (base.map Frame.where_)) : EffFr w (ld4FH e1 sc x0 x1 x2 x3 ls κ) base s ((lt4FD w sc x0 x1 x2 x3 ls κ hls hb2).R (fl1 w) (fl2 w) e1 (base.map Frame.where_)) (.ok .next) := by
  exact effFr hb2 (wd [] [] [] 1 []) (fun b1 b2 W => (lt4FD w sc x0 x1 x2 x3 ls κ hls hb2).R b1 b2 e1 W) hS (by kernel_rfl)
noncomputable def s_reply : Str := kS30
noncomputable def s_resp : Str := kS21
noncomputable def lwD (sc dr le : Nat) (t : Int) (y : Str) : List (Str × VV) := [(kS24, .ref sc), (kS25, .ref dr), (kS49, .int t), (kS50, .ref le), (s_reply, .str y)]
noncomputable def lwFrV (c1 c2 c3 sc dr le : Nat) (t : Int) (y : Str) : Bool → OV
  | false => ⟨.type "frame", none, .dict (lwD sc dr le t y)⟩
  | true => ⟨.type "frame", none, .fr (lwD sc dr le t y) (some (.ref 315)) (lwSl c1 c2 c3)⟩
noncomputable def rfV0 (x : Str) : OV := frmV [(s_reply, .str x)]
noncomputable def rfV1 (fr : Nat) (x : Str) : OV := ⟨.type "frame", none, .fr [(s_reply, .str x)] (some (.ref 310)) [some (.ref 3), none, some (.ref fr), none, some (.ref 311), some (.ref 0)]⟩
noncomputable def pfV1 (rfr : Nat) (x : Str) : OV := ⟨.type "frame", none, .fr [(s_resp, .str x)] (some (.ref 220)) [some (.ref 3), none, some (.ref rfr), none, some (.ref 221), some (.ref 0)]⟩
noncomputable def excV (tup : Nat) (tb : VV) : OV := ⟨.ref 212, none, .fields [.ref tup, tb, .none, .none, .bool false, .none]⟩
noncomputable def tbV (pfr : Nat) : OV := ⟨.type "traceback", none, .fields [.none, .ref pfr, .none, .none, .none, .int 130, .int 130, .int 8, .int 31, .str kS52, .bool false]⟩
structure LA where
  it : Nat
  fr : Nat
  c1 : Nat
  c2 : Nat
  c3 : Nat
  sc : Nat
  dr : Nat
noncomputable abbrev LA.frV (a : LA) (le : Nat) (t : Int) (y : Str) (m : Bool) : OV := lwFrV a.c1 a.c2 a.c3 a.sc a.dr le t y m
noncomputable def prH (m : Bool) (a : LA) (le rfr : Nat) (t : Int) (y x : Str) : Hook := ⟨false, .call (.ref 221) [.str x], some (ksPR a.it a.fr a.c1 a.c2 a.c3 rfr), vws [(rfr, rfV0 x), (a.fr, a.frV le t y m)], fun na => .err (.ref (na 0)), fun _ => [(rfr, rfV1 a.fr x), (a.fr, a.frV le t y true)], fun na => [excV (na 2) (.ref (na 1)), tbV (na 3), tupV [.str x], pfV1 rfr x], [], fun _ => []⟩
theorem lwF_fo (it fr c1 c2 c3 : Nat) : ∃ x v b o e, lwF it fr c1 c2 c3 = .forLoop x v b o e := ⟨_, _, _, _, _, rfl⟩
theorem sp_pr {it fr c1 c2 c3 rfr : Nat} {base : List Frame} (h : Spine (ksPR it fr c1 c2 c3 rfr) base) : Spine ksPR0 base := by
  obtain ⟨c, h⟩ := h
  obtain ⟨x, v, b, o, e, hf⟩ := lwF_fo it fr c1 c2 c3
  refine ⟨fun i => match i with | 0 => { c 0 with b := inner (stm 19), e := rfE rfr } | 1 => { c 1 with x := x, v := v, b := b, o := o, e := e } | 2 => { c 2 with b := inner (stm 20), e := lwE fr c1 c2 c3 } | n => c n, ?_⟩
  rw [h]
  show [_, (lwF it fr c1 c2 c3, (c 1).q), _, _] = _
  rw [hf]
  rfl
theorem sp_er {f : Frame} {base : List Frame} (h : Spine (.func :: ksPR0) (f :: base)) : Spine ksER (f :: base) := h
theorem e_pr (w : World) (m : Bool) (a : LA) (le rfr : Nat) (t : Int) (y x : Str) (hx : x.length ≤ 100000) (hne : ((sliceS x none (some 3)).cps.toList != kS10.cps.toList) = true) : Eff w (prH m a le rfr t y x) := eff_of fun base p s c hc A => by
  have H := asks_here A (L := [(rfr, rfV0 x), (a.fr, a.frV le t y m)]) (vws_tells _)
  have hs : Spine (ksPR a.it a.fr a.c1 a.c2 a.c3 rfr) base := A.sp _ rfl
  obtain ⟨na, s1, e1, hna, ⟨fr0, hB, hSp, -, p1, G1⟩, Af1⟩ := (pr1_e w x hx hne) base p s c hc (H.asksI A.bot (sp_pr hs) [])
  obtain rfl : na = pr1A e1 x := hna
  have H1 := Af1.hereI H [] [(1,0), (2,0), (2,1)]
  obtain ⟨nb, r2, s2, R2, hr2, Af2⟩ := (er_e w x).go p1 (c := .call (.ref 212) ⟨[.str x (pr1A e1 x 1)], []⟩) ⟨_, _, rfl, rfl, rfl⟩ (H1.asksI (hB A.bot) (sp_er (hSp _ (sp_pr hs))) [])
  obtain ⟨tt, rfl⟩ := rv_mk hr2
  have n0 : s.heap.objs.size ≤ pr1A e1 x 0 := (Af1.new 0 _ rfl).1
  have m0 : s.heap.objs.size ≤ nb 0 := Nat.le_trans Af1.size (Af2.new 0 _ rfl).1
  have m1 : s.heap.objs.size ≤ nb 1 := Nat.le_trans Af1.size (Af2.new 1 _ rfl).1
  have H2 := Af2.hereI H1 [] [(2,0), (2,1), (2,2), (1,0), (1,1)]
  have RA : Rel false [rfr, a.fr] [] s s2 := ((Rel.refl false _ [] s).within Af1.rel an an fun h => h).within Af2.rel an an fun h => h
  have s12 := Nat.le_trans Af1.size Af2.size
  cases m with
  | false =>
    obtain ⟨nc, rr, s3, R3, hr3, Af3⟩ := pr20_e w base s2 e1 x a.it a.fr a.c1 a.c2 a.c3 a.sc a.dr le rfr (nb 0) (nb 1) t y hx hne hs (H2.asksI A.bot hs [0,1,2,3])
    have H3 := Af3.hereI H2 [0,1,2,3] [(0,0), (0,1), (0,2), (0,3), (2,4), (1,0)]
    exact ⟨fun i => match i with | 0 => nb 0 | 1 => nc 0 | 2 => nb 1 | _ => pr1A e1 x 0, rr, s3, G1 s2 _ R2 s3 _ R3, hr3, after_gen (RA.within Af3.rel (ac (.inr (.inl n0)) (ac (.inl (.head _)) (ac (.inl (.tail _ (.head _))) (ac (.inr (.inl m0)) an)))) an fun h => h) H3 [1,2] [3,5,4,0] (ac m0 (ac (Nat.le_trans s12 (Af3.new 0 _ rfl).1) (ac m1 (ac n0 an))))⟩
  | true =>
    obtain ⟨nc, rr, s3, R3, hr3, Af3⟩ := pr21_e w base s2 e1 x a.it a.fr a.c1 a.c2 a.c3 a.sc a.dr le rfr (nb 0) (nb 1) t y hx hne hs (H2.asksI A.bot hs [0,1,2,3])
    have H3 := Af3.hereI H2 [0,1,3] [(0,0), (0,1), (2,2), (0,2), (2,4), (1,0)]
    exact ⟨fun i => match i with | 0 => nb 0 | 1 => nc 0 | 2 => nb 1 | _ => pr1A e1 x 0, rr, s3, G1 s2 _ R2 s3 _ R3, hr3, after_gen (RA.within Af3.rel (ac (.inr (.inl n0)) (ac (.inl (.head _)) (ac (.inr (.inl m0)) an))) an fun h => h) H3 [1,2] [3,5,4,0] (ac m0 (ac (Nat.le_trans s12 (Af3.new 0 _ rfl).1) (ac m1 (ac n0 an))))⟩
noncomputable def rfHk (m : Bool) (a : LA) (le : Nat) (t : Int) (y x : Str) : Hook := ⟨false, .call (.ref 311) [.str x], some (ksRF a.it a.fr a.c1 a.c2 a.c3), vws [(a.fr, a.frV le t y m)], fun _ => .ret (.bool true), fun _ => [(a.fr, a.frV le t y true)], fun _ => [], [], fun _ => []⟩
theorem e_rf (w : World) (m : Bool) (a : LA) (le : Nat) (t : Int) (y x : Str) (hx : x.length ≤ 100000) (hne : ((sliceS x none (some 3)).cps.toList != kS10.cps.toList) = true) : Eff w (rfHk m a le t y x) := eff_of fun base p s c hc A => by
  have H := asks_here A (L := [(a.fr, a.frV le t y m)]) (vws_tells _)
  have hs : Spine (ksRF a.it a.fr a.c1 a.c2 a.c3) base := A.sp _ rfl
  obtain ⟨na, s1, e1, hna, ⟨fr0, hB, hSp, hE, p1, G1⟩, Af1⟩ := (rf1_e w a.it a.fr a.c1 a.c2 a.c3 x) base p s c hc (H.asksI A.bot hs [])
  obtain rfl : na = rf1A e1 a.it a.fr a.c1 a.c2 a.c3 x := hna
  have hsP : Spine (ksPR a.it a.fr a.c1 a.c2 a.c3 (rf1A e1 a.it a.fr a.c1 a.c2 a.c3 x 0)) (fr0 :: base) := by
    refine sp_code hs ?_
    obtain ⟨cp, hcp⟩ := hs
    rw [hE, hcp, rf1_cc]
  have n0 : s.heap.objs.size ≤ rf1A e1 a.it a.fr a.c1 a.c2 a.c3 x 0 := (Af1.new 0 _ rfl).1
  have H1 := Af1.hereI H [] [(1,0), (2,0)]
  obtain ⟨nb, r2, s2, R2, hr2, Af2⟩ := (e_pr w m a le (rf1A e1 a.it a.fr a.c1 a.c2 a.c3 x 0) t y x hx hne).go p1 (c := .call (.ref 221) ⟨[.str x (rf1A e1 a.it a.fr a.c1 a.c2 a.c3 x 1)], []⟩) ⟨_, _, rfl, rfl, rfl⟩ (H1.asksI (hB A.bot) hsP [0,1])
  obtain ⟨tt, rfl⟩ := rv_mk hr2
  have m0 : ∀ i v, ((prH m a le (rf1A e1 a.it a.fr a.c1 a.c2 a.c3 x 0) t y x).news nb)[i]? = some v → s.heap.objs.size ≤ nb i := fun i v h => Nat.le_trans Af1.size (Af2.new i v h).1
  have H2 := Af2.hereI H1 [0,1] [(0,0), (1,0), (1,1), (1,2), (0,1)]
  obtain ⟨nc, rr, s3, R3, hr3, Af3⟩ := rf2_e w base s2 e1 a.it a.fr a.c1 a.c2 a.c3 x (nb 0) (nb 2) (nb 1) (nb 3) (beq_self_eq_true _) hs (H2.asksI A.bot hs [0,1,2,3])
  have hr3 : rv rr = some (.ret (.bool (x.cps.toList == x.cps.toList))) := hr3
  rw [beq_self_eq_true] at hr3
  exact ⟨nc, rr, s3, G1 s2 _ R2 s3 _ R3, hr3, after_gen ((((Rel.refl false [a.fr] [] s).within Af1.rel an an fun h => h).within Af2.rel (ac (.inr (.inl n0)) (ac (.inl (.head _)) an)) an fun h => h).within Af3.rel (ac (.inr (.inl n0)) (ac (.inr (.inl (m0 0 _ rfl))) (ac (.inr (.inl (m0 1 _ rfl))) an))) an fun h => h) (Af3.hereI H2 [0,1,2] [(2,4)]) [0] [] an⟩
noncomputable def caV (S r P : Nat) : Nat → List Int
  | 0 => []
  | i + 1 => caV S r P i ++ [(((P + i * S) / r : Nat) : Int)]
theorem caLs_eq (S r P i : Nat) : caLs S r P i = (caV S r P i).map .int := by
  induction i with
  | zero => rfl
  | succ i ih =>
    unfold caLs caV
    rw [ih, List.map_append]
    congr 3
    have e : ((S : Nat) : Int) * (0 + (i : Nat)) + (P : Nat) = ((P + i * S : Nat) : Int) := by
      rw [Int.zero_add, ← Int.natCast_mul, ← Int.natCast_add, Nat.mul_comm S i, Nat.add_comm]
    rw [e, Int.fdiv_eq_ediv_of_nonneg _ (by omega)]
    rfl
theorem caV_sum (S r P i : Nat) : (caV S r P i).sum = (cS P S r i : Nat) := by
  induction i with
  | zero => rfl
  | succ i ih =>
    unfold caV cS
    rw [List.sum_append, ih]
    simp
theorem hsum_of (w : World) (S r P : Nat) (l : Nat) (κ : TK) : Eff w (sumH l ((listV (caLs S r P r)).mk' κ) (cS P S r r : Nat)) := by
  rw [caLs_eq, ← caV_sum]
  exact e_sum w l κ _
noncomputable def leadL (r P : Nat) : Nat → List Nat
  | 0 => []
  | i + 1 => leadL r P i ++ (List.replicate (r * i + P) 32 ++ [9])
theorem glued_snoc (l : List Str) (s : Str) : (Builtin.Str.glued uE (l ++ [s])).cps = (Builtin.Str.glued uE l).cps ++ s.cps := by
  cases l with
  | nil =>
    show s.cps = #[] ++ s.cps
    simp
  | cons p l =>
    show (l ++ [s]).foldl (fun acc p => acc ++ uE.cps ++ p.cps) p.cps = l.foldl (fun acc p => acc ++ uE.cps ++ p.cps) p.cps ++ s.cps
    rw [List.foldl_append]
    show _ ++ (#[] : Array Nat) ++ s.cps = _
    rw [Array.append_empty]
theorem cbS_cps (r P i : Nat) : (cbS r P i).cps.toList = List.replicate (r * i + P) 32 ++ [9] := by
  have e : (((r : Nat) : Int) * (0 + (i : Nat)) + (P : Nat)).toNat = r * i + P := by
    rw [Int.zero_add, ← Int.natCast_mul]
    omega
  unfold cbS
  rw [e]
  show ((⟨List.replicate (r * i + P) 32⟩ : Array Nat) ++ #[9]).toList = _
  rw [Array.toList_append]
theorem lead_cps (r P i : Nat) : (joinS uE (cbLs r P i)).cps.toList = leadL r P i := by
  induction i with
  | zero => rfl
  | succ i ih =>
    unfold cbLs leadL joinS
    rw [strsOf_app]
    show (Builtin.Str.glued uE (strsOf (cbLs r P i) ++ [cbS r P i])).cps.toList = _
    rw [glued_snoc, Array.toList_append, cbS_cps]
    have ih : (Builtin.Str.glued uE (strsOf (cbLs r P i))).cps.toList = leadL r P i := ih
    rw [ih]
theorem cbLs_all (r P i : Nat) : allStr (cbLs r P i) := by
  induction i with
  | zero => exact trivial
  | succ i ih => exact allStr_app ih ⟨⟨_, rfl⟩, trivial⟩
structure WSi where
  b : Nat
  n : Nat
  nt : Nat
  vals : List Int
noncomputable def tabI (vals : List Int) (b : Nat) : List Int := List.set (vals ++ List.replicate (b + 1 - vals.length) 0) b 1
noncomputable def iStep (t : WSi) (c : Nat) : WSi := if c = 32 then ⟨t.b + 1, t.n + 1, t.nt, t.vals⟩ else ⟨0, t.n + 1, t.nt + 1, tabI t.vals t.b⟩
noncomputable def WSi.w (t : WSi) : WSt := ⟨t.b, t.n, t.nt, t.vals.map .int⟩
theorem tabI_eq (vals : List Int) (b : Nat) : tabW (vals.map .int) b = (tabI vals b).map .int := by
  unfold tabW tabI
  rw [List.map_set, List.map_append, List.map_replicate, List.length_map, show (((b : Nat) : Int) - ((vals.length : Nat) : Int) + 1).toNat = b + 1 - vals.length by omega]
theorem iStep_eq (t : WSi) (c : Nat) : wStep t.w c = (iStep t c).w := by
  unfold wStep iStep
  split
  · rfl
  · show WSt.mk 0 (t.n + 1) (t.nt + 1) (tabW (t.vals.map .int) t.b) = _
    rw [tabI_eq]
    rfl
noncomputable def iOk : List Nat → WSi → Bool
  | [], _ => true
  | c :: l, t => (decide (c = 32) || decide (c = 9) && decide (t.vals.length ≤ t.b)) && decide (t.b ≤ 1000) && iOk l (iStep t c)
theorem iOk_eq : ∀ (l : List Nat) (t : WSi), iOk l t = true → wOk l t.w
  | [], _, _ => trivial
  | c :: l, t, h => by
    unfold iOk at h
    simp only [Bool.and_eq_true, Bool.or_eq_true, decide_eq_true_eq] at h
    refine ⟨h.1.1.imp id fun h => ⟨h.1, by show (t.vals.map VV.int).length ≤ _; rw [List.length_map]; exact h.2⟩, h.1.2, ?_⟩
    rw [iStep_eq]
    exact iOk_eq l _ h.2
theorem iFold (l : List Nat) : ∀ t : WSi, l.foldl wStep t.w = (l.foldl iStep t).w := by
  induction l with
  | nil => intro t; rfl
  | cons c l ih => intro t; rw [List.foldl_cons, List.foldl_cons, iStep_eq, ih]
noncomputable def ilI (ts : Nat) (vals : List Int) : Nat → Nat → Int → Int
  | _, 0, il => il
  | i, d + 1, il => ilI ts vals (i + 1) d (il + ((i / ts : Nat) : Int) * vals.getD i 0)
theorem ilI_eq (ts : Nat) (vals : List Int) : ∀ (d i : Nat) (il : Int), ilAcc ts vals i d il = ilI ts vals i d il
  | 0, _, _ => rfl
  | d + 1, i, il => by
    unfold ilAcc ilI
    rw [ilI_eq ts vals d, Int.fdiv_eq_ediv_of_nonneg _ (by omega)]
    rfl
noncomputable def leadOk (S r P : Nat) : Bool :=
  let l := leadL r P S
  let e := l.foldl iStep ⟨0,0,0, []⟩
  l.all (· < 128) && !l.isEmpty && iOk l ⟨0,0,0, []⟩ && e.b == 0 && decide (e.vals.length ≤ 1000) && decide (l.length ≤ 1000) && decide (((S : Nat) : Int) * (ilI S e.vals S (e.vals.length - S) 0 + (e.nt : Nat)) = ((S * (cS P S r r + S) : Nat) : Int)) && decide (cS P S r r ≤ 22)
theorem lead_all : ∀ S < 7, ∀ r < 7, ∀ P < 9,1 ≤ S → 1 ≤ r → leadOk S r P = true := by decide +kernel
noncomputable def cdI (S r : Nat) : Nat → List Int
  | 0 => []
  | i + 1 => if S % (1 + i) = 0 ∧ r % (1 + i) = 0 then cdI S r i ++ [((1 + i : Nat) : Int)] else cdI S r i
noncomputable def divOf : Nat → List Int
  | 1 => [1]
  | 2 => [1,2]
  | 3 => [1,3]
  | 4 => [1,2,4]
  | 5 => [1,5]
  | 6 => [1,2,3,6]
  | _ => []
theorem cd_all : ∀ S < 7, ∀ r < 7,1 ≤ S → 1 ≤ r → cdI S r 6 = divOf (Nat.gcd S r) := by decide +kernel
theorem gcd_all : ∀ S < 7, ∀ r < 7,1 ≤ S → 1 ≤ Nat.gcd S r ∧ Nat.gcd S r ≤ 6 := by decide +kernel
theorem marks_all : ∀ S < 7, ∀ r < 7, ∀ P < 9,1 ≤ S → 1 ≤ r → (S - 1) * (r - 1) + Nat.gcd S r - 1 + 2 * Nat.gcd S r * (P / Nat.gcd S r) = 2 * cS P S r r := by decide +kernel
theorem digits_all : ∀ t < 30, (Nat.toDigits 10 (300 + t)).map Char.toNat = [51,48 + t / 10,48 + t % 10] := by decide +kernel
theorem fmod_zero (a b : Nat) : Int.fmod (a : Nat) (1 + (b : Nat)) = 0 ↔ a % (1 + b) = 0 := by
  have e : Int.fmod (a : Nat) (1 + (b : Nat)) = ((a % (1 + b) : Nat) : Int) := by
    rw [Int.fmod_eq_emod_of_nonneg _ (by omega)]
    have : (1 : Int) + (b : Nat) = ((1 + b : Nat) : Int) := by omega
    rw [this]
    rfl
  rw [e]
  omega
theorem cdLs_eq (S r i : Nat) : cdLs S r i = (cdI S r i).map .int := by
  induction i with
  | zero => rfl
  | succ i ih =>
    unfold cdLs cdI
    by_cases h : S % (1 + i) = 0 ∧ r % (1 + i) = 0
    · rw [if_pos h, if_pos ⟨(fmod_zero S i).mpr h.1, (fmod_zero r i).mpr h.2⟩, ih, List.map_append]
      rfl
    · rw [if_neg h, if_neg fun q => h ⟨(fmod_zero S i).mp q.1, (fmod_zero r i).mp q.2⟩, ih]
theorem hmx_of (w : World) (S r : Nat) (hS1 : 1 ≤ S) (hS : S ≤ 6) (hr1 : 1 ≤ r) (hr : r ≤ 6) (l : Nat) (κ : TK) : Eff w (mxH l ((listV (cdLs S r 6)).mk' κ) (Nat.gcd S r : Nat)) := by
  rw [cdLs_eq, cd_all S (by omega) r (by omega) hS1 hr1]
  obtain ⟨g1, g2⟩ := gcd_all S (by omega) r (by omega) hS1
  generalize Nat.gcd S r = g at g1 g2
  match g, g1, g2 with
  | 1, _, _ => exact eff_ob (mx1_e w l)
  | 2, _, _ => exact eff_ob (mx2_e w l)
  | 3, _, _ => exact eff_ob (mx3_e w l)
  | 4, _, _ => exact eff_ob (mx4_e w l)
  | 5, _, _ => exact eff_ob (mx5_e w l)
  | 6, _, _ => exact eff_ob (mx6_e w l)
noncomputable def yS (t : Nat) : Str := (kS51 ++ rep 34 (2 * t)) ++ kS56
theorem yS_cps (t : Nat) : (yS t).cps.toList = 50 :: 53 :: 55 :: 32 :: 34 :: (List.replicate (2 * t) 34 ++ [97,34]) := by
  show (((#[50,53,55,32,34] : Array Nat) ++ (⟨List.replicate (2 * t) 34⟩ : Array Nat)) ++ #[97,34]).toList = _
  simp
theorem yS_len (t : Nat) : (yS t).length = 2 * t + 7 := by
  show (yS t).cps.size = _
  rw [← Array.length_toList, yS_cps]
  simp
theorem hrp_of (w : World) (S r P : Nat) (hS1 : 1 ≤ S) (hS : S ≤ 6) (hr1 : 1 ≤ r) (hr : r ≤ 6) (hP : P ≤ 8) (ht : cS P S r r ≤ 22) : Eff w (pureK false (.ref 304) [.int (S : Nat), .int (r : Nat), .int (P : Nat)] ksCR (.str (yS (cS P S r r)))) := by
  obtain ⟨g1, g2⟩ := gcd_all S (by omega) r (by omega) hS1
  have hm : ((S : Nat) - 1 : Int) * ((r : Nat) - 1) + (Nat.gcd S r : Nat) - 1 + 2 * (Nat.gcd S r : Nat) * Int.fdiv (P : Nat) (Nat.gcd S r : Nat) = ((2 * cS P S r r : Nat) : Int) := by
    have h := marks_all S (by omega) r (by omega) P (by omega) hS1 hr1
    rw [← h, Int.fdiv_eq_ediv_of_nonneg _ (by omega)]
    generalize Nat.gcd S r = g at g1 g2
    obtain ⟨a, rfl⟩ : ∃ a, S = a + 1 := ⟨S - 1, by omega⟩
    obtain ⟨b, rfl⟩ : ∃ b, r = b + 1 := ⟨r - 1, by omega⟩
    have e1 : ((a + 1 : Nat) : Int) - 1 = (a : Nat) := by omega
    have e2 : ((b + 1 : Nat) : Int) - 1 = (b : Nat) := by omega
    rw [e1, e2, Nat.add_sub_cancel, Nat.add_sub_cancel, ← Int.natCast_ediv, ← Int.natCast_mul a b]
    have e3 : (2 : Int) * (g : Nat) * ((P / g : Nat) : Int) = ((2 * g * (P / g) : Nat) : Int) := by
      rw [Int.natCast_mul, Int.natCast_mul]
      rfl
    rw [e3]
    omega
  have e : rpH (S : Nat) (r : Nat) (P : Nat) 7 6 (Nat.gcd S r : Nat) (cdLs S r 6) = pureK false (.ref 304) [.int (S : Nat), .int (r : Nat), .int (P : Nat)] ksCR (.str (yS (cS P S r r))) := by
    unfold rpH
    rw [hm]
    rfl
  rw [← e]
  refine rp_e w _ _ _ _ _ _ _ ⟨by omega, by omega⟩ ⟨by omega, by omega⟩ ⟨by omega, by omega⟩ (by rw [hm]; omega) (by rw [hm]; omega) ?_ ?_ (e_cd' w S r) (hmx_of w S r hS1 hS hr1 hr)
  · rw [hm]
    show ((#[50,53,55,32,34] : Array Nat) ++ (⟨List.replicate (2 * cS P S r r) 34⟩ : Array Nat)).size ≤ _
    simp
    omega
  · rw [hm]
    show (yS (cS P S r r)).length ≤ _
    rw [yS_len]
    omega
noncomputable def zS (t : Nat) : Str := rep 34 t ++ kS17
theorem pxD_cps : ∀ (q : Nat) (dn : Str), (pxD q dn).cps.toList = dn.cps.toList ++ List.replicate q 34 ++ [97]
  | 0, dn => by
    show (dn.cps ++ #[97]).toList = _
    simp
  | q + 1, dn => by
    unfold pxD
    rw [pxD_cps q]
    show (dn.cps ++ #[34]).toList ++ _ ++ _ = _
    rw [List.replicate_succ]
    simp
theorem pxD_eq (t : Nat) : pxD t uE = zS t := by
  have h : (pxD t uE).cps = (zS t).cps := by
    apply Array.ext'
    rw [pxD_cps]
    show ([] : List Nat) ++ _ ++ _ = ((⟨List.replicate t 34⟩ : Array Nat) ++ #[97]).toList
    simp
  exact congrArg Str.mk h
theorem hpx_of (w : World) (t : Nat) (ht : t ≤ 22) : Eff w (pureK false (.ref 221) [.str (yS t)] ksCR (.str (zS t))) := by
  rw [← pxD_eq]
  exact e_px w t (yS t) (yS_cps t) (by omega)
noncomputable def decI (v : Int) : Str := Str.ofString (toString v)
theorem e_irepr (w : World) (v : Int) (h : v.natAbs ≤ 1000000) : Eff w (pureH "int.__repr__" [.int v] (.str (decI v))) := by
  have hl : v.natAbs.log2 < 1920 := by
    have := log2_small h
    omega
  refine eff_gives (b := Builtin.«int.__repr__») (by decide +kernel) (entryFor_of_tree (by kernel_rfl)) fun vs hv => ?_
  obtain ⟨t, rfl⟩ := vvs1 hv
  exact ⟨by kernel_rfl, _, gives_int_repr v t hl, .str (int_text_fits hl)⟩
theorem strI_cps (t : Nat) (ht : t < 30) : (decI (300 + (t : Nat))).cps.toList = [51,48 + t / 10,48 + t % 10] := by
  unfold decI
  rw [Str.ofString_eq_toList]
  have e : toString ((300 : Int) + (t : Nat)) = Nat.repr (300 + t) := by
    have : (300 : Int) + (t : Nat) = ((300 + t : Nat) : Int) := by omega
    rw [this]
    rfl
  rw [e]
  have e2 : (Nat.repr (300 + t)).toList = Nat.toDigits 10 (300 + t) := by
    unfold Nat.repr
    simp
  show (((Nat.repr (300 + t)).toList.map Char.toNat).toArray).toList = _
  rw [e2, List.toList_toArray]
  exact digits_all t ht
noncomputable def xR (t : Nat) : Str := decI (300 + (t : Nat)) ++ sliceS (yS t) (some 3) none
theorem yS_tail (t : Nat) : (sliceS (yS t) (some 3) none).cps.toList = 32 :: 34 :: (List.replicate (2 * t) 34 ++ [97,34]) := by
  rw [sliceS_none_hi]
  have h := sliceS_nat (yS t) (a := 3) (b := (yS t).length) (by rw [yS_len]; omega) (Nat.le_refl _)
  have h' : sliceS (yS t) (some 3) (some ((yS t).length : Int)) = _ := h
  rw [h', yS_cps, yS_len]
  show List.take (2 * t + 7 - 3) (32 :: 34 :: (List.replicate (2 * t) 34 ++ [97,34])) = _
  rw [List.take_of_length_le]
  simp
theorem xR_cps (t : Nat) (ht : t < 30) : (xR t).cps.toList = 51 :: (48 + t / 10) :: (48 + t % 10) :: 32 :: 34 :: (List.replicate (2 * t) 34 ++ [97,34]) := by
  show ((decI (300 + (t : Nat))).cps ++ (sliceS (yS t) (some 3) none).cps).toList = _
  rw [Array.toList_append, strI_cps t ht, yS_tail]
  rfl
theorem xR_len (t : Nat) (ht : t < 30) : (xR t).length = 2 * t + 7 := by
  show (xR t).cps.size = _
  rw [← Array.length_toList, xR_cps t ht]
  simp
theorem xR_ne (t : Nat) (ht : t < 30) : ((sliceS (xR t) none (some 3)).cps.toList != kS10.cps.toList) = true := by
  rw [sliceS_none_lo]
  have h := sliceS_nat (xR t) (a := 0) (b := 3) (by omega) (by rw [xR_len t ht]; omega)
  have h' : sliceS (xR t) (some 0) (some 3) = _ := h
  rw [h', xR_cps t ht]
  show ([51,48 + t / 10,48 + t % 10] != [50,53,55]) = true
  simp
noncomputable def ldS (S r P : Nat) : Str := joinS uE (cbLs r P S)
noncomputable def ldE (S r P : Nat) : WSi := (leadL r P S).foldl iStep ⟨0,0,0, []⟩
structure LeadOk (S r P : Nat) : Prop where
  all : (ldS S r P).cps.all (· < 128) = true
  ne : (ldS S r P).cps.toList ≠ []
  ok : wOk (ldS S r P).cps.toList ⟨0,0,0, []⟩
  fin : wEnd (ldS S r P) = (ldE S r P).w
  b : (ldE S r P).b = 0
  len : (ldE S r P).vals.length ≤ 1000
  slen : (ldS S r P).length ≤ 1000
  sum : ((S : Nat) : Int) * (ilAcc S (ldE S r P).vals S ((ldE S r P).vals.length - S) 0 + ((ldE S r P).nt : Nat)) = ((S * (cS P S r r + S) : Nat) : Int)
  tot : cS P S r r ≤ 22
theorem lead_ok (S r P : Nat) (hS1 : 1 ≤ S) (hS : S ≤ 6) (hr1 : 1 ≤ r) (hr : r ≤ 6) (hP : P ≤ 8) : LeadOk S r P := by
  have h := lead_all S (by omega) r (by omega) P (by omega) hS1 hr1
  unfold leadOk at h
  simp only [Bool.and_eq_true, decide_eq_true_eq] at h
  obtain ⟨⟨⟨⟨⟨⟨⟨h1, h2⟩, h3⟩, h4⟩, h5⟩, h6⟩, h7⟩, h8⟩ := h
  have hc : (ldS S r P).cps.toList = leadL r P S := lead_cps r P S
  have hw : (⟨0,0,0, []⟩ : WSt) = WSi.w ⟨0,0,0, []⟩ := rfl
  refine ⟨?_, ?_, ?_, ?_, eq_of_beq h4, h5, ?_, ?_, h8⟩
  · rw [← Array.all_toList, hc]
    exact h1
  · rw [hc]
    intro e
    rw [e] at h2
    cases h2
  · rw [hc, hw]
    exact iOk_eq _ _ h3
  · unfold wEnd
    rw [hc, hw, iFold]
    rfl
  · show (ldS S r P).cps.size ≤ 1000
    rw [← Array.length_toList, hc]
    exact h6
  · rw [ilI_eq]
    exact h7
section
variable (w : World) (fr c1 c2 c3 S r P : Nat) (hS1 : 1 ≤ S) (hS : S ≤ 6) (hr1 : 1 ≤ r) (hr : r ≤ 6) (hP : P ≤ 8)
include hS1 hS hr1 hr hP
theorem at_cr {k : Hook} (h : Eff w k) (hk : k.ks = some ksCR) : Eff w (kH k (lwK fr c1 c2 c3)) := eff_ks h fun _ hs l hl => by
  rw [hk] at hl
  cases hl
  exact sp_cr hs
theorem k_ca (it l2 d2 : Nat) : Eff w (kH (caGH it l2 d2 fr c1 c2 c3 (S : Nat) (r : Nat) (P : Nat) (r : Nat) ((r : Nat) - 1) (caLs S r P r)) (lwK fr c1 c2 c3)) := at_cr w fr c1 c2 c3 S r P hS1 hS hr1 hr hP (e_ca' w S r P (by omega) hr1 (by omega) it l2 d2 fr c1 c2 c3) rfl
theorem k_cb (it l2 d2 : Nat) : Eff w (kH (cbGH it l2 d2 fr c2 c3 (S : Nat) (r : Nat) (P : Nat) (S : Nat) ((S : Nat) - 1) (cbLs r P S)) (lwK fr c1 c2 c3)) := at_cr w fr c1 c2 c3 S r P hS1 hS hr1 hr hP (e_cb' w S r P hS1 (by omega) (by omega) (by omega) it l2 d2 fr c2 c3) rfl
theorem k_cr : Eff w (pureK true (.ref 292) [.int (S : Nat), .int (r : Nat), .int (P : Nat)] (lwK fr c1 c2 c3) (.int (cS P S r r : Nat))) := at_cr w fr c1 c2 c3 S r P hS1 hS hr1 hr hP (e_cr w S r P hS1 hS hr1 hr hP) rfl
theorem k_pm : Eff w (pureK false (.ref 299) [.int (S : Nat), .int (r : Nat), .int (P : Nat)] (lwK fr c1 c2 c3) (.int (cS P S r r : Nat))) := at_cr w fr c1 c2 c3 S r P hS1 hS hr1 hr hP (e_pm w S r P hS1 hS hr1 hr) rfl
theorem k_rp : Eff w (pureK false (.ref 304) [.int (S : Nat), .int (r : Nat), .int (P : Nat)] (lwK fr c1 c2 c3) (.str (yS (cS P S r r)))) := at_cr w fr c1 c2 c3 S r P hS1 hS hr1 hr hP (hrp_of w S r P hS1 hS hr1 hr hP (lead_ok S r P hS1 hS hr1 hr hP).tot) rfl
theorem k_px : Eff w (pureK false (.ref 221) [.str (yS (cS P S r r))] (lwK fr c1 c2 c3) (.str (zS (cS P S r r)))) := at_cr w fr c1 c2 c3 S r P hS1 hS hr1 hr hP (hpx_of w (cS P S r r) (lead_ok S r P hS1 hS hr1 hr hP).tot) rfl
theorem k_jn (l : Nat) (κ : TK) : Eff w (jnG l ((listV (cbLs r P S)).mk' κ) (ldS S r P)) := by
  have hl := (lead_ok S r P hS1 hS hr1 hr hP).slen
  refine e_join w uE l κ (cbLs r P S) (cbLs_all r P S) ?_ (Nat.le_trans hl (by decide))
  have key : ∀ l : List Str, l.foldl (fun x s => x + s.length + 0) 0 = (Builtin.Str.glued uE l).length := fun l => by
    cases l with
    | nil => rfl
    | cons s l =>
      show _ = ((l.foldl (fun acc p => acc ++ uE.cps ++ p.cps) s.cps).size)
      rw [glue_size, List.foldl_cons, fold_add 0 l (0 + s.length + 0)]
      show _ = s.length + _
      have : uE.cps.size = 0 := rfl
      rw [this]
      omega
  have e : (strsOf (cbLs r P S)).toArray.foldl (fun x s => x + s.length + uE.length) 0 = (strsOf (cbLs r P S)).foldl (fun x s => x + s.length + 0) 0 := by
    rw [List.foldl_toArray]
    rfl
  have h2 : (strsOf (cbLs r P S)).toArray.foldl (fun x s => x + s.length + uE.length) 0 ≤ 100000 := by
    rw [e, key]
    exact Nat.le_trans hl (by decide)
  exact h2
theorem k_wi (se sd : Nat) : Eff w (wiG se sd (ldS S r P) ((ldE S r P).b : Nat) ((ldE S r P).n : Nat) ((ldE S r P).nt : Nat) (decide (((((ldE S r P).vals.map VV.int).length : Nat) : Int) ≤ 1)) ((ldE S r P).vals.map .int) (.biR "type.__call__" :: lwK fr c1 c2 c3)) := by
  have o := lead_ok S r P hS1 hS hr1 hr hP
  have h := eff_ks (ks := .biR "type.__call__" :: lwK fr c1 c2 c3) (e_wi w se sd (ldS S r P) o.all o.ne o.ok (by rw [o.fin]; show ((ldE S r P).vals.map VV.int).length ≤ _; rw [List.length_map]; exact Nat.le_trans o.len (by decide))) fun _ hs l hl => by
    cases hl
    exact sp_wi hs
  have e : kH (wiH se sd (ldS S r P)) (.biR "type.__call__" :: lwK fr c1 c2 c3) = wiG se sd (ldS S r P) ((ldE S r P).b : Nat) ((ldE S r P).n : Nat) ((ldE S r P).nt : Nat) (decide (((((ldE S r P).vals.map VV.int).length : Nat) : Int) ≤ 1)) ((ldE S r P).vals.map .int) (.biR "type.__call__" :: lwK fr c1 c2 c3) := by
    unfold wiH wsDict
    rw [o.fin]
    rfl
  rw [← e]
  exact h
theorem k_id (se sd no tu : Nat) (κ : TK) (sm : Bool) : Eff w (idG se sd no tu (S : Nat) (ldS S r P) ((ldE S r P).b : Nat) ((ldE S r P).n : Nat) ((ldE S r P).nt : Nat) sm ((tupV ((ldE S r P).vals.map .int)).mk' κ) ((S : Nat) * ((cS P S r r : Nat) + (S : Nat))) (lwK fr c1 c2 c3)) := by
  have o := lead_ok S r P hS1 hS hr1 hr hP
  have h := at_cr w fr c1 c2 c3 S r P hS1 hS hr1 hr hP (e_id w se sd no tu S (ldS S r P) ((ldE S r P).b : Nat) ((ldE S r P).n : Nat) ((ldE S r P).nt : Nat) sm (ldE S r P).vals ((ldE S r P).vals.length - S) hS1 (by omega) o.len rfl) rfl
  have e : (((ldE S r P).b : Nat) : Int) + ((S : Nat) : Int) * (ilAcc S (ldE S r P).vals S ((ldE S r P).vals.length - S) 0 + (((ldE S r P).nt : Nat) : Int)) = ((S : Nat) : Int) * (((cS P S r r : Nat) : Int) + ((S : Nat) : Int)) := by
    rw [o.sum, o.b]
    show (0 : Int) + _ = _
    rw [Int.zero_add, Int.natCast_mul, Int.natCast_add]
  refine eff_of fun base p s cc hc A => ?_
  obtain ⟨o1, h1, h1'⟩ := A.need _ (.head _)
  obtain ⟨o2, h2, h2'⟩ := A.need _ (.tail _ (.head _))
  obtain ⟨o3, h3, h3'⟩ := A.need _ (.tail _ (.tail _ (.head _)))
  obtain ⟨o4, h4, h4'⟩ := A.need _ (.tail _ (.tail _ (.tail _ (.head _))))
  obtain ⟨na, r', s', R, hr', Af⟩ := h base p s cc hc A.bot A.sp A.kt A.tbl (fun q hq => by
    have hq : q ∈ vws (idNeed se sd no tu (ldS S r P) ((ldE S r P).b : Nat) ((ldE S r P).n : Nat) ((ldE S r P).nt : Nat) sm (ldE S r P).vals) := hq
    unfold vws idNeed at hq
    simp only [List.map_cons, List.map_nil, List.mem_cons, List.not_mem_nil, or_false] at hq
    rcases hq with rfl | rfl | rfl | rfl
    · exact ⟨o1, h1, h1'⟩
    · exact ⟨o2, h2, h2'⟩
    · exact ⟨o3, h3, h3'⟩
    · exact ⟨o4, h4, by rw [show o4 = _ from h4']; exact ov_of_mk ..⟩) A.nd (fun q hq => by
    have hq : q ∈ vws (idNeed se sd no tu (ldS S r P) ((ldE S r P).b : Nat) ((ldE S r P).n : Nat) ((ldE S r P).nt : Nat) sm (ldE S r P).vals) := hq
    unfold vws idNeed at hq
    simp only [List.map_cons, List.map_nil, List.mem_cons, List.not_mem_nil, or_false] at hq
    rcases hq with rfl | rfl | rfl | rfl
    · exact A.high _ (.head _)
    · exact A.high _ (.tail _ (.head _))
    · exact A.high _ (.tail _ (.tail _ (.head _)))
    · exact A.high (tu, .ob _) (.tail _ (.tail _ (.tail _ (.head _))))) A.gens A.gnd
  refine ⟨na, r', s', R, ?_, Af.size, Af.keep, Af.upd, Af.new, Af.nand, Af.tbl, Af.toks, Af.gsize, Af.gkeep, Af.gupd, Af.bare, Af.drawn, Af.os⟩
  rw [hr']
  show some (RV.ret (.int (_ + _ * (_ + _)))) = some (.ret (.int _))
  rw [e]
end
noncomputable def LT (a : LA) (pl S r : Nat) (v : OV) (i : Int) (ps : List VV) (c : OV) : List (Nat × OV) := [(a.fr, v), (a.it, itV pl i), (pl, listV ps), (a.c1, cellV (S : Nat)), (a.c2, cellV (r : Nat)), (a.c3, c)]
noncomputable def laK (a : LA) (pl S r : Nat) (v v' : Nat → OV) (i i' : Int) (ps : List VV) (c c' : OV) : Hook := ⟨true, .code (lwF a.it a.fr a.c1 a.c2 a.c3), some (ksLW a.fr a.c1 a.c2 a.c3), vws (LT a pl S r (v 0) i ps c), fun _ => .next, fun na => [(a.fr, v' (na 0)), (a.it, itV pl i'), (a.c3, c')], fun _ => [], [], fun _ => []⟩
theorem lw_tail (w : World) (m : Bool) (a : LA) (pl S r P : Nat) (v : Nat → OV) (i i' : Int) (ps : List VV) (c : OV) (t : Int) (y : Str) (n : Nat) (hn : n < 30)
    {X : Amb → List (Code × Pos) → Option (List Ora × St)} {AA : Amb → List (Code × Pos) → Nat → Nat}
    (C : CallW w (laK a pl S r v (fun le => a.frV le t y m) i i' ps c (cellV (P : Nat))) (fun na => .call (.ref 311) ⟨[.str (xR n) (na 1)], []⟩) .fo X AA)
    (hX : ∀ (e : Amb) (cp : Nat → Cp), (outOf (X e (buildW (ksLW a.fr a.c1 a.c2 a.c3) cp 0))).c = lwF a.it a.fr a.c1 a.c2 a.c3)
    {kt : Hook} (hkt : kt.tabs = false ∧ kt.need = [] ∧ kt.gneed = [] ∧ kt.ks = some (ksLW a.fr a.c1 a.c2 a.c3) ∧ (∀ na, kt.upd na = []) ∧ (∀ na, kt.gupd na = []))
    (T : ∀ (base : List Frame) (s : Shared) (e : Amb), WOk (some (ksLW a.fr a.c1 a.c2 a.c3)) (base.map Frame.where_) → TurnAt w kt base s (contOf (outOf (X e (base.map Frame.where_))).t (.ok (.ret (.bool true)))) (outOf (X e (base.map Frame.where_))).c (outOf (X e (base.map Frame.where_))).p (lwF a.it a.fr a.c1 a.c2 a.c3))
    (base : List Frame) (hb : Bot base) (hs : Spine (ksLW a.fr a.c1 a.c2 a.c3) base) (s : Shared) (p : Pos) (H : Here w true (LT a pl S r (v 0) i ps c) [] s) :
    ∃ le s', GoTo w base s (lwF a.it a.fr a.c1 a.c2 a.c3) p s' (lwF a.it a.fr a.c1 a.c2 a.c3) ∧ Here w true (LT a pl S r (a.frV le t y true) i' ps (cellV (P : Nat))) [] s' ∧ Rel true [a.fr, a.it, a.c3] [] s s' := by
  obtain ⟨na, s1, e1, hna, ⟨fr0, hB, hSp, hE, p1, G1⟩, Af1⟩ := C base p s (lwF a.it a.fr a.c1 a.c2 a.c3) rfl (H.asksI hb hs [0,1,2,3,4,5])
  have H1 := Af1.hereI H [0,1,5] [(0,0), (0,1), (2,2), (2,3), (2,4), (0,2)]
  have hsR : Spine (ksRF a.it a.fr a.c1 a.c2 a.c3) (fr0 :: base) := by
    refine sp_code hs ?_
    obtain ⟨cp, hcp⟩ := hs
    rw [hE, hcp, hX]
  obtain ⟨nb, r2, s2, R2, hr2, Af2⟩ := (e_rf w m a (na 0) t y (xR n) (by rw [xR_len n hn]; omega) (xR_ne n hn)).go p1 (c := .call (.ref 311) ⟨[.str (xR n) (na 1)], []⟩) ⟨_, _, rfl, rfl, rfl⟩ (H1.asksI (hB hb) hsR [0])
  obtain ⟨tt, rfl⟩ := rv_mk hr2
  have H2 : Here w true (LT a pl S r (a.frV (na 0) t y true) i' ps (cellV (P : Nat))) [] s2 := Af2.hereI H1 [0] [(0,0), (2,1), (2,2), (2,3), (2,4), (2,5)]
  obtain ⟨t1, t2, t3, t4, t5, t6⟩ := hkt
  obtain ⟨nc, s3, ⟨p3, G3⟩, Af3⟩ := T base s2 e1 hs (H2.asks hb (fun ks e => by rw [t4] at e; cases e; exact hs) (fun _ => rfl) (fun z hz => by rw [t2] at hz; cases hz) (by rw [t2]; exact List.nodup_nil) (fun q hq => by rw [t3] at hq; cases hq) (by rw [t3]; exact List.nodup_nil))
  have H3 : Here w true (LT a pl S r (a.frV (na 0) t y true) i' ps (cellV (P : Nat))) [] s3 := Af3.here H2 (fun _ => rfl) (fun z hz => by rw [t5] at hz; cases hz) (fun z hz => .inr (.inr ⟨hz, by rw [t5]; exact fun h => nomatch h⟩)) H2.nd (fun q hq => nomatch hq) List.nodup_nil
  refine ⟨na 0, s3, ⟨p3, fun s'' e hR => G1 s2 _ R2 s'' e (G3 s'' e hR)⟩, H3, ?_⟩
  have RA : Rel true [a.fr, a.it, a.c3] [] s s1 := Af1.rel
  have RB : Rel true [a.fr, a.it, a.c3] [] s s2 := RA.within Af2.rel (ac (.inl (.head _)) an) an (fun h => by cases h)
  exact RB.within Af3.rel (fun z hz => by rw [t5] at hz; cases hz) (fun x hx => by rw [t6] at hx; cases hx) (fun _ => rfl)
noncomputable def lwV0 (sc dr : Nat) : OV := frmV [(kS24, .ref sc), (kS25, .ref dr)]
section
variable (w : World) (a : LA) (pl S r P : Nat) (P' : Int) (hS1 : 1 ≤ S) (hS : S ≤ 6) (hr1 : 1 ≤ r) (hr : r ≤ 6) (hP : P ≤ 8)
include hS1 hS hr1 hr hP
theorem rng_of (k : Nat) (hk : k ≤ 100) : Builtin.Range.rangeSize 0 (k : Nat) 1 = (k : Nat) ∧ smallR 0 (k : Nat) 1 (k : Nat) = true := by
  refine ⟨?_, small_of _ _ _ _ ⟨by omega, by omega⟩ ⟨by omega, by omega⟩ ⟨by omega, by omega⟩ ⟨by omega, by omega⟩⟩
  unfold Builtin.Range.rangeSize
  rw [if_pos (by omega)]
  split <;> omega
theorem la_h : LAh w a.fr a.c1 a.c2 a.c3 (S : Nat) (r : Nat) (P : Nat) (cS P S r r : Nat) (r : Nat) ((r : Nat) - 1) (S : Nat) ((S : Nat) - 1) ((ldE S r P).b : Nat) ((ldE S r P).n : Nat) ((ldE S r P).nt : Nat) (decide (((((ldE S r P).vals.map VV.int).length : Nat) : Int) ≤ 1)) (ldS S r P) (yS (cS P S r r)) (decI (300 + (cS P S r r : Nat))) (caLs S r P r) (cbLs r P S) ((ldE S r P).vals.map .int) := by
  have o := lead_ok S r P hS1 hS hr1 hr hP
  have hT := o.tot
  have g1 := rng_of S r P hS1 hS hr1 hr hP r (by omega)
  have g2 := rng_of S r P hS1 hS hr1 hr hP S (by omega)
  have hz : (zS (cS P S r r)).length ≤ 100000 := by
    show ((⟨List.replicate (cS P S r r) 34⟩ : Array Nat) ++ #[97]).size ≤ _
    simp
    omega
  exact ⟨⟨by omega, by omega⟩, ⟨by omega, by omega⟩, g1.1, g1.2, g2.1, g2.2, ⟨by omega, by omega⟩, by rw [yS_len]; omega, by simp, hz, by simp, by show (xR (cS P S r r)).length ≤ _; rw [xR_len _ (by omega)]; omega, (k_ca w a.fr a.c1 a.c2 a.c3 S r P hS1 hS hr1 hr hP), (k_cb w a.fr a.c1 a.c2 a.c3 S r P hS1 hS hr1 hr hP), (hsum_of w S r P), (k_jn w S r P hS1 hS hr1 hr hP), (k_cr w a.fr a.c1 a.c2 a.c3 S r P hS1 hS hr1 hr hP), (k_pm w a.fr a.c1 a.c2 a.c3 S r P hS1 hS hr1 hr hP), (k_rp w a.fr a.c1 a.c2 a.c3 S r P hS1 hS hr1 hr hP), (k_px w a.fr a.c1 a.c2 a.c3 S r P hS1 hS hr1 hr hP), (k_wi w a.fr a.c1 a.c2 a.c3 S r P hS1 hS hr1 hr hP), (fun se sd no tu κ => k_id w a.fr a.c1 a.c2 a.c3 S r P hS1 hS hr1 hr hP se sd no tu κ _), (e_irepr w _ (by omega))⟩
theorem lw_turn0 (base : List Frame) (hb : Bot base) (hs : Spine (ksLW a.fr a.c1 a.c2 a.c3) base) (s : Shared) (p : Pos) (H : Here w true (LT a pl S r (lwV0 a.sc a.dr) 0 [.int (P : Nat), .int P'] ⟨.type "cell", none, .cell none⟩) [] s) :
    ∃ le t y s', GoTo w base s (lwF a.it a.fr a.c1 a.c2 a.c3) p s' (lwF a.it a.fr a.c1 a.c2 a.c3) ∧ Here w true (LT a pl S r (a.frV le t y true) 1 [.int (P : Nat), .int P'] (cellV (P : Nat))) [] s' ∧ Rel true [a.fr, a.it, a.c3] [] s s' := by
  have o := lead_ok S r P hS1 hS hr1 hr hP
  have hT := o.tot
  have hh := la_h w a S r P hS1 hS hr1 hr hP
  have C := la0_e w a.it a.fr a.c1 a.c2 a.c3 a.sc a.dr pl 0 (S : Nat) (r : Nat) (P : Nat) P' (cS P S r r : Nat) 0 (r : Nat) ((r : Nat) - 1) (S : Nat) ((S : Nat) - 1) ((ldE S r P).b : Nat) ((ldE S r P).n : Nat) ((ldE S r P).nt : Nat) (decide (((((ldE S r P).vals.map VV.int).length : Nat) : Int) ≤ 1)) (ldS S r P) (yS (cS P S r r)) uE (decI (300 + (cS P S r r : Nat))) (caLs S r P r) (cbLs r P S) ((ldE S r P).vals.map .int)
    hh
  obtain ⟨le, s', G, H', R'⟩ := lw_tail w false a pl S r P (fun _ => lwV0 a.sc a.dr) 0 1 [.int (P : Nat), .int P'] ⟨.type "cell", none, .cell none⟩ (cS P S r r : Nat) (yS (cS P S r r)) (cS P S r r) (by omega) C (fun e cp => la0_cc w _ _ e cp ..) ⟨rfl, rfl, rfl, rfl, fun _ => rfl, fun _ => rfl⟩ (fun base s e hW => lc0_e w base s e a.it a.fr a.c1 a.c2 a.c3 a.sc a.dr pl 0 _ _ _ _ _ _ _ _ _ _ _ _ _ _ _ _ _ _ _ _ _ hh hW) base hb hs s p H
  exact ⟨le, _, _, s', G, H', R'⟩
theorem lw_turn1 (le0 : Nat) (t0 : Int) (y0 : Str) (base : List Frame) (hb : Bot base) (hs : Spine (ksLW a.fr a.c1 a.c2 a.c3) base) (s : Shared) (p : Pos) (H : Here w true (LT a pl S r (a.frV le0 t0 y0 true) 1 [.int P', .int (P : Nat)] (cellV P')) [] s) :
    ∃ le t y s', GoTo w base s (lwF a.it a.fr a.c1 a.c2 a.c3) p s' (lwF a.it a.fr a.c1 a.c2 a.c3) ∧ Here w true (LT a pl S r (a.frV le t y true) 2 [.int P', .int (P : Nat)] (cellV (P : Nat))) [] s' ∧ Rel true [a.fr, a.it, a.c3] [] s s' := by
  have o := lead_ok S r P hS1 hS hr1 hr hP
  have hT := o.tot
  have hh := la_h w a S r P hS1 hS hr1 hr hP
  have C := la1_e w a.it a.fr a.c1 a.c2 a.c3 a.sc a.dr pl le0 (S : Nat) (r : Nat) (P : Nat) P' (cS P S r r : Nat) t0 (r : Nat) ((r : Nat) - 1) (S : Nat) ((S : Nat) - 1) ((ldE S r P).b : Nat) ((ldE S r P).n : Nat) ((ldE S r P).nt : Nat) (decide (((((ldE S r P).vals.map VV.int).length : Nat) : Int) ≤ 1)) (ldS S r P) (yS (cS P S r r)) y0 (decI (300 + (cS P S r r : Nat))) (caLs S r P r) (cbLs r P S) ((ldE S r P).vals.map .int)
    hh
  obtain ⟨le, s', G, H', R'⟩ := lw_tail w true a pl S r P (fun _ => a.frV le0 t0 y0 true) 1 2 [.int P', .int (P : Nat)] (cellV P') (cS P S r r : Nat) (yS (cS P S r r)) (cS P S r r) (by omega) C (fun e cp => la1_cc w _ _ e cp ..) ⟨rfl, rfl, rfl, rfl, fun _ => rfl, fun _ => rfl⟩ (fun base s e hW => lc1_e w base s e a.it a.fr a.c1 a.c2 a.c3 a.sc a.dr pl le0 _ _ _ _ _ _ _ _ _ _ _ _ _ _ _ _ _ _ _ _ _ hh hW) base hb hs s p H
  exact ⟨le, _, _, s', G, H', R'⟩
end
noncomputable def ltK (k : Hook) (sc : Nat) (v1 v2 p q : Int) : Prop := k.tabs = false ∧ k.c = .call (.ref 316) [.ref sc] ∧ k.ks = some ksTp ∧ (∀ na, k.upd na = []) ∧ k.gneed = [] ∧ (∀ na, k.gupd na = []) ∧
  ∀ na, k.news na = [lwV0 sc (na 6), itV (na 2) 0, listV [.int p, .int q], cellV v1, cellV v2, ⟨.type "cell", none, .cell none⟩]
theorem law_fin (w : World) (sc : Nat) (ns : List Int) (v1 v2 p q : Int) (h1 : 1 ≤ v1 ∧ v1 ≤ 6) (h2 : 1 ≤ v2 ∧ v2 ≤ 6) (hp : 0 ≤ p ∧ p ≤ 8) (hq : 0 ≤ q ∧ q ≤ 8) {k : Hook} {X : Amb → List (Code × Pos) → Option (List Ora × St)} {AA : Amb → List (Code × Pos) → Nat → Nat} (hk : ltK k sc v1 v2 p q)
    (C : CallW w k (fun na => lwF (na 1) (na 0) (na 3) (na 4) (na 5)) .func X AA) (hX : ∀ (e : Amb) (cp : Nat → Cp), (outOf (X e (buildW ksTp cp 0))).c = lwC (AA e (buildW ksTp cp 0) 0) (AA e (buildW ksTp cp 0) 3) (AA e (buildW ksTp cp 0) 4) (AA e (buildW ksTp cp 0) 5))
    {kt : Hook} (hkt : kt.tabs = false ∧ kt.need = [] ∧ kt.gneed = [] ∧ kt.ks = some ksTp ∧ (∀ na, kt.upd na = []) ∧ (∀ na, kt.gupd na = []) ∧ ∀ na, kt.r na = .ret (.bool true))
    (T : ∀ (base : List Frame) (s : Shared) (e : Amb), WOk (some ksTp) (base.map Frame.where_) → EffAt w kt base s (contOf (outOf (X e (base.map Frame.where_))).t (.ok .next)) (outOf (X e (base.map Frame.where_))).c (outOf (X e (base.map Frame.where_))).p)
    (base : List Frame) (hb : Bot base) (hs : Spine ksTp base) (s : Shared) (pp : Pos) (c : Code) (hc : HC.Is (.call (.ref 316) [.ref sc]) c) (H : Here w true [(sc, listV (ns.map .int))] [] s) (hask : Asks w k base s) :
    ∃ r s', Reach (Mo pw w) base s (den c) c pp [] s' (.ret r) ∧ rv r = some (.ret (.bool true)) ∧ Rel true [] [] s s' ∧ Tbls s'.heap := by
  obtain ⟨k1, k2, k3, k4, k5, k6, k7⟩ := hk
  obtain ⟨na, s1, e1, hna, ⟨fr0, hB, hSp, hE, p1, G1⟩, Af1⟩ := C base pp s c (by rw [k2]; exact hc) hask
  have hlen : (k.news na).length = 6 := by rw [k7]; rfl
  have m0 : ∀ i, i < 6 → s.heap.objs.size ≤ na i := fun i hi => (Af1.new i _ (List.getElem?_eq_getElem (show i < (k.news na).length by rw [hlen]; exact hi))).1
  have ne : ∀ i j, i < 6 → j < 6 → na i = na j → i = j := fun i j hi hj e => Af1.nand i j (by rw [hlen]; exact hi) (by rw [hlen]; exact hj) e
  obtain ⟨S, rfl⟩ := Int.eq_ofNat_of_zero_le (show 0 ≤ v1 by omega)
  obtain ⟨r, rfl⟩ := Int.eq_ofNat_of_zero_le (show 0 ≤ v2 by omega)
  obtain ⟨P, rfl⟩ := Int.eq_ofNat_of_zero_le hp.1
  obtain ⟨Q, rfl⟩ := Int.eq_ofNat_of_zero_le hq.1
  let a : LA := ⟨na 1, na 0, na 3, na 4, na 5, sc, na 6⟩
  have nd : [na 0, na 1, na 2, na 3, na 4, na 5].Nodup := nd_fn (n := 6) ne [0,1,2,3,4,5]
  have H1 : Here w true (LT a (na 2) S r (lwV0 sc (na 6)) 0 [.int (P : Nat), .int (Q : Nat)] ⟨.type "cell", none, .cell none⟩) [] s1 := Af1.here H (fun _ => rfl) (fun z hz => by rw [k4] at hz; cases hz) (by
    rw [k7]
    exact ac (.inr (.inl (.head _))) (ac (.inr (.inl (.tail _ (.head _)))) (ac (.inr (.inl (.tail _ (.tail _ (.head _))))) (ac (.inr (.inl (.tail _ (.tail _ (.tail _ (.head _)))))) (ac (.inr (.inl (.tail _ (.tail _ (.tail _ (.tail _ (.head _))))))) (ac (.inr (.inl (.tail _ (.tail _ (.tail _ (.tail _ (.tail _ (.head _)))))))) an)))))) nd (fun q hq => nomatch hq) List.nodup_nil
  have hsL : Spine (ksLW a.fr a.c1 a.c2 a.c3) (fr0 :: base) := by
    refine sp_code hs ?_
    obtain ⟨cp, hcp⟩ := hs
    have hna' : na = AA e1 (buildW ksTp cp 0) := by rw [← hcp]; exact hna
    rw [hE, hcp, hX, ← hna']
  obtain ⟨le, t, y, s2, ⟨p2, G2⟩, H2, R2⟩ := lw_turn0 w a (na 2) S r P (Q : Nat) (by omega) (by omega) (by omega) (by omega) (by omega) (fr0 :: base) (hB hb) hsL s1 p1 H1
  obtain ⟨le2, t2, y2, s3, ⟨p3, G3⟩, H3, R3⟩ := lw_turn1 w a (na 2) S r Q (P : Nat) (by omega) (by omega) (by omega) (by omega) (by omega) le t y (fr0 :: base) (hB hb) hsL s2 p2 H2
  obtain ⟨nb, r4, s4, R4, hr4, Af4⟩ := (le_e w (na 1) (na 0) (na 3) (na 4) (na 5) (na 2) (P : Nat) (Q : Nat)).go (base := fr0 :: base) (s := s3) p3 rfl (H3.asksI (hB hb) hsL [1,2])
  obtain ⟨tt, rfl⟩ := rv_mk hr4
  obtain ⟨t1, t2', t3, t4, t5, t6, t7⟩ := hkt
  have H4 : Here w true [] [] s4 := Af4.hereI H3 [1] []
  obtain ⟨nc, r5, s5, R5, hr5, Af5⟩ := T base s4 e1 hs (H4.asks hb (fun ks e => by rw [t4] at e; cases e; exact hs) (fun h => rfl) (fun z hz => by rw [t2'] at hz; cases hz) (by rw [t2']; exact List.nodup_nil) (fun q hq => by rw [t3] at hq; cases hq) (by rw [t3]; exact List.nodup_nil))
  have H5 : Here w true [] [] s5 := Af5.here H4 (fun _ => rfl) (fun z hz => by rw [t5] at hz; cases hz) (fun z hz => nomatch hz) List.nodup_nil (fun q hq => nomatch hq) List.nodup_nil
  refine ⟨r5, s5, G1 s4 _ (G2 _ _ (G3 _ _ R4)) s5 _ R5, by rw [hr5, t7], ?_, H5.tbl rfl⟩
  have sub : ∀ z ∈ [na 0, na 1, na 5], z ∈ ([] : List Nat) ∨ s.heap.objs.size ≤ z ∨ true = true ∧ (z = 147 ∨ z = 154) := ac (.inr (.inl (m0 0 (by decide)))) (ac (.inr (.inl (m0 1 (by decide)))) (ac (.inr (.inl (m0 5 (by decide)))) an))
  have RA : Rel true [] [] s s1 := (Rel.refl true [] [] s).within Af1.rel (fun z hz => by rw [k4] at hz; cases hz) (fun x hx => by rw [k6] at hx; cases hx) (fun h => rfl)
  have RB : Rel true [] [] s s2 := RA.within R2 sub (fun x hx => nomatch hx) (fun h => h)
  have RC : Rel true [] [] s s3 := RB.within R3 sub (fun x hx => nomatch hx) (fun h => h)
  have RD : Rel true [] [] s s4 := RC.within Af4.rel (ac (.inr (.inl (m0 1 (by decide)))) an) an (fun h => by cases h)
  exact RD.within Af5.rel (fun z hz => by rw [t5] at hz; cases hz) (fun x hx => by rw [t6] at hx; cases hx) (fun h => rfl)
theorem fm_lt (x b : Int) (hb : 0 < b) : 0 ≤ Int.fmod x b ∧ Int.fmod x b < b := ⟨Int.fmod_nonneg_of_pos _ hb, Int.fmod_lt_of_pos _ hb⟩
theorem fm6 (x : Int) : 1 ≤ 1 + Int.fmod x 6 ∧ 1 + Int.fmod x 6 ≤ 6 := by
  have := fm_lt x 6 (by decide)
  omega
theorem fm9 (x : Int) : 0 ≤ Int.fmod x 9 ∧ Int.fmod x 9 ≤ 8 := by
  have := fm_lt x 9 (by decide)
  omega
theorem law_go (w : World) (sc : Nat) (ns : List Int) (hl : ns.length ≤ 1000) (base : List Frame) (hb : Bot base) (hs : Spine ksTp base) (s : Shared) (pp : Pos) (c : Code) (hc : HC.Is (.call (.ref 316) [.ref sc]) c) (H : Here w true [(sc, listV (ns.map .int))] [] s) :
    ∃ r s', Reach (Mo pw w) base s (den c) c pp [] s' (.ret r) ∧ rv r = some (.ret (.bool true)) ∧ Rel true [] [] s s' ∧ Tbls s'.heap := by
  have ask : ∀ (k : Hook) (vs : List VV), k.ks = some ksTp → k.tabs = false → k.gneed = [] → ns.map VV.int = vs → k.need = vws [(sc, listV vs)] → Asks w k base s := fun k vs h1 h2 h3 h4 h5 => H.asks hb (fun ks e => by rw [h1] at e; cases e; exact hs) (fun _ => rfl) (fun z hz => by
    rw [h5] at hz
    subst h4
    exact .inl (vws_mem hz)) (by rw [h5]; show [sc].Nodup; simp) (fun q hq => by rw [h3] at hq; cases hq) (by rw [h3]; exact List.nodup_nil)
  match ns, hl, H, ask with
  | [], hl, H, ask =>
    cases hb2 : fl2 w with
    | true =>
      exact law_fin w sc ([]) 4 6 2 7 ⟨by decide, by decide⟩ ⟨by decide, by decide⟩ ⟨by decide, by decide⟩ ⟨by decide, by decide⟩ (k := lt0TH sc) ⟨rfl, rfl, rfl, fun _ => rfl, rfl, fun _ => rfl, fun _ => rfl⟩ (lt0T_e w sc hb2) (fun e cp => by
        show (outOf ((lt0TD w sc hb2).R (fl1 w) (fl2 w) e (buildW ksTp cp 0))).c = _
        rw [hb2]
        exact lt0T_cc w _ e cp sc hb2) ⟨rfl, rfl, rfl, rfl, fun _ => rfl, fun _ => rfl, fun _ => rfl⟩ (fun base s e hW => ld0T_e w base s e sc hb2 hW) base hb hs s pp c hc H (ask _ _ rfl rfl rfl rfl rfl)
    | false =>
      exact law_fin w sc ([]) 4 6 2 7 ⟨by decide, by decide⟩ ⟨by decide, by decide⟩ ⟨by decide, by decide⟩ ⟨by decide, by decide⟩ (k := lt0FH sc) ⟨rfl, rfl, rfl, fun _ => rfl, rfl, fun _ => rfl, fun _ => rfl⟩ (lt0F_e w sc hb2) (fun e cp => by
        show (outOf ((lt0FD w sc hb2).R (fl1 w) (fl2 w) e (buildW ksTp cp 0))).c = _
        rw [hb2]
        exact lt0F_cc w _ e cp sc hb2) ⟨rfl, rfl, rfl, rfl, fun _ => rfl, fun _ => rfl, fun _ => rfl⟩ (fun base s e hW => ld0F_e w base s e sc hb2 hW) base hb hs s pp c hc H (ask _ _ rfl rfl rfl rfl rfl)
  | [x0], hl, H, ask =>
    cases hb2 : fl2 w with
    | true =>
      exact law_fin w sc ([x0]) (1 + Int.fmod (Int.fmod x0 1000000) 6) 6 2 7 (fm6 _) ⟨by decide, by decide⟩ ⟨by decide, by decide⟩ ⟨by decide, by decide⟩ (k := lt1TH sc x0) ⟨rfl, rfl, rfl, fun _ => rfl, rfl, fun _ => rfl, fun _ => rfl⟩ (lt1T_e w sc x0 hb2) (fun e cp => by
        show (outOf ((lt1TD w sc x0 hb2).R (fl1 w) (fl2 w) e (buildW ksTp cp 0))).c = _
        rw [hb2]
        exact lt1T_cc w _ e cp sc x0 hb2) ⟨rfl, rfl, rfl, rfl, fun _ => rfl, fun _ => rfl, fun _ => rfl⟩ (fun base s e hW => ld1T_e w base s e sc x0 hb2 hW) base hb hs s pp c hc H (ask _ _ rfl rfl rfl rfl rfl)
    | false =>
      exact law_fin w sc ([x0]) (1 + Int.fmod (Int.fmod x0 1000000) 6) 6 2 7 (fm6 _) ⟨by decide, by decide⟩ ⟨by decide, by decide⟩ ⟨by decide, by decide⟩ (k := lt1FH sc x0) ⟨rfl, rfl, rfl, fun _ => rfl, rfl, fun _ => rfl, fun _ => rfl⟩ (lt1F_e w sc x0 hb2) (fun e cp => by
        show (outOf ((lt1FD w sc x0 hb2).R (fl1 w) (fl2 w) e (buildW ksTp cp 0))).c = _
        rw [hb2]
        exact lt1F_cc w _ e cp sc x0 hb2) ⟨rfl, rfl, rfl, rfl, fun _ => rfl, fun _ => rfl, fun _ => rfl⟩ (fun base s e hW => ld1F_e w base s e sc x0 hb2 hW) base hb hs s pp c hc H (ask _ _ rfl rfl rfl rfl rfl)
  | [x0, x1], hl, H, ask =>
    cases hb2 : fl2 w with
    | true =>
      exact law_fin w sc ([x0, x1]) (1 + Int.fmod (Int.fmod x0 1000000) 6) (1 + Int.fmod (Int.fmod x1 1000000) 6) 2 7 (fm6 _) (fm6 _) ⟨by decide, by decide⟩ ⟨by decide, by decide⟩ (k := lt2TH sc x0 x1) ⟨rfl, rfl, rfl, fun _ => rfl, rfl, fun _ => rfl, fun _ => rfl⟩ (lt2T_e w sc x0 x1 hb2) (fun e cp => by
        show (outOf ((lt2TD w sc x0 x1 hb2).R (fl1 w) (fl2 w) e (buildW ksTp cp 0))).c = _
        rw [hb2]
        exact lt2T_cc w _ e cp sc x0 x1 hb2) ⟨rfl, rfl, rfl, rfl, fun _ => rfl, fun _ => rfl, fun _ => rfl⟩ (fun base s e hW => ld2T_e w base s e sc x0 x1 hb2 hW) base hb hs s pp c hc H (ask _ _ rfl rfl rfl rfl rfl)
    | false =>
      exact law_fin w sc ([x0, x1]) (1 + Int.fmod (Int.fmod x0 1000000) 6) (1 + Int.fmod (Int.fmod x1 1000000) 6) 2 7 (fm6 _) (fm6 _) ⟨by decide, by decide⟩ ⟨by decide, by decide⟩ (k := lt2FH sc x0 x1) ⟨rfl, rfl, rfl, fun _ => rfl, rfl, fun _ => rfl, fun _ => rfl⟩ (lt2F_e w sc x0 x1 hb2) (fun e cp => by
        show (outOf ((lt2FD w sc x0 x1 hb2).R (fl1 w) (fl2 w) e (buildW ksTp cp 0))).c = _
        rw [hb2]
        exact lt2F_cc w _ e cp sc x0 x1 hb2) ⟨rfl, rfl, rfl, rfl, fun _ => rfl, fun _ => rfl, fun _ => rfl⟩ (fun base s e hW => ld2F_e w base s e sc x0 x1 hb2 hW) base hb hs s pp c hc H (ask _ _ rfl rfl rfl rfl rfl)
  | [x0, x1, x2], hl, H, ask =>
    cases hb2 : fl2 w with
    | true =>
      exact law_fin w sc ([x0, x1, x2]) (1 + Int.fmod (Int.fmod x0 1000000) 6) (1 + Int.fmod (Int.fmod x1 1000000) 6) (Int.fmod (Int.fmod x2 1000000) 9) 7 (fm6 _) (fm6 _) (fm9 _) ⟨by decide, by decide⟩ (k := lt3TH sc x0 x1 x2) ⟨rfl, rfl, rfl, fun _ => rfl, rfl, fun _ => rfl, fun _ => rfl⟩ (lt3T_e w sc x0 x1 x2 hb2) (fun e cp => by
        show (outOf ((lt3TD w sc x0 x1 x2 hb2).R (fl1 w) (fl2 w) e (buildW ksTp cp 0))).c = _
        rw [hb2]
        exact lt3T_cc w _ e cp sc x0 x1 x2 hb2) ⟨rfl, rfl, rfl, rfl, fun _ => rfl, fun _ => rfl, fun _ => rfl⟩ (fun base s e hW => ld3T_e w base s e sc x0 x1 x2 hb2 hW) base hb hs s pp c hc H (ask _ _ rfl rfl rfl rfl rfl)
    | false =>
      exact law_fin w sc ([x0, x1, x2]) (1 + Int.fmod (Int.fmod x0 1000000) 6) (1 + Int.fmod (Int.fmod x1 1000000) 6) (Int.fmod (Int.fmod x2 1000000) 9) 7 (fm6 _) (fm6 _) (fm9 _) ⟨by decide, by decide⟩ (k := lt3FH sc x0 x1 x2) ⟨rfl, rfl, rfl, fun _ => rfl, rfl, fun _ => rfl, fun _ => rfl⟩ (lt3F_e w sc x0 x1 x2 hb2) (fun e cp => by
        show (outOf ((lt3FD w sc x0 x1 x2 hb2).R (fl1 w) (fl2 w) e (buildW ksTp cp 0))).c = _
        rw [hb2]
        exact lt3F_cc w _ e cp sc x0 x1 x2 hb2) ⟨rfl, rfl, rfl, rfl, fun _ => rfl, fun _ => rfl, fun _ => rfl⟩ (fun base s e hW => ld3F_e w base s e sc x0 x1 x2 hb2 hW) base hb hs s pp c hc H (ask _ _ rfl rfl rfl rfl rfl)
  | x0 :: x1 :: x2 :: x3 :: rest, hl, H, ask =>
    have hl4 : (rest.map VV.int).length ≤ 1000 := by rw [List.length_map]; simp at hl; omega
    obtain ⟨κ, hκ⟩ := H.obj (a := sc) (.head _) rfl
    cases hb2 : fl2 w with
    | true =>
      exact law_fin w sc (x0 :: x1 :: x2 :: x3 :: rest) (1 + Int.fmod (Int.fmod x0 1000000) 6) (1 + Int.fmod (Int.fmod x1 1000000) 6) (Int.fmod (Int.fmod x2 1000000) 9) (Int.fmod (Int.fmod x3 1000000) 9) (fm6 _) (fm6 _) (fm9 _) (fm9 _) (k := lt4TH sc x0 x1 x2 x3 (rest.map .int) κ) ⟨rfl, rfl, rfl, fun _ => rfl, rfl, fun _ => rfl, fun _ => rfl⟩ (lt4T_e w sc x0 x1 x2 x3 (rest.map .int) κ hl4 hb2) (fun e cp => by
        show (outOf ((lt4TD w sc x0 x1 x2 x3 (rest.map .int) κ hl4 hb2).R (fl1 w) (fl2 w) e (buildW ksTp cp 0))).c = _
        rw [hb2]
        exact lt4T_cc w _ e cp sc x0 x1 x2 x3 (rest.map .int) κ hl4 hb2) ⟨rfl, rfl, rfl, rfl, fun _ => rfl, fun _ => rfl, fun _ => rfl⟩ (fun base s e hW => ld4T_e w base s e sc x0 x1 x2 x3 (rest.map .int) κ hl4 hb2 hW) base hb hs s pp c hc H (H.asks hb (fun ks e => by cases e; exact hs) (fun _ => rfl) (fun z hz => by
        have hz : z ∈ [(sc, SV.ob ((listV (.int x0 :: .int x1 :: .int x2 :: .int x3 :: rest.map .int)).mk' κ))] := hz
        rw [List.mem_singleton.mp hz]
        exact .inr ⟨_, rfl, hκ, .head _⟩) (by show [sc].Nodup; simp) (fun q hq => nomatch hq) List.nodup_nil)
    | false =>
      exact law_fin w sc (x0 :: x1 :: x2 :: x3 :: rest) (1 + Int.fmod (Int.fmod x0 1000000) 6) (1 + Int.fmod (Int.fmod x1 1000000) 6) (Int.fmod (Int.fmod x2 1000000) 9) (Int.fmod (Int.fmod x3 1000000) 9) (fm6 _) (fm6 _) (fm9 _) (fm9 _) (k := lt4FH sc x0 x1 x2 x3 (rest.map .int) κ) ⟨rfl, rfl, rfl, fun _ => rfl, rfl, fun _ => rfl, fun _ => rfl⟩ (lt4F_e w sc x0 x1 x2 x3 (rest.map .int) κ hl4 hb2) (fun e cp => by
        show (outOf ((lt4FD w sc x0 x1 x2 x3 (rest.map .int) κ hl4 hb2).R (fl1 w) (fl2 w) e (buildW ksTp cp 0))).c = _
        rw [hb2]
        exact lt4F_cc w _ e cp sc x0 x1 x2 x3 (rest.map .int) κ hl4 hb2) ⟨rfl, rfl, rfl, rfl, fun _ => rfl, fun _ => rfl, fun _ => rfl⟩ (fun base s e hW => ld4F_e w base s e sc x0 x1 x2 x3 (rest.map .int) κ hl4 hb2 hW) base hb hs s pp c hc H (H.asks hb (fun ks e => by cases e; exact hs) (fun _ => rfl) (fun z hz => by
        have hz : z ∈ [(sc, SV.ob ((listV (.int x0 :: .int x1 :: .int x2 :: .int x3 :: rest.map .int)).mk' κ))] := hz
        rw [List.mem_singleton.mp hz]
        exact .inr ⟨_, rfl, hκ, .head _⟩) (by show [sc].Nodup; simp) (fun q hq => nomatch hq) List.nodup_nil)
end
section
open PySem PySem.W PySem.Spec PySem.Calls PyProof.Rows
noncomputable def topF : Frame := .ret (fun _ => .pure (.done .next)) none false [] (.builtin "claim.caller" {}) default []
noncomputable abbrev topG : PySem.Ctx := ⟨.builtin "claim.caller" {}, none, none, [], none⟩
noncomputable abbrev WalkR (q : Program) (loose : List Str) (XP : (Str → Option Value) → Heap → Prop) {α : Type} (Yf : Shared → α) (Ya : World → α) (r : RowW) (d : DefRec) (kwd : List (Str × PySem.Expr)) : Prop :=
  ∀ (w : World) (s₀ s₁ : Shared) (mg mb : Str → Option Value), Ground q loose r.records XP w s₀ mg mb s₁.heap → Yf s₀ = Ya w → ∀ (a : Addr) (o : Obj) (pm cd doc dV kV : Value), s₁.heap.get? a = some o →
    o.data = .func { docDef d.name d.params d.body d.scope pm cd doc with defaults := dV, kwdefaults := kV } → s₁.heap.CodeRec cd d.name → Dflts mg s₁.heap d.params kwd dV kV → mg d.name = some (.ref a) → s₁.gens = #[] →
    ∀ (args : List WData) (vals : List Value) (as : List Addr), Laid r.records w s₀ s₁ args vals as → r.claim.pre args = true → WData.layableAll args = true → ReadsAllW r.records (classAt s₀.heap) s₁.heap vals args as → WellAll w.params s₁.heap vals args → (∀ a ∈ as, (a == sysModules) = false) →
      ∃ v s', Reach (model r.prog w) [topF] s₁ ((model r.prog w).den (.call (.ref a) ⟨vals, []⟩)) (.call (.ref a) ⟨vals, []⟩) default [] s' (.ret (.ok (.ret v))) ∧ GoodWG r.claim (classAt s₀.heap) (ExcName.means s₀.heap) args s₁ (.ok (.ret v)) s'
theorem top_ends {prog : Program} {w : World} {t : Sem PySem.Fin} {s : Shared} {R : Result → Shared → Prop} (hreg : s.asleep)
    (h : Sem.wp (model prog w) topG t (fun fin _ s' => ∃ f, fin = .done f ∧ (R (.ok f) s' ∧ leftWithCleanup s'.gens = false)) (fun e _ s' => R (.error e) s' ∧ leftWithCleanup s'.gens = false) default s) :
    ∃ n r s' s'', runN (denote table) prog w n s ⟨t, .builtin "claim.caller" {}, default, []⟩ = .halted (outcomeOf r) s' ∧
      schedN (denote table) prog w n (.single s ⟨t, .builtin "claim.caller" {}, default, []⟩) = .halted (outcomeOf r) s' ∧ s'.forget = s''.forget ∧ R r s'' := by
  obtain ⟨n, r, s₁, s₂, hs, hn, hfo, hR⟩ := wp_halts_full (M := model prog w) (R := R) hreg (Sem.wp_mono (post' := Sem.finPost (model prog w) topG (fun r s' => R r s' ∧ leftWithCleanup s'.gens = false)) (model prog w) topG t (fun fin p' s' h' => by
    obtain ⟨f, rfl, hf⟩ := h'
    exact hf) (fun _ _ _ h' => h') default s h)
  exact ⟨n, r, s₂, s₁, hn, hs, hfo, hR⟩
theorem top_call {c : ClaimW} {tree : List Value → Sem PySem.Fin} {w : World} {s : Shared} {free : Addr → Prop} {gens : Prop} {kept : Heap → Prop} (hz : s.asleep) (hgens : s.gens = #[])
    (hspec : ∀ args, c.pre args = true → WData.layableAll args = true →
      ∀ ord : List DictEntry → List DictEntry, (∀ l, (ord l).Perm l) →
      ∃ vs s₁, layAllW c.records (classAt s.heap) w.params ord args s = some (vs, s₁) ∧
        Sem.wp (model c.prog w) topG (tree vs) (fun fin _ s' => ∃ f, fin = .done f ∧ (c.Ends s args vs s₁ (.ok f) s' ∧ s'.os = s.os ∧ AllBare s'.gens ∧ kept s'.heap))
          (fun e _ s' => c.Ends s args vs s₁ (.error e) s' ∧ s'.os = s.os ∧ AllBare s'.gens ∧ kept s'.heap) default s₁) :
    c.CallFrom (fun vs => ⟨tree vs, .builtin "claim.caller" {}, default, []⟩) w free gens kept s := by
  intro args hpre hlay ord hord
  obtain ⟨vs, s₁, hlaid, hcode⟩ := hspec args hpre hlay ord hord
  have hal := layAllW_rest _ _ _ hlaid
  obtain ⟨k, r, s', s'', hrun, hsched, hfo, hcase, hos, hkp⟩ := top_ends (prog := c.prog) (w := w) (t := tree vs) (s := s₁)
    (R := fun r s' => c.Ends s args vs s₁ r s' ∧ s'.os = s.os ∧ kept s'.heap) (Shared.asleep_of_life hal.2.2.2 hz)
    (Sem.wp_mono _ _ _ (fun fin _ s' ⟨f, e, h1, h2, h3, h4⟩ => ⟨f, e, ⟨h1, h2, h4⟩, leftWithCleanup_false_of_bare h3⟩) (fun e _ s' ⟨h1, h2, h3, h4⟩ => ⟨⟨h1, h2, h4⟩, leftWithCleanup_false_of_bare h3⟩) _ _ hcode)
  obtain ⟨eh, _, _, eo, _⟩ := Shared.forget_eq hfo
  have hcase := hcase.congr eh
  rw [← eh] at hkp
  rw [← eo] at hos
  have hlife : s'.heap.life = s.heap.life := (runN_life _ _ _ hrun).trans hal.2.2.2
  refine ⟨vs, s₁, hlaid, k, _, s', hsched, ?_, (fun _ i x hx => by rw [hgens] at hx; simp at hx), hkp, by rw [hlife], Shared.rest_eq hos⟩
  rcases hcase with ⟨v, rfl, d1, d2, d3, d4, d5⟩ | ⟨e, ob, cls, rfl, d1, d2, d3, d4, d5⟩
  · exact .inl ⟨v, rfl, d1, d2, d3, fun b o y _ => d4 b o y, d5⟩
  · exact .inr ⟨e, ob, cls, rfl, d1, d2, d3, d4, fun b o y _ => d5 b o y⟩
theorem top_tree {prog : Program} {w : World} {name : Str} {m : Str → Option Value} {a : Addr} {vs : List Value} {s s' : Shared} {v : Value} {Q : PySem.Fin → Pos → Shared → Prop} {E : Value → Pos → Shared → Prop} (hn : s.heap.Ns mainGlobals m) (hf : m name = some (.ref a))
    (hr : Reach (model prog w) [topF] s ((model prog w).den (.call (.ref a) ⟨vs, []⟩)) (.call (.ref a) ⟨vs, []⟩) default [] s' (.ret (.ok (.ret v)))) (hQ : Q (.done (.ret v)) default s') :
    Sem.wp (model prog w) topG (do match ← nsGet mainNs name with
      | some f => do ret (← PySem.call f vs)
      | none => unsupported "claim.caller:no-such-global" : Sem PySem.Fin) Q E default s := by
  rw [Sem.wp_bind']
  show Sem.wp (model prog w) topG (nsGet mainGlobals name) _ _ _ _
  rw [Sem.wp_nsGet _ _ _ _ _ hn, hf]
  dsimp only
  rw [Sem.wp_bind']
  show Sem.wp (model prog w) topG (runValue (.call (.ref a) ⟨vs, []⟩)) _ _ _ _
  rw [Sem.wp_runValue]
  exact ⟨.ok (.ret v), s', reach_runs hr, hQ⟩
theorem openY {r : OpenRow} {q : Program} {loose : List Str} {Xt : Shared → Bool} {XP : (Str → Option Value) → Heap → Prop} {α : Type} {Yf : Shared → α} {Ya : World → α} {d : DefRec} {kwd : List (Str × PySem.Expr)} {N : Nat}
    (left : LeftO r.prog q loose Xt Yf Ya N)
    (hX : ∀ s, Xt s = true → XP (s.heap.nsMap mainGlobals) s.heap) (hXk : ∀ mg h h', XP mg h → (∀ b o, h.get? b = some o → h'.get? b = some o) → XP mg h')
    (hdef : defOf q r.name = some (d, kwd)) (hp : r.prog.theDef r.name = some (d.params, d.body, d.scope)) (hk : kwWritten? d.params.kwonlyargs d.params.kw_defaults = some kwd) (hRf : ∀ s, Xt s = true → RecFacts r.records s.heap) (hwr : (!r.writes || r.records.isEmpty) = true)
    (k1 : r.wellSaid = true) (ok : (chainsOk q && opensWell r.prog && (frees r.toRowW && r.within.isEmpty)) = true) (hb : r.prog.bare) (hw : r.toRowW.promised)
    (call : WalkR q loose XP Yf Ya r.toRowW d kwd) : r.Holds := by
  obtain ⟨ok, k5⟩ := Bool.and_eq_true_iff.mp ok
  obtain ⟨hch, o1⟩ := Bool.and_eq_true_iff.mp ok
  obtain ⟨k5, k6⟩ := Bool.and_eq_true_iff.mp k5
  obtain ⟨hsame, hu, ha, hap, hm⟩ := frees_parts k5
  have hi := ident_freeW hu ha hap
  have hwi : r.toRowW.claim.within = [] := List.isEmpty_iff.mp k6
  refine ⟨k1, hw, ⟨⟨hb, o1, by show r.makers.map _ = []; rw [hm]; rfl⟩, hw.witness, fun w => ⟨(left.behind hX hch w).1, fun s' hs' => ?_⟩⟩⟩
  obtain ⟨s₀, hf, hg0, s, hT, hz, hgens, hg, G00, Y⟩ := (left.behind (XP := fun mg h => XP mg h ∧ RecFacts r.records h) (fun s hs => ⟨hX s hs, hRf s hs⟩) hch w).2 s' hs'
  have G0 : Ground q loose [] XP w s (s.heap.nsMap mainGlobals) (s.heap.nsMap builtinsNs) s.heap := ⟨G00.T, G00.B, G00.D, G00.TE, G00.TD, G00.W, G00.X.1, G00.cls, G00.has, G00.apart, G00.once, G00.K⟩
  have RF := G00.X.2
  have hT' := hT
  refine ⟨s₀, hf, hg0, s, hT, fun n hn => ?_, RF.1, RF.2.1, ?_⟩
  · obtain rfl : n = r.name := by
      first
        | (split at hn <;> simp_all)
        | simp_all
    exact pinned_of_view hg G0 hdef hp hk
  have hgens : s.gens = #[] := Array.eq_empty_of_size_eq_zero (beq_iff_eq.mp hgens)
  have G : Ground q loose r.records XP w s _ _ s.heap := RF.ground G0
  refine top_call (c := r.toRowW.claim) hz hgens fun args hpre hlay ord hord => ?_
  obtain ⟨⟨vs, s₁⟩, hlaid⟩ := Option.isSome_iff_exists.mp (layAllW_isSome (P := w.params) (ord := ord) G.has args r.args s (pre_splitW hpre).1)
  have keeps := layAllW_keeps _ _ _ hlaid
  have hal := layAllW_rest _ _ _ hlaid
  obtain ⟨as, hrd, hin, hold⟩ := reads_layAllW hord _ _ _ hlaid hlay s₁.heap (fun _ _ e => e)
  have L : Laid r.records w s s₁ args vs as := ⟨⟨ord, hord, hlaid⟩, hrd, hin, hold, keeps, hal.1.trans hgens, hal.2.2.1⟩
  have G₁ := G.keeps hXk keeps
  obtain ⟨a, o, pm, cd, doc, dV, kV, h1, h2, h3, h4, h5⟩ := G₁.fn hdef
  obtain ⟨v, s2, hr, g⟩ := call w s s₁ _ _ G₁ Y a o pm cd doc dV kV h2 h3 h4 h5 (defOf_name hdef ▸ h1) L.gens args vs as L hpre hlay L.reads L.well (L.low G.low)
  refine ⟨vs, s₁, hlaid, top_tree (name := r.name) G₁.T.g h1 hr ⟨_, rfl, ?_⟩⟩
  have z := g.laid (c := r.toRowW.claim) hsame hwi hi L
  exact ⟨z.1, z.2.1, z.2.2, fun q => ⟨namesKept_of hT' hg _ keeps g.2.1.old, noTable hwr q⟩⟩
end
section
open PySem PySem.W PySem.W.X PyProof.Rows
noncomputable def fragX (P : Params) : Frag := (147, tableObj #[]) :: (154, tableObj #[]) :: frag P
theorem ints_vv : ∀ {items : List Value} {ns : List Int}, IntsAre items ns → vvs items = some (ns.map .int)
  | _, _, .nil => rfl
  | _, _, .cons n t h => by
    unfold vvs
    rw [ints_vv h]
    rfl
theorem tbl_grown {h h' : Heap} {b c : Addr} {m n : Int} (ht : h.TableAt c b #[]) (hb : h.get? b = some (tableObj #[])) (h1 : TblOk h' b m n) {o : Obj} (e : h.get? b = some o) : asItWas h h' b o := by
  rw [hb] at e
  cases e
  obtain ⟨o', e', v⟩ := h1
  have key : ∃ vs : List Value, o' = ⟨.none, none, .fields ⟨vs⟩, #[]⟩ := by
    rcases v with v | ⟨cg, v⟩
    · obtain ⟨κ, rfl⟩ := ov_mk v rfl
      exact ⟨_, rfl⟩
    · obtain ⟨κ, rfl⟩ := ov_mk v rfl
      exact ⟨_, rfl⟩
  obtain ⟨vs, rfl⟩ := key
  refine .inr (.inl ⟨ht.isCodeTable, rfl, #[], ⟨vs⟩, rfl, ?_⟩)
  rw [e']
  show some _ = some _
  rw [Array.empty_append]
  rfl
theorem kt_151 (P : Params) : (Mine.kt P).get 151 = some o151 := by kernel_rfl
theorem kt_158 (P : Params) : (Mine.kt P).get 158 = some o158 := by kernel_rfl
theorem kt_317 (P : Params) : (Mine.kt P).get 317 = none := by kernel_rfl
noncomputable def flD (d : Data) : Array Value := match d with
  | .fields vs => vs
  | _ => #[]
theorem cd_151 (P : Params) : o151 = { o151 with cls := .type "code", data := .fields (flD o151.data) } := by kernel_rfl
theorem cd_158 (P : Params) : o158 = { o158 with cls := .type "code", data := .fields (flD o158.data) } := by kernel_rfl
theorem tb_151 (P : Params) : (flD o151.data)[11]? = some (.ref 147) := by kernel_rfl
theorem tb_158 (P : Params) : (flD o158.data)[11]? = some (.ref 154) := by kernel_rfl
theorem holds_eq {h : Heap} {t t' : KT} (e : t = t') (H : KT.Holds h 1 0 t) : KT.Holds h 1 0 t' := by
  subst e
  exact H
theorem holds_eq2 {h : Heap} {K : Frag} {t' : KT} (e : KT.of K = t') (A : AllIn h K) : KT.Holds h 1 0 t' := holds_eq e (holds_of A)
theorem kt_get2 {h : Heap} {K : Frag} {t' : KT} (e : KT.of K = t') (A : AllIn h K) {a : Addr} {o : Obj} (q : t'.get a = some o) : h.get? a = some o := kt_get (holds_eq2 e A) q
theorem kt_get3 {h : Heap} {P : Params} (A : AllIn h (frag P)) {a : Addr} {o : Obj} (q : (Mine.kt P).get a = some o) : h.get? a = some o := @kt_get2 h (frag P) (Mine.kt P) (kt_eq P) A a o q
theorem law_top {w : World} {s₀ s₁ : Shared} {ns : List Int} {items : List Value} {c : ClaimW} {cl : Str → Option Addr} {mean : ExcName → Option Value} {args : List WData}
    (hn : ns.length ≤ 63) (hobj : s₁.heap.get? 317 = some { cls := .type "list", data := .seq items.toArray }) (hi : IntsAre items ns) (A : AllIn s₀.heap (fragX w.params)) (keeps : ∀ b o, s₀.heap.get? b = some o → s₁.heap.get? b = some o) (hg : s₁.gens = #[]) (hr : ∀ cls, c.raises args cls = false) (hp : c.post args (.bool true) args = true) :
    ∃ v s', Reach (model pw w) [topF] s₁ ((model pw w).den (.call (.ref 316) ⟨[.ref 317], []⟩)) (.call (.ref 316) ⟨[.ref 317], []⟩) default [] s' (.ret (.ok (.ret v))) ∧ GoodWG c cl mean args s₁ (.ok (.ret v)) s' := by
  have hkt : ∀ a o, (Mine.kt w.params).get a = some o → s₁.heap.get? a = some o := fun a o e => keeps a o (kt_get3 A.2.2 e)
  have t1 : s₁.heap.get? 147 = some (tableObj #[]) := keeps _ _ A.1
  have t2 : s₁.heap.get? 154 = some (tableObj #[]) := keeps _ _ A.2.1
  have hv : ov { cls := .type "list", data := .seq items.toArray } = some (listV (ns.map .int)) := by
    unfold ov payOf
    dsimp only
    rw [ints_vv hi]
    rfl
  have H : Here w true [(317, listV (ns.map .int))] [] s₁ := ⟨hkt, fun _ => ⟨⟨_, t1, .inl rfl⟩, ⟨_, t2, .inl rfl⟩⟩, fun q hq => by
    rw [List.mem_singleton.mp hq]
    exact ⟨_, hobj, hv⟩, by simp, fun q hq => by
    rw [List.mem_singleton.mp hq]
    exact ⟨kt_317 _, fun _ => ⟨show 317 ≠ 147 by decide, show 317 ≠ 154 by decide⟩⟩, (fun q hq => nomatch hq), List.nodup_nil⟩
  obtain ⟨r, s', R, hr', Rl, Tb⟩ := law_go w 317 ns (by omega) [topF] ⟨rfl, rfl⟩ ⟨fun _ => ⟨[], [], default, .Name uE default, .none, {}, default, 0, ""⟩, rfl⟩ s₁ default (.call (.ref 316) ⟨[.ref 317], []⟩) ⟨_, _, rfl, rfl, rfl⟩ H
  obtain ⟨tt, rfl⟩ := rv_mk hr'
  have R : Reach (Mo pw w) [topF] s₁ (den (.call (.ref 316) ⟨[.ref 317], []⟩)) (.call (.ref 316) ⟨[.ref 317], []⟩) default [] s' (.ret (.ok (.ret (.bool true)))) := R
  have e : den (.call (.ref 316) ⟨[.ref 317], []⟩) = (model pw w).den (.call (.ref 316) ⟨[.ref 317], []⟩) := congrFun den_eq _
  rw [e, Mo_eq] at R
  have c1 : ∃ c, s₁.heap.TableAt c 147 #[] := ⟨151, table_at (hkt 151 _ (kt_151 w.params)) (cd_151 w.params) (tb_151 w.params) t1 rfl⟩
  have c2 : ∃ c, s₁.heap.TableAt c 154 #[] := ⟨158, table_at (hkt 158 _ (kt_158 w.params)) (cd_158 w.params) (tb_158 w.params) t2 rfl⟩
  obtain ⟨c1, c1'⟩ := c1
  obtain ⟨c2, c2'⟩ := c2
  refine ⟨.bool true, s', R, .inl ⟨_, _, [], rfl, hr, ReadsW.bool true, hp, fun _ => ⟨List.nodup_nil, fun _ hm => (nomatch hm)⟩⟩, ⟨fun b o hb => ?_, fun b o hb => ?_⟩, Rl.os, Rl.bare (by rw [hg]; exact AllBare.empty)⟩
  · by_cases h1 : b = 147
    · subst h1
      exact tbl_grown c1' t1 Tb.1 hb
    · by_cases h2 : b = 154
      · subst h2
        exact tbl_grown c2' t2 Tb.2 hb
      · exact .inl (Rl.keep b o hb (fun h => nomatch h) fun _ => ⟨h1, h2⟩)
  · by_cases h1 : b = 147
    · subst h1
      obtain ⟨o', e', _⟩ := Tb.1
      exact ⟨o', e'⟩
    · by_cases h2 : b = 154
      · subst h2
        obtain ⟨o', e', _⟩ := Tb.2
        exact ⟨o', e'⟩
      · exact ⟨o, Rl.keep b o hb (fun h => nomatch h) fun _ => ⟨h1, h2⟩⟩
abbrev rwR := PySem.Challenge.rw_wu0097_01.row
noncomputable def vwQ : Program := { pw with main := { pw.main with body := [stm 20] } }
noncomputable def vwL : List Str := ["_wall", "CHAR_MAX", "_grouping_intervals", "NL", "EMPTYSTRING", "_ValueFormatter", "_Accumulator", "Error", "error_reply", "parse257", "Whitespace", "_law_closed_rows", "_law_passed_marks", "_law_reply", "_law_refused"].map Str.ofString
noncomputable def fragA : List Nat := [147,154,0,2,3,4,27,28,41,42,48,49,62,63,97,98,100,101,109,114,121,122,128,129,130,136,137,144,145,151,152,158,159,160,166,167,173,174,181,182,184,185,198,199,211,212,220,221,237,238,251,252,282,283,291,292,298,299,303,304,310,311,315,316]
noncomputable abbrev vwX (s : Shared) : Bool := xlAt vwQ [] s && recOk rwR.records s
theorem left_f (w : World) : (openEnds treeTable rwR.prog (w.withFollow "special-get-raises" false) 4536).map (fun s => (openSeen vwQ vwL (importedModules rwR.prog.main.body) vwX true s, obsZ fragA s)) = some (openGood vwQ vwL, valZ fragX 317 608 (w.withFollow "special-get-raises" false)) := by
  unfold openEnds fencedOpening topFrom
  rw [PySem.W.Fast.te10274390034422433532, PySem.W.Fast.te14289696077712309145, PySem.W.Fast.te14082659384304107361, PySem.W.Fast.te14364793385576792824, PySem.W.Fast.te4187177175401517315]
  kernel_rfl
theorem left_t (w : World) : (openEnds treeTable rwR.prog (w.withFollow "special-get-raises" true) 4536).map (fun s => (openSeen vwQ vwL (importedModules rwR.prog.main.body) vwX true s, obsZ fragA s)) = some (openGood vwQ vwL, valZ fragX 317 608 (w.withFollow "special-get-raises" true)) := by
  unfold openEnds fencedOpening topFrom
  rw [PySem.W.Fast.te10274390034422433532, PySem.W.Fast.te14289696077712309145, PySem.W.Fast.te14082659384304107361, PySem.W.Fast.te14364793385576792824, PySem.W.Fast.te4187177175401517315]
  kernel_rfl
theorem left_o : LeftO rwR.prog vwQ vwL vwX (obsZ fragA) (valZ fragX 317 608) 4536 := byRow2 "special-get-raises" left_f left_t
end
section
open PySem PySem.W PySem.W.X PySem.W.ZRun PyProof.Rows
theorem law_holds : PySem.Challenge.rw_wu0097_01.Holds := by
  w_on
  refine holds_law (by kernel_rfl) fun said => ?_
  refine openY (r := rwR) (q := vwQ) (loose := vwL) (Xt := vwX) (XP := XL vwQ []) (Yf := obsZ fragA) (Ya := valZ fragX 317 608) (N := 4536) left_o (fun s e => xl_of s (Bool.and_eq_true_iff.mp e).1) XL.keeps (by rfl) (by rfl) (by rfl) (fun s e => recFacts_of (Bool.and_eq_true_iff.mp e).2) (by rfl) (by assumption) (by decide +kernel) ⟨rfl, rfl, rfl, rfl, rfl, by decide +kernel⟩ ?hw ?hc
  (case hw => w_witness2)
  k_fill
  intro w s₀ s₁ mg mb G y fa o pm cd doc dV kV ho hd hcd hD hmg hg args vals as L hpre hlay hrd hwl hlo
  have F := z_facts (fun _ => by rfl) y
  have A := F.1
  have ZN := F.2.2.1
  have KX := InK.keeps w s₀.heap s₁.heap F.2.1 (Laid.keeps L)
  refine Ground.open G ?_
  intro T B D TE TW
  wrow_args hpre hlay hrd hwl hlo
  obtain ⟨hat, hsz⟩ := script_at L
  rw [ZN] at hat hsz
  subst hat
  have z := hmg.symm.trans (mg_of KX (Top.g T) (show nsIn (fragX w.params) mainGlobals _ = some (some (.ref 316)) by kernel_rfl))
  obtain rfl : fa = 316 := Value.ref.inj (Option.some.inj z)
  all_lens
  refine law_top ?hn (script_obj L (by assumption)) (by assumption) A (Laid.keeps L) hg (fun _ => rfl) (by kernel_rfl)
  omega
end
end Mine
theorem PySem.Challenge.cw_wu0097_01_holds : PySem.Challenge.rw_wu0097_01.Holds :=
  Mine.law_holds
