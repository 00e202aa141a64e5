import PyProof.Rows.All
import Wide.All
import OpenK.AllK
import Wide.FinOn
import PySem.Challenge.RW_mj0242_04
open PySem PySem.W PyProof.Rows
set_option Elab.async false
set_option compiler.extract_closed false
set_option maxRecDepth 100000
set_option maxHeartbeats 8000000
set_option linter.all false
namespace Mine
open PySem.W.BT (node nil)
noncomputable def z0 : Str := ⟨⟨[95,95,110,97,109,101,95,95]⟩⟩
noncomputable def z2 : Str := ⟨⟨[95,95,100,111,99,95,95]⟩⟩
noncomputable def z3 : Str := ⟨⟨[95,95,112,97,99,107,97,103,101,95,95]⟩⟩
noncomputable def z4 : Str := ⟨⟨[95,95,108,111,97,100,101,114,95,95]⟩⟩
noncomputable def z5 : Str := ⟨⟨[95,95,115,112,101,99,95,95]⟩⟩
noncomputable def z160 : Str := ⟨⟨[95,95,109,97,105,110,95,95]⟩⟩
noncomputable def z161 : Str := ⟨⟨[95,99,111,108,108,101,99,116,105,111,110,115]⟩⟩
noncomputable def z162 : Str := ⟨⟨[105,109,112,111,114,116,46,108,111,97,100,101,100,46,95,99,111,108,108,101,99,116,105,111,110,115]⟩⟩
noncomputable def z163 : Str := ⟨⟨[99,108,97,115,115,46,95,102,114,111,122,101,110,95,105,109,112,111,114,116,108,105,98,46,66,117,105,108,116,105,110,73,109,112,111,114,116,101,114]⟩⟩
noncomputable def z164 : Str := ⟨⟨[119,97,116,99,104,101,100,46,105,109,112,111,114,116]⟩⟩
noncomputable def z165 : Str := ⟨⟨[99,108,97,115,115,46,95,102,114,111,122,101,110,95,105,109,112,111,114,116,108,105,98,46,77,111,100,117,108,101,83,112,101,99]⟩⟩
noncomputable def z166 : Str := ⟨⟨[115,121,115,46,109,111,100,117,108,101,115,46,98,111,111,107,101,100,45,101,112,111,99,104]⟩⟩
noncomputable def z167 : Str := ⟨⟨[115,121,115,46,109,111,100,117,108,101,115,46,108,97,110,100,101,100,46,95,99,111,108,108,101,99,116,105,111,110,115]⟩⟩
noncomputable def z168 : Str := ⟨⟨[105,109,112,111,114,116,46,108,97,116,101,114,45,108,97,105,100,46,95,99,111,108,108,101,99,116,105,111,110,115]⟩⟩
noncomputable def z169 : Str := ⟨⟨[119,97,116,99,104,101,100,46,108,105,98,114,97,114,121]⟩⟩
noncomputable def z170 : Str := ⟨⟨[119,97,116,99,104,101,100,46,108,105,98,114,97,114,121,45,111,98,106,101,99,116,115]⟩⟩
noncomputable def z172 : Str := ⟨⟨[119,97,116,99,104,101,100,46,108,105,98,114,97,114,121,45,100,101,101,112,46,95,99,111,108,108,101,99,116,105,111,110,115]⟩⟩
noncomputable def z174 : Str := ⟨⟨[95,95,97,110,110,111,116,97,116,105,111,110,115,95,95]⟩⟩
noncomputable def z175 : Str := ⟨⟨[95,95,98,117,105,108,116,105,110,115,95,95]⟩⟩
noncomputable def z176 : Str := ⟨⟨[95,95,102,105,108,101,95,95]⟩⟩
noncomputable def z177 : Str := ⟨⟨[47,99,108,97,105,109,47,99,117,116,46,112,121]⟩⟩
noncomputable def z178 : Str := ⟨⟨[95,95,99,97,99,104,101,100,95,95]⟩⟩
noncomputable def z179 : Str := ⟨⟨[100,101,113,117,101]⟩⟩
noncomputable def z180 : Str := ⟨⟨[60,109,111,100,117,108,101,62]⟩⟩
noncomputable def z181 : Str := ⟨⟨[]⟩⟩
noncomputable def z188 : Str := ⟨⟨[95,95,109,111,100,117,108,101,95,95]⟩⟩
noncomputable def z190 : Str := ⟨⟨[95,95,102,105,114,115,116,108,105,110,101,110,111,95,95]⟩⟩
noncomputable def z200 : Str := ⟨⟨[95,95,115,116,97,116,105,99,95,97,116,116,114,105,98,117,116,101,115,95,95]⟩⟩
noncomputable def z201 : Str := ⟨⟨[95,95,100,105,99,116,95,95]⟩⟩
noncomputable def z202 : Str := ⟨⟨[95,95,119,101,97,107,114,101,102,95,95]⟩⟩
noncomputable def z206 : Str := ⟨⟨[110,97,109,101]⟩⟩
noncomputable def z215 : Str := ⟨⟨[95,95,105,110,105,116,95,95]⟩⟩
noncomputable def z216 : Str := ⟨⟨[95,95,114,101,112,114,95,95]⟩⟩
noncomputable def z226 : Str := ⟨⟨[108,97,119,95,109,106,48,50,52,50,95,48,52]⟩⟩
noncomputable def z227 : Str := ⟨⟨[95,119,97,108,108]⟩⟩
noncomputable def z228 : Str := ⟨⟨[114,101,112,108,97,99,101]⟩⟩
noncomputable def z229 : Str := ⟨⟨[95,119,104,101,110,99,101]⟩⟩
noncomputable def z230 : Str := ⟨⟨[95,105,110,100,101,120]⟩⟩
noncomputable def z231 : Str := ⟨⟨[85,110,115,117,112,112,111,114,116,101,100,79,112,101,114,97,116,105,111,110]⟩⟩
noncomputable def z232 : Str := ⟨⟨[73,79,66,97,115,101]⟩⟩
noncomputable def z233 : Str := ⟨⟨[66,117,102,102,101,114,101,100,73,79,66,97,115,101]⟩⟩
noncomputable def z234 : Str := ⟨⟨[84,101,120,116,73,79,66,97,115,101]⟩⟩
noncomputable def z235 : Str := ⟨⟨[66,121,116,101,115,73,79]⟩⟩
noncomputable def z236 : Str := ⟨⟨[83,116,114,105,110,103,73,79]⟩⟩
noncomputable def z237 : Str := ⟨⟨[95,107,105,110,100]⟩⟩
noncomputable def z238 : Str := ⟨⟨[95,102,115,112,97,116,104]⟩⟩
noncomputable def z239 : Str := ⟨⟨[95,99,104,101,99,107,95,97,114,103,95,116,121,112,101,115]⟩⟩
noncomputable def z240 : Str := ⟨⟨[105,115,97,98,115]⟩⟩
noncomputable def z241 : Str := ⟨⟨[106,111,105,110]⟩⟩
noncomputable def z242 : Str := ⟨⟨[100,105,114,110,97,109,101]⟩⟩
noncomputable def z243 : Str := ⟨⟨[115,104,108,101,120]⟩⟩
noncomputable def z244 : Str := ⟨⟨[115,112,108,105,116]⟩⟩
noncomputable def z245 : Str := ⟨⟨[95,108,97,119,95,115,105,103,110]⟩⟩
noncomputable def z246 : Str := ⟨⟨[95,108,97,119,95,109,111,118,101]⟩⟩
noncomputable def z247 : Str := ⟨⟨[95,108,97,119,95,119,111,114,100,115]⟩⟩
noncomputable def z248 : Str := ⟨⟨[95,108,97,119,95,116,111,108,100]⟩⟩
noncomputable def z249 : Str := ⟨⟨[95,108,97,119,95,104,111,108,100,115]⟩⟩
noncomputable def z250 : Str := ⟨⟨[108,97,119]⟩⟩
noncomputable def z252 : Str := ⟨⟨[116,101,120,116]⟩⟩
noncomputable def z255 : Str := ⟨⟨[110]⟩⟩
noncomputable def z257 : Str := ⟨⟨[105,111]⟩⟩
noncomputable def z258 : Str := ⟨⟨[95,95,113,117,97,108,110,97,109,101,95,95]⟩⟩
noncomputable def z259 : Str := ⟨⟨[95,95,110,101,119,95,95]⟩⟩
noncomputable def z261 : Str := ⟨⟨[97,114,103,115]⟩⟩
noncomputable def z264 : Str := ⟨⟨[95,105,111]⟩⟩
noncomputable def z265 : Str := ⟨⟨[95,66,121,116,101,115,73,79,95,95,99,104,101,99,107]⟩⟩
noncomputable def z266 : Str := ⟨⟨[95,66,121,116,101,115,73,79,95,95,108,105,110,101]⟩⟩
noncomputable def z267 : Str := ⟨⟨[99,108,111,115,101,100]⟩⟩
noncomputable def z268 : Str := ⟨⟨[99,108,111,115,101]⟩⟩
noncomputable def z269 : Str := ⟨⟨[95,95,101,110,116,101,114,95,95]⟩⟩
noncomputable def z270 : Str := ⟨⟨[95,95,101,120,105,116,95,95]⟩⟩
noncomputable def z271 : Str := ⟨⟨[114,101,97,100,97,98,108,101]⟩⟩
noncomputable def z272 : Str := ⟨⟨[119,114,105,116,97,98,108,101]⟩⟩
noncomputable def z273 : Str := ⟨⟨[115,101,101,107,97,98,108,101]⟩⟩
noncomputable def z274 : Str := ⟨⟨[105,115,97,116,116,121]⟩⟩
noncomputable def z275 : Str := ⟨⟨[102,108,117,115,104]⟩⟩
noncomputable def z276 : Str := ⟨⟨[102,105,108,101,110,111]⟩⟩
noncomputable def z277 : Str := ⟨⟨[100,101,116,97,99,104]⟩⟩
noncomputable def z278 : Str := ⟨⟨[103,101,116,118,97,108,117,101]⟩⟩
noncomputable def z279 : Str := ⟨⟨[103,101,116,98,117,102,102,101,114]⟩⟩
noncomputable def z280 : Str := ⟨⟨[116,101,108,108]⟩⟩
noncomputable def z281 : Str := ⟨⟨[115,101,101,107]⟩⟩
noncomputable def z282 : Str := ⟨⟨[116,114,117,110,99,97,116,101]⟩⟩
noncomputable def z283 : Str := ⟨⟨[114,101,97,100]⟩⟩
noncomputable def z284 : Str := ⟨⟨[114,101,97,100,49]⟩⟩
noncomputable def z285 : Str := ⟨⟨[114,101,97,100,105,110,116,111]⟩⟩
noncomputable def z286 : Str := ⟨⟨[114,101,97,100,105,110,116,111,49]⟩⟩
noncomputable def z287 : Str := ⟨⟨[114,101,97,100,108,105,110,101]⟩⟩
noncomputable def z288 : Str := ⟨⟨[114,101,97,100,108,105,110,101,115]⟩⟩
noncomputable def z289 : Str := ⟨⟨[95,95,105,116,101,114,95,95]⟩⟩
noncomputable def z290 : Str := ⟨⟨[95,95,110,101,120,116,95,95]⟩⟩
noncomputable def z291 : Str := ⟨⟨[119,114,105,116,101]⟩⟩
noncomputable def z292 : Str := ⟨⟨[119,114,105,116,101,108,105,110,101,115]⟩⟩
noncomputable def z293 : Str := ⟨⟨[115,101,108,102]⟩⟩
noncomputable def z296 : Str := ⟨⟨[95,95,99,104,101,99,107]⟩⟩
noncomputable def z299 : Str := ⟨⟨[115,116,97,114,116]⟩⟩
noncomputable def z300 : Str := ⟨⟨[115,116,111,112]⟩⟩
noncomputable def z302 : Str := ⟨⟨[95,95,108,105,110,101]⟩⟩
noncomputable def z321 : Str := ⟨⟨[115,105,122,101]⟩⟩
noncomputable def z340 : Str := ⟨⟨[95,83,116,114,105,110,103,73,79,95,95,116,114,97,110,115,108,97,116,101,100]⟩⟩
noncomputable def z341 : Str := ⟨⟨[95,83,116,114,105,110,103,73,79,95,95,99,104,101,99,107]⟩⟩
noncomputable def z342 : Str := ⟨⟨[95,83,116,114,105,110,103,73,79,95,95,99,104,101,99,107,95,100,111,116]⟩⟩
noncomputable def z343 : Str := ⟨⟨[95,83,116,114,105,110,103,73,79,95,95,108,105,110,101]⟩⟩
noncomputable def z344 : Str := ⟨⟨[108,105,110,101,95,98,117,102,102,101,114,105,110,103]⟩⟩
noncomputable def z345 : Str := ⟨⟨[110,101,119,108,105,110,101,115]⟩⟩
noncomputable def z346 : Str := ⟨⟨[101,110,99,111,100,105,110,103]⟩⟩
noncomputable def z347 : Str := ⟨⟨[101,114,114,111,114,115]⟩⟩
noncomputable def z352 : Str := ⟨⟨[115]⟩⟩
noncomputable def z395 : Str := ⟨⟨[111,115,46,112,97,116,104]⟩⟩
noncomputable def z402 : Str := ⟨⟨[99,112,121,51,49,51,46,115,104,108,101,120]⟩⟩
noncomputable def z403 : Str := ⟨⟨[112,117,110,99,116,117,97,116,105,111,110,95,99,104,97,114,115]⟩⟩
noncomputable def z404 : Str := ⟨⟨[112,117,115,104,95,116,111,107,101,110]⟩⟩
noncomputable def z405 : Str := ⟨⟨[112,117,115,104,95,115,111,117,114,99,101]⟩⟩
noncomputable def z406 : Str := ⟨⟨[112,111,112,95,115,111,117,114,99,101]⟩⟩
noncomputable def z407 : Str := ⟨⟨[103,101,116,95,116,111,107,101,110]⟩⟩
noncomputable def z408 : Str := ⟨⟨[114,101,97,100,95,116,111,107,101,110]⟩⟩
noncomputable def z409 : Str := ⟨⟨[115,111,117,114,99,101,104,111,111,107]⟩⟩
noncomputable def z410 : Str := ⟨⟨[101,114,114,111,114,95,108,101,97,100,101,114]⟩⟩
noncomputable def qp : Program := by
  refine (?f : (p : Program) → PySem.Challenge.pw_mj0242_04 = p → Program) ?p ?h
  case f => exact fun p _ => p
  case h =>
    unfold PySem.Challenge.pw_mj0242_04
    have e0 : Str.ofString "__name__" = z0 := by kernel_rfl
    have e1 : Str.ofString "builtins" = ⟨⟨[98,117,105,108,116,105,110,115]⟩⟩ := by kernel_rfl
    have e2 : Str.ofString "__doc__" = z2 := by kernel_rfl
    have e3 : Str.ofString "__package__" = z3 := by kernel_rfl
    have e4 : Str.ofString "__loader__" = z4 := by kernel_rfl
    have e5 : Str.ofString "__spec__" = z5 := by kernel_rfl
    have e6 : Str.ofString "__build_class__" = ⟨⟨[95,95,98,117,105,108,100,95,99,108,97,115,115,95,95]⟩⟩ := by kernel_rfl
    have e7 : Str.ofString "__import__" = ⟨⟨[95,95,105,109,112,111,114,116,95,95]⟩⟩ := by kernel_rfl
    have e8 : Str.ofString "abs" = ⟨⟨[97,98,115]⟩⟩ := by kernel_rfl
    have e9 : Str.ofString "all" = ⟨⟨[97,108,108]⟩⟩ := by kernel_rfl
    have e10 : Str.ofString "any" = ⟨⟨[97,110,121]⟩⟩ := by kernel_rfl
    have e11 : Str.ofString "ascii" = ⟨⟨[97,115,99,105,105]⟩⟩ := by kernel_rfl
    have e12 : Str.ofString "bin" = ⟨⟨[98,105,110]⟩⟩ := by kernel_rfl
    have e13 : Str.ofString "breakpoint" = ⟨⟨[98,114,101,97,107,112,111,105,110,116]⟩⟩ := by kernel_rfl
    have e14 : Str.ofString "callable" = ⟨⟨[99,97,108,108,97,98,108,101]⟩⟩ := by kernel_rfl
    have e15 : Str.ofString "chr" = ⟨⟨[99,104,114]⟩⟩ := by kernel_rfl
    have e16 : Str.ofString "compile" = ⟨⟨[99,111,109,112,105,108,101]⟩⟩ := by kernel_rfl
    have e17 : Str.ofString "delattr" = ⟨⟨[100,101,108,97,116,116,114]⟩⟩ := by kernel_rfl
    have e18 : Str.ofString "dir" = ⟨⟨[100,105,114]⟩⟩ := by kernel_rfl
    have e19 : Str.ofString "divmod" = ⟨⟨[100,105,118,109,111,100]⟩⟩ := by kernel_rfl
    have e20 : Str.ofString "eval" = ⟨⟨[101,118,97,108]⟩⟩ := by kernel_rfl
    have e21 : Str.ofString "exec" = ⟨⟨[101,120,101,99]⟩⟩ := by kernel_rfl
    have e22 : Str.ofString "format" = ⟨⟨[102,111,114,109,97,116]⟩⟩ := by kernel_rfl
    have e23 : Str.ofString "getattr" = ⟨⟨[103,101,116,97,116,116,114]⟩⟩ := by kernel_rfl
    have e24 : Str.ofString "globals" = ⟨⟨[103,108,111,98,97,108,115]⟩⟩ := by kernel_rfl
    have e25 : Str.ofString "hasattr" = ⟨⟨[104,97,115,97,116,116,114]⟩⟩ := by kernel_rfl
    have e26 : Str.ofString "hash" = ⟨⟨[104,97,115,104]⟩⟩ := by kernel_rfl
    have e27 : Str.ofString "hex" = ⟨⟨[104,101,120]⟩⟩ := by kernel_rfl
    have e28 : Str.ofString "id" = ⟨⟨[105,100]⟩⟩ := by kernel_rfl
    have e29 : Str.ofString "input" = ⟨⟨[105,110,112,117,116]⟩⟩ := by kernel_rfl
    have e30 : Str.ofString "isinstance" = ⟨⟨[105,115,105,110,115,116,97,110,99,101]⟩⟩ := by kernel_rfl
    have e31 : Str.ofString "issubclass" = ⟨⟨[105,115,115,117,98,99,108,97,115,115]⟩⟩ := by kernel_rfl
    have e32 : Str.ofString "iter" = ⟨⟨[105,116,101,114]⟩⟩ := by kernel_rfl
    have e33 : Str.ofString "aiter" = ⟨⟨[97,105,116,101,114]⟩⟩ := by kernel_rfl
    have e34 : Str.ofString "len" = ⟨⟨[108,101,110]⟩⟩ := by kernel_rfl
    have e35 : Str.ofString "locals" = ⟨⟨[108,111,99,97,108,115]⟩⟩ := by kernel_rfl
    have e36 : Str.ofString "max" = ⟨⟨[109,97,120]⟩⟩ := by kernel_rfl
    have e37 : Str.ofString "min" = ⟨⟨[109,105,110]⟩⟩ := by kernel_rfl
    have e38 : Str.ofString "next" = ⟨⟨[110,101,120,116]⟩⟩ := by kernel_rfl
    have e39 : Str.ofString "anext" = ⟨⟨[97,110,101,120,116]⟩⟩ := by kernel_rfl
    have e40 : Str.ofString "oct" = ⟨⟨[111,99,116]⟩⟩ := by kernel_rfl
    have e41 : Str.ofString "ord" = ⟨⟨[111,114,100]⟩⟩ := by kernel_rfl
    have e42 : Str.ofString "pow" = ⟨⟨[112,111,119]⟩⟩ := by kernel_rfl
    have e43 : Str.ofString "print" = ⟨⟨[112,114,105,110,116]⟩⟩ := by kernel_rfl
    have e44 : Str.ofString "repr" = ⟨⟨[114,101,112,114]⟩⟩ := by kernel_rfl
    have e45 : Str.ofString "round" = ⟨⟨[114,111,117,110,100]⟩⟩ := by kernel_rfl
    have e46 : Str.ofString "setattr" = ⟨⟨[115,101,116,97,116,116,114]⟩⟩ := by kernel_rfl
    have e47 : Str.ofString "sorted" = ⟨⟨[115,111,114,116,101,100]⟩⟩ := by kernel_rfl
    have e48 : Str.ofString "sum" = ⟨⟨[115,117,109]⟩⟩ := by kernel_rfl
    have e49 : Str.ofString "vars" = ⟨⟨[118,97,114,115]⟩⟩ := by kernel_rfl
    have e50 : Str.ofString "None" = ⟨⟨[78,111,110,101]⟩⟩ := by kernel_rfl
    have e51 : Str.ofString "Ellipsis" = ⟨⟨[69,108,108,105,112,115,105,115]⟩⟩ := by kernel_rfl
    have e52 : Str.ofString "NotImplemented" = ⟨⟨[78,111,116,73,109,112,108,101,109,101,110,116,101,100]⟩⟩ := by kernel_rfl
    have e53 : Str.ofString "False" = ⟨⟨[70,97,108,115,101]⟩⟩ := by kernel_rfl
    have e54 : Str.ofString "True" = ⟨⟨[84,114,117,101]⟩⟩ := by kernel_rfl
    have e55 : Str.ofString "bool" = ⟨⟨[98,111,111,108]⟩⟩ := by kernel_rfl
    have e56 : Str.ofString "memoryview" = ⟨⟨[109,101,109,111,114,121,118,105,101,119]⟩⟩ := by kernel_rfl
    have e57 : Str.ofString "bytearray" = ⟨⟨[98,121,116,101,97,114,114,97,121]⟩⟩ := by kernel_rfl
    have e58 : Str.ofString "bytes" = ⟨⟨[98,121,116,101,115]⟩⟩ := by kernel_rfl
    have e59 : Str.ofString "classmethod" = ⟨⟨[99,108,97,115,115,109,101,116,104,111,100]⟩⟩ := by kernel_rfl
    have e60 : Str.ofString "complex" = ⟨⟨[99,111,109,112,108,101,120]⟩⟩ := by kernel_rfl
    have e61 : Str.ofString "dict" = ⟨⟨[100,105,99,116]⟩⟩ := by kernel_rfl
    have e62 : Str.ofString "enumerate" = ⟨⟨[101,110,117,109,101,114,97,116,101]⟩⟩ := by kernel_rfl
    have e63 : Str.ofString "filter" = ⟨⟨[102,105,108,116,101,114]⟩⟩ := by kernel_rfl
    have e64 : Str.ofString "float" = ⟨⟨[102,108,111,97,116]⟩⟩ := by kernel_rfl
    have e65 : Str.ofString "frozenset" = ⟨⟨[102,114,111,122,101,110,115,101,116]⟩⟩ := by kernel_rfl
    have e66 : Str.ofString "property" = ⟨⟨[112,114,111,112,101,114,116,121]⟩⟩ := by kernel_rfl
    have e67 : Str.ofString "int" = ⟨⟨[105,110,116]⟩⟩ := by kernel_rfl
    have e68 : Str.ofString "list" = ⟨⟨[108,105,115,116]⟩⟩ := by kernel_rfl
    have e69 : Str.ofString "map" = ⟨⟨[109,97,112]⟩⟩ := by kernel_rfl
    have e70 : Str.ofString "object" = ⟨⟨[111,98,106,101,99,116]⟩⟩ := by kernel_rfl
    have e71 : Str.ofString "range" = ⟨⟨[114,97,110,103,101]⟩⟩ := by kernel_rfl
    have e72 : Str.ofString "reversed" = ⟨⟨[114,101,118,101,114,115,101,100]⟩⟩ := by kernel_rfl
    have e73 : Str.ofString "set" = ⟨⟨[115,101,116]⟩⟩ := by kernel_rfl
    have e74 : Str.ofString "slice" = ⟨⟨[115,108,105,99,101]⟩⟩ := by kernel_rfl
    have e75 : Str.ofString "staticmethod" = ⟨⟨[115,116,97,116,105,99,109,101,116,104,111,100]⟩⟩ := by kernel_rfl
    have e76 : Str.ofString "str" = ⟨⟨[115,116,114]⟩⟩ := by kernel_rfl
    have e77 : Str.ofString "super" = ⟨⟨[115,117,112,101,114]⟩⟩ := by kernel_rfl
    have e78 : Str.ofString "tuple" = ⟨⟨[116,117,112,108,101]⟩⟩ := by kernel_rfl
    have e79 : Str.ofString "type" = ⟨⟨[116,121,112,101]⟩⟩ := by kernel_rfl
    have e80 : Str.ofString "zip" = ⟨⟨[122,105,112]⟩⟩ := by kernel_rfl
    have e81 : Str.ofString "__debug__" = ⟨⟨[95,95,100,101,98,117,103,95,95]⟩⟩ := by kernel_rfl
    have e82 : Str.ofString "BaseException" = ⟨⟨[66,97,115,101,69,120,99,101,112,116,105,111,110]⟩⟩ := by kernel_rfl
    have e83 : Str.ofString "BaseExceptionGroup" = ⟨⟨[66,97,115,101,69,120,99,101,112,116,105,111,110,71,114,111,117,112]⟩⟩ := by kernel_rfl
    have e84 : Str.ofString "Exception" = ⟨⟨[69,120,99,101,112,116,105,111,110]⟩⟩ := by kernel_rfl
    have e85 : Str.ofString "GeneratorExit" = ⟨⟨[71,101,110,101,114,97,116,111,114,69,120,105,116]⟩⟩ := by kernel_rfl
    have e86 : Str.ofString "KeyboardInterrupt" = ⟨⟨[75,101,121,98,111,97,114,100,73,110,116,101,114,114,117,112,116]⟩⟩ := by kernel_rfl
    have e87 : Str.ofString "SystemExit" = ⟨⟨[83,121,115,116,101,109,69,120,105,116]⟩⟩ := by kernel_rfl
    have e88 : Str.ofString "ArithmeticError" = ⟨⟨[65,114,105,116,104,109,101,116,105,99,69,114,114,111,114]⟩⟩ := by kernel_rfl
    have e89 : Str.ofString "AssertionError" = ⟨⟨[65,115,115,101,114,116,105,111,110,69,114,114,111,114]⟩⟩ := by kernel_rfl
    have e90 : Str.ofString "AttributeError" = ⟨⟨[65,116,116,114,105,98,117,116,101,69,114,114,111,114]⟩⟩ := by kernel_rfl
    have e91 : Str.ofString "BufferError" = ⟨⟨[66,117,102,102,101,114,69,114,114,111,114]⟩⟩ := by kernel_rfl
    have e92 : Str.ofString "EOFError" = ⟨⟨[69,79,70,69,114,114,111,114]⟩⟩ := by kernel_rfl
    have e93 : Str.ofString "ImportError" = ⟨⟨[73,109,112,111,114,116,69,114,114,111,114]⟩⟩ := by kernel_rfl
    have e94 : Str.ofString "LookupError" = ⟨⟨[76,111,111,107,117,112,69,114,114,111,114]⟩⟩ := by kernel_rfl
    have e95 : Str.ofString "MemoryError" = ⟨⟨[77,101,109,111,114,121,69,114,114,111,114]⟩⟩ := by kernel_rfl
    have e96 : Str.ofString "NameError" = ⟨⟨[78,97,109,101,69,114,114,111,114]⟩⟩ := by kernel_rfl
    have e97 : Str.ofString "OSError" = ⟨⟨[79,83,69,114,114,111,114]⟩⟩ := by kernel_rfl
    have e98 : Str.ofString "ReferenceError" = ⟨⟨[82,101,102,101,114,101,110,99,101,69,114,114,111,114]⟩⟩ := by kernel_rfl
    have e99 : Str.ofString "RuntimeError" = ⟨⟨[82,117,110,116,105,109,101,69,114,114,111,114]⟩⟩ := by kernel_rfl
    have e100 : Str.ofString "StopAsyncIteration" = ⟨⟨[83,116,111,112,65,115,121,110,99,73,116,101,114,97,116,105,111,110]⟩⟩ := by kernel_rfl
    have e101 : Str.ofString "StopIteration" = ⟨⟨[83,116,111,112,73,116,101,114,97,116,105,111,110]⟩⟩ := by kernel_rfl
    have e102 : Str.ofString "SyntaxError" = ⟨⟨[83,121,110,116,97,120,69,114,114,111,114]⟩⟩ := by kernel_rfl
    have e103 : Str.ofString "SystemError" = ⟨⟨[83,121,115,116,101,109,69,114,114,111,114]⟩⟩ := by kernel_rfl
    have e104 : Str.ofString "TypeError" = ⟨⟨[84,121,112,101,69,114,114,111,114]⟩⟩ := by kernel_rfl
    have e105 : Str.ofString "ValueError" = ⟨⟨[86,97,108,117,101,69,114,114,111,114]⟩⟩ := by kernel_rfl
    have e106 : Str.ofString "Warning" = ⟨⟨[87,97,114,110,105,110,103]⟩⟩ := by kernel_rfl
    have e107 : Str.ofString "FloatingPointError" = ⟨⟨[70,108,111,97,116,105,110,103,80,111,105,110,116,69,114,114,111,114]⟩⟩ := by kernel_rfl
    have e108 : Str.ofString "OverflowError" = ⟨⟨[79,118,101,114,102,108,111,119,69,114,114,111,114]⟩⟩ := by kernel_rfl
    have e109 : Str.ofString "ZeroDivisionError" = ⟨⟨[90,101,114,111,68,105,118,105,115,105,111,110,69,114,114,111,114]⟩⟩ := by kernel_rfl
    have e110 : Str.ofString "BytesWarning" = ⟨⟨[66,121,116,101,115,87,97,114,110,105,110,103]⟩⟩ := by kernel_rfl
    have e111 : Str.ofString "DeprecationWarning" = ⟨⟨[68,101,112,114,101,99,97,116,105,111,110,87,97,114,110,105,110,103]⟩⟩ := by kernel_rfl
    have e112 : Str.ofString "EncodingWarning" = ⟨⟨[69,110,99,111,100,105,110,103,87,97,114,110,105,110,103]⟩⟩ := by kernel_rfl
    have e113 : Str.ofString "FutureWarning" = ⟨⟨[70,117,116,117,114,101,87,97,114,110,105,110,103]⟩⟩ := by kernel_rfl
    have e114 : Str.ofString "ImportWarning" = ⟨⟨[73,109,112,111,114,116,87,97,114,110,105,110,103]⟩⟩ := by kernel_rfl
    have e115 : Str.ofString "PendingDeprecationWarning" = ⟨⟨[80,101,110,100,105,110,103,68,101,112,114,101,99,97,116,105,111,110,87,97,114,110,105,110,103]⟩⟩ := by kernel_rfl
    have e116 : Str.ofString "ResourceWarning" = ⟨⟨[82,101,115,111,117,114,99,101,87,97,114,110,105,110,103]⟩⟩ := by kernel_rfl
    have e117 : Str.ofString "RuntimeWarning" = ⟨⟨[82,117,110,116,105,109,101,87,97,114,110,105,110,103]⟩⟩ := by kernel_rfl
    have e118 : Str.ofString "SyntaxWarning" = ⟨⟨[83,121,110,116,97,120,87,97,114,110,105,110,103]⟩⟩ := by kernel_rfl
    have e119 : Str.ofString "UnicodeWarning" = ⟨⟨[85,110,105,99,111,100,101,87,97,114,110,105,110,103]⟩⟩ := by kernel_rfl
    have e120 : Str.ofString "UserWarning" = ⟨⟨[85,115,101,114,87,97,114,110,105,110,103]⟩⟩ := by kernel_rfl
    have e121 : Str.ofString "BlockingIOError" = ⟨⟨[66,108,111,99,107,105,110,103,73,79,69,114,114,111,114]⟩⟩ := by kernel_rfl
    have e122 : Str.ofString "ChildProcessError" = ⟨⟨[67,104,105,108,100,80,114,111,99,101,115,115,69,114,114,111,114]⟩⟩ := by kernel_rfl
    have e123 : Str.ofString "ConnectionError" = ⟨⟨[67,111,110,110,101,99,116,105,111,110,69,114,114,111,114]⟩⟩ := by kernel_rfl
    have e124 : Str.ofString "FileExistsError" = ⟨⟨[70,105,108,101,69,120,105,115,116,115,69,114,114,111,114]⟩⟩ := by kernel_rfl
    have e125 : Str.ofString "FileNotFoundError" = ⟨⟨[70,105,108,101,78,111,116,70,111,117,110,100,69,114,114,111,114]⟩⟩ := by kernel_rfl
    have e126 : Str.ofString "InterruptedError" = ⟨⟨[73,110,116,101,114,114,117,112,116,101,100,69,114,114,111,114]⟩⟩ := by kernel_rfl
    have e127 : Str.ofString "IsADirectoryError" = ⟨⟨[73,115,65,68,105,114,101,99,116,111,114,121,69,114,114,111,114]⟩⟩ := by kernel_rfl
    have e128 : Str.ofString "NotADirectoryError" = ⟨⟨[78,111,116,65,68,105,114,101,99,116,111,114,121,69,114,114,111,114]⟩⟩ := by kernel_rfl
    have e129 : Str.ofString "PermissionError" = ⟨⟨[80,101,114,109,105,115,115,105,111,110,69,114,114,111,114]⟩⟩ := by kernel_rfl
    have e130 : Str.ofString "ProcessLookupError" = ⟨⟨[80,114,111,99,101,115,115,76,111,111,107,117,112,69,114,114,111,114]⟩⟩ := by kernel_rfl
    have e131 : Str.ofString "TimeoutError" = ⟨⟨[84,105,109,101,111,117,116,69,114,114,111,114]⟩⟩ := by kernel_rfl
    have e132 : Str.ofString "IndentationError" = ⟨⟨[73,110,100,101,110,116,97,116,105,111,110,69,114,114,111,114]⟩⟩ := by kernel_rfl
    have e133 : Str.ofString "_IncompleteInputError" = ⟨⟨[95,73,110,99,111,109,112,108,101,116,101,73,110,112,117,116,69,114,114,111,114]⟩⟩ := by kernel_rfl
    have e134 : Str.ofString "IndexError" = ⟨⟨[73,110,100,101,120,69,114,114,111,114]⟩⟩ := by kernel_rfl
    have e135 : Str.ofString "KeyError" = ⟨⟨[75,101,121,69,114,114,111,114]⟩⟩ := by kernel_rfl
    have e136 : Str.ofString "ModuleNotFoundError" = ⟨⟨[77,111,100,117,108,101,78,111,116,70,111,117,110,100,69,114,114,111,114]⟩⟩ := by kernel_rfl
    have e137 : Str.ofString "NotImplementedError" = ⟨⟨[78,111,116,73,109,112,108,101,109,101,110,116,101,100,69,114,114,111,114]⟩⟩ := by kernel_rfl
    have e138 : Str.ofString "PythonFinalizationError" = ⟨⟨[80,121,116,104,111,110,70,105,110,97,108,105,122,97,116,105,111,110,69,114,114,111,114]⟩⟩ := by kernel_rfl
    have e139 : Str.ofString "RecursionError" = ⟨⟨[82,101,99,117,114,115,105,111,110,69,114,114,111,114]⟩⟩ := by kernel_rfl
    have e140 : Str.ofString "UnboundLocalError" = ⟨⟨[85,110,98,111,117,110,100,76,111,99,97,108,69,114,114,111,114]⟩⟩ := by kernel_rfl
    have e141 : Str.ofString "UnicodeError" = ⟨⟨[85,110,105,99,111,100,101,69,114,114,111,114]⟩⟩ := by kernel_rfl
    have e142 : Str.ofString "BrokenPipeError" = ⟨⟨[66,114,111,107,101,110,80,105,112,101,69,114,114,111,114]⟩⟩ := by kernel_rfl
    have e143 : Str.ofString "ConnectionAbortedError" = ⟨⟨[67,111,110,110,101,99,116,105,111,110,65,98,111,114,116,101,100,69,114,114,111,114]⟩⟩ := by kernel_rfl
    have e144 : Str.ofString "ConnectionRefusedError" = ⟨⟨[67,111,110,110,101,99,116,105,111,110,82,101,102,117,115,101,100,69,114,114,111,114]⟩⟩ := by kernel_rfl
    have e145 : Str.ofString "ConnectionResetError" = ⟨⟨[67,111,110,110,101,99,116,105,111,110,82,101,115,101,116,69,114,114,111,114]⟩⟩ := by kernel_rfl
    have e146 : Str.ofString "TabError" = ⟨⟨[84,97,98,69,114,114,111,114]⟩⟩ := by kernel_rfl
    have e147 : Str.ofString "UnicodeDecodeError" = ⟨⟨[85,110,105,99,111,100,101,68,101,99,111,100,101,69,114,114,111,114]⟩⟩ := by kernel_rfl
    have e148 : Str.ofString "UnicodeEncodeError" = ⟨⟨[85,110,105,99,111,100,101,69,110,99,111,100,101,69,114,114,111,114]⟩⟩ := by kernel_rfl
    have e149 : Str.ofString "UnicodeTranslateError" = ⟨⟨[85,110,105,99,111,100,101,84,114,97,110,115,108,97,116,101,69,114,114,111,114]⟩⟩ := by kernel_rfl
    have e150 : Str.ofString "ExceptionGroup" = ⟨⟨[69,120,99,101,112,116,105,111,110,71,114,111,117,112]⟩⟩ := by kernel_rfl
    have e151 : Str.ofString "EnvironmentError" = ⟨⟨[69,110,118,105,114,111,110,109,101,110,116,69,114,114,111,114]⟩⟩ := by kernel_rfl
    have e152 : Str.ofString "IOError" = ⟨⟨[73,79,69,114,114,111,114]⟩⟩ := by kernel_rfl
    have e153 : Str.ofString "open" = ⟨⟨[111,112,101,110]⟩⟩ := by kernel_rfl
    have e154 : Str.ofString "quit" = ⟨⟨[113,117,105,116]⟩⟩ := by kernel_rfl
    have e155 : Str.ofString "exit" = ⟨⟨[101,120,105,116]⟩⟩ := by kernel_rfl
    have e156 : Str.ofString "copyright" = ⟨⟨[99,111,112,121,114,105,103,104,116]⟩⟩ := by kernel_rfl
    have e157 : Str.ofString "credits" = ⟨⟨[99,114,101,100,105,116,115]⟩⟩ := by kernel_rfl
    have e158 : Str.ofString "license" = ⟨⟨[108,105,99,101,110,115,101]⟩⟩ := by kernel_rfl
    have e159 : Str.ofString "help" = ⟨⟨[104,101,108,112]⟩⟩ := by kernel_rfl
    have e160 : Str.ofString "__main__" = z160 := by kernel_rfl
    have e161 : Str.ofString "_collections" = z161 := by kernel_rfl
    have e162 : Str.ofString "\x69mport.loaded._collections" = z162 := by kernel_rfl
    have e163 : Str.ofString "class._frozen_importlib.BuiltinImporter" = z163 := by kernel_rfl
    have e164 : Str.ofString "watched.\x69mport" = z164 := by kernel_rfl
    have e165 : Str.ofString "class._frozen_importlib.ModuleSpec" = z165 := by kernel_rfl
    have e166 : Str.ofString "sys.modules.booked-epoch" = z166 := by kernel_rfl
    have e167 : Str.ofString "sys.modules.landed._collections" = z167 := by kernel_rfl
    have e168 : Str.ofString "\x69mport.later-laid._collections" = z168 := by kernel_rfl
    have e169 : Str.ofString "watched.library" = z169 := by kernel_rfl
    have e170 : Str.ofString "watched.library-objects" = z170 := by kernel_rfl
    have e171 : Str.ofString "\r" = ⟨⟨[13]⟩⟩ := by kernel_rfl
    have e172 : Str.ofString "watched.library-deep._collections" = z172 := by kernel_rfl
    have e173 : Str.ofString "\x04\x00\x00\x0c\x04\x00\x00\x0c\x04\x00\x00\x03\x04\x00\x00\x0c\x08\x04dict\x02" = ⟨⟨[4,0,0,12,4,0,0,12,4,0,0,3,4,0,0,12,8,4,100,105,99,116,2]⟩⟩ := by kernel_rfl
    have e174 : Str.ofString "__annotations__" = z174 := by kernel_rfl
    have e175 : Str.ofString "__builtins__" = z175 := by kernel_rfl
    have e176 : Str.ofString "__file__" = z176 := by kernel_rfl
    have e177 : Str.ofString "/claim/cut.py" = z177 := by kernel_rfl
    have e178 : Str.ofString "__cached__" = z178 := by kernel_rfl
    have e179 : Str.ofString "deque" = z179 := by kernel_rfl
    have e180 : Str.ofString "<module>" = z180 := by kernel_rfl
    have e181 : Str.ofString "" = z181 := by kernel_rfl
    have e182 : Str.ofString "_count_elements" = ⟨⟨[95,99,111,117,110,116,95,101,108,101,109,101,110,116,115]⟩⟩ := by kernel_rfl
    have e183 : Str.ofString "defaultdict" = ⟨⟨[100,101,102,97,117,108,116,100,105,99,116]⟩⟩ := by kernel_rfl
    have e184 : Str.ofString "_deque_iterator" = ⟨⟨[95,100,101,113,117,101,95,105,116,101,114,97,116,111,114]⟩⟩ := by kernel_rfl
    have e185 : Str.ofString "_deque_reverse_iterator" = ⟨⟨[95,100,101,113,117,101,95,114,101,118,101,114,115,101,95,105,116,101,114,97,116,111,114]⟩⟩ := by kernel_rfl
    have e186 : Str.ofString "_tuplegetter" = ⟨⟨[95,116,117,112,108,101,103,101,116,116,101,114]⟩⟩ := by kernel_rfl
    have e187 : Str.ofString "OrderedDict" = ⟨⟨[79,114,100,101,114,101,100,68,105,99,116]⟩⟩ := by kernel_rfl
    have e188 : Str.ofString "__module__" = z188 := by kernel_rfl
    have e189 : Str.ofString "_frozen_importlib" = ⟨⟨[95,102,114,111,122,101,110,95,105,109,112,111,114,116,108,105,98]⟩⟩ := by kernel_rfl
    have e190 : Str.ofString "__firstlineno__" = z190 := by kernel_rfl
    have e191 : Str.ofString "_ORIGIN" = ⟨⟨[95,79,82,73,71,73,78]⟩⟩ := by kernel_rfl
    have e192 : Str.ofString "built-in" = ⟨⟨[98,117,105,108,116,45,105,110]⟩⟩ := by kernel_rfl
    have e193 : Str.ofString "find_spec" = ⟨⟨[102,105,110,100,95,115,112,101,99]⟩⟩ := by kernel_rfl
    have e194 : Str.ofString "create_module" = ⟨⟨[99,114,101,97,116,101,95,109,111,100,117,108,101]⟩⟩ := by kernel_rfl
    have e195 : Str.ofString "exec_module" = ⟨⟨[101,120,101,99,95,109,111,100,117,108,101]⟩⟩ := by kernel_rfl
    have e196 : Str.ofString "get_code" = ⟨⟨[103,101,116,95,99,111,100,101]⟩⟩ := by kernel_rfl
    have e197 : Str.ofString "get_source" = ⟨⟨[103,101,116,95,115,111,117,114,99,101]⟩⟩ := by kernel_rfl
    have e198 : Str.ofString "is_package" = ⟨⟨[105,115,95,112,97,99,107,97,103,101]⟩⟩ := by kernel_rfl
    have e199 : Str.ofString "load_module" = ⟨⟨[108,111,97,100,95,109,111,100,117,108,101]⟩⟩ := by kernel_rfl
    have e200 : Str.ofString "__static_attributes__" = z200 := by kernel_rfl
    have e201 : Str.ofString "__dict__" = z201 := by kernel_rfl
    have e202 : Str.ofString "__weakref__" = z202 := by kernel_rfl
    have e203 : Str.ofString "BuiltinImporter" = ⟨⟨[66,117,105,108,116,105,110,73,109,112,111,114,116,101,114]⟩⟩ := by kernel_rfl
    have e204 : Str.ofString "\x06¿\n__module__\x06¼\x11_frozen_importlib\x06À\x0f__firstlineno__\x04½\x00ϋ\x06Á\x07__doc__\t4_frozen_importlib.BuiltinImporter.__doc__:str#opaque\x06Â\x07_ORIGIN\x06¾\x08built-in\x06Ã\tfind_spec\t2_frozen_importlib.BuiltinImporter.find_spec#opaque\x06Ä\rcreate_module\t6_frozen_importlib.BuiltinImporter.create_module#opaque\x06Å\x0bexec_module\t4_frozen_importlib.BuiltinImporter.exec_module#opaque\x06Æ\x08get_code\t1_frozen_importlib.BuiltinImporter.get_code#opaque\x06Ç\nget_source\t3_frozen_importlib.BuiltinImporter.get_source#opaque\x06È\nis_package\t3_frozen_importlib.BuiltinImporter.is_package#opaque\x06É\x0bload_module\t4_frozen_importlib.BuiltinImporter.load_module#opaque\x06Ê\x15__static_attributes__\x04\x00\x00\x10\x06Ì\x08__dict__\x04\x00\x00\x11\x06Î\x0b__weakref__\x04\x00\x00\x12" = ⟨⟨[6,191,10,95,95,109,111,100,117,108,101,95,95,6,188,17,95,102,114,111,122,101,110,95,105,109,112,111,114,116,108,105,98,6,192,15,95,95,102,105,114,115,116,108,105,110,101,110,111,95,95,4,189,0,971,6,193,7,95,95,100,111,99,95,95,9,52,95,102,114,111,122,101,110,95,105,109,112,111,114,116,108,105,98,46,66,117,105,108,116,105,110,73,109,112,111,114,116,101,114,46,95,95,100,111,99,95,95,58,115,116,114,35,111,112,97,113,117,101,6,194,7,95,79,82,73,71,73,78,6,190,8,98,117,105,108,116,45,105,110,6,195,9,102,105,110,100,95,115,112,101,99,9,50,95,102,114,111,122,101,110,95,105,109,112,111,114,116,108,105,98,46,66,117,105,108,116,105,110,73,109,112,111,114,116,101,114,46,102,105,110,100,95,115,112,101,99,35,111,112,97,113,117,101,6,196,13,99,114,101,97,116,101,95,109,111,100,117,108,101,9,54,95,102,114,111,122,101,110,95,105,109,112,111,114,116,108,105,98,46,66,117,105,108,116,105,110,73,109,112,111,114,116,101,114,46,99,114,101,97,116,101,95,109,111,100,117,108,101,35,111,112,97,113,117,101,6,197,11,101,120,101,99,95,109,111,100,117,108,101,9,52,95,102,114,111,122,101,110,95,105,109,112,111,114,116,108,105,98,46,66,117,105,108,116,105,110,73,109,112,111,114,116,101,114,46,101,120,101,99,95,109,111,100,117,108,101,35,111,112,97,113,117,101,6,198,8,103,101,116,95,99,111,100,101,9,49,95,102,114,111,122,101,110,95,105,109,112,111,114,116,108,105,98,46,66,117,105,108,116,105,110,73,109,112,111,114,116,101,114,46,103,101,116,95,99,111,100,101,35,111,112,97,113,117,101,6,199,10,103,101,116,95,115,111,117,114,99,101,9,51,95,102,114,111,122,101,110,95,105,109,112,111,114,116,108,105,98,46,66,117,105,108,116,105,110,73,109,112,111,114,116,101,114,46,103,101,116,95,115,111,117,114,99,101,35,111,112,97,113,117,101,6,200,10,105,115,95,112,97,99,107,97,103,101,9,51,95,102,114,111,122,101,110,95,105,109,112,111,114,116,108,105,98,46,66,117,105,108,116,105,110,73,109,112,111,114,116,101,114,46,105,115,95,112,97,99,107,97,103,101,35,111,112,97,113,117,101,6,201,11,108,111,97,100,95,109,111,100,117,108,101,9,52,95,102,114,111,122,101,110,95,105,109,112,111,114,116,108,105,98,46,66,117,105,108,116,105,110,73,109,112,111,114,116,101,114,46,108,111,97,100,95,109,111,100,117,108,101,35,111,112,97,113,117,101,6,202,21,95,95,115,116,97,116,105,99,95,97,116,116,114,105,98,117,116,101,115,95,95,4,0,0,16,6,204,8,95,95,100,105,99,116,95,95,4,0,0,17,6,206,11,95,95,119,101,97,107,114,101,102,95,95,4,0,0,18]⟩⟩ := by kernel_rfl
    have e205 : Str.ofString "\x06å\n__module__\x06Û\x11_frozen_importlib\x06æ\x0f__firstlineno__\x04Ü\x00Ȳ\x06ç\x07__doc__\t/_frozen_importlib.ModuleSpec.__doc__:str#opaque\x06è\x08__init__\t,_frozen_importlib.ModuleSpec.__init__#opaque\x06é\x08__repr__\t,_frozen_importlib.ModuleSpec.__repr__#opaque\x06ê\x06__eq__\t*_frozen_importlib.ModuleSpec.__eq__#opaque\x06ë\x06cached\t*_frozen_importlib.ModuleSpec.cached#opaque\x06ì\x06parent\t*_frozen_importlib.ModuleSpec.parent#opaque\x06í\x0chas_location\t0_frozen_importlib.ModuleSpec.has_location#opaque\x06î\x15__static_attributes__\x04\x00\x00\x18\x06ð\x08__dict__\x04\x00\x00\x19\x06ò\x0b__weakref__\x04\x00\x00\x1a\x06ó\x08__hash__\x00" = ⟨⟨[6,229,10,95,95,109,111,100,117,108,101,95,95,6,219,17,95,102,114,111,122,101,110,95,105,109,112,111,114,116,108,105,98,6,230,15,95,95,102,105,114,115,116,108,105,110,101,110,111,95,95,4,220,0,562,6,231,7,95,95,100,111,99,95,95,9,47,95,102,114,111,122,101,110,95,105,109,112,111,114,116,108,105,98,46,77,111,100,117,108,101,83,112,101,99,46,95,95,100,111,99,95,95,58,115,116,114,35,111,112,97,113,117,101,6,232,8,95,95,105,110,105,116,95,95,9,44,95,102,114,111,122,101,110,95,105,109,112,111,114,116,108,105,98,46,77,111,100,117,108,101,83,112,101,99,46,95,95,105,110,105,116,95,95,35,111,112,97,113,117,101,6,233,8,95,95,114,101,112,114,95,95,9,44,95,102,114,111,122,101,110,95,105,109,112,111,114,116,108,105,98,46,77,111,100,117,108,101,83,112,101,99,46,95,95,114,101,112,114,95,95,35,111,112,97,113,117,101,6,234,6,95,95,101,113,95,95,9,42,95,102,114,111,122,101,110,95,105,109,112,111,114,116,108,105,98,46,77,111,100,117,108,101,83,112,101,99,46,95,95,101,113,95,95,35,111,112,97,113,117,101,6,235,6,99,97,99,104,101,100,9,42,95,102,114,111,122,101,110,95,105,109,112,111,114,116,108,105,98,46,77,111,100,117,108,101,83,112,101,99,46,99,97,99,104,101,100,35,111,112,97,113,117,101,6,236,6,112,97,114,101,110,116,9,42,95,102,114,111,122,101,110,95,105,109,112,111,114,116,108,105,98,46,77,111,100,117,108,101,83,112,101,99,46,112,97,114,101,110,116,35,111,112,97,113,117,101,6,237,12,104,97,115,95,108,111,99,97,116,105,111,110,9,48,95,102,114,111,122,101,110,95,105,109,112,111,114,116,108,105,98,46,77,111,100,117,108,101,83,112,101,99,46,104,97,115,95,108,111,99,97,116,105,111,110,35,111,112,97,113,117,101,6,238,21,95,95,115,116,97,116,105,99,95,97,116,116,114,105,98,117,116,101,115,95,95,4,0,0,24,6,240,8,95,95,100,105,99,116,95,95,4,0,0,25,6,242,11,95,95,119,101,97,107,114,101,102,95,95,4,0,0,26,6,243,8,95,95,104,97,115,104,95,95,0]⟩⟩ := by kernel_rfl
    have e206 : Str.ofString "name" = z206 := by kernel_rfl
    have e207 : Str.ofString "loader" = ⟨⟨[108,111,97,100,101,114]⟩⟩ := by kernel_rfl
    have e208 : Str.ofString "origin" = ⟨⟨[111,114,105,103,105,110]⟩⟩ := by kernel_rfl
    have e209 : Str.ofString "loader_state" = ⟨⟨[108,111,97,100,101,114,95,115,116,97,116,101]⟩⟩ := by kernel_rfl
    have e210 : Str.ofString "submodule_search_locations" = ⟨⟨[115,117,98,109,111,100,117,108,101,95,115,101,97,114,99,104,95,108,111,99,97,116,105,111,110,115]⟩⟩ := by kernel_rfl
    have e211 : Str.ofString "_uninitialized_submodules" = ⟨⟨[95,117,110,105,110,105,116,105,97,108,105,122,101,100,95,115,117,98,109,111,100,117,108,101,115]⟩⟩ := by kernel_rfl
    have e212 : Str.ofString "_set_fileattr" = ⟨⟨[95,115,101,116,95,102,105,108,101,97,116,116,114]⟩⟩ := by kernel_rfl
    have e213 : Str.ofString "_cached" = ⟨⟨[95,99,97,99,104,101,100]⟩⟩ := by kernel_rfl
    have e214 : Str.ofString "_initializing" = ⟨⟨[95,105,110,105,116,105,97,108,105,122,105,110,103]⟩⟩ := by kernel_rfl
    have e215 : Str.ofString "__init__" = z215 := by kernel_rfl
    have e216 : Str.ofString "__repr__" = z216 := by kernel_rfl
    have e217 : Str.ofString "__eq__" = ⟨⟨[95,95,101,113,95,95]⟩⟩ := by kernel_rfl
    have e218 : Str.ofString "cached" = ⟨⟨[99,97,99,104,101,100]⟩⟩ := by kernel_rfl
    have e219 : Str.ofString "parent" = ⟨⟨[112,97,114,101,110,116]⟩⟩ := by kernel_rfl
    have e220 : Str.ofString "has_location" = ⟨⟨[104,97,115,95,108,111,99,97,116,105,111,110]⟩⟩ := by kernel_rfl
    have e221 : Str.ofString "__hash__" = ⟨⟨[95,95,104,97,115,104,95,95]⟩⟩ := by kernel_rfl
    have e222 : Str.ofString "ModuleSpec" = ⟨⟨[77,111,100,117,108,101,83,112,101,99]⟩⟩ := by kernel_rfl
    have e223 : Str.ofString "\x06ú\x08__name__\x06ù\x0c_collections\x06û\x07__doc__\t\x1f_collections.__doc__:str#opaque\x06ý\x0b__package__\x06ü\x00\x06þ\n__loader__\x04\x00\x00\x0f\x06ÿ\x08__spec__\x04\x00\x00\x1b\x06Ā\x0f_count_elements\t\x1c_collections._count_elements\x06ā\x05deque\x08\x11collections.deque\x06Ă\x0bdefaultdict\x08\x17collections.defaultdict\x06ă\x0f_deque_iterator\x08\x1bcollections._deque_iterator\x06Ą\x17_deque_reverse_iterator\x08#collections._deque_reverse_iterator\x06ą\x0c_tuplegetter\x08\x18collections._tuplegetter\x06Ć\x0bOrderedDict\x08\x17collections.OrderedDict" = ⟨⟨[6,250,8,95,95,110,97,109,101,95,95,6,249,12,95,99,111,108,108,101,99,116,105,111,110,115,6,251,7,95,95,100,111,99,95,95,9,31,95,99,111,108,108,101,99,116,105,111,110,115,46,95,95,100,111,99,95,95,58,115,116,114,35,111,112,97,113,117,101,6,253,11,95,95,112,97,99,107,97,103,101,95,95,6,252,0,6,254,10,95,95,108,111,97,100,101,114,95,95,4,0,0,15,6,255,8,95,95,115,112,101,99,95,95,4,0,0,27,6,256,15,95,99,111,117,110,116,95,101,108,101,109,101,110,116,115,9,28,95,99,111,108,108,101,99,116,105,111,110,115,46,95,99,111,117,110,116,95,101,108,101,109,101,110,116,115,6,257,5,100,101,113,117,101,8,17,99,111,108,108,101,99,116,105,111,110,115,46,100,101,113,117,101,6,258,11,100,101,102,97,117,108,116,100,105,99,116,8,23,99,111,108,108,101,99,116,105,111,110,115,46,100,101,102,97,117,108,116,100,105,99,116,6,259,15,95,100,101,113,117,101,95,105,116,101,114,97,116,111,114,8,27,99,111,108,108,101,99,116,105,111,110,115,46,95,100,101,113,117,101,95,105,116,101,114,97,116,111,114,6,260,23,95,100,101,113,117,101,95,114,101,118,101,114,115,101,95,105,116,101,114,97,116,111,114,8,35,99,111,108,108,101,99,116,105,111,110,115,46,95,100,101,113,117,101,95,114,101,118,101,114,115,101,95,105,116,101,114,97,116,111,114,6,261,12,95,116,117,112,108,101,103,101,116,116,101,114,8,24,99,111,108,108,101,99,116,105,111,110,115,46,95,116,117,112,108,101,103,101,116,116,101,114,6,262,11,79,114,100,101,114,101,100,68,105,99,116,8,23,99,111,108,108,101,99,116,105,111,110,115,46,79,114,100,101,114,101,100,68,105,99,116]⟩⟩ := by kernel_rfl
    have e224 : Str.ofString "type.__subclasses__.OSError.0" = ⟨⟨[116,121,112,101,46,95,95,115,117,98,99,108,97,115,115,101,115,95,95,46,79,83,69,114,114,111,114,46,48]⟩⟩ := by kernel_rfl
    have e225 : Str.ofString "type.__subclasses__.OSError.n" = ⟨⟨[116,121,112,101,46,95,95,115,117,98,99,108,97,115,115,101,115,95,95,46,79,83,69,114,114,111,114,46,110]⟩⟩ := by kernel_rfl
    have e226 : Str.ofString "law_mj0242_04" = z226 := by kernel_rfl
    have e227 : Str.ofString "_wall" = z227 := by kernel_rfl
    have e228 : Str.ofString "replace" = z228 := by kernel_rfl
    have e229 : Str.ofString "_whence" = z229 := by kernel_rfl
    have e230 : Str.ofString "_index" = z230 := by kernel_rfl
    have e231 : Str.ofString "UnsupportedOperation" = z231 := by kernel_rfl
    have e232 : Str.ofString "IOBase" = z232 := by kernel_rfl
    have e233 : Str.ofString "BufferedIOBase" = z233 := by kernel_rfl
    have e234 : Str.ofString "TextIOBase" = z234 := by kernel_rfl
    have e235 : Str.ofString "BytesIO" = z235 := by kernel_rfl
    have e236 : Str.ofString "StringIO" = z236 := by kernel_rfl
    have e237 : Str.ofString "_kind" = z237 := by kernel_rfl
    have e238 : Str.ofString "_fspath" = z238 := by kernel_rfl
    have e239 : Str.ofString "_check_arg_types" = z239 := by kernel_rfl
    have e240 : Str.ofString "isabs" = z240 := by kernel_rfl
    have e241 : Str.ofString "join" = z241 := by kernel_rfl
    have e242 : Str.ofString "dirname" = z242 := by kernel_rfl
    have e243 : Str.ofString "shlex" = z243 := by kernel_rfl
    have e244 : Str.ofString "split" = z244 := by kernel_rfl
    have e245 : Str.ofString "_law_sign" = z245 := by kernel_rfl
    have e246 : Str.ofString "_law_move" = z246 := by kernel_rfl
    have e247 : Str.ofString "_law_words" = z247 := by kernel_rfl
    have e248 : Str.ofString "_law_told" = z248 := by kernel_rfl
    have e249 : Str.ofString "_law_holds" = z249 := by kernel_rfl
    have e250 : Str.ofString "law" = z250 := by kernel_rfl
    have e251 : Str.ofString "k" = ⟨⟨[107]⟩⟩ := by kernel_rfl
    have e252 : Str.ofString "text" = z252 := by kernel_rfl
    have e253 : Str.ofString "pairs" = ⟨⟨[112,97,105,114,115]⟩⟩ := by kernel_rfl
    have e254 : Str.ofString "cpy313.pydoc" = ⟨⟨[99,112,121,51,49,51,46,112,121,100,111,99]⟩⟩ := by kernel_rfl
    have e255 : Str.ofString "n" = z255 := by kernel_rfl
    have e256 : Str.ofString "what" = ⟨⟨[119,104,97,116]⟩⟩ := by kernel_rfl
    have e257 : Str.ofString "io" = z257 := by kernel_rfl
    have e258 : Str.ofString "__qualname__" = z258 := by kernel_rfl
    have e259 : Str.ofString "__new__" = z259 := by kernel_rfl
    have e260 : Str.ofString "cls" = ⟨⟨[99,108,115]⟩⟩ := by kernel_rfl
    have e261 : Str.ofString "args" = z261 := by kernel_rfl
    have e262 : Str.ofString "kwargs" = ⟨⟨[107,119,97,114,103,115]⟩⟩ := by kernel_rfl
    have e263 : Str.ofString "IOBase.__new__" = ⟨⟨[73,79,66,97,115,101,46,95,95,110,101,119,95,95]⟩⟩ := by kernel_rfl
    have e264 : Str.ofString "_io" = z264 := by kernel_rfl
    have e265 : Str.ofString "_BytesIO__check" = z265 := by kernel_rfl
    have e266 : Str.ofString "_BytesIO__line" = z266 := by kernel_rfl
    have e267 : Str.ofString "closed" = z267 := by kernel_rfl
    have e268 : Str.ofString "close" = z268 := by kernel_rfl
    have e269 : Str.ofString "__enter__" = z269 := by kernel_rfl
    have e270 : Str.ofString "__exit__" = z270 := by kernel_rfl
    have e271 : Str.ofString "readable" = z271 := by kernel_rfl
    have e272 : Str.ofString "writable" = z272 := by kernel_rfl
    have e273 : Str.ofString "seekable" = z273 := by kernel_rfl
    have e274 : Str.ofString "isatty" = z274 := by kernel_rfl
    have e275 : Str.ofString "flush" = z275 := by kernel_rfl
    have e276 : Str.ofString "fileno" = z276 := by kernel_rfl
    have e277 : Str.ofString "detach" = z277 := by kernel_rfl
    have e278 : Str.ofString "getvalue" = z278 := by kernel_rfl
    have e279 : Str.ofString "getbuffer" = z279 := by kernel_rfl
    have e280 : Str.ofString "tell" = z280 := by kernel_rfl
    have e281 : Str.ofString "seek" = z281 := by kernel_rfl
    have e282 : Str.ofString "truncate" = z282 := by kernel_rfl
    have e283 : Str.ofString "read" = z283 := by kernel_rfl
    have e284 : Str.ofString "read1" = z284 := by kernel_rfl
    have e285 : Str.ofString "readinto" = z285 := by kernel_rfl
    have e286 : Str.ofString "readinto1" = z286 := by kernel_rfl
    have e287 : Str.ofString "readline" = z287 := by kernel_rfl
    have e288 : Str.ofString "readlines" = z288 := by kernel_rfl
    have e289 : Str.ofString "__iter__" = z289 := by kernel_rfl
    have e290 : Str.ofString "__next__" = z290 := by kernel_rfl
    have e291 : Str.ofString "write" = z291 := by kernel_rfl
    have e292 : Str.ofString "writelines" = z292 := by kernel_rfl
    have e293 : Str.ofString "self" = z293 := by kernel_rfl
    have e294 : Str.ofString "initial_bytes" = ⟨⟨[105,110,105,116,105,97,108,95,98,121,116,101,115]⟩⟩ := by kernel_rfl
    have e295 : Str.ofString "BytesIO.__init__" = ⟨⟨[66,121,116,101,115,73,79,46,95,95,105,110,105,116,95,95]⟩⟩ := by kernel_rfl
    have e296 : Str.ofString "__check" = z296 := by kernel_rfl
    have e297 : Str.ofString "BytesIO.__check" = ⟨⟨[66,121,116,101,115,73,79,46,95,95,99,104,101,99,107]⟩⟩ := by kernel_rfl
    have e298 : Str.ofString "limit" = ⟨⟨[108,105,109,105,116]⟩⟩ := by kernel_rfl
    have e299 : Str.ofString "start" = z299 := by kernel_rfl
    have e300 : Str.ofString "stop" = z300 := by kernel_rfl
    have e301 : Str.ofString "i" = ⟨⟨[105]⟩⟩ := by kernel_rfl
    have e302 : Str.ofString "__line" = z302 := by kernel_rfl
    have e303 : Str.ofString "BytesIO.__line" = ⟨⟨[66,121,116,101,115,73,79,46,95,95,108,105,110,101]⟩⟩ := by kernel_rfl
    have e304 : Str.ofString "BytesIO.closed" = ⟨⟨[66,121,116,101,115,73,79,46,99,108,111,115,101,100]⟩⟩ := by kernel_rfl
    have e305 : Str.ofString "BytesIO.close" = ⟨⟨[66,121,116,101,115,73,79,46,99,108,111,115,101]⟩⟩ := by kernel_rfl
    have e306 : Str.ofString "BytesIO.__enter__" = ⟨⟨[66,121,116,101,115,73,79,46,95,95,101,110,116,101,114,95,95]⟩⟩ := by kernel_rfl
    have e307 : Str.ofString "BytesIO.__exit__" = ⟨⟨[66,121,116,101,115,73,79,46,95,95,101,120,105,116,95,95]⟩⟩ := by kernel_rfl
    have e308 : Str.ofString "BytesIO.readable" = ⟨⟨[66,121,116,101,115,73,79,46,114,101,97,100,97,98,108,101]⟩⟩ := by kernel_rfl
    have e309 : Str.ofString "BytesIO.writable" = ⟨⟨[66,121,116,101,115,73,79,46,119,114,105,116,97,98,108,101]⟩⟩ := by kernel_rfl
    have e310 : Str.ofString "BytesIO.seekable" = ⟨⟨[66,121,116,101,115,73,79,46,115,101,101,107,97,98,108,101]⟩⟩ := by kernel_rfl
    have e311 : Str.ofString "BytesIO.isatty" = ⟨⟨[66,121,116,101,115,73,79,46,105,115,97,116,116,121]⟩⟩ := by kernel_rfl
    have e312 : Str.ofString "BytesIO.flush" = ⟨⟨[66,121,116,101,115,73,79,46,102,108,117,115,104]⟩⟩ := by kernel_rfl
    have e313 : Str.ofString "BytesIO.fileno" = ⟨⟨[66,121,116,101,115,73,79,46,102,105,108,101,110,111]⟩⟩ := by kernel_rfl
    have e314 : Str.ofString "BytesIO.detach" = ⟨⟨[66,121,116,101,115,73,79,46,100,101,116,97,99,104]⟩⟩ := by kernel_rfl
    have e315 : Str.ofString "BytesIO.getvalue" = ⟨⟨[66,121,116,101,115,73,79,46,103,101,116,118,97,108,117,101]⟩⟩ := by kernel_rfl
    have e316 : Str.ofString "BytesIO.getbuffer" = ⟨⟨[66,121,116,101,115,73,79,46,103,101,116,98,117,102,102,101,114]⟩⟩ := by kernel_rfl
    have e317 : Str.ofString "BytesIO.tell" = ⟨⟨[66,121,116,101,115,73,79,46,116,101,108,108]⟩⟩ := by kernel_rfl
    have e318 : Str.ofString "pos" = ⟨⟨[112,111,115]⟩⟩ := by kernel_rfl
    have e319 : Str.ofString "whence" = ⟨⟨[119,104,101,110,99,101]⟩⟩ := by kernel_rfl
    have e320 : Str.ofString "BytesIO.seek" = ⟨⟨[66,121,116,101,115,73,79,46,115,101,101,107]⟩⟩ := by kernel_rfl
    have e321 : Str.ofString "size" = z321 := by kernel_rfl
    have e322 : Str.ofString "BytesIO.truncate" = ⟨⟨[66,121,116,101,115,73,79,46,116,114,117,110,99,97,116,101]⟩⟩ := by kernel_rfl
    have e323 : Str.ofString "BytesIO.read" = ⟨⟨[66,121,116,101,115,73,79,46,114,101,97,100]⟩⟩ := by kernel_rfl
    have e324 : Str.ofString "BytesIO.read1" = ⟨⟨[66,121,116,101,115,73,79,46,114,101,97,100,49]⟩⟩ := by kernel_rfl
    have e325 : Str.ofString "buffer" = ⟨⟨[98,117,102,102,101,114]⟩⟩ := by kernel_rfl
    have e326 : Str.ofString "BytesIO.readinto" = ⟨⟨[66,121,116,101,115,73,79,46,114,101,97,100,105,110,116,111]⟩⟩ := by kernel_rfl
    have e327 : Str.ofString "BytesIO.readinto1" = ⟨⟨[66,121,116,101,115,73,79,46,114,101,97,100,105,110,116,111,49]⟩⟩ := by kernel_rfl
    have e328 : Str.ofString "BytesIO.readline" = ⟨⟨[66,121,116,101,115,73,79,46,114,101,97,100,108,105,110,101]⟩⟩ := by kernel_rfl
    have e329 : Str.ofString "BytesIO.readlines" = ⟨⟨[66,121,116,101,115,73,79,46,114,101,97,100,108,105,110,101,115]⟩⟩ := by kernel_rfl
    have e330 : Str.ofString "BytesIO.__iter__" = ⟨⟨[66,121,116,101,115,73,79,46,95,95,105,116,101,114,95,95]⟩⟩ := by kernel_rfl
    have e331 : Str.ofString "line" = ⟨⟨[108,105,110,101]⟩⟩ := by kernel_rfl
    have e332 : Str.ofString "BytesIO.__next__" = ⟨⟨[66,121,116,101,115,73,79,46,95,95,110,101,120,116,95,95]⟩⟩ := by kernel_rfl
    have e333 : Str.ofString "b" = ⟨⟨[98]⟩⟩ := by kernel_rfl
    have e334 : Str.ofString "BytesIO.write" = ⟨⟨[66,121,116,101,115,73,79,46,119,114,105,116,101]⟩⟩ := by kernel_rfl
    have e335 : Str.ofString "lines" = ⟨⟨[108,105,110,101,115]⟩⟩ := by kernel_rfl
    have e336 : Str.ofString "BytesIO.writelines" = ⟨⟨[66,121,116,101,115,73,79,46,119,114,105,116,101,108,105,110,101,115]⟩⟩ := by kernel_rfl
    have e337 : Str.ofString "BytesIO.__repr__" = ⟨⟨[66,121,116,101,115,73,79,46,95,95,114,101,112,114,95,95]⟩⟩ := by kernel_rfl
    have e338 : Str.ofString "__buf" = ⟨⟨[95,95,98,117,102]⟩⟩ := by kernel_rfl
    have e339 : Str.ofString "__pos" = ⟨⟨[95,95,112,111,115]⟩⟩ := by kernel_rfl
    have e340 : Str.ofString "_StringIO__translated" = z340 := by kernel_rfl
    have e341 : Str.ofString "_StringIO__check" = z341 := by kernel_rfl
    have e342 : Str.ofString "_StringIO__check_dot" = z342 := by kernel_rfl
    have e343 : Str.ofString "_StringIO__line" = z343 := by kernel_rfl
    have e344 : Str.ofString "line_buffering" = z344 := by kernel_rfl
    have e345 : Str.ofString "newlines" = z345 := by kernel_rfl
    have e346 : Str.ofString "encoding" = z346 := by kernel_rfl
    have e347 : Str.ofString "errors" = z347 := by kernel_rfl
    have e348 : Str.ofString "\n" = ⟨⟨[10]⟩⟩ := by kernel_rfl
    have e349 : Str.ofString "initial_value" = ⟨⟨[105,110,105,116,105,97,108,95,118,97,108,117,101]⟩⟩ := by kernel_rfl
    have e350 : Str.ofString "newline" = ⟨⟨[110,101,119,108,105,110,101]⟩⟩ := by kernel_rfl
    have e351 : Str.ofString "StringIO.__init__" = ⟨⟨[83,116,114,105,110,103,73,79,46,95,95,105,110,105,116,95,95]⟩⟩ := by kernel_rfl
    have e352 : Str.ofString "s" = z352 := by kernel_rfl
    have e353 : Str.ofString "__translated" = ⟨⟨[95,95,116,114,97,110,115,108,97,116,101,100]⟩⟩ := by kernel_rfl
    have e354 : Str.ofString "StringIO.__translated" = ⟨⟨[83,116,114,105,110,103,73,79,46,95,95,116,114,97,110,115,108,97,116,101,100]⟩⟩ := by kernel_rfl
    have e355 : Str.ofString "StringIO.__check" = ⟨⟨[83,116,114,105,110,103,73,79,46,95,95,99,104,101,99,107]⟩⟩ := by kernel_rfl
    have e356 : Str.ofString "__check_dot" = ⟨⟨[95,95,99,104,101,99,107,95,100,111,116]⟩⟩ := by kernel_rfl
    have e357 : Str.ofString "StringIO.__check_dot" = ⟨⟨[83,116,114,105,110,103,73,79,46,95,95,99,104,101,99,107,95,100,111,116]⟩⟩ := by kernel_rfl
    have e358 : Str.ofString "cut" = ⟨⟨[99,117,116]⟩⟩ := by kernel_rfl
    have e359 : Str.ofString "j" = ⟨⟨[106]⟩⟩ := by kernel_rfl
    have e360 : Str.ofString "end" = ⟨⟨[101,110,100]⟩⟩ := by kernel_rfl
    have e361 : Str.ofString "StringIO.__line" = ⟨⟨[83,116,114,105,110,103,73,79,46,95,95,108,105,110,101]⟩⟩ := by kernel_rfl
    have e362 : Str.ofString "StringIO.closed" = ⟨⟨[83,116,114,105,110,103,73,79,46,99,108,111,115,101,100]⟩⟩ := by kernel_rfl
    have e363 : Str.ofString "StringIO.line_buffering" = ⟨⟨[83,116,114,105,110,103,73,79,46,108,105,110,101,95,98,117,102,102,101,114,105,110,103]⟩⟩ := by kernel_rfl
    have e364 : Str.ofString "StringIO.newlines" = ⟨⟨[83,116,114,105,110,103,73,79,46,110,101,119,108,105,110,101,115]⟩⟩ := by kernel_rfl
    have e365 : Str.ofString "StringIO.encoding" = ⟨⟨[83,116,114,105,110,103,73,79,46,101,110,99,111,100,105,110,103]⟩⟩ := by kernel_rfl
    have e366 : Str.ofString "StringIO.errors" = ⟨⟨[83,116,114,105,110,103,73,79,46,101,114,114,111,114,115]⟩⟩ := by kernel_rfl
    have e367 : Str.ofString "StringIO.close" = ⟨⟨[83,116,114,105,110,103,73,79,46,99,108,111,115,101]⟩⟩ := by kernel_rfl
    have e368 : Str.ofString "StringIO.__enter__" = ⟨⟨[83,116,114,105,110,103,73,79,46,95,95,101,110,116,101,114,95,95]⟩⟩ := by kernel_rfl
    have e369 : Str.ofString "StringIO.__exit__" = ⟨⟨[83,116,114,105,110,103,73,79,46,95,95,101,120,105,116,95,95]⟩⟩ := by kernel_rfl
    have e370 : Str.ofString "StringIO.readable" = ⟨⟨[83,116,114,105,110,103,73,79,46,114,101,97,100,97,98,108,101]⟩⟩ := by kernel_rfl
    have e371 : Str.ofString "StringIO.writable" = ⟨⟨[83,116,114,105,110,103,73,79,46,119,114,105,116,97,98,108,101]⟩⟩ := by kernel_rfl
    have e372 : Str.ofString "StringIO.seekable" = ⟨⟨[83,116,114,105,110,103,73,79,46,115,101,101,107,97,98,108,101]⟩⟩ := by kernel_rfl
    have e373 : Str.ofString "StringIO.isatty" = ⟨⟨[83,116,114,105,110,103,73,79,46,105,115,97,116,116,121]⟩⟩ := by kernel_rfl
    have e374 : Str.ofString "StringIO.flush" = ⟨⟨[83,116,114,105,110,103,73,79,46,102,108,117,115,104]⟩⟩ := by kernel_rfl
    have e375 : Str.ofString "StringIO.fileno" = ⟨⟨[83,116,114,105,110,103,73,79,46,102,105,108,101,110,111]⟩⟩ := by kernel_rfl
    have e376 : Str.ofString "StringIO.detach" = ⟨⟨[83,116,114,105,110,103,73,79,46,100,101,116,97,99,104]⟩⟩ := by kernel_rfl
    have e377 : Str.ofString "StringIO.getvalue" = ⟨⟨[83,116,114,105,110,103,73,79,46,103,101,116,118,97,108,117,101]⟩⟩ := by kernel_rfl
    have e378 : Str.ofString "StringIO.tell" = ⟨⟨[83,116,114,105,110,103,73,79,46,116,101,108,108]⟩⟩ := by kernel_rfl
    have e379 : Str.ofString "StringIO.seek" = ⟨⟨[83,116,114,105,110,103,73,79,46,115,101,101,107]⟩⟩ := by kernel_rfl
    have e380 : Str.ofString "StringIO.truncate" = ⟨⟨[83,116,114,105,110,103,73,79,46,116,114,117,110,99,97,116,101]⟩⟩ := by kernel_rfl
    have e381 : Str.ofString "StringIO.read" = ⟨⟨[83,116,114,105,110,103,73,79,46,114,101,97,100]⟩⟩ := by kernel_rfl
    have e382 : Str.ofString "StringIO.readline" = ⟨⟨[83,116,114,105,110,103,73,79,46,114,101,97,100,108,105,110,101]⟩⟩ := by kernel_rfl
    have e383 : Str.ofString "hint" = ⟨⟨[104,105,110,116]⟩⟩ := by kernel_rfl
    have e384 : Str.ofString "StringIO.readlines" = ⟨⟨[83,116,114,105,110,103,73,79,46,114,101,97,100,108,105,110,101,115]⟩⟩ := by kernel_rfl
    have e385 : Str.ofString "StringIO.__iter__" = ⟨⟨[83,116,114,105,110,103,73,79,46,95,95,105,116,101,114,95,95]⟩⟩ := by kernel_rfl
    have e386 : Str.ofString "StringIO.__next__" = ⟨⟨[83,116,114,105,110,103,73,79,46,95,95,110,101,120,116,95,95]⟩⟩ := by kernel_rfl
    have e387 : Str.ofString "m" = ⟨⟨[109]⟩⟩ := by kernel_rfl
    have e388 : Str.ofString "buf" = ⟨⟨[98,117,102]⟩⟩ := by kernel_rfl
    have e389 : Str.ofString "StringIO.write" = ⟨⟨[83,116,114,105,110,103,73,79,46,119,114,105,116,101]⟩⟩ := by kernel_rfl
    have e390 : Str.ofString "StringIO.writelines" = ⟨⟨[83,116,114,105,110,103,73,79,46,119,114,105,116,101,108,105,110,101,115]⟩⟩ := by kernel_rfl
    have e391 : Str.ofString "StringIO.__repr__" = ⟨⟨[83,116,114,105,110,103,73,79,46,95,95,114,101,112,114,95,95]⟩⟩ := by kernel_rfl
    have e392 : Str.ofString "__newline" = ⟨⟨[95,95,110,101,119,108,105,110,101]⟩⟩ := by kernel_rfl
    have e393 : Str.ofString "x" = ⟨⟨[120]⟩⟩ := by kernel_rfl
    have e394 : Str.ofString "t" = ⟨⟨[116]⟩⟩ := by kernel_rfl
    have e395 : Str.ofString "os.path" = z395 := by kernel_rfl
    have e396 : Str.ofString "funcname" = ⟨⟨[102,117,110,99,110,97,109,101]⟩⟩ := by kernel_rfl
    have e397 : Str.ofString "a" = ⟨⟨[97]⟩⟩ := by kernel_rfl
    have e398 : Str.ofString "p" = ⟨⟨[112]⟩⟩ := by kernel_rfl
    have e399 : Str.ofString "sep" = ⟨⟨[115,101,112]⟩⟩ := by kernel_rfl
    have e400 : Str.ofString "path" = ⟨⟨[112,97,116,104]⟩⟩ := by kernel_rfl
    have e401 : Str.ofString "head" = ⟨⟨[104,101,97,100]⟩⟩ := by kernel_rfl
    have e402 : Str.ofString "cpy313.shlex" = z402 := by kernel_rfl
    have e403 : Str.ofString "punctuation_chars" = z403 := by kernel_rfl
    have e404 : Str.ofString "push_token" = z404 := by kernel_rfl
    have e405 : Str.ofString "push_source" = z405 := by kernel_rfl
    have e406 : Str.ofString "pop_source" = z406 := by kernel_rfl
    have e407 : Str.ofString "get_token" = z407 := by kernel_rfl
    have e408 : Str.ofString "read_token" = z408 := by kernel_rfl
    have e409 : Str.ofString "sourcehook" = z409 := by kernel_rfl
    have e410 : Str.ofString "error_leader" = z410 := by kernel_rfl
    have e411 : Str.ofString "instream" = ⟨⟨[105,110,115,116,114,101,97,109]⟩⟩ := by kernel_rfl
    have e412 : Str.ofString "infile" = ⟨⟨[105,110,102,105,108,101]⟩⟩ := by kernel_rfl
    have e413 : Str.ofString "posix" = ⟨⟨[112,111,115,105,120]⟩⟩ := by kernel_rfl
    have e414 : Str.ofString "shlex.__init__" = ⟨⟨[115,104,108,101,120,46,95,95,105,110,105,116,95,95]⟩⟩ := by kernel_rfl
    have e415 : Str.ofString "shlex.punctuation_chars" = ⟨⟨[115,104,108,101,120,46,112,117,110,99,116,117,97,116,105,111,110,95,99,104,97,114,115]⟩⟩ := by kernel_rfl
    have e416 : Str.ofString "tok" = ⟨⟨[116,111,107]⟩⟩ := by kernel_rfl
    have e417 : Str.ofString "shlex.push_token" = ⟨⟨[115,104,108,101,120,46,112,117,115,104,95,116,111,107,101,110]⟩⟩ := by kernel_rfl
    have e418 : Str.ofString "newstream" = ⟨⟨[110,101,119,115,116,114,101,97,109]⟩⟩ := by kernel_rfl
    have e419 : Str.ofString "newfile" = ⟨⟨[110,101,119,102,105,108,101]⟩⟩ := by kernel_rfl
    have e420 : Str.ofString "shlex.push_source" = ⟨⟨[115,104,108,101,120,46,112,117,115,104,95,115,111,117,114,99,101]⟩⟩ := by kernel_rfl
    have e421 : Str.ofString "shlex.pop_source" = ⟨⟨[115,104,108,101,120,46,112,111,112,95,115,111,117,114,99,101]⟩⟩ := by kernel_rfl
    have e422 : Str.ofString "raw" = ⟨⟨[114,97,119]⟩⟩ := by kernel_rfl
    have e423 : Str.ofString "spec" = ⟨⟨[115,112,101,99]⟩⟩ := by kernel_rfl
    have e424 : Str.ofString "shlex.get_token" = ⟨⟨[115,104,108,101,120,46,103,101,116,95,116,111,107,101,110]⟩⟩ := by kernel_rfl
    have e425 : Str.ofString "quoted" = ⟨⟨[113,117,111,116,101,100]⟩⟩ := by kernel_rfl
    have e426 : Str.ofString "escapedstate" = ⟨⟨[101,115,99,97,112,101,100,115,116,97,116,101]⟩⟩ := by kernel_rfl
    have e427 : Str.ofString "nextchar" = ⟨⟨[110,101,120,116,99,104,97,114]⟩⟩ := by kernel_rfl
    have e428 : Str.ofString "result" = ⟨⟨[114,101,115,117,108,116]⟩⟩ := by kernel_rfl
    have e429 : Str.ofString "shlex.read_token" = ⟨⟨[115,104,108,101,120,46,114,101,97,100,95,116,111,107,101,110]⟩⟩ := by kernel_rfl
    have e430 : Str.ofString "shlex.sourcehook" = ⟨⟨[115,104,108,101,120,46,115,111,117,114,99,101,104,111,111,107]⟩⟩ := by kernel_rfl
    have e431 : Str.ofString "lineno" = ⟨⟨[108,105,110,101,110,111]⟩⟩ := by kernel_rfl
    have e432 : Str.ofString "shlex.error_leader" = ⟨⟨[115,104,108,101,120,46,101,114,114,111,114,95,108,101,97,100,101,114]⟩⟩ := by kernel_rfl
    have e433 : Str.ofString "shlex.__iter__" = ⟨⟨[115,104,108,101,120,46,95,95,105,116,101,114,95,95]⟩⟩ := by kernel_rfl
    have e434 : Str.ofString "token" = ⟨⟨[116,111,107,101,110]⟩⟩ := by kernel_rfl
    have e435 : Str.ofString "shlex.__next__" = ⟨⟨[115,104,108,101,120,46,95,95,110,101,120,116,95,95]⟩⟩ := by kernel_rfl
    have e436 : Str.ofString "_punctuation_chars" = ⟨⟨[95,112,117,110,99,116,117,97,116,105,111,110,95,99,104,97,114,115]⟩⟩ := by kernel_rfl
    have e437 : Str.ofString "_pushback_chars" = ⟨⟨[95,112,117,115,104,98,97,99,107,95,99,104,97,114,115]⟩⟩ := by kernel_rfl
    have e438 : Str.ofString "commenters" = ⟨⟨[99,111,109,109,101,110,116,101,114,115]⟩⟩ := by kernel_rfl
    have e439 : Str.ofString "debug" = ⟨⟨[100,101,98,117,103]⟩⟩ := by kernel_rfl
    have e440 : Str.ofString "eof" = ⟨⟨[101,111,102]⟩⟩ := by kernel_rfl
    have e441 : Str.ofString "escape" = ⟨⟨[101,115,99,97,112,101]⟩⟩ := by kernel_rfl
    have e442 : Str.ofString "escapedquotes" = ⟨⟨[101,115,99,97,112,101,100,113,117,111,116,101,115]⟩⟩ := by kernel_rfl
    have e443 : Str.ofString "filestack" = ⟨⟨[102,105,108,101,115,116,97,99,107]⟩⟩ := by kernel_rfl
    have e444 : Str.ofString "pushback" = ⟨⟨[112,117,115,104,98,97,99,107]⟩⟩ := by kernel_rfl
    have e445 : Str.ofString "quotes" = ⟨⟨[113,117,111,116,101,115]⟩⟩ := by kernel_rfl
    have e446 : Str.ofString "source" = ⟨⟨[115,111,117,114,99,101]⟩⟩ := by kernel_rfl
    have e447 : Str.ofString "state" = ⟨⟨[115,116,97,116,101]⟩⟩ := by kernel_rfl
    have e448 : Str.ofString "whitespace" = ⟨⟨[119,104,105,116,101,115,112,97,99,101]⟩⟩ := by kernel_rfl
    have e449 : Str.ofString "whitespace_split" = ⟨⟨[119,104,105,116,101,115,112,97,99,101,95,115,112,108,105,116]⟩⟩ := by kernel_rfl
    have e450 : Str.ofString "wordchars" = ⟨⟨[119,111,114,100,99,104,97,114,115]⟩⟩ := by kernel_rfl
    have e451 : Str.ofString "comments" = ⟨⟨[99,111,109,109,101,110,116,115]⟩⟩ := by kernel_rfl
    have e452 : Str.ofString "lex" = ⟨⟨[108,101,120]⟩⟩ := by kernel_rfl
    have e453 : Str.ofString "kind" = ⟨⟨[107,105,110,100]⟩⟩ := by kernel_rfl
    have e454 : Str.ofString "code" = ⟨⟨[99,111,100,101]⟩⟩ := by kernel_rfl
    have e455 : Str.ofString "sign" = ⟨⟨[115,105,103,110]⟩⟩ := by kernel_rfl
    have e456 : Str.ofString "words" = ⟨⟨[119,111,114,100,115]⟩⟩ := by kernel_rfl
    have e457 : Str.ofString "begun" = ⟨⟨[98,101,103,117,110]⟩⟩ := by kernel_rfl
    have e458 : Str.ofString "place" = ⟨⟨[112,108,97,99,101]⟩⟩ := by kernel_rfl
    have e459 : Str.ofString "fault" = ⟨⟨[102,97,117,108,116]⟩⟩ := by kernel_rfl
    have e460 : Str.ofString "move" = ⟨⟨[109,111,118,101]⟩⟩ := by kernel_rfl
    have e461 : Str.ofString "marks" = ⟨⟨[109,97,114,107,115]⟩⟩ := by kernel_rfl
    have e462 : Str.ofString "whole" = ⟨⟨[119,104,111,108,101]⟩⟩ := by kernel_rfl
    have e463 : Str.ofString "due" = ⟨⟨[100,117,101]⟩⟩ := by kernel_rfl
    simp only [e0, e1, e2, e3, e4, e5, e6, e7, e8, e9, e10, e11, e12, e13, e14, e15, e16, e17, e18, e19, e20, e21, e22, e23, e24, e25, e26, e27, e28, e29, e30, e31, e32, e33, e34, e35, e36, e37, e38, e39, e40, e41, e42, e43, e44, e45, e46, e47, e48, e49, e50, e51, e52, e53, e54, e55, e56, e57, e58, e59, e60, e61, e62, e63, e64, e65, e66, e67, e68, e69, e70, e71, e72, e73, e74, e75, e76, e77, e78, e79, e80, e81, e82, e83, e84, e85, e86, e87, e88, e89, e90, e91, e92, e93, e94, e95, e96, e97, e98, e99, e100, e101, e102, e103, e104, e105, e106, e107, e108, e109, e110, e111, e112, e113, e114, e115, e116, e117, e118, e119, e120, e121, e122, e123, e124, e125, e126, e127, e128, e129, e130, e131, e132, e133, e134, e135, e136, e137, e138, e139, e140, e141, e142, e143, e144, e145, e146, e147, e148, e149, e150, e151, e152, e153, e154, e155, e156, e157, e158, e159, e160, e161, e162, e163, e164, e165, e166, e167, e168, e169, e170, e171, e172, e173, e174, e175, e176, e177, e178, e179, e180, e181, e182, e183, e184, e185, e186, e187, e188, e189, e190, e191, e192, e193, e194, e195, e196, e197, e198, e199, e200, e201, e202, e203, e204, e205, e206, e207, e208, e209, e210, e211, e212, e213, e214, e215, e216, e217, e218, e219, e220, e221, e222, e223, e224, e225, e226, e227, e228, e229, e230, e231, e232, e233, e234, e235, e236, e237, e238, e239, e240, e241, e242, e243, e244, e245, e246, e247, e248, e249, e250, e251, e252, e253, e254, e255, e256, e257, e258, e259, e260, e261, e262, e263, e264, e265, e266, e267, e268, e269, e270, e271, e272, e273, e274, e275, e276, e277, e278, e279, e280, e281, e282, e283, e284, e285, e286, e287, e288, e289, e290, e291, e292, e293, e294, e295, e296, e297, e298, e299, e300, e301, e302, e303, e304, e305, e306, e307, e308, e309, e310, e311, e312, e313, e314, e315, e316, e317, e318, e319, e320, e321, e322, e323, e324, e325, e326, e327, e328, e329, e330, e331, e332, e333, e334, e335, e336, e337, e338, e339, e340, e341, e342, e343, e344, e345, e346, e347, e348, e349, e350, e351, e352, e353, e354, e355, e356, e357, e358, e359, e360, e361, e362, e363, e364, e365, e366, e367, e368, e369, e370, e371, e372, e373, e374, e375, e376, e377, e378, e379, e380, e381, e382, e383, e384, e385, e386, e387, e388, e389, e390, e391, e392, e393, e394, e395, e396, e397, e398, e399, e400, e401, e402, e403, e404, e405, e406, e407, e408, e409, e410, e411, e412, e413, e414, e415, e416, e417, e418, e419, e420, e421, e422, e423, e424, e425, e426, e427, e428, e429, e430, e431, e432, e433, e434, e435, e436, e437, e438, e439, e440, e441, e442, e443, e444, e445, e446, e447, e448, e449, e450, e451, e452, e453, e454, e455, e456, e457, e458, e459, e460, e461, e462, e463]
    rfl
theorem qp_eq : PySem.Challenge.pw_mj0242_04 = qp := by kernel_rfl
noncomputable def nthS : List Stmt → Nat → Stmt
  | [], _ => .Pass ⟨0, 0, 0, 0⟩
  | s :: _, 0 => s
  | _ :: r, n + 1 => nthS r n
noncomputable def qT (i : Nat) : Stmt := nthS qp.main.body i
noncomputable def qC (i j : Nat) : Stmt := match qT i with
  | .ClassDef _ _ _ b _ _ _ _ _ _ _ => nthS b j
  | s => s
noncomputable def qA : Stmt → Arguments
  | .FunctionDef _ a _ _ _ _ _ _ _ _ => a
  | _ => default
noncomputable def qB : Stmt → List Stmt
  | .FunctionDef _ _ b _ _ _ _ _ _ _ => b
  | _ => []
noncomputable def qS : Stmt → Scope
  | .FunctionDef _ _ _ _ _ _ s _ _ _ => s
  | _ => default
noncomputable def x0 (P : Params) : Obj := ⟨(.type "dict"), none, (Data.dict (List.toArray [⟨(PyData.keyHash P z0), (.str z0 1), (.str ⟨⟨[98,117,105,108,116,105,110,115]⟩⟩ 160)⟩, ⟨(PyData.keyHash P z2), (.str z2 2), (.builtin "builtins.__doc__:str#opaque")⟩, ⟨(PyData.keyHash P z3), (.str z3 3), (.builtin "builtins.__package__:str#opaque")⟩, ⟨(PyData.keyHash P z4), (.str z4 4), (.builtin "builtins.__loader__:shared#opaque")⟩, ⟨(PyData.keyHash P z5), (.str z5 5), (.builtin "builtins.__spec__#opaque")⟩, ⟨(PyData.keyHash P ⟨⟨[95,95,98,117,105,108,100,95,99,108,97,115,115,95,95]⟩⟩), (.str ⟨⟨[95,95,98,117,105,108,100,95,99,108,97,115,115,95,95]⟩⟩ 6), (.builtin "__build_class__")⟩, ⟨(PyData.keyHash P ⟨⟨[95,95,105,109,112,111,114,116,95,95]⟩⟩), (.str ⟨⟨[95,95,105,109,112,111,114,116,95,95]⟩⟩ 7), (.builtin "__import__")⟩, ⟨(PyData.keyHash P ⟨⟨[97,98,115]⟩⟩), (.str ⟨⟨[97,98,115]⟩⟩ 8), (.builtin "abs")⟩, ⟨(PyData.keyHash P ⟨⟨[97,108,108]⟩⟩), (.str ⟨⟨[97,108,108]⟩⟩ 9), (.builtin "all")⟩, ⟨(PyData.keyHash P ⟨⟨[97,110,121]⟩⟩), (.str ⟨⟨[97,110,121]⟩⟩ 10), (.builtin "any")⟩, ⟨(PyData.keyHash P ⟨⟨[97,115,99,105,105]⟩⟩), (.str ⟨⟨[97,115,99,105,105]⟩⟩ 11), (.builtin "ascii")⟩, ⟨(PyData.keyHash P ⟨⟨[98,105,110]⟩⟩), (.str ⟨⟨[98,105,110]⟩⟩ 12), (.builtin "bin")⟩, ⟨(PyData.keyHash P ⟨⟨[98,114,101,97,107,112,111,105,110,116]⟩⟩), (.str ⟨⟨[98,114,101,97,107,112,111,105,110,116]⟩⟩ 13), (.builtin "breakpoint")⟩, ⟨(PyData.keyHash P ⟨⟨[99,97,108,108,97,98,108,101]⟩⟩), (.str ⟨⟨[99,97,108,108,97,98,108,101]⟩⟩ 14), (.builtin "callable")⟩, ⟨(PyData.keyHash P ⟨⟨[99,104,114]⟩⟩), (.str ⟨⟨[99,104,114]⟩⟩ 15), (.builtin "chr")⟩, ⟨(PyData.keyHash P ⟨⟨[99,111,109,112,105,108,101]⟩⟩), (.str ⟨⟨[99,111,109,112,105,108,101]⟩⟩ 16), (.builtin "compile")⟩, ⟨(PyData.keyHash P ⟨⟨[100,101,108,97,116,116,114]⟩⟩), (.str ⟨⟨[100,101,108,97,116,116,114]⟩⟩ 17), (.builtin "delattr")⟩, ⟨(PyData.keyHash P ⟨⟨[100,105,114]⟩⟩), (.str ⟨⟨[100,105,114]⟩⟩ 18), (.builtin "dir")⟩, ⟨(PyData.keyHash P ⟨⟨[100,105,118,109,111,100]⟩⟩), (.str ⟨⟨[100,105,118,109,111,100]⟩⟩ 19), (.builtin "divmod")⟩, ⟨(PyData.keyHash P ⟨⟨[101,118,97,108]⟩⟩), (.str ⟨⟨[101,118,97,108]⟩⟩ 20), (.builtin "eval")⟩, ⟨(PyData.keyHash P ⟨⟨[101,120,101,99]⟩⟩), (.str ⟨⟨[101,120,101,99]⟩⟩ 21), (.builtin "exec")⟩, ⟨(PyData.keyHash P ⟨⟨[102,111,114,109,97,116]⟩⟩), (.str ⟨⟨[102,111,114,109,97,116]⟩⟩ 22), (.builtin "format")⟩, ⟨(PyData.keyHash P ⟨⟨[103,101,116,97,116,116,114]⟩⟩), (.str ⟨⟨[103,101,116,97,116,116,114]⟩⟩ 23), (.builtin "getattr")⟩, ⟨(PyData.keyHash P ⟨⟨[103,108,111,98,97,108,115]⟩⟩), (.str ⟨⟨[103,108,111,98,97,108,115]⟩⟩ 24), (.builtin "globals")⟩, ⟨(PyData.keyHash P ⟨⟨[104,97,115,97,116,116,114]⟩⟩), (.str ⟨⟨[104,97,115,97,116,116,114]⟩⟩ 25), (.builtin "hasattr")⟩, ⟨(PyData.keyHash P ⟨⟨[104,97,115,104]⟩⟩), (.str ⟨⟨[104,97,115,104]⟩⟩ 26), (.builtin "hash")⟩, ⟨(PyData.keyHash P ⟨⟨[104,101,120]⟩⟩), (.str ⟨⟨[104,101,120]⟩⟩ 27), (.builtin "hex")⟩, ⟨(PyData.keyHash P ⟨⟨[105,100]⟩⟩), (.str ⟨⟨[105,100]⟩⟩ 28), (.builtin "id")⟩, ⟨(PyData.keyHash P ⟨⟨[105,110,112,117,116]⟩⟩), (.str ⟨⟨[105,110,112,117,116]⟩⟩ 29), (.builtin "input")⟩, ⟨(PyData.keyHash P ⟨⟨[105,115,105,110,115,116,97,110,99,101]⟩⟩), (.str ⟨⟨[105,115,105,110,115,116,97,110,99,101]⟩⟩ 30), (.builtin "isinstance")⟩, ⟨(PyData.keyHash P ⟨⟨[105,115,115,117,98,99,108,97,115,115]⟩⟩), (.str ⟨⟨[105,115,115,117,98,99,108,97,115,115]⟩⟩ 31), (.builtin "issubclass")⟩, ⟨(PyData.keyHash P ⟨⟨[105,116,101,114]⟩⟩), (.str ⟨⟨[105,116,101,114]⟩⟩ 32), (.builtin "iter")⟩, ⟨(PyData.keyHash P ⟨⟨[97,105,116,101,114]⟩⟩), (.str ⟨⟨[97,105,116,101,114]⟩⟩ 33), (.builtin "aiter")⟩, ⟨(PyData.keyHash P ⟨⟨[108,101,110]⟩⟩), (.str ⟨⟨[108,101,110]⟩⟩ 34), (.builtin "len")⟩, ⟨(PyData.keyHash P ⟨⟨[108,111,99,97,108,115]⟩⟩), (.str ⟨⟨[108,111,99,97,108,115]⟩⟩ 35), (.builtin "locals")⟩, ⟨(PyData.keyHash P ⟨⟨[109,97,120]⟩⟩), (.str ⟨⟨[109,97,120]⟩⟩ 36), (.builtin "max")⟩, ⟨(PyData.keyHash P ⟨⟨[109,105,110]⟩⟩), (.str ⟨⟨[109,105,110]⟩⟩ 37), (.builtin "min")⟩, ⟨(PyData.keyHash P ⟨⟨[110,101,120,116]⟩⟩), (.str ⟨⟨[110,101,120,116]⟩⟩ 38), (.builtin "next")⟩, ⟨(PyData.keyHash P ⟨⟨[97,110,101,120,116]⟩⟩), (.str ⟨⟨[97,110,101,120,116]⟩⟩ 39), (.builtin "anext")⟩, ⟨(PyData.keyHash P ⟨⟨[111,99,116]⟩⟩), (.str ⟨⟨[111,99,116]⟩⟩ 40), (.builtin "oct")⟩, ⟨(PyData.keyHash P ⟨⟨[111,114,100]⟩⟩), (.str ⟨⟨[111,114,100]⟩⟩ 41), (.builtin "ord")⟩, ⟨(PyData.keyHash P ⟨⟨[112,111,119]⟩⟩), (.str ⟨⟨[112,111,119]⟩⟩ 42), (.builtin "pow")⟩, ⟨(PyData.keyHash P ⟨⟨[112,114,105,110,116]⟩⟩), (.str ⟨⟨[112,114,105,110,116]⟩⟩ 43), (.builtin "print")⟩, ⟨(PyData.keyHash P ⟨⟨[114,101,112,114]⟩⟩), (.str ⟨⟨[114,101,112,114]⟩⟩ 44), (.builtin "repr")⟩, ⟨(PyData.keyHash P ⟨⟨[114,111,117,110,100]⟩⟩), (.str ⟨⟨[114,111,117,110,100]⟩⟩ 45), (.builtin "round")⟩, ⟨(PyData.keyHash P ⟨⟨[115,101,116,97,116,116,114]⟩⟩), (.str ⟨⟨[115,101,116,97,116,116,114]⟩⟩ 46), (.builtin "setattr")⟩, ⟨(PyData.keyHash P ⟨⟨[115,111,114,116,101,100]⟩⟩), (.str ⟨⟨[115,111,114,116,101,100]⟩⟩ 47), (.builtin "sorted")⟩, ⟨(PyData.keyHash P ⟨⟨[115,117,109]⟩⟩), (.str ⟨⟨[115,117,109]⟩⟩ 48), (.builtin "sum")⟩, ⟨(PyData.keyHash P ⟨⟨[118,97,114,115]⟩⟩), (.str ⟨⟨[118,97,114,115]⟩⟩ 49), (.builtin "vars")⟩, ⟨(PyData.keyHash P ⟨⟨[78,111,110,101]⟩⟩), (.str ⟨⟨[78,111,110,101]⟩⟩ 50), .none⟩, ⟨(PyData.keyHash P ⟨⟨[69,108,108,105,112,115,105,115]⟩⟩), (.str ⟨⟨[69,108,108,105,112,115,105,115]⟩⟩ 51), .ellipsis⟩, ⟨(PyData.keyHash P ⟨⟨[78,111,116,73,109,112,108,101,109,101,110,116,101,100]⟩⟩), (.str ⟨⟨[78,111,116,73,109,112,108,101,109,101,110,116,101,100]⟩⟩ 52), .notImplemented⟩, ⟨(PyData.keyHash P ⟨⟨[70,97,108,115,101]⟩⟩), (.str ⟨⟨[70,97,108,115,101]⟩⟩ 53), (.bool false)⟩, ⟨(PyData.keyHash P ⟨⟨[84,114,117,101]⟩⟩), (.str ⟨⟨[84,114,117,101]⟩⟩ 54), (.bool true)⟩, ⟨(PyData.keyHash P ⟨⟨[98,111,111,108]⟩⟩), (.str ⟨⟨[98,111,111,108]⟩⟩ 55), (.type "bool")⟩, ⟨(PyData.keyHash P ⟨⟨[109,101,109,111,114,121,118,105,101,119]⟩⟩), (.str ⟨⟨[109,101,109,111,114,121,118,105,101,119]⟩⟩ 56), (.type "memoryview")⟩, ⟨(PyData.keyHash P ⟨⟨[98,121,116,101,97,114,114,97,121]⟩⟩), (.str ⟨⟨[98,121,116,101,97,114,114,97,121]⟩⟩ 57), (.type "bytearray")⟩, ⟨(PyData.keyHash P ⟨⟨[98,121,116,101,115]⟩⟩), (.str ⟨⟨[98,121,116,101,115]⟩⟩ 58), (.type "bytes")⟩, ⟨(PyData.keyHash P ⟨⟨[99,108,97,115,115,109,101,116,104,111,100]⟩⟩), (.str ⟨⟨[99,108,97,115,115,109,101,116,104,111,100]⟩⟩ 59), (.type "classmethod")⟩, ⟨(PyData.keyHash P ⟨⟨[99,111,109,112,108,101,120]⟩⟩), (.str ⟨⟨[99,111,109,112,108,101,120]⟩⟩ 60), (.type "complex")⟩, ⟨(PyData.keyHash P ⟨⟨[100,105,99,116]⟩⟩), (.str ⟨⟨[100,105,99,116]⟩⟩ 61), (.type "dict")⟩, ⟨(PyData.keyHash P ⟨⟨[101,110,117,109,101,114,97,116,101]⟩⟩), (.str ⟨⟨[101,110,117,109,101,114,97,116,101]⟩⟩ 62), (.type "enumerate")⟩, ⟨(PyData.keyHash P ⟨⟨[102,105,108,116,101,114]⟩⟩), (.str ⟨⟨[102,105,108,116,101,114]⟩⟩ 63), (.type "filter")⟩, ⟨(PyData.keyHash P ⟨⟨[102,108,111,97,116]⟩⟩), (.str ⟨⟨[102,108,111,97,116]⟩⟩ 64), (.type "float")⟩, ⟨(PyData.keyHash P ⟨⟨[102,114,111,122,101,110,115,101,116]⟩⟩), (.str ⟨⟨[102,114,111,122,101,110,115,101,116]⟩⟩ 65), (.type "frozenset")⟩, ⟨(PyData.keyHash P ⟨⟨[112,114,111,112,101,114,116,121]⟩⟩), (.str ⟨⟨[112,114,111,112,101,114,116,121]⟩⟩ 66), (.type "property")⟩, ⟨(PyData.keyHash P ⟨⟨[105,110,116]⟩⟩), (.str ⟨⟨[105,110,116]⟩⟩ 67), (.type "int")⟩, ⟨(PyData.keyHash P ⟨⟨[108,105,115,116]⟩⟩), (.str ⟨⟨[108,105,115,116]⟩⟩ 68), (.type "list")⟩, ⟨(PyData.keyHash P ⟨⟨[109,97,112]⟩⟩), (.str ⟨⟨[109,97,112]⟩⟩ 69), (.type "map")⟩, ⟨(PyData.keyHash P ⟨⟨[111,98,106,101,99,116]⟩⟩), (.str ⟨⟨[111,98,106,101,99,116]⟩⟩ 70), (.type "object")⟩, ⟨(PyData.keyHash P ⟨⟨[114,97,110,103,101]⟩⟩), (.str ⟨⟨[114,97,110,103,101]⟩⟩ 71), (.type "range")⟩, ⟨(PyData.keyHash P ⟨⟨[114,101,118,101,114,115,101,100]⟩⟩), (.str ⟨⟨[114,101,118,101,114,115,101,100]⟩⟩ 72), (.type "reversed")⟩, ⟨(PyData.keyHash P ⟨⟨[115,101,116]⟩⟩), (.str ⟨⟨[115,101,116]⟩⟩ 73), (.type "set")⟩, ⟨(PyData.keyHash P ⟨⟨[115,108,105,99,101]⟩⟩), (.str ⟨⟨[115,108,105,99,101]⟩⟩ 74), (.type "slice")⟩, ⟨(PyData.keyHash P ⟨⟨[115,116,97,116,105,99,109,101,116,104,111,100]⟩⟩), (.str ⟨⟨[115,116,97,116,105,99,109,101,116,104,111,100]⟩⟩ 75), (.type "staticmethod")⟩, ⟨(PyData.keyHash P ⟨⟨[115,116,114]⟩⟩), (.str ⟨⟨[115,116,114]⟩⟩ 76), (.type "str")⟩, ⟨(PyData.keyHash P ⟨⟨[115,117,112,101,114]⟩⟩), (.str ⟨⟨[115,117,112,101,114]⟩⟩ 77), (.type "super")⟩, ⟨(PyData.keyHash P ⟨⟨[116,117,112,108,101]⟩⟩), (.str ⟨⟨[116,117,112,108,101]⟩⟩ 78), (.type "tuple")⟩, ⟨(PyData.keyHash P ⟨⟨[116,121,112,101]⟩⟩), (.str ⟨⟨[116,121,112,101]⟩⟩ 79), (.type "type")⟩, ⟨(PyData.keyHash P ⟨⟨[122,105,112]⟩⟩), (.str ⟨⟨[122,105,112]⟩⟩ 80), (.type "zip")⟩, ⟨(PyData.keyHash P ⟨⟨[95,95,100,101,98,117,103,95,95]⟩⟩), (.str ⟨⟨[95,95,100,101,98,117,103,95,95]⟩⟩ 81), (.bool true)⟩, ⟨(PyData.keyHash P ⟨⟨[66,97,115,101,69,120,99,101,112,116,105,111,110]⟩⟩), (.str ⟨⟨[66,97,115,101,69,120,99,101,112,116,105,111,110]⟩⟩ 82), (.type "BaseException")⟩, ⟨(PyData.keyHash P ⟨⟨[66,97,115,101,69,120,99,101,112,116,105,111,110,71,114,111,117,112]⟩⟩), (.str ⟨⟨[66,97,115,101,69,120,99,101,112,116,105,111,110,71,114,111,117,112]⟩⟩ 83), (.type "BaseExceptionGroup")⟩, ⟨(PyData.keyHash P ⟨⟨[69,120,99,101,112,116,105,111,110]⟩⟩), (.str ⟨⟨[69,120,99,101,112,116,105,111,110]⟩⟩ 84), (.type "Exception")⟩, ⟨(PyData.keyHash P ⟨⟨[71,101,110,101,114,97,116,111,114,69,120,105,116]⟩⟩), (.str ⟨⟨[71,101,110,101,114,97,116,111,114,69,120,105,116]⟩⟩ 85), (.type "GeneratorExit")⟩, ⟨(PyData.keyHash P ⟨⟨[75,101,121,98,111,97,114,100,73,110,116,101,114,114,117,112,116]⟩⟩), (.str ⟨⟨[75,101,121,98,111,97,114,100,73,110,116,101,114,114,117,112,116]⟩⟩ 86), (.type "KeyboardInterrupt")⟩, ⟨(PyData.keyHash P ⟨⟨[83,121,115,116,101,109,69,120,105,116]⟩⟩), (.str ⟨⟨[83,121,115,116,101,109,69,120,105,116]⟩⟩ 87), (.type "SystemExit")⟩, ⟨(PyData.keyHash P ⟨⟨[65,114,105,116,104,109,101,116,105,99,69,114,114,111,114]⟩⟩), (.str ⟨⟨[65,114,105,116,104,109,101,116,105,99,69,114,114,111,114]⟩⟩ 88), (.type "ArithmeticError")⟩, ⟨(PyData.keyHash P ⟨⟨[65,115,115,101,114,116,105,111,110,69,114,114,111,114]⟩⟩), (.str ⟨⟨[65,115,115,101,114,116,105,111,110,69,114,114,111,114]⟩⟩ 89), (.type "AssertionError")⟩, ⟨(PyData.keyHash P ⟨⟨[65,116,116,114,105,98,117,116,101,69,114,114,111,114]⟩⟩), (.str ⟨⟨[65,116,116,114,105,98,117,116,101,69,114,114,111,114]⟩⟩ 90), (.type "AttributeError")⟩, ⟨(PyData.keyHash P ⟨⟨[66,117,102,102,101,114,69,114,114,111,114]⟩⟩), (.str ⟨⟨[66,117,102,102,101,114,69,114,114,111,114]⟩⟩ 91), (.type "BufferError")⟩, ⟨(PyData.keyHash P ⟨⟨[69,79,70,69,114,114,111,114]⟩⟩), (.str ⟨⟨[69,79,70,69,114,114,111,114]⟩⟩ 92), (.type "EOFError")⟩, ⟨(PyData.keyHash P ⟨⟨[73,109,112,111,114,116,69,114,114,111,114]⟩⟩), (.str ⟨⟨[73,109,112,111,114,116,69,114,114,111,114]⟩⟩ 93), (.type "ImportError")⟩, ⟨(PyData.keyHash P ⟨⟨[76,111,111,107,117,112,69,114,114,111,114]⟩⟩), (.str ⟨⟨[76,111,111,107,117,112,69,114,114,111,114]⟩⟩ 94), (.type "LookupError")⟩, ⟨(PyData.keyHash P ⟨⟨[77,101,109,111,114,121,69,114,114,111,114]⟩⟩), (.str ⟨⟨[77,101,109,111,114,121,69,114,114,111,114]⟩⟩ 95), (.type "MemoryError")⟩, ⟨(PyData.keyHash P ⟨⟨[78,97,109,101,69,114,114,111,114]⟩⟩), (.str ⟨⟨[78,97,109,101,69,114,114,111,114]⟩⟩ 96), (.type "NameError")⟩, ⟨(PyData.keyHash P ⟨⟨[79,83,69,114,114,111,114]⟩⟩), (.str ⟨⟨[79,83,69,114,114,111,114]⟩⟩ 97), (.type "OSError")⟩, ⟨(PyData.keyHash P ⟨⟨[82,101,102,101,114,101,110,99,101,69,114,114,111,114]⟩⟩), (.str ⟨⟨[82,101,102,101,114,101,110,99,101,69,114,114,111,114]⟩⟩ 98), (.type "ReferenceError")⟩, ⟨(PyData.keyHash P ⟨⟨[82,117,110,116,105,109,101,69,114,114,111,114]⟩⟩), (.str ⟨⟨[82,117,110,116,105,109,101,69,114,114,111,114]⟩⟩ 99), (.type "RuntimeError")⟩, ⟨(PyData.keyHash P ⟨⟨[83,116,111,112,65,115,121,110,99,73,116,101,114,97,116,105,111,110]⟩⟩), (.str ⟨⟨[83,116,111,112,65,115,121,110,99,73,116,101,114,97,116,105,111,110]⟩⟩ 100), (.type "StopAsyncIteration")⟩, ⟨(PyData.keyHash P ⟨⟨[83,116,111,112,73,116,101,114,97,116,105,111,110]⟩⟩), (.str ⟨⟨[83,116,111,112,73,116,101,114,97,116,105,111,110]⟩⟩ 101), (.type "StopIteration")⟩, ⟨(PyData.keyHash P ⟨⟨[83,121,110,116,97,120,69,114,114,111,114]⟩⟩), (.str ⟨⟨[83,121,110,116,97,120,69,114,114,111,114]⟩⟩ 102), (.type "SyntaxError")⟩, ⟨(PyData.keyHash P ⟨⟨[83,121,115,116,101,109,69,114,114,111,114]⟩⟩), (.str ⟨⟨[83,121,115,116,101,109,69,114,114,111,114]⟩⟩ 103), (.type "SystemError")⟩, ⟨(PyData.keyHash P ⟨⟨[84,121,112,101,69,114,114,111,114]⟩⟩), (.str ⟨⟨[84,121,112,101,69,114,114,111,114]⟩⟩ 104), (.type "TypeError")⟩, ⟨(PyData.keyHash P ⟨⟨[86,97,108,117,101,69,114,114,111,114]⟩⟩), (.str ⟨⟨[86,97,108,117,101,69,114,114,111,114]⟩⟩ 105), (.type "ValueError")⟩, ⟨(PyData.keyHash P ⟨⟨[87,97,114,110,105,110,103]⟩⟩), (.str ⟨⟨[87,97,114,110,105,110,103]⟩⟩ 106), (.type "Warning")⟩, ⟨(PyData.keyHash P ⟨⟨[70,108,111,97,116,105,110,103,80,111,105,110,116,69,114,114,111,114]⟩⟩), (.str ⟨⟨[70,108,111,97,116,105,110,103,80,111,105,110,116,69,114,114,111,114]⟩⟩ 107), (.type "FloatingPointError")⟩, ⟨(PyData.keyHash P ⟨⟨[79,118,101,114,102,108,111,119,69,114,114,111,114]⟩⟩), (.str ⟨⟨[79,118,101,114,102,108,111,119,69,114,114,111,114]⟩⟩ 108), (.type "OverflowError")⟩, ⟨(PyData.keyHash P ⟨⟨[90,101,114,111,68,105,118,105,115,105,111,110,69,114,114,111,114]⟩⟩), (.str ⟨⟨[90,101,114,111,68,105,118,105,115,105,111,110,69,114,114,111,114]⟩⟩ 109), (.type "ZeroDivisionError")⟩, ⟨(PyData.keyHash P ⟨⟨[66,121,116,101,115,87,97,114,110,105,110,103]⟩⟩), (.str ⟨⟨[66,121,116,101,115,87,97,114,110,105,110,103]⟩⟩ 110), (.type "BytesWarning")⟩, ⟨(PyData.keyHash P ⟨⟨[68,101,112,114,101,99,97,116,105,111,110,87,97,114,110,105,110,103]⟩⟩), (.str ⟨⟨[68,101,112,114,101,99,97,116,105,111,110,87,97,114,110,105,110,103]⟩⟩ 111), (.type "DeprecationWarning")⟩, ⟨(PyData.keyHash P ⟨⟨[69,110,99,111,100,105,110,103,87,97,114,110,105,110,103]⟩⟩), (.str ⟨⟨[69,110,99,111,100,105,110,103,87,97,114,110,105,110,103]⟩⟩ 112), (.type "EncodingWarning")⟩, ⟨(PyData.keyHash P ⟨⟨[70,117,116,117,114,101,87,97,114,110,105,110,103]⟩⟩), (.str ⟨⟨[70,117,116,117,114,101,87,97,114,110,105,110,103]⟩⟩ 113), (.type "FutureWarning")⟩, ⟨(PyData.keyHash P ⟨⟨[73,109,112,111,114,116,87,97,114,110,105,110,103]⟩⟩), (.str ⟨⟨[73,109,112,111,114,116,87,97,114,110,105,110,103]⟩⟩ 114), (.type "ImportWarning")⟩, ⟨(PyData.keyHash P ⟨⟨[80,101,110,100,105,110,103,68,101,112,114,101,99,97,116,105,111,110,87,97,114,110,105,110,103]⟩⟩), (.str ⟨⟨[80,101,110,100,105,110,103,68,101,112,114,101,99,97,116,105,111,110,87,97,114,110,105,110,103]⟩⟩ 115), (.type "PendingDeprecationWarning")⟩, ⟨(PyData.keyHash P ⟨⟨[82,101,115,111,117,114,99,101,87,97,114,110,105,110,103]⟩⟩), (.str ⟨⟨[82,101,115,111,117,114,99,101,87,97,114,110,105,110,103]⟩⟩ 116), (.type "ResourceWarning")⟩, ⟨(PyData.keyHash P ⟨⟨[82,117,110,116,105,109,101,87,97,114,110,105,110,103]⟩⟩), (.str ⟨⟨[82,117,110,116,105,109,101,87,97,114,110,105,110,103]⟩⟩ 117), (.type "RuntimeWarning")⟩, ⟨(PyData.keyHash P ⟨⟨[83,121,110,116,97,120,87,97,114,110,105,110,103]⟩⟩), (.str ⟨⟨[83,121,110,116,97,120,87,97,114,110,105,110,103]⟩⟩ 118), (.type "SyntaxWarning")⟩, ⟨(PyData.keyHash P ⟨⟨[85,110,105,99,111,100,101,87,97,114,110,105,110,103]⟩⟩), (.str ⟨⟨[85,110,105,99,111,100,101,87,97,114,110,105,110,103]⟩⟩ 119), (.type "UnicodeWarning")⟩, ⟨(PyData.keyHash P ⟨⟨[85,115,101,114,87,97,114,110,105,110,103]⟩⟩), (.str ⟨⟨[85,115,101,114,87,97,114,110,105,110,103]⟩⟩ 120), (.type "UserWarning")⟩, ⟨(PyData.keyHash P ⟨⟨[66,108,111,99,107,105,110,103,73,79,69,114,114,111,114]⟩⟩), (.str ⟨⟨[66,108,111,99,107,105,110,103,73,79,69,114,114,111,114]⟩⟩ 121), (.type "BlockingIOError")⟩, ⟨(PyData.keyHash P ⟨⟨[67,104,105,108,100,80,114,111,99,101,115,115,69,114,114,111,114]⟩⟩), (.str ⟨⟨[67,104,105,108,100,80,114,111,99,101,115,115,69,114,114,111,114]⟩⟩ 122), (.type "ChildProcessError")⟩, ⟨(PyData.keyHash P ⟨⟨[67,111,110,110,101,99,116,105,111,110,69,114,114,111,114]⟩⟩), (.str ⟨⟨[67,111,110,110,101,99,116,105,111,110,69,114,114,111,114]⟩⟩ 123), (.type "ConnectionError")⟩, ⟨(PyData.keyHash P ⟨⟨[70,105,108,101,69,120,105,115,116,115,69,114,114,111,114]⟩⟩), (.str ⟨⟨[70,105,108,101,69,120,105,115,116,115,69,114,114,111,114]⟩⟩ 124), (.type "FileExistsError")⟩, ⟨(PyData.keyHash P ⟨⟨[70,105,108,101,78,111,116,70,111,117,110,100,69,114,114,111,114]⟩⟩), (.str ⟨⟨[70,105,108,101,78,111,116,70,111,117,110,100,69,114,114,111,114]⟩⟩ 125), (.type "FileNotFoundError")⟩, ⟨(PyData.keyHash P ⟨⟨[73,110,116,101,114,114,117,112,116,101,100,69,114,114,111,114]⟩⟩), (.str ⟨⟨[73,110,116,101,114,114,117,112,116,101,100,69,114,114,111,114]⟩⟩ 126), (.type "InterruptedError")⟩, ⟨(PyData.keyHash P ⟨⟨[73,115,65,68,105,114,101,99,116,111,114,121,69,114,114,111,114]⟩⟩), (.str ⟨⟨[73,115,65,68,105,114,101,99,116,111,114,121,69,114,114,111,114]⟩⟩ 127), (.type "IsADirectoryError")⟩, ⟨(PyData.keyHash P ⟨⟨[78,111,116,65,68,105,114,101,99,116,111,114,121,69,114,114,111,114]⟩⟩), (.str ⟨⟨[78,111,116,65,68,105,114,101,99,116,111,114,121,69,114,114,111,114]⟩⟩ 128), (.type "NotADirectoryError")⟩, ⟨(PyData.keyHash P ⟨⟨[80,101,114,109,105,115,115,105,111,110,69,114,114,111,114]⟩⟩), (.str ⟨⟨[80,101,114,109,105,115,115,105,111,110,69,114,114,111,114]⟩⟩ 129), (.type "PermissionError")⟩, ⟨(PyData.keyHash P ⟨⟨[80,114,111,99,101,115,115,76,111,111,107,117,112,69,114,114,111,114]⟩⟩), (.str ⟨⟨[80,114,111,99,101,115,115,76,111,111,107,117,112,69,114,114,111,114]⟩⟩ 130), (.type "ProcessLookupError")⟩, ⟨(PyData.keyHash P ⟨⟨[84,105,109,101,111,117,116,69,114,114,111,114]⟩⟩), (.str ⟨⟨[84,105,109,101,111,117,116,69,114,114,111,114]⟩⟩ 131), (.type "TimeoutError")⟩, ⟨(PyData.keyHash P ⟨⟨[73,110,100,101,110,116,97,116,105,111,110,69,114,114,111,114]⟩⟩), (.str ⟨⟨[73,110,100,101,110,116,97,116,105,111,110,69,114,114,111,114]⟩⟩ 132), (.type "IndentationError")⟩, ⟨(PyData.keyHash P ⟨⟨[95,73,110,99,111,109,112,108,101,116,101,73,110,112,117,116,69,114,114,111,114]⟩⟩), (.str ⟨⟨[95,73,110,99,111,109,112,108,101,116,101,73,110,112,117,116,69,114,114,111,114]⟩⟩ 133), (.type "_IncompleteInputError")⟩, ⟨(PyData.keyHash P ⟨⟨[73,110,100,101,120,69,114,114,111,114]⟩⟩), (.str ⟨⟨[73,110,100,101,120,69,114,114,111,114]⟩⟩ 134), (.type "IndexError")⟩, ⟨(PyData.keyHash P ⟨⟨[75,101,121,69,114,114,111,114]⟩⟩), (.str ⟨⟨[75,101,121,69,114,114,111,114]⟩⟩ 135), (.type "KeyError")⟩, ⟨(PyData.keyHash P ⟨⟨[77,111,100,117,108,101,78,111,116,70,111,117,110,100,69,114,114,111,114]⟩⟩), (.str ⟨⟨[77,111,100,117,108,101,78,111,116,70,111,117,110,100,69,114,114,111,114]⟩⟩ 136), (.type "ModuleNotFoundError")⟩, ⟨(PyData.keyHash P ⟨⟨[78,111,116,73,109,112,108,101,109,101,110,116,101,100,69,114,114,111,114]⟩⟩), (.str ⟨⟨[78,111,116,73,109,112,108,101,109,101,110,116,101,100,69,114,114,111,114]⟩⟩ 137), (.type "NotImplementedError")⟩, ⟨(PyData.keyHash P ⟨⟨[80,121,116,104,111,110,70,105,110,97,108,105,122,97,116,105,111,110,69,114,114,111,114]⟩⟩), (.str ⟨⟨[80,121,116,104,111,110,70,105,110,97,108,105,122,97,116,105,111,110,69,114,114,111,114]⟩⟩ 138), (.type "PythonFinalizationError")⟩, ⟨(PyData.keyHash P ⟨⟨[82,101,99,117,114,115,105,111,110,69,114,114,111,114]⟩⟩), (.str ⟨⟨[82,101,99,117,114,115,105,111,110,69,114,114,111,114]⟩⟩ 139), (.type "RecursionError")⟩, ⟨(PyData.keyHash P ⟨⟨[85,110,98,111,117,110,100,76,111,99,97,108,69,114,114,111,114]⟩⟩), (.str ⟨⟨[85,110,98,111,117,110,100,76,111,99,97,108,69,114,114,111,114]⟩⟩ 140), (.type "UnboundLocalError")⟩, ⟨(PyData.keyHash P ⟨⟨[85,110,105,99,111,100,101,69,114,114,111,114]⟩⟩), (.str ⟨⟨[85,110,105,99,111,100,101,69,114,114,111,114]⟩⟩ 141), (.type "UnicodeError")⟩, ⟨(PyData.keyHash P ⟨⟨[66,114,111,107,101,110,80,105,112,101,69,114,114,111,114]⟩⟩), (.str ⟨⟨[66,114,111,107,101,110,80,105,112,101,69,114,114,111,114]⟩⟩ 142), (.type "BrokenPipeError")⟩, ⟨(PyData.keyHash P ⟨⟨[67,111,110,110,101,99,116,105,111,110,65,98,111,114,116,101,100,69,114,114,111,114]⟩⟩), (.str ⟨⟨[67,111,110,110,101,99,116,105,111,110,65,98,111,114,116,101,100,69,114,114,111,114]⟩⟩ 143), (.type "ConnectionAbortedError")⟩, ⟨(PyData.keyHash P ⟨⟨[67,111,110,110,101,99,116,105,111,110,82,101,102,117,115,101,100,69,114,114,111,114]⟩⟩), (.str ⟨⟨[67,111,110,110,101,99,116,105,111,110,82,101,102,117,115,101,100,69,114,114,111,114]⟩⟩ 144), (.type "ConnectionRefusedError")⟩, ⟨(PyData.keyHash P ⟨⟨[67,111,110,110,101,99,116,105,111,110,82,101,115,101,116,69,114,114,111,114]⟩⟩), (.str ⟨⟨[67,111,110,110,101,99,116,105,111,110,82,101,115,101,116,69,114,114,111,114]⟩⟩ 145), (.type "ConnectionResetError")⟩, ⟨(PyData.keyHash P ⟨⟨[84,97,98,69,114,114,111,114]⟩⟩), (.str ⟨⟨[84,97,98,69,114,114,111,114]⟩⟩ 146), (.type "TabError")⟩, ⟨(PyData.keyHash P ⟨⟨[85,110,105,99,111,100,101,68,101,99,111,100,101,69,114,114,111,114]⟩⟩), (.str ⟨⟨[85,110,105,99,111,100,101,68,101,99,111,100,101,69,114,114,111,114]⟩⟩ 147), (.type "UnicodeDecodeError")⟩, ⟨(PyData.keyHash P ⟨⟨[85,110,105,99,111,100,101,69,110,99,111,100,101,69,114,114,111,114]⟩⟩), (.str ⟨⟨[85,110,105,99,111,100,101,69,110,99,111,100,101,69,114,114,111,114]⟩⟩ 148), (.type "UnicodeEncodeError")⟩, ⟨(PyData.keyHash P ⟨⟨[85,110,105,99,111,100,101,84,114,97,110,115,108,97,116,101,69,114,114,111,114]⟩⟩), (.str ⟨⟨[85,110,105,99,111,100,101,84,114,97,110,115,108,97,116,101,69,114,114,111,114]⟩⟩ 149), (.type "UnicodeTranslateError")⟩, ⟨(PyData.keyHash P ⟨⟨[69,120,99,101,112,116,105,111,110,71,114,111,117,112]⟩⟩), (.str ⟨⟨[69,120,99,101,112,116,105,111,110,71,114,111,117,112]⟩⟩ 150), (.type "ExceptionGroup")⟩, ⟨(PyData.keyHash P ⟨⟨[69,110,118,105,114,111,110,109,101,110,116,69,114,114,111,114]⟩⟩), (.str ⟨⟨[69,110,118,105,114,111,110,109,101,110,116,69,114,114,111,114]⟩⟩ 151), (.type "OSError")⟩, ⟨(PyData.keyHash P ⟨⟨[73,79,69,114,114,111,114]⟩⟩), (.str ⟨⟨[73,79,69,114,114,111,114]⟩⟩ 152), (.type "OSError")⟩, ⟨(PyData.keyHash P ⟨⟨[111,112,101,110]⟩⟩), (.str ⟨⟨[111,112,101,110]⟩⟩ 153), (.builtin "open")⟩, ⟨(PyData.keyHash P ⟨⟨[113,117,105,116]⟩⟩), (.str ⟨⟨[113,117,105,116]⟩⟩ 154), (.builtin "builtins.quit#opaque")⟩, ⟨(PyData.keyHash P ⟨⟨[101,120,105,116]⟩⟩), (.str ⟨⟨[101,120,105,116]⟩⟩ 155), (.builtin "builtins.exit#opaque")⟩, ⟨(PyData.keyHash P ⟨⟨[99,111,112,121,114,105,103,104,116]⟩⟩), (.str ⟨⟨[99,111,112,121,114,105,103,104,116]⟩⟩ 156), (.builtin "builtins.copyright#opaque")⟩, ⟨(PyData.keyHash P ⟨⟨[99,114,101,100,105,116,115]⟩⟩), (.str ⟨⟨[99,114,101,100,105,116,115]⟩⟩ 157), (.builtin "builtins.credits#opaque")⟩, ⟨(PyData.keyHash P ⟨⟨[108,105,99,101,110,115,101]⟩⟩), (.str ⟨⟨[108,105,99,101,110,115,101]⟩⟩ 158), (.builtin "builtins.license#opaque")⟩, ⟨(PyData.keyHash P ⟨⟨[104,101,108,112]⟩⟩), (.str ⟨⟨[104,101,108,112]⟩⟩ 159), (.builtin "builtins.help#opaque")⟩]) 159), (List.toArray [])⟩
noncomputable def x1 (P : Params) : Obj := ⟨(.type "dict"), none, (Data.dict (List.toArray [⟨(PyData.keyHash P ⟨⟨[98,117,105,108,116,105,110,115]⟩⟩), (.str ⟨⟨[98,117,105,108,116,105,110,115]⟩⟩ 162), (.ref 4)⟩, ⟨(PyData.keyHash P z160), (.str z160 163), (.ref 5)⟩, ⟨(PyData.keyHash P z161), (.str z161 246), (.ref 13)⟩]) 3), (List.toArray [])⟩
noncomputable def x2 (P : Params) : Obj := ⟨.none, none, (Data.dict (List.toArray [⟨(PyData.keyHash P z162), (.str z162 185), (.bool true)⟩, ⟨(PyData.keyHash P z163), (.str z163 187), (.ref 15)⟩, ⟨(PyData.keyHash P z164), (.str z164 208), (.ref 19)⟩, ⟨(PyData.keyHash P z165), (.str z165 218), (.ref 23)⟩, ⟨(PyData.keyHash P z166), (.str z166 247), (.int 3 0)⟩, ⟨(PyData.keyHash P z167), (.str z167 248), (.bool true)⟩, ⟨(PyData.keyHash P z168), (.str z168 263), (.bool true)⟩, ⟨(PyData.keyHash P z169), (.str z169 265), (.ref 28)⟩, ⟨(PyData.keyHash P z170), (.str z170 0), (.str ⟨⟨[13]⟩⟩ 0)⟩, ⟨(PyData.keyHash P z172), (.str z172 266), (.str ⟨⟨[4,0,0,12,4,0,0,12,4,0,0,3,4,0,0,12,8,4,100,105,99,116,2]⟩⟩ 0)⟩]) 10), (List.toArray [])⟩
noncomputable def x3 (P : Params) : Obj := ⟨(.type "dict"), none, (Data.dict (List.toArray [⟨(PyData.keyHash P z0), (.str z0 165), (.str z160 164)⟩, ⟨(PyData.keyHash P z2), (.str z2 166), .none⟩, ⟨(PyData.keyHash P z3), (.str z3 167), .none⟩, ⟨(PyData.keyHash P z4), (.str z4 168), (.builtin "__main__.__loader__#opaque")⟩, ⟨(PyData.keyHash P z5), (.str z5 169), .none⟩, ⟨(PyData.keyHash P z174), (.str z174 170), (.ref 6)⟩, ⟨(PyData.keyHash P z175), (.str z175 171), (.ref 4)⟩, ⟨(PyData.keyHash P z176), (.str z176 173), (.str z177 172)⟩, ⟨(PyData.keyHash P z178), (.str z178 174), .none⟩, ⟨(PyData.keyHash P z179), (.str z179 272), (.type "collections.deque")⟩]) 10), (List.toArray [])⟩
noncomputable def x4 (_ : Params) : Obj := ⟨(.type "module"), (some 0), Data.plain, (List.toArray [])⟩
noncomputable def x5 (_ : Params) : Obj := ⟨(.type "module"), (some 3), Data.plain, (List.toArray [])⟩
noncomputable def x6 (_ : Params) : Obj := ⟨(.type "dict"), none, (Data.dict (List.toArray []) 0), (List.toArray [])⟩
noncomputable def x7 (_ : Params) : Obj := ⟨(.type "tuple"), none, (Data.seq (List.toArray []) 0), (List.toArray [])⟩
noncomputable def x8 (_ : Params) : Obj := ⟨.none, none, (Data.fields (List.toArray [])), (List.toArray [])⟩
noncomputable def x9 (_ : Params) : Obj := ⟨(.type "code"), none, (Data.fields (List.toArray [(.str z180 176), (.str z180 177), (.str z177 178), (.int 1 0), (.int 0 0), (.int 0 0), (.int 0 0), (.int 0 0), (.ref 7), (.bool false), (.int 175 0), (.ref 8), .none, .none, .none, .none, (.int 179 0), (.int 1 0), (.str z177 180)])), (List.toArray [])⟩
noncomputable def x10 (_ : Params) : Obj := ⟨(.type "frame"), none, Data.plain, (List.toArray [(some (.ref 9)), (some (.ref 3)), (some (.ref 3)), none, (some (.str z160 164)), none, (some (.ref 0))])⟩
noncomputable def x11 (_ : Params) : Obj := ⟨(.type "tuple"), none, (Data.seq (List.toArray [(.str z179 182)]) 0), (List.toArray [])⟩
noncomputable def x12 (P : Params) : Obj := ⟨(.type "dict"), none, (Data.dict (List.toArray [⟨(PyData.keyHash P z0), (.str z0 250), (.str z161 249)⟩, ⟨(PyData.keyHash P z2), (.str z2 251), (.builtin "off-the-table:_collections.__doc__:shared#opaque")⟩, ⟨(PyData.keyHash P z3), (.str z3 253), (.str z181 252)⟩, ⟨(PyData.keyHash P z4), (.str z4 254), (.builtin "off-the-table:_collections.__loader__:shared#opaque")⟩, ⟨(PyData.keyHash P z5), (.str z5 255), (.builtin "off-the-table:_collections.__spec__:shared#opaque")⟩, ⟨(PyData.keyHash P ⟨⟨[95,99,111,117,110,116,95,101,108,101,109,101,110,116,115]⟩⟩), (.str ⟨⟨[95,99,111,117,110,116,95,101,108,101,109,101,110,116,115]⟩⟩ 256), (.builtin "_collections._count_elements")⟩, ⟨(PyData.keyHash P z179), (.str z179 257), (.type "collections.deque")⟩, ⟨(PyData.keyHash P ⟨⟨[100,101,102,97,117,108,116,100,105,99,116]⟩⟩), (.str ⟨⟨[100,101,102,97,117,108,116,100,105,99,116]⟩⟩ 258), (.type "collections.defaultdict")⟩, ⟨(PyData.keyHash P ⟨⟨[95,100,101,113,117,101,95,105,116,101,114,97,116,111,114]⟩⟩), (.str ⟨⟨[95,100,101,113,117,101,95,105,116,101,114,97,116,111,114]⟩⟩ 259), (.builtin "off-the-table:_collections._deque_iterator:shared#opaque")⟩, ⟨(PyData.keyHash P ⟨⟨[95,100,101,113,117,101,95,114,101,118,101,114,115,101,95,105,116,101,114,97,116,111,114]⟩⟩), (.str ⟨⟨[95,100,101,113,117,101,95,114,101,118,101,114,115,101,95,105,116,101,114,97,116,111,114]⟩⟩ 260), (.builtin "off-the-table:_collections._deque_reverse_iterator:shared#opaque")⟩, ⟨(PyData.keyHash P ⟨⟨[95,116,117,112,108,101,103,101,116,116,101,114]⟩⟩), (.str ⟨⟨[95,116,117,112,108,101,103,101,116,116,101,114]⟩⟩ 261), (.type "collections._tuplegetter")⟩, ⟨(PyData.keyHash P ⟨⟨[79,114,100,101,114,101,100,68,105,99,116]⟩⟩), (.str ⟨⟨[79,114,100,101,114,101,100,68,105,99,116]⟩⟩ 262), (.type "collections.OrderedDict")⟩]) 12), (List.toArray [])⟩
noncomputable def x13 (_ : Params) : Obj := ⟨(.type "module"), (some 12), Data.plain, (List.toArray [])⟩
noncomputable def x14 (P : Params) : Obj := ⟨(.type "dict"), none, (Data.dict (List.toArray [⟨(PyData.keyHash P z188), (.str z188 191), (.str ⟨⟨[95,102,114,111,122,101,110,95,105,109,112,111,114,116,108,105,98]⟩⟩ 188)⟩, ⟨(PyData.keyHash P z190), (.str z190 192), (.int 971 189)⟩, ⟨(PyData.keyHash P z2), (.str z2 193), (.builtin "_frozen_importlib.BuiltinImporter.__doc__:str#opaque")⟩, ⟨(PyData.keyHash P ⟨⟨[95,79,82,73,71,73,78]⟩⟩), (.str ⟨⟨[95,79,82,73,71,73,78]⟩⟩ 194), (.str ⟨⟨[98,117,105,108,116,45,105,110]⟩⟩ 190)⟩, ⟨(PyData.keyHash P ⟨⟨[102,105,110,100,95,115,112,101,99]⟩⟩), (.str ⟨⟨[102,105,110,100,95,115,112,101,99]⟩⟩ 195), (.builtin "_frozen_importlib.BuiltinImporter.find_spec#opaque")⟩, ⟨(PyData.keyHash P ⟨⟨[99,114,101,97,116,101,95,109,111,100,117,108,101]⟩⟩), (.str ⟨⟨[99,114,101,97,116,101,95,109,111,100,117,108,101]⟩⟩ 196), (.builtin "_frozen_importlib.BuiltinImporter.create_module#opaque")⟩, ⟨(PyData.keyHash P ⟨⟨[101,120,101,99,95,109,111,100,117,108,101]⟩⟩), (.str ⟨⟨[101,120,101,99,95,109,111,100,117,108,101]⟩⟩ 197), (.builtin "_frozen_importlib.BuiltinImporter.exec_module#opaque")⟩, ⟨(PyData.keyHash P ⟨⟨[103,101,116,95,99,111,100,101]⟩⟩), (.str ⟨⟨[103,101,116,95,99,111,100,101]⟩⟩ 198), (.builtin "_frozen_importlib.BuiltinImporter.get_code#opaque")⟩, ⟨(PyData.keyHash P ⟨⟨[103,101,116,95,115,111,117,114,99,101]⟩⟩), (.str ⟨⟨[103,101,116,95,115,111,117,114,99,101]⟩⟩ 199), (.builtin "_frozen_importlib.BuiltinImporter.get_source#opaque")⟩, ⟨(PyData.keyHash P ⟨⟨[105,115,95,112,97,99,107,97,103,101]⟩⟩), (.str ⟨⟨[105,115,95,112,97,99,107,97,103,101]⟩⟩ 200), (.builtin "_frozen_importlib.BuiltinImporter.is_package#opaque")⟩, ⟨(PyData.keyHash P ⟨⟨[108,111,97,100,95,109,111,100,117,108,101]⟩⟩), (.str ⟨⟨[108,111,97,100,95,109,111,100,117,108,101]⟩⟩ 201), (.builtin "_frozen_importlib.BuiltinImporter.load_module#opaque")⟩, ⟨(PyData.keyHash P z200), (.str z200 202), (.ref 16)⟩, ⟨(PyData.keyHash P z201), (.str z201 204), (.ref 17)⟩, ⟨(PyData.keyHash P z202), (.str z202 206), (.ref 18)⟩]) 14), (List.toArray [])⟩
noncomputable def x15 (_ : Params) : Obj := ⟨(.type "type"), none, (Data.cls ⟨⟨⟨[66,117,105,108,116,105,110,73,109,112,111,114,116,101,114]⟩⟩, [(.type "object")], [(.ref 15), (.type "object")], 14, ⟨⟨[66,117,105,108,116,105,110,73,109,112,111,114,116,101,114]⟩⟩, true, [], [], false, none, false⟩), (List.toArray [])⟩
noncomputable def x16 (_ : Params) : Obj := ⟨(.type "getset_descriptor"), none, (Data.fields (List.toArray [(.str z201 203), (.ref 15), (.builtin "function.__dict__"), (.builtin "function.__dict__#set")])), (List.toArray [])⟩
noncomputable def x17 (_ : Params) : Obj := ⟨(.type "getset_descriptor"), none, (Data.fields (List.toArray [(.str z202 205), (.ref 15), (.builtin "ExceptionGroup.__weakref__"), .none])), (List.toArray [])⟩
noncomputable def x18 (_ : Params) : Obj := ⟨.none, none, (Data.seq (List.toArray [(.int 14 0), (.str ⟨⟨[6,191,10,95,95,109,111,100,117,108,101,95,95,6,188,17,95,102,114,111,122,101,110,95,105,109,112,111,114,116,108,105,98,6,192,15,95,95,102,105,114,115,116,108,105,110,101,110,111,95,95,4,189,0,971,6,193,7,95,95,100,111,99,95,95,9,52,95,102,114,111,122,101,110,95,105,109,112,111,114,116,108,105,98,46,66,117,105,108,116,105,110,73,109,112,111,114,116,101,114,46,95,95,100,111,99,95,95,58,115,116,114,35,111,112,97,113,117,101,6,194,7,95,79,82,73,71,73,78,6,190,8,98,117,105,108,116,45,105,110,6,195,9,102,105,110,100,95,115,112,101,99,9,50,95,102,114,111,122,101,110,95,105,109,112,111,114,116,108,105,98,46,66,117,105,108,116,105,110,73,109,112,111,114,116,101,114,46,102,105,110,100,95,115,112,101,99,35,111,112,97,113,117,101,6,196,13,99,114,101,97,116,101,95,109,111,100,117,108,101,9,54,95,102,114,111,122,101,110,95,105,109,112,111,114,116,108,105,98,46,66,117,105,108,116,105,110,73,109,112,111,114,116,101,114,46,99,114,101,97,116,101,95,109,111,100,117,108,101,35,111,112,97,113,117,101,6,197,11,101,120,101,99,95,109,111,100,117,108,101,9,52,95,102,114,111,122,101,110,95,105,109,112,111,114,116,108,105,98,46,66,117,105,108,116,105,110,73,109,112,111,114,116,101,114,46,101,120,101,99,95,109,111,100,117,108,101,35,111,112,97,113,117,101,6,198,8,103,101,116,95,99,111,100,101,9,49,95,102,114,111,122,101,110,95,105,109,112,111,114,116,108,105,98,46,66,117,105,108,116,105,110,73,109,112,111,114,116,101,114,46,103,101,116,95,99,111,100,101,35,111,112,97,113,117,101,6,199,10,103,101,116,95,115,111,117,114,99,101,9,51,95,102,114,111,122,101,110,95,105,109,112,111,114,116,108,105,98,46,66,117,105,108,116,105,110,73,109,112,111,114,116,101,114,46,103,101,116,95,115,111,117,114,99,101,35,111,112,97,113,117,101,6,200,10,105,115,95,112,97,99,107,97,103,101,9,51,95,102,114,111,122,101,110,95,105,109,112,111,114,116,108,105,98,46,66,117,105,108,116,105,110,73,109,112,111,114,116,101,114,46,105,115,95,112,97,99,107,97,103,101,35,111,112,97,113,117,101,6,201,11,108,111,97,100,95,109,111,100,117,108,101,9,52,95,102,114,111,122,101,110,95,105,109,112,111,114,116,108,105,98,46,66,117,105,108,116,105,110,73,109,112,111,114,116,101,114,46,108,111,97,100,95,109,111,100,117,108,101,35,111,112,97,113,117,101,6,202,21,95,95,115,116,97,116,105,99,95,97,116,116,114,105,98,117,116,101,115,95,95,4,0,0,16,6,204,8,95,95,100,105,99,116,95,95,4,0,0,17,6,206,11,95,95,119,101,97,107,114,101,102,95,95,4,0,0,18]⟩⟩ 0), (.bool true), (.bool true), (.str z181 207), (.int 22 0), (.str ⟨⟨[6,229,10,95,95,109,111,100,117,108,101,95,95,6,219,17,95,102,114,111,122,101,110,95,105,109,112,111,114,116,108,105,98,6,230,15,95,95,102,105,114,115,116,108,105,110,101,110,111,95,95,4,220,0,562,6,231,7,95,95,100,111,99,95,95,9,47,95,102,114,111,122,101,110,95,105,109,112,111,114,116,108,105,98,46,77,111,100,117,108,101,83,112,101,99,46,95,95,100,111,99,95,95,58,115,116,114,35,111,112,97,113,117,101,6,232,8,95,95,105,110,105,116,95,95,9,44,95,102,114,111,122,101,110,95,105,109,112,111,114,116,108,105,98,46,77,111,100,117,108,101,83,112,101,99,46,95,95,105,110,105,116,95,95,35,111,112,97,113,117,101,6,233,8,95,95,114,101,112,114,95,95,9,44,95,102,114,111,122,101,110,95,105,109,112,111,114,116,108,105,98,46,77,111,100,117,108,101,83,112,101,99,46,95,95,114,101,112,114,95,95,35,111,112,97,113,117,101,6,234,6,95,95,101,113,95,95,9,42,95,102,114,111,122,101,110,95,105,109,112,111,114,116,108,105,98,46,77,111,100,117,108,101,83,112,101,99,46,95,95,101,113,95,95,35,111,112,97,113,117,101,6,235,6,99,97,99,104,101,100,9,42,95,102,114,111,122,101,110,95,105,109,112,111,114,116,108,105,98,46,77,111,100,117,108,101,83,112,101,99,46,99,97,99,104,101,100,35,111,112,97,113,117,101,6,236,6,112,97,114,101,110,116,9,42,95,102,114,111,122,101,110,95,105,109,112,111,114,116,108,105,98,46,77,111,100,117,108,101,83,112,101,99,46,112,97,114,101,110,116,35,111,112,97,113,117,101,6,237,12,104,97,115,95,108,111,99,97,116,105,111,110,9,48,95,102,114,111,122,101,110,95,105,109,112,111,114,116,108,105,98,46,77,111,100,117,108,101,83,112,101,99,46,104,97,115,95,108,111,99,97,116,105,111,110,35,111,112,97,113,117,101,6,238,21,95,95,115,116,97,116,105,99,95,97,116,116,114,105,98,117,116,101,115,95,95,4,0,0,24,6,240,8,95,95,100,105,99,116,95,95,4,0,0,25,6,242,11,95,95,119,101,97,107,114,101,102,95,95,4,0,0,26,6,243,8,95,95,104,97,115,104,95,95,0]⟩⟩ 0), (.bool true), (.bool true), (.str z181 244)]) 1), (List.toArray [])⟩
noncomputable def x19 (_ : Params) : Obj := ⟨(.type "list"), none, (Data.seq (List.toArray []) 0), (List.toArray [])⟩
noncomputable def x20 (P : Params) : Obj := ⟨(.type "dict"), none, (Data.dict (List.toArray [⟨(PyData.keyHash P z206), (.str z206 210), (.str z161 209)⟩, ⟨(PyData.keyHash P ⟨⟨[108,111,97,100,101,114]⟩⟩), (.str ⟨⟨[108,111,97,100,101,114]⟩⟩ 211), (.ref 15)⟩, ⟨(PyData.keyHash P ⟨⟨[111,114,105,103,105,110]⟩⟩), (.str ⟨⟨[111,114,105,103,105,110]⟩⟩ 212), (.str ⟨⟨[98,117,105,108,116,45,105,110]⟩⟩ 186)⟩, ⟨(PyData.keyHash P ⟨⟨[108,111,97,100,101,114,95,115,116,97,116,101]⟩⟩), (.str ⟨⟨[108,111,97,100,101,114,95,115,116,97,116,101]⟩⟩ 213), .none⟩, ⟨(PyData.keyHash P ⟨⟨[115,117,98,109,111,100,117,108,101,95,115,101,97,114,99,104,95,108,111,99,97,116,105,111,110,115]⟩⟩), (.str ⟨⟨[115,117,98,109,111,100,117,108,101,95,115,101,97,114,99,104,95,108,111,99,97,116,105,111,110,115]⟩⟩ 214), .none⟩, ⟨(PyData.keyHash P ⟨⟨[95,117,110,105,110,105,116,105,97,108,105,122,101,100,95,115,117,98,109,111,100,117,108,101,115]⟩⟩), (.str ⟨⟨[95,117,110,105,110,105,116,105,97,108,105,122,101,100,95,115,117,98,109,111,100,117,108,101,115]⟩⟩ 215), (.ref 20)⟩, ⟨(PyData.keyHash P ⟨⟨[95,115,101,116,95,102,105,108,101,97,116,116,114]⟩⟩), (.str ⟨⟨[95,115,101,116,95,102,105,108,101,97,116,116,114]⟩⟩ 216), (.bool false)⟩, ⟨(PyData.keyHash P ⟨⟨[95,99,97,99,104,101,100]⟩⟩), (.str ⟨⟨[95,99,97,99,104,101,100]⟩⟩ 217), .none⟩, ⟨(PyData.keyHash P ⟨⟨[95,105,110,105,116,105,97,108,105,122,105,110,103]⟩⟩), (.str ⟨⟨[95,105,110,105,116,105,97,108,105,122,105,110,103]⟩⟩ 245), (.bool false)⟩]) 9), (List.toArray [])⟩
noncomputable def x21 (P : Params) : Obj := ⟨(.type "dict"), none, (Data.dict (List.toArray [⟨(PyData.keyHash P z188), (.str z188 229), (.str ⟨⟨[95,102,114,111,122,101,110,95,105,109,112,111,114,116,108,105,98]⟩⟩ 219)⟩, ⟨(PyData.keyHash P z190), (.str z190 230), (.int 562 220)⟩, ⟨(PyData.keyHash P z2), (.str z2 231), (.builtin "_frozen_importlib.ModuleSpec.__doc__:str#opaque")⟩, ⟨(PyData.keyHash P z215), (.str z215 232), (.builtin "_frozen_importlib.ModuleSpec.__init__#opaque")⟩, ⟨(PyData.keyHash P z216), (.str z216 233), (.builtin "_frozen_importlib.ModuleSpec.__repr__#opaque")⟩, ⟨(PyData.keyHash P ⟨⟨[95,95,101,113,95,95]⟩⟩), (.str ⟨⟨[95,95,101,113,95,95]⟩⟩ 234), (.builtin "_frozen_importlib.ModuleSpec.__eq__#opaque")⟩, ⟨(PyData.keyHash P ⟨⟨[99,97,99,104,101,100]⟩⟩), (.str ⟨⟨[99,97,99,104,101,100]⟩⟩ 235), (.builtin "_frozen_importlib.ModuleSpec.cached#opaque")⟩, ⟨(PyData.keyHash P ⟨⟨[112,97,114,101,110,116]⟩⟩), (.str ⟨⟨[112,97,114,101,110,116]⟩⟩ 236), (.builtin "_frozen_importlib.ModuleSpec.parent#opaque")⟩, ⟨(PyData.keyHash P ⟨⟨[104,97,115,95,108,111,99,97,116,105,111,110]⟩⟩), (.str ⟨⟨[104,97,115,95,108,111,99,97,116,105,111,110]⟩⟩ 237), (.builtin "_frozen_importlib.ModuleSpec.has_location#opaque")⟩, ⟨(PyData.keyHash P z200), (.str z200 238), (.ref 24)⟩, ⟨(PyData.keyHash P z201), (.str z201 240), (.ref 25)⟩, ⟨(PyData.keyHash P z202), (.str z202 242), (.ref 26)⟩, ⟨(PyData.keyHash P ⟨⟨[95,95,104,97,115,104,95,95]⟩⟩), (.str ⟨⟨[95,95,104,97,115,104,95,95]⟩⟩ 243), .none⟩]) 13), (List.toArray [])⟩
noncomputable def x22 (_ : Params) : Obj := ⟨(.type "type"), none, (Data.cls ⟨⟨⟨[77,111,100,117,108,101,83,112,101,99]⟩⟩, [(.type "object")], [(.ref 23), (.type "object")], 22, ⟨⟨[77,111,100,117,108,101,83,112,101,99]⟩⟩, true, [], [], false, none, false⟩), (List.toArray [])⟩
noncomputable def x23 (_ : Params) : Obj := ⟨(.type "tuple"), none, (Data.seq (List.toArray [(.str ⟨⟨[95,99,97,99,104,101,100]⟩⟩ 221), (.str ⟨⟨[95,115,101,116,95,102,105,108,101,97,116,116,114]⟩⟩ 222), (.str ⟨⟨[95,117,110,105,110,105,116,105,97,108,105,122,101,100,95,115,117,98,109,111,100,117,108,101,115]⟩⟩ 223), (.str ⟨⟨[108,111,97,100,101,114]⟩⟩ 224), (.str ⟨⟨[108,111,97,100,101,114,95,115,116,97,116,101]⟩⟩ 225), (.str z206 226), (.str ⟨⟨[111,114,105,103,105,110]⟩⟩ 227), (.str ⟨⟨[115,117,98,109,111,100,117,108,101,95,115,101,97,114,99,104,95,108,111,99,97,116,105,111,110,115]⟩⟩ 228)]) 0), (List.toArray [])⟩
noncomputable def x24 (_ : Params) : Obj := ⟨(.type "getset_descriptor"), none, (Data.fields (List.toArray [(.str z201 239), (.ref 23), (.builtin "function.__dict__"), (.builtin "function.__dict__#set")])), (List.toArray [])⟩
noncomputable def x25 (_ : Params) : Obj := ⟨(.type "getset_descriptor"), none, (Data.fields (List.toArray [(.str z202 241), (.ref 23), (.builtin "ExceptionGroup.__weakref__"), .none])), (List.toArray [])⟩
noncomputable def x26 (_ : Params) : Obj := ⟨(.ref 23), (some 21), Data.plain, (List.toArray [])⟩
noncomputable def x27 (_ : Params) : Obj := ⟨.none, none, (Data.seq (List.toArray [(.int 12 0), (.str ⟨⟨[6,250,8,95,95,110,97,109,101,95,95,6,249,12,95,99,111,108,108,101,99,116,105,111,110,115,6,251,7,95,95,100,111,99,95,95,9,31,95,99,111,108,108,101,99,116,105,111,110,115,46,95,95,100,111,99,95,95,58,115,116,114,35,111,112,97,113,117,101,6,253,11,95,95,112,97,99,107,97,103,101,95,95,6,252,0,6,254,10,95,95,108,111,97,100,101,114,95,95,4,0,0,15,6,255,8,95,95,115,112,101,99,95,95,4,0,0,27,6,256,15,95,99,111,117,110,116,95,101,108,101,109,101,110,116,115,9,28,95,99,111,108,108,101,99,116,105,111,110,115,46,95,99,111,117,110,116,95,101,108,101,109,101,110,116,115,6,257,5,100,101,113,117,101,8,17,99,111,108,108,101,99,116,105,111,110,115,46,100,101,113,117,101,6,258,11,100,101,102,97,117,108,116,100,105,99,116,8,23,99,111,108,108,101,99,116,105,111,110,115,46,100,101,102,97,117,108,116,100,105,99,116,6,259,15,95,100,101,113,117,101,95,105,116,101,114,97,116,111,114,8,27,99,111,108,108,101,99,116,105,111,110,115,46,95,100,101,113,117,101,95,105,116,101,114,97,116,111,114,6,260,23,95,100,101,113,117,101,95,114,101,118,101,114,115,101,95,105,116,101,114,97,116,111,114,8,35,99,111,108,108,101,99,116,105,111,110,115,46,95,100,101,113,117,101,95,114,101,118,101,114,115,101,95,105,116,101,114,97,116,111,114,6,261,12,95,116,117,112,108,101,103,101,116,116,101,114,8,24,99,111,108,108,101,99,116,105,111,110,115,46,95,116,117,112,108,101,103,101,116,116,101,114,6,262,11,79,114,100,101,114,101,100,68,105,99,116,8,23,99,111,108,108,101,99,116,105,111,110,115,46,79,114,100,101,114,101,100,68,105,99,116]⟩⟩ 0), (.bool true), (.bool false), (.str z161 264)]) 0), (List.toArray [])⟩
noncomputable def x28 (P : Params) : Obj := ⟨.none, none, (Data.dict (List.toArray [⟨(PyData.keyHash P z162), (.str z162 185), (.bool true)⟩, ⟨(PyData.keyHash P z163), (.str z163 187), (.ref 15)⟩, ⟨(PyData.keyHash P z164), (.str z164 208), (.ref 19)⟩, ⟨(PyData.keyHash P z165), (.str z165 218), (.ref 23)⟩, ⟨(PyData.keyHash P z166), (.str z166 247), (.int 3 0)⟩, ⟨(PyData.keyHash P z167), (.str z167 248), (.bool true)⟩, ⟨(PyData.keyHash P z168), (.str z168 263), (.bool true)⟩, ⟨(PyData.keyHash P z169), (.str z169 265), (.ref 28)⟩, ⟨(PyData.keyHash P z170), (.str z170 0), (.str ⟨⟨[13]⟩⟩ 0)⟩, ⟨(PyData.keyHash P z172), (.str z172 266), (.str ⟨⟨[4,0,0,12,4,0,0,12,4,0,0,3,4,0,0,12,8,4,100,105,99,116,2]⟩⟩ 0)⟩, ⟨(PyData.keyHash P ⟨⟨[116,121,112,101,46,95,95,115,117,98,99,108,97,115,115,101,115,95,95,46,79,83,69,114,114,111,114,46,48]⟩⟩), (.str ⟨⟨[116,121,112,101,46,95,95,115,117,98,99,108,97,115,115,101,115,95,95,46,79,83,69,114,114,111,114,46,48]⟩⟩ 332), (.int 70 0)⟩, ⟨(PyData.keyHash P ⟨⟨[116,121,112,101,46,95,95,115,117,98,99,108,97,115,115,101,115,95,95,46,79,83,69,114,114,111,114,46,110]⟩⟩), (.str ⟨⟨[116,121,112,101,46,95,95,115,117,98,99,108,97,115,115,101,115,95,95,46,79,83,69,114,114,111,114,46,110]⟩⟩ 333), (.int 1 0)⟩]) 12), (List.toArray [])⟩
noncomputable def x29 (P : Params) : Obj := ⟨(.type "dict"), none, (Data.dict (List.toArray [⟨(PyData.keyHash P z0), (.str z0 165), (.str z226 1162)⟩, ⟨(PyData.keyHash P z2), (.str z2 166), .none⟩, ⟨(PyData.keyHash P z3), (.str z3 167), .none⟩, ⟨(PyData.keyHash P z4), (.str z4 168), (.builtin "__main__.__loader__#opaque")⟩, ⟨(PyData.keyHash P z5), (.str z5 169), .none⟩, ⟨(PyData.keyHash P z174), (.str z174 170), (.ref 6)⟩, ⟨(PyData.keyHash P z175), (.str z175 171), (.ref 4)⟩, ⟨(PyData.keyHash P z176), (.str z176 173), (.str z177 172)⟩, ⟨(PyData.keyHash P z178), (.str z178 174), .none⟩, ⟨(PyData.keyHash P z179), (.str z179 272), (.type "collections.deque")⟩, ⟨(PyData.keyHash P z227), (.str z227 285), (.ref 39)⟩, ⟨(PyData.keyHash P z228), (.str z228 295), (.ref 46)⟩, ⟨(PyData.keyHash P z229), (.str z229 305), (.ref 53)⟩, ⟨(PyData.keyHash P z230), (.str z230 313), (.ref 60)⟩, ⟨(PyData.keyHash P z231), (.str z231 335), (.ref 70)⟩, ⟨(PyData.keyHash P z232), (.str z232 367), (.ref 90)⟩, ⟨(PyData.keyHash P z233), (.str z233 385), (.ref 105)⟩, ⟨(PyData.keyHash P z234), (.str z234 403), (.ref 117)⟩, ⟨(PyData.keyHash P z235), (.str z235 665), (.ref 347)⟩, ⟨(PyData.keyHash P z236), (.str z236 952), (.ref 594)⟩, ⟨(PyData.keyHash P z237), (.str z237 963), (.ref 603)⟩, ⟨(PyData.keyHash P z238), (.str z238 972), (.ref 610)⟩, ⟨(PyData.keyHash P z239), (.str z239 982), (.ref 617)⟩, ⟨(PyData.keyHash P z240), (.str z240 989), (.ref 624)⟩, ⟨(PyData.keyHash P z241), (.str z241 1000), (.ref 631)⟩, ⟨(PyData.keyHash P z242), (.str z242 1010), (.ref 638)⟩, ⟨(PyData.keyHash P z243), (.str z243 1151), (.ref 729)⟩, ⟨(PyData.keyHash P z244), (.str z244 1161), (.ref 741)⟩, ⟨(PyData.keyHash P z245), (.str z245 1172), (.ref 748)⟩, ⟨(PyData.keyHash P z246), (.str z246 1178), (.ref 753)⟩, ⟨(PyData.keyHash P z247), (.str z247 1189), (.ref 760)⟩, ⟨(PyData.keyHash P z248), (.str z248 1197), (.ref 767)⟩, ⟨(PyData.keyHash P z249), (.str z249 1210), (.ref 774)⟩, ⟨(PyData.keyHash P z250), (.str z250 1216), (.ref 779)⟩]) 34), (List.toArray [])⟩
noncomputable def x30 (_ : Params) : Obj := ⟨.none, none, (Data.fields (List.toArray [(.int 2 0), (.int 0 0), (.ref 38), (.int 6 0), (.int 0 0), (.ref 45), (.int 12 0), (.int 0 0), (.ref 52), (.int 17 0), (.int 0 0), (.ref 59), (.int 24 0), (.int 0 0), (.ref 66), (.int 26 0), (.int 0 0), (.ref 79), (.int 33 0), (.int 0 0), (.ref 101), (.int 35 0), (.int 0 0), (.ref 113), (.int 37 0), (.int 0 0), (.ref 125), (.int 207 0), (.int 0 0), (.ref 355), (.int 413 0), (.int 0 0), (.ref 602), (.int 434 0), (.int 0 0), (.ref 609), (.int 439 0), (.int 0 0), (.ref 616), (.int 444 0), (.int 0 0), (.ref 623), (.int 447 0), (.int 0 0), (.ref 630), (.int 467 0), (.int 0 0), (.ref 637), (.int 476 0), (.int 0 0), (.ref 644), (.int 728 0), (.int 0 0), (.ref 740), (.int 737 0), (.int 0 0), (.ref 747), (.int 742 0), (.int 0 0), (.ref 752), (.int 749 0), (.int 0 0), (.ref 759), (.int 766 0), (.int 0 0), (.ref 766), (.int 771 0), (.int 0 0), (.ref 773), (.int 780 0), (.int 0 0), (.ref 778)])), (List.toArray [])⟩
noncomputable def x31 (_ : Params) : Obj := ⟨(.type "code"), none, (Data.fields (List.toArray [(.str z180 274), (.str z180 275), (.str z177 276), (.int 1 0), (.int 0 0), (.int 0 0), (.int 0 0), (.int 0 0), (.ref 29), (.bool false), (.int 273 0), (.ref 30), .none, .none, .none, .none, (.int 277 0), (.int 1 0), (.str z177 278)])), (List.toArray [])⟩
noncomputable def x32 (_ : Params) : Obj := ⟨(.type "frame"), none, Data.plain, (List.toArray [(some (.ref 31)), (some (.ref 3)), (some (.ref 3)), none, (some (.str z160 164)), none, (some (.ref 0))])⟩
noncomputable def x33 (_ : Params) : Obj := ⟨(.type "tuple"), none, (Data.seq (List.toArray [(.str ⟨⟨[107]⟩⟩ 282)]) 0), (List.toArray [])⟩
noncomputable def x34 (_ : Params) : Obj := ⟨.none, none, (Data.func ⟨z227, z227, (qA (qT 1)), (FuncBody.stmts (qB (qT 1))), (qS (qT 1)), 0, [], .none, .none, .none, .none, none, .none, .none, 0⟩), (List.toArray [])⟩
noncomputable def x35 (_ : Params) : Obj := ⟨(.type "code"), none, (Data.fields (List.toArray [(.str z227 279), (.str z227 280), (.str z177 281), (.int 2 0), (.int 1 0), (.int 0 0), (.int 0 0), (.int 3 0), (.ref 33), (.bool true), (.int 273 0), (.ref 34), .none, (.ref 35), (.ref 36), (.ref 37), (.int 283 0), (.int 2 0), (.str z177 284)])), (List.toArray [])⟩
noncomputable def x36 (_ : Params) : Obj := ⟨(.type "function"), none, (Data.func ⟨z227, z227, (qA (qT 1)), (FuncBody.stmts (qB (qT 1))), (qS (qT 1)), 3, [], .none, .none, .none, (.str z160 164), none, (.ref 38), .none, 0⟩), (List.toArray [])⟩
noncomputable def x37 (_ : Params) : Obj := ⟨(.type "tuple"), none, (Data.seq (List.toArray [(.str z252 291), (.str ⟨⟨[112,97,105,114,115]⟩⟩ 292)]) 0), (List.toArray [])⟩
noncomputable def x38 (_ : Params) : Obj := ⟨.none, none, (Data.func ⟨z228, z228, (qA (qT 3)), (FuncBody.stmts (qB (qT 3))), (qS (qT 3)), 0, [], .none, .none, .none, .none, none, .none, .none, 0⟩), (List.toArray [])⟩
noncomputable def x39 (_ : Params) : Obj := ⟨(.type "code"), none, (Data.fields (List.toArray [(.str z228 288), (.str z228 289), (.str z177 290), (.int 6 0), (.int 1 0), (.int 0 0), (.int 0 0), (.int 7 0), (.ref 40), (.bool true), (.int 273 0), (.ref 41), .none, (.ref 42), (.ref 43), (.ref 44), (.int 293 0), (.int 6 0), (.str z177 294)])), (List.toArray [])⟩
noncomputable def x40 (_ : Params) : Obj := ⟨(.type "function"), none, (Data.func ⟨z228, z228, (qA (qT 3)), (FuncBody.stmts (qB (qT 3))), (qS (qT 3)), 3, [], .none, .none, .none, (.str ⟨⟨[99,112,121,51,49,51,46,112,121,100,111,99]⟩⟩ 286), none, (.ref 45), .none, 0⟩), (List.toArray [])⟩
noncomputable def x41 (_ : Params) : Obj := ⟨(.type "tuple"), none, (Data.seq (List.toArray [(.str z255 301), (.str ⟨⟨[119,104,97,116]⟩⟩ 302)]) 0), (List.toArray [])⟩
noncomputable def x42 (_ : Params) : Obj := ⟨.none, none, (Data.func ⟨z229, z229, (qA (qT 5)), (FuncBody.stmts (qB (qT 5))), (qS (qT 5)), 0, [], .none, .none, .none, .none, none, .none, .none, 0⟩), (List.toArray [])⟩
noncomputable def x43 (_ : Params) : Obj := ⟨(.type "code"), none, (Data.fields (List.toArray [(.str z229 298), (.str z229 299), (.str z177 300), (.int 12 0), (.int 2 0), (.int 0 0), (.int 0 0), (.int 3 0), (.ref 47), (.bool true), (.int 273 0), (.ref 48), .none, (.ref 49), (.ref 50), (.ref 51), (.int 303 0), (.int 12 0), (.str z177 304)])), (List.toArray [])⟩
noncomputable def x44 (_ : Params) : Obj := ⟨(.type "function"), none, (Data.func ⟨z229, z229, (qA (qT 5)), (FuncBody.stmts (qB (qT 5))), (qS (qT 5)), 3, [], .none, .none, .none, (.str z257 296), none, (.ref 52), .none, 0⟩), (List.toArray [])⟩
noncomputable def x45 (_ : Params) : Obj := ⟨(.type "tuple"), none, (Data.seq (List.toArray [(.str z255 309), (.str ⟨⟨[119,104,97,116]⟩⟩ 310)]) 0), (List.toArray [])⟩
noncomputable def x46 (_ : Params) : Obj := ⟨.none, none, (Data.func ⟨z230, z230, (qA (qT 6)), (FuncBody.stmts (qB (qT 6))), (qS (qT 6)), 0, [], .none, .none, .none, .none, none, .none, .none, 0⟩), (List.toArray [])⟩
noncomputable def x47 (_ : Params) : Obj := ⟨(.type "code"), none, (Data.fields (List.toArray [(.str z230 306), (.str z230 307), (.str z177 308), (.int 17 0), (.int 2 0), (.int 0 0), (.int 0 0), (.int 3 0), (.ref 54), (.bool true), (.int 273 0), (.ref 55), .none, (.ref 56), (.ref 57), (.ref 58), (.int 311 0), (.int 17 0), (.str z177 312)])), (List.toArray [])⟩
noncomputable def x48 (_ : Params) : Obj := ⟨(.type "function"), none, (Data.func ⟨z230, z230, (qA (qT 6)), (FuncBody.stmts (qB (qT 6))), (qS (qT 6)), 3, [], .none, .none, .none, (.str z257 296), none, (.ref 59), .none, 0⟩), (List.toArray [])⟩
noncomputable def x49 (_ : Params) : Obj := ⟨(.type "tuple"), none, (Data.seq (List.toArray [(.type "OSError"), (.type "ValueError")]) 0), (List.toArray [])⟩
noncomputable def x50 (_ : Params) : Obj := ⟨(.type "builtin_function_or_method"), none, (Data.fields (List.toArray [(.builtin "type.__prepare__"), (.type "type")])), (List.toArray [])⟩
noncomputable def x51 (P : Params) : Obj := ⟨(.type "dict"), none, (Data.dict (List.toArray [⟨(PyData.keyHash P z188), (.str z188 321), (.str z257 326)⟩, ⟨(PyData.keyHash P z258), (.str z258 323), (.str z231 322)⟩, ⟨(PyData.keyHash P z190), (.str z190 325), (.int 24 324)⟩, ⟨(PyData.keyHash P z200), (.str z200 328), (.ref 68)⟩]) 4), (List.toArray [])⟩
noncomputable def x52 (_ : Params) : Obj := ⟨(.type "code"), none, (Data.fields (List.toArray [(.str z231 316), (.str z231 317), (.str z177 318), (.int 24 0), (.int 0 0), (.int 0 0), (.int 0 0), (.int 0 0), (.ref 64), (.bool false), (.int 273 0), (.ref 65), .none, .none, .none, .none, (.int 319 0), (.int 24 0), (.str z177 320)])), (List.toArray [])⟩
noncomputable def x53 (_ : Params) : Obj := ⟨(.type "frame"), none, Data.plain, (List.toArray [(some (.ref 66)), (some (.ref 3)), (some (.ref 63)), none, (some (.str z257 296)), none, (some (.ref 0))])⟩
noncomputable def x54 (P : Params) : Obj := ⟨(.type "dict"), none, (Data.dict (List.toArray [⟨(PyData.keyHash P z188), (.str z188 321), (.str z257 326)⟩, ⟨(PyData.keyHash P z190), (.str z190 325), (.int 24 324)⟩, ⟨(PyData.keyHash P z200), (.str z200 328), (.ref 68)⟩, ⟨(PyData.keyHash P z202), (.str z202 330), (.ref 71)⟩, ⟨(PyData.keyHash P z2), (.str z2 331), .none⟩]) 3), (List.toArray [])⟩
noncomputable def x55 (_ : Params) : Obj := ⟨(.type "type"), none, (Data.cls ⟨z231, [(.type "OSError"), (.type "ValueError")], [(.ref 70), (.type "OSError"), (.type "ValueError"), (.type "Exception"), (.type "BaseException"), (.type "object")], 69, z231, true, [], [], false, none, false⟩), (List.toArray [(some (.ref 61)), none, (some (.str z231 314)), (some (.str z231 322)), (some (.builtin "OSError.__new__")), (some (.bool true))])⟩
noncomputable def x56 (_ : Params) : Obj := ⟨(.type "getset_descriptor"), none, (Data.fields (List.toArray [(.str z202 329), (.ref 70), (.builtin "ExceptionGroup.__weakref__"), .none])), (List.toArray [])⟩
noncomputable def x57 (_ : Params) : Obj := ⟨(.type "super"), none, (Data.fields (List.toArray [(.ref 70), (.ref 70), (.ref 70)])), (List.toArray [])⟩
noncomputable def x58 (_ : Params) : Obj := ⟨(.type "builtin_function_or_method"), none, (Data.fields (List.toArray [(.builtin "object.__init_subclass__"), (.ref 70)])), (List.toArray [])⟩
noncomputable def x59 (P : Params) : Obj := ⟨(.type "dict"), none, (Data.dict (List.toArray [⟨(PyData.keyHash P z188), (.str z188 343), (.str z257 348)⟩, ⟨(PyData.keyHash P z258), (.str z258 345), (.str z232 344)⟩, ⟨(PyData.keyHash P z190), (.str z190 347), (.int 26 346)⟩, ⟨(PyData.keyHash P z259), (.str z259 358), (.ref 87)⟩, ⟨(PyData.keyHash P z200), (.str z200 359), (.ref 88)⟩]) 5), (List.toArray [])⟩
noncomputable def x60 (_ : Params) : Obj := ⟨.none, none, (Data.fields (List.toArray [(.int 29 0), (.int 4 0), (.ref 86)])), (List.toArray [])⟩
noncomputable def x61 (_ : Params) : Obj := ⟨(.type "code"), none, (Data.fields (List.toArray [(.str z232 338), (.str z232 339), (.str z177 340), (.int 26 0), (.int 0 0), (.int 0 0), (.int 0 0), (.int 0 0), (.ref 77), (.bool false), (.int 273 0), (.ref 78), .none, .none, .none, .none, (.int 341 0), (.int 26 0), (.str z177 342)])), (List.toArray [])⟩
noncomputable def x62 (_ : Params) : Obj := ⟨(.type "frame"), none, Data.plain, (List.toArray [(some (.ref 79)), (some (.ref 3)), (some (.ref 76)), none, (some (.str z257 296)), none, (some (.ref 0))])⟩
noncomputable def x63 (_ : Params) : Obj := ⟨(.type "tuple"), none, (Data.seq (List.toArray [(.str ⟨⟨[99,108,115]⟩⟩ 353), (.str z261 354), (.str ⟨⟨[107,119,97,114,103,115]⟩⟩ 355)]) 0), (List.toArray [])⟩
noncomputable def x64 (_ : Params) : Obj := ⟨.none, none, (Data.func ⟨z259, ⟨⟨[73,79,66,97,115,101,46,95,95,110,101,119,95,95]⟩⟩, (qA (qC 8 1)), (FuncBody.stmts (qB (qC 8 1))), (qS (qC 8 1)), 0, [], .none, .none, .none, .none, none, .none, .none, 0⟩), (List.toArray [])⟩
noncomputable def x65 (_ : Params) : Obj := ⟨(.type "code"), none, (Data.fields (List.toArray [(.str z259 350), (.str ⟨⟨[73,79,66,97,115,101,46,95,95,110,101,119,95,95]⟩⟩ 351), (.str z177 352), (.int 29 0), (.int 1 0), (.int 1 0), (.int 0 0), (.int 15 0), (.ref 81), (.bool true), (.int 273 0), (.ref 82), .none, (.ref 83), (.ref 84), (.ref 85), (.int 356 0), (.int 29 0), (.str z177 357)])), (List.toArray [])⟩
noncomputable def x66 (_ : Params) : Obj := ⟨(.type "function"), none, (Data.func ⟨z259, ⟨⟨[73,79,66,97,115,101,46,95,95,110,101,119,95,95]⟩⟩, (qA (qC 8 1)), (FuncBody.stmts (qB (qC 8 1))), (qS (qC 8 1)), 3, [], .none, .none, .none, (.str z257 296), none, (.ref 86), .none, 0⟩), (List.toArray [])⟩
noncomputable def x67 (P : Params) : Obj := ⟨(.type "dict"), none, (Data.dict (List.toArray [⟨(PyData.keyHash P z188), (.str z188 343), (.str z257 348)⟩, ⟨(PyData.keyHash P z190), (.str z190 347), (.int 26 346)⟩, ⟨(PyData.keyHash P z259), (.str z259 358), (.ref 91)⟩, ⟨(PyData.keyHash P z200), (.str z200 359), (.ref 88)⟩, ⟨(PyData.keyHash P z201), (.str z201 362), (.ref 92)⟩, ⟨(PyData.keyHash P z202), (.str z202 364), (.ref 93)⟩, ⟨(PyData.keyHash P z2), (.str z2 365), .none⟩]) 4), (List.toArray [])⟩
noncomputable def x68 (_ : Params) : Obj := ⟨(.type "type"), none, (Data.cls ⟨z232, [(.type "object")], [(.ref 90), (.type "object")], 89, z232, true, [], [(.ref 105), (.ref 117)], false, none, false⟩), (List.toArray [none, none, (some (.str z232 336)), (some (.str z232 344)), (some .none), (some (.bool true))])⟩
noncomputable def x69 (_ : Params) : Obj := ⟨(.type "staticmethod"), none, (Data.fields (List.toArray [(.ref 87)])), (List.toArray [])⟩
noncomputable def x70 (_ : Params) : Obj := ⟨(.type "getset_descriptor"), none, (Data.fields (List.toArray [(.str z201 361), (.ref 90), (.builtin "function.__dict__"), (.builtin "function.__dict__#set")])), (List.toArray [])⟩
noncomputable def x71 (_ : Params) : Obj := ⟨(.type "getset_descriptor"), none, (Data.fields (List.toArray [(.str z202 363), (.ref 90), (.builtin "ExceptionGroup.__weakref__"), .none])), (List.toArray [])⟩
noncomputable def x72 (_ : Params) : Obj := ⟨(.type "super"), none, (Data.fields (List.toArray [(.ref 90), (.ref 90), (.ref 90)])), (List.toArray [])⟩
noncomputable def x73 (_ : Params) : Obj := ⟨(.type "builtin_function_or_method"), none, (Data.fields (List.toArray [(.builtin "object.__init_subclass__"), (.ref 90)])), (List.toArray [])⟩
noncomputable def x74 (_ : Params) : Obj := ⟨(.type "tuple"), none, (Data.seq (List.toArray [(.ref 90)]) 0), (List.toArray [])⟩
noncomputable def x75 (P : Params) : Obj := ⟨(.type "dict"), none, (Data.dict (List.toArray [⟨(PyData.keyHash P z188), (.str z188 375), (.str z257 380)⟩, ⟨(PyData.keyHash P z258), (.str z258 377), (.str z233 376)⟩, ⟨(PyData.keyHash P z190), (.str z190 379), (.int 33 378)⟩, ⟨(PyData.keyHash P z200), (.str z200 382), (.ref 103)⟩]) 4), (List.toArray [])⟩
noncomputable def x76 (_ : Params) : Obj := ⟨(.type "code"), none, (Data.fields (List.toArray [(.str z233 370), (.str z233 371), (.str z177 372), (.int 33 0), (.int 0 0), (.int 0 0), (.int 0 0), (.int 0 0), (.ref 99), (.bool false), (.int 273 0), (.ref 100), .none, .none, .none, .none, (.int 373 0), (.int 33 0), (.str z177 374)])), (List.toArray [])⟩
noncomputable def x77 (_ : Params) : Obj := ⟨(.type "frame"), none, Data.plain, (List.toArray [(some (.ref 101)), (some (.ref 3)), (some (.ref 98)), none, (some (.str z257 296)), none, (some (.ref 0))])⟩
noncomputable def x78 (P : Params) : Obj := ⟨(.type "dict"), none, (Data.dict (List.toArray [⟨(PyData.keyHash P z188), (.str z188 375), (.str z257 380)⟩, ⟨(PyData.keyHash P z190), (.str z190 379), (.int 33 378)⟩, ⟨(PyData.keyHash P z200), (.str z200 382), (.ref 103)⟩, ⟨(PyData.keyHash P z2), (.str z2 383), .none⟩]) 2), (List.toArray [])⟩
noncomputable def x79 (_ : Params) : Obj := ⟨(.type "type"), none, (Data.cls ⟨z233, [(.ref 90)], [(.ref 105), (.ref 90), (.type "object")], 104, z233, true, [], [(.ref 347)], false, none, false⟩), (List.toArray [(some (.ref 96)), none, (some (.str z233 368)), (some (.str z233 376)), (some .none), (some (.bool true))])⟩
noncomputable def x80 (_ : Params) : Obj := ⟨(.type "super"), none, (Data.fields (List.toArray [(.ref 105), (.ref 105), (.ref 105)])), (List.toArray [])⟩
noncomputable def x81 (_ : Params) : Obj := ⟨(.type "builtin_function_or_method"), none, (Data.fields (List.toArray [(.builtin "object.__init_subclass__"), (.ref 105)])), (List.toArray [])⟩
noncomputable def x82 (P : Params) : Obj := ⟨(.type "dict"), none, (Data.dict (List.toArray [⟨(PyData.keyHash P z188), (.str z188 393), (.str z257 398)⟩, ⟨(PyData.keyHash P z258), (.str z258 395), (.str z234 394)⟩, ⟨(PyData.keyHash P z190), (.str z190 397), (.int 35 396)⟩, ⟨(PyData.keyHash P z200), (.str z200 400), (.ref 115)⟩]) 4), (List.toArray [])⟩
noncomputable def x83 (_ : Params) : Obj := ⟨(.type "code"), none, (Data.fields (List.toArray [(.str z234 388), (.str z234 389), (.str z177 390), (.int 35 0), (.int 0 0), (.int 0 0), (.int 0 0), (.int 0 0), (.ref 111), (.bool false), (.int 273 0), (.ref 112), .none, .none, .none, .none, (.int 391 0), (.int 35 0), (.str z177 392)])), (List.toArray [])⟩
noncomputable def x84 (_ : Params) : Obj := ⟨(.type "frame"), none, Data.plain, (List.toArray [(some (.ref 113)), (some (.ref 3)), (some (.ref 110)), none, (some (.str z257 296)), none, (some (.ref 0))])⟩
noncomputable def x85 (P : Params) : Obj := ⟨(.type "dict"), none, (Data.dict (List.toArray [⟨(PyData.keyHash P z188), (.str z188 393), (.str z257 398)⟩, ⟨(PyData.keyHash P z190), (.str z190 397), (.int 35 396)⟩, ⟨(PyData.keyHash P z200), (.str z200 400), (.ref 115)⟩, ⟨(PyData.keyHash P z2), (.str z2 401), .none⟩]) 2), (List.toArray [])⟩
noncomputable def x86 (_ : Params) : Obj := ⟨(.type "type"), none, (Data.cls ⟨z234, [(.ref 90)], [(.ref 117), (.ref 90), (.type "object")], 116, z234, true, [], [(.ref 594)], false, none, false⟩), (List.toArray [(some (.ref 108)), none, (some (.str z234 386)), (some (.str z234 394)), (some .none), (some (.bool true))])⟩
noncomputable def x87 (_ : Params) : Obj := ⟨(.type "super"), none, (Data.fields (List.toArray [(.ref 117), (.ref 117), (.ref 117)])), (List.toArray [])⟩
noncomputable def x88 (_ : Params) : Obj := ⟨(.type "builtin_function_or_method"), none, (Data.fields (List.toArray [(.builtin "object.__init_subclass__"), (.ref 117)])), (List.toArray [])⟩
noncomputable def x89 (_ : Params) : Obj := ⟨(.type "tuple"), none, (Data.seq (List.toArray [(.ref 105)]) 0), (List.toArray [])⟩
noncomputable def x90 (P : Params) : Obj := ⟨(.type "dict"), none, (Data.dict (List.toArray [⟨(PyData.keyHash P z188), (.str z188 411), (.str z264 416)⟩, ⟨(PyData.keyHash P z258), (.str z258 413), (.str z235 412)⟩, ⟨(PyData.keyHash P z190), (.str z190 415), (.int 37 414)⟩, ⟨(PyData.keyHash P z215), (.str z215 425), (.ref 134)⟩, ⟨(PyData.keyHash P z265), (.str z265 432), (.ref 141)⟩, ⟨(PyData.keyHash P z266), (.str z266 443), (.ref 148)⟩, ⟨(PyData.keyHash P z267), (.str z267 451), (.ref 156)⟩, ⟨(PyData.keyHash P z268), (.str z268 458), (.ref 163)⟩, ⟨(PyData.keyHash P z269), (.str z269 465), (.ref 170)⟩, ⟨(PyData.keyHash P z270), (.str z270 473), (.ref 177)⟩, ⟨(PyData.keyHash P z271), (.str z271 480), (.ref 184)⟩, ⟨(PyData.keyHash P z272), (.str z272 487), (.ref 191)⟩, ⟨(PyData.keyHash P z273), (.str z273 494), (.ref 198)⟩, ⟨(PyData.keyHash P z274), (.str z274 501), (.ref 205)⟩, ⟨(PyData.keyHash P z275), (.str z275 508), (.ref 212)⟩, ⟨(PyData.keyHash P z276), (.str z276 515), (.ref 219)⟩, ⟨(PyData.keyHash P z277), (.str z277 522), (.ref 226)⟩, ⟨(PyData.keyHash P z278), (.str z278 529), (.ref 233)⟩, ⟨(PyData.keyHash P z279), (.str z279 536), (.ref 240)⟩, ⟨(PyData.keyHash P z280), (.str z280 543), (.ref 247)⟩, ⟨(PyData.keyHash P z281), (.str z281 553), (.ref 255)⟩, ⟨(PyData.keyHash P z282), (.str z282 561), (.ref 263)⟩, ⟨(PyData.keyHash P z283), (.str z283 573), (.ref 271)⟩, ⟨(PyData.keyHash P z284), (.str z284 583), (.ref 279)⟩, ⟨(PyData.keyHash P z285), (.str z285 593), (.ref 286)⟩, ⟨(PyData.keyHash P z286), (.str z286 601), (.ref 293)⟩, ⟨(PyData.keyHash P z287), (.str z287 611), (.ref 301)⟩, ⟨(PyData.keyHash P z288), (.str z288 619), (.ref 309)⟩, ⟨(PyData.keyHash P z289), (.str z289 626), (.ref 316)⟩, ⟨(PyData.keyHash P z290), (.str z290 634), (.ref 323)⟩, ⟨(PyData.keyHash P z291), (.str z291 644), (.ref 330)⟩, ⟨(PyData.keyHash P z292), (.str z292 652), (.ref 337)⟩, ⟨(PyData.keyHash P z216), (.str z216 659), (.ref 344)⟩, ⟨(PyData.keyHash P z200), (.str z200 662), (.ref 345)⟩]) 34), (List.toArray [])⟩
noncomputable def x91 (_ : Params) : Obj := ⟨.none, none, (Data.fields (List.toArray [(.int 40 0), (.int 4 0), (.ref 133), (.int 46 0), (.int 4 0), (.ref 140), (.int 50 0), (.int 4 0), (.ref 147), (.int 64 0), (.int 4 0), (.ref 154), (.int 67 0), (.int 4 0), (.ref 162), (.int 70 0), (.int 4 0), (.ref 169), (.int 74 0), (.int 4 0), (.ref 176), (.int 77 0), (.int 4 0), (.ref 183), (.int 81 0), (.int 4 0), (.ref 190), (.int 85 0), (.int 4 0), (.ref 197), (.int 89 0), (.int 4 0), (.ref 204), (.int 93 0), (.int 4 0), (.ref 211), (.int 96 0), (.int 4 0), (.ref 218), (.int 99 0), (.int 4 0), (.ref 225), (.int 102 0), (.int 4 0), (.ref 232), (.int 105 0), (.int 4 0), (.ref 239), (.int 108 0), (.int 4 0), (.ref 246), (.int 112 0), (.int 4 0), (.ref 254), (.int 129 0), (.int 4 0), (.ref 262), (.int 132 0), (.int 4 0), (.ref 270), (.int 146 0), (.int 4 0), (.ref 278), (.int 149 0), (.int 4 0), (.ref 285), (.int 163 0), (.int 4 0), (.ref 292), (.int 166 0), (.int 4 0), (.ref 300), (.int 173 0), (.int 4 0), (.ref 308), (.int 176 0), (.int 4 0), (.ref 315), (.int 179 0), (.int 4 0), (.ref 322), (.int 186 0), (.int 4 0), (.ref 329), (.int 202 0), (.int 4 0), (.ref 336), (.int 205 0), (.int 4 0), (.ref 343)])), (List.toArray [])⟩
noncomputable def x92 (_ : Params) : Obj := ⟨(.type "code"), none, (Data.fields (List.toArray [(.str z235 406), (.str z235 407), (.str z177 408), (.int 37 0), (.int 0 0), (.int 0 0), (.int 0 0), (.int 0 0), (.ref 123), (.bool false), (.int 273 0), (.ref 124), .none, .none, .none, .none, (.int 409 0), (.int 37 0), (.str z177 410)])), (List.toArray [])⟩
noncomputable def x93 (_ : Params) : Obj := ⟨(.type "frame"), none, Data.plain, (List.toArray [(some (.ref 125)), (some (.ref 3)), (some (.ref 122)), none, (some (.str z257 296)), none, (some (.ref 0))])⟩
noncomputable def x94 (_ : Params) : Obj := ⟨(.type "tuple"), none, (Data.seq (List.toArray [.none]) 0), (List.toArray [])⟩
noncomputable def x95 (_ : Params) : Obj := ⟨(.type "tuple"), none, (Data.seq (List.toArray [(.str z293 421), (.str ⟨⟨[105,110,105,116,105,97,108,95,98,121,116,101,115]⟩⟩ 422)]) 0), (List.toArray [])⟩
noncomputable def x96 (_ : Params) : Obj := ⟨.none, none, (Data.func ⟨z215, ⟨⟨[66,121,116,101,115,73,79,46,95,95,105,110,105,116,95,95]⟩⟩, (qA (qC 11 1)), (FuncBody.stmts (qB (qC 11 1))), (qS (qC 11 1)), 0, [], .none, .none, .none, .none, none, .none, .none, 0⟩), (List.toArray [])⟩
noncomputable def x97 (_ : Params) : Obj := ⟨(.type "code"), none, (Data.fields (List.toArray [(.str z215 418), (.str ⟨⟨[66,121,116,101,115,73,79,46,95,95,105,110,105,116,95,95]⟩⟩ 419), (.str z177 420), (.int 40 0), (.int 2 0), (.int 0 0), (.int 0 0), (.int 3 0), (.ref 128), (.bool true), (.int 273 0), (.ref 129), .none, (.ref 130), (.ref 131), (.ref 132), (.int 423 0), (.int 40 0), (.str z177 424)])), (List.toArray [])⟩
noncomputable def x98 (_ : Params) : Obj := ⟨(.type "function"), none, (Data.func ⟨z215, ⟨⟨[66,121,116,101,115,73,79,46,95,95,105,110,105,116,95,95]⟩⟩, (qA (qC 11 1)), (FuncBody.stmts (qB (qC 11 1))), (qS (qC 11 1)), 3, [], (.ref 127), .none, .none, (.str z257 296), none, (.ref 133), .none, 0⟩), (List.toArray [])⟩
noncomputable def x99 (_ : Params) : Obj := ⟨(.type "tuple"), none, (Data.seq (List.toArray [(.str z293 429)]) 0), (List.toArray [])⟩
noncomputable def x100 (_ : Params) : Obj := ⟨.none, none, (Data.func ⟨z296, ⟨⟨[66,121,116,101,115,73,79,46,95,95,99,104,101,99,107]⟩⟩, (qA (qC 11 2)), (FuncBody.stmts (qB (qC 11 2))), (qS (qC 11 2)), 0, [], .none, .none, .none, .none, none, .none, .none, 0⟩), (List.toArray [])⟩
noncomputable def x101 (_ : Params) : Obj := ⟨(.type "code"), none, (Data.fields (List.toArray [(.str z296 426), (.str ⟨⟨[66,121,116,101,115,73,79,46,95,95,99,104,101,99,107]⟩⟩ 427), (.str z177 428), (.int 46 0), (.int 1 0), (.int 0 0), (.int 0 0), (.int 3 0), (.ref 135), (.bool true), (.int 273 0), (.ref 136), .none, (.ref 137), (.ref 138), (.ref 139), (.int 430 0), (.int 46 0), (.str z177 431)])), (List.toArray [])⟩
noncomputable def x102 (_ : Params) : Obj := ⟨(.type "function"), none, (Data.func ⟨z296, ⟨⟨[66,121,116,101,115,73,79,46,95,95,99,104,101,99,107]⟩⟩, (qA (qC 11 2)), (FuncBody.stmts (qB (qC 11 2))), (qS (qC 11 2)), 3, [], .none, .none, .none, (.str z257 296), none, (.ref 140), .none, 0⟩), (List.toArray [])⟩
noncomputable def x103 (_ : Params) : Obj := ⟨(.type "tuple"), none, (Data.seq (List.toArray [(.str z293 436), (.str ⟨⟨[108,105,109,105,116]⟩⟩ 437), (.str z299 438), (.str z300 439), (.str ⟨⟨[105]⟩⟩ 440)]) 0), (List.toArray [])⟩
noncomputable def x104 (_ : Params) : Obj := ⟨.none, none, (Data.func ⟨z302, ⟨⟨[66,121,116,101,115,73,79,46,95,95,108,105,110,101]⟩⟩, (qA (qC 11 3)), (FuncBody.stmts (qB (qC 11 3))), (qS (qC 11 3)), 0, [], .none, .none, .none, .none, none, .none, .none, 0⟩), (List.toArray [])⟩
noncomputable def x105 (_ : Params) : Obj := ⟨(.type "code"), none, (Data.fields (List.toArray [(.str z302 433), (.str ⟨⟨[66,121,116,101,115,73,79,46,95,95,108,105,110,101]⟩⟩ 434), (.str z177 435), (.int 50 0), (.int 2 0), (.int 0 0), (.int 0 0), (.int 3 0), (.ref 142), (.bool true), (.int 273 0), (.ref 143), .none, (.ref 144), (.ref 145), (.ref 146), (.int 441 0), (.int 50 0), (.str z177 442)])), (List.toArray [])⟩
noncomputable def x106 (_ : Params) : Obj := ⟨(.type "function"), none, (Data.func ⟨z302, ⟨⟨[66,121,116,101,115,73,79,46,95,95,108,105,110,101]⟩⟩, (qA (qC 11 3)), (FuncBody.stmts (qB (qC 11 3))), (qS (qC 11 3)), 3, [], .none, .none, .none, (.str z257 296), none, (.ref 147), .none, 0⟩), (List.toArray [])⟩
noncomputable def x107 (_ : Params) : Obj := ⟨(.type "tuple"), none, (Data.seq (List.toArray [(.str z293 447)]) 0), (List.toArray [])⟩
noncomputable def x108 (_ : Params) : Obj := ⟨.none, none, (Data.func ⟨z267, ⟨⟨[66,121,116,101,115,73,79,46,99,108,111,115,101,100]⟩⟩, (qA (qC 11 4)), (FuncBody.stmts (qB (qC 11 4))), (qS (qC 11 4)), 0, [], .none, .none, .none, .none, none, .none, .none, 0⟩), (List.toArray [])⟩
noncomputable def x109 (_ : Params) : Obj := ⟨(.type "code"), none, (Data.fields (List.toArray [(.str z267 444), (.str ⟨⟨[66,121,116,101,115,73,79,46,99,108,111,115,101,100]⟩⟩ 445), (.str z177 446), (.int 63 0), (.int 1 0), (.int 0 0), (.int 0 0), (.int 3 0), (.ref 149), (.bool true), (.int 273 0), (.ref 150), .none, (.ref 151), (.ref 152), (.ref 153), (.int 448 0), (.int 63 0), (.str z177 449)])), (List.toArray [])⟩
noncomputable def x110 (_ : Params) : Obj := ⟨(.type "function"), none, (Data.func ⟨z267, ⟨⟨[66,121,116,101,115,73,79,46,99,108,111,115,101,100]⟩⟩, (qA (qC 11 4)), (FuncBody.stmts (qB (qC 11 4))), (qS (qC 11 4)), 3, [], .none, .none, .none, (.str z257 296), none, (.ref 154), .none, 0⟩), (List.toArray [])⟩
noncomputable def x111 (_ : Params) : Obj := ⟨(.type "property"), none, (Data.fields (List.toArray [(.ref 155), .none, .none, .none, (.str z267 451), (.bool false)])), (List.toArray [])⟩
noncomputable def x112 (_ : Params) : Obj := ⟨(.type "tuple"), none, (Data.seq (List.toArray [(.str z293 455)]) 0), (List.toArray [])⟩
noncomputable def x113 (_ : Params) : Obj := ⟨.none, none, (Data.func ⟨z268, ⟨⟨[66,121,116,101,115,73,79,46,99,108,111,115,101]⟩⟩, (qA (qC 11 5)), (FuncBody.stmts (qB (qC 11 5))), (qS (qC 11 4)), 0, [], .none, .none, .none, .none, none, .none, .none, 0⟩), (List.toArray [])⟩
noncomputable def x114 (_ : Params) : Obj := ⟨(.type "code"), none, (Data.fields (List.toArray [(.str z268 452), (.str ⟨⟨[66,121,116,101,115,73,79,46,99,108,111,115,101]⟩⟩ 453), (.str z177 454), (.int 67 0), (.int 1 0), (.int 0 0), (.int 0 0), (.int 3 0), (.ref 157), (.bool true), (.int 273 0), (.ref 158), .none, (.ref 159), (.ref 160), (.ref 161), (.int 456 0), (.int 67 0), (.str z177 457)])), (List.toArray [])⟩
noncomputable def x115 (_ : Params) : Obj := ⟨(.type "function"), none, (Data.func ⟨z268, ⟨⟨[66,121,116,101,115,73,79,46,99,108,111,115,101]⟩⟩, (qA (qC 11 5)), (FuncBody.stmts (qB (qC 11 5))), (qS (qC 11 4)), 3, [], .none, .none, .none, (.str z257 296), none, (.ref 162), .none, 0⟩), (List.toArray [])⟩
noncomputable def x116 (_ : Params) : Obj := ⟨(.type "tuple"), none, (Data.seq (List.toArray [(.str z293 462)]) 0), (List.toArray [])⟩
noncomputable def x117 (_ : Params) : Obj := ⟨.none, none, (Data.func ⟨z269, ⟨⟨[66,121,116,101,115,73,79,46,95,95,101,110,116,101,114,95,95]⟩⟩, (qA (qC 11 6)), (FuncBody.stmts (qB (qC 11 6))), (qS (qC 11 4)), 0, [], .none, .none, .none, .none, none, .none, .none, 0⟩), (List.toArray [])⟩
noncomputable def x118 (_ : Params) : Obj := ⟨(.type "code"), none, (Data.fields (List.toArray [(.str z269 459), (.str ⟨⟨[66,121,116,101,115,73,79,46,95,95,101,110,116,101,114,95,95]⟩⟩ 460), (.str z177 461), (.int 70 0), (.int 1 0), (.int 0 0), (.int 0 0), (.int 3 0), (.ref 164), (.bool true), (.int 273 0), (.ref 165), .none, (.ref 166), (.ref 167), (.ref 168), (.int 463 0), (.int 70 0), (.str z177 464)])), (List.toArray [])⟩
noncomputable def x119 (_ : Params) : Obj := ⟨(.type "function"), none, (Data.func ⟨z269, ⟨⟨[66,121,116,101,115,73,79,46,95,95,101,110,116,101,114,95,95]⟩⟩, (qA (qC 11 6)), (FuncBody.stmts (qB (qC 11 6))), (qS (qC 11 4)), 3, [], .none, .none, .none, (.str z257 296), none, (.ref 169), .none, 0⟩), (List.toArray [])⟩
noncomputable def x120 (_ : Params) : Obj := ⟨(.type "tuple"), none, (Data.seq (List.toArray [(.str z293 469), (.str z261 470)]) 0), (List.toArray [])⟩
noncomputable def x121 (_ : Params) : Obj := ⟨.none, none, (Data.func ⟨z270, ⟨⟨[66,121,116,101,115,73,79,46,95,95,101,120,105,116,95,95]⟩⟩, (qA (qC 11 7)), (FuncBody.stmts (qB (qC 11 7))), (qS (qC 11 7)), 0, [], .none, .none, .none, .none, none, .none, .none, 0⟩), (List.toArray [])⟩
noncomputable def x122 (_ : Params) : Obj := ⟨(.type "code"), none, (Data.fields (List.toArray [(.str z270 466), (.str ⟨⟨[66,121,116,101,115,73,79,46,95,95,101,120,105,116,95,95]⟩⟩ 467), (.str z177 468), (.int 74 0), (.int 1 0), (.int 0 0), (.int 0 0), (.int 7 0), (.ref 171), (.bool true), (.int 273 0), (.ref 172), .none, (.ref 173), (.ref 174), (.ref 175), (.int 471 0), (.int 74 0), (.str z177 472)])), (List.toArray [])⟩
noncomputable def x123 (_ : Params) : Obj := ⟨(.type "function"), none, (Data.func ⟨z270, ⟨⟨[66,121,116,101,115,73,79,46,95,95,101,120,105,116,95,95]⟩⟩, (qA (qC 11 7)), (FuncBody.stmts (qB (qC 11 7))), (qS (qC 11 7)), 3, [], .none, .none, .none, (.str z257 296), none, (.ref 176), .none, 0⟩), (List.toArray [])⟩
noncomputable def x124 (_ : Params) : Obj := ⟨(.type "tuple"), none, (Data.seq (List.toArray [(.str z293 477)]) 0), (List.toArray [])⟩
noncomputable def x125 (_ : Params) : Obj := ⟨.none, none, (Data.func ⟨z271, ⟨⟨[66,121,116,101,115,73,79,46,114,101,97,100,97,98,108,101]⟩⟩, (qA (qC 11 8)), (FuncBody.stmts (qB (qC 11 8))), (qS (qC 11 4)), 0, [], .none, .none, .none, .none, none, .none, .none, 0⟩), (List.toArray [])⟩
noncomputable def x126 (_ : Params) : Obj := ⟨(.type "code"), none, (Data.fields (List.toArray [(.str z271 474), (.str ⟨⟨[66,121,116,101,115,73,79,46,114,101,97,100,97,98,108,101]⟩⟩ 475), (.str z177 476), (.int 77 0), (.int 1 0), (.int 0 0), (.int 0 0), (.int 3 0), (.ref 178), (.bool true), (.int 273 0), (.ref 179), .none, (.ref 180), (.ref 181), (.ref 182), (.int 478 0), (.int 77 0), (.str z177 479)])), (List.toArray [])⟩
noncomputable def x127 (_ : Params) : Obj := ⟨(.type "function"), none, (Data.func ⟨z271, ⟨⟨[66,121,116,101,115,73,79,46,114,101,97,100,97,98,108,101]⟩⟩, (qA (qC 11 8)), (FuncBody.stmts (qB (qC 11 8))), (qS (qC 11 4)), 3, [], .none, .none, .none, (.str z257 296), none, (.ref 183), .none, 0⟩), (List.toArray [])⟩
noncomputable def x128 (_ : Params) : Obj := ⟨(.type "tuple"), none, (Data.seq (List.toArray [(.str z293 484)]) 0), (List.toArray [])⟩
noncomputable def x129 (_ : Params) : Obj := ⟨.none, none, (Data.func ⟨z272, ⟨⟨[66,121,116,101,115,73,79,46,119,114,105,116,97,98,108,101]⟩⟩, (qA (qC 11 9)), (FuncBody.stmts (qB (qC 11 9))), (qS (qC 11 4)), 0, [], .none, .none, .none, .none, none, .none, .none, 0⟩), (List.toArray [])⟩
noncomputable def x130 (_ : Params) : Obj := ⟨(.type "code"), none, (Data.fields (List.toArray [(.str z272 481), (.str ⟨⟨[66,121,116,101,115,73,79,46,119,114,105,116,97,98,108,101]⟩⟩ 482), (.str z177 483), (.int 81 0), (.int 1 0), (.int 0 0), (.int 0 0), (.int 3 0), (.ref 185), (.bool true), (.int 273 0), (.ref 186), .none, (.ref 187), (.ref 188), (.ref 189), (.int 485 0), (.int 81 0), (.str z177 486)])), (List.toArray [])⟩
noncomputable def x131 (_ : Params) : Obj := ⟨(.type "function"), none, (Data.func ⟨z272, ⟨⟨[66,121,116,101,115,73,79,46,119,114,105,116,97,98,108,101]⟩⟩, (qA (qC 11 9)), (FuncBody.stmts (qB (qC 11 9))), (qS (qC 11 4)), 3, [], .none, .none, .none, (.str z257 296), none, (.ref 190), .none, 0⟩), (List.toArray [])⟩
noncomputable def x132 (_ : Params) : Obj := ⟨(.type "tuple"), none, (Data.seq (List.toArray [(.str z293 491)]) 0), (List.toArray [])⟩
noncomputable def x133 (_ : Params) : Obj := ⟨.none, none, (Data.func ⟨z273, ⟨⟨[66,121,116,101,115,73,79,46,115,101,101,107,97,98,108,101]⟩⟩, (qA (qC 11 10)), (FuncBody.stmts (qB (qC 11 10))), (qS (qC 11 4)), 0, [], .none, .none, .none, .none, none, .none, .none, 0⟩), (List.toArray [])⟩
noncomputable def x134 (_ : Params) : Obj := ⟨(.type "code"), none, (Data.fields (List.toArray [(.str z273 488), (.str ⟨⟨[66,121,116,101,115,73,79,46,115,101,101,107,97,98,108,101]⟩⟩ 489), (.str z177 490), (.int 85 0), (.int 1 0), (.int 0 0), (.int 0 0), (.int 3 0), (.ref 192), (.bool true), (.int 273 0), (.ref 193), .none, (.ref 194), (.ref 195), (.ref 196), (.int 492 0), (.int 85 0), (.str z177 493)])), (List.toArray [])⟩
noncomputable def x135 (_ : Params) : Obj := ⟨(.type "function"), none, (Data.func ⟨z273, ⟨⟨[66,121,116,101,115,73,79,46,115,101,101,107,97,98,108,101]⟩⟩, (qA (qC 11 10)), (FuncBody.stmts (qB (qC 11 10))), (qS (qC 11 4)), 3, [], .none, .none, .none, (.str z257 296), none, (.ref 197), .none, 0⟩), (List.toArray [])⟩
noncomputable def x136 (_ : Params) : Obj := ⟨(.type "tuple"), none, (Data.seq (List.toArray [(.str z293 498)]) 0), (List.toArray [])⟩
noncomputable def x137 (_ : Params) : Obj := ⟨.none, none, (Data.func ⟨z274, ⟨⟨[66,121,116,101,115,73,79,46,105,115,97,116,116,121]⟩⟩, (qA (qC 11 11)), (FuncBody.stmts (qB (qC 11 11))), (qS (qC 11 4)), 0, [], .none, .none, .none, .none, none, .none, .none, 0⟩), (List.toArray [])⟩
noncomputable def x138 (_ : Params) : Obj := ⟨(.type "code"), none, (Data.fields (List.toArray [(.str z274 495), (.str ⟨⟨[66,121,116,101,115,73,79,46,105,115,97,116,116,121]⟩⟩ 496), (.str z177 497), (.int 89 0), (.int 1 0), (.int 0 0), (.int 0 0), (.int 3 0), (.ref 199), (.bool true), (.int 273 0), (.ref 200), .none, (.ref 201), (.ref 202), (.ref 203), (.int 499 0), (.int 89 0), (.str z177 500)])), (List.toArray [])⟩
noncomputable def x139 (_ : Params) : Obj := ⟨(.type "function"), none, (Data.func ⟨z274, ⟨⟨[66,121,116,101,115,73,79,46,105,115,97,116,116,121]⟩⟩, (qA (qC 11 11)), (FuncBody.stmts (qB (qC 11 11))), (qS (qC 11 4)), 3, [], .none, .none, .none, (.str z257 296), none, (.ref 204), .none, 0⟩), (List.toArray [])⟩
noncomputable def x140 (_ : Params) : Obj := ⟨(.type "tuple"), none, (Data.seq (List.toArray [(.str z293 505)]) 0), (List.toArray [])⟩
noncomputable def x141 (_ : Params) : Obj := ⟨.none, none, (Data.func ⟨z275, ⟨⟨[66,121,116,101,115,73,79,46,102,108,117,115,104]⟩⟩, (qA (qC 11 12)), (FuncBody.stmts (qB (qC 11 12))), (qS (qC 11 4)), 0, [], .none, .none, .none, .none, none, .none, .none, 0⟩), (List.toArray [])⟩
noncomputable def x142 (_ : Params) : Obj := ⟨(.type "code"), none, (Data.fields (List.toArray [(.str z275 502), (.str ⟨⟨[66,121,116,101,115,73,79,46,102,108,117,115,104]⟩⟩ 503), (.str z177 504), (.int 93 0), (.int 1 0), (.int 0 0), (.int 0 0), (.int 3 0), (.ref 206), (.bool true), (.int 273 0), (.ref 207), .none, (.ref 208), (.ref 209), (.ref 210), (.int 506 0), (.int 93 0), (.str z177 507)])), (List.toArray [])⟩
noncomputable def x143 (_ : Params) : Obj := ⟨(.type "function"), none, (Data.func ⟨z275, ⟨⟨[66,121,116,101,115,73,79,46,102,108,117,115,104]⟩⟩, (qA (qC 11 12)), (FuncBody.stmts (qB (qC 11 12))), (qS (qC 11 4)), 3, [], .none, .none, .none, (.str z257 296), none, (.ref 211), .none, 0⟩), (List.toArray [])⟩
noncomputable def x144 (_ : Params) : Obj := ⟨(.type "tuple"), none, (Data.seq (List.toArray [(.str z293 512)]) 0), (List.toArray [])⟩
noncomputable def x145 (_ : Params) : Obj := ⟨.none, none, (Data.func ⟨z276, ⟨⟨[66,121,116,101,115,73,79,46,102,105,108,101,110,111]⟩⟩, (qA (qC 11 13)), (FuncBody.stmts (qB (qC 11 13))), (qS (qC 11 13)), 0, [], .none, .none, .none, .none, none, .none, .none, 0⟩), (List.toArray [])⟩
noncomputable def x146 (_ : Params) : Obj := ⟨(.type "code"), none, (Data.fields (List.toArray [(.str z276 509), (.str ⟨⟨[66,121,116,101,115,73,79,46,102,105,108,101,110,111]⟩⟩ 510), (.str z177 511), (.int 96 0), (.int 1 0), (.int 0 0), (.int 0 0), (.int 3 0), (.ref 213), (.bool true), (.int 273 0), (.ref 214), .none, (.ref 215), (.ref 216), (.ref 217), (.int 513 0), (.int 96 0), (.str z177 514)])), (List.toArray [])⟩
noncomputable def x147 (_ : Params) : Obj := ⟨(.type "function"), none, (Data.func ⟨z276, ⟨⟨[66,121,116,101,115,73,79,46,102,105,108,101,110,111]⟩⟩, (qA (qC 11 13)), (FuncBody.stmts (qB (qC 11 13))), (qS (qC 11 13)), 3, [], .none, .none, .none, (.str z257 296), none, (.ref 218), .none, 0⟩), (List.toArray [])⟩
noncomputable def x148 (_ : Params) : Obj := ⟨(.type "tuple"), none, (Data.seq (List.toArray [(.str z293 519)]) 0), (List.toArray [])⟩
noncomputable def x149 (_ : Params) : Obj := ⟨.none, none, (Data.func ⟨z277, ⟨⟨[66,121,116,101,115,73,79,46,100,101,116,97,99,104]⟩⟩, (qA (qC 11 14)), (FuncBody.stmts (qB (qC 11 14))), (qS (qC 11 14)), 0, [], .none, .none, .none, .none, none, .none, .none, 0⟩), (List.toArray [])⟩
noncomputable def x150 (_ : Params) : Obj := ⟨(.type "code"), none, (Data.fields (List.toArray [(.str z277 516), (.str ⟨⟨[66,121,116,101,115,73,79,46,100,101,116,97,99,104]⟩⟩ 517), (.str z177 518), (.int 99 0), (.int 1 0), (.int 0 0), (.int 0 0), (.int 3 0), (.ref 220), (.bool true), (.int 273 0), (.ref 221), .none, (.ref 222), (.ref 223), (.ref 224), (.int 520 0), (.int 99 0), (.str z177 521)])), (List.toArray [])⟩
noncomputable def x151 (_ : Params) : Obj := ⟨(.type "function"), none, (Data.func ⟨z277, ⟨⟨[66,121,116,101,115,73,79,46,100,101,116,97,99,104]⟩⟩, (qA (qC 11 14)), (FuncBody.stmts (qB (qC 11 14))), (qS (qC 11 14)), 3, [], .none, .none, .none, (.str z257 296), none, (.ref 225), .none, 0⟩), (List.toArray [])⟩
noncomputable def x152 (_ : Params) : Obj := ⟨(.type "tuple"), none, (Data.seq (List.toArray [(.str z293 526)]) 0), (List.toArray [])⟩
noncomputable def x153 (_ : Params) : Obj := ⟨.none, none, (Data.func ⟨z278, ⟨⟨[66,121,116,101,115,73,79,46,103,101,116,118,97,108,117,101]⟩⟩, (qA (qC 11 15)), (FuncBody.stmts (qB (qC 11 15))), (qS (qC 11 14)), 0, [], .none, .none, .none, .none, none, .none, .none, 0⟩), (List.toArray [])⟩
noncomputable def x154 (_ : Params) : Obj := ⟨(.type "code"), none, (Data.fields (List.toArray [(.str z278 523), (.str ⟨⟨[66,121,116,101,115,73,79,46,103,101,116,118,97,108,117,101]⟩⟩ 524), (.str z177 525), (.int 102 0), (.int 1 0), (.int 0 0), (.int 0 0), (.int 3 0), (.ref 227), (.bool true), (.int 273 0), (.ref 228), .none, (.ref 229), (.ref 230), (.ref 231), (.int 527 0), (.int 102 0), (.str z177 528)])), (List.toArray [])⟩
noncomputable def x155 (_ : Params) : Obj := ⟨(.type "function"), none, (Data.func ⟨z278, ⟨⟨[66,121,116,101,115,73,79,46,103,101,116,118,97,108,117,101]⟩⟩, (qA (qC 11 15)), (FuncBody.stmts (qB (qC 11 15))), (qS (qC 11 14)), 3, [], .none, .none, .none, (.str z257 296), none, (.ref 232), .none, 0⟩), (List.toArray [])⟩
noncomputable def x156 (_ : Params) : Obj := ⟨(.type "tuple"), none, (Data.seq (List.toArray [(.str z293 533)]) 0), (List.toArray [])⟩
noncomputable def x157 (_ : Params) : Obj := ⟨.none, none, (Data.func ⟨z279, ⟨⟨[66,121,116,101,115,73,79,46,103,101,116,98,117,102,102,101,114]⟩⟩, (qA (qC 11 16)), (FuncBody.stmts (qB (qC 11 16))), (qS (qC 11 14)), 0, [], .none, .none, .none, .none, none, .none, .none, 0⟩), (List.toArray [])⟩
noncomputable def x158 (_ : Params) : Obj := ⟨(.type "code"), none, (Data.fields (List.toArray [(.str z279 530), (.str ⟨⟨[66,121,116,101,115,73,79,46,103,101,116,98,117,102,102,101,114]⟩⟩ 531), (.str z177 532), (.int 105 0), (.int 1 0), (.int 0 0), (.int 0 0), (.int 3 0), (.ref 234), (.bool true), (.int 273 0), (.ref 235), .none, (.ref 236), (.ref 237), (.ref 238), (.int 534 0), (.int 105 0), (.str z177 535)])), (List.toArray [])⟩
noncomputable def x159 (_ : Params) : Obj := ⟨(.type "function"), none, (Data.func ⟨z279, ⟨⟨[66,121,116,101,115,73,79,46,103,101,116,98,117,102,102,101,114]⟩⟩, (qA (qC 11 16)), (FuncBody.stmts (qB (qC 11 16))), (qS (qC 11 14)), 3, [], .none, .none, .none, (.str z257 296), none, (.ref 239), .none, 0⟩), (List.toArray [])⟩
noncomputable def x160 (_ : Params) : Obj := ⟨(.type "tuple"), none, (Data.seq (List.toArray [(.str z293 540)]) 0), (List.toArray [])⟩
noncomputable def x161 (_ : Params) : Obj := ⟨.none, none, (Data.func ⟨z280, ⟨⟨[66,121,116,101,115,73,79,46,116,101,108,108]⟩⟩, (qA (qC 11 17)), (FuncBody.stmts (qB (qC 11 17))), (qS (qC 11 4)), 0, [], .none, .none, .none, .none, none, .none, .none, 0⟩), (List.toArray [])⟩
noncomputable def x162 (_ : Params) : Obj := ⟨(.type "code"), none, (Data.fields (List.toArray [(.str z280 537), (.str ⟨⟨[66,121,116,101,115,73,79,46,116,101,108,108]⟩⟩ 538), (.str z177 539), (.int 108 0), (.int 1 0), (.int 0 0), (.int 0 0), (.int 3 0), (.ref 241), (.bool true), (.int 273 0), (.ref 242), .none, (.ref 243), (.ref 244), (.ref 245), (.int 541 0), (.int 108 0), (.str z177 542)])), (List.toArray [])⟩
noncomputable def x163 (_ : Params) : Obj := ⟨(.type "function"), none, (Data.func ⟨z280, ⟨⟨[66,121,116,101,115,73,79,46,116,101,108,108]⟩⟩, (qA (qC 11 17)), (FuncBody.stmts (qB (qC 11 17))), (qS (qC 11 4)), 3, [], .none, .none, .none, (.str z257 296), none, (.ref 246), .none, 0⟩), (List.toArray [])⟩
noncomputable def x164 (_ : Params) : Obj := ⟨(.type "tuple"), none, (Data.seq (List.toArray [(.int 0 544)]) 0), (List.toArray [])⟩
noncomputable def x165 (_ : Params) : Obj := ⟨(.type "tuple"), none, (Data.seq (List.toArray [(.str z293 548), (.str ⟨⟨[112,111,115]⟩⟩ 549), (.str ⟨⟨[119,104,101,110,99,101]⟩⟩ 550)]) 0), (List.toArray [])⟩
noncomputable def x166 (_ : Params) : Obj := ⟨.none, none, (Data.func ⟨z281, ⟨⟨[66,121,116,101,115,73,79,46,115,101,101,107]⟩⟩, (qA (qC 11 18)), (FuncBody.stmts (qB (qC 11 18))), (qS (qC 11 18)), 0, [], .none, .none, .none, .none, none, .none, .none, 0⟩), (List.toArray [])⟩
noncomputable def x167 (_ : Params) : Obj := ⟨(.type "code"), none, (Data.fields (List.toArray [(.str z281 545), (.str ⟨⟨[66,121,116,101,115,73,79,46,115,101,101,107]⟩⟩ 546), (.str z177 547), (.int 112 0), (.int 3 0), (.int 3 0), (.int 0 0), (.int 3 0), (.ref 249), (.bool true), (.int 273 0), (.ref 250), .none, (.ref 251), (.ref 252), (.ref 253), (.int 551 0), (.int 112 0), (.str z177 552)])), (List.toArray [])⟩
noncomputable def x168 (_ : Params) : Obj := ⟨(.type "function"), none, (Data.func ⟨z281, ⟨⟨[66,121,116,101,115,73,79,46,115,101,101,107]⟩⟩, (qA (qC 11 18)), (FuncBody.stmts (qB (qC 11 18))), (qS (qC 11 18)), 3, [], (.ref 248), .none, .none, (.str z257 296), none, (.ref 254), .none, 0⟩), (List.toArray [])⟩
noncomputable def x169 (_ : Params) : Obj := ⟨(.type "tuple"), none, (Data.seq (List.toArray [(.str z293 557), (.str z321 558)]) 0), (List.toArray [])⟩
noncomputable def x170 (_ : Params) : Obj := ⟨.none, none, (Data.func ⟨z282, ⟨⟨[66,121,116,101,115,73,79,46,116,114,117,110,99,97,116,101]⟩⟩, (qA (qC 11 19)), (FuncBody.stmts (qB (qC 11 19))), (qS (qC 11 19)), 0, [], .none, .none, .none, .none, none, .none, .none, 0⟩), (List.toArray [])⟩
noncomputable def x171 (_ : Params) : Obj := ⟨(.type "code"), none, (Data.fields (List.toArray [(.str z282 554), (.str ⟨⟨[66,121,116,101,115,73,79,46,116,114,117,110,99,97,116,101]⟩⟩ 555), (.str z177 556), (.int 129 0), (.int 2 0), (.int 2 0), (.int 0 0), (.int 3 0), (.ref 257), (.bool true), (.int 273 0), (.ref 258), .none, (.ref 259), (.ref 260), (.ref 261), (.int 559 0), (.int 129 0), (.str z177 560)])), (List.toArray [])⟩
noncomputable def x172 (_ : Params) : Obj := ⟨(.type "function"), none, (Data.func ⟨z282, ⟨⟨[66,121,116,101,115,73,79,46,116,114,117,110,99,97,116,101]⟩⟩, (qA (qC 11 19)), (FuncBody.stmts (qB (qC 11 19))), (qS (qC 11 19)), 3, [], (.ref 256), .none, .none, (.str z257 296), none, (.ref 262), .none, 0⟩), (List.toArray [])⟩
noncomputable def x173 (_ : Params) : Obj := ⟨(.type "tuple"), none, (Data.seq (List.toArray [(.int (Neg.neg 1) 563)]) 0), (List.toArray [])⟩
noncomputable def x174 (_ : Params) : Obj := ⟨(.type "tuple"), none, (Data.seq (List.toArray [(.str z293 567), (.str z321 568), (.str z299 569), (.str z300 570)]) 0), (List.toArray [])⟩
noncomputable def x175 (_ : Params) : Obj := ⟨.none, none, (Data.func ⟨z283, ⟨⟨[66,121,116,101,115,73,79,46,114,101,97,100]⟩⟩, (qA (qC 11 20)), (FuncBody.stmts (qB (qC 11 20))), (qS (qC 11 20)), 0, [], .none, .none, .none, .none, none, .none, .none, 0⟩), (List.toArray [])⟩
noncomputable def x176 (_ : Params) : Obj := ⟨(.type "code"), none, (Data.fields (List.toArray [(.str z283 564), (.str ⟨⟨[66,121,116,101,115,73,79,46,114,101,97,100]⟩⟩ 565), (.str z177 566), (.int 132 0), (.int 2 0), (.int 2 0), (.int 0 0), (.int 3 0), (.ref 265), (.bool true), (.int 273 0), (.ref 266), .none, (.ref 267), (.ref 268), (.ref 269), (.int 571 0), (.int 132 0), (.str z177 572)])), (List.toArray [])⟩
noncomputable def x177 (_ : Params) : Obj := ⟨(.type "function"), none, (Data.func ⟨z283, ⟨⟨[66,121,116,101,115,73,79,46,114,101,97,100]⟩⟩, (qA (qC 11 20)), (FuncBody.stmts (qB (qC 11 20))), (qS (qC 11 20)), 3, [], (.ref 264), .none, .none, (.str z257 296), none, (.ref 270), .none, 0⟩), (List.toArray [])⟩
noncomputable def x178 (_ : Params) : Obj := ⟨(.type "tuple"), none, (Data.seq (List.toArray [(.int (Neg.neg 1) 575)]) 0), (List.toArray [])⟩
noncomputable def x179 (_ : Params) : Obj := ⟨(.type "tuple"), none, (Data.seq (List.toArray [(.str z293 579), (.str z321 580)]) 0), (List.toArray [])⟩
noncomputable def x180 (_ : Params) : Obj := ⟨.none, none, (Data.func ⟨z284, ⟨⟨[66,121,116,101,115,73,79,46,114,101,97,100,49]⟩⟩, (qA (qC 11 21)), (FuncBody.stmts (qB (qC 11 21))), (qS (qC 11 19)), 0, [], .none, .none, .none, .none, none, .none, .none, 0⟩), (List.toArray [])⟩
noncomputable def x181 (_ : Params) : Obj := ⟨(.type "code"), none, (Data.fields (List.toArray [(.str z284 576), (.str ⟨⟨[66,121,116,101,115,73,79,46,114,101,97,100,49]⟩⟩ 577), (.str z177 578), (.int 146 0), (.int 2 0), (.int 2 0), (.int 0 0), (.int 3 0), (.ref 273), (.bool true), (.int 273 0), (.ref 274), .none, (.ref 275), (.ref 276), (.ref 277), (.int 581 0), (.int 146 0), (.str z177 582)])), (List.toArray [])⟩
noncomputable def x182 (_ : Params) : Obj := ⟨(.type "function"), none, (Data.func ⟨z284, ⟨⟨[66,121,116,101,115,73,79,46,114,101,97,100,49]⟩⟩, (qA (qC 11 21)), (FuncBody.stmts (qB (qC 11 21))), (qS (qC 11 19)), 3, [], (.ref 272), .none, .none, (.str z257 296), none, (.ref 278), .none, 0⟩), (List.toArray [])⟩
noncomputable def x183 (_ : Params) : Obj := ⟨(.type "tuple"), none, (Data.seq (List.toArray [(.str z293 587), (.str ⟨⟨[98,117,102,102,101,114]⟩⟩ 588), (.str z299 589), (.str z255 590)]) 0), (List.toArray [])⟩
noncomputable def x184 (_ : Params) : Obj := ⟨.none, none, (Data.func ⟨z285, ⟨⟨[66,121,116,101,115,73,79,46,114,101,97,100,105,110,116,111]⟩⟩, (qA (qC 11 22)), (FuncBody.stmts (qB (qC 11 22))), (qS (qC 11 22)), 0, [], .none, .none, .none, .none, none, .none, .none, 0⟩), (List.toArray [])⟩
noncomputable def x185 (_ : Params) : Obj := ⟨(.type "code"), none, (Data.fields (List.toArray [(.str z285 584), (.str ⟨⟨[66,121,116,101,115,73,79,46,114,101,97,100,105,110,116,111]⟩⟩ 585), (.str z177 586), (.int 149 0), (.int 2 0), (.int 2 0), (.int 0 0), (.int 3 0), (.ref 280), (.bool true), (.int 273 0), (.ref 281), .none, (.ref 282), (.ref 283), (.ref 284), (.int 591 0), (.int 149 0), (.str z177 592)])), (List.toArray [])⟩
noncomputable def x186 (_ : Params) : Obj := ⟨(.type "function"), none, (Data.func ⟨z285, ⟨⟨[66,121,116,101,115,73,79,46,114,101,97,100,105,110,116,111]⟩⟩, (qA (qC 11 22)), (FuncBody.stmts (qB (qC 11 22))), (qS (qC 11 22)), 3, [], .none, .none, .none, (.str z257 296), none, (.ref 285), .none, 0⟩), (List.toArray [])⟩
noncomputable def x187 (_ : Params) : Obj := ⟨(.type "tuple"), none, (Data.seq (List.toArray [(.str z293 597), (.str ⟨⟨[98,117,102,102,101,114]⟩⟩ 598)]) 0), (List.toArray [])⟩
noncomputable def x188 (_ : Params) : Obj := ⟨.none, none, (Data.func ⟨z286, ⟨⟨[66,121,116,101,115,73,79,46,114,101,97,100,105,110,116,111,49]⟩⟩, (qA (qC 11 23)), (FuncBody.stmts (qB (qC 11 23))), (qS (qC 11 23)), 0, [], .none, .none, .none, .none, none, .none, .none, 0⟩), (List.toArray [])⟩
noncomputable def x189 (_ : Params) : Obj := ⟨(.type "code"), none, (Data.fields (List.toArray [(.str z286 594), (.str ⟨⟨[66,121,116,101,115,73,79,46,114,101,97,100,105,110,116,111,49]⟩⟩ 595), (.str z177 596), (.int 163 0), (.int 2 0), (.int 2 0), (.int 0 0), (.int 3 0), (.ref 287), (.bool true), (.int 273 0), (.ref 288), .none, (.ref 289), (.ref 290), (.ref 291), (.int 599 0), (.int 163 0), (.str z177 600)])), (List.toArray [])⟩
noncomputable def x190 (_ : Params) : Obj := ⟨(.type "function"), none, (Data.func ⟨z286, ⟨⟨[66,121,116,101,115,73,79,46,114,101,97,100,105,110,116,111,49]⟩⟩, (qA (qC 11 23)), (FuncBody.stmts (qB (qC 11 23))), (qS (qC 11 23)), 3, [], .none, .none, .none, (.str z257 296), none, (.ref 292), .none, 0⟩), (List.toArray [])⟩
noncomputable def x191 (_ : Params) : Obj := ⟨(.type "tuple"), none, (Data.seq (List.toArray [(.int (Neg.neg 1) 603)]) 0), (List.toArray [])⟩
noncomputable def x192 (_ : Params) : Obj := ⟨(.type "tuple"), none, (Data.seq (List.toArray [(.str z293 607), (.str z321 608)]) 0), (List.toArray [])⟩
noncomputable def x193 (_ : Params) : Obj := ⟨.none, none, (Data.func ⟨z287, ⟨⟨[66,121,116,101,115,73,79,46,114,101,97,100,108,105,110,101]⟩⟩, (qA (qC 11 24)), (FuncBody.stmts (qB (qC 11 24))), (qS (qC 11 24)), 0, [], .none, .none, .none, .none, none, .none, .none, 0⟩), (List.toArray [])⟩
noncomputable def x194 (_ : Params) : Obj := ⟨(.type "code"), none, (Data.fields (List.toArray [(.str z287 604), (.str ⟨⟨[66,121,116,101,115,73,79,46,114,101,97,100,108,105,110,101]⟩⟩ 605), (.str z177 606), (.int 166 0), (.int 2 0), (.int 2 0), (.int 0 0), (.int 3 0), (.ref 295), (.bool true), (.int 273 0), (.ref 296), .none, (.ref 297), (.ref 298), (.ref 299), (.int 609 0), (.int 166 0), (.str z177 610)])), (List.toArray [])⟩
noncomputable def x195 (_ : Params) : Obj := ⟨(.type "function"), none, (Data.func ⟨z287, ⟨⟨[66,121,116,101,115,73,79,46,114,101,97,100,108,105,110,101]⟩⟩, (qA (qC 11 24)), (FuncBody.stmts (qB (qC 11 24))), (qS (qC 11 24)), 3, [], (.ref 294), .none, .none, (.str z257 296), none, (.ref 300), .none, 0⟩), (List.toArray [])⟩
noncomputable def x196 (_ : Params) : Obj := ⟨(.type "tuple"), none, (Data.seq (List.toArray [(.str z293 615), (.str z321 616)]) 0), (List.toArray [])⟩
noncomputable def x197 (_ : Params) : Obj := ⟨.none, none, (Data.func ⟨z288, ⟨⟨[66,121,116,101,115,73,79,46,114,101,97,100,108,105,110,101,115]⟩⟩, (qA (qC 11 25)), (FuncBody.stmts (qB (qC 11 25))), (qS (qC 11 19)), 0, [], .none, .none, .none, .none, none, .none, .none, 0⟩), (List.toArray [])⟩
noncomputable def x198 (_ : Params) : Obj := ⟨(.type "code"), none, (Data.fields (List.toArray [(.str z288 612), (.str ⟨⟨[66,121,116,101,115,73,79,46,114,101,97,100,108,105,110,101,115]⟩⟩ 613), (.str z177 614), (.int 173 0), (.int 2 0), (.int 2 0), (.int 0 0), (.int 3 0), (.ref 303), (.bool true), (.int 273 0), (.ref 304), .none, (.ref 305), (.ref 306), (.ref 307), (.int 617 0), (.int 173 0), (.str z177 618)])), (List.toArray [])⟩
noncomputable def x199 (_ : Params) : Obj := ⟨(.type "function"), none, (Data.func ⟨z288, ⟨⟨[66,121,116,101,115,73,79,46,114,101,97,100,108,105,110,101,115]⟩⟩, (qA (qC 11 25)), (FuncBody.stmts (qB (qC 11 25))), (qS (qC 11 19)), 3, [], (.ref 302), .none, .none, (.str z257 296), none, (.ref 308), .none, 0⟩), (List.toArray [])⟩
noncomputable def x200 (_ : Params) : Obj := ⟨(.type "tuple"), none, (Data.seq (List.toArray [(.str z293 623)]) 0), (List.toArray [])⟩
noncomputable def x201 (_ : Params) : Obj := ⟨.none, none, (Data.func ⟨z289, ⟨⟨[66,121,116,101,115,73,79,46,95,95,105,116,101,114,95,95]⟩⟩, (qA (qC 11 26)), (FuncBody.stmts (qB (qC 11 26))), (qS (qC 11 4)), 0, [], .none, .none, .none, .none, none, .none, .none, 0⟩), (List.toArray [])⟩
noncomputable def x202 (_ : Params) : Obj := ⟨(.type "code"), none, (Data.fields (List.toArray [(.str z289 620), (.str ⟨⟨[66,121,116,101,115,73,79,46,95,95,105,116,101,114,95,95]⟩⟩ 621), (.str z177 622), (.int 176 0), (.int 1 0), (.int 0 0), (.int 0 0), (.int 3 0), (.ref 310), (.bool true), (.int 273 0), (.ref 311), .none, (.ref 312), (.ref 313), (.ref 314), (.int 624 0), (.int 176 0), (.str z177 625)])), (List.toArray [])⟩
noncomputable def x203 (_ : Params) : Obj := ⟨(.type "function"), none, (Data.func ⟨z289, ⟨⟨[66,121,116,101,115,73,79,46,95,95,105,116,101,114,95,95]⟩⟩, (qA (qC 11 26)), (FuncBody.stmts (qB (qC 11 26))), (qS (qC 11 4)), 3, [], .none, .none, .none, (.str z257 296), none, (.ref 315), .none, 0⟩), (List.toArray [])⟩
noncomputable def x204 (_ : Params) : Obj := ⟨(.type "tuple"), none, (Data.seq (List.toArray [(.str z293 630), (.str ⟨⟨[108,105,110,101]⟩⟩ 631)]) 0), (List.toArray [])⟩
noncomputable def x205 (_ : Params) : Obj := ⟨.none, none, (Data.func ⟨z290, ⟨⟨[66,121,116,101,115,73,79,46,95,95,110,101,120,116,95,95]⟩⟩, (qA (qC 11 27)), (FuncBody.stmts (qB (qC 11 27))), (qS (qC 11 27)), 0, [], .none, .none, .none, .none, none, .none, .none, 0⟩), (List.toArray [])⟩
noncomputable def x206 (_ : Params) : Obj := ⟨(.type "code"), none, (Data.fields (List.toArray [(.str z290 627), (.str ⟨⟨[66,121,116,101,115,73,79,46,95,95,110,101,120,116,95,95]⟩⟩ 628), (.str z177 629), (.int 179 0), (.int 1 0), (.int 0 0), (.int 0 0), (.int 3 0), (.ref 317), (.bool true), (.int 273 0), (.ref 318), .none, (.ref 319), (.ref 320), (.ref 321), (.int 632 0), (.int 179 0), (.str z177 633)])), (List.toArray [])⟩
noncomputable def x207 (_ : Params) : Obj := ⟨(.type "function"), none, (Data.func ⟨z290, ⟨⟨[66,121,116,101,115,73,79,46,95,95,110,101,120,116,95,95]⟩⟩, (qA (qC 11 27)), (FuncBody.stmts (qB (qC 11 27))), (qS (qC 11 27)), 3, [], .none, .none, .none, (.str z257 296), none, (.ref 322), .none, 0⟩), (List.toArray [])⟩
noncomputable def x208 (_ : Params) : Obj := ⟨(.type "tuple"), none, (Data.seq (List.toArray [(.str z293 638), (.str ⟨⟨[98]⟩⟩ 639), (.str z255 640), (.str z299 641)]) 0), (List.toArray [])⟩
noncomputable def x209 (_ : Params) : Obj := ⟨.none, none, (Data.func ⟨z291, ⟨⟨[66,121,116,101,115,73,79,46,119,114,105,116,101]⟩⟩, (qA (qC 11 28)), (FuncBody.stmts (qB (qC 11 28))), (qS (qC 11 28)), 0, [], .none, .none, .none, .none, none, .none, .none, 0⟩), (List.toArray [])⟩
noncomputable def x210 (_ : Params) : Obj := ⟨(.type "code"), none, (Data.fields (List.toArray [(.str z291 635), (.str ⟨⟨[66,121,116,101,115,73,79,46,119,114,105,116,101]⟩⟩ 636), (.str z177 637), (.int 186 0), (.int 2 0), (.int 2 0), (.int 0 0), (.int 3 0), (.ref 324), (.bool true), (.int 273 0), (.ref 325), .none, (.ref 326), (.ref 327), (.ref 328), (.int 642 0), (.int 186 0), (.str z177 643)])), (List.toArray [])⟩
noncomputable def x211 (_ : Params) : Obj := ⟨(.type "function"), none, (Data.func ⟨z291, ⟨⟨[66,121,116,101,115,73,79,46,119,114,105,116,101]⟩⟩, (qA (qC 11 28)), (FuncBody.stmts (qB (qC 11 28))), (qS (qC 11 28)), 3, [], .none, .none, .none, (.str z257 296), none, (.ref 329), .none, 0⟩), (List.toArray [])⟩
noncomputable def x212 (_ : Params) : Obj := ⟨(.type "tuple"), none, (Data.seq (List.toArray [(.str z293 648), (.str ⟨⟨[108,105,110,101,115]⟩⟩ 649)]) 0), (List.toArray [])⟩
noncomputable def x213 (_ : Params) : Obj := ⟨.none, none, (Data.func ⟨z292, ⟨⟨[66,121,116,101,115,73,79,46,119,114,105,116,101,108,105,110,101,115]⟩⟩, (qA (qC 11 29)), (FuncBody.stmts (qB (qC 11 29))), (qS (qC 11 29)), 0, [], .none, .none, .none, .none, none, .none, .none, 0⟩), (List.toArray [])⟩
noncomputable def x214 (_ : Params) : Obj := ⟨(.type "code"), none, (Data.fields (List.toArray [(.str z292 645), (.str ⟨⟨[66,121,116,101,115,73,79,46,119,114,105,116,101,108,105,110,101,115]⟩⟩ 646), (.str z177 647), (.int 202 0), (.int 2 0), (.int 2 0), (.int 0 0), (.int 3 0), (.ref 331), (.bool true), (.int 273 0), (.ref 332), .none, (.ref 333), (.ref 334), (.ref 335), (.int 650 0), (.int 202 0), (.str z177 651)])), (List.toArray [])⟩
noncomputable def x215 (_ : Params) : Obj := ⟨(.type "function"), none, (Data.func ⟨z292, ⟨⟨[66,121,116,101,115,73,79,46,119,114,105,116,101,108,105,110,101,115]⟩⟩, (qA (qC 11 29)), (FuncBody.stmts (qB (qC 11 29))), (qS (qC 11 29)), 3, [], .none, .none, .none, (.str z257 296), none, (.ref 336), .none, 0⟩), (List.toArray [])⟩
noncomputable def x216 (_ : Params) : Obj := ⟨(.type "tuple"), none, (Data.seq (List.toArray [(.str z293 656)]) 0), (List.toArray [])⟩
noncomputable def x217 (_ : Params) : Obj := ⟨.none, none, (Data.func ⟨z216, ⟨⟨[66,121,116,101,115,73,79,46,95,95,114,101,112,114,95,95]⟩⟩, (qA (qC 11 30)), (FuncBody.stmts (qB (qC 11 30))), (qS (qC 11 14)), 0, [], .none, .none, .none, .none, none, .none, .none, 0⟩), (List.toArray [])⟩
noncomputable def x218 (_ : Params) : Obj := ⟨(.type "code"), none, (Data.fields (List.toArray [(.str z216 653), (.str ⟨⟨[66,121,116,101,115,73,79,46,95,95,114,101,112,114,95,95]⟩⟩ 654), (.str z177 655), (.int 205 0), (.int 1 0), (.int 0 0), (.int 0 0), (.int 3 0), (.ref 338), (.bool true), (.int 273 0), (.ref 339), .none, (.ref 340), (.ref 341), (.ref 342), (.int 657 0), (.int 205 0), (.str z177 658)])), (List.toArray [])⟩
noncomputable def x219 (_ : Params) : Obj := ⟨(.type "function"), none, (Data.func ⟨z216, ⟨⟨[66,121,116,101,115,73,79,46,95,95,114,101,112,114,95,95]⟩⟩, (qA (qC 11 30)), (FuncBody.stmts (qB (qC 11 30))), (qS (qC 11 14)), 3, [], .none, .none, .none, (.str z257 296), none, (.ref 343), .none, 0⟩), (List.toArray [])⟩
noncomputable def x220 (_ : Params) : Obj := ⟨(.type "tuple"), none, (Data.seq (List.toArray [(.str ⟨⟨[95,95,98,117,102]⟩⟩ 660), (.str ⟨⟨[95,95,112,111,115]⟩⟩ 661)]) 0), (List.toArray [])⟩
noncomputable def x221 (P : Params) : Obj := ⟨(.type "dict"), none, (Data.dict (List.toArray [⟨(PyData.keyHash P z188), (.str z188 411), (.str z264 416)⟩, ⟨(PyData.keyHash P z190), (.str z190 415), (.int 37 414)⟩, ⟨(PyData.keyHash P z215), (.str z215 425), (.ref 134)⟩, ⟨(PyData.keyHash P z265), (.str z265 432), (.ref 141)⟩, ⟨(PyData.keyHash P z266), (.str z266 443), (.ref 148)⟩, ⟨(PyData.keyHash P z267), (.str z267 451), (.ref 156)⟩, ⟨(PyData.keyHash P z268), (.str z268 458), (.ref 163)⟩, ⟨(PyData.keyHash P z269), (.str z269 465), (.ref 170)⟩, ⟨(PyData.keyHash P z270), (.str z270 473), (.ref 177)⟩, ⟨(PyData.keyHash P z271), (.str z271 480), (.ref 184)⟩, ⟨(PyData.keyHash P z272), (.str z272 487), (.ref 191)⟩, ⟨(PyData.keyHash P z273), (.str z273 494), (.ref 198)⟩, ⟨(PyData.keyHash P z274), (.str z274 501), (.ref 205)⟩, ⟨(PyData.keyHash P z275), (.str z275 508), (.ref 212)⟩, ⟨(PyData.keyHash P z276), (.str z276 515), (.ref 219)⟩, ⟨(PyData.keyHash P z277), (.str z277 522), (.ref 226)⟩, ⟨(PyData.keyHash P z278), (.str z278 529), (.ref 233)⟩, ⟨(PyData.keyHash P z279), (.str z279 536), (.ref 240)⟩, ⟨(PyData.keyHash P z280), (.str z280 543), (.ref 247)⟩, ⟨(PyData.keyHash P z281), (.str z281 553), (.ref 255)⟩, ⟨(PyData.keyHash P z282), (.str z282 561), (.ref 263)⟩, ⟨(PyData.keyHash P z283), (.str z283 573), (.ref 271)⟩, ⟨(PyData.keyHash P z284), (.str z284 583), (.ref 279)⟩, ⟨(PyData.keyHash P z285), (.str z285 593), (.ref 286)⟩, ⟨(PyData.keyHash P z286), (.str z286 601), (.ref 293)⟩, ⟨(PyData.keyHash P z287), (.str z287 611), (.ref 301)⟩, ⟨(PyData.keyHash P z288), (.str z288 619), (.ref 309)⟩, ⟨(PyData.keyHash P z289), (.str z289 626), (.ref 316)⟩, ⟨(PyData.keyHash P z290), (.str z290 634), (.ref 323)⟩, ⟨(PyData.keyHash P z291), (.str z291 644), (.ref 330)⟩, ⟨(PyData.keyHash P z292), (.str z292 652), (.ref 337)⟩, ⟨(PyData.keyHash P z216), (.str z216 659), (.ref 344)⟩, ⟨(PyData.keyHash P z200), (.str z200 662), (.ref 345)⟩, ⟨(PyData.keyHash P z2), (.str z2 663), .none⟩]) 2), (List.toArray [])⟩
noncomputable def x222 (_ : Params) : Obj := ⟨(.type "type"), none, (Data.cls ⟨z235, [(.ref 105)], [(.ref 347), (.ref 105), (.ref 90), (.type "object")], 346, z235, true, [], [], false, none, false⟩), (List.toArray [(some (.ref 120)), none, (some (.str z235 404)), (some (.str z235 412)), (some .none), (some (.bool true))])⟩
noncomputable def x223 (_ : Params) : Obj := ⟨(.type "super"), none, (Data.fields (List.toArray [(.ref 347), (.ref 347), (.ref 347)])), (List.toArray [])⟩
noncomputable def x224 (_ : Params) : Obj := ⟨(.type "builtin_function_or_method"), none, (Data.fields (List.toArray [(.builtin "object.__init_subclass__"), (.ref 347)])), (List.toArray [])⟩
noncomputable def x225 (_ : Params) : Obj := ⟨(.type "tuple"), none, (Data.seq (List.toArray [(.ref 117)]) 0), (List.toArray [])⟩
noncomputable def x226 (P : Params) : Obj := ⟨(.type "dict"), none, (Data.dict (List.toArray [⟨(PyData.keyHash P z188), (.str z188 673), (.str z264 678)⟩, ⟨(PyData.keyHash P z258), (.str z258 675), (.str z236 674)⟩, ⟨(PyData.keyHash P z190), (.str z190 677), (.int 207 676)⟩, ⟨(PyData.keyHash P z215), (.str z215 690), (.ref 364)⟩, ⟨(PyData.keyHash P z340), (.str z340 699), (.ref 371)⟩, ⟨(PyData.keyHash P z341), (.str z341 706), (.ref 378)⟩, ⟨(PyData.keyHash P z342), (.str z342 713), (.ref 385)⟩, ⟨(PyData.keyHash P z343), (.str z343 728), (.ref 392)⟩, ⟨(PyData.keyHash P z267), (.str z267 736), (.ref 400)⟩, ⟨(PyData.keyHash P z344), (.str z344 744), (.ref 408)⟩, ⟨(PyData.keyHash P z345), (.str z345 752), (.ref 416)⟩, ⟨(PyData.keyHash P z346), (.str z346 760), (.ref 424)⟩, ⟨(PyData.keyHash P z347), (.str z347 768), (.ref 432)⟩, ⟨(PyData.keyHash P z268), (.str z268 775), (.ref 439)⟩, ⟨(PyData.keyHash P z269), (.str z269 782), (.ref 446)⟩, ⟨(PyData.keyHash P z270), (.str z270 790), (.ref 453)⟩, ⟨(PyData.keyHash P z271), (.str z271 797), (.ref 460)⟩, ⟨(PyData.keyHash P z272), (.str z272 804), (.ref 467)⟩, ⟨(PyData.keyHash P z273), (.str z273 811), (.ref 474)⟩, ⟨(PyData.keyHash P z274), (.str z274 818), (.ref 481)⟩, ⟨(PyData.keyHash P z275), (.str z275 825), (.ref 488)⟩, ⟨(PyData.keyHash P z276), (.str z276 832), (.ref 495)⟩, ⟨(PyData.keyHash P z277), (.str z277 839), (.ref 502)⟩, ⟨(PyData.keyHash P z278), (.str z278 846), (.ref 509)⟩, ⟨(PyData.keyHash P z280), (.str z280 853), (.ref 516)⟩, ⟨(PyData.keyHash P z281), (.str z281 863), (.ref 524)⟩, ⟨(PyData.keyHash P z282), (.str z282 871), (.ref 532)⟩, ⟨(PyData.keyHash P z283), (.str z283 883), (.ref 540)⟩, ⟨(PyData.keyHash P z287), (.str z287 893), (.ref 548)⟩, ⟨(PyData.keyHash P z288), (.str z288 903), (.ref 556)⟩, ⟨(PyData.keyHash P z289), (.str z289 910), (.ref 563)⟩, ⟨(PyData.keyHash P z290), (.str z290 918), (.ref 570)⟩, ⟨(PyData.keyHash P z291), (.str z291 930), (.ref 577)⟩, ⟨(PyData.keyHash P z292), (.str z292 938), (.ref 584)⟩, ⟨(PyData.keyHash P z216), (.str z216 945), (.ref 591)⟩, ⟨(PyData.keyHash P z200), (.str z200 949), (.ref 592)⟩]) 36), (List.toArray [])⟩
noncomputable def x227 (_ : Params) : Obj := ⟨.none, none, (Data.fields (List.toArray [(.int 210 0), (.int 4 0), (.ref 363), (.int 223 0), (.int 4 0), (.ref 370), (.int 231 0), (.int 4 0), (.ref 377), (.int 235 0), (.int 4 0), (.ref 384), (.int 239 0), (.int 4 0), (.ref 391), (.int 272 0), (.int 4 0), (.ref 398), (.int 276 0), (.int 4 0), (.ref 406), (.int 280 0), (.int 4 0), (.ref 414), (.int 284 0), (.int 4 0), (.ref 422), (.int 288 0), (.int 4 0), (.ref 430), (.int 291 0), (.int 4 0), (.ref 438), (.int 294 0), (.int 4 0), (.ref 445), (.int 298 0), (.int 4 0), (.ref 452), (.int 301 0), (.int 4 0), (.ref 459), (.int 305 0), (.int 4 0), (.ref 466), (.int 309 0), (.int 4 0), (.ref 473), (.int 313 0), (.int 4 0), (.ref 480), (.int 317 0), (.int 4 0), (.ref 487), (.int 320 0), (.int 4 0), (.ref 494), (.int 323 0), (.int 4 0), (.ref 501), (.int 326 0), (.int 4 0), (.ref 508), (.int 329 0), (.int 4 0), (.ref 515), (.int 333 0), (.int 4 0), (.ref 523), (.int 350 0), (.int 4 0), (.ref 531), (.int 353 0), (.int 4 0), (.ref 539), (.int 367 0), (.int 4 0), (.ref 547), (.int 374 0), (.int 4 0), (.ref 555), (.int 377 0), (.int 4 0), (.ref 562), (.int 381 0), (.int 4 0), (.ref 569), (.int 388 0), (.int 4 0), (.ref 576), (.int 407 0), (.int 4 0), (.ref 583), (.int 410 0), (.int 4 0), (.ref 590)])), (List.toArray [])⟩
noncomputable def x228 (_ : Params) : Obj := ⟨(.type "code"), none, (Data.fields (List.toArray [(.str z236 668), (.str z236 669), (.str z177 670), (.int 207 0), (.int 0 0), (.int 0 0), (.int 0 0), (.int 0 0), (.ref 353), (.bool false), (.int 273 0), (.ref 354), .none, .none, .none, .none, (.int 671 0), (.int 207 0), (.str z177 672)])), (List.toArray [])⟩
noncomputable def x229 (_ : Params) : Obj := ⟨(.type "frame"), none, Data.plain, (List.toArray [(some (.ref 355)), (some (.ref 3)), (some (.ref 352)), none, (some (.str z257 296)), none, (some (.ref 0))])⟩
noncomputable def x230 (_ : Params) : Obj := ⟨(.type "tuple"), none, (Data.seq (List.toArray [(.str z181 680), (.str ⟨⟨[10]⟩⟩ 681)]) 0), (List.toArray [])⟩
noncomputable def x231 (_ : Params) : Obj := ⟨(.type "tuple"), none, (Data.seq (List.toArray [(.str z293 685), (.str ⟨⟨[105,110,105,116,105,97,108,95,118,97,108,117,101]⟩⟩ 686), (.str ⟨⟨[110,101,119,108,105,110,101]⟩⟩ 687)]) 0), (List.toArray [])⟩
noncomputable def x232 (_ : Params) : Obj := ⟨.none, none, (Data.func ⟨z215, ⟨⟨[83,116,114,105,110,103,73,79,46,95,95,105,110,105,116,95,95]⟩⟩, (qA (qC 12 1)), (FuncBody.stmts (qB (qC 12 1))), (qS (qC 12 1)), 0, [], .none, .none, .none, .none, none, .none, .none, 0⟩), (List.toArray [])⟩
noncomputable def x233 (_ : Params) : Obj := ⟨(.type "code"), none, (Data.fields (List.toArray [(.str z215 682), (.str ⟨⟨[83,116,114,105,110,103,73,79,46,95,95,105,110,105,116,95,95]⟩⟩ 683), (.str z177 684), (.int 210 0), (.int 3 0), (.int 0 0), (.int 0 0), (.int 3 0), (.ref 358), (.bool true), (.int 273 0), (.ref 359), .none, (.ref 360), (.ref 361), (.ref 362), (.int 688 0), (.int 210 0), (.str z177 689)])), (List.toArray [])⟩
noncomputable def x234 (_ : Params) : Obj := ⟨(.type "function"), none, (Data.func ⟨z215, ⟨⟨[83,116,114,105,110,103,73,79,46,95,95,105,110,105,116,95,95]⟩⟩, (qA (qC 12 1)), (FuncBody.stmts (qB (qC 12 1))), (qS (qC 12 1)), 3, [], (.ref 357), .none, .none, (.str z257 296), none, (.ref 363), .none, 0⟩), (List.toArray [])⟩
noncomputable def x235 (_ : Params) : Obj := ⟨(.type "tuple"), none, (Data.seq (List.toArray [(.str z293 694), (.str z352 695), (.str ⟨⟨[110,101,119,108,105,110,101]⟩⟩ 696)]) 0), (List.toArray [])⟩
noncomputable def x236 (_ : Params) : Obj := ⟨.none, none, (Data.func ⟨⟨⟨[95,95,116,114,97,110,115,108,97,116,101,100]⟩⟩, ⟨⟨[83,116,114,105,110,103,73,79,46,95,95,116,114,97,110,115,108,97,116,101,100]⟩⟩, (qA (qC 12 2)), (FuncBody.stmts (qB (qC 12 2))), (qS (qC 12 2)), 0, [], .none, .none, .none, .none, none, .none, .none, 0⟩), (List.toArray [])⟩
noncomputable def x237 (_ : Params) : Obj := ⟨(.type "code"), none, (Data.fields (List.toArray [(.str ⟨⟨[95,95,116,114,97,110,115,108,97,116,101,100]⟩⟩ 691), (.str ⟨⟨[83,116,114,105,110,103,73,79,46,95,95,116,114,97,110,115,108,97,116,101,100]⟩⟩ 692), (.str z177 693), (.int 223 0), (.int 2 0), (.int 0 0), (.int 0 0), (.int 3 0), (.ref 365), (.bool true), (.int 273 0), (.ref 366), .none, (.ref 367), (.ref 368), (.ref 369), (.int 697 0), (.int 223 0), (.str z177 698)])), (List.toArray [])⟩
noncomputable def x238 (_ : Params) : Obj := ⟨(.type "function"), none, (Data.func ⟨⟨⟨[95,95,116,114,97,110,115,108,97,116,101,100]⟩⟩, ⟨⟨[83,116,114,105,110,103,73,79,46,95,95,116,114,97,110,115,108,97,116,101,100]⟩⟩, (qA (qC 12 2)), (FuncBody.stmts (qB (qC 12 2))), (qS (qC 12 2)), 3, [], .none, .none, .none, (.str z257 296), none, (.ref 370), .none, 0⟩), (List.toArray [])⟩
noncomputable def x239 (_ : Params) : Obj := ⟨(.type "tuple"), none, (Data.seq (List.toArray [(.str z293 703)]) 0), (List.toArray [])⟩
noncomputable def x240 (_ : Params) : Obj := ⟨.none, none, (Data.func ⟨z296, ⟨⟨[83,116,114,105,110,103,73,79,46,95,95,99,104,101,99,107]⟩⟩, (qA (qC 12 3)), (FuncBody.stmts (qB (qC 12 3))), (qS (qC 11 2)), 0, [], .none, .none, .none, .none, none, .none, .none, 0⟩), (List.toArray [])⟩
noncomputable def x241 (_ : Params) : Obj := ⟨(.type "code"), none, (Data.fields (List.toArray [(.str z296 700), (.str ⟨⟨[83,116,114,105,110,103,73,79,46,95,95,99,104,101,99,107]⟩⟩ 701), (.str z177 702), (.int 231 0), (.int 1 0), (.int 0 0), (.int 0 0), (.int 3 0), (.ref 372), (.bool true), (.int 273 0), (.ref 373), .none, (.ref 374), (.ref 375), (.ref 376), (.int 704 0), (.int 231 0), (.str z177 705)])), (List.toArray [])⟩
noncomputable def x242 (_ : Params) : Obj := ⟨(.type "function"), none, (Data.func ⟨z296, ⟨⟨[83,116,114,105,110,103,73,79,46,95,95,99,104,101,99,107]⟩⟩, (qA (qC 12 3)), (FuncBody.stmts (qB (qC 12 3))), (qS (qC 11 2)), 3, [], .none, .none, .none, (.str z257 296), none, (.ref 377), .none, 0⟩), (List.toArray [])⟩
noncomputable def x243 (_ : Params) : Obj := ⟨(.type "tuple"), none, (Data.seq (List.toArray [(.str z293 710)]) 0), (List.toArray [])⟩
noncomputable def x244 (_ : Params) : Obj := ⟨.none, none, (Data.func ⟨⟨⟨[95,95,99,104,101,99,107,95,100,111,116]⟩⟩, ⟨⟨[83,116,114,105,110,103,73,79,46,95,95,99,104,101,99,107,95,100,111,116]⟩⟩, (qA (qC 12 4)), (FuncBody.stmts (qB (qC 12 4))), (qS (qC 11 2)), 0, [], .none, .none, .none, .none, none, .none, .none, 0⟩), (List.toArray [])⟩
noncomputable def x245 (_ : Params) : Obj := ⟨(.type "code"), none, (Data.fields (List.toArray [(.str ⟨⟨[95,95,99,104,101,99,107,95,100,111,116]⟩⟩ 707), (.str ⟨⟨[83,116,114,105,110,103,73,79,46,95,95,99,104,101,99,107,95,100,111,116]⟩⟩ 708), (.str z177 709), (.int 235 0), (.int 1 0), (.int 0 0), (.int 0 0), (.int 3 0), (.ref 379), (.bool true), (.int 273 0), (.ref 380), .none, (.ref 381), (.ref 382), (.ref 383), (.int 711 0), (.int 235 0), (.str z177 712)])), (List.toArray [])⟩
noncomputable def x246 (_ : Params) : Obj := ⟨(.type "function"), none, (Data.func ⟨⟨⟨[95,95,99,104,101,99,107,95,100,111,116]⟩⟩, ⟨⟨[83,116,114,105,110,103,73,79,46,95,95,99,104,101,99,107,95,100,111,116]⟩⟩, (qA (qC 12 4)), (FuncBody.stmts (qB (qC 12 4))), (qS (qC 11 2)), 3, [], .none, .none, .none, (.str z257 296), none, (.ref 384), .none, 0⟩), (List.toArray [])⟩
noncomputable def x247 (_ : Params) : Obj := ⟨(.type "tuple"), none, (Data.seq (List.toArray [(.str z293 717), (.str ⟨⟨[108,105,109,105,116]⟩⟩ 718), (.str z299 719), (.str z300 720), (.str ⟨⟨[99,117,116]⟩⟩ 721), (.str ⟨⟨[110,101,119,108,105,110,101]⟩⟩ 722), (.str ⟨⟨[105]⟩⟩ 723), (.str ⟨⟨[106]⟩⟩ 724), (.str ⟨⟨[101,110,100]⟩⟩ 725)]) 0), (List.toArray [])⟩
noncomputable def x248 (_ : Params) : Obj := ⟨.none, none, (Data.func ⟨z302, ⟨⟨[83,116,114,105,110,103,73,79,46,95,95,108,105,110,101]⟩⟩, (qA (qC 12 5)), (FuncBody.stmts (qB (qC 12 5))), (qS (qC 12 5)), 0, [], .none, .none, .none, .none, none, .none, .none, 0⟩), (List.toArray [])⟩
noncomputable def x249 (_ : Params) : Obj := ⟨(.type "code"), none, (Data.fields (List.toArray [(.str z302 714), (.str ⟨⟨[83,116,114,105,110,103,73,79,46,95,95,108,105,110,101]⟩⟩ 715), (.str z177 716), (.int 239 0), (.int 2 0), (.int 0 0), (.int 0 0), (.int 3 0), (.ref 386), (.bool true), (.int 273 0), (.ref 387), .none, (.ref 388), (.ref 389), (.ref 390), (.int 726 0), (.int 239 0), (.str z177 727)])), (List.toArray [])⟩
noncomputable def x250 (_ : Params) : Obj := ⟨(.type "function"), none, (Data.func ⟨z302, ⟨⟨[83,116,114,105,110,103,73,79,46,95,95,108,105,110,101]⟩⟩, (qA (qC 12 5)), (FuncBody.stmts (qB (qC 12 5))), (qS (qC 12 5)), 3, [], .none, .none, .none, (.str z257 296), none, (.ref 391), .none, 0⟩), (List.toArray [])⟩
noncomputable def x251 (_ : Params) : Obj := ⟨(.type "tuple"), none, (Data.seq (List.toArray [(.str z293 732)]) 0), (List.toArray [])⟩
noncomputable def x252 (_ : Params) : Obj := ⟨.none, none, (Data.func ⟨z267, ⟨⟨[83,116,114,105,110,103,73,79,46,99,108,111,115,101,100]⟩⟩, (qA (qC 12 6)), (FuncBody.stmts (qB (qC 12 6))), (qS (qC 11 4)), 0, [], .none, .none, .none, .none, none, .none, .none, 0⟩), (List.toArray [])⟩
noncomputable def x253 (_ : Params) : Obj := ⟨(.type "code"), none, (Data.fields (List.toArray [(.str z267 729), (.str ⟨⟨[83,116,114,105,110,103,73,79,46,99,108,111,115,101,100]⟩⟩ 730), (.str z177 731), (.int 271 0), (.int 1 0), (.int 0 0), (.int 0 0), (.int 3 0), (.ref 393), (.bool true), (.int 273 0), (.ref 394), .none, (.ref 395), (.ref 396), (.ref 397), (.int 733 0), (.int 271 0), (.str z177 734)])), (List.toArray [])⟩
noncomputable def x254 (_ : Params) : Obj := ⟨(.type "function"), none, (Data.func ⟨z267, ⟨⟨[83,116,114,105,110,103,73,79,46,99,108,111,115,101,100]⟩⟩, (qA (qC 12 6)), (FuncBody.stmts (qB (qC 12 6))), (qS (qC 11 4)), 3, [], .none, .none, .none, (.str z257 296), none, (.ref 398), .none, 0⟩), (List.toArray [])⟩
noncomputable def x255 (_ : Params) : Obj := ⟨(.type "property"), none, (Data.fields (List.toArray [(.ref 399), .none, .none, .none, (.str z267 736), (.bool false)])), (List.toArray [])⟩
noncomputable def x256 (_ : Params) : Obj := ⟨(.type "tuple"), none, (Data.seq (List.toArray [(.str z293 740)]) 0), (List.toArray [])⟩
noncomputable def x257 (_ : Params) : Obj := ⟨.none, none, (Data.func ⟨z344, ⟨⟨[83,116,114,105,110,103,73,79,46,108,105,110,101,95,98,117,102,102,101,114,105,110,103]⟩⟩, (qA (qC 12 7)), (FuncBody.stmts (qB (qC 12 7))), (qS (qC 11 14)), 0, [], .none, .none, .none, .none, none, .none, .none, 0⟩), (List.toArray [])⟩
noncomputable def x258 (_ : Params) : Obj := ⟨(.type "code"), none, (Data.fields (List.toArray [(.str z344 737), (.str ⟨⟨[83,116,114,105,110,103,73,79,46,108,105,110,101,95,98,117,102,102,101,114,105,110,103]⟩⟩ 738), (.str z177 739), (.int 275 0), (.int 1 0), (.int 0 0), (.int 0 0), (.int 3 0), (.ref 401), (.bool true), (.int 273 0), (.ref 402), .none, (.ref 403), (.ref 404), (.ref 405), (.int 741 0), (.int 275 0), (.str z177 742)])), (List.toArray [])⟩
noncomputable def x259 (_ : Params) : Obj := ⟨(.type "function"), none, (Data.func ⟨z344, ⟨⟨[83,116,114,105,110,103,73,79,46,108,105,110,101,95,98,117,102,102,101,114,105,110,103]⟩⟩, (qA (qC 12 7)), (FuncBody.stmts (qB (qC 12 7))), (qS (qC 11 14)), 3, [], .none, .none, .none, (.str z257 296), none, (.ref 406), .none, 0⟩), (List.toArray [])⟩
noncomputable def x260 (_ : Params) : Obj := ⟨(.type "property"), none, (Data.fields (List.toArray [(.ref 407), .none, .none, .none, (.str z344 744), (.bool false)])), (List.toArray [])⟩
noncomputable def x261 (_ : Params) : Obj := ⟨(.type "tuple"), none, (Data.seq (List.toArray [(.str z293 748)]) 0), (List.toArray [])⟩
noncomputable def x262 (_ : Params) : Obj := ⟨.none, none, (Data.func ⟨z345, ⟨⟨[83,116,114,105,110,103,73,79,46,110,101,119,108,105,110,101,115]⟩⟩, (qA (qC 12 8)), (FuncBody.stmts (qB (qC 12 8))), (qS (qC 11 14)), 0, [], .none, .none, .none, .none, none, .none, .none, 0⟩), (List.toArray [])⟩
noncomputable def x263 (_ : Params) : Obj := ⟨(.type "code"), none, (Data.fields (List.toArray [(.str z345 745), (.str ⟨⟨[83,116,114,105,110,103,73,79,46,110,101,119,108,105,110,101,115]⟩⟩ 746), (.str z177 747), (.int 279 0), (.int 1 0), (.int 0 0), (.int 0 0), (.int 3 0), (.ref 409), (.bool true), (.int 273 0), (.ref 410), .none, (.ref 411), (.ref 412), (.ref 413), (.int 749 0), (.int 279 0), (.str z177 750)])), (List.toArray [])⟩
noncomputable def x264 (_ : Params) : Obj := ⟨(.type "function"), none, (Data.func ⟨z345, ⟨⟨[83,116,114,105,110,103,73,79,46,110,101,119,108,105,110,101,115]⟩⟩, (qA (qC 12 8)), (FuncBody.stmts (qB (qC 12 8))), (qS (qC 11 14)), 3, [], .none, .none, .none, (.str z257 296), none, (.ref 414), .none, 0⟩), (List.toArray [])⟩
noncomputable def x265 (_ : Params) : Obj := ⟨(.type "property"), none, (Data.fields (List.toArray [(.ref 415), .none, .none, .none, (.str z345 752), (.bool false)])), (List.toArray [])⟩
noncomputable def x266 (_ : Params) : Obj := ⟨(.type "tuple"), none, (Data.seq (List.toArray [(.str z293 756)]) 0), (List.toArray [])⟩
noncomputable def x267 (_ : Params) : Obj := ⟨.none, none, (Data.func ⟨z346, ⟨⟨[83,116,114,105,110,103,73,79,46,101,110,99,111,100,105,110,103]⟩⟩, (qA (qC 12 9)), (FuncBody.stmts (qB (qC 12 9))), (qS (qC 11 14)), 0, [], .none, .none, .none, .none, none, .none, .none, 0⟩), (List.toArray [])⟩
noncomputable def x268 (_ : Params) : Obj := ⟨(.type "code"), none, (Data.fields (List.toArray [(.str z346 753), (.str ⟨⟨[83,116,114,105,110,103,73,79,46,101,110,99,111,100,105,110,103]⟩⟩ 754), (.str z177 755), (.int 283 0), (.int 1 0), (.int 0 0), (.int 0 0), (.int 3 0), (.ref 417), (.bool true), (.int 273 0), (.ref 418), .none, (.ref 419), (.ref 420), (.ref 421), (.int 757 0), (.int 283 0), (.str z177 758)])), (List.toArray [])⟩
noncomputable def x269 (_ : Params) : Obj := ⟨(.type "function"), none, (Data.func ⟨z346, ⟨⟨[83,116,114,105,110,103,73,79,46,101,110,99,111,100,105,110,103]⟩⟩, (qA (qC 12 9)), (FuncBody.stmts (qB (qC 12 9))), (qS (qC 11 14)), 3, [], .none, .none, .none, (.str z257 296), none, (.ref 422), .none, 0⟩), (List.toArray [])⟩
noncomputable def x270 (_ : Params) : Obj := ⟨(.type "property"), none, (Data.fields (List.toArray [(.ref 423), .none, .none, .none, (.str z346 760), (.bool false)])), (List.toArray [])⟩
noncomputable def x271 (_ : Params) : Obj := ⟨(.type "tuple"), none, (Data.seq (List.toArray [(.str z293 764)]) 0), (List.toArray [])⟩
noncomputable def x272 (_ : Params) : Obj := ⟨.none, none, (Data.func ⟨z347, ⟨⟨[83,116,114,105,110,103,73,79,46,101,114,114,111,114,115]⟩⟩, (qA (qC 12 10)), (FuncBody.stmts (qB (qC 12 10))), (qS (qC 11 14)), 0, [], .none, .none, .none, .none, none, .none, .none, 0⟩), (List.toArray [])⟩
noncomputable def x273 (_ : Params) : Obj := ⟨(.type "code"), none, (Data.fields (List.toArray [(.str z347 761), (.str ⟨⟨[83,116,114,105,110,103,73,79,46,101,114,114,111,114,115]⟩⟩ 762), (.str z177 763), (.int 287 0), (.int 1 0), (.int 0 0), (.int 0 0), (.int 3 0), (.ref 425), (.bool true), (.int 273 0), (.ref 426), .none, (.ref 427), (.ref 428), (.ref 429), (.int 765 0), (.int 287 0), (.str z177 766)])), (List.toArray [])⟩
noncomputable def x274 (_ : Params) : Obj := ⟨(.type "function"), none, (Data.func ⟨z347, ⟨⟨[83,116,114,105,110,103,73,79,46,101,114,114,111,114,115]⟩⟩, (qA (qC 12 10)), (FuncBody.stmts (qB (qC 12 10))), (qS (qC 11 14)), 3, [], .none, .none, .none, (.str z257 296), none, (.ref 430), .none, 0⟩), (List.toArray [])⟩
noncomputable def x275 (_ : Params) : Obj := ⟨(.type "property"), none, (Data.fields (List.toArray [(.ref 431), .none, .none, .none, (.str z347 768), (.bool false)])), (List.toArray [])⟩
noncomputable def x276 (_ : Params) : Obj := ⟨(.type "tuple"), none, (Data.seq (List.toArray [(.str z293 772)]) 0), (List.toArray [])⟩
noncomputable def x277 (_ : Params) : Obj := ⟨.none, none, (Data.func ⟨z268, ⟨⟨[83,116,114,105,110,103,73,79,46,99,108,111,115,101]⟩⟩, (qA (qC 12 11)), (FuncBody.stmts (qB (qC 12 11))), (qS (qC 11 4)), 0, [], .none, .none, .none, .none, none, .none, .none, 0⟩), (List.toArray [])⟩
noncomputable def x278 (_ : Params) : Obj := ⟨(.type "code"), none, (Data.fields (List.toArray [(.str z268 769), (.str ⟨⟨[83,116,114,105,110,103,73,79,46,99,108,111,115,101]⟩⟩ 770), (.str z177 771), (.int 291 0), (.int 1 0), (.int 0 0), (.int 0 0), (.int 3 0), (.ref 433), (.bool true), (.int 273 0), (.ref 434), .none, (.ref 435), (.ref 436), (.ref 437), (.int 773 0), (.int 291 0), (.str z177 774)])), (List.toArray [])⟩
noncomputable def x279 (_ : Params) : Obj := ⟨(.type "function"), none, (Data.func ⟨z268, ⟨⟨[83,116,114,105,110,103,73,79,46,99,108,111,115,101]⟩⟩, (qA (qC 12 11)), (FuncBody.stmts (qB (qC 12 11))), (qS (qC 11 4)), 3, [], .none, .none, .none, (.str z257 296), none, (.ref 438), .none, 0⟩), (List.toArray [])⟩
noncomputable def x280 (_ : Params) : Obj := ⟨(.type "tuple"), none, (Data.seq (List.toArray [(.str z293 779)]) 0), (List.toArray [])⟩
noncomputable def x281 (_ : Params) : Obj := ⟨.none, none, (Data.func ⟨z269, ⟨⟨[83,116,114,105,110,103,73,79,46,95,95,101,110,116,101,114,95,95]⟩⟩, (qA (qC 12 12)), (FuncBody.stmts (qB (qC 12 12))), (qS (qC 11 4)), 0, [], .none, .none, .none, .none, none, .none, .none, 0⟩), (List.toArray [])⟩
noncomputable def x282 (_ : Params) : Obj := ⟨(.type "code"), none, (Data.fields (List.toArray [(.str z269 776), (.str ⟨⟨[83,116,114,105,110,103,73,79,46,95,95,101,110,116,101,114,95,95]⟩⟩ 777), (.str z177 778), (.int 294 0), (.int 1 0), (.int 0 0), (.int 0 0), (.int 3 0), (.ref 440), (.bool true), (.int 273 0), (.ref 441), .none, (.ref 442), (.ref 443), (.ref 444), (.int 780 0), (.int 294 0), (.str z177 781)])), (List.toArray [])⟩
noncomputable def x283 (_ : Params) : Obj := ⟨(.type "function"), none, (Data.func ⟨z269, ⟨⟨[83,116,114,105,110,103,73,79,46,95,95,101,110,116,101,114,95,95]⟩⟩, (qA (qC 12 12)), (FuncBody.stmts (qB (qC 12 12))), (qS (qC 11 4)), 3, [], .none, .none, .none, (.str z257 296), none, (.ref 445), .none, 0⟩), (List.toArray [])⟩
noncomputable def x284 (_ : Params) : Obj := ⟨(.type "tuple"), none, (Data.seq (List.toArray [(.str z293 786), (.str z261 787)]) 0), (List.toArray [])⟩
noncomputable def x285 (_ : Params) : Obj := ⟨.none, none, (Data.func ⟨z270, ⟨⟨[83,116,114,105,110,103,73,79,46,95,95,101,120,105,116,95,95]⟩⟩, (qA (qC 12 13)), (FuncBody.stmts (qB (qC 12 13))), (qS (qC 11 7)), 0, [], .none, .none, .none, .none, none, .none, .none, 0⟩), (List.toArray [])⟩
noncomputable def x286 (_ : Params) : Obj := ⟨(.type "code"), none, (Data.fields (List.toArray [(.str z270 783), (.str ⟨⟨[83,116,114,105,110,103,73,79,46,95,95,101,120,105,116,95,95]⟩⟩ 784), (.str z177 785), (.int 298 0), (.int 1 0), (.int 0 0), (.int 0 0), (.int 7 0), (.ref 447), (.bool true), (.int 273 0), (.ref 448), .none, (.ref 449), (.ref 450), (.ref 451), (.int 788 0), (.int 298 0), (.str z177 789)])), (List.toArray [])⟩
noncomputable def x287 (_ : Params) : Obj := ⟨(.type "function"), none, (Data.func ⟨z270, ⟨⟨[83,116,114,105,110,103,73,79,46,95,95,101,120,105,116,95,95]⟩⟩, (qA (qC 12 13)), (FuncBody.stmts (qB (qC 12 13))), (qS (qC 11 7)), 3, [], .none, .none, .none, (.str z257 296), none, (.ref 452), .none, 0⟩), (List.toArray [])⟩
noncomputable def x288 (_ : Params) : Obj := ⟨(.type "tuple"), none, (Data.seq (List.toArray [(.str z293 794)]) 0), (List.toArray [])⟩
noncomputable def x289 (_ : Params) : Obj := ⟨.none, none, (Data.func ⟨z271, ⟨⟨[83,116,114,105,110,103,73,79,46,114,101,97,100,97,98,108,101]⟩⟩, (qA (qC 12 14)), (FuncBody.stmts (qB (qC 12 14))), (qS (qC 11 4)), 0, [], .none, .none, .none, .none, none, .none, .none, 0⟩), (List.toArray [])⟩
noncomputable def x290 (_ : Params) : Obj := ⟨(.type "code"), none, (Data.fields (List.toArray [(.str z271 791), (.str ⟨⟨[83,116,114,105,110,103,73,79,46,114,101,97,100,97,98,108,101]⟩⟩ 792), (.str z177 793), (.int 301 0), (.int 1 0), (.int 0 0), (.int 0 0), (.int 3 0), (.ref 454), (.bool true), (.int 273 0), (.ref 455), .none, (.ref 456), (.ref 457), (.ref 458), (.int 795 0), (.int 301 0), (.str z177 796)])), (List.toArray [])⟩
noncomputable def x291 (_ : Params) : Obj := ⟨(.type "function"), none, (Data.func ⟨z271, ⟨⟨[83,116,114,105,110,103,73,79,46,114,101,97,100,97,98,108,101]⟩⟩, (qA (qC 12 14)), (FuncBody.stmts (qB (qC 12 14))), (qS (qC 11 4)), 3, [], .none, .none, .none, (.str z257 296), none, (.ref 459), .none, 0⟩), (List.toArray [])⟩
noncomputable def x292 (_ : Params) : Obj := ⟨(.type "tuple"), none, (Data.seq (List.toArray [(.str z293 801)]) 0), (List.toArray [])⟩
noncomputable def x293 (_ : Params) : Obj := ⟨.none, none, (Data.func ⟨z272, ⟨⟨[83,116,114,105,110,103,73,79,46,119,114,105,116,97,98,108,101]⟩⟩, (qA (qC 12 15)), (FuncBody.stmts (qB (qC 12 15))), (qS (qC 11 4)), 0, [], .none, .none, .none, .none, none, .none, .none, 0⟩), (List.toArray [])⟩
noncomputable def x294 (_ : Params) : Obj := ⟨(.type "code"), none, (Data.fields (List.toArray [(.str z272 798), (.str ⟨⟨[83,116,114,105,110,103,73,79,46,119,114,105,116,97,98,108,101]⟩⟩ 799), (.str z177 800), (.int 305 0), (.int 1 0), (.int 0 0), (.int 0 0), (.int 3 0), (.ref 461), (.bool true), (.int 273 0), (.ref 462), .none, (.ref 463), (.ref 464), (.ref 465), (.int 802 0), (.int 305 0), (.str z177 803)])), (List.toArray [])⟩
noncomputable def x295 (_ : Params) : Obj := ⟨(.type "function"), none, (Data.func ⟨z272, ⟨⟨[83,116,114,105,110,103,73,79,46,119,114,105,116,97,98,108,101]⟩⟩, (qA (qC 12 15)), (FuncBody.stmts (qB (qC 12 15))), (qS (qC 11 4)), 3, [], .none, .none, .none, (.str z257 296), none, (.ref 466), .none, 0⟩), (List.toArray [])⟩
noncomputable def x296 (_ : Params) : Obj := ⟨(.type "tuple"), none, (Data.seq (List.toArray [(.str z293 808)]) 0), (List.toArray [])⟩
noncomputable def x297 (_ : Params) : Obj := ⟨.none, none, (Data.func ⟨z273, ⟨⟨[83,116,114,105,110,103,73,79,46,115,101,101,107,97,98,108,101]⟩⟩, (qA (qC 12 16)), (FuncBody.stmts (qB (qC 12 16))), (qS (qC 11 4)), 0, [], .none, .none, .none, .none, none, .none, .none, 0⟩), (List.toArray [])⟩
noncomputable def x298 (_ : Params) : Obj := ⟨(.type "code"), none, (Data.fields (List.toArray [(.str z273 805), (.str ⟨⟨[83,116,114,105,110,103,73,79,46,115,101,101,107,97,98,108,101]⟩⟩ 806), (.str z177 807), (.int 309 0), (.int 1 0), (.int 0 0), (.int 0 0), (.int 3 0), (.ref 468), (.bool true), (.int 273 0), (.ref 469), .none, (.ref 470), (.ref 471), (.ref 472), (.int 809 0), (.int 309 0), (.str z177 810)])), (List.toArray [])⟩
noncomputable def x299 (_ : Params) : Obj := ⟨(.type "function"), none, (Data.func ⟨z273, ⟨⟨[83,116,114,105,110,103,73,79,46,115,101,101,107,97,98,108,101]⟩⟩, (qA (qC 12 16)), (FuncBody.stmts (qB (qC 12 16))), (qS (qC 11 4)), 3, [], .none, .none, .none, (.str z257 296), none, (.ref 473), .none, 0⟩), (List.toArray [])⟩
noncomputable def x300 (_ : Params) : Obj := ⟨(.type "tuple"), none, (Data.seq (List.toArray [(.str z293 815)]) 0), (List.toArray [])⟩
noncomputable def x301 (_ : Params) : Obj := ⟨.none, none, (Data.func ⟨z274, ⟨⟨[83,116,114,105,110,103,73,79,46,105,115,97,116,116,121]⟩⟩, (qA (qC 12 17)), (FuncBody.stmts (qB (qC 12 17))), (qS (qC 11 4)), 0, [], .none, .none, .none, .none, none, .none, .none, 0⟩), (List.toArray [])⟩
noncomputable def x302 (_ : Params) : Obj := ⟨(.type "code"), none, (Data.fields (List.toArray [(.str z274 812), (.str ⟨⟨[83,116,114,105,110,103,73,79,46,105,115,97,116,116,121]⟩⟩ 813), (.str z177 814), (.int 313 0), (.int 1 0), (.int 0 0), (.int 0 0), (.int 3 0), (.ref 475), (.bool true), (.int 273 0), (.ref 476), .none, (.ref 477), (.ref 478), (.ref 479), (.int 816 0), (.int 313 0), (.str z177 817)])), (List.toArray [])⟩
noncomputable def x303 (_ : Params) : Obj := ⟨(.type "function"), none, (Data.func ⟨z274, ⟨⟨[83,116,114,105,110,103,73,79,46,105,115,97,116,116,121]⟩⟩, (qA (qC 12 17)), (FuncBody.stmts (qB (qC 12 17))), (qS (qC 11 4)), 3, [], .none, .none, .none, (.str z257 296), none, (.ref 480), .none, 0⟩), (List.toArray [])⟩
noncomputable def x304 (_ : Params) : Obj := ⟨(.type "tuple"), none, (Data.seq (List.toArray [(.str z293 822)]) 0), (List.toArray [])⟩
noncomputable def x305 (_ : Params) : Obj := ⟨.none, none, (Data.func ⟨z275, ⟨⟨[83,116,114,105,110,103,73,79,46,102,108,117,115,104]⟩⟩, (qA (qC 12 18)), (FuncBody.stmts (qB (qC 12 18))), (qS (qC 11 4)), 0, [], .none, .none, .none, .none, none, .none, .none, 0⟩), (List.toArray [])⟩
noncomputable def x306 (_ : Params) : Obj := ⟨(.type "code"), none, (Data.fields (List.toArray [(.str z275 819), (.str ⟨⟨[83,116,114,105,110,103,73,79,46,102,108,117,115,104]⟩⟩ 820), (.str z177 821), (.int 317 0), (.int 1 0), (.int 0 0), (.int 0 0), (.int 3 0), (.ref 482), (.bool true), (.int 273 0), (.ref 483), .none, (.ref 484), (.ref 485), (.ref 486), (.int 823 0), (.int 317 0), (.str z177 824)])), (List.toArray [])⟩
noncomputable def x307 (_ : Params) : Obj := ⟨(.type "function"), none, (Data.func ⟨z275, ⟨⟨[83,116,114,105,110,103,73,79,46,102,108,117,115,104]⟩⟩, (qA (qC 12 18)), (FuncBody.stmts (qB (qC 12 18))), (qS (qC 11 4)), 3, [], .none, .none, .none, (.str z257 296), none, (.ref 487), .none, 0⟩), (List.toArray [])⟩
noncomputable def x308 (_ : Params) : Obj := ⟨(.type "tuple"), none, (Data.seq (List.toArray [(.str z293 829)]) 0), (List.toArray [])⟩
noncomputable def x309 (_ : Params) : Obj := ⟨.none, none, (Data.func ⟨z276, ⟨⟨[83,116,114,105,110,103,73,79,46,102,105,108,101,110,111]⟩⟩, (qA (qC 12 19)), (FuncBody.stmts (qB (qC 12 19))), (qS (qC 11 13)), 0, [], .none, .none, .none, .none, none, .none, .none, 0⟩), (List.toArray [])⟩
noncomputable def x310 (_ : Params) : Obj := ⟨(.type "code"), none, (Data.fields (List.toArray [(.str z276 826), (.str ⟨⟨[83,116,114,105,110,103,73,79,46,102,105,108,101,110,111]⟩⟩ 827), (.str z177 828), (.int 320 0), (.int 1 0), (.int 0 0), (.int 0 0), (.int 3 0), (.ref 489), (.bool true), (.int 273 0), (.ref 490), .none, (.ref 491), (.ref 492), (.ref 493), (.int 830 0), (.int 320 0), (.str z177 831)])), (List.toArray [])⟩
noncomputable def x311 (_ : Params) : Obj := ⟨(.type "function"), none, (Data.func ⟨z276, ⟨⟨[83,116,114,105,110,103,73,79,46,102,105,108,101,110,111]⟩⟩, (qA (qC 12 19)), (FuncBody.stmts (qB (qC 12 19))), (qS (qC 11 13)), 3, [], .none, .none, .none, (.str z257 296), none, (.ref 494), .none, 0⟩), (List.toArray [])⟩
noncomputable def x312 (_ : Params) : Obj := ⟨(.type "tuple"), none, (Data.seq (List.toArray [(.str z293 836)]) 0), (List.toArray [])⟩
noncomputable def x313 (_ : Params) : Obj := ⟨.none, none, (Data.func ⟨z277, ⟨⟨[83,116,114,105,110,103,73,79,46,100,101,116,97,99,104]⟩⟩, (qA (qC 12 20)), (FuncBody.stmts (qB (qC 12 20))), (qS (qC 11 14)), 0, [], .none, .none, .none, .none, none, .none, .none, 0⟩), (List.toArray [])⟩
noncomputable def x314 (_ : Params) : Obj := ⟨(.type "code"), none, (Data.fields (List.toArray [(.str z277 833), (.str ⟨⟨[83,116,114,105,110,103,73,79,46,100,101,116,97,99,104]⟩⟩ 834), (.str z177 835), (.int 323 0), (.int 1 0), (.int 0 0), (.int 0 0), (.int 3 0), (.ref 496), (.bool true), (.int 273 0), (.ref 497), .none, (.ref 498), (.ref 499), (.ref 500), (.int 837 0), (.int 323 0), (.str z177 838)])), (List.toArray [])⟩
noncomputable def x315 (_ : Params) : Obj := ⟨(.type "function"), none, (Data.func ⟨z277, ⟨⟨[83,116,114,105,110,103,73,79,46,100,101,116,97,99,104]⟩⟩, (qA (qC 12 20)), (FuncBody.stmts (qB (qC 12 20))), (qS (qC 11 14)), 3, [], .none, .none, .none, (.str z257 296), none, (.ref 501), .none, 0⟩), (List.toArray [])⟩
noncomputable def x316 (_ : Params) : Obj := ⟨(.type "tuple"), none, (Data.seq (List.toArray [(.str z293 843)]) 0), (List.toArray [])⟩
noncomputable def x317 (_ : Params) : Obj := ⟨.none, none, (Data.func ⟨z278, ⟨⟨[83,116,114,105,110,103,73,79,46,103,101,116,118,97,108,117,101]⟩⟩, (qA (qC 12 21)), (FuncBody.stmts (qB (qC 12 21))), (qS (qC 11 14)), 0, [], .none, .none, .none, .none, none, .none, .none, 0⟩), (List.toArray [])⟩
noncomputable def x318 (_ : Params) : Obj := ⟨(.type "code"), none, (Data.fields (List.toArray [(.str z278 840), (.str ⟨⟨[83,116,114,105,110,103,73,79,46,103,101,116,118,97,108,117,101]⟩⟩ 841), (.str z177 842), (.int 326 0), (.int 1 0), (.int 0 0), (.int 0 0), (.int 3 0), (.ref 503), (.bool true), (.int 273 0), (.ref 504), .none, (.ref 505), (.ref 506), (.ref 507), (.int 844 0), (.int 326 0), (.str z177 845)])), (List.toArray [])⟩
noncomputable def x319 (_ : Params) : Obj := ⟨(.type "function"), none, (Data.func ⟨z278, ⟨⟨[83,116,114,105,110,103,73,79,46,103,101,116,118,97,108,117,101]⟩⟩, (qA (qC 12 21)), (FuncBody.stmts (qB (qC 12 21))), (qS (qC 11 14)), 3, [], .none, .none, .none, (.str z257 296), none, (.ref 508), .none, 0⟩), (List.toArray [])⟩
noncomputable def x320 (_ : Params) : Obj := ⟨(.type "tuple"), none, (Data.seq (List.toArray [(.str z293 850)]) 0), (List.toArray [])⟩
noncomputable def x321 (_ : Params) : Obj := ⟨.none, none, (Data.func ⟨z280, ⟨⟨[83,116,114,105,110,103,73,79,46,116,101,108,108]⟩⟩, (qA (qC 12 22)), (FuncBody.stmts (qB (qC 12 22))), (qS (qC 11 4)), 0, [], .none, .none, .none, .none, none, .none, .none, 0⟩), (List.toArray [])⟩
noncomputable def x322 (_ : Params) : Obj := ⟨(.type "code"), none, (Data.fields (List.toArray [(.str z280 847), (.str ⟨⟨[83,116,114,105,110,103,73,79,46,116,101,108,108]⟩⟩ 848), (.str z177 849), (.int 329 0), (.int 1 0), (.int 0 0), (.int 0 0), (.int 3 0), (.ref 510), (.bool true), (.int 273 0), (.ref 511), .none, (.ref 512), (.ref 513), (.ref 514), (.int 851 0), (.int 329 0), (.str z177 852)])), (List.toArray [])⟩
noncomputable def x323 (_ : Params) : Obj := ⟨(.type "function"), none, (Data.func ⟨z280, ⟨⟨[83,116,114,105,110,103,73,79,46,116,101,108,108]⟩⟩, (qA (qC 12 22)), (FuncBody.stmts (qB (qC 12 22))), (qS (qC 11 4)), 3, [], .none, .none, .none, (.str z257 296), none, (.ref 515), .none, 0⟩), (List.toArray [])⟩
noncomputable def x324 (_ : Params) : Obj := ⟨(.type "tuple"), none, (Data.seq (List.toArray [(.int 0 854)]) 0), (List.toArray [])⟩
noncomputable def x325 (_ : Params) : Obj := ⟨(.type "tuple"), none, (Data.seq (List.toArray [(.str z293 858), (.str ⟨⟨[112,111,115]⟩⟩ 859), (.str ⟨⟨[119,104,101,110,99,101]⟩⟩ 860)]) 0), (List.toArray [])⟩
noncomputable def x326 (_ : Params) : Obj := ⟨.none, none, (Data.func ⟨z281, ⟨⟨[83,116,114,105,110,103,73,79,46,115,101,101,107]⟩⟩, (qA (qC 12 23)), (FuncBody.stmts (qB (qC 12 23))), (qS (qC 12 23)), 0, [], .none, .none, .none, .none, none, .none, .none, 0⟩), (List.toArray [])⟩
noncomputable def x327 (_ : Params) : Obj := ⟨(.type "code"), none, (Data.fields (List.toArray [(.str z281 855), (.str ⟨⟨[83,116,114,105,110,103,73,79,46,115,101,101,107]⟩⟩ 856), (.str z177 857), (.int 333 0), (.int 3 0), (.int 3 0), (.int 0 0), (.int 3 0), (.ref 518), (.bool true), (.int 273 0), (.ref 519), .none, (.ref 520), (.ref 521), (.ref 522), (.int 861 0), (.int 333 0), (.str z177 862)])), (List.toArray [])⟩
noncomputable def x328 (_ : Params) : Obj := ⟨(.type "function"), none, (Data.func ⟨z281, ⟨⟨[83,116,114,105,110,103,73,79,46,115,101,101,107]⟩⟩, (qA (qC 12 23)), (FuncBody.stmts (qB (qC 12 23))), (qS (qC 12 23)), 3, [], (.ref 517), .none, .none, (.str z257 296), none, (.ref 523), .none, 0⟩), (List.toArray [])⟩
noncomputable def x329 (_ : Params) : Obj := ⟨(.type "tuple"), none, (Data.seq (List.toArray [(.str z293 867), (.str ⟨⟨[112,111,115]⟩⟩ 868)]) 0), (List.toArray [])⟩
noncomputable def x330 (_ : Params) : Obj := ⟨.none, none, (Data.func ⟨z282, ⟨⟨[83,116,114,105,110,103,73,79,46,116,114,117,110,99,97,116,101]⟩⟩, (qA (qC 12 24)), (FuncBody.stmts (qB (qC 12 24))), (qS (qC 12 24)), 0, [], .none, .none, .none, .none, none, .none, .none, 0⟩), (List.toArray [])⟩
noncomputable def x331 (_ : Params) : Obj := ⟨(.type "code"), none, (Data.fields (List.toArray [(.str z282 864), (.str ⟨⟨[83,116,114,105,110,103,73,79,46,116,114,117,110,99,97,116,101]⟩⟩ 865), (.str z177 866), (.int 350 0), (.int 2 0), (.int 2 0), (.int 0 0), (.int 3 0), (.ref 526), (.bool true), (.int 273 0), (.ref 527), .none, (.ref 528), (.ref 529), (.ref 530), (.int 869 0), (.int 350 0), (.str z177 870)])), (List.toArray [])⟩
noncomputable def x332 (_ : Params) : Obj := ⟨(.type "function"), none, (Data.func ⟨z282, ⟨⟨[83,116,114,105,110,103,73,79,46,116,114,117,110,99,97,116,101]⟩⟩, (qA (qC 12 24)), (FuncBody.stmts (qB (qC 12 24))), (qS (qC 12 24)), 3, [], (.ref 525), .none, .none, (.str z257 296), none, (.ref 531), .none, 0⟩), (List.toArray [])⟩
noncomputable def x333 (_ : Params) : Obj := ⟨(.type "tuple"), none, (Data.seq (List.toArray [(.int (Neg.neg 1) 873)]) 0), (List.toArray [])⟩
noncomputable def x334 (_ : Params) : Obj := ⟨(.type "tuple"), none, (Data.seq (List.toArray [(.str z293 877), (.str z321 878), (.str z299 879), (.str z300 880)]) 0), (List.toArray [])⟩
noncomputable def x335 (_ : Params) : Obj := ⟨.none, none, (Data.func ⟨z283, ⟨⟨[83,116,114,105,110,103,73,79,46,114,101,97,100]⟩⟩, (qA (qC 12 25)), (FuncBody.stmts (qB (qC 12 25))), (qS (qC 12 25)), 0, [], .none, .none, .none, .none, none, .none, .none, 0⟩), (List.toArray [])⟩
noncomputable def x336 (_ : Params) : Obj := ⟨(.type "code"), none, (Data.fields (List.toArray [(.str z283 874), (.str ⟨⟨[83,116,114,105,110,103,73,79,46,114,101,97,100]⟩⟩ 875), (.str z177 876), (.int 353 0), (.int 2 0), (.int 2 0), (.int 0 0), (.int 3 0), (.ref 534), (.bool true), (.int 273 0), (.ref 535), .none, (.ref 536), (.ref 537), (.ref 538), (.int 881 0), (.int 353 0), (.str z177 882)])), (List.toArray [])⟩
noncomputable def x337 (_ : Params) : Obj := ⟨(.type "function"), none, (Data.func ⟨z283, ⟨⟨[83,116,114,105,110,103,73,79,46,114,101,97,100]⟩⟩, (qA (qC 12 25)), (FuncBody.stmts (qB (qC 12 25))), (qS (qC 12 25)), 3, [], (.ref 533), .none, .none, (.str z257 296), none, (.ref 539), .none, 0⟩), (List.toArray [])⟩
noncomputable def x338 (_ : Params) : Obj := ⟨(.type "tuple"), none, (Data.seq (List.toArray [(.int (Neg.neg 1) 885)]) 0), (List.toArray [])⟩
noncomputable def x339 (_ : Params) : Obj := ⟨(.type "tuple"), none, (Data.seq (List.toArray [(.str z293 889), (.str z321 890)]) 0), (List.toArray [])⟩
noncomputable def x340 (_ : Params) : Obj := ⟨.none, none, (Data.func ⟨z287, ⟨⟨[83,116,114,105,110,103,73,79,46,114,101,97,100,108,105,110,101]⟩⟩, (qA (qC 12 26)), (FuncBody.stmts (qB (qC 12 26))), (qS (qC 11 24)), 0, [], .none, .none, .none, .none, none, .none, .none, 0⟩), (List.toArray [])⟩
noncomputable def x341 (_ : Params) : Obj := ⟨(.type "code"), none, (Data.fields (List.toArray [(.str z287 886), (.str ⟨⟨[83,116,114,105,110,103,73,79,46,114,101,97,100,108,105,110,101]⟩⟩ 887), (.str z177 888), (.int 367 0), (.int 2 0), (.int 2 0), (.int 0 0), (.int 3 0), (.ref 542), (.bool true), (.int 273 0), (.ref 543), .none, (.ref 544), (.ref 545), (.ref 546), (.int 891 0), (.int 367 0), (.str z177 892)])), (List.toArray [])⟩
noncomputable def x342 (_ : Params) : Obj := ⟨(.type "function"), none, (Data.func ⟨z287, ⟨⟨[83,116,114,105,110,103,73,79,46,114,101,97,100,108,105,110,101]⟩⟩, (qA (qC 12 26)), (FuncBody.stmts (qB (qC 12 26))), (qS (qC 11 24)), 3, [], (.ref 541), .none, .none, (.str z257 296), none, (.ref 547), .none, 0⟩), (List.toArray [])⟩
noncomputable def x343 (_ : Params) : Obj := ⟨(.type "tuple"), none, (Data.seq (List.toArray [(.int (Neg.neg 1) 895)]) 0), (List.toArray [])⟩
noncomputable def x344 (_ : Params) : Obj := ⟨(.type "tuple"), none, (Data.seq (List.toArray [(.str z293 899), (.str ⟨⟨[104,105,110,116]⟩⟩ 900)]) 0), (List.toArray [])⟩
noncomputable def x345 (_ : Params) : Obj := ⟨.none, none, (Data.func ⟨z288, ⟨⟨[83,116,114,105,110,103,73,79,46,114,101,97,100,108,105,110,101,115]⟩⟩, (qA (qC 12 27)), (FuncBody.stmts (qB (qC 12 27))), (qS (qC 12 27)), 0, [], .none, .none, .none, .none, none, .none, .none, 0⟩), (List.toArray [])⟩
noncomputable def x346 (_ : Params) : Obj := ⟨(.type "code"), none, (Data.fields (List.toArray [(.str z288 896), (.str ⟨⟨[83,116,114,105,110,103,73,79,46,114,101,97,100,108,105,110,101,115]⟩⟩ 897), (.str z177 898), (.int 374 0), (.int 2 0), (.int 2 0), (.int 0 0), (.int 3 0), (.ref 550), (.bool true), (.int 273 0), (.ref 551), .none, (.ref 552), (.ref 553), (.ref 554), (.int 901 0), (.int 374 0), (.str z177 902)])), (List.toArray [])⟩
noncomputable def x347 (_ : Params) : Obj := ⟨(.type "function"), none, (Data.func ⟨z288, ⟨⟨[83,116,114,105,110,103,73,79,46,114,101,97,100,108,105,110,101,115]⟩⟩, (qA (qC 12 27)), (FuncBody.stmts (qB (qC 12 27))), (qS (qC 12 27)), 3, [], (.ref 549), .none, .none, (.str z257 296), none, (.ref 555), .none, 0⟩), (List.toArray [])⟩
noncomputable def x348 (_ : Params) : Obj := ⟨(.type "tuple"), none, (Data.seq (List.toArray [(.str z293 907)]) 0), (List.toArray [])⟩
noncomputable def x349 (_ : Params) : Obj := ⟨.none, none, (Data.func ⟨z289, ⟨⟨[83,116,114,105,110,103,73,79,46,95,95,105,116,101,114,95,95]⟩⟩, (qA (qC 12 28)), (FuncBody.stmts (qB (qC 12 28))), (qS (qC 11 4)), 0, [], .none, .none, .none, .none, none, .none, .none, 0⟩), (List.toArray [])⟩
noncomputable def x350 (_ : Params) : Obj := ⟨(.type "code"), none, (Data.fields (List.toArray [(.str z289 904), (.str ⟨⟨[83,116,114,105,110,103,73,79,46,95,95,105,116,101,114,95,95]⟩⟩ 905), (.str z177 906), (.int 377 0), (.int 1 0), (.int 0 0), (.int 0 0), (.int 3 0), (.ref 557), (.bool true), (.int 273 0), (.ref 558), .none, (.ref 559), (.ref 560), (.ref 561), (.int 908 0), (.int 377 0), (.str z177 909)])), (List.toArray [])⟩
noncomputable def x351 (_ : Params) : Obj := ⟨(.type "function"), none, (Data.func ⟨z289, ⟨⟨[83,116,114,105,110,103,73,79,46,95,95,105,116,101,114,95,95]⟩⟩, (qA (qC 12 28)), (FuncBody.stmts (qB (qC 12 28))), (qS (qC 11 4)), 3, [], .none, .none, .none, (.str z257 296), none, (.ref 562), .none, 0⟩), (List.toArray [])⟩
noncomputable def x352 (_ : Params) : Obj := ⟨(.type "tuple"), none, (Data.seq (List.toArray [(.str z293 914), (.str ⟨⟨[108,105,110,101]⟩⟩ 915)]) 0), (List.toArray [])⟩
noncomputable def x353 (_ : Params) : Obj := ⟨.none, none, (Data.func ⟨z290, ⟨⟨[83,116,114,105,110,103,73,79,46,95,95,110,101,120,116,95,95]⟩⟩, (qA (qC 12 29)), (FuncBody.stmts (qB (qC 12 29))), (qS (qC 11 27)), 0, [], .none, .none, .none, .none, none, .none, .none, 0⟩), (List.toArray [])⟩
noncomputable def x354 (_ : Params) : Obj := ⟨(.type "code"), none, (Data.fields (List.toArray [(.str z290 911), (.str ⟨⟨[83,116,114,105,110,103,73,79,46,95,95,110,101,120,116,95,95]⟩⟩ 912), (.str z177 913), (.int 381 0), (.int 1 0), (.int 0 0), (.int 0 0), (.int 3 0), (.ref 564), (.bool true), (.int 273 0), (.ref 565), .none, (.ref 566), (.ref 567), (.ref 568), (.int 916 0), (.int 381 0), (.str z177 917)])), (List.toArray [])⟩
noncomputable def x355 (_ : Params) : Obj := ⟨(.type "function"), none, (Data.func ⟨z290, ⟨⟨[83,116,114,105,110,103,73,79,46,95,95,110,101,120,116,95,95]⟩⟩, (qA (qC 12 29)), (FuncBody.stmts (qB (qC 12 29))), (qS (qC 11 27)), 3, [], .none, .none, .none, (.str z257 296), none, (.ref 569), .none, 0⟩), (List.toArray [])⟩
noncomputable def x356 (_ : Params) : Obj := ⟨(.type "tuple"), none, (Data.seq (List.toArray [(.str z293 922), (.str z352 923), (.str z255 924), (.str ⟨⟨[109]⟩⟩ 925), (.str z299 926), (.str ⟨⟨[98,117,102]⟩⟩ 927)]) 0), (List.toArray [])⟩
noncomputable def x357 (_ : Params) : Obj := ⟨.none, none, (Data.func ⟨z291, ⟨⟨[83,116,114,105,110,103,73,79,46,119,114,105,116,101]⟩⟩, (qA (qC 12 30)), (FuncBody.stmts (qB (qC 12 30))), (qS (qC 12 30)), 0, [], .none, .none, .none, .none, none, .none, .none, 0⟩), (List.toArray [])⟩
noncomputable def x358 (_ : Params) : Obj := ⟨(.type "code"), none, (Data.fields (List.toArray [(.str z291 919), (.str ⟨⟨[83,116,114,105,110,103,73,79,46,119,114,105,116,101]⟩⟩ 920), (.str z177 921), (.int 388 0), (.int 2 0), (.int 2 0), (.int 0 0), (.int 3 0), (.ref 571), (.bool true), (.int 273 0), (.ref 572), .none, (.ref 573), (.ref 574), (.ref 575), (.int 928 0), (.int 388 0), (.str z177 929)])), (List.toArray [])⟩
noncomputable def x359 (_ : Params) : Obj := ⟨(.type "function"), none, (Data.func ⟨z291, ⟨⟨[83,116,114,105,110,103,73,79,46,119,114,105,116,101]⟩⟩, (qA (qC 12 30)), (FuncBody.stmts (qB (qC 12 30))), (qS (qC 12 30)), 3, [], .none, .none, .none, (.str z257 296), none, (.ref 576), .none, 0⟩), (List.toArray [])⟩
noncomputable def x360 (_ : Params) : Obj := ⟨(.type "tuple"), none, (Data.seq (List.toArray [(.str z293 934), (.str ⟨⟨[108,105,110,101,115]⟩⟩ 935)]) 0), (List.toArray [])⟩
noncomputable def x361 (_ : Params) : Obj := ⟨.none, none, (Data.func ⟨z292, ⟨⟨[83,116,114,105,110,103,73,79,46,119,114,105,116,101,108,105,110,101,115]⟩⟩, (qA (qC 12 31)), (FuncBody.stmts (qB (qC 12 31))), (qS (qC 11 29)), 0, [], .none, .none, .none, .none, none, .none, .none, 0⟩), (List.toArray [])⟩
noncomputable def x362 (_ : Params) : Obj := ⟨(.type "code"), none, (Data.fields (List.toArray [(.str z292 931), (.str ⟨⟨[83,116,114,105,110,103,73,79,46,119,114,105,116,101,108,105,110,101,115]⟩⟩ 932), (.str z177 933), (.int 407 0), (.int 2 0), (.int 2 0), (.int 0 0), (.int 3 0), (.ref 578), (.bool true), (.int 273 0), (.ref 579), .none, (.ref 580), (.ref 581), (.ref 582), (.int 936 0), (.int 407 0), (.str z177 937)])), (List.toArray [])⟩
noncomputable def x363 (_ : Params) : Obj := ⟨(.type "function"), none, (Data.func ⟨z292, ⟨⟨[83,116,114,105,110,103,73,79,46,119,114,105,116,101,108,105,110,101,115]⟩⟩, (qA (qC 12 31)), (FuncBody.stmts (qB (qC 12 31))), (qS (qC 11 29)), 3, [], .none, .none, .none, (.str z257 296), none, (.ref 583), .none, 0⟩), (List.toArray [])⟩
noncomputable def x364 (_ : Params) : Obj := ⟨(.type "tuple"), none, (Data.seq (List.toArray [(.str z293 942)]) 0), (List.toArray [])⟩
noncomputable def x365 (_ : Params) : Obj := ⟨.none, none, (Data.func ⟨z216, ⟨⟨[83,116,114,105,110,103,73,79,46,95,95,114,101,112,114,95,95]⟩⟩, (qA (qC 12 32)), (FuncBody.stmts (qB (qC 12 32))), (qS (qC 11 14)), 0, [], .none, .none, .none, .none, none, .none, .none, 0⟩), (List.toArray [])⟩
noncomputable def x366 (_ : Params) : Obj := ⟨(.type "code"), none, (Data.fields (List.toArray [(.str z216 939), (.str ⟨⟨[83,116,114,105,110,103,73,79,46,95,95,114,101,112,114,95,95]⟩⟩ 940), (.str z177 941), (.int 410 0), (.int 1 0), (.int 0 0), (.int 0 0), (.int 3 0), (.ref 585), (.bool true), (.int 273 0), (.ref 586), .none, (.ref 587), (.ref 588), (.ref 589), (.int 943 0), (.int 410 0), (.str z177 944)])), (List.toArray [])⟩
noncomputable def x367 (_ : Params) : Obj := ⟨(.type "function"), none, (Data.func ⟨z216, ⟨⟨[83,116,114,105,110,103,73,79,46,95,95,114,101,112,114,95,95]⟩⟩, (qA (qC 12 32)), (FuncBody.stmts (qB (qC 12 32))), (qS (qC 11 14)), 3, [], .none, .none, .none, (.str z257 296), none, (.ref 590), .none, 0⟩), (List.toArray [])⟩
noncomputable def x368 (_ : Params) : Obj := ⟨(.type "tuple"), none, (Data.seq (List.toArray [(.str ⟨⟨[95,95,98,117,102]⟩⟩ 946), (.str ⟨⟨[95,95,110,101,119,108,105,110,101]⟩⟩ 947), (.str ⟨⟨[95,95,112,111,115]⟩⟩ 948)]) 0), (List.toArray [])⟩
noncomputable def x369 (P : Params) : Obj := ⟨(.type "dict"), none, (Data.dict (List.toArray [⟨(PyData.keyHash P z188), (.str z188 673), (.str z264 678)⟩, ⟨(PyData.keyHash P z190), (.str z190 677), (.int 207 676)⟩, ⟨(PyData.keyHash P z215), (.str z215 690), (.ref 364)⟩, ⟨(PyData.keyHash P z340), (.str z340 699), (.ref 371)⟩, ⟨(PyData.keyHash P z341), (.str z341 706), (.ref 378)⟩, ⟨(PyData.keyHash P z342), (.str z342 713), (.ref 385)⟩, ⟨(PyData.keyHash P z343), (.str z343 728), (.ref 392)⟩, ⟨(PyData.keyHash P z267), (.str z267 736), (.ref 400)⟩, ⟨(PyData.keyHash P z344), (.str z344 744), (.ref 408)⟩, ⟨(PyData.keyHash P z345), (.str z345 752), (.ref 416)⟩, ⟨(PyData.keyHash P z346), (.str z346 760), (.ref 424)⟩, ⟨(PyData.keyHash P z347), (.str z347 768), (.ref 432)⟩, ⟨(PyData.keyHash P z268), (.str z268 775), (.ref 439)⟩, ⟨(PyData.keyHash P z269), (.str z269 782), (.ref 446)⟩, ⟨(PyData.keyHash P z270), (.str z270 790), (.ref 453)⟩, ⟨(PyData.keyHash P z271), (.str z271 797), (.ref 460)⟩, ⟨(PyData.keyHash P z272), (.str z272 804), (.ref 467)⟩, ⟨(PyData.keyHash P z273), (.str z273 811), (.ref 474)⟩, ⟨(PyData.keyHash P z274), (.str z274 818), (.ref 481)⟩, ⟨(PyData.keyHash P z275), (.str z275 825), (.ref 488)⟩, ⟨(PyData.keyHash P z276), (.str z276 832), (.ref 495)⟩, ⟨(PyData.keyHash P z277), (.str z277 839), (.ref 502)⟩, ⟨(PyData.keyHash P z278), (.str z278 846), (.ref 509)⟩, ⟨(PyData.keyHash P z280), (.str z280 853), (.ref 516)⟩, ⟨(PyData.keyHash P z281), (.str z281 863), (.ref 524)⟩, ⟨(PyData.keyHash P z282), (.str z282 871), (.ref 532)⟩, ⟨(PyData.keyHash P z283), (.str z283 883), (.ref 540)⟩, ⟨(PyData.keyHash P z287), (.str z287 893), (.ref 548)⟩, ⟨(PyData.keyHash P z288), (.str z288 903), (.ref 556)⟩, ⟨(PyData.keyHash P z289), (.str z289 910), (.ref 563)⟩, ⟨(PyData.keyHash P z290), (.str z290 918), (.ref 570)⟩, ⟨(PyData.keyHash P z291), (.str z291 930), (.ref 577)⟩, ⟨(PyData.keyHash P z292), (.str z292 938), (.ref 584)⟩, ⟨(PyData.keyHash P z216), (.str z216 945), (.ref 591)⟩, ⟨(PyData.keyHash P z200), (.str z200 949), (.ref 592)⟩, ⟨(PyData.keyHash P z2), (.str z2 950), .none⟩]) 2), (List.toArray [])⟩
noncomputable def x370 (_ : Params) : Obj := ⟨(.type "type"), none, (Data.cls ⟨z236, [(.ref 117)], [(.ref 594), (.ref 117), (.ref 90), (.type "object")], 593, z236, true, [], [], false, none, false⟩), (List.toArray [(some (.ref 350)), none, (some (.str z236 666)), (some (.str z236 674)), (some .none), (some (.bool true))])⟩
noncomputable def x371 (_ : Params) : Obj := ⟨(.type "super"), none, (Data.fields (List.toArray [(.ref 594), (.ref 594), (.ref 594)])), (List.toArray [])⟩
noncomputable def x372 (_ : Params) : Obj := ⟨(.type "builtin_function_or_method"), none, (Data.fields (List.toArray [(.builtin "object.__init_subclass__"), (.ref 594)])), (List.toArray [])⟩
noncomputable def x373 (_ : Params) : Obj := ⟨(.type "tuple"), none, (Data.seq (List.toArray [(.str z206 958), (.str ⟨⟨[120]⟩⟩ 959), (.str ⟨⟨[116]⟩⟩ 960)]) 0), (List.toArray [])⟩
noncomputable def x374 (_ : Params) : Obj := ⟨.none, none, (Data.func ⟨z237, z237, (qA (qT 14)), (FuncBody.stmts (qB (qT 14))), (qS (qT 14)), 0, [], .none, .none, .none, .none, none, .none, .none, 0⟩), (List.toArray [])⟩
noncomputable def x375 (_ : Params) : Obj := ⟨(.type "code"), none, (Data.fields (List.toArray [(.str z237 955), (.str z237 956), (.str z177 957), (.int 413 0), (.int 2 0), (.int 0 0), (.int 0 0), (.int 3 0), (.ref 597), (.bool true), (.int 273 0), (.ref 598), .none, (.ref 599), (.ref 600), (.ref 601), (.int 961 0), (.int 413 0), (.str z177 962)])), (List.toArray [])⟩
noncomputable def x376 (_ : Params) : Obj := ⟨(.type "function"), none, (Data.func ⟨z237, z237, (qA (qT 14)), (FuncBody.stmts (qB (qT 14))), (qS (qT 14)), 3, [], .none, .none, .none, (.str z395 953), none, (.ref 602), .none, 0⟩), (List.toArray [])⟩
noncomputable def x377 (_ : Params) : Obj := ⟨(.type "tuple"), none, (Data.seq (List.toArray [(.str z206 967), (.str ⟨⟨[120]⟩⟩ 968), (.str ⟨⟨[107]⟩⟩ 969)]) 0), (List.toArray [])⟩
noncomputable def x378 (_ : Params) : Obj := ⟨.none, none, (Data.func ⟨z238, z238, (qA (qT 15)), (FuncBody.stmts (qB (qT 15))), (qS (qT 15)), 0, [], .none, .none, .none, .none, none, .none, .none, 0⟩), (List.toArray [])⟩
noncomputable def x379 (_ : Params) : Obj := ⟨(.type "code"), none, (Data.fields (List.toArray [(.str z238 964), (.str z238 965), (.str z177 966), (.int 434 0), (.int 2 0), (.int 0 0), (.int 0 0), (.int 3 0), (.ref 604), (.bool true), (.int 273 0), (.ref 605), .none, (.ref 606), (.ref 607), (.ref 608), (.int 970 0), (.int 434 0), (.str z177 971)])), (List.toArray [])⟩
noncomputable def x380 (_ : Params) : Obj := ⟨(.type "function"), none, (Data.func ⟨z238, z238, (qA (qT 15)), (FuncBody.stmts (qB (qT 15))), (qS (qT 15)), 3, [], .none, .none, .none, (.str z395 953), none, (.ref 609), .none, 0⟩), (List.toArray [])⟩
noncomputable def x381 (_ : Params) : Obj := ⟨(.type "tuple"), none, (Data.seq (List.toArray [(.str ⟨⟨[102,117,110,99,110,97,109,101]⟩⟩ 976), (.str z261 977), (.str z352 978), (.str ⟨⟨[107]⟩⟩ 979)]) 0), (List.toArray [])⟩
noncomputable def x382 (_ : Params) : Obj := ⟨.none, none, (Data.func ⟨z239, z239, (qA (qT 16)), (FuncBody.stmts (qB (qT 16))), (qS (qT 16)), 0, [], .none, .none, .none, .none, none, .none, .none, 0⟩), (List.toArray [])⟩
noncomputable def x383 (_ : Params) : Obj := ⟨(.type "code"), none, (Data.fields (List.toArray [(.str z239 973), (.str z239 974), (.str z177 975), (.int 439 0), (.int 1 0), (.int 0 0), (.int 0 0), (.int 7 0), (.ref 611), (.bool true), (.int 273 0), (.ref 612), .none, (.ref 613), (.ref 614), (.ref 615), (.int 980 0), (.int 439 0), (.str z177 981)])), (List.toArray [])⟩
noncomputable def x384 (_ : Params) : Obj := ⟨(.type "function"), none, (Data.func ⟨z239, z239, (qA (qT 16)), (FuncBody.stmts (qB (qT 16))), (qS (qT 16)), 3, [], .none, .none, .none, (.str z395 953), none, (.ref 616), .none, 0⟩), (List.toArray [])⟩
noncomputable def x385 (_ : Params) : Obj := ⟨(.type "tuple"), none, (Data.seq (List.toArray [(.str z352 986)]) 0), (List.toArray [])⟩
noncomputable def x386 (_ : Params) : Obj := ⟨.none, none, (Data.func ⟨z240, z240, (qA (qT 17)), (FuncBody.stmts (qB (qT 17))), (qS (qT 17)), 0, [], .none, .none, .none, .none, none, .none, .none, 0⟩), (List.toArray [])⟩
noncomputable def x387 (_ : Params) : Obj := ⟨(.type "code"), none, (Data.fields (List.toArray [(.str z240 983), (.str z240 984), (.str z177 985), (.int 444 0), (.int 1 0), (.int 0 0), (.int 0 0), (.int 3 0), (.ref 618), (.bool true), (.int 273 0), (.ref 619), .none, (.ref 620), (.ref 621), (.ref 622), (.int 987 0), (.int 444 0), (.str z177 988)])), (List.toArray [])⟩
noncomputable def x388 (_ : Params) : Obj := ⟨(.type "function"), none, (Data.func ⟨z240, z240, (qA (qT 17)), (FuncBody.stmts (qB (qT 17))), (qS (qT 17)), 3, [], .none, .none, .none, (.str z395 953), none, (.ref 623), .none, 0⟩), (List.toArray [])⟩
noncomputable def x389 (_ : Params) : Obj := ⟨(.type "tuple"), none, (Data.seq (List.toArray [(.str ⟨⟨[97]⟩⟩ 993), (.str ⟨⟨[112]⟩⟩ 994), (.str ⟨⟨[98]⟩⟩ 995), (.str ⟨⟨[115,101,112]⟩⟩ 996), (.str ⟨⟨[112,97,116,104]⟩⟩ 997)]) 0), (List.toArray [])⟩
noncomputable def x390 (_ : Params) : Obj := ⟨.none, none, (Data.func ⟨z241, z241, (qA (qT 18)), (FuncBody.stmts (qB (qT 18))), (qS (qT 18)), 0, [], .none, .none, .none, .none, none, .none, .none, 0⟩), (List.toArray [])⟩
noncomputable def x391 (_ : Params) : Obj := ⟨(.type "code"), none, (Data.fields (List.toArray [(.str z241 990), (.str z241 991), (.str z177 992), (.int 447 0), (.int 1 0), (.int 0 0), (.int 0 0), (.int 7 0), (.ref 625), (.bool true), (.int 273 0), (.ref 626), .none, (.ref 627), (.ref 628), (.ref 629), (.int 998 0), (.int 447 0), (.str z177 999)])), (List.toArray [])⟩
noncomputable def x392 (_ : Params) : Obj := ⟨(.type "function"), none, (Data.func ⟨z241, z241, (qA (qT 18)), (FuncBody.stmts (qB (qT 18))), (qS (qT 18)), 3, [], .none, .none, .none, (.str z395 953), none, (.ref 630), .none, 0⟩), (List.toArray [])⟩
noncomputable def x393 (_ : Params) : Obj := ⟨(.type "tuple"), none, (Data.seq (List.toArray [(.str ⟨⟨[112]⟩⟩ 1004), (.str ⟨⟨[115,101,112]⟩⟩ 1005), (.str ⟨⟨[105]⟩⟩ 1006), (.str ⟨⟨[104,101,97,100]⟩⟩ 1007)]) 0), (List.toArray [])⟩
noncomputable def x394 (_ : Params) : Obj := ⟨.none, none, (Data.func ⟨z242, z242, (qA (qT 19)), (FuncBody.stmts (qB (qT 19))), (qS (qT 19)), 0, [], .none, .none, .none, .none, none, .none, .none, 0⟩), (List.toArray [])⟩
noncomputable def x395 (_ : Params) : Obj := ⟨(.type "code"), none, (Data.fields (List.toArray [(.str z242 1001), (.str z242 1002), (.str z177 1003), (.int 467 0), (.int 1 0), (.int 0 0), (.int 0 0), (.int 3 0), (.ref 632), (.bool true), (.int 273 0), (.ref 633), .none, (.ref 634), (.ref 635), (.ref 636), (.int 1008 0), (.int 467 0), (.str z177 1009)])), (List.toArray [])⟩
noncomputable def x396 (_ : Params) : Obj := ⟨(.type "function"), none, (Data.func ⟨z242, z242, (qA (qT 19)), (FuncBody.stmts (qB (qT 19))), (qS (qT 19)), 3, [], .none, .none, .none, (.str z395 953), none, (.ref 637), .none, 0⟩), (List.toArray [])⟩
noncomputable def x397 (P : Params) : Obj := ⟨(.type "dict"), none, (Data.dict (List.toArray [⟨(PyData.keyHash P z188), (.str z188 1020), (.str z402 1011)⟩, ⟨(PyData.keyHash P z258), (.str z258 1022), (.str z243 1021)⟩, ⟨(PyData.keyHash P z190), (.str z190 1024), (.int 476 1023)⟩, ⟨(PyData.keyHash P z215), (.str z215 1036), (.ref 653)⟩, ⟨(PyData.keyHash P z403), (.str z403 1044), (.ref 661)⟩, ⟨(PyData.keyHash P z404), (.str z404 1052), (.ref 668)⟩, ⟨(PyData.keyHash P z405), (.str z405 1061), (.ref 676)⟩, ⟨(PyData.keyHash P z406), (.str z406 1068), (.ref 683)⟩, ⟨(PyData.keyHash P z407), (.str z407 1080), (.ref 690)⟩, ⟨(PyData.keyHash P z408), (.str z408 1091), (.ref 697)⟩, ⟨(PyData.keyHash P z409), (.str z409 1099), (.ref 704)⟩, ⟨(PyData.keyHash P z410), (.str z410 1108), (.ref 712)⟩, ⟨(PyData.keyHash P z289), (.str z289 1115), (.ref 719)⟩, ⟨(PyData.keyHash P z290), (.str z290 1123), (.ref 726)⟩, ⟨(PyData.keyHash P z200), (.str z200 1144), (.ref 727)⟩]) 15), (List.toArray [])⟩
noncomputable def x398 (_ : Params) : Obj := ⟨.none, none, (Data.fields (List.toArray [(.int 478 0), (.int 4 0), (.ref 652), (.int 520 0), (.int 4 0), (.ref 659), (.int 523 0), (.int 4 0), (.ref 667), (.int 526 0), (.int 4 0), (.ref 675), (.int 539 0), (.int 4 0), (.ref 682), (.int 546 0), (.int 4 0), (.ref 689), (.int 573 0), (.int 4 0), (.ref 696), (.int 710 0), (.int 4 0), (.ref 703), (.int 717 0), (.int 4 0), (.ref 711), (.int 720 0), (.int 4 0), (.ref 718), (.int 723 0), (.int 4 0), (.ref 725)])), (List.toArray [])⟩
noncomputable def x399 (_ : Params) : Obj := ⟨(.type "code"), none, (Data.fields (List.toArray [(.str z243 1015), (.str z243 1016), (.str z177 1017), (.int 476 0), (.int 0 0), (.int 0 0), (.int 0 0), (.int 0 0), (.ref 642), (.bool false), (.int 273 0), (.ref 643), .none, .none, .none, .none, (.int 1018 0), (.int 476 0), (.str z177 1019)])), (List.toArray [])⟩
noncomputable def x400 (_ : Params) : Obj := ⟨(.type "frame"), none, Data.plain, (List.toArray [(some (.ref 644)), (some (.ref 3)), (some (.ref 641)), none, (some (.str z402 1011)), none, (some (.ref 0))])⟩
noncomputable def x401 (_ : Params) : Obj := ⟨(.type "tuple"), none, (Data.seq (List.toArray [.none, .none, (.bool false), (.bool false)]) 0), (List.toArray [])⟩
noncomputable def x402 (_ : Params) : Obj := ⟨(.type "tuple"), none, (Data.seq (List.toArray [(.str z293 1028), (.str ⟨⟨[105,110,115,116,114,101,97,109]⟩⟩ 1029), (.str ⟨⟨[105,110,102,105,108,101]⟩⟩ 1030), (.str ⟨⟨[112,111,115,105,120]⟩⟩ 1031), (.str z403 1032), (.str ⟨⟨[116]⟩⟩ 1033)]) 0), (List.toArray [])⟩
noncomputable def x403 (_ : Params) : Obj := ⟨.none, none, (Data.func ⟨z215, ⟨⟨[115,104,108,101,120,46,95,95,105,110,105,116,95,95]⟩⟩, (qA (qC 21 0)), (FuncBody.stmts (qB (qC 21 0))), (qS (qC 21 0)), 0, [], .none, .none, .none, .none, none, .none, .none, 0⟩), (List.toArray [])⟩
noncomputable def x404 (_ : Params) : Obj := ⟨(.type "code"), none, (Data.fields (List.toArray [(.str z215 1025), (.str ⟨⟨[115,104,108,101,120,46,95,95,105,110,105,116,95,95]⟩⟩ 1026), (.str z177 1027), (.int 478 0), (.int 5 0), (.int 0 0), (.int 0 0), (.int 3 0), (.ref 647), (.bool true), (.int 273 0), (.ref 648), .none, (.ref 649), (.ref 650), (.ref 651), (.int 1034 0), (.int 478 0), (.str z177 1035)])), (List.toArray [])⟩
noncomputable def x405 (_ : Params) : Obj := ⟨(.type "function"), none, (Data.func ⟨z215, ⟨⟨[115,104,108,101,120,46,95,95,105,110,105,116,95,95]⟩⟩, (qA (qC 21 0)), (FuncBody.stmts (qB (qC 21 0))), (qS (qC 21 0)), 3, [], (.ref 646), .none, .none, (.str z402 1011), none, (.ref 652), .none, 0⟩), (List.toArray [])⟩
noncomputable def x406 (_ : Params) : Obj := ⟨(.type "tuple"), none, (Data.seq (List.toArray [(.str z293 1040)]) 0), (List.toArray [])⟩
noncomputable def x407 (_ : Params) : Obj := ⟨.none, none, (Data.func ⟨z403, ⟨⟨[115,104,108,101,120,46,112,117,110,99,116,117,97,116,105,111,110,95,99,104,97,114,115]⟩⟩, (qA (qC 21 1)), (FuncBody.stmts (qB (qC 21 1))), (qS (qC 11 4)), 0, [], .none, .none, .none, .none, none, .none, .none, 0⟩), (List.toArray [])⟩
noncomputable def x408 (_ : Params) : Obj := ⟨(.type "code"), none, (Data.fields (List.toArray [(.str z403 1037), (.str ⟨⟨[115,104,108,101,120,46,112,117,110,99,116,117,97,116,105,111,110,95,99,104,97,114,115]⟩⟩ 1038), (.str z177 1039), (.int 519 0), (.int 1 0), (.int 0 0), (.int 0 0), (.int 3 0), (.ref 654), (.bool true), (.int 273 0), (.ref 655), .none, (.ref 656), (.ref 657), (.ref 658), (.int 1041 0), (.int 519 0), (.str z177 1042)])), (List.toArray [])⟩
noncomputable def x409 (_ : Params) : Obj := ⟨(.type "function"), none, (Data.func ⟨z403, ⟨⟨[115,104,108,101,120,46,112,117,110,99,116,117,97,116,105,111,110,95,99,104,97,114,115]⟩⟩, (qA (qC 21 1)), (FuncBody.stmts (qB (qC 21 1))), (qS (qC 11 4)), 3, [], .none, .none, .none, (.str z402 1011), none, (.ref 659), .none, 0⟩), (List.toArray [])⟩
noncomputable def x410 (_ : Params) : Obj := ⟨(.type "property"), none, (Data.fields (List.toArray [(.ref 660), .none, .none, .none, (.str z403 1044), (.bool false)])), (List.toArray [])⟩
noncomputable def x411 (_ : Params) : Obj := ⟨(.type "tuple"), none, (Data.seq (List.toArray [(.str z293 1048), (.str ⟨⟨[116,111,107]⟩⟩ 1049)]) 0), (List.toArray [])⟩
noncomputable def x412 (_ : Params) : Obj := ⟨.none, none, (Data.func ⟨z404, ⟨⟨[115,104,108,101,120,46,112,117,115,104,95,116,111,107,101,110]⟩⟩, (qA (qC 21 2)), (FuncBody.stmts (qB (qC 21 2))), (qS (qC 21 2)), 0, [], .none, .none, .none, .none, none, .none, .none, 0⟩), (List.toArray [])⟩
noncomputable def x413 (_ : Params) : Obj := ⟨(.type "code"), none, (Data.fields (List.toArray [(.str z404 1045), (.str ⟨⟨[115,104,108,101,120,46,112,117,115,104,95,116,111,107,101,110]⟩⟩ 1046), (.str z177 1047), (.int 523 0), (.int 2 0), (.int 0 0), (.int 0 0), (.int 3 0), (.ref 662), (.bool true), (.int 273 0), (.ref 663), .none, (.ref 664), (.ref 665), (.ref 666), (.int 1050 0), (.int 523 0), (.str z177 1051)])), (List.toArray [])⟩
noncomputable def x414 (_ : Params) : Obj := ⟨(.type "function"), none, (Data.func ⟨z404, ⟨⟨[115,104,108,101,120,46,112,117,115,104,95,116,111,107,101,110]⟩⟩, (qA (qC 21 2)), (FuncBody.stmts (qB (qC 21 2))), (qS (qC 21 2)), 3, [], .none, .none, .none, (.str z402 1011), none, (.ref 667), .none, 0⟩), (List.toArray [])⟩
noncomputable def x415 (_ : Params) : Obj := ⟨(.type "tuple"), none, (Data.seq (List.toArray [(.str z293 1056), (.str ⟨⟨[110,101,119,115,116,114,101,97,109]⟩⟩ 1057), (.str ⟨⟨[110,101,119,102,105,108,101]⟩⟩ 1058)]) 0), (List.toArray [])⟩
noncomputable def x416 (_ : Params) : Obj := ⟨.none, none, (Data.func ⟨z405, ⟨⟨[115,104,108,101,120,46,112,117,115,104,95,115,111,117,114,99,101]⟩⟩, (qA (qC 21 3)), (FuncBody.stmts (qB (qC 21 3))), (qS (qC 21 3)), 0, [], .none, .none, .none, .none, none, .none, .none, 0⟩), (List.toArray [])⟩
noncomputable def x417 (_ : Params) : Obj := ⟨(.type "code"), none, (Data.fields (List.toArray [(.str z405 1053), (.str ⟨⟨[115,104,108,101,120,46,112,117,115,104,95,115,111,117,114,99,101]⟩⟩ 1054), (.str z177 1055), (.int 526 0), (.int 3 0), (.int 0 0), (.int 0 0), (.int 3 0), (.ref 670), (.bool true), (.int 273 0), (.ref 671), .none, (.ref 672), (.ref 673), (.ref 674), (.int 1059 0), (.int 526 0), (.str z177 1060)])), (List.toArray [])⟩
noncomputable def x418 (_ : Params) : Obj := ⟨(.type "function"), none, (Data.func ⟨z405, ⟨⟨[115,104,108,101,120,46,112,117,115,104,95,115,111,117,114,99,101]⟩⟩, (qA (qC 21 3)), (FuncBody.stmts (qB (qC 21 3))), (qS (qC 21 3)), 3, [], (.ref 669), .none, .none, (.str z402 1011), none, (.ref 675), .none, 0⟩), (List.toArray [])⟩
noncomputable def x419 (_ : Params) : Obj := ⟨(.type "tuple"), none, (Data.seq (List.toArray [(.str z293 1065)]) 0), (List.toArray [])⟩
noncomputable def x420 (_ : Params) : Obj := ⟨.none, none, (Data.func ⟨z406, ⟨⟨[115,104,108,101,120,46,112,111,112,95,115,111,117,114,99,101]⟩⟩, (qA (qC 21 4)), (FuncBody.stmts (qB (qC 21 4))), (qS (qC 21 4)), 0, [], .none, .none, .none, .none, none, .none, .none, 0⟩), (List.toArray [])⟩
noncomputable def x421 (_ : Params) : Obj := ⟨(.type "code"), none, (Data.fields (List.toArray [(.str z406 1062), (.str ⟨⟨[115,104,108,101,120,46,112,111,112,95,115,111,117,114,99,101]⟩⟩ 1063), (.str z177 1064), (.int 539 0), (.int 1 0), (.int 0 0), (.int 0 0), (.int 3 0), (.ref 677), (.bool true), (.int 273 0), (.ref 678), .none, (.ref 679), (.ref 680), (.ref 681), (.int 1066 0), (.int 539 0), (.str z177 1067)])), (List.toArray [])⟩
noncomputable def x422 (_ : Params) : Obj := ⟨(.type "function"), none, (Data.func ⟨z406, ⟨⟨[115,104,108,101,120,46,112,111,112,95,115,111,117,114,99,101]⟩⟩, (qA (qC 21 4)), (FuncBody.stmts (qB (qC 21 4))), (qS (qC 21 4)), 3, [], .none, .none, .none, (.str z402 1011), none, (.ref 682), .none, 0⟩), (List.toArray [])⟩
noncomputable def x423 (_ : Params) : Obj := ⟨(.type "tuple"), none, (Data.seq (List.toArray [(.str z293 1072), (.str ⟨⟨[116,111,107]⟩⟩ 1073), (.str ⟨⟨[114,97,119]⟩⟩ 1074), (.str ⟨⟨[115,112,101,99]⟩⟩ 1075), (.str ⟨⟨[110,101,119,102,105,108,101]⟩⟩ 1076), (.str ⟨⟨[110,101,119,115,116,114,101,97,109]⟩⟩ 1077)]) 0), (List.toArray [])⟩
noncomputable def x424 (_ : Params) : Obj := ⟨.none, none, (Data.func ⟨z407, ⟨⟨[115,104,108,101,120,46,103,101,116,95,116,111,107,101,110]⟩⟩, (qA (qC 21 5)), (FuncBody.stmts (qB (qC 21 5))), (qS (qC 21 5)), 0, [], .none, .none, .none, .none, none, .none, .none, 0⟩), (List.toArray [])⟩
noncomputable def x425 (_ : Params) : Obj := ⟨(.type "code"), none, (Data.fields (List.toArray [(.str z407 1069), (.str ⟨⟨[115,104,108,101,120,46,103,101,116,95,116,111,107,101,110]⟩⟩ 1070), (.str z177 1071), (.int 546 0), (.int 1 0), (.int 0 0), (.int 0 0), (.int 3 0), (.ref 684), (.bool true), (.int 273 0), (.ref 685), .none, (.ref 686), (.ref 687), (.ref 688), (.int 1078 0), (.int 546 0), (.str z177 1079)])), (List.toArray [])⟩
noncomputable def x426 (_ : Params) : Obj := ⟨(.type "function"), none, (Data.func ⟨z407, ⟨⟨[115,104,108,101,120,46,103,101,116,95,116,111,107,101,110]⟩⟩, (qA (qC 21 5)), (FuncBody.stmts (qB (qC 21 5))), (qS (qC 21 5)), 3, [], .none, .none, .none, (.str z402 1011), none, (.ref 689), .none, 0⟩), (List.toArray [])⟩
noncomputable def x427 (_ : Params) : Obj := ⟨(.type "tuple"), none, (Data.seq (List.toArray [(.str z293 1084), (.str ⟨⟨[113,117,111,116,101,100]⟩⟩ 1085), (.str ⟨⟨[101,115,99,97,112,101,100,115,116,97,116,101]⟩⟩ 1086), (.str ⟨⟨[110,101,120,116,99,104,97,114]⟩⟩ 1087), (.str ⟨⟨[114,101,115,117,108,116]⟩⟩ 1088)]) 0), (List.toArray [])⟩
noncomputable def x428 (_ : Params) : Obj := ⟨.none, none, (Data.func ⟨z408, ⟨⟨[115,104,108,101,120,46,114,101,97,100,95,116,111,107,101,110]⟩⟩, (qA (qC 21 6)), (FuncBody.stmts (qB (qC 21 6))), (qS (qC 21 6)), 0, [], .none, .none, .none, .none, none, .none, .none, 0⟩), (List.toArray [])⟩
noncomputable def x429 (_ : Params) : Obj := ⟨(.type "code"), none, (Data.fields (List.toArray [(.str z408 1081), (.str ⟨⟨[115,104,108,101,120,46,114,101,97,100,95,116,111,107,101,110]⟩⟩ 1082), (.str z177 1083), (.int 573 0), (.int 1 0), (.int 0 0), (.int 0 0), (.int 3 0), (.ref 691), (.bool true), (.int 273 0), (.ref 692), .none, (.ref 693), (.ref 694), (.ref 695), (.int 1089 0), (.int 573 0), (.str z177 1090)])), (List.toArray [])⟩
noncomputable def x430 (_ : Params) : Obj := ⟨(.type "function"), none, (Data.func ⟨z408, ⟨⟨[115,104,108,101,120,46,114,101,97,100,95,116,111,107,101,110]⟩⟩, (qA (qC 21 6)), (FuncBody.stmts (qB (qC 21 6))), (qS (qC 21 6)), 3, [], .none, .none, .none, (.str z402 1011), none, (.ref 696), .none, 0⟩), (List.toArray [])⟩
noncomputable def x431 (_ : Params) : Obj := ⟨(.type "tuple"), none, (Data.seq (List.toArray [(.str z293 1095), (.str ⟨⟨[110,101,119,102,105,108,101]⟩⟩ 1096)]) 0), (List.toArray [])⟩
noncomputable def x432 (_ : Params) : Obj := ⟨.none, none, (Data.func ⟨z409, ⟨⟨[115,104,108,101,120,46,115,111,117,114,99,101,104,111,111,107]⟩⟩, (qA (qC 21 7)), (FuncBody.stmts (qB (qC 21 7))), (qS (qC 21 7)), 0, [], .none, .none, .none, .none, none, .none, .none, 0⟩), (List.toArray [])⟩
noncomputable def x433 (_ : Params) : Obj := ⟨(.type "code"), none, (Data.fields (List.toArray [(.str z409 1092), (.str ⟨⟨[115,104,108,101,120,46,115,111,117,114,99,101,104,111,111,107]⟩⟩ 1093), (.str z177 1094), (.int 710 0), (.int 2 0), (.int 0 0), (.int 0 0), (.int 3 0), (.ref 698), (.bool true), (.int 273 0), (.ref 699), .none, (.ref 700), (.ref 701), (.ref 702), (.int 1097 0), (.int 710 0), (.str z177 1098)])), (List.toArray [])⟩
noncomputable def x434 (_ : Params) : Obj := ⟨(.type "function"), none, (Data.func ⟨z409, ⟨⟨[115,104,108,101,120,46,115,111,117,114,99,101,104,111,111,107]⟩⟩, (qA (qC 21 7)), (FuncBody.stmts (qB (qC 21 7))), (qS (qC 21 7)), 3, [], .none, .none, .none, (.str z402 1011), none, (.ref 703), .none, 0⟩), (List.toArray [])⟩
noncomputable def x435 (_ : Params) : Obj := ⟨(.type "tuple"), none, (Data.seq (List.toArray [.none, .none]) 0), (List.toArray [])⟩
noncomputable def x436 (_ : Params) : Obj := ⟨(.type "tuple"), none, (Data.seq (List.toArray [(.str z293 1103), (.str ⟨⟨[105,110,102,105,108,101]⟩⟩ 1104), (.str ⟨⟨[108,105,110,101,110,111]⟩⟩ 1105)]) 0), (List.toArray [])⟩
noncomputable def x437 (_ : Params) : Obj := ⟨.none, none, (Data.func ⟨z410, ⟨⟨[115,104,108,101,120,46,101,114,114,111,114,95,108,101,97,100,101,114]⟩⟩, (qA (qC 21 8)), (FuncBody.stmts (qB (qC 21 8))), (qS (qC 21 8)), 0, [], .none, .none, .none, .none, none, .none, .none, 0⟩), (List.toArray [])⟩
noncomputable def x438 (_ : Params) : Obj := ⟨(.type "code"), none, (Data.fields (List.toArray [(.str z410 1100), (.str ⟨⟨[115,104,108,101,120,46,101,114,114,111,114,95,108,101,97,100,101,114]⟩⟩ 1101), (.str z177 1102), (.int 717 0), (.int 3 0), (.int 0 0), (.int 0 0), (.int 3 0), (.ref 706), (.bool true), (.int 273 0), (.ref 707), .none, (.ref 708), (.ref 709), (.ref 710), (.int 1106 0), (.int 717 0), (.str z177 1107)])), (List.toArray [])⟩
noncomputable def x439 (_ : Params) : Obj := ⟨(.type "function"), none, (Data.func ⟨z410, ⟨⟨[115,104,108,101,120,46,101,114,114,111,114,95,108,101,97,100,101,114]⟩⟩, (qA (qC 21 8)), (FuncBody.stmts (qB (qC 21 8))), (qS (qC 21 8)), 3, [], (.ref 705), .none, .none, (.str z402 1011), none, (.ref 711), .none, 0⟩), (List.toArray [])⟩
noncomputable def x440 (_ : Params) : Obj := ⟨(.type "tuple"), none, (Data.seq (List.toArray [(.str z293 1112)]) 0), (List.toArray [])⟩
noncomputable def x441 (_ : Params) : Obj := ⟨.none, none, (Data.func ⟨z289, ⟨⟨[115,104,108,101,120,46,95,95,105,116,101,114,95,95]⟩⟩, (qA (qC 21 9)), (FuncBody.stmts (qB (qC 21 9))), (qS (qC 11 4)), 0, [], .none, .none, .none, .none, none, .none, .none, 0⟩), (List.toArray [])⟩
noncomputable def x442 (_ : Params) : Obj := ⟨(.type "code"), none, (Data.fields (List.toArray [(.str z289 1109), (.str ⟨⟨[115,104,108,101,120,46,95,95,105,116,101,114,95,95]⟩⟩ 1110), (.str z177 1111), (.int 720 0), (.int 1 0), (.int 0 0), (.int 0 0), (.int 3 0), (.ref 713), (.bool true), (.int 273 0), (.ref 714), .none, (.ref 715), (.ref 716), (.ref 717), (.int 1113 0), (.int 720 0), (.str z177 1114)])), (List.toArray [])⟩
noncomputable def x443 (_ : Params) : Obj := ⟨(.type "function"), none, (Data.func ⟨z289, ⟨⟨[115,104,108,101,120,46,95,95,105,116,101,114,95,95]⟩⟩, (qA (qC 21 9)), (FuncBody.stmts (qB (qC 21 9))), (qS (qC 11 4)), 3, [], .none, .none, .none, (.str z402 1011), none, (.ref 718), .none, 0⟩), (List.toArray [])⟩
noncomputable def x444 (_ : Params) : Obj := ⟨(.type "tuple"), none, (Data.seq (List.toArray [(.str z293 1119), (.str ⟨⟨[116,111,107,101,110]⟩⟩ 1120)]) 0), (List.toArray [])⟩
noncomputable def x445 (_ : Params) : Obj := ⟨.none, none, (Data.func ⟨z290, ⟨⟨[115,104,108,101,120,46,95,95,110,101,120,116,95,95]⟩⟩, (qA (qC 21 10)), (FuncBody.stmts (qB (qC 21 10))), (qS (qC 21 10)), 0, [], .none, .none, .none, .none, none, .none, .none, 0⟩), (List.toArray [])⟩
noncomputable def x446 (_ : Params) : Obj := ⟨(.type "code"), none, (Data.fields (List.toArray [(.str z290 1116), (.str ⟨⟨[115,104,108,101,120,46,95,95,110,101,120,116,95,95]⟩⟩ 1117), (.str z177 1118), (.int 723 0), (.int 1 0), (.int 0 0), (.int 0 0), (.int 3 0), (.ref 720), (.bool true), (.int 273 0), (.ref 721), .none, (.ref 722), (.ref 723), (.ref 724), (.int 1121 0), (.int 723 0), (.str z177 1122)])), (List.toArray [])⟩
noncomputable def x447 (_ : Params) : Obj := ⟨(.type "function"), none, (Data.func ⟨z290, ⟨⟨[115,104,108,101,120,46,95,95,110,101,120,116,95,95]⟩⟩, (qA (qC 21 10)), (FuncBody.stmts (qB (qC 21 10))), (qS (qC 21 10)), 3, [], .none, .none, .none, (.str z402 1011), none, (.ref 725), .none, 0⟩), (List.toArray [])⟩
noncomputable def x448 (_ : Params) : Obj := ⟨(.type "tuple"), none, (Data.seq (List.toArray [(.str ⟨⟨[95,112,117,110,99,116,117,97,116,105,111,110,95,99,104,97,114,115]⟩⟩ 1124), (.str ⟨⟨[95,112,117,115,104,98,97,99,107,95,99,104,97,114,115]⟩⟩ 1125), (.str ⟨⟨[99,111,109,109,101,110,116,101,114,115]⟩⟩ 1126), (.str ⟨⟨[100,101,98,117,103]⟩⟩ 1127), (.str ⟨⟨[101,111,102]⟩⟩ 1128), (.str ⟨⟨[101,115,99,97,112,101]⟩⟩ 1129), (.str ⟨⟨[101,115,99,97,112,101,100,113,117,111,116,101,115]⟩⟩ 1130), (.str ⟨⟨[102,105,108,101,115,116,97,99,107]⟩⟩ 1131), (.str ⟨⟨[105,110,102,105,108,101]⟩⟩ 1132), (.str ⟨⟨[105,110,115,116,114,101,97,109]⟩⟩ 1133), (.str ⟨⟨[108,105,110,101,110,111]⟩⟩ 1134), (.str ⟨⟨[112,111,115,105,120]⟩⟩ 1135), (.str ⟨⟨[112,117,115,104,98,97,99,107]⟩⟩ 1136), (.str ⟨⟨[113,117,111,116,101,115]⟩⟩ 1137), (.str ⟨⟨[115,111,117,114,99,101]⟩⟩ 1138), (.str ⟨⟨[115,116,97,116,101]⟩⟩ 1139), (.str ⟨⟨[116,111,107,101,110]⟩⟩ 1140), (.str ⟨⟨[119,104,105,116,101,115,112,97,99,101]⟩⟩ 1141), (.str ⟨⟨[119,104,105,116,101,115,112,97,99,101,95,115,112,108,105,116]⟩⟩ 1142), (.str ⟨⟨[119,111,114,100,99,104,97,114,115]⟩⟩ 1143)]) 0), (List.toArray [])⟩
noncomputable def x449 (P : Params) : Obj := ⟨(.type "dict"), none, (Data.dict (List.toArray [⟨(PyData.keyHash P z188), (.str z188 1020), (.str z402 1011)⟩, ⟨(PyData.keyHash P z190), (.str z190 1024), (.int 476 1023)⟩, ⟨(PyData.keyHash P z215), (.str z215 1036), (.ref 653)⟩, ⟨(PyData.keyHash P z403), (.str z403 1044), (.ref 661)⟩, ⟨(PyData.keyHash P z404), (.str z404 1052), (.ref 668)⟩, ⟨(PyData.keyHash P z405), (.str z405 1061), (.ref 676)⟩, ⟨(PyData.keyHash P z406), (.str z406 1068), (.ref 683)⟩, ⟨(PyData.keyHash P z407), (.str z407 1080), (.ref 690)⟩, ⟨(PyData.keyHash P z408), (.str z408 1091), (.ref 697)⟩, ⟨(PyData.keyHash P z409), (.str z409 1099), (.ref 704)⟩, ⟨(PyData.keyHash P z410), (.str z410 1108), (.ref 712)⟩, ⟨(PyData.keyHash P z289), (.str z289 1115), (.ref 719)⟩, ⟨(PyData.keyHash P z290), (.str z290 1123), (.ref 726)⟩, ⟨(PyData.keyHash P z200), (.str z200 1144), (.ref 727)⟩, ⟨(PyData.keyHash P z201), (.str z201 1146), (.ref 730)⟩, ⟨(PyData.keyHash P z202), (.str z202 1148), (.ref 731)⟩, ⟨(PyData.keyHash P z2), (.str z2 1149), .none⟩]) 4), (List.toArray [])⟩
noncomputable def x450 (_ : Params) : Obj := ⟨(.type "type"), none, (Data.cls ⟨z243, [(.type "object")], [(.ref 729), (.type "object")], 728, z243, true, [], [], false, none, false⟩), (List.toArray [none, none, (some (.str z243 1013)), (some (.str z243 1021)), (some (.builtin "object.__new__")), (some (.bool true))])⟩
noncomputable def x451 (_ : Params) : Obj := ⟨(.type "getset_descriptor"), none, (Data.fields (List.toArray [(.str z201 1145), (.ref 729), (.builtin "function.__dict__"), (.builtin "function.__dict__#set")])), (List.toArray [])⟩
noncomputable def x452 (_ : Params) : Obj := ⟨(.type "getset_descriptor"), none, (Data.fields (List.toArray [(.str z202 1147), (.ref 729), (.builtin "ExceptionGroup.__weakref__"), .none])), (List.toArray [])⟩
noncomputable def x453 (_ : Params) : Obj := ⟨(.type "super"), none, (Data.fields (List.toArray [(.ref 729), (.ref 729), (.ref 729)])), (List.toArray [])⟩
noncomputable def x454 (_ : Params) : Obj := ⟨(.type "builtin_function_or_method"), none, (Data.fields (List.toArray [(.builtin "object.__init_subclass__"), (.ref 729)])), (List.toArray [])⟩
noncomputable def x455 (_ : Params) : Obj := ⟨(.type "tuple"), none, (Data.seq (List.toArray [(.bool false), (.bool true)]) 0), (List.toArray [])⟩
noncomputable def x456 (_ : Params) : Obj := ⟨(.type "tuple"), none, (Data.seq (List.toArray [(.str z352 1155), (.str ⟨⟨[99,111,109,109,101,110,116,115]⟩⟩ 1156), (.str ⟨⟨[112,111,115,105,120]⟩⟩ 1157), (.str ⟨⟨[108,101,120]⟩⟩ 1158)]) 0), (List.toArray [])⟩
noncomputable def x457 (_ : Params) : Obj := ⟨.none, none, (Data.func ⟨z244, z244, (qA (qT 22)), (FuncBody.stmts (qB (qT 22))), (qS (qT 22)), 0, [], .none, .none, .none, .none, none, .none, .none, 0⟩), (List.toArray [])⟩
noncomputable def x458 (_ : Params) : Obj := ⟨(.type "code"), none, (Data.fields (List.toArray [(.str z244 1152), (.str z244 1153), (.str z177 1154), (.int 728 0), (.int 3 0), (.int 0 0), (.int 0 0), (.int 3 0), (.ref 735), (.bool true), (.int 273 0), (.ref 736), .none, (.ref 737), (.ref 738), (.ref 739), (.int 1159 0), (.int 728 0), (.str z177 1160)])), (List.toArray [])⟩
noncomputable def x459 (_ : Params) : Obj := ⟨(.type "function"), none, (Data.func ⟨z244, z244, (qA (qT 22)), (FuncBody.stmts (qB (qT 22))), (qS (qT 22)), 3, [], (.ref 734), .none, .none, (.str z402 1011), none, (.ref 740), .none, 0⟩), (List.toArray [])⟩
noncomputable def x460 (_ : Params) : Obj := ⟨(.type "tuple"), none, (Data.seq (List.toArray [(.str ⟨⟨[107,105,110,100]⟩⟩ 1167), (.str ⟨⟨[99,111,100,101]⟩⟩ 1168), (.str ⟨⟨[115,105,103,110]⟩⟩ 1169)]) 0), (List.toArray [])⟩
noncomputable def x461 (_ : Params) : Obj := ⟨.none, none, (Data.func ⟨z245, z245, (qA (qT 24)), (FuncBody.stmts (qB (qT 24))), (qS (qT 24)), 0, [], .none, .none, .none, .none, none, .none, .none, 0⟩), (List.toArray [])⟩
noncomputable def x462 (_ : Params) : Obj := ⟨(.type "code"), none, (Data.fields (List.toArray [(.str z245 1164), (.str z245 1165), (.str z177 1166), (.int 737 0), (.int 2 0), (.int 0 0), (.int 0 0), (.int 3 0), (.ref 742), (.bool true), (.int 273 0), (.ref 743), .none, (.ref 744), (.ref 745), (.ref 746), (.int 1170 0), (.int 737 0), (.str z177 1171)])), (List.toArray [])⟩
noncomputable def x463 (_ : Params) : Obj := ⟨(.type "function"), none, (Data.func ⟨z245, z245, (qA (qT 24)), (FuncBody.stmts (qB (qT 24))), (qS (qT 24)), 3, [], .none, .none, .none, (.str z226 1162), none, (.ref 747), .none, 0⟩), (List.toArray [])⟩
noncomputable def x464 (_ : Params) : Obj := ⟨.none, none, (Data.func ⟨z246, z246, (qA (qT 25)), (FuncBody.stmts (qB (qT 25))), (qS (qT 25)), 0, [], .none, .none, .none, .none, none, .none, .none, 0⟩), (List.toArray [])⟩
noncomputable def x465 (_ : Params) : Obj := ⟨(.type "code"), none, (Data.fields (List.toArray [(.str z246 1173), (.str z246 1174), (.str z177 1175), (.int 742 0), (.int 3 0), (.int 0 0), (.int 0 0), (.int 3 0), (.ref 749), (.bool true), (.int 273 0), (.ref 750), .none, .none, .none, (.ref 751), (.int 1176 0), (.int 742 0), (.str z177 1177)])), (List.toArray [])⟩
noncomputable def x466 (_ : Params) : Obj := ⟨(.type "function"), none, (Data.func ⟨z246, z246, (qA (qT 25)), (FuncBody.stmts (qB (qT 25))), (qS (qT 25)), 3, [], .none, .none, .none, (.str z226 1162), none, (.ref 752), .none, 0⟩), (List.toArray [])⟩
noncomputable def x467 (_ : Params) : Obj := ⟨(.type "tuple"), none, (Data.seq (List.toArray [(.str z252 1182), (.str ⟨⟨[119,111,114,100,115]⟩⟩ 1183), (.str ⟨⟨[98,101,103,117,110]⟩⟩ 1184), (.str ⟨⟨[112,108,97,99,101]⟩⟩ 1185), (.str ⟨⟨[115,105,103,110]⟩⟩ 1186)]) 0), (List.toArray [])⟩
noncomputable def x468 (_ : Params) : Obj := ⟨.none, none, (Data.func ⟨z247, z247, (qA (qT 26)), (FuncBody.stmts (qB (qT 26))), (qS (qT 26)), 0, [], .none, .none, .none, .none, none, .none, .none, 0⟩), (List.toArray [])⟩
noncomputable def x469 (_ : Params) : Obj := ⟨(.type "code"), none, (Data.fields (List.toArray [(.str z247 1179), (.str z247 1180), (.str z177 1181), (.int 749 0), (.int 1 0), (.int 0 0), (.int 0 0), (.int 3 0), (.ref 754), (.bool true), (.int 273 0), (.ref 755), .none, (.ref 756), (.ref 757), (.ref 758), (.int 1187 0), (.int 749 0), (.str z177 1188)])), (List.toArray [])⟩
noncomputable def x470 (_ : Params) : Obj := ⟨(.type "function"), none, (Data.func ⟨z247, z247, (qA (qT 26)), (FuncBody.stmts (qB (qT 26))), (qS (qT 26)), 3, [], .none, .none, .none, (.str z226 1162), none, (.ref 759), .none, 0⟩), (List.toArray [])⟩
noncomputable def x471 (_ : Params) : Obj := ⟨(.type "tuple"), none, (Data.seq (List.toArray [(.str z252 1193), (.str ⟨⟨[102,97,117,108,116]⟩⟩ 1194)]) 0), (List.toArray [])⟩
noncomputable def x472 (_ : Params) : Obj := ⟨.none, none, (Data.func ⟨z248, z248, (qA (qT 27)), (FuncBody.stmts (qB (qT 27))), (qS (qT 27)), 0, [], .none, .none, .none, .none, none, .none, .none, 0⟩), (List.toArray [])⟩
noncomputable def x473 (_ : Params) : Obj := ⟨(.type "code"), none, (Data.fields (List.toArray [(.str z248 1190), (.str z248 1191), (.str z177 1192), (.int 766 0), (.int 1 0), (.int 0 0), (.int 0 0), (.int 3 0), (.ref 761), (.bool true), (.int 273 0), (.ref 762), .none, (.ref 763), (.ref 764), (.ref 765), (.int 1195 0), (.int 766 0), (.str z177 1196)])), (List.toArray [])⟩
noncomputable def x474 (_ : Params) : Obj := ⟨(.type "function"), none, (Data.func ⟨z248, z248, (qA (qT 27)), (FuncBody.stmts (qB (qT 27))), (qS (qT 27)), 3, [], .none, .none, .none, (.str z226 1162), none, (.ref 766), .none, 0⟩), (List.toArray [])⟩
noncomputable def x475 (_ : Params) : Obj := ⟨(.type "tuple"), none, (Data.seq (List.toArray [(.str z252 1201), (.str ⟨⟨[109,111,118,101]⟩⟩ 1202), (.str ⟨⟨[109,97,114,107,115]⟩⟩ 1203), (.str ⟨⟨[112,108,97,99,101]⟩⟩ 1204), (.str ⟨⟨[101,110,100]⟩⟩ 1205), (.str ⟨⟨[119,104,111,108,101]⟩⟩ 1206), (.str ⟨⟨[100,117,101]⟩⟩ 1207)]) 0), (List.toArray [])⟩
noncomputable def x476 (_ : Params) : Obj := ⟨.none, none, (Data.func ⟨z249, z249, (qA (qT 28)), (FuncBody.stmts (qB (qT 28))), (qS (qT 28)), 0, [], .none, .none, .none, .none, none, .none, .none, 0⟩), (List.toArray [])⟩
noncomputable def x477 (_ : Params) : Obj := ⟨(.type "code"), none, (Data.fields (List.toArray [(.str z249 1198), (.str z249 1199), (.str z177 1200), (.int 771 0), (.int 2 0), (.int 0 0), (.int 0 0), (.int 3 0), (.ref 768), (.bool true), (.int 273 0), (.ref 769), .none, (.ref 770), (.ref 771), (.ref 772), (.int 1208 0), (.int 771 0), (.str z177 1209)])), (List.toArray [])⟩
noncomputable def x478 (_ : Params) : Obj := ⟨(.type "function"), none, (Data.func ⟨z249, z249, (qA (qT 28)), (FuncBody.stmts (qB (qT 28))), (qS (qT 28)), 3, [], .none, .none, .none, (.str z226 1162), none, (.ref 773), .none, 0⟩), (List.toArray [])⟩
noncomputable def x479 (_ : Params) : Obj := ⟨.none, none, (Data.func ⟨z250, z250, (qA (qT 29)), (FuncBody.stmts (qB (qT 29))), (qS (qT 29)), 0, [], .none, .none, .none, .none, none, .none, .none, 0⟩), (List.toArray [])⟩
noncomputable def x480 (_ : Params) : Obj := ⟨(.type "code"), none, (Data.fields (List.toArray [(.str z250 1211), (.str z250 1212), (.str z177 1213), (.int 780 0), (.int 1 0), (.int 0 0), (.int 0 0), (.int 3 0), (.ref 775), (.bool true), (.int 273 0), (.ref 776), .none, .none, .none, (.ref 777), (.int 1214 0), (.int 780 0), (.str z177 1215)])), (List.toArray [])⟩
noncomputable def x481 (_ : Params) : Obj := ⟨(.type "function"), none, (Data.func ⟨z250, z250, (qA (qT 29)), (FuncBody.stmts (qB (qT 29))), (qS (qT 29)), 3, [], .none, .none, .none, (.str z226 1162), none, (.ref 778), .none, 0⟩), (List.toArray [])⟩
noncomputable def T0 (P : Params) : BT := (node (x0 P) (node (x1 P) (node (x3 P) (node (x7 P) (node (x15 P) nil nil) (node (x22 P) nil nil)) (node (x11 P) (node (x18 P) nil nil) (node (x26 P) nil nil))) (node (x5 P) (node (x9 P) (node (x16 P) nil nil) (node (x24 P) nil nil)) (node (x13 P) (node (x20 P) nil nil) nil))) (node (x2 P) (node (x4 P) (node (x8 P) (node (x7 P) nil nil) (node (x23 P) nil nil)) (node (x12 P) (node (x19 P) nil nil) (node (x27 P) nil nil))) (node (x6 P) (node (x10 P) (node (x17 P) nil nil) (node (x25 P) nil nil)) (node (x14 P) (node (x21 P) nil nil) nil))))
noncomputable def T1 (P : Params) : BT := (node (x0 P) (node (x1 P) (node (x29 P) (node (x7 P) (node (x15 P) (node (x31 P) (node (x51 P) (node (x94 P) (node (x168 P) (node (x8 P) nil nil) (node (x474 P) nil nil)) (node (x244 P) (node (x7 P) nil nil) nil)) (node (x131 P) (node (x204 P) (node (x357 P) nil nil) nil) (node (x7 P) (node (x433 P) nil nil) nil))) (node (x73 P) (node (x112 P) (node (x7 P) (node (x8 P) nil nil) nil) (node (x264 P) (node (x8 P) nil nil) nil)) (node (x7 P) (node (x50 P) (node (x7 P) nil nil) nil) (node (x301 P) (node (x7 P) nil nil) nil)))) (node (x7 P) (node (x61 P) (node (x8 P) (node (x177 P) (node (x8 P) nil nil) nil) (node (x254 P) (node (x8 P) nil nil) nil)) (node (x8 P) (node (x213 P) (node (x367 P) nil nil) nil) (node (x292 P) (node (x443 P) nil nil) nil))) (node (x7 P) (node (x121 P) (node (x7 P) (node (x348 P) nil nil) nil) (node (x274 P) (node (x7 P) nil nil) nil)) (node (x158 P) (node (x235 P) (node (x387 P) nil nil) nil) (node (x311 P) (node (x464 P) nil nil) nil))))) (node (x22 P) (node (x36 P) (node (x56 P) (node (x7 P) (node (x172 P) (node (x8 P) nil nil) (node (x7 P) nil nil)) (node (x249 P) (node (x7 P) nil nil) nil)) (node (x7 P) (node (x7 P) (node (x362 P) nil nil) nil) (node (x8 P) (node (x438 P) nil nil) nil))) (node (x7 P) (node (x7 P) (node (x7 P) (node (x8 P) nil nil) nil) (node (x269 P) (node (x419 P) nil nil) nil)) (node (x153 P) (node (x8 P) (node (x382 P) nil nil) nil) (node (x306 P) (node (x8 P) nil nil) nil)))) (node (x8 P) (node (x66 P) (node (x107 P) (node (x182 P) (node (x8 P) nil nil) nil) (node (x259 P) (node (x8 P) nil nil) nil)) (node (x144 P) (node (x218 P) (node (x373 P) nil nil) nil) (node (x7 P) (node (x448 P) nil nil) nil))) (node (x88 P) (node (x126 P) (node (x8 P) (node (x7 P) nil nil) nil) (node (x279 P) (node (x428 P) nil nil) nil)) (node (x163 P) (node (x7 P) (node (x392 P) nil nil) nil) (node (x7 P) (node (x469 P) nil nil) nil)))))) (node (x11 P) (node (x18 P) (node (x33 P) (node (x53 P) (node (x7 P) (node (x169 P) (node (x322 P) nil nil) (node (x7 P) nil nil)) (node (x8 P) (node (x398 P) nil nil) nil)) (node (x7 P) (node (x207 P) (node (x8 P) nil nil) nil) (node (x285 P) (node (x8 P) nil nil) nil))) (node (x7 P) (node (x115 P) (node (x188 P) (node (x341 P) nil nil) nil) (node (x266 P) (node (x417 P) nil nil) nil)) (node (x7 P) (node (x228 P) (node (x7 P) nil nil) nil) (node (x8 P) (node (x457 P) nil nil) nil)))) (node (x42 P) (node (x63 P) (node (x105 P) (node (x179 P) (node (x331 P) nil nil) nil) (node (x256 P) (node (x408 P) nil nil) nil)) (node (x142 P) (node (x8 P) (node (x371 P) nil nil) nil) (node (x295 P) (node (x7 P) nil nil) nil))) (node (x7 P) (node (x8 P) (node (x197 P) (node (x351 P) nil nil) nil) (node (x276 P) (node (x7 P) nil nil) nil)) (node (x160 P) (node (x238 P) (node (x389 P) nil nil) nil) (node (x7 P) (node (x8 P) nil nil) nil))))) (node (x26 P) (node (x7 P) (node (x50 P) (node (x100 P) (node (x174 P) (node (x327 P) nil nil) (node (x481 P) nil nil)) (node (x251 P) (node (x403 P) nil nil) nil)) (node (x137 P) (node (x7 P) (node (x364 P) nil nil) nil) (node (x290 P) (node (x440 P) nil nil) nil))) (node (x81 P) (node (x7 P) (node (x193 P) (node (x346 P) nil nil) nil) (node (x271 P) (node (x422 P) nil nil) nil)) (node (x8 P) (node (x233 P) (node (x8 P) nil nil) nil) (node (x308 P) (node (x462 P) nil nil) nil)))) (node (x47 P) (node (x69 P) (node (x110 P) (node (x7 P) (node (x336 P) nil nil) nil) (node (x261 P) (node (x413 P) nil nil) nil)) (node (x147 P) (node (x222 P) (node (x376 P) nil nil) nil) (node (x7 P) (node (x452 P) nil nil) nil))) (node (x7 P) (node (x128 P) (node (x202 P) (node (x7 P) nil nil) nil) (node (x7 P) (node (x8 P) nil nil) nil)) (node (x165 P) (node (x7 P) (node (x7 P) nil nil) nil) (node (x317 P) (node (x471 P) nil nil) nil))))))) (node (x5 P) (node (x9 P) (node (x16 P) (node (x7 P) (node (x8 P) (node (x8 P) (node (x7 P) (node (x7 P) nil nil) (node (x8 P) nil nil)) (node (x246 P) (node (x397 P) nil nil) nil)) (node (x8 P) (node (x205 P) (node (x359 P) nil nil) nil) (node (x284 P) (node (x435 P) nil nil) nil))) (node (x50 P) (node (x113 P) (node (x187 P) (node (x7 P) nil nil) nil) (node (x7 P) (node (x7 P) nil nil) nil)) (node (x150 P) (node (x7 P) (node (x379 P) nil nil) nil) (node (x303 P) (node (x456 P) nil nil) nil)))) (node (x41 P) (node (x7 P) (node (x7 P) (node (x7 P) (node (x7 P) nil nil) nil) (node (x7 P) (node (x7 P) nil nil) nil)) (node (x7 P) (node (x215 P) (node (x369 P) nil nil) nil) (node (x293 P) (node (x8 P) nil nil) nil))) (node (x83 P) (node (x123 P) (node (x196 P) (node (x349 P) nil nil) nil) (node (x7 P) (node (x425 P) nil nil) nil)) (node (x7 P) (node (x236 P) (node (x7 P) nil nil) nil) (node (x8 P) (node (x466 P) nil nil) nil))))) (node (x24 P) (node (x8 P) (node (x58 P) (node (x99 P) (node (x7 P) (node (x7 P) nil nil) (node (x479 P) nil nil)) (node (x7 P) (node (x402 P) nil nil) nil)) (node (x136 P) (node (x210 P) (node (x7 P) nil nil) nil) (node (x7 P) (node (x7 P) nil nil) nil))) (node (x79 P) (node (x118 P) (node (x192 P) (node (x7 P) nil nil) nil) (node (x7 P) (node (x420 P) nil nil) nil)) (node (x155 P) (node (x7 P) (node (x384 P) nil nil) nil) (node (x7 P) (node (x7 P) nil nil) nil)))) (node (x7 P) (node (x67 P) (node (x108 P) (node (x8 P) (node (x7 P) nil nil) nil) (node (x7 P) (node (x7 P) nil nil) nil)) (node (x145 P) (node (x220 P) (node (x374 P) nil nil) nil) (node (x298 P) (node (x450 P) nil nil) nil))) (node (x50 P) (node (x7 P) (node (x7 P) (node (x354 P) nil nil) nil) (node (x8 P) (node (x430 P) nil nil) nil)) (node (x7 P) (node (x241 P) (node (x8 P) nil nil) nil) (node (x316 P) (node (x7 P) nil nil) nil)))))) (node (x13 P) (node (x20 P) (node (x34 P) (node (x54 P) (node (x97 P) (node (x170 P) (node (x324 P) nil nil) (node (x477 P) nil nil)) (node (x7 P) (node (x400 P) nil nil) nil)) (node (x134 P) (node (x8 P) (node (x7 P) nil nil) nil) (node (x287 P) (node (x7 P) nil nil) nil))) (node (x76 P) (node (x8 P) (node (x190 P) (node (x343 P) nil nil) nil) (node (x267 P) (node (x7 P) nil nil) nil)) (node (x152 P) (node (x230 P) (node (x381 P) nil nil) nil) (node (x7 P) (node (x459 P) nil nil) nil)))) (node (x44 P) (node (x64 P) (node (x7 P) (node (x180 P) (node (x333 P) nil nil) nil) (node (x257 P) (node (x410 P) nil nil) nil)) (node (x7 P) (node (x7 P) (node (x7 P) nil nil) nil) (node (x8 P) (node (x446 P) nil nil) nil))) (node (x86 P) (node (x7 P) (node (x199 P) (node (x8 P) nil nil) nil) (node (x277 P) (node (x427 P) nil nil) nil)) (node (x161 P) (node (x8 P) (node (x390 P) nil nil) nil) (node (x314 P) (node (x7 P) nil nil) nil))))) (node (x7 P) (node (x39 P) (node (x7 P) (node (x102 P) (node (x175 P) (node (x94 P) nil nil) nil) (node (x252 P) (node (x405 P) nil nil) nil)) (node (x139 P) (node (x212 P) (node (x365 P) nil nil) nil) (node (x7 P) (node (x441 P) nil nil) nil))) (node (x50 P) (node (x120 P) (node (x195 P) (node (x7 P) nil nil) nil) (node (x272 P) (node (x8 P) nil nil) nil)) (node (x7 P) (node (x7 P) (node (x7 P) nil nil) nil) (node (x309 P) (node (x7 P) nil nil) nil)))) (node (x49 P) (node (x71 P) (node (x7 P) (node (x185 P) (node (x338 P) nil nil) nil) (node (x262 P) (node (x94 P) nil nil) nil)) (node (x8 P) (node (x224 P) (node (x8 P) nil nil) nil) (node (x300 P) (node (x454 P) nil nil) nil))) (node (x92 P) (node (x129 P) (node (x7 P) (node (x356 P) nil nil) nil) (node (x282 P) (node (x7 P) nil nil) nil)) (node (x166 P) (node (x243 P) (node (x395 P) nil nil) nil) (node (x319 P) (node (x472 P) nil nil) nil)))))))) (node (x28 P) (node (x4 P) (node (x8 P) (node (x7 P) (node (x32 P) (node (x7 P) (node (x7 P) (node (x94 P) (node (x320 P) nil nil) (node (x7 P) nil nil)) (node (x245 P) (node (x50 P) nil nil) nil)) (node (x7 P) (node (x7 P) (node (x358 P) nil nil) nil) (node (x8 P) (node (x434 P) nil nil) nil))) (node (x74 P) (node (x7 P) (node (x8 P) (node (x339 P) nil nil) nil) (node (x265 P) (node (x415 P) nil nil) nil)) (node (x149 P) (node (x226 P) (node (x378 P) nil nil) nil) (node (x302 P) (node (x8 P) nil nil) nil)))) (node (x8 P) (node (x62 P) (node (x103 P) (node (x178 P) (node (x329 P) nil nil) nil) (node (x255 P) (node (x406 P) nil nil) nil)) (node (x140 P) (node (x214 P) (node (x368 P) nil nil) nil) (node (x7 P) (node (x7 P) nil nil) nil))) (node (x8 P) (node (x122 P) (node (x8 P) (node (x7 P) nil nil) nil) (node (x275 P) (node (x424 P) nil nil) nil)) (node (x159 P) (node (x7 P) (node (x388 P) nil nil) nil) (node (x7 P) (node (x465 P) nil nil) nil))))) (node (x23 P) (node (x7 P) (node (x57 P) (node (x8 P) (node (x173 P) (node (x325 P) nil nil) (node (x8 P) nil nil)) (node (x250 P) (node (x8 P) nil nil) nil)) (node (x8 P) (node (x209 P) (node (x363 P) nil nil) nil) (node (x288 P) (node (x439 P) nil nil) nil))) (node (x78 P) (node (x117 P) (node (x8 P) (node (x344 P) nil nil) nil) (node (x270 P) (node (x7 P) nil nil) nil)) (node (x154 P) (node (x231 P) (node (x383 P) nil nil) nil) (node (x307 P) (node (x460 P) nil nil) nil)))) (node (x45 P) (node (x7 P) (node (x7 P) (node (x7 P) (node (x334 P) nil nil) nil) (node (x260 P) (node (x411 P) nil nil) nil)) (node (x7 P) (node (x219 P) (node (x7 P) nil nil) nil) (node (x297 P) (node (x449 P) nil nil) nil))) (node (x89 P) (node (x127 P) (node (x200 P) (node (x353 P) nil nil) nil) (node (x7 P) (node (x429 P) nil nil) nil)) (node (x164 P) (node (x240 P) (node (x7 P) nil nil) nil) (node (x8 P) (node (x470 P) nil nil) nil)))))) (node (x12 P) (node (x19 P) (node (x7 P) (node (x7 P) (node (x96 P) (node (x7 P) (node (x323 P) nil nil) (node (x476 P) nil nil)) (node (x247 P) (node (x399 P) nil nil) nil)) (node (x133 P) (node (x7 P) (node (x360 P) nil nil) nil) (node (x286 P) (node (x436 P) nil nil) nil))) (node (x8 P) (node (x7 P) (node (x189 P) (node (x342 P) nil nil) nil) (node (x7 P) (node (x418 P) nil nil) nil)) (node (x8 P) (node (x229 P) (node (x8 P) nil nil) nil) (node (x304 P) (node (x458 P) nil nil) nil)))) (node (x43 P) (node (x7 P) (node (x106 P) (node (x7 P) (node (x332 P) nil nil) nil) (node (x7 P) (node (x409 P) nil nil) nil)) (node (x143 P) (node (x216 P) (node (x372 P) nil nil) nil) (node (x7 P) (node (x445 P) nil nil) nil))) (node (x85 P) (node (x124 P) (node (x198 P) (node (x7 P) nil nil) nil) (node (x7 P) (node (x8 P) nil nil) nil)) (node (x7 P) (node (x7 P) (node (x7 P) nil nil) nil) (node (x313 P) (node (x467 P) nil nil) nil))))) (node (x27 P) (node (x38 P) (node (x59 P) (node (x101 P) (node (x7 P) (node (x328 P) nil nil) nil) (node (x7 P) (node (x404 P) nil nil) nil)) (node (x138 P) (node (x8 P) (node (x7 P) nil nil) nil) (node (x291 P) (node (x7 P) nil nil) nil))) (node (x74 P) (node (x8 P) (node (x194 P) (node (x347 P) nil nil) nil) (node (x7 P) (node (x7 P) nil nil) nil)) (node (x156 P) (node (x234 P) (node (x385 P) nil nil) nil) (node (x7 P) (node (x463 P) nil nil) nil)))) (node (x48 P) (node (x70 P) (node (x111 P) (node (x184 P) (node (x337 P) nil nil) nil) (node (x7 P) (node (x414 P) nil nil) nil)) (node (x7 P) (node (x223 P) (node (x7 P) nil nil) nil) (node (x8 P) (node (x453 P) nil nil) nil))) (node (x91 P) (node (x7 P) (node (x203 P) (node (x8 P) nil nil) nil) (node (x281 P) (node (x431 P) nil nil) nil)) (node (x7 P) (node (x8 P) (node (x394 P) nil nil) nil) (node (x318 P) (node (x7 P) nil nil) nil))))))) (node (x6 P) (node (x10 P) (node (x17 P) (node (x8 P) (node (x52 P) (node (x95 P) (node (x8 P) (node (x321 P) nil nil) (node (x475 P) nil nil)) (node (x7 P) (node (x7 P) nil nil) nil)) (node (x132 P) (node (x206 P) (node (x7 P) nil nil) nil) (node (x7 P) (node (x7 P) nil nil) nil))) (node (x75 P) (node (x114 P) (node (x7 P) (node (x340 P) nil nil) nil) (node (x8 P) (node (x416 P) nil nil) nil)) (node (x151 P) (node (x227 P) (node (x380 P) nil nil) nil) (node (x7 P) (node (x7 P) nil nil) nil)))) (node (x7 P) (node (x8 P) (node (x104 P) (node (x8 P) (node (x330 P) nil nil) nil) (node (x8 P) (node (x407 P) nil nil) nil)) (node (x141 P) (node (x7 P) (node (x370 P) nil nil) nil) (node (x294 P) (node (x444 P) nil nil) nil))) (node (x84 P) (node (x7 P) (node (x7 P) (node (x350 P) nil nil) nil) (node (x8 P) (node (x426 P) nil nil) nil)) (node (x8 P) (node (x237 P) (node (x8 P) nil nil) nil) (node (x312 P) (node (x7 P) nil nil) nil))))) (node (x25 P) (node (x37 P) (node (x7 P) (node (x7 P) (node (x8 P) (node (x326 P) nil nil) (node (x480 P) nil nil)) (node (x8 P) (node (x7 P) nil nil) nil)) (node (x7 P) (node (x211 P) (node (x8 P) nil nil) nil) (node (x289 P) (node (x8 P) nil nil) nil))) (node (x80 P) (node (x119 P) (node (x7 P) (node (x345 P) nil nil) nil) (node (x8 P) (node (x421 P) nil nil) nil)) (node (x7 P) (node (x232 P) (node (x7 P) nil nil) nil) (node (x8 P) (node (x461 P) nil nil) nil)))) (node (x46 P) (node (x68 P) (node (x109 P) (node (x183 P) (node (x335 P) nil nil) nil) (node (x8 P) (node (x412 P) nil nil) nil)) (node (x146 P) (node (x221 P) (node (x375 P) nil nil) nil) (node (x299 P) (node (x451 P) nil nil) nil))) (node (x90 P) (node (x8 P) (node (x201 P) (node (x355 P) nil nil) nil) (node (x280 P) (node (x7 P) nil nil) nil)) (node (x8 P) (node (x242 P) (node (x393 P) nil nil) nil) (node (x7 P) (node (x8 P) nil nil) nil)))))) (node (x14 P) (node (x21 P) (node (x35 P) (node (x55 P) (node (x98 P) (node (x171 P) (node (x7 P) nil nil) (node (x478 P) nil nil)) (node (x248 P) (node (x401 P) nil nil) nil)) (node (x135 P) (node (x208 P) (node (x361 P) nil nil) nil) (node (x7 P) (node (x437 P) nil nil) nil))) (node (x77 P) (node (x116 P) (node (x191 P) (node (x7 P) nil nil) nil) (node (x268 P) (node (x8 P) nil nil) nil)) (node (x7 P) (node (x7 P) (node (x7 P) nil nil) nil) (node (x305 P) (node (x7 P) nil nil) nil)))) (node (x7 P) (node (x65 P) (node (x8 P) (node (x181 P) (node (x7 P) nil nil) nil) (node (x258 P) (node (x7 P) nil nil) nil)) (node (x8 P) (node (x217 P) (node (x8 P) nil nil) nil) (node (x296 P) (node (x447 P) nil nil) nil))) (node (x87 P) (node (x125 P) (node (x7 P) (node (x352 P) nil nil) nil) (node (x278 P) (node (x7 P) nil nil) nil)) (node (x162 P) (node (x239 P) (node (x391 P) nil nil) nil) (node (x315 P) (node (x468 P) nil nil) nil))))) (node (x30 P) (node (x40 P) (node (x60 P) (node (x7 P) (node (x176 P) (node (x7 P) nil nil) nil) (node (x253 P) (node (x7 P) nil nil) nil)) (node (x7 P) (node (x7 P) (node (x366 P) nil nil) nil) (node (x8 P) (node (x442 P) nil nil) nil))) (node (x82 P) (node (x7 P) (node (x94 P) (node (x8 P) nil nil) nil) (node (x273 P) (node (x423 P) nil nil) nil)) (node (x157 P) (node (x8 P) (node (x386 P) nil nil) nil) (node (x310 P) (node (x8 P) nil nil) nil)))) (node (x50 P) (node (x72 P) (node (x8 P) (node (x186 P) (node (x7 P) nil nil) nil) (node (x263 P) (node (x7 P) nil nil) nil)) (node (x148 P) (node (x225 P) (node (x377 P) nil nil) nil) (node (x7 P) (node (x455 P) nil nil) nil))) (node (x93 P) (node (x130 P) (node (x8 P) (node (x7 P) nil nil) nil) (node (x283 P) (node (x432 P) nil nil) nil)) (node (x167 P) (node (x7 P) (node (x396 P) nil nil) nil) (node (x7 P) (node (x473 P) nil nil) nil)))))))))
noncomputable def L1 (P : Params) : List Obj := [x0 P, x1 P, x28 P, x29 P, x4 P, x5 P, x6 P, x7 P, x8 P, x9 P, x10 P, x11 P, x12 P, x13 P, x14 P, x15 P, x7 P, x16 P, x17 P, x18 P, x19 P, x20 P, x21 P, x22 P, x23 P, x24 P, x25 P, x26 P, x27 P, x7 P, x30 P, x31 P, x32 P, x7 P, x8 P, x33 P, x7 P, x34 P, x35 P, x36 P, x7 P, x8 P, x37 P, x7 P, x38 P, x39 P, x40 P, x7 P, x8 P, x41 P, x7 P, x42 P, x43 P, x44 P, x7 P, x8 P, x45 P, x7 P, x46 P, x47 P, x48 P, x49 P, x50 P, x51 P, x7 P, x8 P, x52 P, x53 P, x7 P, x54 P, x55 P, x56 P, x57 P, x58 P, x7 P, x50 P, x59 P, x7 P, x60 P, x61 P, x62 P, x7 P, x8 P, x63 P, x7 P, x64 P, x65 P, x66 P, x7 P, x67 P, x68 P, x69 P, x70 P, x71 P, x72 P, x73 P, x74 P, x50 P, x75 P, x7 P, x8 P, x76 P, x77 P, x7 P, x78 P, x79 P, x80 P, x81 P, x74 P, x50 P, x82 P, x7 P, x8 P, x83 P, x84 P, x7 P, x85 P, x86 P, x87 P, x88 P, x89 P, x50 P, x90 P, x7 P, x91 P, x92 P, x93 P, x94 P, x7 P, x8 P, x95 P, x7 P, x96 P, x97 P, x98 P, x7 P, x8 P, x99 P, x7 P, x100 P, x101 P, x102 P, x7 P, x8 P, x103 P, x7 P, x104 P, x105 P, x106 P, x7 P, x8 P, x107 P, x7 P, x108 P, x109 P, x110 P, x111 P, x7 P, x8 P, x112 P, x7 P, x113 P, x114 P, x115 P, x7 P, x8 P, x116 P, x7 P, x117 P, x118 P, x119 P, x7 P, x8 P, x120 P, x7 P, x121 P, x122 P, x123 P, x7 P, x8 P, x124 P, x7 P, x125 P, x126 P, x127 P, x7 P, x8 P, x128 P, x7 P, x129 P, x130 P, x131 P, x7 P, x8 P, x132 P, x7 P, x133 P, x134 P, x135 P, x7 P, x8 P, x136 P, x7 P, x137 P, x138 P, x139 P, x7 P, x8 P, x140 P, x7 P, x141 P, x142 P, x143 P, x7 P, x8 P, x144 P, x7 P, x145 P, x146 P, x147 P, x7 P, x8 P, x148 P, x7 P, x149 P, x150 P, x151 P, x7 P, x8 P, x152 P, x7 P, x153 P, x154 P, x155 P, x7 P, x8 P, x156 P, x7 P, x157 P, x158 P, x159 P, x7 P, x8 P, x160 P, x7 P, x161 P, x162 P, x163 P, x164 P, x7 P, x8 P, x165 P, x7 P, x166 P, x167 P, x168 P, x94 P, x7 P, x8 P, x169 P, x7 P, x170 P, x171 P, x172 P, x173 P, x7 P, x8 P, x174 P, x7 P, x175 P, x176 P, x177 P, x178 P, x7 P, x8 P, x179 P, x7 P, x180 P, x181 P, x182 P, x7 P, x8 P, x183 P, x7 P, x184 P, x185 P, x186 P, x7 P, x8 P, x187 P, x7 P, x188 P, x189 P, x190 P, x191 P, x7 P, x8 P, x192 P, x7 P, x193 P, x194 P, x195 P, x94 P, x7 P, x8 P, x196 P, x7 P, x197 P, x198 P, x199 P, x7 P, x8 P, x200 P, x7 P, x201 P, x202 P, x203 P, x7 P, x8 P, x204 P, x7 P, x205 P, x206 P, x207 P, x7 P, x8 P, x208 P, x7 P, x209 P, x210 P, x211 P, x7 P, x8 P, x212 P, x7 P, x213 P, x214 P, x215 P, x7 P, x8 P, x216 P, x7 P, x217 P, x218 P, x219 P, x220 P, x221 P, x222 P, x223 P, x224 P, x225 P, x50 P, x226 P, x7 P, x227 P, x228 P, x229 P, x230 P, x7 P, x8 P, x231 P, x7 P, x232 P, x233 P, x234 P, x7 P, x8 P, x235 P, x7 P, x236 P, x237 P, x238 P, x7 P, x8 P, x239 P, x7 P, x240 P, x241 P, x242 P, x7 P, x8 P, x243 P, x7 P, x244 P, x245 P, x246 P, x7 P, x8 P, x247 P, x7 P, x248 P, x249 P, x250 P, x7 P, x8 P, x251 P, x7 P, x252 P, x253 P, x254 P, x255 P, x7 P, x8 P, x256 P, x7 P, x257 P, x258 P, x259 P, x260 P, x7 P, x8 P, x261 P, x7 P, x262 P, x263 P, x264 P, x265 P, x7 P, x8 P, x266 P, x7 P, x267 P, x268 P, x269 P, x270 P, x7 P, x8 P, x271 P, x7 P, x272 P, x273 P, x274 P, x275 P, x7 P, x8 P, x276 P, x7 P, x277 P, x278 P, x279 P, x7 P, x8 P, x280 P, x7 P, x281 P, x282 P, x283 P, x7 P, x8 P, x284 P, x7 P, x285 P, x286 P, x287 P, x7 P, x8 P, x288 P, x7 P, x289 P, x290 P, x291 P, x7 P, x8 P, x292 P, x7 P, x293 P, x294 P, x295 P, x7 P, x8 P, x296 P, x7 P, x297 P, x298 P, x299 P, x7 P, x8 P, x300 P, x7 P, x301 P, x302 P, x303 P, x7 P, x8 P, x304 P, x7 P, x305 P, x306 P, x307 P, x7 P, x8 P, x308 P, x7 P, x309 P, x310 P, x311 P, x7 P, x8 P, x312 P, x7 P, x313 P, x314 P, x315 P, x7 P, x8 P, x316 P, x7 P, x317 P, x318 P, x319 P, x7 P, x8 P, x320 P, x7 P, x321 P, x322 P, x323 P, x324 P, x7 P, x8 P, x325 P, x7 P, x326 P, x327 P, x328 P, x94 P, x7 P, x8 P, x329 P, x7 P, x330 P, x331 P, x332 P, x333 P, x7 P, x8 P, x334 P, x7 P, x335 P, x336 P, x337 P, x338 P, x7 P, x8 P, x339 P, x7 P, x340 P, x341 P, x342 P, x343 P, x7 P, x8 P, x344 P, x7 P, x345 P, x346 P, x347 P, x7 P, x8 P, x348 P, x7 P, x349 P, x350 P, x351 P, x7 P, x8 P, x352 P, x7 P, x353 P, x354 P, x355 P, x7 P, x8 P, x356 P, x7 P, x357 P, x358 P, x359 P, x7 P, x8 P, x360 P, x7 P, x361 P, x362 P, x363 P, x7 P, x8 P, x364 P, x7 P, x365 P, x366 P, x367 P, x368 P, x369 P, x370 P, x371 P, x372 P, x7 P, x8 P, x373 P, x7 P, x374 P, x375 P, x376 P, x7 P, x8 P, x377 P, x7 P, x378 P, x379 P, x380 P, x7 P, x8 P, x381 P, x7 P, x382 P, x383 P, x384 P, x7 P, x8 P, x385 P, x7 P, x386 P, x387 P, x388 P, x7 P, x8 P, x389 P, x7 P, x390 P, x391 P, x392 P, x7 P, x8 P, x393 P, x7 P, x394 P, x395 P, x396 P, x7 P, x50 P, x397 P, x7 P, x398 P, x399 P, x400 P, x401 P, x7 P, x8 P, x402 P, x7 P, x403 P, x404 P, x405 P, x7 P, x8 P, x406 P, x7 P, x407 P, x408 P, x409 P, x410 P, x7 P, x8 P, x411 P, x7 P, x412 P, x413 P, x414 P, x94 P, x7 P, x8 P, x415 P, x7 P, x416 P, x417 P, x418 P, x7 P, x8 P, x419 P, x7 P, x420 P, x421 P, x422 P, x7 P, x8 P, x423 P, x7 P, x424 P, x425 P, x426 P, x7 P, x8 P, x427 P, x7 P, x428 P, x429 P, x430 P, x7 P, x8 P, x431 P, x7 P, x432 P, x433 P, x434 P, x435 P, x7 P, x8 P, x436 P, x7 P, x437 P, x438 P, x439 P, x7 P, x8 P, x440 P, x7 P, x441 P, x442 P, x443 P, x7 P, x8 P, x444 P, x7 P, x445 P, x446 P, x447 P, x448 P, x449 P, x450 P, x451 P, x452 P, x453 P, x454 P, x455 P, x7 P, x8 P, x456 P, x7 P, x457 P, x458 P, x459 P, x7 P, x8 P, x460 P, x7 P, x461 P, x462 P, x463 P, x7 P, x8 P, x464 P, x465 P, x466 P, x7 P, x8 P, x467 P, x7 P, x468 P, x469 P, x470 P, x7 P, x8 P, x471 P, x7 P, x472 P, x473 P, x474 P, x7 P, x8 P, x475 P, x7 P, x476 P, x477 P, x478 P, x7 P, x8 P, x479 P, x480 P, x481 P]

noncomputable def topRunT (p : Program) (w : World) (n₀ : Nat) (ann : Option Value) : Nat → SharedT → Thread → Option SharedT
  | 0, _, _ => none
  | n + 1, s, t => match through t with
    | true => some s
    | false => match stepOk n₀ ann t with
      | false => none
      | true => match stepT (denote treeTable) p w s t with
        | some (s', t') => topRunT p w n₀ ann n s' t'
        | none => none
noncomputable def runQ (p : Program) (w : World) (n₀ : Nat) (ann : Option Value) : Nat → SharedT → Thread → Option SharedT
  | 0, _, _ => none
  | n + 1, s, t => match through t with
    | true => some s
    | false => match PySem.W.Fast.tw6613529449190102663 n₀ ann t with
      | false => none
      | true => match PySem.W.Fast.tw10156331382660048174 (PySem.W.Fast.tw11892475500146522536 PySem.W.Fast.tw14364793385576792824) p w s t with
        | some (s', t') => runQ p w n₀ ann n s' t'
        | none => none
theorem runQ_eq (p : Program) (w : World) (n₀ : Nat) (ann : Option Value) : ∀ n s t, topRunT p w n₀ ann n s t = runQ p w n₀ ann n s t
  | 0, _, _ => rfl
  | n + 1, s, t => by
    unfold topRunT runQ
    rw [PySem.W.Fast.te6613529449190102663, PySem.W.Fast.te10156331382660048174, PySem.W.Fast.te11892475500146522536, PySem.W.Fast.te14364793385576792824]
    simp only [runQ_eq p w n₀ ann n]
theorem topRun_of {p : Program} {w : World} {n₀ : Nat} {ann : Option Value} : ∀ {n : Nat} {s s' : SharedT} {t : Thread}, topRunT p w n₀ ann n s t = some s' → topRun treeTable p w n₀ ann n s.abs t = some s'.abs
  | 0, _, _, _, h => by cases h
  | n + 1, s, s', t, h => by
    unfold topRunT at h
    unfold topRun
    cases he : through t with
    | true => rw [he] at h; cases h; rfl
    | false =>
      rw [he] at h
      cases hk : stepOk n₀ ann t with
      | false => rw [hk] at h; cases h
      | true =>
        rw [hk] at h
        cases hs : stepT (denote treeTable) p w s t with
        | none => rw [hs] at h; cases h
        | some r => obtain ⟨s₂, t₂⟩ := r; rw [hs] at h; rw [stepT_spec hs]; exact topRun_of h
theorem q_run (w : World) (os : OsState) : runQ qp w 29 (some (Value.ref 6)) 4959 ⟨T0 w.params, 29, {}, ⟨[]⟩, {}, 273, os⟩ (topStub qp) = some ⟨T1 w.params, 780, {}, ⟨[]⟩, {}, 1217, os⟩ := by kernel_rfl
theorem q_open (w : World) : ((PySem.W.Fast.tw10274390034422433532 PySem.W.Fast.tw14364793385576792824 (opening qp) w 10016 (PySem.W.Fast.tw1435165496053646825 (opening qp)).1 (PySem.W.Fast.tw1435165496053646825 (opening qp)).2).bind (PySem.W.Fast.tw14289696077712309145 qp)).map (fun s => (s.heap, s.gens, s.drawn, s.toks)) = some ((absHeap (T0 w.params) 29 {}), ⟨[]⟩, {}, 273) := by kernel_rfl
theorem q_size (w : World) : ((absHeap (T0 w.params) 29 {}).isNs mainGlobals && (⟨[]⟩ : Array GenState).size == 0, (absHeap (T0 w.params) 29 {}).objs.size, (absHeap (T0 w.params) 29 {}).nsMap mainGlobals "__annotations__") = (true, 29, some (Value.ref 6)) := by
  rw [PySem.W.Fast.te8920871248978507458]
  kernel_rfl
noncomputable def H1 (P : Params) : Heap := ⟨⟨L1 P⟩, {}⟩
theorem H1_eq (w : World) : absHeap (T1 w.params) 780 {} = H1 w.params := by kernel_rfl
noncomputable def keep : List Nat := [0, 1, 3, 5, 6, 7, 8, 9, 10, 11, 12, 14, 15, 16, 17, 18, 19, 21, 24, 25, 26, 27, 28, 29]
noncomputable def qV : Program := view qp keep
noncomputable def qL : List Str := [⟨⟨[85,110,115,117,112,112,111,114,116,101,100,79,112,101,114,97,116,105,111,110]⟩⟩, ⟨⟨[73,79,66,97,115,101]⟩⟩, ⟨⟨[66,117,102,102,101,114,101,100,73,79,66,97,115,101]⟩⟩, ⟨⟨[84,101,120,116,73,79,66,97,115,101]⟩⟩, ⟨⟨[66,121,116,101,115,73,79]⟩⟩, ⟨⟨[83,116,114,105,110,103,73,79]⟩⟩, ⟨⟨[115,104,108,101,120]⟩⟩, ⟨⟨[115,112,108,105,116]⟩⟩]
theorem q_ok (w : World) (os : OsState) : (staticsOk (PySem.W.Fast.tw5923862056798008813 qp.main.body) (absHeap (T0 w.params) 29 {}) (H1 w.params) && namesBound qp (H1 w.params) && gensDone ⟨H1 w.params, ⟨[]⟩, {}, 1217, os⟩ && laidKept (absHeap (T0 w.params) 29 {}) (H1 w.params)) = true := by kernel_rfl
theorem q_seen (w : World) (os : OsState) : PySem.W.Fast.tw4187177175401517315 qV qL (PySem.W.Fast.tw5923862056798008813 qp.main.body) (fun s => xlAt qV [] s && recOk [] s) true ⟨H1 w.params, ⟨[]⟩, {}, 1217, os⟩ = openGood qV qL := by kernel_rfl
noncomputable def hd.heap_39 (P : Params) : Frag := (nat_lit 2, ⟨.none, none, (Data.dict (List.toArray [⟨(PyData.keyHash P (Str.ofString "\x69mport.loaded._collections")), (.str (Str.ofString "\x69mport.loaded._collections") 185), (.bool true)⟩, ⟨(PyData.keyHash P (Str.ofString "class._frozen_importlib.BuiltinImporter")), (.str (Str.ofString "class._frozen_importlib.BuiltinImporter") 187), (.ref 15)⟩, ⟨(PyData.keyHash P (Str.ofString "watched.\x69mport")), (.str (Str.ofString "watched.\x69mport") 208), (.ref 19)⟩, ⟨(PyData.keyHash P (Str.ofString "class._frozen_importlib.ModuleSpec")), (.str (Str.ofString "class._frozen_importlib.ModuleSpec") 218), (.ref 23)⟩, ⟨(PyData.keyHash P (Str.ofString "sys.modules.booked-epoch")), (.str (Str.ofString "sys.modules.booked-epoch") 247), (.int 3 0)⟩, ⟨(PyData.keyHash P (Str.ofString "sys.modules.landed._collections")), (.str (Str.ofString "sys.modules.landed._collections") 248), (.bool true)⟩, ⟨(PyData.keyHash P (Str.ofString "\x69mport.later-laid._collections")), (.str (Str.ofString "\x69mport.later-laid._collections") 263), (.bool true)⟩, ⟨(PyData.keyHash P (Str.ofString "watched.library")), (.str (Str.ofString "watched.library") 265), (.ref 28)⟩, ⟨(PyData.keyHash P (Str.ofString "watched.library-objects")), (.str (Str.ofString "watched.library-objects") 0), (.str (Str.ofString "\x0d") 0)⟩, ⟨(PyData.keyHash P (Str.ofString "watched.library-deep._collections")), (.str (Str.ofString "watched.library-deep._collections") 266), (.str (Str.ofString "\x04\x00\x00\x0c\x04\x00\x00\x0c\x04\x00\x00\x03\x04\x00\x00\x0c\x08\x04dict\x02") 0)⟩, ⟨(PyData.keyHash P (Str.ofString "type.__subclasses__.OSError.0")), (.str (Str.ofString "type.__subclasses__.OSError.0") 332), (.int 70 0)⟩, ⟨(PyData.keyHash P (Str.ofString "type.__subclasses__.OSError.n")), (.str (Str.ofString "type.__subclasses__.OSError.n") 333), (.int 1 0)⟩]) 12), (List.toArray [])⟩) ::
 (nat_lit 3, ⟨(.type "dict"), none, (Data.dict (List.toArray [⟨(PyData.keyHash P (Str.ofString "__name__")), (.str (Str.ofString "__name__") 165), (.str (Str.ofString "law_mj0242_04") 1162)⟩, ⟨(PyData.keyHash P (Str.ofString "__doc__")), (.str (Str.ofString "__doc__") 166), .none⟩, ⟨(PyData.keyHash P (Str.ofString "__package__")), (.str (Str.ofString "__package__") 167), .none⟩, ⟨(PyData.keyHash P (Str.ofString "__loader__")), (.str (Str.ofString "__loader__") 168), (.builtin "__main__.__loader__#opaque")⟩, ⟨(PyData.keyHash P (Str.ofString "__spec__")), (.str (Str.ofString "__spec__") 169), .none⟩, ⟨(PyData.keyHash P (Str.ofString "__annotations__")), (.str (Str.ofString "__annotations__") 170), (.ref 6)⟩, ⟨(PyData.keyHash P (Str.ofString "__builtins__")), (.str (Str.ofString "__builtins__") 171), (.ref 4)⟩, ⟨(PyData.keyHash P (Str.ofString "__file__")), (.str (Str.ofString "__file__") 173), (.str (Str.ofString "/claim/cut.py") 172)⟩, ⟨(PyData.keyHash P (Str.ofString "__cached__")), (.str (Str.ofString "__cached__") 174), .none⟩, ⟨(PyData.keyHash P (Str.ofString "deque")), (.str (Str.ofString "deque") 272), (.type "collections.deque")⟩, ⟨(PyData.keyHash P (Str.ofString "_wall")), (.str (Str.ofString "_wall") 285), (.ref 39)⟩, ⟨(PyData.keyHash P (Str.ofString "replace")), (.str (Str.ofString "replace") 295), (.ref 46)⟩, ⟨(PyData.keyHash P (Str.ofString "_whence")), (.str (Str.ofString "_whence") 305), (.ref 53)⟩, ⟨(PyData.keyHash P (Str.ofString "_index")), (.str (Str.ofString "_index") 313), (.ref 60)⟩, ⟨(PyData.keyHash P (Str.ofString "UnsupportedOperation")), (.str (Str.ofString "UnsupportedOperation") 335), (.ref 70)⟩, ⟨(PyData.keyHash P (Str.ofString "IOBase")), (.str (Str.ofString "IOBase") 367), (.ref 90)⟩, ⟨(PyData.keyHash P (Str.ofString "BufferedIOBase")), (.str (Str.ofString "BufferedIOBase") 385), (.ref 105)⟩, ⟨(PyData.keyHash P (Str.ofString "TextIOBase")), (.str (Str.ofString "TextIOBase") 403), (.ref 117)⟩, ⟨(PyData.keyHash P (Str.ofString "BytesIO")), (.str (Str.ofString "BytesIO") 665), (.ref 347)⟩, ⟨(PyData.keyHash P (Str.ofString "StringIO")), (.str (Str.ofString "StringIO") 952), (.ref 594)⟩, ⟨(PyData.keyHash P (Str.ofString "_kind")), (.str (Str.ofString "_kind") 963), (.ref 603)⟩, ⟨(PyData.keyHash P (Str.ofString "_fspath")), (.str (Str.ofString "_fspath") 972), (.ref 610)⟩, ⟨(PyData.keyHash P (Str.ofString "_check_arg_types")), (.str (Str.ofString "_check_arg_types") 982), (.ref 617)⟩, ⟨(PyData.keyHash P (Str.ofString "isabs")), (.str (Str.ofString "isabs") 989), (.ref 624)⟩, ⟨(PyData.keyHash P (Str.ofString "join")), (.str (Str.ofString "join") 1000), (.ref 631)⟩, ⟨(PyData.keyHash P (Str.ofString "dirname")), (.str (Str.ofString "dirname") 1010), (.ref 638)⟩, ⟨(PyData.keyHash P (Str.ofString "shlex")), (.str (Str.ofString "shlex") 1151), (.ref 729)⟩, ⟨(PyData.keyHash P (Str.ofString "split")), (.str (Str.ofString "split") 1161), (.ref 741)⟩, ⟨(PyData.keyHash P (Str.ofString "_law_sign")), (.str (Str.ofString "_law_sign") 1172), (.ref 748)⟩, ⟨(PyData.keyHash P (Str.ofString "_law_move")), (.str (Str.ofString "_law_move") 1178), (.ref 753)⟩, ⟨(PyData.keyHash P (Str.ofString "_law_words")), (.str (Str.ofString "_law_words") 1189), (.ref 760)⟩, ⟨(PyData.keyHash P (Str.ofString "_law_told")), (.str (Str.ofString "_law_told") 1197), (.ref 767)⟩, ⟨(PyData.keyHash P (Str.ofString "_law_holds")), (.str (Str.ofString "_law_holds") 1210), (.ref 774)⟩, ⟨(PyData.keyHash P (Str.ofString "law")), (.str (Str.ofString "law") 1216), (.ref 779)⟩]) 34), (List.toArray [])⟩) ::
 (nat_lit 45, ⟨(.type "code"), none, (Data.fields (List.toArray [(.str (Str.ofString "replace") 288), (.str (Str.ofString "replace") 289), (.str (Str.ofString "/claim/cut.py") 290), (.int 6 0), (.int 1 0), (.int 0 0), (.int 0 0), (.int 7 0), (.ref 40), (.bool true), (.int 273 0), (.ref 41), .none, (.ref 42), (.ref 43), (.ref 44), (.int 293 0), (.int 6 0), (.str (Str.ofString "/claim/cut.py") 294)])), (List.toArray [])⟩) ::
 (nat_lit 46, ⟨(.type "function"), none, (Data.func ⟨(Str.ofString "replace"), (Str.ofString "replace"), ⟨[], [⟨(Str.ofString "text"), none, ⟨6, 12, 6, 16⟩⟩], (some ⟨(Str.ofString "pairs"), none, ⟨6, 19, 6, 24⟩⟩), [], [], none, []⟩, (FuncBody.stmts [(Stmt.While (Expr.Name (Str.ofString "pairs") ⟨7, 10, 7, 15⟩) [(Stmt.Assign [(Expr.Name (Str.ofString "text") ⟨8, 8, 8, 12⟩)] (Expr.Call (Expr.Attribute (Expr.Subscript (Expr.Name (Str.ofString "pairs") ⟨8, 15, 8, 20⟩) (Expr.Constant (Const.int 1) 0 ⟨8, 21, 8, 22⟩) ⟨8, 15, 8, 23⟩) (Str.ofString "join") ⟨8, 15, 8, 28⟩) [(Expr.Call (Expr.Attribute (Expr.Name (Str.ofString "text") ⟨8, 29, 8, 33⟩) (Str.ofString "split") ⟨8, 29, 8, 39⟩) [(Expr.Subscript (Expr.Name (Str.ofString "pairs") ⟨8, 40, 8, 45⟩) (Expr.Constant (Const.int 0) 0 ⟨8, 46, 8, 47⟩) ⟨8, 40, 8, 48⟩)] [] ⟨8, 29, 8, 49⟩)] [] ⟨8, 15, 8, 50⟩) ⟨8, 8, 8, 50⟩), (Stmt.Assign [(Expr.Name (Str.ofString "pairs") ⟨9, 8, 9, 13⟩)] (Expr.Subscript (Expr.Name (Str.ofString "pairs") ⟨9, 16, 9, 21⟩) (Expr.Slice (some (Expr.Constant (Const.int 2) 0 ⟨9, 22, 9, 23⟩)) none none ⟨9, 22, 9, 24⟩) ⟨9, 16, 9, 25⟩) ⟨9, 8, 9, 25⟩)] [] ⟨7, 4, 9, 25⟩), (Stmt.Return (some (Expr.Name (Str.ofString "text") ⟨10, 11, 10, 15⟩)) ⟨10, 4, 10, 15⟩)]), ⟨ScopeKind.function, [⟨(Str.ofString "text"), NameKind.local⟩, ⟨(Str.ofString "pairs"), NameKind.local⟩], false, false, []⟩, 3, [], .none, .none, .none, (.str (Str.ofString "cpy313.pydoc") 286), none, (.ref 45), .none, 0⟩), (List.toArray [])⟩) ::
 (nat_lit 59, ⟨(.type "code"), none, (Data.fields (List.toArray [(.str (Str.ofString "_index") 306), (.str (Str.ofString "_index") 307), (.str (Str.ofString "/claim/cut.py") 308), (.int 17 0), (.int 2 0), (.int 0 0), (.int 0 0), (.int 3 0), (.ref 54), (.bool true), (.int 273 0), (.ref 55), .none, (.ref 56), (.ref 57), (.ref 58), (.int 311 0), (.int 17 0), (.str (Str.ofString "/claim/cut.py") 312)])), (List.toArray [])⟩) ::
 (nat_lit 60, ⟨(.type "function"), none, (Data.func ⟨(Str.ofString "_index"), (Str.ofString "_index"), ⟨[], [⟨(Str.ofString "n"), none, ⟨17, 11, 17, 12⟩⟩, ⟨(Str.ofString "what"), none, ⟨17, 14, 17, 18⟩⟩], none, [], [], none, []⟩, (FuncBody.stmts [(Stmt.If (Expr.BoolOp BoolOp.And [(Expr.Compare (Expr.Call (Expr.Name (Str.ofString "type") ⟨18, 7, 18, 11⟩) [(Expr.Name (Str.ofString "n") ⟨18, 12, 18, 13⟩)] [] ⟨18, 7, 18, 14⟩) [CmpOp.IsNot] [(Expr.Name (Str.ofString "int") ⟨18, 22, 18, 25⟩)] ⟨18, 7, 18, 25⟩), (Expr.Compare (Expr.Call (Expr.Name (Str.ofString "type") ⟨18, 30, 18, 34⟩) [(Expr.Name (Str.ofString "n") ⟨18, 35, 18, 36⟩)] [] ⟨18, 30, 18, 37⟩) [CmpOp.IsNot] [(Expr.Name (Str.ofString "bool") ⟨18, 45, 18, 49⟩)] ⟨18, 30, 18, 49⟩)] ⟨18, 7, 18, 49⟩) [(Stmt.Expr (Expr.Call (Expr.Name (Str.ofString "_wall") ⟨19, 8, 19, 13⟩) [(Expr.Constant (Const.int 1) 0 ⟨19, 14, 19, 15⟩)] [] ⟨19, 8, 19, 16⟩) ⟨19, 8, 19, 16⟩)] [] ⟨18, 4, 19, 16⟩), (Stmt.Assign [(Expr.Name (Str.ofString "n") ⟨20, 4, 20, 5⟩)] (Expr.Call (Expr.Name (Str.ofString "int") ⟨20, 8, 20, 11⟩) [(Expr.Name (Str.ofString "n") ⟨20, 12, 20, 13⟩)] [] ⟨20, 8, 20, 14⟩) ⟨20, 4, 20, 14⟩), (Stmt.If (Expr.BoolOp BoolOp.Or [(Expr.Compare (Expr.Name (Str.ofString "n") ⟨21, 7, 21, 8⟩) [CmpOp.Gt] [(Expr.Constant (Const.int 1099511627776) 0 ⟨21, 11, 21, 24⟩)] ⟨21, 7, 21, 24⟩), (Expr.Compare (Expr.Name (Str.ofString "n") ⟨21, 28, 21, 29⟩) [CmpOp.Lt] [(Expr.UnaryOp UnaryOp.USub (Expr.Constant (Const.int 1099511627776) 0 ⟨21, 33, 21, 46⟩) ⟨21, 32, 21, 46⟩)] ⟨21, 28, 21, 46⟩)] ⟨21, 7, 21, 46⟩) [(Stmt.Expr (Expr.Call (Expr.Name (Str.ofString "_wall") ⟨22, 8, 22, 13⟩) [(Expr.Constant (Const.int 2) 0 ⟨22, 14, 22, 15⟩)] [] ⟨22, 8, 22, 16⟩) ⟨22, 8, 22, 16⟩)] [] ⟨21, 4, 22, 16⟩), (Stmt.Return (some (Expr.Name (Str.ofString "n") ⟨23, 11, 23, 12⟩)) ⟨23, 4, 23, 12⟩)]), ⟨ScopeKind.function, [⟨(Str.ofString "n"), NameKind.local⟩, ⟨(Str.ofString "what"), NameKind.local⟩, ⟨(Str.ofString "type"), NameKind.globalImplicit⟩, ⟨(Str.ofString "int"), NameKind.globalImplicit⟩, ⟨(Str.ofString "bool"), NameKind.globalImplicit⟩, ⟨(Str.ofString "_wall"), NameKind.globalImplicit⟩], false, false, []⟩, 3, [], .none, .none, .none, (.str (Str.ofString "io") 296), none, (.ref 59), .none, 0⟩), (List.toArray [])⟩) ::
 (nat_lit 69, ⟨(.type "dict"), none, (Data.dict (List.toArray [⟨(PyData.keyHash P (Str.ofString "__module__")), (.str (Str.ofString "__module__") 321), (.str (Str.ofString "io") 326)⟩, ⟨(PyData.keyHash P (Str.ofString "__firstlineno__")), (.str (Str.ofString "__firstlineno__") 325), (.int 24 324)⟩, ⟨(PyData.keyHash P (Str.ofString "__static_attributes__")), (.str (Str.ofString "__static_attributes__") 328), (.ref 68)⟩, ⟨(PyData.keyHash P (Str.ofString "__weakref__")), (.str (Str.ofString "__weakref__") 330), (.ref 71)⟩, ⟨(PyData.keyHash P (Str.ofString "__doc__")), (.str (Str.ofString "__doc__") 331), .none⟩]) 3), (List.toArray [])⟩) ::
 (nat_lit 70, ⟨(.type "type"), none, (Data.cls ⟨(Str.ofString "UnsupportedOperation"), [(.type "OSError"), (.type "ValueError")], [(.ref 70), (.type "OSError"), (.type "ValueError"), (.type "Exception"), (.type "BaseException"), (.type "object")], 69, (Str.ofString "UnsupportedOperation"), true, [], [], false, none, false⟩), (List.toArray [(some (.ref 61)), none, (some (.str (Str.ofString "UnsupportedOperation") 314)), (some (.str (Str.ofString "UnsupportedOperation") 322)), (some (.builtin "OSError.__new__")), (some (.bool true))])⟩) ::
 (nat_lit 71, ⟨(.type "getset_descriptor"), none, (Data.fields (List.toArray [(.str (Str.ofString "__weakref__") 329), (.ref 70), (.builtin "ExceptionGroup.__weakref__"), .none])), (List.toArray [])⟩) ::
 (nat_lit 86, ⟨(.type "code"), none, (Data.fields (List.toArray [(.str (Str.ofString "__new__") 350), (.str (Str.ofString "IOBase.__new__") 351), (.str (Str.ofString "/claim/cut.py") 352), (.int 29 0), (.int 1 0), (.int 1 0), (.int 0 0), (.int 15 0), (.ref 81), (.bool true), (.int 273 0), (.ref 82), .none, (.ref 83), (.ref 84), (.ref 85), (.int 356 0), (.int 29 0), (.str (Str.ofString "/claim/cut.py") 357)])), (List.toArray [])⟩) ::
 (nat_lit 87, ⟨(.type "function"), none, (Data.func ⟨(Str.ofString "__new__"), (Str.ofString "IOBase.__new__"), ⟨[⟨(Str.ofString "cls"), none, ⟨29, 16, 29, 19⟩⟩], [], (some ⟨(Str.ofString "args"), none, ⟨29, 25, 29, 29⟩⟩), [], [], (some ⟨(Str.ofString "kwargs"), none, ⟨29, 33, 29, 39⟩⟩), []⟩, (FuncBody.stmts [(Stmt.If (Expr.BoolOp BoolOp.And [(Expr.Compare (Expr.Name (Str.ofString "cls") ⟨30, 11, 30, 14⟩) [CmpOp.IsNot] [(Expr.Name (Str.ofString "BytesIO") ⟨30, 22, 30, 29⟩)] ⟨30, 11, 30, 29⟩), (Expr.Compare (Expr.Name (Str.ofString "cls") ⟨30, 34, 30, 37⟩) [CmpOp.IsNot] [(Expr.Name (Str.ofString "StringIO") ⟨30, 45, 30, 53⟩)] ⟨30, 34, 30, 53⟩)] ⟨30, 11, 30, 53⟩) [(Stmt.Expr (Expr.Call (Expr.Name (Str.ofString "_wall") ⟨31, 12, 31, 17⟩) [(Expr.Constant (Const.int 3) 0 ⟨31, 18, 31, 19⟩)] [] ⟨31, 12, 31, 20⟩) ⟨31, 12, 31, 20⟩)] [] ⟨30, 8, 31, 20⟩), (Stmt.Return (some (Expr.Call (Expr.Attribute (Expr.Name (Str.ofString "object") ⟨32, 15, 32, 21⟩) (Str.ofString "__new__") ⟨32, 15, 32, 29⟩) [(Expr.Name (Str.ofString "cls") ⟨32, 30, 32, 33⟩)] [] ⟨32, 15, 32, 34⟩)) ⟨32, 8, 32, 34⟩)]), ⟨ScopeKind.function, [⟨(Str.ofString "cls"), NameKind.local⟩, ⟨(Str.ofString "args"), NameKind.local⟩, ⟨(Str.ofString "kwargs"), NameKind.local⟩, ⟨(Str.ofString "BytesIO"), NameKind.globalImplicit⟩, ⟨(Str.ofString "StringIO"), NameKind.globalImplicit⟩, ⟨(Str.ofString "_wall"), NameKind.globalImplicit⟩, ⟨(Str.ofString "object"), NameKind.globalImplicit⟩], false, false, []⟩, 3, [], .none, .none, .none, (.str (Str.ofString "io") 296), none, (.ref 86), .none, 0⟩), (List.toArray [])⟩) ::
 (nat_lit 89, ⟨(.type "dict"), none, (Data.dict (List.toArray [⟨(PyData.keyHash P (Str.ofString "__module__")), (.str (Str.ofString "__module__") 343), (.str (Str.ofString "io") 348)⟩, ⟨(PyData.keyHash P (Str.ofString "__firstlineno__")), (.str (Str.ofString "__firstlineno__") 347), (.int 26 346)⟩, ⟨(PyData.keyHash P (Str.ofString "__new__")), (.str (Str.ofString "__new__") 358), (.ref 91)⟩, ⟨(PyData.keyHash P (Str.ofString "__static_attributes__")), (.str (Str.ofString "__static_attributes__") 359), (.ref 88)⟩, ⟨(PyData.keyHash P (Str.ofString "__dict__")), (.str (Str.ofString "__dict__") 362), (.ref 92)⟩, ⟨(PyData.keyHash P (Str.ofString "__weakref__")), (.str (Str.ofString "__weakref__") 364), (.ref 93)⟩, ⟨(PyData.keyHash P (Str.ofString "__doc__")), (.str (Str.ofString "__doc__") 365), .none⟩]) 4), (List.toArray [])⟩) ::
 (nat_lit 90, ⟨(.type "type"), none, (Data.cls ⟨(Str.ofString "IOBase"), [(.type "object")], [(.ref 90), (.type "object")], 89, (Str.ofString "IOBase"), true, [], [(.ref 105), (.ref 117)], false, none, false⟩), (List.toArray [none, none, (some (.str (Str.ofString "IOBase") 336)), (some (.str (Str.ofString "IOBase") 344)), (some .none), (some (.bool true))])⟩) ::
 (nat_lit 91, ⟨(.type "staticmethod"), none, (Data.fields (List.toArray [(.ref 87)])), (List.toArray [])⟩) ::
 (nat_lit 92, ⟨(.type "getset_descriptor"), none, (Data.fields (List.toArray [(.str (Str.ofString "__dict__") 361), (.ref 90), (.builtin "function.__dict__"), (.builtin "function.__dict__#set")])), (List.toArray [])⟩) ::
 (nat_lit 93, ⟨(.type "getset_descriptor"), none, (Data.fields (List.toArray [(.str (Str.ofString "__weakref__") 363), (.ref 90), (.builtin "ExceptionGroup.__weakref__"), .none])), (List.toArray [])⟩) ::
 (nat_lit 104, ⟨(.type "dict"), none, (Data.dict (List.toArray [⟨(PyData.keyHash P (Str.ofString "__module__")), (.str (Str.ofString "__module__") 375), (.str (Str.ofString "io") 380)⟩, ⟨(PyData.keyHash P (Str.ofString "__firstlineno__")), (.str (Str.ofString "__firstlineno__") 379), (.int 33 378)⟩, ⟨(PyData.keyHash P (Str.ofString "__static_attributes__")), (.str (Str.ofString "__static_attributes__") 382), (.ref 103)⟩, ⟨(PyData.keyHash P (Str.ofString "__doc__")), (.str (Str.ofString "__doc__") 383), .none⟩]) 2), (List.toArray [])⟩) ::
 (nat_lit 105, ⟨(.type "type"), none, (Data.cls ⟨(Str.ofString "BufferedIOBase"), [(.ref 90)], [(.ref 105), (.ref 90), (.type "object")], 104, (Str.ofString "BufferedIOBase"), true, [], [(.ref 347)], false, none, false⟩), (List.toArray [(some (.ref 96)), none, (some (.str (Str.ofString "BufferedIOBase") 368)), (some (.str (Str.ofString "BufferedIOBase") 376)), (some .none), (some (.bool true))])⟩) ::
 (nat_lit 116, ⟨(.type "dict"), none, (Data.dict (List.toArray [⟨(PyData.keyHash P (Str.ofString "__module__")), (.str (Str.ofString "__module__") 393), (.str (Str.ofString "io") 398)⟩, ⟨(PyData.keyHash P (Str.ofString "__firstlineno__")), (.str (Str.ofString "__firstlineno__") 397), (.int 35 396)⟩, ⟨(PyData.keyHash P (Str.ofString "__static_attributes__")), (.str (Str.ofString "__static_attributes__") 400), (.ref 115)⟩, ⟨(PyData.keyHash P (Str.ofString "__doc__")), (.str (Str.ofString "__doc__") 401), .none⟩]) 2), (List.toArray [])⟩) ::
 (nat_lit 117, ⟨(.type "type"), none, (Data.cls ⟨(Str.ofString "TextIOBase"), [(.ref 90)], [(.ref 117), (.ref 90), (.type "object")], 116, (Str.ofString "TextIOBase"), true, [], [(.ref 594)], false, none, false⟩), (List.toArray [(some (.ref 108)), none, (some (.str (Str.ofString "TextIOBase") 386)), (some (.str (Str.ofString "TextIOBase") 394)), (some .none), (some (.bool true))])⟩) ::
 (nat_lit 156, ⟨(.type "property"), none, (Data.fields (List.toArray [(.ref 155), .none, .none, .none, (.str (Str.ofString "closed") 451), (.bool false)])), (List.toArray [])⟩) ::
 (nat_lit 346, ⟨(.type "dict"), none, (Data.dict (List.toArray [⟨(PyData.keyHash P (Str.ofString "__module__")), (.str (Str.ofString "__module__") 411), (.str (Str.ofString "_io") 416)⟩, ⟨(PyData.keyHash P (Str.ofString "__firstlineno__")), (.str (Str.ofString "__firstlineno__") 415), (.int 37 414)⟩, ⟨(PyData.keyHash P (Str.ofString "__init__")), (.str (Str.ofString "__init__") 425), (.ref 134)⟩, ⟨(PyData.keyHash P (Str.ofString "_BytesIO__check")), (.str (Str.ofString "_BytesIO__check") 432), (.ref 141)⟩, ⟨(PyData.keyHash P (Str.ofString "_BytesIO__line")), (.str (Str.ofString "_BytesIO__line") 443), (.ref 148)⟩, ⟨(PyData.keyHash P (Str.ofString "closed")), (.str (Str.ofString "closed") 451), (.ref 156)⟩, ⟨(PyData.keyHash P (Str.ofString "close")), (.str (Str.ofString "close") 458), (.ref 163)⟩, ⟨(PyData.keyHash P (Str.ofString "__enter__")), (.str (Str.ofString "__enter__") 465), (.ref 170)⟩, ⟨(PyData.keyHash P (Str.ofString "__exit__")), (.str (Str.ofString "__exit__") 473), (.ref 177)⟩, ⟨(PyData.keyHash P (Str.ofString "readable")), (.str (Str.ofString "readable") 480), (.ref 184)⟩, ⟨(PyData.keyHash P (Str.ofString "writable")), (.str (Str.ofString "writable") 487), (.ref 191)⟩, ⟨(PyData.keyHash P (Str.ofString "seekable")), (.str (Str.ofString "seekable") 494), (.ref 198)⟩, ⟨(PyData.keyHash P (Str.ofString "isatty")), (.str (Str.ofString "isatty") 501), (.ref 205)⟩, ⟨(PyData.keyHash P (Str.ofString "flush")), (.str (Str.ofString "flush") 508), (.ref 212)⟩, ⟨(PyData.keyHash P (Str.ofString "fileno")), (.str (Str.ofString "fileno") 515), (.ref 219)⟩, ⟨(PyData.keyHash P (Str.ofString "detach")), (.str (Str.ofString "detach") 522), (.ref 226)⟩, ⟨(PyData.keyHash P (Str.ofString "getvalue")), (.str (Str.ofString "getvalue") 529), (.ref 233)⟩, ⟨(PyData.keyHash P (Str.ofString "getbuffer")), (.str (Str.ofString "getbuffer") 536), (.ref 240)⟩, ⟨(PyData.keyHash P (Str.ofString "tell")), (.str (Str.ofString "tell") 543), (.ref 247)⟩, ⟨(PyData.keyHash P (Str.ofString "seek")), (.str (Str.ofString "seek") 553), (.ref 255)⟩, ⟨(PyData.keyHash P (Str.ofString "truncate")), (.str (Str.ofString "truncate") 561), (.ref 263)⟩, ⟨(PyData.keyHash P (Str.ofString "read")), (.str (Str.ofString "read") 573), (.ref 271)⟩, ⟨(PyData.keyHash P (Str.ofString "read1")), (.str (Str.ofString "read1") 583), (.ref 279)⟩, ⟨(PyData.keyHash P (Str.ofString "readinto")), (.str (Str.ofString "readinto") 593), (.ref 286)⟩, ⟨(PyData.keyHash P (Str.ofString "readinto1")), (.str (Str.ofString "readinto1") 601), (.ref 293)⟩, ⟨(PyData.keyHash P (Str.ofString "readline")), (.str (Str.ofString "readline") 611), (.ref 301)⟩, ⟨(PyData.keyHash P (Str.ofString "readlines")), (.str (Str.ofString "readlines") 619), (.ref 309)⟩, ⟨(PyData.keyHash P (Str.ofString "__iter__")), (.str (Str.ofString "__iter__") 626), (.ref 316)⟩, ⟨(PyData.keyHash P (Str.ofString "__next__")), (.str (Str.ofString "__next__") 634), (.ref 323)⟩, ⟨(PyData.keyHash P (Str.ofString "write")), (.str (Str.ofString "write") 644), (.ref 330)⟩, ⟨(PyData.keyHash P (Str.ofString "writelines")), (.str (Str.ofString "writelines") 652), (.ref 337)⟩, ⟨(PyData.keyHash P (Str.ofString "__repr__")), (.str (Str.ofString "__repr__") 659), (.ref 344)⟩, ⟨(PyData.keyHash P (Str.ofString "__static_attributes__")), (.str (Str.ofString "__static_attributes__") 662), (.ref 345)⟩, ⟨(PyData.keyHash P (Str.ofString "__doc__")), (.str (Str.ofString "__doc__") 663), .none⟩]) 2), (List.toArray [])⟩) ::
 (nat_lit 347, ⟨(.type "type"), none, (Data.cls ⟨(Str.ofString "BytesIO"), [(.ref 105)], [(.ref 347), (.ref 105), (.ref 90), (.type "object")], 346, (Str.ofString "BytesIO"), true, [], [], false, none, false⟩), (List.toArray [(some (.ref 120)), none, (some (.str (Str.ofString "BytesIO") 404)), (some (.str (Str.ofString "BytesIO") 412)), (some .none), (some (.bool true))])⟩) ::
 (nat_lit 357, ⟨(.type "tuple"), none, (Data.seq (List.toArray [(.str (Str.ofString "") 680), (.str (Str.ofString "\n") 681)]) 0), (List.toArray [])⟩) ::
 (nat_lit 363, ⟨(.type "code"), none, (Data.fields (List.toArray [(.str (Str.ofString "__init__") 682), (.str (Str.ofString "StringIO.__init__") 683), (.str (Str.ofString "/claim/cut.py") 684), (.int 210 0), (.int 3 0), (.int 0 0), (.int 0 0), (.int 3 0), (.ref 358), (.bool true), (.int 273 0), (.ref 359), .none, (.ref 360), (.ref 361), (.ref 362), (.int 688 0), (.int 210 0), (.str (Str.ofString "/claim/cut.py") 689)])), (List.toArray [])⟩) ::
 (nat_lit 364, ⟨(.type "function"), none, (Data.func ⟨(Str.ofString "__init__"), (Str.ofString "StringIO.__init__"), ⟨[], [⟨(Str.ofString "self"), none, ⟨210, 17, 210, 21⟩⟩, ⟨(Str.ofString "initial_value"), none, ⟨210, 23, 210, 36⟩⟩, ⟨(Str.ofString "newline"), none, ⟨210, 41, 210, 48⟩⟩], none, [], [], none, [(Expr.Constant (Const.str (Str.ofString "")) 0 ⟨210, 37, 210, 39⟩), (Expr.Constant (Const.str (Str.ofString "\n")) 0 ⟨210, 49, 210, 53⟩)]⟩, (FuncBody.stmts [(Stmt.If (Expr.BoolOp BoolOp.And [(Expr.Compare (Expr.Name (Str.ofString "newline") ⟨211, 11, 211, 18⟩) [CmpOp.IsNot] [(Expr.Constant Const.none 0 ⟨211, 26, 211, 30⟩)] ⟨211, 11, 211, 30⟩), (Expr.Compare (Expr.Call (Expr.Name (Str.ofString "type") ⟨211, 35, 211, 39⟩) [(Expr.Name (Str.ofString "newline") ⟨211, 40, 211, 47⟩)] [] ⟨211, 35, 211, 48⟩) [CmpOp.IsNot] [(Expr.Name (Str.ofString "str") ⟨211, 56, 211, 59⟩)] ⟨211, 35, 211, 59⟩)] ⟨211, 11, 211, 59⟩) [(Stmt.Expr (Expr.Call (Expr.Name (Str.ofString "_wall") ⟨212, 12, 212, 17⟩) [(Expr.Constant (Const.int 17) 0 ⟨212, 18, 212, 20⟩)] [] ⟨212, 12, 212, 21⟩) ⟨212, 12, 212, 21⟩)] [] ⟨211, 8, 212, 21⟩), (Stmt.If (Expr.BoolOp BoolOp.And [(Expr.Compare (Expr.Name (Str.ofString "newline") ⟨213, 11, 213, 18⟩) [CmpOp.IsNot] [(Expr.Constant Const.none 0 ⟨213, 26, 213, 30⟩)] ⟨213, 11, 213, 30⟩), (Expr.Compare (Expr.Name (Str.ofString "newline") ⟨213, 35, 213, 42⟩) [CmpOp.NotEq] [(Expr.Constant (Const.str (Str.ofString "")) 0 ⟨213, 46, 213, 48⟩)] ⟨213, 35, 213, 48⟩), (Expr.Compare (Expr.Name (Str.ofString "newline") ⟨213, 54, 213, 61⟩) [CmpOp.NotEq] [(Expr.Constant (Const.str (Str.ofString "\n")) 0 ⟨213, 65, 213, 69⟩)] ⟨213, 54, 213, 69⟩), (Expr.Compare (Expr.Name (Str.ofString "newline") ⟨213, 76, 213, 83⟩) [CmpOp.NotEq] [(Expr.Constant (Const.str (Str.ofString "\x0d")) 0 ⟨213, 87, 213, 91⟩)] ⟨213, 76, 213, 91⟩), (Expr.Compare (Expr.Name (Str.ofString "newline") ⟨213, 98, 213, 105⟩) [CmpOp.NotEq] [(Expr.Constant (Const.str (Str.ofString "\x0d\n")) 0 ⟨213, 109, 213, 115⟩)] ⟨213, 98, 213, 115⟩)] ⟨213, 11, 213, 116⟩) [(Stmt.Raise (some (Expr.Call (Expr.Name (Str.ofString "ValueError") ⟨214, 18, 214, 28⟩) [(Expr.JoinedStr [(Expr.Constant (Const.str (Str.ofString "illegal newline value: ")) 0 ⟨214, 31, 214, 54⟩), (Expr.FormattedValue (Expr.Name (Str.ofString "newline") ⟨214, 55, 214, 62⟩) 114 none ⟨214, 54, 214, 65⟩)] ⟨214, 29, 214, 66⟩)] [] ⟨214, 18, 214, 67⟩)) none ⟨214, 12, 214, 67⟩)] [] ⟨213, 8, 214, 67⟩), (Stmt.If (Expr.BoolOp BoolOp.And [(Expr.Compare (Expr.Name (Str.ofString "initial_value") ⟨215, 11, 215, 24⟩) [CmpOp.IsNot] [(Expr.Constant Const.none 0 ⟨215, 32, 215, 36⟩)] ⟨215, 11, 215, 36⟩), (Expr.Compare (Expr.Call (Expr.Name (Str.ofString "type") ⟨215, 41, 215, 45⟩) [(Expr.Name (Str.ofString "initial_value") ⟨215, 46, 215, 59⟩)] [] ⟨215, 41, 215, 60⟩) [CmpOp.IsNot] [(Expr.Name (Str.ofString "str") ⟨215, 68, 215, 71⟩)] ⟨215, 41, 215, 71⟩)] ⟨215, 11, 215, 71⟩) [(Stmt.Expr (Expr.Call (Expr.Name (Str.ofString "_wall") ⟨216, 12, 216, 17⟩) [(Expr.Constant (Const.int 18) 0 ⟨216, 18, 216, 20⟩)] [] ⟨216, 12, 216, 21⟩) ⟨216, 12, 216, 21⟩)] [] ⟨215, 8, 216, 21⟩), (Stmt.Assign [(Expr.Attribute (Expr.Name (Str.ofString "self") ⟨217, 8, 217, 12⟩) (Str.ofString "_StringIO__newline") ⟨217, 8, 217, 22⟩)] (Expr.Name (Str.ofString "newline") ⟨217, 25, 217, 32⟩) ⟨217, 8, 217, 32⟩), (Stmt.Assign [(Expr.Attribute (Expr.Name (Str.ofString "self") ⟨218, 8, 218, 12⟩) (Str.ofString "_StringIO__buf") ⟨218, 8, 218, 18⟩)] (Expr.Constant (Const.str (Str.ofString "")) 0 ⟨218, 21, 218, 23⟩) ⟨218, 8, 218, 23⟩), (Stmt.Assign [(Expr.Attribute (Expr.Name (Str.ofString "self") ⟨219, 8, 219, 12⟩) (Str.ofString "_StringIO__pos") ⟨219, 8, 219, 18⟩)] (Expr.Constant (Const.int 0) 0 ⟨219, 21, 219, 22⟩) ⟨219, 8, 219, 22⟩), (Stmt.If (Expr.Compare (Expr.Name (Str.ofString "initial_value") ⟨220, 11, 220, 24⟩) [CmpOp.IsNot] [(Expr.Constant Const.none 0 ⟨220, 32, 220, 36⟩)] ⟨220, 11, 220, 36⟩) [(Stmt.Assign [(Expr.Attribute (Expr.Name (Str.ofString "self") ⟨221, 12, 221, 16⟩) (Str.ofString "_StringIO__buf") ⟨221, 12, 221, 22⟩)] (Expr.Call (Expr.Attribute (Expr.Name (Str.ofString "self") ⟨221, 25, 221, 29⟩) (Str.ofString "_StringIO__translated") ⟨221, 25, 221, 42⟩) [(Expr.Name (Str.ofString "initial_value") ⟨221, 43, 221, 56⟩)] [] ⟨221, 25, 221, 57⟩) ⟨221, 12, 221, 57⟩)] [] ⟨220, 8, 221, 57⟩)]), ⟨ScopeKind.function, [⟨(Str.ofString "self"), NameKind.local⟩, ⟨(Str.ofString "initial_value"), NameKind.local⟩, ⟨(Str.ofString "newline"), NameKind.local⟩, ⟨(Str.ofString "type"), NameKind.globalImplicit⟩, ⟨(Str.ofString "str"), NameKind.globalImplicit⟩, ⟨(Str.ofString "_wall"), NameKind.globalImplicit⟩, ⟨(Str.ofString "ValueError"), NameKind.globalImplicit⟩], false, false, []⟩, 3, [], (.ref 357), .none, .none, (.str (Str.ofString "io") 296), none, (.ref 363), .none, 0⟩), (List.toArray [])⟩) ::
 (nat_lit 370, ⟨(.type "code"), none, (Data.fields (List.toArray [(.str (Str.ofString "__translated") 691), (.str (Str.ofString "StringIO.__translated") 692), (.str (Str.ofString "/claim/cut.py") 693), (.int 223 0), (.int 2 0), (.int 0 0), (.int 0 0), (.int 3 0), (.ref 365), (.bool true), (.int 273 0), (.ref 366), .none, (.ref 367), (.ref 368), (.ref 369), (.int 697 0), (.int 223 0), (.str (Str.ofString "/claim/cut.py") 698)])), (List.toArray [])⟩) ::
 (nat_lit 371, ⟨(.type "function"), none, (Data.func ⟨(Str.ofString "__translated"), (Str.ofString "StringIO.__translated"), ⟨[], [⟨(Str.ofString "self"), none, ⟨223, 21, 223, 25⟩⟩, ⟨(Str.ofString "s"), none, ⟨223, 27, 223, 28⟩⟩], none, [], [], none, []⟩, (FuncBody.stmts [(Stmt.Assign [(Expr.Name (Str.ofString "newline") ⟨224, 8, 224, 15⟩)] (Expr.Attribute (Expr.Name (Str.ofString "self") ⟨224, 18, 224, 22⟩) (Str.ofString "_StringIO__newline") ⟨224, 18, 224, 32⟩) ⟨224, 8, 224, 32⟩), (Stmt.If (Expr.Compare (Expr.Name (Str.ofString "newline") ⟨225, 11, 225, 18⟩) [CmpOp.Is] [(Expr.Constant Const.none 0 ⟨225, 22, 225, 26⟩)] ⟨225, 11, 225, 26⟩) [(Stmt.Return (some (Expr.Call (Expr.Attribute (Expr.Call (Expr.Attribute (Expr.Name (Str.ofString "s") ⟨226, 19, 226, 20⟩) (Str.ofString "replace") ⟨226, 19, 226, 28⟩) [(Expr.Constant (Const.str (Str.ofString "\x0d\n")) 0 ⟨226, 29, 226, 35⟩), (Expr.Constant (Const.str (Str.ofString "\n")) 0 ⟨226, 37, 226, 41⟩)] [] ⟨226, 19, 226, 42⟩) (Str.ofString "replace") ⟨226, 19, 226, 50⟩) [(Expr.Constant (Const.str (Str.ofString "\x0d")) 0 ⟨226, 51, 226, 55⟩), (Expr.Constant (Const.str (Str.ofString "\n")) 0 ⟨226, 57, 226, 61⟩)] [] ⟨226, 19, 226, 62⟩)) ⟨226, 12, 226, 62⟩)] [] ⟨225, 8, 226, 62⟩), (Stmt.If (Expr.BoolOp BoolOp.Or [(Expr.Compare (Expr.Name (Str.ofString "newline") ⟨227, 11, 227, 18⟩) [CmpOp.Eq] [(Expr.Constant (Const.str (Str.ofString "\x0d")) 0 ⟨227, 22, 227, 26⟩)] ⟨227, 11, 227, 26⟩), (Expr.Compare (Expr.Name (Str.ofString "newline") ⟨227, 30, 227, 37⟩) [CmpOp.Eq] [(Expr.Constant (Const.str (Str.ofString "\x0d\n")) 0 ⟨227, 41, 227, 47⟩)] ⟨227, 30, 227, 47⟩)] ⟨227, 11, 227, 47⟩) [(Stmt.Return (some (Expr.Call (Expr.Attribute (Expr.Name (Str.ofString "s") ⟨228, 19, 228, 20⟩) (Str.ofString "replace") ⟨228, 19, 228, 28⟩) [(Expr.Constant (Const.str (Str.ofString "\n")) 0 ⟨228, 29, 228, 33⟩), (Expr.Name (Str.ofString "newline") ⟨228, 35, 228, 42⟩)] [] ⟨228, 19, 228, 43⟩)) ⟨228, 12, 228, 43⟩)] [] ⟨227, 8, 228, 43⟩), (Stmt.Return (some (Expr.Name (Str.ofString "s") ⟨229, 15, 229, 16⟩)) ⟨229, 8, 229, 16⟩)]), ⟨ScopeKind.function, [⟨(Str.ofString "self"), NameKind.local⟩, ⟨(Str.ofString "s"), NameKind.local⟩, ⟨(Str.ofString "newline"), NameKind.local⟩], false, false, []⟩, 3, [], .none, .none, .none, (.str (Str.ofString "io") 296), none, (.ref 370), .none, 0⟩), (List.toArray [])⟩) ::
 (nat_lit 377, ⟨(.type "code"), none, (Data.fields (List.toArray [(.str (Str.ofString "__check") 700), (.str (Str.ofString "StringIO.__check") 701), (.str (Str.ofString "/claim/cut.py") 702), (.int 231 0), (.int 1 0), (.int 0 0), (.int 0 0), (.int 3 0), (.ref 372), (.bool true), (.int 273 0), (.ref 373), .none, (.ref 374), (.ref 375), (.ref 376), (.int 704 0), (.int 231 0), (.str (Str.ofString "/claim/cut.py") 705)])), (List.toArray [])⟩) ::
 (nat_lit 378, ⟨(.type "function"), none, (Data.func ⟨(Str.ofString "__check"), (Str.ofString "StringIO.__check"), ⟨[], [⟨(Str.ofString "self"), none, ⟨231, 16, 231, 20⟩⟩], none, [], [], none, []⟩, (FuncBody.stmts [(Stmt.If (Expr.Compare (Expr.Attribute (Expr.Name (Str.ofString "self") ⟨232, 11, 232, 15⟩) (Str.ofString "_StringIO__buf") ⟨232, 11, 232, 21⟩) [CmpOp.Is] [(Expr.Constant Const.none 0 ⟨232, 25, 232, 29⟩)] ⟨232, 11, 232, 29⟩) [(Stmt.Raise (some (Expr.Call (Expr.Name (Str.ofString "ValueError") ⟨233, 18, 233, 28⟩) [(Expr.Constant (Const.str (Str.ofString "I/O operation on closed file")) 0 ⟨233, 29, 233, 59⟩)] [] ⟨233, 18, 233, 60⟩)) none ⟨233, 12, 233, 60⟩)] [] ⟨232, 8, 233, 60⟩)]), ⟨ScopeKind.function, [⟨(Str.ofString "self"), NameKind.local⟩, ⟨(Str.ofString "ValueError"), NameKind.globalImplicit⟩], false, false, []⟩, 3, [], .none, .none, .none, (.str (Str.ofString "io") 296), none, (.ref 377), .none, 0⟩), (List.toArray [])⟩) ::
 (nat_lit 391, ⟨(.type "code"), none, (Data.fields (List.toArray [(.str (Str.ofString "__line") 714), (.str (Str.ofString "StringIO.__line") 715), (.str (Str.ofString "/claim/cut.py") 716), (.int 239 0), (.int 2 0), (.int 0 0), (.int 0 0), (.int 3 0), (.ref 386), (.bool true), (.int 273 0), (.ref 387), .none, (.ref 388), (.ref 389), (.ref 390), (.int 726 0), (.int 239 0), (.str (Str.ofString "/claim/cut.py") 727)])), (List.toArray [])⟩) ::
 (nat_lit 392, ⟨(.type "function"), none, (Data.func ⟨(Str.ofString "__line"), (Str.ofString "StringIO.__line"), ⟨[], [⟨(Str.ofString "self"), none, ⟨239, 15, 239, 19⟩⟩, ⟨(Str.ofString "limit"), none, ⟨239, 21, 239, 26⟩⟩], none, [], [], none, []⟩, (FuncBody.stmts [(Stmt.Assign [(Expr.Name (Str.ofString "start") ⟨240, 8, 240, 13⟩)] (Expr.Attribute (Expr.Name (Str.ofString "self") ⟨240, 16, 240, 20⟩) (Str.ofString "_StringIO__pos") ⟨240, 16, 240, 26⟩) ⟨240, 8, 240, 26⟩), (Stmt.Assign [(Expr.Name (Str.ofString "stop") ⟨241, 8, 241, 12⟩)] (Expr.Call (Expr.Name (Str.ofString "len") ⟨241, 15, 241, 18⟩) [(Expr.Attribute (Expr.Name (Str.ofString "self") ⟨241, 19, 241, 23⟩) (Str.ofString "_StringIO__buf") ⟨241, 19, 241, 29⟩)] [] ⟨241, 15, 241, 30⟩) ⟨241, 8, 241, 30⟩), (Stmt.If (Expr.Compare (Expr.Name (Str.ofString "start") ⟨242, 11, 242, 16⟩) [CmpOp.GtE] [(Expr.Name (Str.ofString "stop") ⟨242, 20, 242, 24⟩)] ⟨242, 11, 242, 24⟩) [(Stmt.Return (some (Expr.Constant (Const.str (Str.ofString "")) 0 ⟨243, 19, 243, 21⟩)) ⟨243, 12, 243, 21⟩)] [] ⟨242, 8, 243, 21⟩), (Stmt.Assign [(Expr.Name (Str.ofString "cut") ⟨244, 8, 244, 11⟩)] (Expr.Constant (Const.bool false) 0 ⟨244, 14, 244, 19⟩) ⟨244, 8, 244, 19⟩), (Stmt.If (Expr.BoolOp BoolOp.And [(Expr.Compare (Expr.Name (Str.ofString "limit") ⟨245, 11, 245, 16⟩) [CmpOp.GtE] [(Expr.Constant (Const.int 0) 0 ⟨245, 20, 245, 21⟩)] ⟨245, 11, 245, 21⟩), (Expr.Compare (Expr.BinOp (Expr.Name (Str.ofString "start") ⟨245, 26, 245, 31⟩) Operator.Add (Expr.Name (Str.ofString "limit") ⟨245, 34, 245, 39⟩) ⟨245, 26, 245, 39⟩) [CmpOp.Lt] [(Expr.Name (Str.ofString "stop") ⟨245, 42, 245, 46⟩)] ⟨245, 26, 245, 46⟩)] ⟨245, 11, 245, 46⟩) [(Stmt.Assign [(Expr.Name (Str.ofString "stop") ⟨246, 12, 246, 16⟩)] (Expr.BinOp (Expr.Name (Str.ofString "start") ⟨246, 19, 246, 24⟩) Operator.Add (Expr.Name (Str.ofString "limit") ⟨246, 27, 246, 32⟩) ⟨246, 19, 246, 32⟩) ⟨246, 12, 246, 32⟩), (Stmt.Assign [(Expr.Name (Str.ofString "cut") ⟨247, 12, 247, 15⟩)] (Expr.Constant (Const.bool true) 0 ⟨247, 18, 247, 22⟩) ⟨247, 12, 247, 22⟩)] [] ⟨245, 8, 247, 22⟩), (Stmt.Assign [(Expr.Name (Str.ofString "newline") ⟨248, 8, 248, 15⟩)] (Expr.Attribute (Expr.Name (Str.ofString "self") ⟨248, 18, 248, 22⟩) (Str.ofString "_StringIO__newline") ⟨248, 18, 248, 32⟩) ⟨248, 8, 248, 32⟩), (Stmt.If (Expr.Compare (Expr.Name (Str.ofString "newline") ⟨249, 11, 249, 18⟩) [CmpOp.Eq] [(Expr.Constant (Const.str (Str.ofString "")) 0 ⟨249, 22, 249, 24⟩)] ⟨249, 11, 249, 24⟩) [(Stmt.Assign [(Expr.Name (Str.ofString "i") ⟨250, 12, 250, 13⟩)] (Expr.Call (Expr.Attribute (Expr.Attribute (Expr.Name (Str.ofString "self") ⟨250, 16, 250, 20⟩) (Str.ofString "_StringIO__buf") ⟨250, 16, 250, 26⟩) (Str.ofString "find") ⟨250, 16, 250, 31⟩) [(Expr.Constant (Const.str (Str.ofString "\n")) 0 ⟨250, 32, 250, 36⟩), (Expr.Name (Str.ofString "start") ⟨250, 38, 250, 43⟩), (Expr.Name (Str.ofString "stop") ⟨250, 45, 250, 49⟩)] [] ⟨250, 16, 250, 50⟩) ⟨250, 12, 250, 50⟩), (Stmt.Assign [(Expr.Name (Str.ofString "j") ⟨251, 12, 251, 13⟩)] (Expr.Call (Expr.Attribute (Expr.Attribute (Expr.Name (Str.ofString "self") ⟨251, 16, 251, 20⟩) (Str.ofString "_StringIO__buf") ⟨251, 16, 251, 26⟩) (Str.ofString "find") ⟨251, 16, 251, 31⟩) [(Expr.Constant (Const.str (Str.ofString "\x0d")) 0 ⟨251, 32, 251, 36⟩), (Expr.Name (Str.ofString "start") ⟨251, 38, 251, 43⟩), (Expr.Name (Str.ofString "stop") ⟨251, 45, 251, 49⟩)] [] ⟨251, 16, 251, 50⟩) ⟨251, 12, 251, 50⟩), (Stmt.If (Expr.BoolOp BoolOp.And [(Expr.Compare (Expr.Name (Str.ofString "j") ⟨252, 15, 252, 16⟩) [CmpOp.GtE] [(Expr.Constant (Const.int 0) 0 ⟨252, 20, 252, 21⟩)] ⟨252, 15, 252, 21⟩), (Expr.BoolOp BoolOp.Or [(Expr.Compare (Expr.Name (Str.ofString "i") ⟨252, 27, 252, 28⟩) [CmpOp.Lt] [(Expr.Constant (Const.int 0) 0 ⟨252, 31, 252, 32⟩)] ⟨252, 27, 252, 32⟩), (Expr.Compare (Expr.Name (Str.ofString "j") ⟨252, 36, 252, 37⟩) [CmpOp.Lt] [(Expr.Name (Str.ofString "i") ⟨252, 40, 252, 41⟩)] ⟨252, 36, 252, 41⟩)] ⟨252, 27, 252, 41⟩)] ⟨252, 15, 252, 42⟩) [(Stmt.If (Expr.Compare (Expr.BinOp (Expr.Name (Str.ofString "j") ⟨253, 19, 253, 20⟩) Operator.Add (Expr.Constant (Const.int 1) 0 ⟨253, 23, 253, 24⟩) ⟨253, 19, 253, 24⟩) [CmpOp.Lt] [(Expr.Name (Str.ofString "stop") ⟨253, 27, 253, 31⟩)] ⟨253, 19, 253, 31⟩) [(Stmt.Assign [(Expr.Name (Str.ofString "stop") ⟨254, 20, 254, 24⟩)] (Expr.IfExp (Expr.Compare (Expr.Subscript (Expr.Attribute (Expr.Name (Str.ofString "self") ⟨254, 36, 254, 40⟩) (Str.ofString "_StringIO__buf") ⟨254, 36, 254, 46⟩) (Expr.BinOp (Expr.Name (Str.ofString "j") ⟨254, 47, 254, 48⟩) Operator.Add (Expr.Constant (Const.int 1) 0 ⟨254, 51, 254, 52⟩) ⟨254, 47, 254, 52⟩) ⟨254, 36, 254, 53⟩) [CmpOp.Eq] [(Expr.Constant (Const.str (Str.ofString "\n")) 0 ⟨254, 57, 254, 61⟩)] ⟨254, 36, 254, 61⟩) (Expr.BinOp (Expr.Name (Str.ofString "j") ⟨254, 27, 254, 28⟩) Operator.Add (Expr.Constant (Const.int 2) 0 ⟨254, 31, 254, 32⟩) ⟨254, 27, 254, 32⟩) (Expr.BinOp (Expr.Name (Str.ofString "j") ⟨254, 67, 254, 68⟩) Operator.Add (Expr.Constant (Const.int 1) 0 ⟨254, 71, 254, 72⟩) ⟨254, 67, 254, 72⟩) ⟨254, 27, 254, 72⟩) ⟨254, 20, 254, 72⟩)] [(Stmt.If (Expr.BoolOp BoolOp.And [(Expr.Name (Str.ofString "cut") ⟨256, 23, 256, 26⟩), (Expr.Compare (Expr.Subscript (Expr.Attribute (Expr.Name (Str.ofString "self") ⟨256, 31, 256, 35⟩) (Str.ofString "_StringIO__buf") ⟨256, 31, 256, 41⟩) (Expr.BinOp (Expr.Name (Str.ofString "j") ⟨256, 42, 256, 43⟩) Operator.Add (Expr.Constant (Const.int 1) 0 ⟨256, 46, 256, 47⟩) ⟨256, 42, 256, 47⟩) ⟨256, 31, 256, 48⟩) [CmpOp.Eq] [(Expr.Constant (Const.str (Str.ofString "\n")) 0 ⟨256, 52, 256, 56⟩)] ⟨256, 31, 256, 56⟩)] ⟨256, 23, 256, 56⟩) [(Stmt.Expr (Expr.Call (Expr.Name (Str.ofString "_wall") ⟨257, 24, 257, 29⟩) [(Expr.Constant (Const.int 19) 0 ⟨257, 30, 257, 32⟩)] [] ⟨257, 24, 257, 33⟩) ⟨257, 24, 257, 33⟩)] [] ⟨256, 20, 257, 33⟩), (Stmt.Assign [(Expr.Name (Str.ofString "stop") ⟨258, 20, 258, 24⟩)] (Expr.BinOp (Expr.Name (Str.ofString "j") ⟨258, 27, 258, 28⟩) Operator.Add (Expr.Constant (Const.int 1) 0 ⟨258, 31, 258, 32⟩) ⟨258, 27, 258, 32⟩) ⟨258, 20, 258, 32⟩)] ⟨253, 16, 258, 32⟩)] [(Stmt.If (Expr.Compare (Expr.Name (Str.ofString "i") ⟨259, 17, 259, 18⟩) [CmpOp.GtE] [(Expr.Constant (Const.int 0) 0 ⟨259, 22, 259, 23⟩)] ⟨259, 17, 259, 23⟩) [(Stmt.Assign [(Expr.Name (Str.ofString "stop") ⟨260, 16, 260, 20⟩)] (Expr.BinOp (Expr.Name (Str.ofString "i") ⟨260, 23, 260, 24⟩) Operator.Add (Expr.Constant (Const.int 1) 0 ⟨260, 27, 260, 28⟩) ⟨260, 23, 260, 28⟩) ⟨260, 16, 260, 28⟩)] [] ⟨259, 12, 260, 28⟩)] ⟨252, 12, 260, 28⟩)] [(Stmt.Assign [(Expr.Name (Str.ofString "end") ⟨262, 12, 262, 15⟩)] (Expr.IfExp (Expr.Compare (Expr.Name (Str.ofString "newline") ⟨262, 26, 262, 33⟩) [CmpOp.Is] [(Expr.Constant Const.none 0 ⟨262, 37, 262, 41⟩)] ⟨262, 26, 262, 41⟩) (Expr.Constant (Const.str (Str.ofString "\n")) 0 ⟨262, 18, 262, 22⟩) (Expr.Name (Str.ofString "newline") ⟨262, 47, 262, 54⟩) ⟨262, 18, 262, 54⟩) ⟨262, 12, 262, 54⟩), (Stmt.If (Expr.BoolOp BoolOp.And [(Expr.Name (Str.ofString "cut") ⟨263, 15, 263, 18⟩), (Expr.Compare (Expr.Name (Str.ofString "end") ⟨263, 23, 263, 26⟩) [CmpOp.Eq] [(Expr.Constant (Const.str (Str.ofString "\x0d\n")) 0 ⟨263, 30, 263, 36⟩)] ⟨263, 23, 263, 36⟩), (Expr.Compare (Expr.Name (Str.ofString "stop") ⟨263, 42, 263, 46⟩) [CmpOp.Gt] [(Expr.Name (Str.ofString "start") ⟨263, 49, 263, 54⟩)] ⟨263, 42, 263, 54⟩), (Expr.Compare (Expr.Subscript (Expr.Attribute (Expr.Name (Str.ofString "self") ⟨263, 61, 263, 65⟩) (Str.ofString "_StringIO__buf") ⟨263, 61, 263, 71⟩) (Expr.BinOp (Expr.Name (Str.ofString "stop") ⟨263, 72, 263, 76⟩) Operator.Sub (Expr.Constant (Const.int 1) 0 ⟨263, 79, 263, 80⟩) ⟨263, 72, 263, 80⟩) ⟨263, 61, 263, 81⟩) [CmpOp.Eq] [(Expr.Constant (Const.str (Str.ofString "\x0d")) 0 ⟨263, 85, 263, 89⟩)] ⟨263, 61, 263, 89⟩)] ⟨263, 15, 263, 90⟩) [(Stmt.Expr (Expr.Call (Expr.Name (Str.ofString "_wall") ⟨264, 16, 264, 21⟩) [(Expr.Constant (Const.int 20) 0 ⟨264, 22, 264, 24⟩)] [] ⟨264, 16, 264, 25⟩) ⟨264, 16, 264, 25⟩)] [] ⟨263, 12, 264, 25⟩), (Stmt.Assign [(Expr.Name (Str.ofString "i") ⟨265, 12, 265, 13⟩)] (Expr.Call (Expr.Attribute (Expr.Attribute (Expr.Name (Str.ofString "self") ⟨265, 16, 265, 20⟩) (Str.ofString "_StringIO__buf") ⟨265, 16, 265, 26⟩) (Str.ofString "find") ⟨265, 16, 265, 31⟩) [(Expr.Name (Str.ofString "end") ⟨265, 32, 265, 35⟩), (Expr.Name (Str.ofString "start") ⟨265, 37, 265, 42⟩), (Expr.Name (Str.ofString "stop") ⟨265, 44, 265, 48⟩)] [] ⟨265, 16, 265, 49⟩) ⟨265, 12, 265, 49⟩), (Stmt.If (Expr.Compare (Expr.Name (Str.ofString "i") ⟨266, 15, 266, 16⟩) [CmpOp.GtE] [(Expr.Constant (Const.int 0) 0 ⟨266, 20, 266, 21⟩)] ⟨266, 15, 266, 21⟩) [(Stmt.Assign [(Expr.Name (Str.ofString "stop") ⟨267, 16, 267, 20⟩)] (Expr.BinOp (Expr.Name (Str.ofString "i") ⟨267, 23, 267, 24⟩) Operator.Add (Expr.Call (Expr.Name (Str.ofString "len") ⟨267, 27, 267, 30⟩) [(Expr.Name (Str.ofString "end") ⟨267, 31, 267, 34⟩)] [] ⟨267, 27, 267, 35⟩) ⟨267, 23, 267, 35⟩) ⟨267, 16, 267, 35⟩)] [] ⟨266, 12, 267, 35⟩)] ⟨249, 8, 267, 35⟩), (Stmt.Assign [(Expr.Attribute (Expr.Name (Str.ofString "self") ⟨268, 8, 268, 12⟩) (Str.ofString "_StringIO__pos") ⟨268, 8, 268, 18⟩)] (Expr.Name (Str.ofString "stop") ⟨268, 21, 268, 25⟩) ⟨268, 8, 268, 25⟩), (Stmt.Return (some (Expr.Subscript (Expr.Attribute (Expr.Name (Str.ofString "self") ⟨269, 15, 269, 19⟩) (Str.ofString "_StringIO__buf") ⟨269, 15, 269, 25⟩) (Expr.Slice (some (Expr.Name (Str.ofString "start") ⟨269, 26, 269, 31⟩)) (some (Expr.Name (Str.ofString "stop") ⟨269, 32, 269, 36⟩)) none ⟨269, 26, 269, 36⟩) ⟨269, 15, 269, 37⟩)) ⟨269, 8, 269, 37⟩)]), ⟨ScopeKind.function, [⟨(Str.ofString "self"), NameKind.local⟩, ⟨(Str.ofString "limit"), NameKind.local⟩, ⟨(Str.ofString "start"), NameKind.local⟩, ⟨(Str.ofString "stop"), NameKind.local⟩, ⟨(Str.ofString "cut"), NameKind.local⟩, ⟨(Str.ofString "newline"), NameKind.local⟩, ⟨(Str.ofString "i"), NameKind.local⟩, ⟨(Str.ofString "j"), NameKind.local⟩, ⟨(Str.ofString "end"), NameKind.local⟩, ⟨(Str.ofString "len"), NameKind.globalImplicit⟩, ⟨(Str.ofString "_wall"), NameKind.globalImplicit⟩], false, false, []⟩, 3, [], .none, .none, .none, (.str (Str.ofString "io") 296), none, (.ref 391), .none, 0⟩), (List.toArray [])⟩) ::
 (nat_lit 400, ⟨(.type "property"), none, (Data.fields (List.toArray [(.ref 399), .none, .none, .none, (.str (Str.ofString "closed") 736), (.bool false)])), (List.toArray [])⟩) ::
 (nat_lit 408, ⟨(.type "property"), none, (Data.fields (List.toArray [(.ref 407), .none, .none, .none, (.str (Str.ofString "line_buffering") 744), (.bool false)])), (List.toArray [])⟩) ::
 (nat_lit 416, ⟨(.type "property"), none, (Data.fields (List.toArray [(.ref 415), .none, .none, .none, (.str (Str.ofString "newlines") 752), (.bool false)])), (List.toArray [])⟩) ::
 (nat_lit 424, ⟨(.type "property"), none, (Data.fields (List.toArray [(.ref 423), .none, .none, .none, (.str (Str.ofString "encoding") 760), (.bool false)])), (List.toArray [])⟩) ::
 (nat_lit 432, ⟨(.type "property"), none, (Data.fields (List.toArray [(.ref 431), .none, .none, .none, (.str (Str.ofString "errors") 768), (.bool false)])), (List.toArray [])⟩) ::
 (nat_lit 533, ⟨(.type "tuple"), none, (Data.seq (List.toArray [(.int (Neg.neg 1) 873)]) 0), (List.toArray [])⟩) ::
 (nat_lit 539, ⟨(.type "code"), none, (Data.fields (List.toArray [(.str (Str.ofString "read") 874), (.str (Str.ofString "StringIO.read") 875), (.str (Str.ofString "/claim/cut.py") 876), (.int 353 0), (.int 2 0), (.int 2 0), (.int 0 0), (.int 3 0), (.ref 534), (.bool true), (.int 273 0), (.ref 535), .none, (.ref 536), (.ref 537), (.ref 538), (.int 881 0), (.int 353 0), (.str (Str.ofString "/claim/cut.py") 882)])), (List.toArray [])⟩) ::
 (nat_lit 540, ⟨(.type "function"), none, (Data.func ⟨(Str.ofString "read"), (Str.ofString "StringIO.read"), ⟨[⟨(Str.ofString "self"), none, ⟨353, 13, 353, 17⟩⟩, ⟨(Str.ofString "size"), none, ⟨353, 19, 353, 23⟩⟩], [], none, [], [], none, [(Expr.UnaryOp UnaryOp.USub (Expr.Constant (Const.int 1) 0 ⟨353, 25, 353, 26⟩) ⟨353, 24, 353, 26⟩)]⟩, (FuncBody.stmts [(Stmt.If (Expr.Compare (Expr.Name (Str.ofString "size") ⟨354, 11, 354, 15⟩) [CmpOp.Is] [(Expr.Constant Const.none 0 ⟨354, 19, 354, 23⟩)] ⟨354, 11, 354, 23⟩) [(Stmt.Assign [(Expr.Name (Str.ofString "size") ⟨355, 12, 355, 16⟩)] (Expr.UnaryOp UnaryOp.USub (Expr.Constant (Const.int 1) 0 ⟨355, 20, 355, 21⟩) ⟨355, 19, 355, 21⟩) ⟨355, 12, 355, 21⟩)] [] ⟨354, 8, 355, 21⟩), (Stmt.Assign [(Expr.Name (Str.ofString "size") ⟨356, 8, 356, 12⟩)] (Expr.Call (Expr.Name (Str.ofString "_index") ⟨356, 15, 356, 21⟩) [(Expr.Name (Str.ofString "size") ⟨356, 22, 356, 26⟩), (Expr.Constant (Const.str (Str.ofString "StringIO.read of a size that is no exact int")) 0 ⟨356, 28, 356, 74⟩)] [] ⟨356, 15, 356, 75⟩) ⟨356, 8, 356, 75⟩), (Stmt.Expr (Expr.Call (Expr.Attribute (Expr.Name (Str.ofString "self") ⟨357, 8, 357, 12⟩) (Str.ofString "_StringIO__check") ⟨357, 8, 357, 20⟩) [] [] ⟨357, 8, 357, 22⟩) ⟨357, 8, 357, 22⟩), (Stmt.Assign [(Expr.Name (Str.ofString "start") ⟨358, 8, 358, 13⟩)] (Expr.Attribute (Expr.Name (Str.ofString "self") ⟨358, 16, 358, 20⟩) (Str.ofString "_StringIO__pos") ⟨358, 16, 358, 26⟩) ⟨358, 8, 358, 26⟩), (Stmt.Assign [(Expr.Name (Str.ofString "stop") ⟨359, 8, 359, 12⟩)] (Expr.Call (Expr.Name (Str.ofString "len") ⟨359, 15, 359, 18⟩) [(Expr.Attribute (Expr.Name (Str.ofString "self") ⟨359, 19, 359, 23⟩) (Str.ofString "_StringIO__buf") ⟨359, 19, 359, 29⟩)] [] ⟨359, 15, 359, 30⟩) ⟨359, 8, 359, 30⟩), (Stmt.If (Expr.Compare (Expr.Name (Str.ofString "start") ⟨360, 11, 360, 16⟩) [CmpOp.GtE] [(Expr.Name (Str.ofString "stop") ⟨360, 20, 360, 24⟩)] ⟨360, 11, 360, 24⟩) [(Stmt.Return (some (Expr.Constant (Const.str (Str.ofString "")) 0 ⟨361, 19, 361, 21⟩)) ⟨361, 12, 361, 21⟩)] [] ⟨360, 8, 361, 21⟩), (Stmt.If (Expr.BoolOp BoolOp.And [(Expr.Compare (Expr.Name (Str.ofString "size") ⟨362, 11, 362, 15⟩) [CmpOp.GtE] [(Expr.Constant (Const.int 0) 0 ⟨362, 19, 362, 20⟩)] ⟨362, 11, 362, 20⟩), (Expr.Compare (Expr.BinOp (Expr.Name (Str.ofString "start") ⟨362, 25, 362, 30⟩) Operator.Add (Expr.Name (Str.ofString "size") ⟨362, 33, 362, 37⟩) ⟨362, 25, 362, 37⟩) [CmpOp.Lt] [(Expr.Name (Str.ofString "stop") ⟨362, 40, 362, 44⟩)] ⟨362, 25, 362, 44⟩)] ⟨362, 11, 362, 44⟩) [(Stmt.Assign [(Expr.Name (Str.ofString "stop") ⟨363, 12, 363, 16⟩)] (Expr.BinOp (Expr.Name (Str.ofString "start") ⟨363, 19, 363, 24⟩) Operator.Add (Expr.Name (Str.ofString "size") ⟨363, 27, 363, 31⟩) ⟨363, 19, 363, 31⟩) ⟨363, 12, 363, 31⟩)] [] ⟨362, 8, 363, 31⟩), (Stmt.Assign [(Expr.Attribute (Expr.Name (Str.ofString "self") ⟨364, 8, 364, 12⟩) (Str.ofString "_StringIO__pos") ⟨364, 8, 364, 18⟩)] (Expr.Name (Str.ofString "stop") ⟨364, 21, 364, 25⟩) ⟨364, 8, 364, 25⟩), (Stmt.Return (some (Expr.Subscript (Expr.Attribute (Expr.Name (Str.ofString "self") ⟨365, 15, 365, 19⟩) (Str.ofString "_StringIO__buf") ⟨365, 15, 365, 25⟩) (Expr.Slice (some (Expr.Name (Str.ofString "start") ⟨365, 26, 365, 31⟩)) (some (Expr.Name (Str.ofString "stop") ⟨365, 32, 365, 36⟩)) none ⟨365, 26, 365, 36⟩) ⟨365, 15, 365, 37⟩)) ⟨365, 8, 365, 37⟩)]), ⟨ScopeKind.function, [⟨(Str.ofString "self"), NameKind.local⟩, ⟨(Str.ofString "size"), NameKind.local⟩, ⟨(Str.ofString "start"), NameKind.local⟩, ⟨(Str.ofString "stop"), NameKind.local⟩, ⟨(Str.ofString "_index"), NameKind.globalImplicit⟩, ⟨(Str.ofString "len"), NameKind.globalImplicit⟩], false, false, []⟩, 3, [], (.ref 533), .none, .none, (.str (Str.ofString "io") 296), none, (.ref 539), .none, 0⟩), (List.toArray [])⟩) ::
 (nat_lit 541, ⟨(.type "tuple"), none, (Data.seq (List.toArray [(.int (Neg.neg 1) 885)]) 0), (List.toArray [])⟩) ::
 (nat_lit 547, ⟨(.type "code"), none, (Data.fields (List.toArray [(.str (Str.ofString "readline") 886), (.str (Str.ofString "StringIO.readline") 887), (.str (Str.ofString "/claim/cut.py") 888), (.int 367 0), (.int 2 0), (.int 2 0), (.int 0 0), (.int 3 0), (.ref 542), (.bool true), (.int 273 0), (.ref 543), .none, (.ref 544), (.ref 545), (.ref 546), (.int 891 0), (.int 367 0), (.str (Str.ofString "/claim/cut.py") 892)])), (List.toArray [])⟩) ::
 (nat_lit 548, ⟨(.type "function"), none, (Data.func ⟨(Str.ofString "readline"), (Str.ofString "StringIO.readline"), ⟨[⟨(Str.ofString "self"), none, ⟨367, 17, 367, 21⟩⟩, ⟨(Str.ofString "size"), none, ⟨367, 23, 367, 27⟩⟩], [], none, [], [], none, [(Expr.UnaryOp UnaryOp.USub (Expr.Constant (Const.int 1) 0 ⟨367, 29, 367, 30⟩) ⟨367, 28, 367, 30⟩)]⟩, (FuncBody.stmts [(Stmt.If (Expr.Compare (Expr.Name (Str.ofString "size") ⟨368, 11, 368, 15⟩) [CmpOp.Is] [(Expr.Constant Const.none 0 ⟨368, 19, 368, 23⟩)] ⟨368, 11, 368, 23⟩) [(Stmt.Assign [(Expr.Name (Str.ofString "size") ⟨369, 12, 369, 16⟩)] (Expr.UnaryOp UnaryOp.USub (Expr.Constant (Const.int 1) 0 ⟨369, 20, 369, 21⟩) ⟨369, 19, 369, 21⟩) ⟨369, 12, 369, 21⟩)] [] ⟨368, 8, 369, 21⟩), (Stmt.Assign [(Expr.Name (Str.ofString "size") ⟨370, 8, 370, 12⟩)] (Expr.Call (Expr.Name (Str.ofString "_index") ⟨370, 15, 370, 21⟩) [(Expr.Name (Str.ofString "size") ⟨370, 22, 370, 26⟩), (Expr.Constant (Const.str (Str.ofString "StringIO.readline of a size that is no exact int")) 0 ⟨370, 28, 370, 78⟩)] [] ⟨370, 15, 370, 79⟩) ⟨370, 8, 370, 79⟩), (Stmt.Expr (Expr.Call (Expr.Attribute (Expr.Name (Str.ofString "self") ⟨371, 8, 371, 12⟩) (Str.ofString "_StringIO__check") ⟨371, 8, 371, 20⟩) [] [] ⟨371, 8, 371, 22⟩) ⟨371, 8, 371, 22⟩), (Stmt.Return (some (Expr.Call (Expr.Attribute (Expr.Name (Str.ofString "self") ⟨372, 15, 372, 19⟩) (Str.ofString "_StringIO__line") ⟨372, 15, 372, 26⟩) [(Expr.Name (Str.ofString "size") ⟨372, 27, 372, 31⟩)] [] ⟨372, 15, 372, 32⟩)) ⟨372, 8, 372, 32⟩)]), ⟨ScopeKind.function, [⟨(Str.ofString "self"), NameKind.local⟩, ⟨(Str.ofString "size"), NameKind.local⟩, ⟨(Str.ofString "_index"), NameKind.globalImplicit⟩], false, false, []⟩, 3, [], (.ref 541), .none, .none, (.str (Str.ofString "io") 296), none, (.ref 547), .none, 0⟩), (List.toArray [])⟩) ::
 (nat_lit 593, ⟨(.type "dict"), none, (Data.dict (List.toArray [⟨(PyData.keyHash P (Str.ofString "__module__")), (.str (Str.ofString "__module__") 673), (.str (Str.ofString "_io") 678)⟩, ⟨(PyData.keyHash P (Str.ofString "__firstlineno__")), (.str (Str.ofString "__firstlineno__") 677), (.int 207 676)⟩, ⟨(PyData.keyHash P (Str.ofString "__init__")), (.str (Str.ofString "__init__") 690), (.ref 364)⟩, ⟨(PyData.keyHash P (Str.ofString "_StringIO__translated")), (.str (Str.ofString "_StringIO__translated") 699), (.ref 371)⟩, ⟨(PyData.keyHash P (Str.ofString "_StringIO__check")), (.str (Str.ofString "_StringIO__check") 706), (.ref 378)⟩, ⟨(PyData.keyHash P (Str.ofString "_StringIO__check_dot")), (.str (Str.ofString "_StringIO__check_dot") 713), (.ref 385)⟩, ⟨(PyData.keyHash P (Str.ofString "_StringIO__line")), (.str (Str.ofString "_StringIO__line") 728), (.ref 392)⟩, ⟨(PyData.keyHash P (Str.ofString "closed")), (.str (Str.ofString "closed") 736), (.ref 400)⟩, ⟨(PyData.keyHash P (Str.ofString "line_buffering")), (.str (Str.ofString "line_buffering") 744), (.ref 408)⟩, ⟨(PyData.keyHash P (Str.ofString "newlines")), (.str (Str.ofString "newlines") 752), (.ref 416)⟩, ⟨(PyData.keyHash P (Str.ofString "encoding")), (.str (Str.ofString "encoding") 760), (.ref 424)⟩, ⟨(PyData.keyHash P (Str.ofString "errors")), (.str (Str.ofString "errors") 768), (.ref 432)⟩, ⟨(PyData.keyHash P (Str.ofString "close")), (.str (Str.ofString "close") 775), (.ref 439)⟩, ⟨(PyData.keyHash P (Str.ofString "__enter__")), (.str (Str.ofString "__enter__") 782), (.ref 446)⟩, ⟨(PyData.keyHash P (Str.ofString "__exit__")), (.str (Str.ofString "__exit__") 790), (.ref 453)⟩, ⟨(PyData.keyHash P (Str.ofString "readable")), (.str (Str.ofString "readable") 797), (.ref 460)⟩, ⟨(PyData.keyHash P (Str.ofString "writable")), (.str (Str.ofString "writable") 804), (.ref 467)⟩, ⟨(PyData.keyHash P (Str.ofString "seekable")), (.str (Str.ofString "seekable") 811), (.ref 474)⟩, ⟨(PyData.keyHash P (Str.ofString "isatty")), (.str (Str.ofString "isatty") 818), (.ref 481)⟩, ⟨(PyData.keyHash P (Str.ofString "flush")), (.str (Str.ofString "flush") 825), (.ref 488)⟩, ⟨(PyData.keyHash P (Str.ofString "fileno")), (.str (Str.ofString "fileno") 832), (.ref 495)⟩, ⟨(PyData.keyHash P (Str.ofString "detach")), (.str (Str.ofString "detach") 839), (.ref 502)⟩, ⟨(PyData.keyHash P (Str.ofString "getvalue")), (.str (Str.ofString "getvalue") 846), (.ref 509)⟩, ⟨(PyData.keyHash P (Str.ofString "tell")), (.str (Str.ofString "tell") 853), (.ref 516)⟩, ⟨(PyData.keyHash P (Str.ofString "seek")), (.str (Str.ofString "seek") 863), (.ref 524)⟩, ⟨(PyData.keyHash P (Str.ofString "truncate")), (.str (Str.ofString "truncate") 871), (.ref 532)⟩, ⟨(PyData.keyHash P (Str.ofString "read")), (.str (Str.ofString "read") 883), (.ref 540)⟩, ⟨(PyData.keyHash P (Str.ofString "readline")), (.str (Str.ofString "readline") 893), (.ref 548)⟩, ⟨(PyData.keyHash P (Str.ofString "readlines")), (.str (Str.ofString "readlines") 903), (.ref 556)⟩, ⟨(PyData.keyHash P (Str.ofString "__iter__")), (.str (Str.ofString "__iter__") 910), (.ref 563)⟩, ⟨(PyData.keyHash P (Str.ofString "__next__")), (.str (Str.ofString "__next__") 918), (.ref 570)⟩, ⟨(PyData.keyHash P (Str.ofString "write")), (.str (Str.ofString "write") 930), (.ref 577)⟩, ⟨(PyData.keyHash P (Str.ofString "writelines")), (.str (Str.ofString "writelines") 938), (.ref 584)⟩, ⟨(PyData.keyHash P (Str.ofString "__repr__")), (.str (Str.ofString "__repr__") 945), (.ref 591)⟩, ⟨(PyData.keyHash P (Str.ofString "__static_attributes__")), (.str (Str.ofString "__static_attributes__") 949), (.ref 592)⟩, ⟨(PyData.keyHash P (Str.ofString "__doc__")), (.str (Str.ofString "__doc__") 950), .none⟩]) 2), (List.toArray [])⟩) ::
 (nat_lit 594, ⟨(.type "type"), none, (Data.cls ⟨(Str.ofString "StringIO"), [(.ref 117)], [(.ref 594), (.ref 117), (.ref 90), (.type "object")], 593, (Str.ofString "StringIO"), true, [], [], false, none, false⟩), (List.toArray [(some (.ref 350)), none, (some (.str (Str.ofString "StringIO") 666)), (some (.str (Str.ofString "StringIO") 674)), (some .none), (some (.bool true))])⟩) ::
 (nat_lit 646, ⟨(.type "tuple"), none, (Data.seq (List.toArray [.none, .none, (.bool false), (.bool false)]) 0), (List.toArray [])⟩) ::
 (nat_lit 652, ⟨(.type "code"), none, (Data.fields (List.toArray [(.str (Str.ofString "__init__") 1025), (.str (Str.ofString "shlex.__init__") 1026), (.str (Str.ofString "/claim/cut.py") 1027), (.int 478 0), (.int 5 0), (.int 0 0), (.int 0 0), (.int 3 0), (.ref 647), (.bool true), (.int 273 0), (.ref 648), .none, (.ref 649), (.ref 650), (.ref 651), (.int 1034 0), (.int 478 0), (.str (Str.ofString "/claim/cut.py") 1035)])), (List.toArray [])⟩) ::
 (nat_lit 653, ⟨(.type "function"), none, (Data.func ⟨(Str.ofString "__init__"), (Str.ofString "shlex.__init__"), ⟨[], [⟨(Str.ofString "self"), none, ⟨478, 17, 478, 21⟩⟩, ⟨(Str.ofString "instream"), none, ⟨478, 23, 478, 31⟩⟩, ⟨(Str.ofString "infile"), none, ⟨478, 38, 478, 44⟩⟩, ⟨(Str.ofString "posix"), none, ⟨478, 51, 478, 56⟩⟩, ⟨(Str.ofString "punctuation_chars"), none, ⟨478, 64, 478, 81⟩⟩], none, [], [], none, [(Expr.Constant Const.none 0 ⟨478, 32, 478, 36⟩), (Expr.Constant Const.none 0 ⟨478, 45, 478, 49⟩), (Expr.Constant (Const.bool false) 0 ⟨478, 57, 478, 62⟩), (Expr.Constant (Const.bool false) 0 ⟨478, 82, 478, 87⟩)]⟩, (FuncBody.stmts [(Stmt.If (Expr.Call (Expr.Name (Str.ofString "isinstance") ⟨479, 11, 479, 21⟩) [(Expr.Name (Str.ofString "instream") ⟨479, 22, 479, 30⟩), (Expr.Name (Str.ofString "str") ⟨479, 32, 479, 35⟩)] [] ⟨479, 11, 479, 36⟩) [(Stmt.Assign [(Expr.Name (Str.ofString "instream") ⟨480, 12, 480, 20⟩)] (Expr.Call (Expr.Name (Str.ofString "StringIO") ⟨480, 23, 480, 31⟩) [(Expr.Name (Str.ofString "instream") ⟨480, 32, 480, 40⟩)] [] ⟨480, 23, 480, 41⟩) ⟨480, 12, 480, 41⟩)] [] ⟨479, 8, 480, 41⟩), (Stmt.If (Expr.Compare (Expr.Name (Str.ofString "instream") ⟨481, 11, 481, 19⟩) [CmpOp.IsNot] [(Expr.Constant Const.none 0 ⟨481, 27, 481, 31⟩)] ⟨481, 11, 481, 31⟩) [(Stmt.Assign [(Expr.Attribute (Expr.Name (Str.ofString "self") ⟨482, 12, 482, 16⟩) (Str.ofString "instream") ⟨482, 12, 482, 25⟩)] (Expr.Name (Str.ofString "instream") ⟨482, 28, 482, 36⟩) ⟨482, 12, 482, 36⟩), (Stmt.Assign [(Expr.Attribute (Expr.Name (Str.ofString "self") ⟨483, 12, 483, 16⟩) (Str.ofString "infile") ⟨483, 12, 483, 23⟩)] (Expr.Name (Str.ofString "infile") ⟨483, 26, 483, 32⟩) ⟨483, 12, 483, 32⟩)] [(Stmt.Assign [(Expr.Attribute (Expr.Name (Str.ofString "self") ⟨485, 12, 485, 16⟩) (Str.ofString "instream") ⟨485, 12, 485, 25⟩)] (Expr.Call (Expr.Name (Str.ofString "_wall") ⟨485, 28, 485, 33⟩) [(Expr.Constant (Const.int 34) 0 ⟨485, 34, 485, 36⟩)] [] ⟨485, 28, 485, 37⟩) ⟨485, 12, 485, 37⟩), (Stmt.Assign [(Expr.Attribute (Expr.Name (Str.ofString "self") ⟨486, 12, 486, 16⟩) (Str.ofString "infile") ⟨486, 12, 486, 23⟩)] (Expr.Constant Const.none 0 ⟨486, 26, 486, 30⟩) ⟨486, 12, 486, 30⟩)] ⟨481, 8, 486, 30⟩), (Stmt.Assign [(Expr.Attribute (Expr.Name (Str.ofString "self") ⟨487, 8, 487, 12⟩) (Str.ofString "posix") ⟨487, 8, 487, 18⟩)] (Expr.Name (Str.ofString "posix") ⟨487, 21, 487, 26⟩) ⟨487, 8, 487, 26⟩), (Stmt.If (Expr.Name (Str.ofString "posix") ⟨488, 11, 488, 16⟩) [(Stmt.Assign [(Expr.Attribute (Expr.Name (Str.ofString "self") ⟨489, 12, 489, 16⟩) (Str.ofString "eof") ⟨489, 12, 489, 20⟩)] (Expr.Constant Const.none 0 ⟨489, 23, 489, 27⟩) ⟨489, 12, 489, 27⟩)] [(Stmt.Assign [(Expr.Attribute (Expr.Name (Str.ofString "self") ⟨491, 12, 491, 16⟩) (Str.ofString "eof") ⟨491, 12, 491, 20⟩)] (Expr.Constant (Const.str (Str.ofString "")) 0 ⟨491, 23, 491, 25⟩) ⟨491, 12, 491, 25⟩)] ⟨488, 8, 491, 25⟩), (Stmt.Assign [(Expr.Attribute (Expr.Name (Str.ofString "self") ⟨492, 8, 492, 12⟩) (Str.ofString "commenters") ⟨492, 8, 492, 23⟩)] (Expr.Constant (Const.str (Str.ofString "#")) 0 ⟨492, 26, 492, 29⟩) ⟨492, 8, 492, 29⟩), (Stmt.Assign [(Expr.Attribute (Expr.Name (Str.ofString "self") ⟨493, 8, 493, 12⟩) (Str.ofString "wordchars") ⟨493, 8, 493, 22⟩)] (Expr.Constant (Const.str (Str.ofString "abcdfeghijklmnopqrstuvwxyzABCDEFGHIJKLMNOPQRSTUVWXYZ0123456789_")) 0 ⟨493, 25, 493, 90⟩) ⟨493, 8, 493, 90⟩), (Stmt.If (Expr.Attribute (Expr.Name (Str.ofString "self") ⟨494, 11, 494, 15⟩) (Str.ofString "posix") ⟨494, 11, 494, 21⟩) [(Stmt.AugAssign (Expr.Attribute (Expr.Name (Str.ofString "self") ⟨495, 12, 495, 16⟩) (Str.ofString "wordchars") ⟨495, 12, 495, 26⟩) Operator.Add (Expr.Constant (Const.str (Str.ofString "ßàáâãäåæçèéêëìíîïðñòóôõöøùúûüýþÿÀÁÂÃÄÅÆÇÈÉÊËÌÍÎÏÐÑÒÓÔÕÖØÙÚÛÜÝÞ")) 0 ⟨495, 30, 495, 156⟩) ⟨495, 12, 495, 156⟩)] [] ⟨494, 8, 495, 156⟩), (Stmt.Assign [(Expr.Attribute (Expr.Name (Str.ofString "self") ⟨496, 8, 496, 12⟩) (Str.ofString "whitespace") ⟨496, 8, 496, 23⟩)] (Expr.Constant (Const.str (Str.ofString " \t\x0d\n")) 0 ⟨496, 26, 496, 35⟩) ⟨496, 8, 496, 35⟩), (Stmt.Assign [(Expr.Attribute (Expr.Name (Str.ofString "self") ⟨497, 8, 497, 12⟩) (Str.ofString "whitespace_split") ⟨497, 8, 497, 29⟩)] (Expr.Constant (Const.bool false) 0 ⟨497, 32, 497, 37⟩) ⟨497, 8, 497, 37⟩), (Stmt.Assign [(Expr.Attribute (Expr.Name (Str.ofString "self") ⟨498, 8, 498, 12⟩) (Str.ofString "quotes") ⟨498, 8, 498, 19⟩)] (Expr.Constant (Const.str (Str.ofString "'\"")) 0 ⟨498, 22, 498, 27⟩) ⟨498, 8, 498, 27⟩), (Stmt.Assign [(Expr.Attribute (Expr.Name (Str.ofString "self") ⟨499, 8, 499, 12⟩) (Str.ofString "escape") ⟨499, 8, 499, 19⟩)] (Expr.Constant (Const.str (Str.ofString "\\")) 0 ⟨499, 22, 499, 26⟩) ⟨499, 8, 499, 26⟩), (Stmt.Assign [(Expr.Attribute (Expr.Name (Str.ofString "self") ⟨500, 8, 500, 12⟩) (Str.ofString "escapedquotes") ⟨500, 8, 500, 26⟩)] (Expr.Constant (Const.str (Str.ofString "\"")) 0 ⟨500, 29, 500, 32⟩) ⟨500, 8, 500, 32⟩), (Stmt.Assign [(Expr.Attribute (Expr.Name (Str.ofString "self") ⟨501, 8, 501, 12⟩) (Str.ofString "state") ⟨501, 8, 501, 18⟩)] (Expr.Constant (Const.str (Str.ofString " ")) 0 ⟨501, 21, 501, 24⟩) ⟨501, 8, 501, 24⟩), (Stmt.Assign [(Expr.Attribute (Expr.Name (Str.ofString "self") ⟨502, 8, 502, 12⟩) (Str.ofString "pushback") ⟨502, 8, 502, 21⟩)] (Expr.Call (Expr.Name (Str.ofString "deque") ⟨502, 24, 502, 29⟩) [] [] ⟨502, 24, 502, 31⟩) ⟨502, 8, 502, 31⟩), (Stmt.Assign [(Expr.Attribute (Expr.Name (Str.ofString "self") ⟨503, 8, 503, 12⟩) (Str.ofString "lineno") ⟨503, 8, 503, 19⟩)] (Expr.Constant (Const.int 1) 0 ⟨503, 22, 503, 23⟩) ⟨503, 8, 503, 23⟩), (Stmt.Assign [(Expr.Attribute (Expr.Name (Str.ofString "self") ⟨504, 8, 504, 12⟩) (Str.ofString "debug") ⟨504, 8, 504, 18⟩)] (Expr.Constant (Const.int 0) 0 ⟨504, 21, 504, 22⟩) ⟨504, 8, 504, 22⟩), (Stmt.Assign [(Expr.Attribute (Expr.Name (Str.ofString "self") ⟨505, 8, 505, 12⟩) (Str.ofString "token") ⟨505, 8, 505, 18⟩)] (Expr.Constant (Const.str (Str.ofString "")) 0 ⟨505, 21, 505, 23⟩) ⟨505, 8, 505, 23⟩), (Stmt.Assign [(Expr.Attribute (Expr.Name (Str.ofString "self") ⟨506, 8, 506, 12⟩) (Str.ofString "filestack") ⟨506, 8, 506, 22⟩)] (Expr.Call (Expr.Name (Str.ofString "deque") ⟨506, 25, 506, 30⟩) [] [] ⟨506, 25, 506, 32⟩) ⟨506, 8, 506, 32⟩), (Stmt.Assign [(Expr.Attribute (Expr.Name (Str.ofString "self") ⟨507, 8, 507, 12⟩) (Str.ofString "source") ⟨507, 8, 507, 19⟩)] (Expr.Constant Const.none 0 ⟨507, 22, 507, 26⟩) ⟨507, 8, 507, 26⟩), (Stmt.If (Expr.UnaryOp UnaryOp.Not (Expr.Name (Str.ofString "punctuation_chars") ⟨508, 15, 508, 32⟩) ⟨508, 11, 508, 32⟩) [(Stmt.Assign [(Expr.Name (Str.ofString "punctuation_chars") ⟨509, 12, 509, 29⟩)] (Expr.Constant (Const.str (Str.ofString "")) 0 ⟨509, 32, 509, 34⟩) ⟨509, 12, 509, 34⟩)] [(Stmt.If (Expr.Compare (Expr.Name (Str.ofString "punctuation_chars") ⟨510, 13, 510, 30⟩) [CmpOp.Is] [(Expr.Constant (Const.bool true) 0 ⟨510, 34, 510, 38⟩)] ⟨510, 13, 510, 38⟩) [(Stmt.Assign [(Expr.Name (Str.ofString "punctuation_chars") ⟨511, 12, 511, 29⟩)] (Expr.Constant (Const.str (Str.ofString "();<>|&")) 0 ⟨511, 32, 511, 41⟩) ⟨511, 12, 511, 41⟩)] [] ⟨510, 8, 511, 41⟩)] ⟨508, 8, 511, 41⟩), (Stmt.Assign [(Expr.Attribute (Expr.Name (Str.ofString "self") ⟨512, 8, 512, 12⟩) (Str.ofString "_punctuation_chars") ⟨512, 8, 512, 31⟩)] (Expr.Name (Str.ofString "punctuation_chars") ⟨512, 34, 512, 51⟩) ⟨512, 8, 512, 51⟩), (Stmt.If (Expr.Name (Str.ofString "punctuation_chars") ⟨513, 11, 513, 28⟩) [(Stmt.Assign [(Expr.Attribute (Expr.Name (Str.ofString "self") ⟨514, 12, 514, 16⟩) (Str.ofString "_pushback_chars") ⟨514, 12, 514, 32⟩)] (Expr.Call (Expr.Name (Str.ofString "deque") ⟨514, 35, 514, 40⟩) [] [] ⟨514, 35, 514, 42⟩) ⟨514, 12, 514, 42⟩), (Stmt.AugAssign (Expr.Attribute (Expr.Name (Str.ofString "self") ⟨515, 12, 515, 16⟩) (Str.ofString "wordchars") ⟨515, 12, 515, 26⟩) Operator.Add (Expr.Constant (Const.str (Str.ofString "~-./*?=")) 0 ⟨515, 30, 515, 39⟩) ⟨515, 12, 515, 39⟩), (Stmt.Assign [(Expr.Name (Str.ofString "t") ⟨516, 12, 516, 13⟩)] (Expr.Call (Expr.Attribute (Expr.Attribute (Expr.Name (Str.ofString "self") ⟨516, 16, 516, 20⟩) (Str.ofString "wordchars") ⟨516, 16, 516, 30⟩) (Str.ofString "maketrans") ⟨516, 16, 516, 40⟩) [(Expr.Call (Expr.Attribute (Expr.Name (Str.ofString "dict") ⟨516, 41, 516, 45⟩) (Str.ofString "fromkeys") ⟨516, 41, 516, 54⟩) [(Expr.Name (Str.ofString "punctuation_chars") ⟨516, 55, 516, 72⟩)] [] ⟨516, 41, 516, 73⟩)] [] ⟨516, 16, 516, 74⟩) ⟨516, 12, 516, 74⟩), (Stmt.Assign [(Expr.Attribute (Expr.Name (Str.ofString "self") ⟨517, 12, 517, 16⟩) (Str.ofString "wordchars") ⟨517, 12, 517, 26⟩)] (Expr.Call (Expr.Attribute (Expr.Attribute (Expr.Name (Str.ofString "self") ⟨517, 29, 517, 33⟩) (Str.ofString "wordchars") ⟨517, 29, 517, 43⟩) (Str.ofString "translate") ⟨517, 29, 517, 53⟩) [(Expr.Name (Str.ofString "t") ⟨517, 54, 517, 55⟩)] [] ⟨517, 29, 517, 56⟩) ⟨517, 12, 517, 56⟩)] [] ⟨513, 8, 517, 56⟩)]), ⟨ScopeKind.function, [⟨(Str.ofString "self"), NameKind.local⟩, ⟨(Str.ofString "instream"), NameKind.local⟩, ⟨(Str.ofString "infile"), NameKind.local⟩, ⟨(Str.ofString "posix"), NameKind.local⟩, ⟨(Str.ofString "punctuation_chars"), NameKind.local⟩, ⟨(Str.ofString "t"), NameKind.local⟩, ⟨(Str.ofString "isinstance"), NameKind.globalImplicit⟩, ⟨(Str.ofString "str"), NameKind.globalImplicit⟩, ⟨(Str.ofString "StringIO"), NameKind.globalImplicit⟩, ⟨(Str.ofString "_wall"), NameKind.globalImplicit⟩, ⟨(Str.ofString "deque"), NameKind.globalImplicit⟩, ⟨(Str.ofString "dict"), NameKind.globalImplicit⟩], false, false, []⟩, 3, [], (.ref 646), .none, .none, (.str (Str.ofString "cpy313.shlex") 1011), none, (.ref 652), .none, 0⟩), (List.toArray [])⟩) ::
 (nat_lit 659, ⟨(.type "code"), none, (Data.fields (List.toArray [(.str (Str.ofString "punctuation_chars") 1037), (.str (Str.ofString "shlex.punctuation_chars") 1038), (.str (Str.ofString "/claim/cut.py") 1039), (.int 519 0), (.int 1 0), (.int 0 0), (.int 0 0), (.int 3 0), (.ref 654), (.bool true), (.int 273 0), (.ref 655), .none, (.ref 656), (.ref 657), (.ref 658), (.int 1041 0), (.int 519 0), (.str (Str.ofString "/claim/cut.py") 1042)])), (List.toArray [])⟩) ::
 (nat_lit 660, ⟨(.type "function"), none, (Data.func ⟨(Str.ofString "punctuation_chars"), (Str.ofString "shlex.punctuation_chars"), ⟨[], [⟨(Str.ofString "self"), none, ⟨520, 26, 520, 30⟩⟩], none, [], [], none, []⟩, (FuncBody.stmts [(Stmt.Return (some (Expr.Attribute (Expr.Name (Str.ofString "self") ⟨521, 15, 521, 19⟩) (Str.ofString "_punctuation_chars") ⟨521, 15, 521, 38⟩)) ⟨521, 8, 521, 38⟩)]), ⟨ScopeKind.function, [⟨(Str.ofString "self"), NameKind.local⟩], false, false, []⟩, 3, [], .none, .none, .none, (.str (Str.ofString "cpy313.shlex") 1011), none, (.ref 659), .none, 0⟩), (List.toArray [])⟩) ::
 (nat_lit 661, ⟨(.type "property"), none, (Data.fields (List.toArray [(.ref 660), .none, .none, .none, (.str (Str.ofString "punctuation_chars") 1044), (.bool false)])), (List.toArray [])⟩) ::
 (nat_lit 689, ⟨(.type "code"), none, (Data.fields (List.toArray [(.str (Str.ofString "get_token") 1069), (.str (Str.ofString "shlex.get_token") 1070), (.str (Str.ofString "/claim/cut.py") 1071), (.int 546 0), (.int 1 0), (.int 0 0), (.int 0 0), (.int 3 0), (.ref 684), (.bool true), (.int 273 0), (.ref 685), .none, (.ref 686), (.ref 687), (.ref 688), (.int 1078 0), (.int 546 0), (.str (Str.ofString "/claim/cut.py") 1079)])), (List.toArray [])⟩) ::
 (nat_lit 690, ⟨(.type "function"), none, (Data.func ⟨(Str.ofString "get_token"), (Str.ofString "shlex.get_token"), ⟨[], [⟨(Str.ofString "self"), none, ⟨546, 18, 546, 22⟩⟩], none, [], [], none, []⟩, (FuncBody.stmts [(Stmt.If (Expr.Attribute (Expr.Name (Str.ofString "self") ⟨547, 11, 547, 15⟩) (Str.ofString "pushback") ⟨547, 11, 547, 24⟩) [(Stmt.Assign [(Expr.Name (Str.ofString "tok") ⟨548, 12, 548, 15⟩)] (Expr.Call (Expr.Attribute (Expr.Attribute (Expr.Name (Str.ofString "self") ⟨548, 18, 548, 22⟩) (Str.ofString "pushback") ⟨548, 18, 548, 31⟩) (Str.ofString "popleft") ⟨548, 18, 548, 39⟩) [] [] ⟨548, 18, 548, 41⟩) ⟨548, 12, 548, 41⟩), (Stmt.If (Expr.Compare (Expr.Attribute (Expr.Name (Str.ofString "self") ⟨549, 15, 549, 19⟩) (Str.ofString "debug") ⟨549, 15, 549, 25⟩) [CmpOp.GtE] [(Expr.Constant (Const.int 1) 0 ⟨549, 29, 549, 30⟩)] ⟨549, 15, 549, 30⟩) [(Stmt.Expr (Expr.Call (Expr.Name (Str.ofString "print") ⟨550, 16, 550, 21⟩) [(Expr.BinOp (Expr.Constant (Const.str (Str.ofString "shlex: popping token ")) 0 ⟨550, 22, 550, 45⟩) Operator.Add (Expr.Call (Expr.Name (Str.ofString "repr") ⟨550, 48, 550, 52⟩) [(Expr.Name (Str.ofString "tok") ⟨550, 53, 550, 56⟩)] [] ⟨550, 48, 550, 57⟩) ⟨550, 22, 550, 57⟩)] [] ⟨550, 16, 550, 58⟩) ⟨550, 16, 550, 58⟩)] [] ⟨549, 12, 550, 58⟩), (Stmt.Return (some (Expr.Name (Str.ofString "tok") ⟨551, 19, 551, 22⟩)) ⟨551, 12, 551, 22⟩)] [] ⟨547, 8, 551, 22⟩), (Stmt.Assign [(Expr.Name (Str.ofString "raw") ⟨552, 8, 552, 11⟩)] (Expr.Call (Expr.Attribute (Expr.Name (Str.ofString "self") ⟨552, 14, 552, 18⟩) (Str.ofString "read_token") ⟨552, 14, 552, 29⟩) [] [] ⟨552, 14, 552, 31⟩) ⟨552, 8, 552, 31⟩), (Stmt.If (Expr.Compare (Expr.Attribute (Expr.Name (Str.ofString "self") ⟨553, 11, 553, 15⟩) (Str.ofString "source") ⟨553, 11, 553, 22⟩) [CmpOp.IsNot] [(Expr.Constant Const.none 0 ⟨553, 30, 553, 34⟩)] ⟨553, 11, 553, 34⟩) [(Stmt.While (Expr.Compare (Expr.Name (Str.ofString "raw") ⟨554, 18, 554, 21⟩) [CmpOp.Eq] [(Expr.Attribute (Expr.Name (Str.ofString "self") ⟨554, 25, 554, 29⟩) (Str.ofString "source") ⟨554, 25, 554, 36⟩)] ⟨554, 18, 554, 36⟩) [(Stmt.Assign [(Expr.Name (Str.ofString "spec") ⟨555, 16, 555, 20⟩)] (Expr.Call (Expr.Attribute (Expr.Name (Str.ofString "self") ⟨555, 23, 555, 27⟩) (Str.ofString "sourcehook") ⟨555, 23, 555, 38⟩) [(Expr.Call (Expr.Attribute (Expr.Name (Str.ofString "self") ⟨555, 39, 555, 43⟩) (Str.ofString "read_token") ⟨555, 39, 555, 54⟩) [] [] ⟨555, 39, 555, 56⟩)] [] ⟨555, 23, 555, 57⟩) ⟨555, 16, 555, 57⟩), (Stmt.If (Expr.Name (Str.ofString "spec") ⟨556, 19, 556, 23⟩) [(Stmt.Assign [(Expr.Tuple [(Expr.Name (Str.ofString "newfile") ⟨557, 20, 557, 27⟩), (Expr.Name (Str.ofString "newstream") ⟨557, 29, 557, 38⟩)] 0 ⟨557, 20, 557, 38⟩)] (Expr.Name (Str.ofString "spec") ⟨557, 41, 557, 45⟩) ⟨557, 20, 557, 45⟩), (Stmt.Expr (Expr.Call (Expr.Attribute (Expr.Name (Str.ofString "self") ⟨558, 20, 558, 24⟩) (Str.ofString "push_source") ⟨558, 20, 558, 36⟩) [(Expr.Name (Str.ofString "newstream") ⟨558, 37, 558, 46⟩), (Expr.Name (Str.ofString "newfile") ⟨558, 48, 558, 55⟩)] [] ⟨558, 20, 558, 56⟩) ⟨558, 20, 558, 56⟩)] [] ⟨556, 16, 558, 56⟩), (Stmt.Assign [(Expr.Name (Str.ofString "raw") ⟨559, 16, 559, 19⟩)] (Expr.Call (Expr.Attribute (Expr.Name (Str.ofString "self") ⟨559, 22, 559, 26⟩) (Str.ofString "get_token") ⟨559, 22, 559, 36⟩) [] [] ⟨559, 22, 559, 38⟩) ⟨559, 16, 559, 38⟩)] [] ⟨554, 12, 559, 38⟩)] [] ⟨553, 8, 559, 38⟩), (Stmt.While (Expr.Compare (Expr.Name (Str.ofString "raw") ⟨560, 14, 560, 17⟩) [CmpOp.Eq] [(Expr.Attribute (Expr.Name (Str.ofString "self") ⟨560, 21, 560, 25⟩) (Str.ofString "eof") ⟨560, 21, 560, 29⟩)] ⟨560, 14, 560, 29⟩) [(Stmt.If (Expr.UnaryOp UnaryOp.Not (Expr.Attribute (Expr.Name (Str.ofString "self") ⟨561, 19, 561, 23⟩) (Str.ofString "filestack") ⟨561, 19, 561, 33⟩) ⟨561, 15, 561, 33⟩) [(Stmt.Return (some (Expr.Attribute (Expr.Name (Str.ofString "self") ⟨562, 23, 562, 27⟩) (Str.ofString "eof") ⟨562, 23, 562, 31⟩)) ⟨562, 16, 562, 31⟩)] [(Stmt.Expr (Expr.Call (Expr.Attribute (Expr.Name (Str.ofString "self") ⟨564, 16, 564, 20⟩) (Str.ofString "pop_source") ⟨564, 16, 564, 31⟩) [] [] ⟨564, 16, 564, 33⟩) ⟨564, 16, 564, 33⟩), (Stmt.Assign [(Expr.Name (Str.ofString "raw") ⟨565, 16, 565, 19⟩)] (Expr.Call (Expr.Attribute (Expr.Name (Str.ofString "self") ⟨565, 22, 565, 26⟩) (Str.ofString "get_token") ⟨565, 22, 565, 36⟩) [] [] ⟨565, 22, 565, 38⟩) ⟨565, 16, 565, 38⟩)] ⟨561, 12, 565, 38⟩)] [] ⟨560, 8, 565, 38⟩), (Stmt.If (Expr.Compare (Expr.Attribute (Expr.Name (Str.ofString "self") ⟨566, 11, 566, 15⟩) (Str.ofString "debug") ⟨566, 11, 566, 21⟩) [CmpOp.GtE] [(Expr.Constant (Const.int 1) 0 ⟨566, 25, 566, 26⟩)] ⟨566, 11, 566, 26⟩) [(Stmt.If (Expr.Compare (Expr.Name (Str.ofString "raw") ⟨567, 15, 567, 18⟩) [CmpOp.NotEq] [(Expr.Attribute (Expr.Name (Str.ofString "self") ⟨567, 22, 567, 26⟩) (Str.ofString "eof") ⟨567, 22, 567, 30⟩)] ⟨567, 15, 567, 30⟩) [(Stmt.Expr (Expr.Call (Expr.Name (Str.ofString "print") ⟨568, 16, 568, 21⟩) [(Expr.BinOp (Expr.Constant (Const.str (Str.ofString "shlex: token=")) 0 ⟨568, 22, 568, 37⟩) Operator.Add (Expr.Call (Expr.Name (Str.ofString "repr") ⟨568, 40, 568, 44⟩) [(Expr.Name (Str.ofString "raw") ⟨568, 45, 568, 48⟩)] [] ⟨568, 40, 568, 49⟩) ⟨568, 22, 568, 49⟩)] [] ⟨568, 16, 568, 50⟩) ⟨568, 16, 568, 50⟩)] [(Stmt.Expr (Expr.Call (Expr.Name (Str.ofString "print") ⟨570, 16, 570, 21⟩) [(Expr.Constant (Const.str (Str.ofString "shlex: token=EOF")) 0 ⟨570, 22, 570, 40⟩)] [] ⟨570, 16, 570, 41⟩) ⟨570, 16, 570, 41⟩)] ⟨567, 12, 570, 41⟩)] [] ⟨566, 8, 570, 41⟩), (Stmt.Return (some (Expr.Name (Str.ofString "raw") ⟨571, 15, 571, 18⟩)) ⟨571, 8, 571, 18⟩)]), ⟨ScopeKind.function, [⟨(Str.ofString "self"), NameKind.local⟩, ⟨(Str.ofString "tok"), NameKind.local⟩, ⟨(Str.ofString "raw"), NameKind.local⟩, ⟨(Str.ofString "spec"), NameKind.local⟩, ⟨(Str.ofString "newfile"), NameKind.local⟩, ⟨(Str.ofString "newstream"), NameKind.local⟩, ⟨(Str.ofString "print"), NameKind.globalImplicit⟩, ⟨(Str.ofString "repr"), NameKind.globalImplicit⟩], false, false, []⟩, 3, [], .none, .none, .none, (.str (Str.ofString "cpy313.shlex") 1011), none, (.ref 689), .none, 0⟩), (List.toArray [])⟩) ::
 (nat_lit 696, ⟨(.type "code"), none, (Data.fields (List.toArray [(.str (Str.ofString "read_token") 1081), (.str (Str.ofString "shlex.read_token") 1082), (.str (Str.ofString "/claim/cut.py") 1083), (.int 573 0), (.int 1 0), (.int 0 0), (.int 0 0), (.int 3 0), (.ref 691), (.bool true), (.int 273 0), (.ref 692), .none, (.ref 693), (.ref 694), (.ref 695), (.int 1089 0), (.int 573 0), (.str (Str.ofString "/claim/cut.py") 1090)])), (List.toArray [])⟩) ::
 (nat_lit 697, ⟨(.type "function"), none, (Data.func ⟨(Str.ofString "read_token"), (Str.ofString "shlex.read_token"), ⟨[], [⟨(Str.ofString "self"), none, ⟨573, 19, 573, 23⟩⟩], none, [], [], none, []⟩, (FuncBody.stmts [(Stmt.Assign [(Expr.Name (Str.ofString "quoted") ⟨574, 8, 574, 14⟩)] (Expr.Constant (Const.bool false) 0 ⟨574, 17, 574, 22⟩) ⟨574, 8, 574, 22⟩), (Stmt.Assign [(Expr.Name (Str.ofString "escapedstate") ⟨575, 8, 575, 20⟩)] (Expr.Constant (Const.str (Str.ofString " ")) 0 ⟨575, 23, 575, 26⟩) ⟨575, 8, 575, 26⟩), (Stmt.While (Expr.Constant (Const.bool true) 0 ⟨576, 14, 576, 18⟩) [(Stmt.If (Expr.BoolOp BoolOp.And [(Expr.Attribute (Expr.Name (Str.ofString "self") ⟨577, 15, 577, 19⟩) (Str.ofString "punctuation_chars") ⟨577, 15, 577, 37⟩), (Expr.Attribute (Expr.Name (Str.ofString "self") ⟨577, 42, 577, 46⟩) (Str.ofString "_pushback_chars") ⟨577, 42, 577, 62⟩)] ⟨577, 15, 577, 62⟩) [(Stmt.Assign [(Expr.Name (Str.ofString "nextchar") ⟨578, 16, 578, 24⟩)] (Expr.Call (Expr.Attribute (Expr.Attribute (Expr.Name (Str.ofString "self") ⟨578, 27, 578, 31⟩) (Str.ofString "_pushback_chars") ⟨578, 27, 578, 47⟩) (Str.ofString "pop") ⟨578, 27, 578, 51⟩) [] [] ⟨578, 27, 578, 53⟩) ⟨578, 16, 578, 53⟩)] [(Stmt.Assign [(Expr.Name (Str.ofString "nextchar") ⟨580, 16, 580, 24⟩)] (Expr.Call (Expr.Attribute (Expr.Attribute (Expr.Name (Str.ofString "self") ⟨580, 27, 580, 31⟩) (Str.ofString "instream") ⟨580, 27, 580, 40⟩) (Str.ofString "read") ⟨580, 27, 580, 45⟩) [(Expr.Constant (Const.int 1) 0 ⟨580, 46, 580, 47⟩)] [] ⟨580, 27, 580, 48⟩) ⟨580, 16, 580, 48⟩)] ⟨577, 12, 580, 48⟩), (Stmt.If (Expr.Compare (Expr.Name (Str.ofString "nextchar") ⟨581, 15, 581, 23⟩) [CmpOp.Eq] [(Expr.Constant (Const.str (Str.ofString "\n")) 0 ⟨581, 27, 581, 31⟩)] ⟨581, 15, 581, 31⟩) [(Stmt.AugAssign (Expr.Attribute (Expr.Name (Str.ofString "self") ⟨582, 16, 582, 20⟩) (Str.ofString "lineno") ⟨582, 16, 582, 27⟩) Operator.Add (Expr.Constant (Const.int 1) 0 ⟨582, 31, 582, 32⟩) ⟨582, 16, 582, 32⟩)] [] ⟨581, 12, 582, 32⟩), (Stmt.If (Expr.Compare (Expr.Attribute (Expr.Name (Str.ofString "self") ⟨583, 15, 583, 19⟩) (Str.ofString "debug") ⟨583, 15, 583, 25⟩) [CmpOp.GtE] [(Expr.Constant (Const.int 3) 0 ⟨583, 29, 583, 30⟩)] ⟨583, 15, 583, 30⟩) [(Stmt.Expr (Expr.Call (Expr.Name (Str.ofString "print") ⟨584, 16, 584, 21⟩) [(Expr.JoinedStr [(Expr.Constant (Const.str (Str.ofString "shlex: in state ")) 0 ⟨584, 22, 584, 62⟩), (Expr.FormattedValue (Expr.Attribute (Expr.Name (Str.ofString "self") ⟨584, 66, 584, 70⟩) (Str.ofString "state") ⟨584, 66, 584, 76⟩) 114 none ⟨584, 66, 584, 76⟩), (Expr.Constant (Const.str (Str.ofString " I see character: ")) 0 ⟨584, 22, 584, 62⟩), (Expr.FormattedValue (Expr.Name (Str.ofString "nextchar") ⟨584, 78, 584, 86⟩) 114 none ⟨584, 78, 584, 86⟩)] ⟨584, 22, 584, 87⟩)] [] ⟨584, 16, 584, 88⟩) ⟨584, 16, 584, 88⟩)] [] ⟨583, 12, 584, 88⟩), (Stmt.If (Expr.Compare (Expr.Attribute (Expr.Name (Str.ofString "self") ⟨585, 15, 585, 19⟩) (Str.ofString "state") ⟨585, 15, 585, 25⟩) [CmpOp.Is] [(Expr.Constant Const.none 0 ⟨585, 29, 585, 33⟩)] ⟨585, 15, 585, 33⟩) [(Stmt.Assign [(Expr.Attribute (Expr.Name (Str.ofString "self") ⟨586, 16, 586, 20⟩) (Str.ofString "token") ⟨586, 16, 586, 26⟩)] (Expr.Constant (Const.str (Str.ofString "")) 0 ⟨586, 29, 586, 31⟩) ⟨586, 16, 586, 31⟩), (Stmt.Break ⟨587, 16, 587, 21⟩)] [(Stmt.If (Expr.Compare (Expr.Attribute (Expr.Name (Str.ofString "self") ⟨588, 17, 588, 21⟩) (Str.ofString "state") ⟨588, 17, 588, 27⟩) [CmpOp.Eq] [(Expr.Constant (Const.str (Str.ofString " ")) 0 ⟨588, 31, 588, 34⟩)] ⟨588, 17, 588, 34⟩) [(Stmt.If (Expr.UnaryOp UnaryOp.Not (Expr.Name (Str.ofString "nextchar") ⟨589, 23, 589, 31⟩) ⟨589, 19, 589, 31⟩) [(Stmt.Assign [(Expr.Attribute (Expr.Name (Str.ofString "self") ⟨590, 20, 590, 24⟩) (Str.ofString "state") ⟨590, 20, 590, 30⟩)] (Expr.Constant Const.none 0 ⟨590, 33, 590, 37⟩) ⟨590, 20, 590, 37⟩), (Stmt.Break ⟨591, 20, 591, 25⟩)] [(Stmt.If (Expr.Compare (Expr.Name (Str.ofString "nextchar") ⟨592, 21, 592, 29⟩) [CmpOp.In] [(Expr.Attribute (Expr.Name (Str.ofString "self") ⟨592, 33, 592, 37⟩) (Str.ofString "whitespace") ⟨592, 33, 592, 48⟩)] ⟨592, 21, 592, 48⟩) [(Stmt.If (Expr.Compare (Expr.Attribute (Expr.Name (Str.ofString "self") ⟨593, 23, 593, 27⟩) (Str.ofString "debug") ⟨593, 23, 593, 33⟩) [CmpOp.GtE] [(Expr.Constant (Const.int 2) 0 ⟨593, 37, 593, 38⟩)] ⟨593, 23, 593, 38⟩) [(Stmt.Expr (Expr.Call (Expr.Name (Str.ofString "print") ⟨594, 24, 594, 29⟩) [(Expr.Constant (Const.str (Str.ofString "shlex: I see whitespace in whitespace state")) 0 ⟨594, 30, 594, 75⟩)] [] ⟨594, 24, 594, 76⟩) ⟨594, 24, 594, 76⟩)] [] ⟨593, 20, 594, 76⟩), (Stmt.If (Expr.BoolOp BoolOp.Or [(Expr.Attribute (Expr.Name (Str.ofString "self") ⟨595, 23, 595, 27⟩) (Str.ofString "token") ⟨595, 23, 595, 33⟩), (Expr.BoolOp BoolOp.And [(Expr.Attribute (Expr.Name (Str.ofString "self") ⟨595, 38, 595, 42⟩) (Str.ofString "posix") ⟨595, 38, 595, 48⟩), (Expr.Name (Str.ofString "quoted") ⟨595, 53, 595, 59⟩)] ⟨595, 38, 595, 59⟩)] ⟨595, 23, 595, 60⟩) [(Stmt.Break ⟨596, 24, 596, 29⟩)] [(Stmt.Continue ⟨598, 24, 598, 32⟩)] ⟨595, 20, 598, 32⟩)] [(Stmt.If (Expr.Compare (Expr.Name (Str.ofString "nextchar") ⟨599, 21, 599, 29⟩) [CmpOp.In] [(Expr.Attribute (Expr.Name (Str.ofString "self") ⟨599, 33, 599, 37⟩) (Str.ofString "commenters") ⟨599, 33, 599, 48⟩)] ⟨599, 21, 599, 48⟩) [(Stmt.Expr (Expr.Call (Expr.Attribute (Expr.Attribute (Expr.Name (Str.ofString "self") ⟨600, 20, 600, 24⟩) (Str.ofString "instream") ⟨600, 20, 600, 33⟩) (Str.ofString "readline") ⟨600, 20, 600, 42⟩) [] [] ⟨600, 20, 600, 44⟩) ⟨600, 20, 600, 44⟩), (Stmt.AugAssign (Expr.Attribute (Expr.Name (Str.ofString "self") ⟨601, 20, 601, 24⟩) (Str.ofString "lineno") ⟨601, 20, 601, 31⟩) Operator.Add (Expr.Constant (Const.int 1) 0 ⟨601, 35, 601, 36⟩) ⟨601, 20, 601, 36⟩)] [(Stmt.If (Expr.BoolOp BoolOp.And [(Expr.Attribute (Expr.Name (Str.ofString "self") ⟨602, 21, 602, 25⟩) (Str.ofString "posix") ⟨602, 21, 602, 31⟩), (Expr.Compare (Expr.Name (Str.ofString "nextchar") ⟨602, 36, 602, 44⟩) [CmpOp.In] [(Expr.Attribute (Expr.Name (Str.ofString "self") ⟨602, 48, 602, 52⟩) (Str.ofString "escape") ⟨602, 48, 602, 59⟩)] ⟨602, 36, 602, 59⟩)] ⟨602, 21, 602, 59⟩) [(Stmt.Assign [(Expr.Name (Str.ofString "escapedstate") ⟨603, 20, 603, 32⟩)] (Expr.Constant (Const.str (Str.ofString "a")) 0 ⟨603, 35, 603, 38⟩) ⟨603, 20, 603, 38⟩), (Stmt.Assign [(Expr.Attribute (Expr.Name (Str.ofString "self") ⟨604, 20, 604, 24⟩) (Str.ofString "state") ⟨604, 20, 604, 30⟩)] (Expr.Name (Str.ofString "nextchar") ⟨604, 33, 604, 41⟩) ⟨604, 20, 604, 41⟩)] [(Stmt.If (Expr.Compare (Expr.Name (Str.ofString "nextchar") ⟨605, 21, 605, 29⟩) [CmpOp.In] [(Expr.Attribute (Expr.Name (Str.ofString "self") ⟨605, 33, 605, 37⟩) (Str.ofString "wordchars") ⟨605, 33, 605, 47⟩)] ⟨605, 21, 605, 47⟩) [(Stmt.Assign [(Expr.Attribute (Expr.Name (Str.ofString "self") ⟨606, 20, 606, 24⟩) (Str.ofString "token") ⟨606, 20, 606, 30⟩)] (Expr.Name (Str.ofString "nextchar") ⟨606, 33, 606, 41⟩) ⟨606, 20, 606, 41⟩), (Stmt.Assign [(Expr.Attribute (Expr.Name (Str.ofString "self") ⟨607, 20, 607, 24⟩) (Str.ofString "state") ⟨607, 20, 607, 30⟩)] (Expr.Constant (Const.str (Str.ofString "a")) 0 ⟨607, 33, 607, 36⟩) ⟨607, 20, 607, 36⟩)] [(Stmt.If (Expr.Compare (Expr.Name (Str.ofString "nextchar") ⟨608, 21, 608, 29⟩) [CmpOp.In] [(Expr.Attribute (Expr.Name (Str.ofString "self") ⟨608, 33, 608, 37⟩) (Str.ofString "punctuation_chars") ⟨608, 33, 608, 55⟩)] ⟨608, 21, 608, 55⟩) [(Stmt.Assign [(Expr.Attribute (Expr.Name (Str.ofString "self") ⟨609, 20, 609, 24⟩) (Str.ofString "token") ⟨609, 20, 609, 30⟩)] (Expr.Name (Str.ofString "nextchar") ⟨609, 33, 609, 41⟩) ⟨609, 20, 609, 41⟩), (Stmt.Assign [(Expr.Attribute (Expr.Name (Str.ofString "self") ⟨610, 20, 610, 24⟩) (Str.ofString "state") ⟨610, 20, 610, 30⟩)] (Expr.Constant (Const.str (Str.ofString "c")) 0 ⟨610, 33, 610, 36⟩) ⟨610, 20, 610, 36⟩)] [(Stmt.If (Expr.Compare (Expr.Name (Str.ofString "nextchar") ⟨611, 21, 611, 29⟩) [CmpOp.In] [(Expr.Attribute (Expr.Name (Str.ofString "self") ⟨611, 33, 611, 37⟩) (Str.ofString "quotes") ⟨611, 33, 611, 44⟩)] ⟨611, 21, 611, 44⟩) [(Stmt.If (Expr.UnaryOp UnaryOp.Not (Expr.Attribute (Expr.Name (Str.ofString "self") ⟨612, 27, 612, 31⟩) (Str.ofString "posix") ⟨612, 27, 612, 37⟩) ⟨612, 23, 612, 37⟩) [(Stmt.Assign [(Expr.Attribute (Expr.Name (Str.ofString "self") ⟨613, 24, 613, 28⟩) (Str.ofString "token") ⟨613, 24, 613, 34⟩)] (Expr.Name (Str.ofString "nextchar") ⟨613, 37, 613, 45⟩) ⟨613, 24, 613, 45⟩)] [] ⟨612, 20, 613, 45⟩), (Stmt.Assign [(Expr.Attribute (Expr.Name (Str.ofString "self") ⟨614, 20, 614, 24⟩) (Str.ofString "state") ⟨614, 20, 614, 30⟩)] (Expr.Name (Str.ofString "nextchar") ⟨614, 33, 614, 41⟩) ⟨614, 20, 614, 41⟩)] [(Stmt.If (Expr.Attribute (Expr.Name (Str.ofString "self") ⟨615, 21, 615, 25⟩) (Str.ofString "whitespace_split") ⟨615, 21, 615, 42⟩) [(Stmt.Assign [(Expr.Attribute (Expr.Name (Str.ofString "self") ⟨616, 20, 616, 24⟩) (Str.ofString "token") ⟨616, 20, 616, 30⟩)] (Expr.Name (Str.ofString "nextchar") ⟨616, 33, 616, 41⟩) ⟨616, 20, 616, 41⟩), (Stmt.Assign [(Expr.Attribute (Expr.Name (Str.ofString "self") ⟨617, 20, 617, 24⟩) (Str.ofString "state") ⟨617, 20, 617, 30⟩)] (Expr.Constant (Const.str (Str.ofString "a")) 0 ⟨617, 33, 617, 36⟩) ⟨617, 20, 617, 36⟩)] [(Stmt.Assign [(Expr.Attribute (Expr.Name (Str.ofString "self") ⟨619, 20, 619, 24⟩) (Str.ofString "token") ⟨619, 20, 619, 30⟩)] (Expr.Name (Str.ofString "nextchar") ⟨619, 33, 619, 41⟩) ⟨619, 20, 619, 41⟩), (Stmt.If (Expr.BoolOp BoolOp.Or [(Expr.Attribute (Expr.Name (Str.ofString "self") ⟨620, 23, 620, 27⟩) (Str.ofString "token") ⟨620, 23, 620, 33⟩), (Expr.BoolOp BoolOp.And [(Expr.Attribute (Expr.Name (Str.ofString "self") ⟨620, 38, 620, 42⟩) (Str.ofString "posix") ⟨620, 38, 620, 48⟩), (Expr.Name (Str.ofString "quoted") ⟨620, 53, 620, 59⟩)] ⟨620, 38, 620, 59⟩)] ⟨620, 23, 620, 60⟩) [(Stmt.Break ⟨621, 24, 621, 29⟩)] [(Stmt.Continue ⟨623, 24, 623, 32⟩)] ⟨620, 20, 623, 32⟩)] ⟨615, 16, 623, 32⟩)] ⟨611, 16, 623, 32⟩)] ⟨608, 16, 623, 32⟩)] ⟨605, 16, 623, 32⟩)] ⟨602, 16, 623, 32⟩)] ⟨599, 16, 623, 32⟩)] ⟨592, 16, 623, 32⟩)] ⟨589, 16, 623, 32⟩)] [(Stmt.If (Expr.Compare (Expr.Attribute (Expr.Name (Str.ofString "self") ⟨624, 17, 624, 21⟩) (Str.ofString "state") ⟨624, 17, 624, 27⟩) [CmpOp.In] [(Expr.Attribute (Expr.Name (Str.ofString "self") ⟨624, 31, 624, 35⟩) (Str.ofString "quotes") ⟨624, 31, 624, 42⟩)] ⟨624, 17, 624, 42⟩) [(Stmt.Assign [(Expr.Name (Str.ofString "quoted") ⟨625, 16, 625, 22⟩)] (Expr.Constant (Const.bool true) 0 ⟨625, 25, 625, 29⟩) ⟨625, 16, 625, 29⟩), (Stmt.If (Expr.UnaryOp UnaryOp.Not (Expr.Name (Str.ofString "nextchar") ⟨626, 23, 626, 31⟩) ⟨626, 19, 626, 31⟩) [(Stmt.If (Expr.Compare (Expr.Attribute (Expr.Name (Str.ofString "self") ⟨627, 23, 627, 27⟩) (Str.ofString "debug") ⟨627, 23, 627, 33⟩) [CmpOp.GtE] [(Expr.Constant (Const.int 2) 0 ⟨627, 37, 627, 38⟩)] ⟨627, 23, 627, 38⟩) [(Stmt.Expr (Expr.Call (Expr.Name (Str.ofString "print") ⟨628, 24, 628, 29⟩) [(Expr.Constant (Const.str (Str.ofString "shlex: I see EOF in quotes state")) 0 ⟨628, 30, 628, 64⟩)] [] ⟨628, 24, 628, 65⟩) ⟨628, 24, 628, 65⟩)] [] ⟨627, 20, 628, 65⟩), (Stmt.Raise (some (Expr.Call (Expr.Name (Str.ofString "ValueError") ⟨629, 26, 629, 36⟩) [(Expr.Constant (Const.str (Str.ofString "No closing quotation")) 0 ⟨629, 37, 629, 59⟩)] [] ⟨629, 26, 629, 60⟩)) none ⟨629, 20, 629, 60⟩)] [] ⟨626, 16, 629, 60⟩), (Stmt.If (Expr.Compare (Expr.Name (Str.ofString "nextchar") ⟨630, 19, 630, 27⟩) [CmpOp.Eq] [(Expr.Attribute (Expr.Name (Str.ofString "self") ⟨630, 31, 630, 35⟩) (Str.ofString "state") ⟨630, 31, 630, 41⟩)] ⟨630, 19, 630, 41⟩) [(Stmt.If (Expr.UnaryOp UnaryOp.Not (Expr.Attribute (Expr.Name (Str.ofString "self") ⟨631, 27, 631, 31⟩) (Str.ofString "posix") ⟨631, 27, 631, 37⟩) ⟨631, 23, 631, 37⟩) [(Stmt.AugAssign (Expr.Attribute (Expr.Name (Str.ofString "self") ⟨632, 24, 632, 28⟩) (Str.ofString "token") ⟨632, 24, 632, 34⟩) Operator.Add (Expr.Name (Str.ofString "nextchar") ⟨632, 38, 632, 46⟩) ⟨632, 24, 632, 46⟩), (Stmt.Assign [(Expr.Attribute (Expr.Name (Str.ofString "self") ⟨633, 24, 633, 28⟩) (Str.ofString "state") ⟨633, 24, 633, 34⟩)] (Expr.Constant (Const.str (Str.ofString " ")) 0 ⟨633, 37, 633, 40⟩) ⟨633, 24, 633, 40⟩), (Stmt.Break ⟨634, 24, 634, 29⟩)] [(Stmt.Assign [(Expr.Attribute (Expr.Name (Str.ofString "self") ⟨636, 24, 636, 28⟩) (Str.ofString "state") ⟨636, 24, 636, 34⟩)] (Expr.Constant (Const.str (Str.ofString "a")) 0 ⟨636, 37, 636, 40⟩) ⟨636, 24, 636, 40⟩)] ⟨631, 20, 636, 40⟩)] [(Stmt.If (Expr.BoolOp BoolOp.And [(Expr.Attribute (Expr.Name (Str.ofString "self") ⟨637, 21, 637, 25⟩) (Str.ofString "posix") ⟨637, 21, 637, 31⟩), (Expr.Compare (Expr.Name (Str.ofString "nextchar") ⟨637, 36, 637, 44⟩) [CmpOp.In] [(Expr.Attribute (Expr.Name (Str.ofString "self") ⟨637, 48, 637, 52⟩) (Str.ofString "escape") ⟨637, 48, 637, 59⟩)] ⟨637, 36, 637, 59⟩), (Expr.Compare (Expr.Attribute (Expr.Name (Str.ofString "self") ⟨637, 65, 637, 69⟩) (Str.ofString "state") ⟨637, 65, 637, 75⟩) [CmpOp.In] [(Expr.Attribute (Expr.Name (Str.ofString "self") ⟨637, 79, 637, 83⟩) (Str.ofString "escapedquotes") ⟨637, 79, 637, 97⟩)] ⟨637, 65, 637, 97⟩)] ⟨637, 21, 637, 98⟩) [(Stmt.Assign [(Expr.Name (Str.ofString "escapedstate") ⟨638, 20, 638, 32⟩)] (Expr.Attribute (Expr.Name (Str.ofString "self") ⟨638, 35, 638, 39⟩) (Str.ofString "state") ⟨638, 35, 638, 45⟩) ⟨638, 20, 638, 45⟩), (Stmt.Assign [(Expr.Attribute (Expr.Name (Str.ofString "self") ⟨639, 20, 639, 24⟩) (Str.ofString "state") ⟨639, 20, 639, 30⟩)] (Expr.Name (Str.ofString "nextchar") ⟨639, 33, 639, 41⟩) ⟨639, 20, 639, 41⟩)] [(Stmt.AugAssign (Expr.Attribute (Expr.Name (Str.ofString "self") ⟨641, 20, 641, 24⟩) (Str.ofString "token") ⟨641, 20, 641, 30⟩) Operator.Add (Expr.Name (Str.ofString "nextchar") ⟨641, 34, 641, 42⟩) ⟨641, 20, 641, 42⟩)] ⟨637, 16, 641, 42⟩)] ⟨630, 16, 641, 42⟩)] [(Stmt.If (Expr.Compare (Expr.Attribute (Expr.Name (Str.ofString "self") ⟨642, 17, 642, 21⟩) (Str.ofString "state") ⟨642, 17, 642, 27⟩) [CmpOp.In] [(Expr.Attribute (Expr.Name (Str.ofString "self") ⟨642, 31, 642, 35⟩) (Str.ofString "escape") ⟨642, 31, 642, 42⟩)] ⟨642, 17, 642, 42⟩) [(Stmt.If (Expr.UnaryOp UnaryOp.Not (Expr.Name (Str.ofString "nextchar") ⟨643, 23, 643, 31⟩) ⟨643, 19, 643, 31⟩) [(Stmt.If (Expr.Compare (Expr.Attribute (Expr.Name (Str.ofString "self") ⟨644, 23, 644, 27⟩) (Str.ofString "debug") ⟨644, 23, 644, 33⟩) [CmpOp.GtE] [(Expr.Constant (Const.int 2) 0 ⟨644, 37, 644, 38⟩)] ⟨644, 23, 644, 38⟩) [(Stmt.Expr (Expr.Call (Expr.Name (Str.ofString "print") ⟨645, 24, 645, 29⟩) [(Expr.Constant (Const.str (Str.ofString "shlex: I see EOF in escape state")) 0 ⟨645, 30, 645, 64⟩)] [] ⟨645, 24, 645, 65⟩) ⟨645, 24, 645, 65⟩)] [] ⟨644, 20, 645, 65⟩), (Stmt.Raise (some (Expr.Call (Expr.Name (Str.ofString "ValueError") ⟨646, 26, 646, 36⟩) [(Expr.Constant (Const.str (Str.ofString "No escaped character")) 0 ⟨646, 37, 646, 59⟩)] [] ⟨646, 26, 646, 60⟩)) none ⟨646, 20, 646, 60⟩)] [] ⟨643, 16, 646, 60⟩), (Stmt.If (Expr.BoolOp BoolOp.And [(Expr.Compare (Expr.Name (Str.ofString "escapedstate") ⟨647, 19, 647, 31⟩) [CmpOp.In] [(Expr.Attribute (Expr.Name (Str.ofString "self") ⟨647, 35, 647, 39⟩) (Str.ofString "quotes") ⟨647, 35, 647, 46⟩)] ⟨647, 19, 647, 46⟩), (Expr.Compare (Expr.Name (Str.ofString "nextchar") ⟨647, 51, 647, 59⟩) [CmpOp.NotEq] [(Expr.Attribute (Expr.Name (Str.ofString "self") ⟨647, 63, 647, 67⟩) (Str.ofString "state") ⟨647, 63, 647, 73⟩)] ⟨647, 51, 647, 73⟩), (Expr.Compare (Expr.Name (Str.ofString "nextchar") ⟨647, 79, 647, 87⟩) [CmpOp.NotEq] [(Expr.Name (Str.ofString "escapedstate") ⟨647, 91, 647, 103⟩)] ⟨647, 79, 647, 103⟩)] ⟨647, 19, 647, 104⟩) [(Stmt.AugAssign (Expr.Attribute (Expr.Name (Str.ofString "self") ⟨648, 20, 648, 24⟩) (Str.ofString "token") ⟨648, 20, 648, 30⟩) Operator.Add (Expr.Attribute (Expr.Name (Str.ofString "self") ⟨648, 34, 648, 38⟩) (Str.ofString "state") ⟨648, 34, 648, 44⟩) ⟨648, 20, 648, 44⟩)] [] ⟨647, 16, 648, 44⟩), (Stmt.AugAssign (Expr.Attribute (Expr.Name (Str.ofString "self") ⟨649, 16, 649, 20⟩) (Str.ofString "token") ⟨649, 16, 649, 26⟩) Operator.Add (Expr.Name (Str.ofString "nextchar") ⟨649, 30, 649, 38⟩) ⟨649, 16, 649, 38⟩), (Stmt.Assign [(Expr.Attribute (Expr.Name (Str.ofString "self") ⟨650, 16, 650, 20⟩) (Str.ofString "state") ⟨650, 16, 650, 26⟩)] (Expr.Name (Str.ofString "escapedstate") ⟨650, 29, 650, 41⟩) ⟨650, 16, 650, 41⟩)] [(Stmt.If (Expr.Compare (Expr.Attribute (Expr.Name (Str.ofString "self") ⟨651, 17, 651, 21⟩) (Str.ofString "state") ⟨651, 17, 651, 27⟩) [CmpOp.In] [(Expr.Tuple [(Expr.Constant (Const.str (Str.ofString "a")) 0 ⟨651, 32, 651, 35⟩), (Expr.Constant (Const.str (Str.ofString "c")) 0 ⟨651, 37, 651, 40⟩)] 0 ⟨651, 31, 651, 41⟩)] ⟨651, 17, 651, 41⟩) [(Stmt.If (Expr.UnaryOp UnaryOp.Not (Expr.Name (Str.ofString "nextchar") ⟨652, 23, 652, 31⟩) ⟨652, 19, 652, 31⟩) [(Stmt.Assign [(Expr.Attribute (Expr.Name (Str.ofString "self") ⟨653, 20, 653, 24⟩) (Str.ofString "state") ⟨653, 20, 653, 30⟩)] (Expr.Constant Const.none 0 ⟨653, 33, 653, 37⟩) ⟨653, 20, 653, 37⟩), (Stmt.Break ⟨654, 20, 654, 25⟩)] [(Stmt.If (Expr.Compare (Expr.Name (Str.ofString "nextchar") ⟨655, 21, 655, 29⟩) [CmpOp.In] [(Expr.Attribute (Expr.Name (Str.ofString "self") ⟨655, 33, 655, 37⟩) (Str.ofString "whitespace") ⟨655, 33, 655, 48⟩)] ⟨655, 21, 655, 48⟩) [(Stmt.If (Expr.Compare (Expr.Attribute (Expr.Name (Str.ofString "self") ⟨656, 23, 656, 27⟩) (Str.ofString "debug") ⟨656, 23, 656, 33⟩) [CmpOp.GtE] [(Expr.Constant (Const.int 2) 0 ⟨656, 37, 656, 38⟩)] ⟨656, 23, 656, 38⟩) [(Stmt.Expr (Expr.Call (Expr.Name (Str.ofString "print") ⟨657, 24, 657, 29⟩) [(Expr.Constant (Const.str (Str.ofString "shlex: I see whitespace in word state")) 0 ⟨657, 30, 657, 69⟩)] [] ⟨657, 24, 657, 70⟩) ⟨657, 24, 657, 70⟩)] [] ⟨656, 20, 657, 70⟩), (Stmt.Assign [(Expr.Attribute (Expr.Name (Str.ofString "self") ⟨658, 20, 658, 24⟩) (Str.ofString "state") ⟨658, 20, 658, 30⟩)] (Expr.Constant (Const.str (Str.ofString " ")) 0 ⟨658, 33, 658, 36⟩) ⟨658, 20, 658, 36⟩), (Stmt.If (Expr.BoolOp BoolOp.Or [(Expr.Attribute (Expr.Name (Str.ofString "self") ⟨659, 23, 659, 27⟩) (Str.ofString "token") ⟨659, 23, 659, 33⟩), (Expr.BoolOp BoolOp.And [(Expr.Attribute (Expr.Name (Str.ofString "self") ⟨659, 38, 659, 42⟩) (Str.ofString "posix") ⟨659, 38, 659, 48⟩), (Expr.Name (Str.ofString "quoted") ⟨659, 53, 659, 59⟩)] ⟨659, 38, 659, 59⟩)] ⟨659, 23, 659, 60⟩) [(Stmt.Break ⟨660, 24, 660, 29⟩)] [(Stmt.Continue ⟨662, 24, 662, 32⟩)] ⟨659, 20, 662, 32⟩)] [(Stmt.If (Expr.Compare (Expr.Name (Str.ofString "nextchar") ⟨663, 21, 663, 29⟩) [CmpOp.In] [(Expr.Attribute (Expr.Name (Str.ofString "self") ⟨663, 33, 663, 37⟩) (Str.ofString "commenters") ⟨663, 33, 663, 48⟩)] ⟨663, 21, 663, 48⟩) [(Stmt.Expr (Expr.Call (Expr.Attribute (Expr.Attribute (Expr.Name (Str.ofString "self") ⟨664, 20, 664, 24⟩) (Str.ofString "instream") ⟨664, 20, 664, 33⟩) (Str.ofString "readline") ⟨664, 20, 664, 42⟩) [] [] ⟨664, 20, 664, 44⟩) ⟨664, 20, 664, 44⟩), (Stmt.AugAssign (Expr.Attribute (Expr.Name (Str.ofString "self") ⟨665, 20, 665, 24⟩) (Str.ofString "lineno") ⟨665, 20, 665, 31⟩) Operator.Add (Expr.Constant (Const.int 1) 0 ⟨665, 35, 665, 36⟩) ⟨665, 20, 665, 36⟩), (Stmt.If (Expr.Attribute (Expr.Name (Str.ofString "self") ⟨666, 23, 666, 27⟩) (Str.ofString "posix") ⟨666, 23, 666, 33⟩) [(Stmt.Assign [(Expr.Attribute (Expr.Name (Str.ofString "self") ⟨667, 24, 667, 28⟩) (Str.ofString "state") ⟨667, 24, 667, 34⟩)] (Expr.Constant (Const.str (Str.ofString " ")) 0 ⟨667, 37, 667, 40⟩) ⟨667, 24, 667, 40⟩), (Stmt.If (Expr.BoolOp BoolOp.Or [(Expr.Attribute (Expr.Name (Str.ofString "self") ⟨668, 27, 668, 31⟩) (Str.ofString "token") ⟨668, 27, 668, 37⟩), (Expr.BoolOp BoolOp.And [(Expr.Attribute (Expr.Name (Str.ofString "self") ⟨668, 42, 668, 46⟩) (Str.ofString "posix") ⟨668, 42, 668, 52⟩), (Expr.Name (Str.ofString "quoted") ⟨668, 57, 668, 63⟩)] ⟨668, 42, 668, 63⟩)] ⟨668, 27, 668, 64⟩) [(Stmt.Break ⟨669, 28, 669, 33⟩)] [(Stmt.Continue ⟨671, 28, 671, 36⟩)] ⟨668, 24, 671, 36⟩)] [] ⟨666, 20, 671, 36⟩)] [(Stmt.If (Expr.Compare (Expr.Attribute (Expr.Name (Str.ofString "self") ⟨672, 21, 672, 25⟩) (Str.ofString "state") ⟨672, 21, 672, 31⟩) [CmpOp.Eq] [(Expr.Constant (Const.str (Str.ofString "c")) 0 ⟨672, 35, 672, 38⟩)] ⟨672, 21, 672, 38⟩) [(Stmt.If (Expr.Compare (Expr.Name (Str.ofString "nextchar") ⟨673, 23, 673, 31⟩) [CmpOp.In] [(Expr.Attribute (Expr.Name (Str.ofString "self") ⟨673, 35, 673, 39⟩) (Str.ofString "punctuation_chars") ⟨673, 35, 673, 57⟩)] ⟨673, 23, 673, 57⟩) [(Stmt.AugAssign (Expr.Attribute (Expr.Name (Str.ofString "self") ⟨674, 24, 674, 28⟩) (Str.ofString "token") ⟨674, 24, 674, 34⟩) Operator.Add (Expr.Name (Str.ofString "nextchar") ⟨674, 38, 674, 46⟩) ⟨674, 24, 674, 46⟩)] [(Stmt.If (Expr.Compare (Expr.Name (Str.ofString "nextchar") ⟨676, 27, 676, 35⟩) [CmpOp.NotIn] [(Expr.Attribute (Expr.Name (Str.ofString "self") ⟨676, 43, 676, 47⟩) (Str.ofString "whitespace") ⟨676, 43, 676, 58⟩)] ⟨676, 27, 676, 58⟩) [(Stmt.Expr (Expr.Call (Expr.Attribute (Expr.Attribute (Expr.Name (Str.ofString "self") ⟨677, 28, 677, 32⟩) (Str.ofString "_pushback_chars") ⟨677, 28, 677, 48⟩) (Str.ofString "append") ⟨677, 28, 677, 55⟩) [(Expr.Name (Str.ofString "nextchar") ⟨677, 56, 677, 64⟩)] [] ⟨677, 28, 677, 65⟩) ⟨677, 28, 677, 65⟩)] [] ⟨676, 24, 677, 65⟩), (Stmt.Assign [(Expr.Attribute (Expr.Name (Str.ofString "self") ⟨678, 24, 678, 28⟩) (Str.ofString "state") ⟨678, 24, 678, 34⟩)] (Expr.Constant (Const.str (Str.ofString " ")) 0 ⟨678, 37, 678, 40⟩) ⟨678, 24, 678, 40⟩), (Stmt.Break ⟨679, 24, 679, 29⟩)] ⟨673, 20, 679, 29⟩)] [(Stmt.If (Expr.BoolOp BoolOp.And [(Expr.Attribute (Expr.Name (Str.ofString "self") ⟨680, 21, 680, 25⟩) (Str.ofString "posix") ⟨680, 21, 680, 31⟩), (Expr.Compare (Expr.Name (Str.ofString "nextchar") ⟨680, 36, 680, 44⟩) [CmpOp.In] [(Expr.Attribute (Expr.Name (Str.ofString "self") ⟨680, 48, 680, 52⟩) (Str.ofString "quotes") ⟨680, 48, 680, 59⟩)] ⟨680, 36, 680, 59⟩)] ⟨680, 21, 680, 59⟩) [(Stmt.Assign [(Expr.Attribute (Expr.Name (Str.ofString "self") ⟨681, 20, 681, 24⟩) (Str.ofString "state") ⟨681, 20, 681, 30⟩)] (Expr.Name (Str.ofString "nextchar") ⟨681, 33, 681, 41⟩) ⟨681, 20, 681, 41⟩)] [(Stmt.If (Expr.BoolOp BoolOp.And [(Expr.Attribute (Expr.Name (Str.ofString "self") ⟨682, 21, 682, 25⟩) (Str.ofString "posix") ⟨682, 21, 682, 31⟩), (Expr.Compare (Expr.Name (Str.ofString "nextchar") ⟨682, 36, 682, 44⟩) [CmpOp.In] [(Expr.Attribute (Expr.Name (Str.ofString "self") ⟨682, 48, 682, 52⟩) (Str.ofString "escape") ⟨682, 48, 682, 59⟩)] ⟨682, 36, 682, 59⟩)] ⟨682, 21, 682, 59⟩) [(Stmt.Assign [(Expr.Name (Str.ofString "escapedstate") ⟨683, 20, 683, 32⟩)] (Expr.Constant (Const.str (Str.ofString "a")) 0 ⟨683, 35, 683, 38⟩) ⟨683, 20, 683, 38⟩), (Stmt.Assign [(Expr.Attribute (Expr.Name (Str.ofString "self") ⟨684, 20, 684, 24⟩) (Str.ofString "state") ⟨684, 20, 684, 30⟩)] (Expr.Name (Str.ofString "nextchar") ⟨684, 33, 684, 41⟩) ⟨684, 20, 684, 41⟩)] [(Stmt.If (Expr.BoolOp BoolOp.Or [(Expr.Compare (Expr.Name (Str.ofString "nextchar") ⟨685, 21, 685, 29⟩) [CmpOp.In] [(Expr.Attribute (Expr.Name (Str.ofString "self") ⟨685, 33, 685, 37⟩) (Str.ofString "wordchars") ⟨685, 33, 685, 47⟩)] ⟨685, 21, 685, 47⟩), (Expr.Compare (Expr.Name (Str.ofString "nextchar") ⟨685, 51, 685, 59⟩) [CmpOp.In] [(Expr.Attribute (Expr.Name (Str.ofString "self") ⟨685, 63, 685, 67⟩) (Str.ofString "quotes") ⟨685, 63, 685, 74⟩)] ⟨685, 51, 685, 74⟩), (Expr.BoolOp BoolOp.And [(Expr.Attribute (Expr.Name (Str.ofString "self") ⟨685, 79, 685, 83⟩) (Str.ofString "whitespace_split") ⟨685, 79, 685, 100⟩), (Expr.Compare (Expr.Name (Str.ofString "nextchar") ⟨685, 105, 685, 113⟩) [CmpOp.NotIn] [(Expr.Attribute (Expr.Name (Str.ofString "self") ⟨685, 121, 685, 125⟩) (Str.ofString "punctuation_chars") ⟨685, 121, 685, 143⟩)] ⟨685, 105, 685, 143⟩)] ⟨685, 79, 685, 143⟩)] ⟨685, 21, 685, 144⟩) [(Stmt.AugAssign (Expr.Attribute (Expr.Name (Str.ofString "self") ⟨686, 20, 686, 24⟩) (Str.ofString "token") ⟨686, 20, 686, 30⟩) Operator.Add (Expr.Name (Str.ofString "nextchar") ⟨686, 34, 686, 42⟩) ⟨686, 20, 686, 42⟩)] [(Stmt.If (Expr.Attribute (Expr.Name (Str.ofString "self") ⟨688, 23, 688, 27⟩) (Str.ofString "punctuation_chars") ⟨688, 23, 688, 45⟩) [(Stmt.Expr (Expr.Call (Expr.Attribute (Expr.Attribute (Expr.Name (Str.ofString "self") ⟨689, 24, 689, 28⟩) (Str.ofString "_pushback_chars") ⟨689, 24, 689, 44⟩) (Str.ofString "append") ⟨689, 24, 689, 51⟩) [(Expr.Name (Str.ofString "nextchar") ⟨689, 52, 689, 60⟩)] [] ⟨689, 24, 689, 61⟩) ⟨689, 24, 689, 61⟩)] [(Stmt.Expr (Expr.Call (Expr.Attribute (Expr.Attribute (Expr.Name (Str.ofString "self") ⟨691, 24, 691, 28⟩) (Str.ofString "pushback") ⟨691, 24, 691, 37⟩) (Str.ofString "appendleft") ⟨691, 24, 691, 48⟩) [(Expr.Name (Str.ofString "nextchar") ⟨691, 49, 691, 57⟩)] [] ⟨691, 24, 691, 58⟩) ⟨691, 24, 691, 58⟩)] ⟨688, 20, 691, 58⟩), (Stmt.If (Expr.Compare (Expr.Attribute (Expr.Name (Str.ofString "self") ⟨692, 23, 692, 27⟩) (Str.ofString "debug") ⟨692, 23, 692, 33⟩) [CmpOp.GtE] [(Expr.Constant (Const.int 2) 0 ⟨692, 37, 692, 38⟩)] ⟨692, 23, 692, 38⟩) [(Stmt.Expr (Expr.Call (Expr.Name (Str.ofString "print") ⟨693, 24, 693, 29⟩) [(Expr.Constant (Const.str (Str.ofString "shlex: I see punctuation in word state")) 0 ⟨693, 30, 693, 70⟩)] [] ⟨693, 24, 693, 71⟩) ⟨693, 24, 693, 71⟩)] [] ⟨692, 20, 693, 71⟩), (Stmt.Assign [(Expr.Attribute (Expr.Name (Str.ofString "self") ⟨694, 20, 694, 24⟩) (Str.ofString "state") ⟨694, 20, 694, 30⟩)] (Expr.Constant (Const.str (Str.ofString " ")) 0 ⟨694, 33, 694, 36⟩) ⟨694, 20, 694, 36⟩), (Stmt.If (Expr.BoolOp BoolOp.Or [(Expr.Attribute (Expr.Name (Str.ofString "self") ⟨695, 23, 695, 27⟩) (Str.ofString "token") ⟨695, 23, 695, 33⟩), (Expr.BoolOp BoolOp.And [(Expr.Attribute (Expr.Name (Str.ofString "self") ⟨695, 38, 695, 42⟩) (Str.ofString "posix") ⟨695, 38, 695, 48⟩), (Expr.Name (Str.ofString "quoted") ⟨695, 53, 695, 59⟩)] ⟨695, 38, 695, 59⟩)] ⟨695, 23, 695, 60⟩) [(Stmt.Break ⟨696, 24, 696, 29⟩)] [(Stmt.Continue ⟨698, 24, 698, 32⟩)] ⟨695, 20, 698, 32⟩)] ⟨685, 16, 698, 32⟩)] ⟨682, 16, 698, 32⟩)] ⟨680, 16, 698, 32⟩)] ⟨672, 16, 698, 32⟩)] ⟨663, 16, 698, 32⟩)] ⟨655, 16, 698, 32⟩)] ⟨652, 16, 698, 32⟩)] [] ⟨651, 12, 698, 32⟩)] ⟨642, 12, 698, 32⟩)] ⟨624, 12, 698, 32⟩)] ⟨588, 12, 698, 32⟩)] ⟨585, 12, 698, 32⟩)] [] ⟨576, 8, 698, 32⟩), (Stmt.Assign [(Expr.Name (Str.ofString "result") ⟨699, 8, 699, 14⟩)] (Expr.Attribute (Expr.Name (Str.ofString "self") ⟨699, 17, 699, 21⟩) (Str.ofString "token") ⟨699, 17, 699, 27⟩) ⟨699, 8, 699, 27⟩), (Stmt.Assign [(Expr.Attribute (Expr.Name (Str.ofString "self") ⟨700, 8, 700, 12⟩) (Str.ofString "token") ⟨700, 8, 700, 18⟩)] (Expr.Constant (Const.str (Str.ofString "")) 0 ⟨700, 21, 700, 23⟩) ⟨700, 8, 700, 23⟩), (Stmt.If (Expr.BoolOp BoolOp.And [(Expr.Attribute (Expr.Name (Str.ofString "self") ⟨701, 11, 701, 15⟩) (Str.ofString "posix") ⟨701, 11, 701, 21⟩), (Expr.UnaryOp UnaryOp.Not (Expr.Name (Str.ofString "quoted") ⟨701, 31, 701, 37⟩) ⟨701, 27, 701, 37⟩), (Expr.Compare (Expr.Name (Str.ofString "result") ⟨701, 44, 701, 50⟩) [CmpOp.Eq] [(Expr.Constant (Const.str (Str.ofString "")) 0 ⟨701, 54, 701, 56⟩)] ⟨701, 44, 701, 56⟩)] ⟨701, 11, 701, 57⟩) [(Stmt.Assign [(Expr.Name (Str.ofString "result") ⟨702, 12, 702, 18⟩)] (Expr.Constant Const.none 0 ⟨702, 21, 702, 25⟩) ⟨702, 12, 702, 25⟩)] [] ⟨701, 8, 702, 25⟩), (Stmt.If (Expr.Compare (Expr.Attribute (Expr.Name (Str.ofString "self") ⟨703, 11, 703, 15⟩) (Str.ofString "debug") ⟨703, 11, 703, 21⟩) [CmpOp.Gt] [(Expr.Constant (Const.int 1) 0 ⟨703, 24, 703, 25⟩)] ⟨703, 11, 703, 25⟩) [(Stmt.If (Expr.Name (Str.ofString "result") ⟨704, 15, 704, 21⟩) [(Stmt.Expr (Expr.Call (Expr.Name (Str.ofString "print") ⟨705, 16, 705, 21⟩) [(Expr.BinOp (Expr.Constant (Const.str (Str.ofString "shlex: raw token=")) 0 ⟨705, 22, 705, 41⟩) Operator.Add (Expr.Call (Expr.Name (Str.ofString "repr") ⟨705, 44, 705, 48⟩) [(Expr.Name (Str.ofString "result") ⟨705, 49, 705, 55⟩)] [] ⟨705, 44, 705, 56⟩) ⟨705, 22, 705, 56⟩)] [] ⟨705, 16, 705, 57⟩) ⟨705, 16, 705, 57⟩)] [(Stmt.Expr (Expr.Call (Expr.Name (Str.ofString "print") ⟨707, 16, 707, 21⟩) [(Expr.Constant (Const.str (Str.ofString "shlex: raw token=EOF")) 0 ⟨707, 22, 707, 44⟩)] [] ⟨707, 16, 707, 45⟩) ⟨707, 16, 707, 45⟩)] ⟨704, 12, 707, 45⟩)] [] ⟨703, 8, 707, 45⟩), (Stmt.Return (some (Expr.Name (Str.ofString "result") ⟨708, 15, 708, 21⟩)) ⟨708, 8, 708, 21⟩)]), ⟨ScopeKind.function, [⟨(Str.ofString "self"), NameKind.local⟩, ⟨(Str.ofString "quoted"), NameKind.local⟩, ⟨(Str.ofString "escapedstate"), NameKind.local⟩, ⟨(Str.ofString "nextchar"), NameKind.local⟩, ⟨(Str.ofString "result"), NameKind.local⟩, ⟨(Str.ofString "print"), NameKind.globalImplicit⟩, ⟨(Str.ofString "ValueError"), NameKind.globalImplicit⟩, ⟨(Str.ofString "repr"), NameKind.globalImplicit⟩], false, false, []⟩, 3, [], .none, .none, .none, (.str (Str.ofString "cpy313.shlex") 1011), none, (.ref 696), .none, 0⟩), (List.toArray [])⟩) ::
 (nat_lit 718, ⟨(.type "code"), none, (Data.fields (List.toArray [(.str (Str.ofString "__iter__") 1109), (.str (Str.ofString "shlex.__iter__") 1110), (.str (Str.ofString "/claim/cut.py") 1111), (.int 720 0), (.int 1 0), (.int 0 0), (.int 0 0), (.int 3 0), (.ref 713), (.bool true), (.int 273 0), (.ref 714), .none, (.ref 715), (.ref 716), (.ref 717), (.int 1113 0), (.int 720 0), (.str (Str.ofString "/claim/cut.py") 1114)])), (List.toArray [])⟩) ::
 (nat_lit 719, ⟨(.type "function"), none, (Data.func ⟨(Str.ofString "__iter__"), (Str.ofString "shlex.__iter__"), ⟨[], [⟨(Str.ofString "self"), none, ⟨720, 17, 720, 21⟩⟩], none, [], [], none, []⟩, (FuncBody.stmts [(Stmt.Return (some (Expr.Name (Str.ofString "self") ⟨721, 15, 721, 19⟩)) ⟨721, 8, 721, 19⟩)]), ⟨ScopeKind.function, [⟨(Str.ofString "self"), NameKind.local⟩], false, false, []⟩, 3, [], .none, .none, .none, (.str (Str.ofString "cpy313.shlex") 1011), none, (.ref 718), .none, 0⟩), (List.toArray [])⟩) ::
 (nat_lit 725, ⟨(.type "code"), none, (Data.fields (List.toArray [(.str (Str.ofString "__next__") 1116), (.str (Str.ofString "shlex.__next__") 1117), (.str (Str.ofString "/claim/cut.py") 1118), (.int 723 0), (.int 1 0), (.int 0 0), (.int 0 0), (.int 3 0), (.ref 720), (.bool true), (.int 273 0), (.ref 721), .none, (.ref 722), (.ref 723), (.ref 724), (.int 1121 0), (.int 723 0), (.str (Str.ofString "/claim/cut.py") 1122)])), (List.toArray [])⟩) ::
 (nat_lit 726, ⟨(.type "function"), none, (Data.func ⟨(Str.ofString "__next__"), (Str.ofString "shlex.__next__"), ⟨[], [⟨(Str.ofString "self"), none, ⟨723, 17, 723, 21⟩⟩], none, [], [], none, []⟩, (FuncBody.stmts [(Stmt.Assign [(Expr.Name (Str.ofString "token") ⟨724, 8, 724, 13⟩)] (Expr.Call (Expr.Attribute (Expr.Name (Str.ofString "self") ⟨724, 16, 724, 20⟩) (Str.ofString "get_token") ⟨724, 16, 724, 30⟩) [] [] ⟨724, 16, 724, 32⟩) ⟨724, 8, 724, 32⟩), (Stmt.If (Expr.Compare (Expr.Name (Str.ofString "token") ⟨725, 11, 725, 16⟩) [CmpOp.Eq] [(Expr.Attribute (Expr.Name (Str.ofString "self") ⟨725, 20, 725, 24⟩) (Str.ofString "eof") ⟨725, 20, 725, 28⟩)] ⟨725, 11, 725, 28⟩) [(Stmt.Raise (some (Expr.Name (Str.ofString "StopIteration") ⟨726, 18, 726, 31⟩)) none ⟨726, 12, 726, 31⟩)] [] ⟨725, 8, 726, 31⟩), (Stmt.Return (some (Expr.Name (Str.ofString "token") ⟨727, 15, 727, 20⟩)) ⟨727, 8, 727, 20⟩)]), ⟨ScopeKind.function, [⟨(Str.ofString "self"), NameKind.local⟩, ⟨(Str.ofString "token"), NameKind.local⟩, ⟨(Str.ofString "StopIteration"), NameKind.globalImplicit⟩], false, false, []⟩, 3, [], .none, .none, .none, (.str (Str.ofString "cpy313.shlex") 1011), none, (.ref 725), .none, 0⟩), (List.toArray [])⟩) ::
 (nat_lit 728, ⟨(.type "dict"), none, (Data.dict (List.toArray [⟨(PyData.keyHash P (Str.ofString "__module__")), (.str (Str.ofString "__module__") 1020), (.str (Str.ofString "cpy313.shlex") 1011)⟩, ⟨(PyData.keyHash P (Str.ofString "__firstlineno__")), (.str (Str.ofString "__firstlineno__") 1024), (.int 476 1023)⟩, ⟨(PyData.keyHash P (Str.ofString "__init__")), (.str (Str.ofString "__init__") 1036), (.ref 653)⟩, ⟨(PyData.keyHash P (Str.ofString "punctuation_chars")), (.str (Str.ofString "punctuation_chars") 1044), (.ref 661)⟩, ⟨(PyData.keyHash P (Str.ofString "push_token")), (.str (Str.ofString "push_token") 1052), (.ref 668)⟩, ⟨(PyData.keyHash P (Str.ofString "push_source")), (.str (Str.ofString "push_source") 1061), (.ref 676)⟩, ⟨(PyData.keyHash P (Str.ofString "pop_source")), (.str (Str.ofString "pop_source") 1068), (.ref 683)⟩, ⟨(PyData.keyHash P (Str.ofString "get_token")), (.str (Str.ofString "get_token") 1080), (.ref 690)⟩, ⟨(PyData.keyHash P (Str.ofString "read_token")), (.str (Str.ofString "read_token") 1091), (.ref 697)⟩, ⟨(PyData.keyHash P (Str.ofString "sourcehook")), (.str (Str.ofString "sourcehook") 1099), (.ref 704)⟩, ⟨(PyData.keyHash P (Str.ofString "error_leader")), (.str (Str.ofString "error_leader") 1108), (.ref 712)⟩, ⟨(PyData.keyHash P (Str.ofString "__iter__")), (.str (Str.ofString "__iter__") 1115), (.ref 719)⟩, ⟨(PyData.keyHash P (Str.ofString "__next__")), (.str (Str.ofString "__next__") 1123), (.ref 726)⟩, ⟨(PyData.keyHash P (Str.ofString "__static_attributes__")), (.str (Str.ofString "__static_attributes__") 1144), (.ref 727)⟩, ⟨(PyData.keyHash P (Str.ofString "__dict__")), (.str (Str.ofString "__dict__") 1146), (.ref 730)⟩, ⟨(PyData.keyHash P (Str.ofString "__weakref__")), (.str (Str.ofString "__weakref__") 1148), (.ref 731)⟩, ⟨(PyData.keyHash P (Str.ofString "__doc__")), (.str (Str.ofString "__doc__") 1149), .none⟩]) 4), (List.toArray [])⟩) ::
 (nat_lit 729, ⟨(.type "type"), none, (Data.cls ⟨(Str.ofString "shlex"), [(.type "object")], [(.ref 729), (.type "object")], 728, (Str.ofString "shlex"), true, [], [], false, none, false⟩), (List.toArray [none, none, (some (.str (Str.ofString "shlex") 1013)), (some (.str (Str.ofString "shlex") 1021)), (some (.builtin "object.__new__")), (some (.bool true))])⟩) ::
 (nat_lit 730, ⟨(.type "getset_descriptor"), none, (Data.fields (List.toArray [(.str (Str.ofString "__dict__") 1145), (.ref 729), (.builtin "function.__dict__"), (.builtin "function.__dict__#set")])), (List.toArray [])⟩) ::
 (nat_lit 731, ⟨(.type "getset_descriptor"), none, (Data.fields (List.toArray [(.str (Str.ofString "__weakref__") 1147), (.ref 729), (.builtin "ExceptionGroup.__weakref__"), .none])), (List.toArray [])⟩) ::
 (nat_lit 734, ⟨(.type "tuple"), none, (Data.seq (List.toArray [(.bool false), (.bool true)]) 0), (List.toArray [])⟩) ::
 (nat_lit 740, ⟨(.type "code"), none, (Data.fields (List.toArray [(.str (Str.ofString "split") 1152), (.str (Str.ofString "split") 1153), (.str (Str.ofString "/claim/cut.py") 1154), (.int 728 0), (.int 3 0), (.int 0 0), (.int 0 0), (.int 3 0), (.ref 735), (.bool true), (.int 273 0), (.ref 736), .none, (.ref 737), (.ref 738), (.ref 739), (.int 1159 0), (.int 728 0), (.str (Str.ofString "/claim/cut.py") 1160)])), (List.toArray [])⟩) ::
 (nat_lit 741, ⟨(.type "function"), none, (Data.func ⟨(Str.ofString "split"), (Str.ofString "split"), ⟨[], [⟨(Str.ofString "s"), none, ⟨728, 10, 728, 11⟩⟩, ⟨(Str.ofString "comments"), none, ⟨728, 13, 728, 21⟩⟩, ⟨(Str.ofString "posix"), none, ⟨728, 29, 728, 34⟩⟩], none, [], [], none, [(Expr.Constant (Const.bool false) 0 ⟨728, 22, 728, 27⟩), (Expr.Constant (Const.bool true) 0 ⟨728, 35, 728, 39⟩)]⟩, (FuncBody.stmts [(Stmt.If (Expr.Compare (Expr.Name (Str.ofString "s") ⟨729, 7, 729, 8⟩) [CmpOp.Is] [(Expr.Constant Const.none 0 ⟨729, 12, 729, 16⟩)] ⟨729, 7, 729, 16⟩) [(Stmt.Raise (some (Expr.Call (Expr.Name (Str.ofString "ValueError") ⟨730, 14, 730, 24⟩) [(Expr.Constant (Const.str (Str.ofString "s argument must not be None")) 0 ⟨730, 25, 730, 54⟩)] [] ⟨730, 14, 730, 55⟩)) none ⟨730, 8, 730, 55⟩)] [] ⟨729, 4, 730, 55⟩), (Stmt.Assign [(Expr.Name (Str.ofString "lex") ⟨731, 4, 731, 7⟩)] (Expr.Call (Expr.Name (Str.ofString "shlex") ⟨731, 10, 731, 15⟩) [(Expr.Name (Str.ofString "s") ⟨731, 16, 731, 17⟩)] [⟨(some (Str.ofString "posix")), (Expr.Name (Str.ofString "posix") ⟨731, 25, 731, 30⟩), ⟨731, 19, 731, 30⟩⟩] ⟨731, 10, 731, 31⟩) ⟨731, 4, 731, 31⟩), (Stmt.Assign [(Expr.Attribute (Expr.Name (Str.ofString "lex") ⟨732, 4, 732, 7⟩) (Str.ofString "whitespace_split") ⟨732, 4, 732, 24⟩)] (Expr.Constant (Const.bool true) 0 ⟨732, 27, 732, 31⟩) ⟨732, 4, 732, 31⟩), (Stmt.If (Expr.UnaryOp UnaryOp.Not (Expr.Name (Str.ofString "comments") ⟨733, 11, 733, 19⟩) ⟨733, 7, 733, 19⟩) [(Stmt.Assign [(Expr.Attribute (Expr.Name (Str.ofString "lex") ⟨734, 8, 734, 11⟩) (Str.ofString "commenters") ⟨734, 8, 734, 22⟩)] (Expr.Constant (Const.str (Str.ofString "")) 0 ⟨734, 25, 734, 27⟩) ⟨734, 8, 734, 27⟩)] [] ⟨733, 4, 734, 27⟩), (Stmt.Return (some (Expr.Call (Expr.Name (Str.ofString "list") ⟨735, 11, 735, 15⟩) [(Expr.Name (Str.ofString "lex") ⟨735, 16, 735, 19⟩)] [] ⟨735, 11, 735, 20⟩)) ⟨735, 4, 735, 20⟩)]), ⟨ScopeKind.function, [⟨(Str.ofString "s"), NameKind.local⟩, ⟨(Str.ofString "comments"), NameKind.local⟩, ⟨(Str.ofString "posix"), NameKind.local⟩, ⟨(Str.ofString "lex"), NameKind.local⟩, ⟨(Str.ofString "ValueError"), NameKind.globalImplicit⟩, ⟨(Str.ofString "shlex"), NameKind.globalImplicit⟩, ⟨(Str.ofString "list"), NameKind.globalImplicit⟩], false, false, []⟩, 3, [], (.ref 734), .none, .none, (.str (Str.ofString "cpy313.shlex") 1011), none, (.ref 740), .none, 0⟩), (List.toArray [])⟩) ::
 (nat_lit 747, ⟨(.type "code"), none, (Data.fields (List.toArray [(.str (Str.ofString "_law_sign") 1164), (.str (Str.ofString "_law_sign") 1165), (.str (Str.ofString "/claim/cut.py") 1166), (.int 737 0), (.int 2 0), (.int 0 0), (.int 0 0), (.int 3 0), (.ref 742), (.bool true), (.int 273 0), (.ref 743), .none, (.ref 744), (.ref 745), (.ref 746), (.int 1170 0), (.int 737 0), (.str (Str.ofString "/claim/cut.py") 1171)])), (List.toArray [])⟩) ::
 (nat_lit 748, ⟨(.type "function"), none, (Data.func ⟨(Str.ofString "_law_sign"), (Str.ofString "_law_sign"), ⟨[], [⟨(Str.ofString "kind"), none, ⟨737, 14, 737, 18⟩⟩, ⟨(Str.ofString "code"), none, ⟨737, 20, 737, 24⟩⟩], none, [], [], none, []⟩, (FuncBody.stmts [(Stmt.If (Expr.Compare (Expr.Name (Str.ofString "kind") ⟨738, 7, 738, 11⟩) [CmpOp.Eq] [(Expr.Constant (Const.int 7) 0 ⟨738, 15, 738, 16⟩)] ⟨738, 7, 738, 16⟩) [(Stmt.Assign [(Expr.Name (Str.ofString "sign") ⟨739, 8, 739, 12⟩)] (Expr.Call (Expr.Name (Str.ofString "chr") ⟨739, 15, 739, 18⟩) [(Expr.IfExp (Expr.Compare (Expr.Name (Str.ofString "code") ⟨739, 27, 739, 31⟩) [CmpOp.Lt] [(Expr.Constant (Const.int 55296) 0 ⟨739, 34, 739, 39⟩)] ⟨739, 27, 739, 39⟩) (Expr.Name (Str.ofString "code") ⟨739, 19, 739, 23⟩) (Expr.BinOp (Expr.Name (Str.ofString "code") ⟨739, 45, 739, 49⟩) Operator.Add (Expr.Constant (Const.int 2048) 0 ⟨739, 52, 739, 56⟩) ⟨739, 45, 739, 56⟩) ⟨739, 19, 739, 56⟩)] [] ⟨739, 15, 739, 57⟩) ⟨739, 8, 739, 57⟩), (Stmt.Return (some (Expr.IfExp (Expr.Compare (Expr.Name (Str.ofString "sign") ⟨740, 22, 740, 26⟩) [CmpOp.In] [(Expr.Constant (Const.str (Str.ofString "\\01")) 0 ⟨740, 30, 740, 36⟩)] ⟨740, 22, 740, 36⟩) (Expr.Constant (Const.str (Str.ofString "a")) 0 ⟨740, 15, 740, 18⟩) (Expr.Name (Str.ofString "sign") ⟨740, 42, 740, 46⟩) ⟨740, 15, 740, 46⟩)) ⟨740, 8, 740, 46⟩)] [] ⟨738, 4, 740, 46⟩), (Stmt.Return (some (Expr.Subscript (Expr.List [(Expr.Constant (Const.str (Str.ofString "'")) 0 ⟨741, 12, 741, 15⟩), (Expr.Constant (Const.str (Str.ofString "\"")) 0 ⟨741, 17, 741, 20⟩), (Expr.Constant (Const.str (Str.ofString "a")) 0 ⟨741, 22, 741, 25⟩), (Expr.Constant (Const.str (Str.ofString " ")) 0 ⟨741, 27, 741, 30⟩), (Expr.Constant (Const.str (Str.ofString "'")) 0 ⟨741, 32, 741, 35⟩), (Expr.Constant (Const.str (Str.ofString "\"")) 0 ⟨741, 37, 741, 40⟩), (Expr.Constant (Const.str (Str.ofString "")) 0 ⟨741, 42, 741, 44⟩)] ⟨741, 11, 741, 45⟩) (Expr.Name (Str.ofString "kind") ⟨741, 46, 741, 50⟩) ⟨741, 11, 741, 51⟩)) ⟨741, 4, 741, 51⟩)]), ⟨ScopeKind.function, [⟨(Str.ofString "kind"), NameKind.local⟩, ⟨(Str.ofString "code"), NameKind.local⟩, ⟨(Str.ofString "sign"), NameKind.local⟩, ⟨(Str.ofString "chr"), NameKind.globalImplicit⟩], false, false, []⟩, 3, [], .none, .none, .none, (.str (Str.ofString "law_mj0242_04") 1162), none, (.ref 747), .none, 0⟩), (List.toArray [])⟩) ::
 (nat_lit 752, ⟨(.type "code"), none, (Data.fields (List.toArray [(.str (Str.ofString "_law_move") 1173), (.str (Str.ofString "_law_move") 1174), (.str (Str.ofString "/claim/cut.py") 1175), (.int 742 0), (.int 3 0), (.int 0 0), (.int 0 0), (.int 3 0), (.ref 749), (.bool true), (.int 273 0), (.ref 750), .none, .none, .none, (.ref 751), (.int 1176 0), (.int 742 0), (.str (Str.ofString "/claim/cut.py") 1177)])), (List.toArray [])⟩) ::
 (nat_lit 753, ⟨(.type "function"), none, (Data.func ⟨(Str.ofString "_law_move"), (Str.ofString "_law_move"), ⟨[], [⟨(Str.ofString "text"), none, ⟨742, 14, 742, 18⟩⟩, ⟨(Str.ofString "single"), none, ⟨742, 20, 742, 26⟩⟩, ⟨(Str.ofString "double"), none, ⟨742, 28, 742, 34⟩⟩], none, [], [], none, []⟩, (FuncBody.stmts [(Stmt.Assign [(Expr.Name (Str.ofString "move") ⟨743, 4, 743, 8⟩)] (Expr.List [(Expr.Constant (Const.int 0) 0 ⟨743, 12, 743, 13⟩), (Expr.Constant (Const.int 1) 0 ⟨743, 15, 743, 16⟩), (Expr.Constant (Const.int 2) 0 ⟨743, 18, 743, 19⟩)] ⟨743, 11, 743, 20⟩) ⟨743, 4, 743, 20⟩), (Stmt.For (Expr.Name (Str.ofString "sign") ⟨744, 8, 744, 12⟩) (Expr.Name (Str.ofString "text") ⟨744, 16, 744, 20⟩) [(Stmt.If (Expr.Compare (Expr.Name (Str.ofString "sign") ⟨745, 11, 745, 15⟩) [CmpOp.In] [(Expr.Constant (Const.str (Str.ofString "'\"")) 0 ⟨745, 19, 745, 24⟩)] ⟨745, 11, 745, 24⟩) [(Stmt.Assign [(Expr.Name (Str.ofString "turn") ⟨746, 12, 746, 16⟩)] (Expr.IfExp (Expr.Compare (Expr.Name (Str.ofString "sign") ⟨746, 29, 746, 33⟩) [CmpOp.Eq] [(Expr.Constant (Const.str (Str.ofString "'")) 0 ⟨746, 37, 746, 40⟩)] ⟨746, 29, 746, 40⟩) (Expr.Name (Str.ofString "single") ⟨746, 19, 746, 25⟩) (Expr.Name (Str.ofString "double") ⟨746, 46, 746, 52⟩) ⟨746, 19, 746, 52⟩) ⟨746, 12, 746, 52⟩), (Stmt.Assign [(Expr.Name (Str.ofString "move") ⟨747, 12, 747, 16⟩)] (Expr.ListComp (Expr.Subscript (Expr.Name (Str.ofString "turn") ⟨747, 20, 747, 24⟩) (Expr.Name (Str.ofString "place") ⟨747, 25, 747, 30⟩) ⟨747, 20, 747, 31⟩) [⟨(Expr.Name (Str.ofString "place") ⟨747, 36, 747, 41⟩), (Expr.Name (Str.ofString "move") ⟨747, 45, 747, 49⟩), [], 0⟩] ⟨ScopeKind.function, [⟨(Str.ofString ".0"), NameKind.local⟩, ⟨(Str.ofString "place"), NameKind.local⟩, ⟨(Str.ofString "turn"), NameKind.free⟩], false, false, []⟩ ⟨747, 19, 747, 50⟩) ⟨747, 12, 747, 50⟩)] [] ⟨745, 8, 747, 50⟩)] [] ⟨744, 4, 747, 50⟩), (Stmt.Return (some (Expr.Name (Str.ofString "move") ⟨748, 11, 748, 15⟩)) ⟨748, 4, 748, 15⟩)]), ⟨ScopeKind.function, [⟨(Str.ofString "text"), NameKind.local⟩, ⟨(Str.ofString "single"), NameKind.local⟩, ⟨(Str.ofString "double"), NameKind.local⟩, ⟨(Str.ofString "move"), NameKind.local⟩, ⟨(Str.ofString "sign"), NameKind.local⟩, ⟨(Str.ofString "turn"), NameKind.cell⟩], false, false, [⟨(Str.ofString "fast"), (Const.str (Str.ofString "text"))⟩, ⟨(Str.ofString "fast"), (Const.str (Str.ofString "single"))⟩, ⟨(Str.ofString "fast"), (Const.str (Str.ofString "double"))⟩, ⟨(Str.ofString "fast"), (Const.str (Str.ofString "move"))⟩, ⟨(Str.ofString "fast"), (Const.str (Str.ofString "sign"))⟩, ⟨(Str.ofString "fast"), (Const.str (Str.ofString "turn"))⟩, ⟨(Str.ofString "fast"), (Const.str (Str.ofString "place"))⟩]⟩, 3, [], .none, .none, .none, (.str (Str.ofString "law_mj0242_04") 1162), none, (.ref 752), .none, 0⟩), (List.toArray [])⟩) ::
 (nat_lit 759, ⟨(.type "code"), none, (Data.fields (List.toArray [(.str (Str.ofString "_law_words") 1179), (.str (Str.ofString "_law_words") 1180), (.str (Str.ofString "/claim/cut.py") 1181), (.int 749 0), (.int 1 0), (.int 0 0), (.int 0 0), (.int 3 0), (.ref 754), (.bool true), (.int 273 0), (.ref 755), .none, (.ref 756), (.ref 757), (.ref 758), (.int 1187 0), (.int 749 0), (.str (Str.ofString "/claim/cut.py") 1188)])), (List.toArray [])⟩) ::
 (nat_lit 760, ⟨(.type "function"), none, (Data.func ⟨(Str.ofString "_law_words"), (Str.ofString "_law_words"), ⟨[], [⟨(Str.ofString "text"), none, ⟨749, 15, 749, 19⟩⟩], none, [], [], none, []⟩, (FuncBody.stmts [(Stmt.Assign [(Expr.Name (Str.ofString "words") ⟨750, 4, 750, 9⟩)] (Expr.List [] ⟨750, 12, 750, 14⟩) ⟨750, 4, 750, 14⟩), (Stmt.Assign [(Expr.Name (Str.ofString "begun") ⟨751, 4, 751, 9⟩)] (Expr.Constant Const.none 0 ⟨751, 12, 751, 16⟩) ⟨751, 4, 751, 16⟩), (Stmt.Assign [(Expr.Name (Str.ofString "place") ⟨752, 4, 752, 9⟩)] (Expr.Constant (Const.str (Str.ofString "")) 0 ⟨752, 12, 752, 14⟩) ⟨752, 4, 752, 14⟩), (Stmt.For (Expr.Name (Str.ofString "sign") ⟨753, 8, 753, 12⟩) (Expr.Name (Str.ofString "text") ⟨753, 16, 753, 20⟩) [(Stmt.If (Expr.BoolOp BoolOp.And [(Expr.Compare (Expr.Name (Str.ofString "place") ⟨754, 11, 754, 16⟩) [CmpOp.NotEq] [(Expr.Constant (Const.str (Str.ofString "")) 0 ⟨754, 20, 754, 22⟩)] ⟨754, 11, 754, 22⟩), (Expr.Compare (Expr.Name (Str.ofString "sign") ⟨754, 27, 754, 31⟩) [CmpOp.NotEq] [(Expr.Name (Str.ofString "place") ⟨754, 35, 754, 40⟩)] ⟨754, 27, 754, 40⟩)] ⟨754, 11, 754, 40⟩) [(Stmt.Assign [(Expr.Name (Str.ofString "begun") ⟨755, 12, 755, 17⟩)] (Expr.BinOp (Expr.Name (Str.ofString "begun") ⟨755, 20, 755, 25⟩) Operator.Add (Expr.Name (Str.ofString "sign") ⟨755, 28, 755, 32⟩) ⟨755, 20, 755, 32⟩) ⟨755, 12, 755, 32⟩)] [(Stmt.If (Expr.Compare (Expr.Name (Str.ofString "place") ⟨756, 13, 756, 18⟩) [CmpOp.NotEq] [(Expr.Constant (Const.str (Str.ofString "")) 0 ⟨756, 22, 756, 24⟩)] ⟨756, 13, 756, 24⟩) [(Stmt.Assign [(Expr.Name (Str.ofString "place") ⟨757, 12, 757, 17⟩)] (Expr.Constant (Const.str (Str.ofString "")) 0 ⟨757, 20, 757, 22⟩) ⟨757, 12, 757, 22⟩)] [(Stmt.If (Expr.Compare (Expr.Name (Str.ofString "sign") ⟨758, 13, 758, 17⟩) [CmpOp.In] [(Expr.Constant (Const.str (Str.ofString " \t\x0d\n")) 0 ⟨758, 21, 758, 30⟩)] ⟨758, 13, 758, 30⟩) [(Stmt.If (Expr.Compare (Expr.Name (Str.ofString "begun") ⟨759, 15, 759, 20⟩) [CmpOp.IsNot] [(Expr.Constant Const.none 0 ⟨759, 28, 759, 32⟩)] ⟨759, 15, 759, 32⟩) [(Stmt.Expr (Expr.Call (Expr.Attribute (Expr.Name (Str.ofString "words") ⟨760, 16, 760, 21⟩) (Str.ofString "append") ⟨760, 16, 760, 28⟩) [(Expr.Name (Str.ofString "begun") ⟨760, 29, 760, 34⟩)] [] ⟨760, 16, 760, 35⟩) ⟨760, 16, 760, 35⟩)] [] ⟨759, 12, 760, 35⟩), (Stmt.Assign [(Expr.Name (Str.ofString "begun") ⟨761, 12, 761, 17⟩)] (Expr.Constant Const.none 0 ⟨761, 20, 761, 24⟩) ⟨761, 12, 761, 24⟩)] [(Stmt.Assign [(Expr.Name (Str.ofString "begun") ⟨763, 12, 763, 17⟩)] (Expr.BinOp (Expr.BoolOp BoolOp.Or [(Expr.Name (Str.ofString "begun") ⟨763, 21, 763, 26⟩), (Expr.Constant (Const.str (Str.ofString "")) 0 ⟨763, 30, 763, 32⟩)] ⟨763, 21, 763, 32⟩) Operator.Add (Expr.IfExp (Expr.Compare (Expr.Name (Str.ofString "sign") ⟨763, 43, 763, 47⟩) [CmpOp.In] [(Expr.Constant (Const.str (Str.ofString "'\"")) 0 ⟨763, 51, 763, 56⟩)] ⟨763, 43, 763, 56⟩) (Expr.Constant (Const.str (Str.ofString "")) 0 ⟨763, 37, 763, 39⟩) (Expr.Name (Str.ofString "sign") ⟨763, 62, 763, 66⟩) ⟨763, 37, 763, 66⟩) ⟨763, 20, 763, 67⟩) ⟨763, 12, 763, 67⟩), (Stmt.Assign [(Expr.Name (Str.ofString "place") ⟨764, 12, 764, 17⟩)] (Expr.IfExp (Expr.Compare (Expr.Name (Str.ofString "sign") ⟨764, 28, 764, 32⟩) [CmpOp.In] [(Expr.Constant (Const.str (Str.ofString "'\"")) 0 ⟨764, 36, 764, 41⟩)] ⟨764, 28, 764, 41⟩) (Expr.Name (Str.ofString "sign") ⟨764, 20, 764, 24⟩) (Expr.Constant (Const.str (Str.ofString "")) 0 ⟨764, 47, 764, 49⟩) ⟨764, 20, 764, 49⟩) ⟨764, 12, 764, 49⟩)] ⟨758, 8, 764, 49⟩)] ⟨756, 8, 764, 49⟩)] ⟨754, 8, 764, 49⟩)] [] ⟨753, 4, 764, 49⟩), (Stmt.Return (some (Expr.IfExp (Expr.Compare (Expr.Name (Str.ofString "begun") ⟨765, 20, 765, 25⟩) [CmpOp.Is] [(Expr.Constant Const.none 0 ⟨765, 29, 765, 33⟩)] ⟨765, 20, 765, 33⟩) (Expr.Name (Str.ofString "words") ⟨765, 11, 765, 16⟩) (Expr.BinOp (Expr.Name (Str.ofString "words") ⟨765, 39, 765, 44⟩) Operator.Add (Expr.List [(Expr.Name (Str.ofString "begun") ⟨765, 48, 765, 53⟩)] ⟨765, 47, 765, 54⟩) ⟨765, 39, 765, 54⟩) ⟨765, 11, 765, 54⟩)) ⟨765, 4, 765, 54⟩)]), ⟨ScopeKind.function, [⟨(Str.ofString "text"), NameKind.local⟩, ⟨(Str.ofString "words"), NameKind.local⟩, ⟨(Str.ofString "begun"), NameKind.local⟩, ⟨(Str.ofString "place"), NameKind.local⟩, ⟨(Str.ofString "sign"), NameKind.local⟩], false, false, []⟩, 3, [], .none, .none, .none, (.str (Str.ofString "law_mj0242_04") 1162), none, (.ref 759), .none, 0⟩), (List.toArray [])⟩) ::
 (nat_lit 766, ⟨(.type "code"), none, (Data.fields (List.toArray [(.str (Str.ofString "_law_told") 1190), (.str (Str.ofString "_law_told") 1191), (.str (Str.ofString "/claim/cut.py") 1192), (.int 766 0), (.int 1 0), (.int 0 0), (.int 0 0), (.int 3 0), (.ref 761), (.bool true), (.int 273 0), (.ref 762), .none, (.ref 763), (.ref 764), (.ref 765), (.int 1195 0), (.int 766 0), (.str (Str.ofString "/claim/cut.py") 1196)])), (List.toArray [])⟩) ::
 (nat_lit 767, ⟨(.type "function"), none, (Data.func ⟨(Str.ofString "_law_told"), (Str.ofString "_law_told"), ⟨[], [⟨(Str.ofString "text"), none, ⟨766, 14, 766, 18⟩⟩], none, [], [], none, []⟩, (FuncBody.stmts [(Stmt.Try [(Stmt.Return (some (Expr.Call (Expr.Name (Str.ofString "split") ⟨768, 15, 768, 20⟩) [(Expr.Name (Str.ofString "text") ⟨768, 21, 768, 25⟩)] [] ⟨768, 15, 768, 26⟩)) ⟨768, 8, 768, 26⟩)] [(ExceptHandler.ExceptHandler (some (Expr.Name (Str.ofString "ValueError") ⟨769, 11, 769, 21⟩)) (some (Str.ofString "fault")) [(Stmt.Return (some (Expr.Call (Expr.Name (Str.ofString "str") ⟨770, 15, 770, 18⟩) [(Expr.Name (Str.ofString "fault") ⟨770, 19, 770, 24⟩)] [] ⟨770, 15, 770, 25⟩)) ⟨770, 8, 770, 25⟩)] ⟨769, 4, 770, 25⟩)] [] [] ⟨767, 4, 770, 25⟩)]), ⟨ScopeKind.function, [⟨(Str.ofString "text"), NameKind.local⟩, ⟨(Str.ofString "fault"), NameKind.local⟩, ⟨(Str.ofString "split"), NameKind.globalImplicit⟩, ⟨(Str.ofString "ValueError"), NameKind.globalImplicit⟩, ⟨(Str.ofString "str"), NameKind.globalImplicit⟩], false, false, []⟩, 3, [], .none, .none, .none, (.str (Str.ofString "law_mj0242_04") 1162), none, (.ref 766), .none, 0⟩), (List.toArray [])⟩) ::
 (nat_lit 773, ⟨(.type "code"), none, (Data.fields (List.toArray [(.str (Str.ofString "_law_holds") 1198), (.str (Str.ofString "_law_holds") 1199), (.str (Str.ofString "/claim/cut.py") 1200), (.int 771 0), (.int 2 0), (.int 0 0), (.int 0 0), (.int 3 0), (.ref 768), (.bool true), (.int 273 0), (.ref 769), .none, (.ref 770), (.ref 771), (.ref 772), (.int 1208 0), (.int 771 0), (.str (Str.ofString "/claim/cut.py") 1209)])), (List.toArray [])⟩) ::
 (nat_lit 774, ⟨(.type "function"), none, (Data.func ⟨(Str.ofString "_law_holds"), (Str.ofString "_law_holds"), ⟨[], [⟨(Str.ofString "text"), none, ⟨771, 15, 771, 19⟩⟩, ⟨(Str.ofString "move"), none, ⟨771, 21, 771, 25⟩⟩], none, [], [], none, []⟩, (FuncBody.stmts [(Stmt.Assign [(Expr.Name (Str.ofString "marks") ⟨772, 4, 772, 9⟩)] (Expr.List [(Expr.Constant (Const.str (Str.ofString "")) 0 ⟨772, 13, 772, 15⟩), (Expr.Constant (Const.str (Str.ofString "'")) 0 ⟨772, 17, 772, 20⟩), (Expr.Constant (Const.str (Str.ofString "\"")) 0 ⟨772, 22, 772, 25⟩)] ⟨772, 12, 772, 26⟩) ⟨772, 4, 772, 26⟩), (Stmt.For (Expr.Name (Str.ofString "place") ⟨773, 8, 773, 13⟩) (Expr.Call (Expr.Name (Str.ofString "range") ⟨773, 17, 773, 22⟩) [(Expr.Constant (Const.int 3) 0 ⟨773, 23, 773, 24⟩)] [] ⟨773, 17, 773, 25⟩) [(Stmt.For (Expr.Name (Str.ofString "end") ⟨774, 12, 774, 15⟩) (Expr.Call (Expr.Name (Str.ofString "range") ⟨774, 19, 774, 24⟩) [(Expr.Constant (Const.int 3) 0 ⟨774, 25, 774, 26⟩)] [] ⟨774, 19, 774, 27⟩) [(Stmt.Assign [(Expr.Name (Str.ofString "whole") ⟨775, 12, 775, 17⟩)] (Expr.BinOp (Expr.BinOp (Expr.Subscript (Expr.Name (Str.ofString "marks") ⟨775, 20, 775, 25⟩) (Expr.Name (Str.ofString "place") ⟨775, 26, 775, 31⟩) ⟨775, 20, 775, 32⟩) Operator.Add (Expr.Name (Str.ofString "text") ⟨775, 35, 775, 39⟩) ⟨775, 20, 775, 39⟩) Operator.Add (Expr.Subscript (Expr.Name (Str.ofString "marks") ⟨775, 42, 775, 47⟩) (Expr.Name (Str.ofString "end") ⟨775, 48, 775, 51⟩) ⟨775, 42, 775, 52⟩) ⟨775, 20, 775, 52⟩) ⟨775, 12, 775, 52⟩), (Stmt.Assign [(Expr.Name (Str.ofString "due") ⟨776, 12, 776, 15⟩)] (Expr.IfExp (Expr.Compare (Expr.Subscript (Expr.Name (Str.ofString "move") ⟨776, 39, 776, 43⟩) (Expr.Name (Str.ofString "place") ⟨776, 44, 776, 49⟩) ⟨776, 39, 776, 50⟩) [CmpOp.Eq] [(Expr.Name (Str.ofString "end") ⟨776, 54, 776, 57⟩)] ⟨776, 39, 776, 57⟩) (Expr.Call (Expr.Name (Str.ofString "_law_words") ⟨776, 18, 776, 28⟩) [(Expr.Name (Str.ofString "whole") ⟨776, 29, 776, 34⟩)] [] ⟨776, 18, 776, 35⟩) (Expr.Constant (Const.str (Str.ofString "No closing quotation")) 0 ⟨776, 63, 776, 85⟩) ⟨776, 18, 776, 85⟩) ⟨776, 12, 776, 85⟩), (Stmt.If (Expr.Compare (Expr.Call (Expr.Name (Str.ofString "_law_told") ⟨777, 15, 777, 24⟩) [(Expr.Name (Str.ofString "whole") ⟨777, 25, 777, 30⟩)] [] ⟨777, 15, 777, 31⟩) [CmpOp.NotEq] [(Expr.Name (Str.ofString "due") ⟨777, 35, 777, 38⟩)] ⟨777, 15, 777, 38⟩) [(Stmt.Return (some (Expr.Constant (Const.bool false) 0 ⟨778, 23, 778, 28⟩)) ⟨778, 16, 778, 28⟩)] [] ⟨777, 12, 778, 28⟩)] [] ⟨774, 8, 778, 28⟩)] [] ⟨773, 4, 778, 28⟩), (Stmt.Return (some (Expr.Constant (Const.bool true) 0 ⟨779, 11, 779, 15⟩)) ⟨779, 4, 779, 15⟩)]), ⟨ScopeKind.function, [⟨(Str.ofString "text"), NameKind.local⟩, ⟨(Str.ofString "move"), NameKind.local⟩, ⟨(Str.ofString "marks"), NameKind.local⟩, ⟨(Str.ofString "place"), NameKind.local⟩, ⟨(Str.ofString "end"), NameKind.local⟩, ⟨(Str.ofString "whole"), NameKind.local⟩, ⟨(Str.ofString "due"), NameKind.local⟩, ⟨(Str.ofString "range"), NameKind.globalImplicit⟩, ⟨(Str.ofString "_law_words"), NameKind.globalImplicit⟩, ⟨(Str.ofString "_law_told"), NameKind.globalImplicit⟩], false, false, []⟩, 3, [], .none, .none, .none, (.str (Str.ofString "law_mj0242_04") 1162), none, (.ref 773), .none, 0⟩), (List.toArray [])⟩) ::
 (nat_lit 778, ⟨(.type "code"), none, (Data.fields (List.toArray [(.str (Str.ofString "law") 1211), (.str (Str.ofString "law") 1212), (.str (Str.ofString "/claim/cut.py") 1213), (.int 780 0), (.int 1 0), (.int 0 0), (.int 0 0), (.int 3 0), (.ref 775), (.bool true), (.int 273 0), (.ref 776), .none, .none, .none, (.ref 777), (.int 1214 0), (.int 780 0), (.str (Str.ofString "/claim/cut.py") 1215)])), (List.toArray [])⟩) ::
 (nat_lit 779, ⟨(.type "function"), none, (Data.func ⟨(Str.ofString "law"), (Str.ofString "law"), ⟨[], [⟨(Str.ofString "script"), none, ⟨780, 8, 780, 14⟩⟩], none, [], [], none, []⟩, (FuncBody.stmts [(Stmt.Assign [(Expr.Name (Str.ofString "drawn") ⟨781, 4, 781, 9⟩)] (Expr.IfExp (Expr.Compare (Expr.Name (Str.ofString "script") ⟨781, 26, 781, 32⟩) [CmpOp.NotEq] [(Expr.List [] ⟨781, 36, 781, 38⟩)] ⟨781, 26, 781, 38⟩) (Expr.Subscript (Expr.Name (Str.ofString "script") ⟨781, 12, 781, 18⟩) (Expr.Slice none (some (Expr.Constant (Const.int 6) 0 ⟨781, 20, 781, 21⟩)) none ⟨781, 19, 781, 21⟩) ⟨781, 12, 781, 22⟩) (Expr.List [(Expr.Constant (Const.int 456) 0 ⟨781, 45, 781, 48⟩), (Expr.Constant (Const.int 26) 0 ⟨781, 50, 781, 52⟩), (Expr.Constant (Const.int 65) 0 ⟨781, 54, 781, 56⟩)] ⟨781, 44, 781, 57⟩) ⟨781, 12, 781, 57⟩) ⟨781, 4, 781, 57⟩), (Stmt.Assign [(Expr.Name (Str.ofString "numbers") ⟨782, 4, 782, 11⟩)] (Expr.ListComp (Expr.BinOp (Expr.Name (Str.ofString "x") ⟨782, 15, 782, 16⟩) Operator.Mod (Expr.Constant (Const.int 569376768) 0 ⟨782, 19, 782, 28⟩) ⟨782, 15, 782, 28⟩) [⟨(Expr.Name (Str.ofString "x") ⟨782, 33, 782, 34⟩), (Expr.Name (Str.ofString "drawn") ⟨782, 38, 782, 43⟩), [], 0⟩] ⟨ScopeKind.function, [⟨(Str.ofString ".0"), NameKind.local⟩, ⟨(Str.ofString "x"), NameKind.local⟩], false, false, []⟩ ⟨782, 14, 782, 44⟩) ⟨782, 4, 782, 44⟩), (Stmt.Assign [(Expr.Name (Str.ofString "first") ⟨783, 4, 783, 9⟩)] (Expr.Call (Expr.Attribute (Expr.Constant (Const.str (Str.ofString "")) 0 ⟨783, 12, 783, 14⟩) (Str.ofString "join") ⟨783, 12, 783, 19⟩) [(Expr.ListComp (Expr.Call (Expr.Name (Str.ofString "_law_sign") ⟨783, 21, 783, 30⟩) [(Expr.BinOp (Expr.Name (Str.ofString "x") ⟨783, 31, 783, 32⟩) Operator.Mod (Expr.Constant (Const.int 8) 0 ⟨783, 35, 783, 36⟩) ⟨783, 31, 783, 36⟩), (Expr.BinOp (Expr.Name (Str.ofString "x") ⟨783, 38, 783, 39⟩) Operator.FloorDiv (Expr.Constant (Const.int 512) 0 ⟨783, 43, 783, 46⟩) ⟨783, 38, 783, 46⟩)] [] ⟨783, 21, 783, 47⟩) [⟨(Expr.Name (Str.ofString "x") ⟨783, 52, 783, 53⟩), (Expr.Name (Str.ofString "numbers") ⟨783, 57, 783, 64⟩), [], 0⟩] ⟨ScopeKind.function, [⟨(Str.ofString ".0"), NameKind.local⟩, ⟨(Str.ofString "x"), NameKind.local⟩, ⟨(Str.ofString "_law_sign"), NameKind.globalImplicit⟩], false, false, []⟩ ⟨783, 20, 783, 65⟩)] [] ⟨783, 12, 783, 66⟩) ⟨783, 4, 783, 66⟩), (Stmt.Assign [(Expr.Name (Str.ofString "second") ⟨784, 4, 784, 10⟩)] (Expr.Call (Expr.Attribute (Expr.Constant (Const.str (Str.ofString "")) 0 ⟨784, 13, 784, 15⟩) (Str.ofString "join") ⟨784, 13, 784, 20⟩) [(Expr.ListComp (Expr.Call (Expr.Name (Str.ofString "_law_sign") ⟨784, 22, 784, 31⟩) [(Expr.BinOp (Expr.BinOp (Expr.Name (Str.ofString "x") ⟨784, 32, 784, 33⟩) Operator.FloorDiv (Expr.Constant (Const.int 8) 0 ⟨784, 37, 784, 38⟩) ⟨784, 32, 784, 38⟩) Operator.Mod (Expr.Constant (Const.int 8) 0 ⟨784, 41, 784, 42⟩) ⟨784, 32, 784, 42⟩), (Expr.BinOp (Expr.Name (Str.ofString "x") ⟨784, 44, 784, 45⟩) Operator.FloorDiv (Expr.Constant (Const.int 512) 0 ⟨784, 49, 784, 52⟩) ⟨784, 44, 784, 52⟩)] [] ⟨784, 22, 784, 53⟩) [⟨(Expr.Name (Str.ofString "x") ⟨784, 58, 784, 59⟩), (Expr.Subscript (Expr.Name (Str.ofString "numbers") ⟨784, 63, 784, 70⟩) (Expr.Slice none (some (Expr.Constant (Const.int 3) 0 ⟨784, 72, 784, 73⟩)) none ⟨784, 71, 784, 73⟩) ⟨784, 63, 784, 74⟩), [], 0⟩] ⟨ScopeKind.function, [⟨(Str.ofString ".0"), NameKind.local⟩, ⟨(Str.ofString "x"), NameKind.local⟩, ⟨(Str.ofString "_law_sign"), NameKind.globalImplicit⟩], false, false, []⟩ ⟨784, 21, 784, 75⟩)] [] ⟨784, 13, 784, 76⟩) ⟨784, 4, 784, 76⟩), (Stmt.Assign [(Expr.Name (Str.ofString "third") ⟨785, 4, 785, 9⟩)] (Expr.Call (Expr.Attribute (Expr.Constant (Const.str (Str.ofString "")) 0 ⟨785, 12, 785, 14⟩) (Str.ofString "join") ⟨785, 12, 785, 19⟩) [(Expr.ListComp (Expr.Call (Expr.Name (Str.ofString "_law_sign") ⟨785, 21, 785, 30⟩) [(Expr.BinOp (Expr.BinOp (Expr.BinOp (Expr.Name (Str.ofString "x") ⟨785, 32, 785, 33⟩) Operator.FloorDiv (Expr.Constant (Const.int 64) 0 ⟨785, 37, 785, 39⟩) ⟨785, 32, 785, 39⟩) Operator.Add (Expr.Constant (Const.int 1) 0 ⟨785, 42, 785, 43⟩) ⟨785, 32, 785, 43⟩) Operator.Mod (Expr.Constant (Const.int 8) 0 ⟨785, 47, 785, 48⟩) ⟨785, 31, 785, 48⟩), (Expr.BinOp (Expr.Name (Str.ofString "x") ⟨785, 50, 785, 51⟩) Operator.FloorDiv (Expr.Constant (Const.int 512) 0 ⟨785, 55, 785, 58⟩) ⟨785, 50, 785, 58⟩)] [] ⟨785, 21, 785, 59⟩) [⟨(Expr.Name (Str.ofString "x") ⟨785, 64, 785, 65⟩), (Expr.Subscript (Expr.Name (Str.ofString "numbers") ⟨785, 69, 785, 76⟩) (Expr.Slice none (some (Expr.Constant (Const.int 3) 0 ⟨785, 78, 785, 79⟩)) none ⟨785, 77, 785, 79⟩) ⟨785, 69, 785, 80⟩), [], 0⟩] ⟨ScopeKind.function, [⟨(Str.ofString ".0"), NameKind.local⟩, ⟨(Str.ofString "x"), NameKind.local⟩, ⟨(Str.ofString "_law_sign"), NameKind.globalImplicit⟩], false, false, []⟩ ⟨785, 20, 785, 81⟩)] [] ⟨785, 12, 785, 82⟩) ⟨785, 4, 785, 82⟩), (Stmt.Assign [(Expr.Name (Str.ofString "fourth") ⟨786, 4, 786, 10⟩)] (Expr.Call (Expr.Attribute (Expr.Constant (Const.str (Str.ofString "")) 0 ⟨786, 13, 786, 15⟩) (Str.ofString "join") ⟨786, 13, 786, 20⟩) [(Expr.ListComp (Expr.IfExp (Expr.Compare (Expr.Name (Str.ofString "sign") ⟨786, 32, 786, 36⟩) [CmpOp.Eq] [(Expr.Constant (Const.str (Str.ofString "'")) 0 ⟨786, 40, 786, 43⟩)] ⟨786, 32, 786, 43⟩) (Expr.Name (Str.ofString "second") ⟨786, 22, 786, 28⟩) (Expr.IfExp (Expr.Compare (Expr.Name (Str.ofString "sign") ⟨786, 58, 786, 62⟩) [CmpOp.Eq] [(Expr.Constant (Const.str (Str.ofString "\"")) 0 ⟨786, 66, 786, 69⟩)] ⟨786, 58, 786, 69⟩) (Expr.Name (Str.ofString "third") ⟨786, 49, 786, 54⟩) (Expr.Name (Str.ofString "sign") ⟨786, 75, 786, 79⟩) ⟨786, 49, 786, 79⟩) ⟨786, 22, 786, 79⟩) [⟨(Expr.Name (Str.ofString "sign") ⟨786, 84, 786, 88⟩), (Expr.Name (Str.ofString "first") ⟨786, 92, 786, 97⟩), [], 0⟩] ⟨ScopeKind.function, [⟨(Str.ofString ".0"), NameKind.local⟩, ⟨(Str.ofString "sign"), NameKind.local⟩, ⟨(Str.ofString "second"), NameKind.free⟩, ⟨(Str.ofString "third"), NameKind.free⟩], false, false, []⟩ ⟨786, 21, 786, 98⟩)] [] ⟨786, 13, 786, 99⟩) ⟨786, 4, 786, 99⟩), (Stmt.If (Expr.Compare (Expr.Call (Expr.Name (Str.ofString "replace") ⟨787, 7, 787, 14⟩) [(Expr.Name (Str.ofString "first") ⟨787, 15, 787, 20⟩), (Expr.Constant (Const.str (Str.ofString "'")) 0 ⟨787, 22, 787, 25⟩), (Expr.Constant (Const.str (Str.ofString "0")) 0 ⟨787, 27, 787, 30⟩), (Expr.Constant (Const.str (Str.ofString "\"")) 0 ⟨787, 32, 787, 35⟩), (Expr.Constant (Const.str (Str.ofString "1")) 0 ⟨787, 37, 787, 40⟩), (Expr.Constant (Const.str (Str.ofString "0")) 0 ⟨787, 42, 787, 45⟩), (Expr.Name (Str.ofString "second") ⟨787, 47, 787, 53⟩), (Expr.Constant (Const.str (Str.ofString "1")) 0 ⟨787, 55, 787, 58⟩), (Expr.Name (Str.ofString "third") ⟨787, 60, 787, 65⟩)] [] ⟨787, 7, 787, 66⟩) [CmpOp.NotEq] [(Expr.Name (Str.ofString "fourth") ⟨787, 70, 787, 76⟩)] ⟨787, 7, 787, 76⟩) [(Stmt.Return (some (Expr.Constant (Const.bool false) 0 ⟨788, 15, 788, 20⟩)) ⟨788, 8, 788, 20⟩)] [] ⟨787, 4, 788, 20⟩), (Stmt.Assign [(Expr.Name (Str.ofString "moves") ⟨789, 4, 789, 9⟩)] (Expr.ListComp (Expr.Call (Expr.Name (Str.ofString "_law_move") ⟨789, 13, 789, 22⟩) [(Expr.Name (Str.ofString "text") ⟨789, 23, 789, 27⟩), (Expr.List [(Expr.Constant (Const.int 1) 0 ⟨789, 30, 789, 31⟩), (Expr.Constant (Const.int 0) 0 ⟨789, 33, 789, 34⟩), (Expr.Constant (Const.int 2) 0 ⟨789, 36, 789, 37⟩)] ⟨789, 29, 789, 38⟩), (Expr.List [(Expr.Constant (Const.int 2) 0 ⟨789, 41, 789, 42⟩), (Expr.Constant (Const.int 1) 0 ⟨789, 44, 789, 45⟩), (Expr.Constant (Const.int 0) 0 ⟨789, 47, 789, 48⟩)] ⟨789, 40, 789, 49⟩)] [] ⟨789, 13, 789, 50⟩) [⟨(Expr.Name (Str.ofString "text") ⟨789, 55, 789, 59⟩), (Expr.List [(Expr.Name (Str.ofString "second") ⟨789, 64, 789, 70⟩), (Expr.Name (Str.ofString "third") ⟨789, 72, 789, 77⟩)] ⟨789, 63, 789, 78⟩), [], 0⟩] ⟨ScopeKind.function, [⟨(Str.ofString ".0"), NameKind.local⟩, ⟨(Str.ofString "text"), NameKind.local⟩, ⟨(Str.ofString "_law_move"), NameKind.globalImplicit⟩], false, false, []⟩ ⟨789, 12, 789, 79⟩) ⟨789, 4, 789, 79⟩), (Stmt.Assign [(Expr.Name (Str.ofString "move") ⟨790, 4, 790, 8⟩)] (Expr.Call (Expr.Name (Str.ofString "_law_move") ⟨790, 11, 790, 20⟩) [(Expr.Name (Str.ofString "first") ⟨790, 21, 790, 26⟩), (Expr.Subscript (Expr.Name (Str.ofString "moves") ⟨790, 28, 790, 33⟩) (Expr.Constant (Const.int 0) 0 ⟨790, 34, 790, 35⟩) ⟨790, 28, 790, 36⟩), (Expr.Subscript (Expr.Name (Str.ofString "moves") ⟨790, 38, 790, 43⟩) (Expr.Constant (Const.int 1) 0 ⟨790, 44, 790, 45⟩) ⟨790, 38, 790, 46⟩)] [] ⟨790, 11, 790, 47⟩) ⟨790, 4, 790, 47⟩), (Stmt.If (Expr.BoolOp BoolOp.Or [(Expr.UnaryOp UnaryOp.Not (Expr.Call (Expr.Name (Str.ofString "_law_holds") ⟨791, 11, 791, 21⟩) [(Expr.Name (Str.ofString "second") ⟨791, 22, 791, 28⟩), (Expr.Subscript (Expr.Name (Str.ofString "moves") ⟨791, 30, 791, 35⟩) (Expr.Constant (Const.int 0) 0 ⟨791, 36, 791, 37⟩) ⟨791, 30, 791, 38⟩)] [] ⟨791, 11, 791, 39⟩) ⟨791, 7, 791, 39⟩), (Expr.UnaryOp UnaryOp.Not (Expr.Call (Expr.Name (Str.ofString "_law_holds") ⟨791, 47, 791, 57⟩) [(Expr.Name (Str.ofString "third") ⟨791, 58, 791, 63⟩), (Expr.Subscript (Expr.Name (Str.ofString "moves") ⟨791, 65, 791, 70⟩) (Expr.Constant (Const.int 1) 0 ⟨791, 71, 791, 72⟩) ⟨791, 65, 791, 73⟩)] [] ⟨791, 47, 791, 74⟩) ⟨791, 43, 791, 74⟩), (Expr.UnaryOp UnaryOp.Not (Expr.Call (Expr.Name (Str.ofString "_law_holds") ⟨791, 83, 791, 93⟩) [(Expr.Name (Str.ofString "fourth") ⟨791, 94, 791, 100⟩), (Expr.Name (Str.ofString "move") ⟨791, 102, 791, 106⟩)] [] ⟨791, 83, 791, 107⟩) ⟨791, 79, 791, 107⟩)] ⟨791, 7, 791, 108⟩) [(Stmt.Return (some (Expr.Constant (Const.bool false) 0 ⟨792, 15, 792, 20⟩)) ⟨792, 8, 792, 20⟩)] [] ⟨791, 4, 792, 20⟩), (Stmt.Assign [(Expr.Name (Str.ofString "turned") ⟨793, 4, 793, 10⟩)] (Expr.Call (Expr.Attribute (Expr.Constant (Const.str (Str.ofString "")) 0 ⟨793, 13, 793, 15⟩) (Str.ofString "join") ⟨793, 13, 793, 20⟩) [(Expr.ListComp (Expr.Subscript (Expr.Name (Str.ofString "fourth") ⟨793, 22, 793, 28⟩) (Expr.BinOp (Expr.BinOp (Expr.Call (Expr.Name (Str.ofString "len") ⟨793, 29, 793, 32⟩) [(Expr.Name (Str.ofString "fourth") ⟨793, 33, 793, 39⟩)] [] ⟨793, 29, 793, 40⟩) Operator.Sub (Expr.Constant (Const.int 1) 0 ⟨793, 43, 793, 44⟩) ⟨793, 29, 793, 44⟩) Operator.Sub (Expr.Name (Str.ofString "k") ⟨793, 47, 793, 48⟩) ⟨793, 29, 793, 48⟩) ⟨793, 22, 793, 49⟩) [⟨(Expr.Name (Str.ofString "k") ⟨793, 54, 793, 55⟩), (Expr.Call (Expr.Name (Str.ofString "range") ⟨793, 59, 793, 64⟩) [(Expr.Call (Expr.Name (Str.ofString "len") ⟨793, 65, 793, 68⟩) [(Expr.Name (Str.ofString "fourth") ⟨793, 69, 793, 75⟩)] [] ⟨793, 65, 793, 76⟩)] [] ⟨793, 59, 793, 77⟩), [], 0⟩] ⟨ScopeKind.function, [⟨(Str.ofString ".0"), NameKind.local⟩, ⟨(Str.ofString "k"), NameKind.local⟩, ⟨(Str.ofString "len"), NameKind.globalImplicit⟩, ⟨(Str.ofString "fourth"), NameKind.free⟩], false, false, []⟩ ⟨793, 21, 793, 78⟩)] [] ⟨793, 13, 793, 79⟩) ⟨793, 4, 793, 79⟩), (Stmt.If (Expr.UnaryOp UnaryOp.Not (Expr.Call (Expr.Name (Str.ofString "_law_holds") ⟨794, 11, 794, 21⟩) [(Expr.Name (Str.ofString "turned") ⟨794, 22, 794, 28⟩), (Expr.ListComp (Expr.Call (Expr.Attribute (Expr.Name (Str.ofString "move") ⟨794, 31, 794, 35⟩) (Str.ofString "index") ⟨794, 31, 794, 41⟩) [(Expr.Name (Str.ofString "place") ⟨794, 42, 794, 47⟩)] [] ⟨794, 31, 794, 48⟩) [⟨(Expr.Name (Str.ofString "place") ⟨794, 53, 794, 58⟩), (Expr.Call (Expr.Name (Str.ofString "range") ⟨794, 62, 794, 67⟩) [(Expr.Constant (Const.int 3) 0 ⟨794, 68, 794, 69⟩)] [] ⟨794, 62, 794, 70⟩), [], 0⟩] ⟨ScopeKind.function, [⟨(Str.ofString ".0"), NameKind.local⟩, ⟨(Str.ofString "place"), NameKind.local⟩, ⟨(Str.ofString "move"), NameKind.free⟩], false, false, []⟩ ⟨794, 30, 794, 71⟩)] [] ⟨794, 11, 794, 72⟩) ⟨794, 7, 794, 72⟩) [(Stmt.Return (some (Expr.Constant (Const.bool false) 0 ⟨795, 15, 795, 20⟩)) ⟨795, 8, 795, 20⟩)] [] ⟨794, 4, 795, 20⟩), (Stmt.Assign [(Expr.Name (Str.ofString "around") ⟨796, 4, 796, 10⟩)] (Expr.ListComp (Expr.BinOp (Expr.BinOp (Expr.Name (Str.ofString "mark") ⟨796, 14, 796, 18⟩) Operator.Add (Expr.BinOp (Expr.Name (Str.ofString "fourth") ⟨796, 21, 796, 27⟩) Operator.Mult (Expr.Constant (Const.int 6) 0 ⟨796, 30, 796, 31⟩) ⟨796, 21, 796, 31⟩) ⟨796, 14, 796, 31⟩) Operator.Add (Expr.Name (Str.ofString "mark") ⟨796, 34, 796, 38⟩) ⟨796, 14, 796, 38⟩) [⟨(Expr.Name (Str.ofString "mark") ⟨796, 43, 796, 47⟩), (Expr.List [(Expr.Constant (Const.str (Str.ofString "")) 0 ⟨796, 52, 796, 54⟩), (Expr.Constant (Const.str (Str.ofString "'")) 0 ⟨796, 56, 796, 59⟩), (Expr.Constant (Const.str (Str.ofString "\"")) 0 ⟨796, 61, 796, 64⟩)] ⟨796, 51, 796, 65⟩), [], 0⟩] ⟨ScopeKind.function, [⟨(Str.ofString ".0"), NameKind.local⟩, ⟨(Str.ofString "mark"), NameKind.local⟩, ⟨(Str.ofString "fourth"), NameKind.free⟩], false, false, []⟩ ⟨796, 13, 796, 66⟩) ⟨796, 4, 796, 66⟩), (Stmt.Return (some (Expr.Compare (Expr.ListComp (Expr.Call (Expr.Name (Str.ofString "_law_told") ⟨797, 12, 797, 21⟩) [(Expr.Name (Str.ofString "whole") ⟨797, 22, 797, 27⟩)] [] ⟨797, 12, 797, 28⟩) [⟨(Expr.Name (Str.ofString "whole") ⟨797, 33, 797, 38⟩), (Expr.Name (Str.ofString "around") ⟨797, 42, 797, 48⟩), [], 0⟩] ⟨ScopeKind.function, [⟨(Str.ofString ".0"), NameKind.local⟩, ⟨(Str.ofString "whole"), NameKind.local⟩, ⟨(Str.ofString "_law_told"), NameKind.globalImplicit⟩], false, false, []⟩ ⟨797, 11, 797, 49⟩) [CmpOp.Eq] [(Expr.ListComp (Expr.Call (Expr.Name (Str.ofString "_law_words") ⟨797, 54, 797, 64⟩) [(Expr.Name (Str.ofString "whole") ⟨797, 65, 797, 70⟩)] [] ⟨797, 54, 797, 71⟩) [⟨(Expr.Name (Str.ofString "whole") ⟨797, 76, 797, 81⟩), (Expr.Name (Str.ofString "around") ⟨797, 85, 797, 91⟩), [], 0⟩] ⟨ScopeKind.function, [⟨(Str.ofString ".0"), NameKind.local⟩, ⟨(Str.ofString "whole"), NameKind.local⟩, ⟨(Str.ofString "_law_words"), NameKind.globalImplicit⟩], false, false, []⟩ ⟨797, 53, 797, 92⟩)] ⟨797, 11, 797, 92⟩)) ⟨797, 4, 797, 92⟩)]), ⟨ScopeKind.function, [⟨(Str.ofString "script"), NameKind.local⟩, ⟨(Str.ofString "drawn"), NameKind.local⟩, ⟨(Str.ofString "numbers"), NameKind.local⟩, ⟨(Str.ofString "first"), NameKind.local⟩, ⟨(Str.ofString "second"), NameKind.cell⟩, ⟨(Str.ofString "third"), NameKind.cell⟩, ⟨(Str.ofString "fourth"), NameKind.cell⟩, ⟨(Str.ofString "moves"), NameKind.local⟩, ⟨(Str.ofString "move"), NameKind.cell⟩, ⟨(Str.ofString "turned"), NameKind.local⟩, ⟨(Str.ofString "around"), NameKind.local⟩, ⟨(Str.ofString "replace"), NameKind.globalImplicit⟩, ⟨(Str.ofString "_law_move"), NameKind.globalImplicit⟩, ⟨(Str.ofString "_law_holds"), NameKind.globalImplicit⟩, ⟨(Str.ofString "range"), NameKind.globalImplicit⟩, ⟨(Str.ofString "len"), NameKind.globalImplicit⟩], false, false, [⟨(Str.ofString "fast"), (Const.str (Str.ofString "script"))⟩, ⟨(Str.ofString "fast"), (Const.str (Str.ofString "drawn"))⟩, ⟨(Str.ofString "fast"), (Const.str (Str.ofString "x"))⟩, ⟨(Str.ofString "fast"), (Const.str (Str.ofString "numbers"))⟩, ⟨(Str.ofString "fast"), (Const.str (Str.ofString "first"))⟩, ⟨(Str.ofString "fast"), (Const.str (Str.ofString "second"))⟩, ⟨(Str.ofString "fast"), (Const.str (Str.ofString "third"))⟩, ⟨(Str.ofString "fast"), (Const.str (Str.ofString "sign"))⟩, ⟨(Str.ofString "fast"), (Const.str (Str.ofString "fourth"))⟩, ⟨(Str.ofString "fast"), (Const.str (Str.ofString "text"))⟩, ⟨(Str.ofString "fast"), (Const.str (Str.ofString "moves"))⟩, ⟨(Str.ofString "fast"), (Const.str (Str.ofString "move"))⟩, ⟨(Str.ofString "fast"), (Const.str (Str.ofString "k"))⟩, ⟨(Str.ofString "fast"), (Const.str (Str.ofString "turned"))⟩, ⟨(Str.ofString "fast"), (Const.str (Str.ofString "place"))⟩, ⟨(Str.ofString "fast"), (Const.str (Str.ofString "mark"))⟩, ⟨(Str.ofString "fast"), (Const.str (Str.ofString "around"))⟩, ⟨(Str.ofString "fast"), (Const.str (Str.ofString "whole"))⟩]⟩, 3, [], .none, .none, .none, (.str (Str.ofString "law_mj0242_04") 1162), none, (.ref 778), .none, 0⟩), (List.toArray [])⟩) :: []
noncomputable def kAs : List Addr := [nat_lit 2, nat_lit 3, nat_lit 45, nat_lit 46, nat_lit 59, nat_lit 60, nat_lit 69, nat_lit 70, nat_lit 71, nat_lit 86, nat_lit 87, nat_lit 89, nat_lit 90, nat_lit 91, nat_lit 92, nat_lit 93, nat_lit 104, nat_lit 105, nat_lit 116, nat_lit 117, nat_lit 156, nat_lit 346, nat_lit 347, nat_lit 357, nat_lit 363, nat_lit 364, nat_lit 370, nat_lit 371, nat_lit 377, nat_lit 378, nat_lit 391, nat_lit 392, nat_lit 400, nat_lit 408, nat_lit 416, nat_lit 424, nat_lit 432, nat_lit 533, nat_lit 539, nat_lit 540, nat_lit 541, nat_lit 547, nat_lit 548, nat_lit 593, nat_lit 594, nat_lit 646, nat_lit 652, nat_lit 653, nat_lit 659, nat_lit 660, nat_lit 661, nat_lit 689, nat_lit 690, nat_lit 696, nat_lit 697, nat_lit 718, nat_lit 719, nat_lit 725, nat_lit 726, nat_lit 728, nat_lit 729, nat_lit 730, nat_lit 731, nat_lit 734, nat_lit 740, nat_lit 741, nat_lit 747, nat_lit 748, nat_lit 752, nat_lit 753, nat_lit 759, nat_lit 760, nat_lit 766, nat_lit 767, nat_lit 773, nat_lit 774, nat_lit 778, nat_lit 779]
theorem kAs_eq (P : Params) : kAs = (hd.heap_39 P).map (·.1) := by kernel_rfl
theorem K_at (w : World) : kAs.map (H1 w.params).get? = (hd.heap_39 w.params).map fun p => some p.2 := by kernel_rfl
noncomputable def hd.view_39 : Program := by
  refine (fun (p : Program) (_ : Str.ofString "x" = ⟨⟨[120]⟩⟩) => p) ?v (by kernel_rfl)
  refine (?f : (p : Program) → view PySem.Challenge.pw_mj0242_04 [0, 1, 3, 5, 6, 7, 8, 9, 10, 11, 12, 14, 15, 16, 17, 18, 19, 21, 24, 25, 26, 27, 28, 29] = p → Program) ?p ?h
  case f => exact fun p _ => p
  case h =>
    unfold PySem.Challenge.pw_mj0242_04
    simp only [view, List.filterMap_cons, List.filterMap_nil, List.getElem?_cons_zero, List.getElem?_cons_succ]
    rfl
theorem V_pw : hd.view_39 = view PySem.Challenge.pw_mj0242_04 keep := by kernel_rfl
theorem V_eq : hd.view_39 = qV := V_pw.trans (congrArg (view · keep) qp_eq)
theorem L_eq : [Str.ofString "UnsupportedOperation", Str.ofString "IOBase", Str.ofString "BufferedIOBase", Str.ofString "TextIOBase", Str.ofString "BytesIO", Str.ofString "StringIO", Str.ofString "shlex", Str.ofString "split"] = qL := by kernel_rfl
theorem left : LeftO PySem.Challenge.pw_mj0242_04 hd.view_39 [Str.ofString "UnsupportedOperation", Str.ofString "IOBase", Str.ofString "BufferedIOBase", Str.ofString "TextIOBase", Str.ofString "BytesIO", Str.ofString "StringIO", Str.ofString "shlex", Str.ofString "split"] (fun s => xlAt hd.view_39 [] s && recOk [] s) (kHook hd.heap_39 kAs kAs_eq).obs (kHook hd.heap_39 kAs kAs_eq).val 10016 := by
  refine LeftO.of_pieces (H₀ := fun P => (absHeap (T0 P) 29 {})) (H₁ := H1) (gs₀ := ⟨[]⟩) (gs₁ := ⟨[]⟩) (d₀ := {}) (d₁ := {}) (k₀ := 273) (k₁ := 1217) (m₀ := 29) (ann := some (Value.ref 6)) (M := 4959) ?o ?s ?r rfl ?l
  case o =>
    intro w
    show ((importEnds treeTable (opening PySem.Challenge.pw_mj0242_04) w 10016 (start (opening PySem.Challenge.pw_mj0242_04)).1 (start (opening PySem.Challenge.pw_mj0242_04)).2).bind (fenceModules? PySem.Challenge.pw_mj0242_04)).map _ = _
    rw [qp_eq, PySem.W.Fast.te10274390034422433532, PySem.W.Fast.te14364793385576792824, PySem.W.Fast.te1435165496053646825, PySem.W.Fast.te14289696077712309145]
    exact q_open w
  case s => exact q_size
  case r =>
    intro w os
    have h := topRun_of ((runQ_eq _ _ _ _ _ _ _).trans (q_run w os))
    rw [qp_eq, ← H1_eq]
    exact h
  case l =>
    intro w
    funext os
    have e1 : (staticsOk (importedModules PySem.Challenge.pw_mj0242_04.main.body) (absHeap (T0 w.params) 29 {}) (H1 w.params) && namesBound PySem.Challenge.pw_mj0242_04 (H1 w.params) && gensDone ⟨H1 w.params, ⟨[]⟩, {}, 1217, os⟩ && laidKept (absHeap (T0 w.params) 29 {}) (H1 w.params)) = true := by
      rw [qp_eq, PySem.W.Fast.te5923862056798008813]
      exact q_ok w os
    have e2 : openSeen hd.view_39 [Str.ofString "UnsupportedOperation", Str.ofString "IOBase", Str.ofString "BufferedIOBase", Str.ofString "TextIOBase", Str.ofString "BytesIO", Str.ofString "StringIO", Str.ofString "shlex", Str.ofString "split"] (importedModules PySem.Challenge.pw_mj0242_04.main.body) (fun s => xlAt hd.view_39 [] s && recOk [] s) true ⟨H1 w.params, ⟨[]⟩, {}, 1217, os⟩ = openGood hd.view_39 [Str.ofString "UnsupportedOperation", Str.ofString "IOBase", Str.ofString "BufferedIOBase", Str.ofString "TextIOBase", Str.ofString "BytesIO", Str.ofString "StringIO", Str.ofString "shlex", Str.ofString "split"] := by
      rw [V_eq, L_eq, qp_eq, PySem.W.Fast.te4187177175401517315, PySem.W.Fast.te5923862056798008813]
      exact q_seen w os
    exact Prod.ext e1 (Prod.ext e2 (K_at w))
noncomputable def ql : OpenLaw := { prog := qp, name := ⟨⟨[108, 97, 119]⟩⟩, about := [⟨⟨[114, 101, 112, 108, 97, 99, 101]⟩⟩], foot := 6, most := some 63, bound := none, writes := false }
theorem rw_eq : PySem.Challenge.rw_mj0242_04 = ql := by
  unfold PySem.Challenge.rw_mj0242_04 ql
  rw [qp_eq]
  kernel_rfl
theorem said : PySem.Challenge.rw_mj0242_04.wellSaid = true := by
  rw [rw_eq, PySem.W.Fast.te9446332074065402090]
  unfold PySem.W.Fast.tw9446332074065402090 PySem.W.Fast.tw17960256430627541270 PySem.W.Fast.tw2436336058641802641 PySem.W.Fast.tw12908688711261696721
  repeat' (with_reducible refine look_both ?_ ?_)
  all_goals as_aux_lemma => kernel_rfl
theorem ok1 : (chainsOk hd.view_39 && opensWell PySem.Challenge.rw_mj0242_04.row.prog && (frees PySem.Challenge.rw_mj0242_04.row.toRowW && PySem.Challenge.rw_mj0242_04.row.within.isEmpty)) = true := by
  show (chainsOk hd.view_39 && opensWell PySem.Challenge.pw_mj0242_04 && (frees PySem.Challenge.rw_mj0242_04.row.toRowW && PySem.Challenge.rw_mj0242_04.row.within.isEmpty)) = true
  rw [V_eq, qp_eq, rw_eq]
  kernel_rfl
theorem whole1 : PySem.Challenge.pw_mj0242_04.tablesWhole = true := by
  rw [qp_eq]
  kernel_rfl
end Mine
open PySem.Calls PySem.Spec
namespace Mine
section
noncomputable abbrev PG := PySem.Challenge.rw_mj0242_04.prog
noncomputable abbrev LS : List Str := looseW hd.view_39 [Str.ofString "UnsupportedOperation", Str.ofString "IOBase", Str.ofString "BufferedIOBase",
      Str.ofString "TextIOBase", Str.ofString "BytesIO", Str.ofString "StringIO", Str.ofString "shlex",
      Str.ofString "split"]
abbrev Led := List (Addr × Obj)
/-- what a call of the def at `f` gives back: from any frame, with any ledger -/
noncomputable def Ctr (w : World) (mean : ExcName → Option Value) (mg mb : Str → Option Value) (f : Addr) (vs : List Value) (news : Led) (D U : Nat) (Post : Value → Led → Prop) : Prop :=
  ∀ (dp un : Nat) (gd : Option (List Code)) (cn : Str) (cs : Scope) (a : Addr) (ccd : Value) (cl : List (Str × Addr)) (outer : List Env) (A₀ : Around) (base h₀ : Heap) (L : Addr) (m : Str → Option Value) (s : Shared) (Q E : Value → Shared → Prop),
    Below A₀ base outer h₀ → Fr h₀ L s.heap m → (hd.heap_39 w.params).In h₀ → News h₀ L s.heap news → Top hd.view_39 LS mean mg mb h₀ → cs.kind = .function →
    dp + D < recursionLimit → un + U < cLine →
    (∀ v h' tk' news', Fr h₀ L h' m → News h₀ L h' news' → Post v news' → Q v { s with heap := h', toks := tk' }) →
      wpAny (model PG w) (ktrTop dp un gd cn cs L a ccd cl outer) (call (.ref f) vs) Q E s
theorem prog_here : PySem.Challenge.rw_mj0242_04.prog = PySem.Challenge.rw_mj0242_04.prog := rfl
structure Hold (P : Prop) : Prop where
  out : P
/-- a call that may raise a built-in exception of one argument -/
noncomputable def CtrE (w : World) (mean : ExcName → Option Value) (mg mb : Str → Option Value) (f : Addr) (vs : List Value) (news : Led) (D U : Nat) (Post : Value → Led → Prop) (PostE : String → List Value → Led → Prop) : Prop :=
  ∀ (dp un : Nat) (gd : Option (List Code)) (cn : Str) (cs : Scope) (a : Addr) (ccd : Value) (cl : List (Str × Addr)) (outer : List Env) (A₀ : Around) (base h₀ : Heap) (L : Addr) (m : Str → Option Value) (s : Shared) (Q E : Value → Shared → Prop),
    Below A₀ base outer h₀ → Fr h₀ L s.heap m → (hd.heap_39 w.params).In h₀ → News h₀ L s.heap news → Top hd.view_39 LS mean mg mb h₀ → cs.kind = .function →
    dp + D < recursionLimit → un + U < cLine →
    (∀ v h' tk' news', Fr h₀ L h' m → News h₀ L h' news' → Post v news' → Q v { s with heap := h', toks := tk' }) →
    (∀ e t cls vs h' tk' news' g, RaisedS base g (envX cn cs L a ccd cl :: outer) e (.type cls) t vs news' h' → Fr h₀ L g m → g.UpToSlots h' → PostE cls vs news' → E (.ref e) { s with heap := h', toks := tk' }) →
      wpAny (model PG w) (ktrTop dp un gd cn cs L a ccd cl outer) (call (.ref f) vs) Q E s
section
variable {w : World} {mean : ExcName → Option Value} {mg mb : Str → Option Value} {f : Addr} {vs : List Value} {news : Led} {D U : Nat} {Post : Value → Led → Prop} {PostE : String → List Value → Led → Prop}
  {dp un : Nat} {gd : Option (List Code)} {cn : Str} {cs : Scope} {a : Addr} {ccd : Value} {cl : List (Str × Addr)} {outer : List Env} {A₀ : Around} {base h₀ : Heap} {L : Addr} {m : Str → Option Value} {s : Shared} {Q E : Value → Shared → Prop}
theorem ctr_use (C : Ctr w mean mg mb f vs news D U Post) (B : Below A₀ base outer h₀) (F : Fr h₀ L s.heap m) (X : (hd.heap_39 w.params).In h₀) (N : News h₀ L s.heap news) (T : Top hd.view_39 LS mean mg mb h₀) (hk : cs.kind = .function)
    (hdp : dp + D < recursionLimit) (hun : un + U < cLine) (ret : ∀ v h' tk' news', Fr h₀ L h' m → News h₀ L h' news' → Post v news' → Q v { s with heap := h', toks := tk' }) :
    wpAny (model PG w) (ktrTop dp un gd cn cs L a ccd cl outer) (call (.ref f) vs) Q E s := C _ _ _ _ _ _ _ _ _ _ _ _ _ _ _ _ _ B F X N T hk hdp hun ret
theorem ctrE_use (C : CtrE w mean mg mb f vs news D U Post PostE) (B : Below A₀ base outer h₀) (F : Fr h₀ L s.heap m) (X : (hd.heap_39 w.params).In h₀) (N : News h₀ L s.heap news) (T : Top hd.view_39 LS mean mg mb h₀) (hk : cs.kind = .function)
    (hdp : dp + D < recursionLimit) (hun : un + U < cLine) (ret : ∀ v h' tk' news', Fr h₀ L h' m → News h₀ L h' news' → Post v news' → Q v { s with heap := h', toks := tk' })
    (exc : ∀ e t cls vs h' tk' news' g, RaisedS base g (envX cn cs L a ccd cl :: outer) e (.type cls) t vs news' h' → Fr h₀ L g m → g.UpToSlots h' → PostE cls vs news' → E (.ref e) { s with heap := h', toks := tk' }) :
    wpAny (model PG w) (ktrTop dp un gd cn cs L a ccd cl outer) (call (.ref f) vs) Q E s := C _ _ _ _ _ _ _ _ _ _ _ _ _ _ _ _ _ B F X N T hk hdp hun ret exc
end
section
variable {M : Model} {A : Around} {E : Value → Shared → Prop} {s : Shared}
theorem hold_call {f : Addr} {vs : List Value} {kw : List (Str × Value)} {Q : Value → Shared → Prop}
    (h : Hold (wpAny M A (call (.ref f) vs kw) Q E s)) (_ : (f == 46 || f == 540 || f == 548 || f == 594 || f == 690 || f == 697 || f == 729 || Nat.ble 741 f) = true := by decide) : wpAny M A (call (.ref f) vs kw) Q E s := h.out
theorem isMid {t : Sem Flow} {P : Shared → Prop} (h : wpAny M A t (fun f s' => f = .next ∧ P s') E s) : wpAny M A t (fun f s' => f = .next ∧ P s') E s := h
end
/-- the end of a block, and on with what follows it -/
theorem nil_cons {M : Model} {A : Around} {E E' : Value → Shared → Prop} {s : Shared} {env env' : Env} {rest : List Stmt} {Q : Flow → Shared → Prop} (h : wpAny M A (execs rest env') Q E s) :
    wpAny M A (execs [] env) (fun f s' => PySem.execs_cons.match_1 (fun _ => Prop) f (fun _ => wpAny M A (execs rest env') Q E s') (fun f => Q f s')) E' s := wpAny_execs_nil h
section
variable {M : Model} {A : Around} {E : Value → Shared → Prop} {env : Env} {hp : Heap} {gs : Array GenState} {dr : Drawn} {tk : Nat} {os : OsState} {k : Nat} {pos : Pos}
/-- constants and stores by the parts of the state: nothing is left to fold -/
theorem cStr {x : Str} {Q : Value → Shared → Prop} (h : Q (.str x tk) ⟨hp, gs, dr, tk + 1, os⟩) : wpAny M A (eval (.Constant (.str x) k pos) env) Q E ⟨hp, gs, dr, tk, os⟩ := fun _ _ _ => h
theorem cInt {x : Int} {Q : Value → Shared → Prop} (h : Q (.int x tk) ⟨hp, gs, dr, tk + 1, os⟩) : wpAny M A (eval (.Constant (.int x) k pos) env) Q E ⟨hp, gs, dr, tk, os⟩ := fun _ _ _ => h
theorem stX {h₀ : Heap} {L a : Addr} {m : Str → Option Value} {cn : Str} {cs : Scope} {ccd : Value} {cl : List (Str × Addr)} {x : Str} {v : Value} {Q : Unit → Shared → Prop} {news : Led}
    (h : ∀ h', Fr h₀ L h' (fun y => if y = x then some v else m y) → News h₀ L h' news → Q () ⟨h', gs, dr, tk + 1, os⟩) (F : Fr h₀ L hp m := by k_asm) (N : News h₀ L hp news := by k_asm)
    (hk : cs.kind = .function := by rfl) (hx : (envX cn cs L a ccd cl).kindOf x = some .local := by rfl) : wpAny M A (storeName (envX cn cs L a ccd cl) x v) Q E ⟨hp, gs, dr, tk, os⟩ := storeX_L F N h hk hx
end
end
set_option hygiene false in
def wkQ (g : String) (ids : Array (Lean.TSyntax `ident)) : Lean.MacroM Lean.Syntax := do
  let a ← `(tactic| first $[| refine $ids:ident ?_]*)
  let b ← if g.startsWith "D" then `(tactic| k_dflt ($a:tactic)) else `(tactic| with_reducible ($a:tactic))
  let c ← if g.endsWith "I" then `(tactic| ($b; intros)) else if g.endsWith "S" then `(tactic| ($b; intros; (try k_sweep))) else if g == "isMid" then `(tactic| ((fail_if_success (with_reducible refine isMid ?_)); $b)) else pure b
  return (← `(tactic| (k_here; $c))).raw
def wkI (l : String) : Lean.TSyntax `ident := ⟨.ident .none l.toSubstring (.mkSimple l) []⟩
def wk (t : String) (s : Lean.TSyntax `str) : Lean.MacroM Lean.Syntax :=
  match (t.splitOn "|").find? (fun r => (((r.splitOn ";").headD "").splitOn "/").contains s.getString) with
  | some r => match r.splitOn ";" with
    | [_, g, v] => wkQ g ((v.splitOn " ").map wkI).toArray
    | _ => Lean.Macro.throwUnsupported
  | none => Lean.Macro.throwUnsupported
theorem holdO {P : Prop} (h : Hold P) : P := h.out
local macro_rules | `(tactic| k_room) => `(tactic| ktr_room)
local macro_rules | `(tactic| k_units) => `(tactic| ktr_units)
local macro_rules | `(tactic| k_all) => `(tactic| assumption)
local macro_rules | `(tactic| walk_at "leaving ref") => `(tactic| (k_here; first
  | (refine' leave_raiseS ?k1 (Heap.MadeExc.of (by assumption)) ?k2 ?k3 ?_; (case k1 | k2 => assumption); (case k3 => k_asm); k_whole; intro h' t' R' RK' U'; (try dsimp only at R' U' ⊢))
  | (refine' leave_onS ?k1 ?k2 ?k3 ?k4 ?_; (case k3 | k1 | k4 | k2 => assumption); k_whole; intro h' R' RK' U'; (try dsimp only at R' U' ⊢))))
local macro_rules | `(tactic| walk_at $s:str) => wk "storeName;DS;stX|eval Constant str/eval Constant int;R;cStr cInt|execs nil;R;nil_cons|eval Attribute Name;DI;lx_get io_get lx_pc|call ref;R;hold_call|exec While Constant cons nil/exec While Name cons nil/call type:list/call builtin:object.__new__/call type:collections.deque/pyIter ref/pyIter str/exec For Name Name cons nil/exec For Tuple Name cons nil/exec For Name List cons nil/eval DictComp/eval ListComp/StarOf ref/binaryOp Add ref ref;R;holdO" s
section
noncomputable abbrev en (w : World) (n : String) (t : Tok) (v : Value) : DictEntry := ⟨PyData.keyHash w.params (Str.ofString n), .str (Str.ofString n) t, v⟩
noncomputable abbrev ioDict (w : World) (κ : Nat → Tok) (u : Tok) (buf : Str) (ub : Tok) (pos : Int) (up : Tok) : Obj :=
  dictOf [en w "_StringIO__newline" (κ 20) (.str (Str.ofString "\n") u), en w "_StringIO__buf" (κ 21) (.str buf ub), en w "_StringIO__pos" (κ 22) (.int pos up)] 3
noncomputable abbrev lexDict (w : World) (κ υ : Nat → Tok) (I P Fk : Addr) (px : Bool) (vE : Value) (cm wc : Str) (vS : Value) (ln : Int) (ul : Tok) (tk : Str) (ut : Tok) : Obj :=
  dictOf [en w "instream" (κ 0) (.ref I), en w "infile" (κ 1) .none, en w "posix" (κ 2) (.bool px), en w "eof" (κ 3) vE, en w "commenters" (κ 4) (.str cm (υ 4)), en w "wordchars" (κ 5) (.str wc (υ 5)),
    en w "whitespace" (κ 6) (.str (Str.ofString " \t\r\n") (υ 6)), en w "whitespace_split" (κ 7) (.bool true), en w "quotes" (κ 8) (.str (Str.ofString "'\"") (υ 8)), en w "escape" (κ 9) (.str (Str.ofString "\\") (υ 9)),
    en w "escapedquotes" (κ 10) (.str (Str.ofString "\"") (υ 10)), en w "state" (κ 11) vS, en w "pushback" (κ 12) (.ref P), en w "lineno" (κ 13) (.int ln ul), en w "debug" (κ 14) (.int 0 (υ 14)), en w "token" (κ 15) (.str tk ut),
    en w "filestack" (κ 16) (.ref Fk), en w "source" (κ 17) .none, en w "_punctuation_chars" (κ 18) (.str (Str.ofString "") (υ 18))] 19
noncomputable abbrev lexLed (S dS I dI : Nat) (od oi : Obj) (news : Led) : Led := (S, instObj 729 dS) :: (dS, od) :: (I, instObj 594 dI) :: (dI, oi) :: news
/-- one sign as a text -/
noncomputable def sg (c : Nat) : Str := ⟨#[c]⟩
/-- what is left of the text behind a place -/
noncomputable def At (buf : Str) (pos : Int) (rest : List Nat) : Prop := 0 ≤ pos ∧ pos ≤ (buf.length : Int) ∧ buf.cps.toList.drop pos.toNat = rest
theorem At.nil {buf : Str} {pos : Int} (h : At buf pos []) : (buf.length : Int) ≤ pos := by
  obtain ⟨a, b, e⟩ := h
  have : buf.cps.toList.length ≤ pos.toNat := by simpa using e
  have h2 : buf.length = buf.cps.toList.length := by simp [Str.length]
  omega
theorem At.cons {buf : Str} {pos : Int} {c : Nat} {r : List Nat} (h : At buf pos (c :: r)) : pos < (buf.length : Int) ∧ At buf (pos + 1) r := by
  obtain ⟨a, b, e⟩ := h
  have h2 : buf.length = buf.cps.toList.length := by simp [Str.length]
  have h3 : pos.toNat < buf.cps.toList.length := by
    apply Nat.lt_of_not_le
    intro h
    rw [List.drop_of_length_le h] at e
    cases e
  refine ⟨by omega, by omega, by omega, ?_⟩
  have : (pos + 1).toNat = pos.toNat + 1 := by omega
  rw [this, ← List.drop_drop, e]
  rfl
abbrev lexNames : List Str := [Str.ofString "instream", Str.ofString "posix", Str.ofString "eof", Str.ofString "commenters", Str.ofString "wordchars", Str.ofString "whitespace", Str.ofString "whitespace_split", Str.ofString "quotes", Str.ofString "escape", Str.ofString "escapedquotes", Str.ofString "state", Str.ofString "pushback", Str.ofString "lineno", Str.ofString "debug", Str.ofString "token", Str.ofString "filestack", Str.ofString "source", Str.ofString "_punctuation_chars"]
theorem lex_cls (w : World) : (plainGet (hd.heap_39 w.params) 729 (Str.ofString "") && hasDictIn (hd.heap_39 w.params) 729 && lexNames.all fun x => findIn (hd.heap_39 w.params) (.ref 729) x == some none) = true := by kernel_rfl
abbrev ioNames : List Str := [Str.ofString "_StringIO__newline", Str.ofString "_StringIO__buf", Str.ofString "_StringIO__pos"]
theorem io_cls (w : World) : (plainGet (hd.heap_39 w.params) 594 (Str.ofString "") && hasDictIn (hd.heap_39 w.params) 594 && ioNames.all fun x => findIn (hd.heap_39 w.params) (.ref 594) x == some none) = true := by kernel_rfl
/-- an attribute of self, the lexer, read in one step -/
theorem lx_get {w : World} {A : Around} {E Q : Value → Shared → Prop} {hp : Heap} {gs : Array GenState} {dr : Drawn} {tk : Nat} {os : OsState} {h₀ : Heap} {L : Addr} {m : Str → Option Value} {S dS I dI P Fk : Nat} {κ υ : Nat → Tok} {px : Bool} {vE : Value} {cm wc : Str} {vS v : Value} {ln : Int} {ul : Tok} {tok : Str} {ut : Tok} {oi : Obj} {news : Led} {cn : Str} {cs : Scope} {a : Addr} {ccd : Value} {cl : List (Str × Addr)} {x : Str} {p q : Pos}
    (h : Q v ⟨hp, gs, dr, tk + 1, os⟩) (F : Fr h₀ L hp m := by k_asm) (X : (hd.heap_39 w.params).In h₀ := by k_asm) (N : News h₀ L hp (lexLed S dS I dI (lexDict w κ υ I P Fk px vE cm wc vS ln ul tok ut) oi news) := by k_asm)
    (hm : m (Str.ofString "self") = some (.ref S) := by exact Eq.refl (some _))
    (hl : getL x [en w "instream" (κ 0) (.ref I), en w "infile" (κ 1) .none, en w "posix" (κ 2) (.bool px), en w "eof" (κ 3) vE, en w "commenters" (κ 4) (.str cm (υ 4)), en w "wordchars" (κ 5) (.str wc (υ 5)),
    en w "whitespace" (κ 6) (.str (Str.ofString " \t\r\n") (υ 6)), en w "whitespace_split" (κ 7) (.bool true), en w "quotes" (κ 8) (.str (Str.ofString "'\"") (υ 8)), en w "escape" (κ 9) (.str (Str.ofString "\\") (υ 9)),
    en w "escapedquotes" (κ 10) (.str (Str.ofString "\"") (υ 10)), en w "state" (κ 11) vS, en w "pushback" (κ 12) (.ref P), en w "lineno" (κ 13) (.int ln ul), en w "debug" (κ 14) (.int 0 (υ 14)), en w "token" (κ 15) (.str tok ut),
    en w "filestack" (κ 16) (.ref Fk), en w "source" (κ 17) .none, en w "_punctuation_chars" (κ 18) (.str (Str.ofString "") (υ 18))] = some (some v) := by k_get)
    (hh : handedIn v = true := by k_handed) (ok : lexNames.contains x = true := by kernel_rfl) (hk : cs.kind = .function := by rfl) (hx : (envX cn cs L a ccd cl).kindOf (Str.ofString "self") = some .local := by rfl) :
    wpAny (model PG w) A (eval (.Attribute (.Name (Str.ofString "self") p) x q) (envX cn cs L a ccd cl)) Q E ⟨hp, gs, dr, tk, os⟩ := by
  refine Attribute_Name_ (nameX_L F hm ?_ hk hx)
  have k := lex_cls w
  rw [Bool.and_eq_true, Bool.and_eq_true, List.all_eq_true] at k
  exact get_own F X (InstAt.of_news N (.head _) (.tail _ (.head _))) k.1.1 k.1.2 (beq_iff_eq.mp (k.2 x (List.contains_iff_mem.mp ok))) rfl hl hh h
/-- an attribute of self, the StringIO under the lexer, read in one step -/
theorem io_get {w : World} {A : Around} {E Q : Value → Shared → Prop} {hp : Heap} {gs : Array GenState} {dr : Drawn} {tk : Nat} {os : OsState} {h₀ : Heap} {L : Addr} {m : Str → Option Value} {S dS I dI : Nat} {κ : Nat → Tok} {v : Value} {u ub up : Tok} {buf : Str} {pos : Int} {od : Obj} {news : Led} {cn : Str} {cs : Scope} {a : Addr} {ccd : Value} {cl : List (Str × Addr)} {x : Str} {p q : Pos}
    (h : Q v ⟨hp, gs, dr, tk + 1, os⟩) (F : Fr h₀ L hp m := by k_asm) (X : (hd.heap_39 w.params).In h₀ := by k_asm) (N : News h₀ L hp (lexLed S dS I dI od (ioDict w κ u buf ub pos up) news) := by k_asm)
    (hm : m (Str.ofString "self") = some (.ref I) := by exact Eq.refl (some _))
    (hl : getL x [en w "_StringIO__newline" (κ 20) (.str (Str.ofString "\n") u), en w "_StringIO__buf" (κ 21) (.str buf ub), en w "_StringIO__pos" (κ 22) (.int pos up)] = some (some v) := by k_get)
    (hh : handedIn v = true := by k_handed) (ok : ioNames.contains x = true := by kernel_rfl) (hk : cs.kind = .function := by rfl) (hx : (envX cn cs L a ccd cl).kindOf (Str.ofString "self") = some .local := by rfl) :
    wpAny (model PG w) A (eval (.Attribute (.Name (Str.ofString "self") p) x q) (envX cn cs L a ccd cl)) Q E ⟨hp, gs, dr, tk, os⟩ := by
  refine Attribute_Name_ (nameX_L F hm ?_ hk hx)
  have k := io_cls w
  rw [Bool.and_eq_true, Bool.and_eq_true, List.all_eq_true] at k
  exact get_own F X (InstAt.of_news N (.tail _ (.tail _ (.head _))) (.tail _ (.tail _ (.tail _ (.head _))))) k.1.1 k.1.2 (beq_iff_eq.mp (k.2 x (List.contains_iff_mem.mp ok))) rfl hl hh h
/-- the property punctuation_chars of self, the lexer, read in one step -/
theorem lx_pc {w : World} {mean mg mb} {A A₀ : Around} {base : Heap} {outer : List Env} {E Q : Value → Shared → Prop} {hp : Heap} {gs : Array GenState} {dr : Drawn} {tk : Nat} {os : OsState} {h₀ : Heap} {L : Addr} {m : Str → Option Value} {S dS I dI P Fk : Nat} {κ υ : Nat → Tok} {px : Bool} {vE : Value} {cm wc : Str} {vS : Value} {ln : Int} {ul : Tok} {tok : Str} {ut : Tok} {oi : Obj} {news : Led} {cn : Str} {cs : Scope} {a : Addr} {ccd : Value} {cl : List (Str × Addr)} {p q : Pos}
    (h : ∀ h' tk', Fr h₀ L h' m → News h₀ L h' (lexLed S dS I dI (lexDict w κ υ I P Fk px vE cm wc vS ln ul tok ut) oi news) → Q (.str (Str.ofString "") (υ 18)) ⟨h', gs, dr, tk', os⟩)
    (F : Fr h₀ L hp m := by k_asm) (X : (hd.heap_39 w.params).In h₀ := by k_asm) (N : News h₀ L hp (lexLed S dS I dI (lexDict w κ υ I P Fk px vE cm wc vS ln ul tok ut) oi news) := by k_asm)
    (B : Below A₀ base outer h₀ := by k_asm) (T : Top hd.view_39 LS mean mg mb h₀ := by k_asm) (hA : A.frames = some (envX cn cs L a ccd cl :: outer) := by rfl) (hd : A.depth + 1 < recursionLimit := by ktr_room)
    (hm : m (Str.ofString "self") = some (.ref S) := by exact Eq.refl (some _)) (hk : cs.kind = .function := by rfl) (hx : (envX cn cs L a ccd cl).kindOf (Str.ofString "self") = some .local := by rfl) :
    wpAny (model PG w) A (eval (.Attribute (.Name (Str.ofString "self") p) (Str.ofString "punctuation_chars") q) (envX cn cs L a ccd cl)) Q E ⟨hp, gs, dr, tk, os⟩ := by
  have hpr := prog_here
  revert hpr
  revert X
  k_fill
  intro X _
  refine Attribute_Name_ (nameX_L F hm ?_ hk hx)
  refine get_prop F X (InstAt.of_news N (.head _) (.tail _ (.head _))) (by k_is) (by k_is) (by k_is) (by k_is) (by k_is) (by k_is) ?_
  k_dflt (refine' code_def B F X N T ?kA ?kF ?kK ?k6 ?k7 ?k8 ?k9 ?kB ?_ ?c2 ?c3 ?c4 ?c5; (case kA => exact hA); (case kF => exact rfl); (case kK => assumption); (case k6 | k7 => k_is); (case k8 => (show A.depth < recursionLimit; omega)); (case k9 => first | exact BindsTo.of_eq rfl | exact binds_K (by k_in) rfl (by k_is) rfl rfl rfl); (case c5 => decide); (case kB => exact locs rfl); (case c2 | c3 | c4 => exact rfl); k_whole; intro g' L' h' FG' F' N' B' X' T'; (try dsimp only); (try k_fold))
  k_steps
  exact h _ _ (by k_asm) (by k_asm)
end
section
theorem At.one {buf : Str} {pos : Int} {c : Nat} {r : List Nat} (h : At buf pos (c :: r)) : Txt.slice buf (some pos) (some (pos + 1)) = sg c := by
  have h2 : buf.length = buf.cps.toList.length := by simp [Str.length]
  have hc := h.cons
  obtain ⟨a, b, e⟩ := h
  refine (StrLaws.sliceText_plain (x := buf) (i := pos) (j := pos + 1) ⟨a, by omega, by omega⟩).trans ?_
  rw [e, show (pos + 1 - pos).toNat = 1 by omega]
  rfl
theorem read1 (w : World) (mean mg mb) (S dS I dI : Nat) (od : Obj) (κ : Nat → Tok) (u ub up u1 : Tok) (buf : Str) (pos : Int) (rest : List Nat) (news : Led) (hA : At buf pos rest) (hb : buf.length < 2 ^ 20)
   (o1 : dS < S) (o2 : S < dI) (o3 : dI < I) (hn1 : ∀ p ∈ news, p.1 ≠ dI) :
   Ctr w mean mg mb 540 [.ref I, .int 1 u1] (lexLed S dS I dI od (ioDict w κ u buf ub pos up) news) 3 24
     (fun v news' => ∃ t pos' up', v = .str (match rest with | [] => Str.ofString "" | c :: _ => sg c) t ∧ At buf pos' rest.tail ∧ news' = lexLed S dS I dI od (ioDict w κ u buf ub pos' up') news) := by
  have hpr := prog_here
  revert hpr
  unfold Ctr
  k_fill
  intro _ dp un gd cn cs a ccd cl outer A₀ base h₀ L m s Q E B F X N T hk hd hu hret
  have h0 := hA.1
  have h1 := hA.2.1
  refine wpAny_call ?_
  k_dflt (refine' code_def ?k1 ?k2 ?k3 ?k4 ?k5 ?kA ?kF ?kK ?k6 ?k7 ?k8 ?k9 ?kB ?_ ?c2 ?c3 ?c4 ?c5; (case kA | kF => exact rfl); (case kK => assumption); (case k1 | k2 | k3 | k4 | k5 => k_asm); (case k6 | k7 => k_is); (case k8 => k_room); (case k9 => first | exact BindsTo.of_eq rfl | exact binds_K (by k_in) rfl (by k_is) rfl rfl rfl); (case c5 => decide); (case kB => exact locs rfl); (case c2 | c3 | c4 => exact rfl); k_whole; intro _ _ _ _ _ _ _ _ _; (try dsimp only); (try k_fold))
  k_steps
  · refine hret _ _ _ _ (by k_asm) (by k_asm) ?_
    cases rest with
    | nil => exact ⟨_, pos, up, rfl, hA, rfl⟩
    | cons c r => exfalso; have := hA.cons.1; simp only [decide_eq_true_eq] at *; omega
  · refine hret _ _ _ _ (by k_asm) (by k_asm) ?_
    cases rest with
    | nil => exfalso; have := hA.nil; simp only [decide_eq_true_eq, decide_eq_false_iff_not] at *; omega
    | cons c r => exact ⟨_, pos + 1, _, by rw [hA.one], hA.cons.2, rfl⟩
  · refine hret _ _ _ _ (by k_asm) (by k_asm) ?_
    cases rest with
    | nil => exfalso; have := hA.nil; simp only [decide_eq_true_eq, decide_eq_false_iff_not] at *; omega
    | cons c r =>
      have hp : (buf.length : Int) = pos + 1 := by have := hA.cons.1; simp only [decide_eq_true_eq, decide_eq_false_iff_not] at *; omega
      exact ⟨_, (buf.length : Int), _, by rw [hp, hA.one], by rw [hp]; exact hA.cons.2, rfl⟩
end
section
open Builtin Builtin.Str in
theorem gives_find4 (x y : Str) (i : Int) (t u v k : Tok) : Gives (Builtin.«str.find» ⟨[.str x t, .str y u, .int i v, .int (x.length : Int) k], []⟩) (.int (Txt.find3 x y i)) := by
  show Gives (match occurrences x y (fromIndex x.length i) (min (max 0 (if ((x.length : Nat) : Int) < 0 then ((x.length : Nat) : Int) + x.length else ((x.length : Nat) : Int))).toNat x.length) 1 with | k :: _ => retInt k | [] => (do rule "str.find.not-found"; retInt (-1))) _
  rw [show min (max 0 (if ((x.length : Nat) : Int) < 0 then ((x.length : Nat) : Int) + x.length else ((x.length : Nat) : Int))).toNat x.length = x.length by split <;> omega]
  unfold Txt.find3
  cases occurrences x y (fromIndex x.length i) x.length 1 with
  | nil => exact .rule (.of_eq rfl)
  | cons k _ => exact .of_eq rfl
theorem find4 {prog : Program} {w : World} {A : Around} {E : Value → Shared → Prop} {s : Shared} {x y : Str} {t u v k : Tok} {i : Int} {Q : Value → Shared → Prop} (hq : Q (.int (Txt.find3 x y i) s.toks) { s with toks := s.toks + 1 }) :
    wpAny (model prog w) A (call (.builtin "str.find") [.str x t, .str y u, .int i v, .int (x.length : Int) k]) Q E s :=
  call_gives F.slot_str_find (typeIs_str _ _ _) F.entry_str_find (F.args_str_find_4 _ _ _ _) (gives_find4 x y i t u v k) hq
noncomputable def afterLine : List Nat → List Nat
  | [] => []
  | c :: r => if c = 10 then r else afterLine r
theorem afterLine_none : ∀ (l : List Nat), (∀ c ∈ l, c ≠ 10) → afterLine l = []
  | [], _ => rfl
  | c :: r, h => by
    unfold afterLine
    rw [if_neg (h c (.head _))]
    exact afterLine_none r fun x hx => h x (.tail _ hx)
theorem afterLine_at : ∀ (n : Nat) (l : List Nat), l[n]? = some 10 → (∀ v, v < n → l[v]? ≠ some 10) → afterLine l = l.drop (n + 1)
  | _, [], h, _ => by simp at h
  | 0, c :: r, h, _ => by
    have : c = 10 := by simpa using h
    simp [afterLine, this]
  | n + 1, c :: r, h, hv => by
    have h0 := hv 0 (by omega)
    have : c ≠ 10 := by intro e; subst e; simp at h0
    unfold afterLine
    rw [if_neg this]
    have := afterLine_at n r (by simpa using h) (fun v hl => by have := hv (v + 1) (by omega); simpa using this)
    simpa using this
theorem line_at {buf : Str} {pos : Int} {rest : List Nat} (h : At buf pos rest) : (Txt.find3 buf (Str.ofString "\n") pos = -1 ∧ afterLine rest = []) ∨ ∃ k : Nat, Txt.find3 buf (Str.ofString "\n") pos = (k : Int) ∧ k < buf.length ∧ At buf ((k : Int) + 1) (afterLine rest) := by
  obtain ⟨a, b, e⟩ := h
  have h2 : buf.length = buf.cps.toList.length := by simp [Str.length]
  have hf : fromIndex buf.length pos = pos.toNat := by
    unfold fromIndex
    rw [if_neg (by omega)]
    omega
  have hs : Str.ofString "\n" = ⟨#[10]⟩ := by decide +kernel
  rw [hs]
  rcases StrLaws.find3_spec buf 10 pos with ⟨h1, hn⟩ | ⟨k, h1, h3, h4, h5, h6⟩
  · refine .inl ⟨h1, afterLine_none _ fun c hc he => ?_⟩
    subst he
    rw [← e] at hc
    obtain ⟨j, hj⟩ := List.mem_iff_getElem?.mp hc
    rw [List.getElem?_drop] at hj
    have hlt : pos.toNat + j < buf.cps.toList.length := by
      apply Nat.lt_of_not_le
      intro hle
      rw [List.getElem?_eq_none hle] at hj
      cases hj
    exact hn (pos.toNat + j) (by omega) (by omega) (StrLaws.getD_of_getElem? hj)
  · rw [hf] at h3 h6
    refine .inr ⟨k, h1, h4, by omega, by omega, ?_⟩
    have hk := StrLaws.getElem?_of_getD h4 h5
    have := afterLine_at (k - pos.toNat) rest (by rw [← e, List.getElem?_drop, show pos.toNat + (k - pos.toNat) = k by omega]; exact hk) (fun v hv hq => by
      rw [← e, List.getElem?_drop] at hq
      exact h6 (pos.toNat + v) (by omega) (by omega) (StrLaws.getD_of_getElem? hq))
    rw [this, ← e, List.drop_drop]
    congr 1
    omega
local macro_rules | `(tactic| walk_at "call builtin:str.find") => `(tactic| (k_here; with_unfolding_all refine find4 ?_))
theorem readline (w : World) (mean mg mb) (S dS I dI : Nat) (od : Obj) (κ : Nat → Tok) (u ub up : Tok) (buf : Str) (pos : Int) (rest : List Nat) (news : Led) (hA : At buf pos rest) (hb : buf.length < 2 ^ 20)
   (o1 : dS < S) (o2 : S < dI) (o3 : dI < I) (hn1 : ∀ p ∈ news, p.1 ≠ dI) :
   Ctr w mean mg mb 548 [.ref I] (lexLed S dS I dI od (ioDict w κ u buf ub pos up) news) 3 24
     (fun _ news' => ∃ pos' up', At buf pos' (afterLine rest) ∧ news' = lexLed S dS I dI od (ioDict w κ u buf ub pos' up') news) := by
  have hpr := prog_here
  revert hpr
  unfold Ctr
  k_fill
  intro _ dp un gd cn cs a ccd cl outer A₀ base h₀ L m s Q E B F X N T hk hd hu hret
  have h0 := hA.1
  have h1 := hA.2.1
  have hlen : (Str.ofString "\n").length = 1 := by decide +kernel
  have hline := line_at hA
  refine wpAny_call ?_
  k_dflt (refine' code_def ?k1 ?k2 ?k3 ?k4 ?k5 ?kA ?kF ?kK ?k6 ?k7 ?k8 ?k9 ?kB ?_ ?c2 ?c3 ?c4 ?c5; (case kA | kF => exact rfl); (case kK => assumption); (case k1 | k2 | k3 | k4 | k5 => k_asm); (case k6 | k7 => k_is); (case k8 => k_room); (case k9 => first | exact BindsTo.of_eq rfl | exact binds_K (by k_in) rfl (by k_is) rfl rfl rfl); (case c5 => decide); (case kB => exact locs rfl); (case c2 | c3 | c4 => exact rfl); k_whole; intro _ _ _ _ _ _ _ _ _; (try dsimp only); (try k_fold))
  k_steps
  · refine hret _ _ _ _ (by k_asm) (by k_asm) ?_
    cases rest with
    | nil => exact ⟨pos, up, hA, rfl⟩
    | cons c r => exfalso; have := hA.cons.1; simp only [decide_eq_true_eq] at *; omega
  · refine hret _ _ _ _ (by k_asm) (by k_asm) ?_
    rcases hline with ⟨h3, h4⟩ | ⟨k, h3, h4, h5⟩
    · exfalso; simp only [decide_eq_true_eq, decide_eq_false_iff_not] at *; omega
    · exact ⟨_, _, by rw [h3]; exact h5, rfl⟩
  · refine hret _ _ _ _ (by k_asm) (by k_asm) ?_
    rcases hline with ⟨h3, h4⟩ | ⟨k, h3, h4, h5⟩
    · refine ⟨_, _, ?_, rfl⟩
      rw [h4]
      exact ⟨by omega, by omega, by simp [Str.length]⟩
    · exfalso; simp only [decide_eq_true_eq, decide_eq_false_iff_not] at *; omega
end
section
/-- the object of a fresh deque -/
abbrev dqObj : Obj := { cls := .type "collections.deque", dict := none, data := .fields #[.none, .int 0 0] }
theorem dq_mro : mroOf (.type "collections.deque") = pure [.type "collections.deque", .type "object"] := by rw [mroOf_type]; kernel_rfl
theorem dq_new : typeLookup (.type "collections.deque") "__new__" = pure (some (.builtin "collections.deque.__new__")) := by rw [typeLookup_type, builtinLookup_eq_fast]; kernel_rfl
theorem dq_slot_init : Slot "collections.deque" "__init__" "collections.deque.__init__" :=
  .of (owner := "collections.deque") (n := "__init__") (by rw [typeLookup_type, builtinLookup_eq_fast]; kernel_rfl) (by decide +kernel) (by decide +kernel) (by decide +kernel)
    (by first | exact .inl (by decide +kernel) | exact .inr (by decide +kernel)) (by rw [isSubtype_type]; kernel_rfl)
theorem dq_slot_len : Slot "collections.deque" "__len__" "collections.deque.__len__" :=
  .of (owner := "collections.deque") (n := "__len__") (by rw [typeLookup_type, builtinLookup_eq_fast]; kernel_rfl) (by decide +kernel) (by decide +kernel) (by decide +kernel)
    (by first | exact .inl (by decide +kernel) | exact .inr (by decide +kernel)) (by rw [isSubtype_type]; kernel_rfl)
theorem dq_entry_len : entryFor table "collections.deque.__len__" = some Builtin.«collections.deque.__len__» := by first | exact entryFor_of_fast (by kernel_rfl) | exact entryFor_of_tree (by kernel_rfl)
theorem dq_entry_init : entryFor table "collections.deque.__init__" = some Builtin.«collections.deque.__init__» := by first | exact entryFor_of_fast (by kernel_rfl) | exact entryFor_of_tree (by kernel_rfl)
theorem dq_entry_new : entryFor table "collections.deque.__new__" = some Builtin.«collections.deque.__new__» := by first | exact entryFor_of_fast (by kernel_rfl) | exact entryFor_of_tree (by kernel_rfl)
theorem dq_args_len (a : Value) : argsOk "collections.deque.__len__" ⟨[a], []⟩ := by unfold argsOk; kernel_rfl
theorem dq_noBool : typeLookup (.type "collections.deque") "__bool__" = pure none := by rw [typeLookup_type, builtinLookup_eq_fast]; kernel_rfl
theorem dq_called : TypeCalled "collections.deque" "collections.deque.__new__" "collections.deque.__init__" :=
  ⟨by decide +kernel, by decide +kernel, ⟨_, _, dq_mro⟩, madeBy_type dq_mro dq_new (by decide +kernel), by decide +kernel, by rw [isSubtype_type]; kernel_rfl, dq_slot_init⟩
theorem dq_typeCall : checkTypeCall "collections.deque" ⟨[], []⟩ = pure () := by kernel_rfl
theorem dq_newCall : checkBuiltinCall "collections.deque.__new__" ⟨[.type "collections.deque"], []⟩ = pure () := by kernel_rfl
theorem dq_plain_new : plainId "collections.deque.__new__" = true := by decide +kernel
theorem dq_sub : isSubtype (.type "collections.deque") (.type "collections.deque") = pure true := by rw [isSubtype_type]; kernel_rfl
theorem dq_noDict : typeHasDict (.type "collections.deque") = false := by kernel_rfl
section
variable {prog : Program} {w : World} {A : Around} {E : Value → Shared → Prop} {s : Shared}
theorem dq_len_body {t : Addr} {Q : Value → Shared → Prop} (ho : s.heap.get? t = some dqObj)
    (h : Q (.int 0 (s.toks + 1)) { s with toks := s.toks + 1 + 1 }) : wpAny (model prog w) A (Builtin.«len» ⟨[.ref t], []⟩) (fun fin s' => ∃ r, fin = .done (.ret r) ∧ Q r s') E s := by
  have hT : s.TypeIs (.ref t) "collections.deque" := ⟨_, ho, rfl⟩
  unfold Builtin.«len»
  refine wpAny_bind (m := oneArg "len" _) (wpAny_pure ?_)
  refine wpAny_bind (m := callSpecial? (.ref t) (Str.ofString "__len__")) (wpAny_callSpecial?_slot (name := Str.ofString "__len__") hT dq_slot_len
    (wpAny_call_entry dq_slot_len hT dq_entry_len ?_ (dq_args_len _)))
  · unfold Builtin.«collections.deque.__len__»
    refine wpAny_bind (m := slotArgs "__len__" 0 _) (wpAny_pure ?_)
    unfold Builtin.Deque.size
    refine wpAny_bind (wpAny_bind (m := fieldsOf (.ref t)) ?_)
    refine wpAny_bind (wpAny_load ho ?_)
    refine wpAny_pure (wpAny_pure ?_)
    refine wpAny_bind (wpAny_mkInt (wpAny_pure ⟨_, rfl, ?_⟩))
    refine wpAny_bind (wpAny_holding (wpAny_pure ?_))
    refine wpAny_bind (wpAny_letGo ?_)
    show wpAny _ _ (if ((0 : Nat) : Int) < 0 then _ else _) _ _ _
    rw [if_neg (by omega)]
    show wpAny _ _ (if ((0 : Nat) : Int) ≥ 2 ^ 63 then _ else _) _ _ _
    rw [if_neg (by omega)]
    exact wpAny_bind (wpAny_mkInt (wpAny_pure ⟨_, rfl, h⟩))
theorem dq_truthy {t : Addr} {Q : Bool → Shared → Prop} (ho : s.heap.get? t = some dqObj)
    (h : Q false { s with toks := s.toks + 1 + 1 }) : wpAny (model prog w) A (truthy (.ref t)) Q E s := by
  have hT : s.TypeIs (.ref t) "collections.deque" := ⟨_, ho, rfl⟩
  have key : wpAny (model prog w) A (runValue (.builtin "len" ⟨[.ref t], []⟩)) (fun r s' => r = .int 0 (s.toks + 1) ∧ Q false s') E s := by
    refine wpAny_runValue (codeAny_builtin entry_len ?_)
    rw [Around.under_plainId plain_len _]
    exact wpAny_mono (dq_len_body (Q := fun r s' => r = .int 0 (s.toks + 1) ∧ Q false s') ho ⟨rfl, h⟩)
      (fun fin s' h' => by obtain ⟨r, rfl, hq⟩ := h'; exact hq) fun _ _ e => e
  unfold truthy
  first
    | refine wpAny_bind (wpAny_callSpecial?_none (name := Str.ofString "__bool__") hT dq_noBool ?_)
    | refine wpAny_bind (wpAny_pure (wpAny_bind (wpAny_callSpecial?_none (name := Str.ofString "__bool__") hT dq_noBool ?_)))
  first
    | refine wpAny_bind (wpAny_specialOf (name := Str.ofString "__len__") hT dq_slot_len.lookup ?_)
    | refine wpAny_bind (wpAny_pure (wpAny_bind (wpAny_specialOf (name := Str.ofString "__len__") hT dq_slot_len.lookup ?_)))
  first
    | exact wpAny_bind (wpAny_mono key (fun r s' h' => by obtain ⟨rfl, hq⟩ := h'; exact wpAny_pure hq) fun _ _ e => e)
    | exact wpAny_bind (wpAny_pure (wpAny_bind (wpAny_mono key (fun r s' h' => by obtain ⟨rfl, hq⟩ := h'; exact wpAny_pure hq) fun _ _ e => e)))
end
end
section
section
variable {prog : Program} {w : World} {A : Around} {E : Value → Shared → Prop} {s : Shared}
theorem dq_code_new {Q₁ : Value → Shared → Prop} (h : Q₁ (.ref s.heap.objs.size) { s with heap := s.heap.push dqObj }) :
    codeAny (model prog w) A (.call (.builtin "collections.deque.__new__") ⟨[.type "collections.deque"], []⟩) (wants Q₁ E) s := by
  refine codeAny_of_tree ?_
  show wpAny _ A.in1 (do checkBuiltinCall "collections.deque.__new__" ⟨[.type "collections.deque"], []⟩; again (.builtin "collections.deque.__new__" ⟨[.type "collections.deque"], []⟩)) _ _ s
  refine wpAny_bind (wpAny_of_eq dq_newCall (wpAny_pure ⟨plainId_quiet dq_plain_new _, codeAny_builtin dq_entry_new ?_⟩))
  rw [Around.under_plainId dq_plain_new _]
  unfold Builtin.«collections.deque.__new__» Builtin.Deque.newArgs Builtin.Deque.new
  have hsub := dq_sub
  have hnd := dq_noDict
  obtain ⟨hp, g, d, tk, os⟩ := s
  dsimp only [Builtin.Deque.ty]
  wp_walk
  exact h
theorem dq_args_init (a : Value) : argsOk "collections.deque.__init__" ⟨[a], []⟩ := by unfold argsOk; kernel_rfl
theorem dq_call {Q : Value → Shared → Prop} (h : ∀ h', (∀ b o, s.heap.get? b = some o → h'.get? b = some o) → h'.get? s.heap.objs.size = some dqObj → Q (.ref s.heap.objs.size) { s with heap := h' }) :
    wpAny (model prog w) A (call (.type "collections.deque") []) Q E s := by
  obtain ⟨c, tl, hmro⟩ := dq_called.mro
  have hmade := dq_called.made
  have hsub := dq_called.sub
  refine wpAny_call (codeAny_of_tree ?_)
  show wpAny _ _ (callAny (.type "collections.deque") _) _ _ _
  refine wpAny_pure ⟨Code.quiet_builtin _ (by decide +kernel), codeAny_builtin F.entry_type_call ?_⟩
  rw [Around.under_plain (weight_type_call_type "collections.deque" [] []) rfl]
  have h1 := dq_called.notType
  have h2 := dq_called.canCreate
  have hct := dq_typeCall
  repeat (any_goals (first | assumption | wp_step))
  refine codeAny_mono (dq_code_new (E := E) (Q₁ := fun obj s₁ => obj = .ref s.heap.objs.size ∧ s₁ = { s with heap := s.heap.push dqObj }) ⟨rfl, rfl⟩) fun r s₁ hr => ?_
  cases r with
  | error e => exact hr
  | ok fl =>
    cases fl with
    | ret obj =>
      obtain ⟨rfl, rfl⟩ := hr
      have hS : (s.heap.push dqObj).get? s.heap.objs.size = some dqObj := Heap.get?_push_size _ rfl
      have hT : Shared.TypeIs { s with heap := s.heap.push dqObj } (.ref s.heap.objs.size) "collections.deque" := ⟨_, hS, rfl⟩
      have hli := dq_called.init.lookup
      have hbi := dq_called.init.bind (.ref s.heap.objs.size)
      repeat (any_goals (first | assumption | wp_step))
      refine codeAny_mono (codeAny_call_builtin (R := wants (fun r s₂ => r = .none ∧ Q (.ref s.heap.objs.size) s₂) E) dq_called.init.plain dq_entry_init (dq_slot_init.check _ _ _ _ _ _ _ _ hT (dq_args_init _) ?_)) fun r₂ s₂ hr₂ => ?_
      · unfold Builtin.«collections.deque.__init__» Builtin.Deque.clear Builtin.Deque.items
        wp_walk
        refine ⟨rfl, h _ (fun b o e => ?_) ?_⟩
        · rw [Heap.get?_update_ne _ _ _ _ (Nat.ne_of_lt (Heap.lt_size e))]
          exact Heap.get?_push_of_some _ e
        · exact Heap.get?_update_self _ hS rfl
      · cases r₂ with
        | error e => exact hr₂
        | ok fl₂ =>
          cases fl₂ with
          | ret r =>
            obtain ⟨rfl, hq⟩ := hr₂
            repeat (any_goals (first | assumption | wp_step))
          | _ => exact hr₂.elim
    | _ => exact hr.elim
end
theorem deque_N {prog : Program} {w : World} {A : Around} {E : Value → Shared → Prop} {s : Shared} {h₀ : Heap} {L : Addr} {m : Str → Option Value} {news : Led} {Q : Value → Shared → Prop} (F : Fr h₀ L s.heap m) (N : News h₀ L s.heap news)
    (h : ∀ (D : Nat) h', Fr h₀ L h' m → News h₀ L h' ((D, dqObj) :: news) → (∀ q ∈ news, q.1 < D) → Q (.ref D) { s with heap := h' }) : wpAny (model prog w) A (call (.type "collections.deque") []) Q E s :=
  dq_call fun h' hk hD => h _ h' (F.keeps hk) (news_pushed F N hk hD rfl) fun _ hq => Heap.lt_size (N _ hq).1
theorem dq_truthyN {prog : Program} {w : World} {A : Around} {E : Value → Shared → Prop} {s : Shared} {h₀ : Heap} {L D : Addr} {news : Led} {Q : Bool → Shared → Prop} (N : News h₀ L s.heap news) (hm : (D, dqObj) ∈ news)
    (h : Q false { s with toks := s.toks + 1 + 1 }) : wpAny (model prog w) A (truthy (.ref D)) Q E s := dq_truthy (N.get hm) h
end
section
noncomputable def isWs (c : Nat) : Bool := c == 32 || c == 9 || c == 13 || c == 10
noncomputable def isQt (c : Nat) : Bool := c == 39 || c == 34
inductive SS where
  | dn | sp | wd
  | qt (c : Nat)
  | es (dq : Bool)
inductive RR where
  | out (tok : Str) (quoted fin : Bool) (rest : List Nat)
  | noClose | noEsc
theorem afterLine_le : ∀ l : List Nat, (afterLine l).length ≤ l.length
  | [] => Nat.le_refl _
  | c :: r => by
    unfold afterLine
    split
    · exact Nat.le_succ _
    · exact Nat.le_succ_of_le (afterLine_le r)
/-- what read_token makes of the signs that are left, by its state; k reads on -/
noncomputable def rtB (px cm : Bool) (k : SS → Str → Bool → List Nat → RR) (st : SS) (tok : Str) (quoted : Bool) (rest : List Nat) : RR :=
  match st with
  | .dn => .out (Str.ofString "") quoted true rest.tail
  | .sp => match rest with
    | [] => .out tok quoted true []
    | c :: r =>
      if isWs c then k .sp tok quoted r
      else if cm && c == 35 then k .sp tok quoted (afterLine r)
      else if px && c == 92 then k (.es false) tok quoted r
      else if isQt c then k (.qt c) (if px then tok else sg c) quoted r
      else k .wd (sg c) quoted r
  | .wd => match rest with
    | [] => .out tok quoted true []
    | c :: r =>
      if isWs c then .out tok quoted false r
      else if cm && c == 35 then (if px then .out tok quoted false (afterLine r) else k .wd tok quoted (afterLine r))
      else if px && isQt c then k (.qt c) tok quoted r
      else if px && c == 92 then k (.es false) tok quoted r
      else k .wd (tok ++ sg c) quoted r
  | .qt q => match rest with
    | [] => .noClose
    | c :: r =>
      if c == q then (if px then k .wd tok true r else .out (tok ++ sg c) true false r)
      else if px && c == 92 && q == 34 then k (.es true) tok true r
      else k (.qt q) (tok ++ sg c) true r
  | .es dq => match rest with
    | [] => .noEsc
    | c :: r => k (if dq then .qt 34 else .wd) ((if dq && !(c == 92) && !(c == 34) then tok ++ sg 92 else tok) ++ sg c) quoted r
noncomputable def rtF (px cm : Bool) : Nat → SS → Str → Bool → List Nat → RR
  | 0 => fun _ _ _ _ => .noEsc
  | n + 1 => rtB px cm (rtF px cm n)
noncomputable def rt (px cm : Bool) (st : SS) (tok : Str) (quoted : Bool) (rest : List Nat) : RR := rtF px cm (rest.length + 1) st tok quoted rest
theorem rtB_congr {px cm : Bool} {k k' : SS → Str → Bool → List Nat → RR} {st : SS} {tok : Str} {q : Bool} {rest : List Nat} (h : ∀ st tok q r, r.length < rest.length → k st tok q r = k' st tok q r) : rtB px cm k st tok q rest = rtB px cm k' st tok q rest := by
  cases rest with
  | nil => cases st <;> rfl
  | cons c r =>
    have e := fun st tok q => h st tok q r (Nat.lt_succ_self _)
    have e2 := fun st tok q => h st tok q (afterLine r) (Nat.lt_succ_of_le (afterLine_le r))
    cases st <;> simp only [rtB, e, e2]
theorem rtF_eq {px cm : Bool} : ∀ {n m : Nat} {st : SS} {tok : Str} {q : Bool} {rest : List Nat}, rest.length < n → rest.length < m → rtF px cm n st tok q rest = rtF px cm m st tok q rest := by
  intro n
  induction n with
  | zero => intro _ _ _ _ _ h; exact absurd h (Nat.not_lt_zero _)
  | succ n ih =>
    intro m _ _ _ _ h g
    cases m with
    | zero => exact absurd g (Nat.not_lt_zero _)
    | succ m => exact rtB_congr fun _ _ _ _ hl => ih (Nat.lt_of_lt_of_le hl (Nat.le_of_lt_succ h)) (Nat.lt_of_lt_of_le hl (Nat.le_of_lt_succ g))
section
variable {px cm : Bool} {tok : Str} {quoted : Bool} {c q : Nat} {r : List Nat}
theorem rt_eq {st : SS} {rest : List Nat} : rt px cm st tok quoted rest = rtB px cm (rt px cm) st tok quoted rest :=
  rtB_congr (k := rtF px cm rest.length) fun _ _ _ _ hl => rtF_eq hl (Nat.lt_succ_self _)
theorem rt_spE : rt px cm .sp tok quoted (c :: r) = if isWs c then rt px cm .sp tok quoted r
      else if cm && c == 35 then rt px cm .sp tok quoted (afterLine r)
      else if px && c == 92 then rt px cm (.es false) tok quoted r
      else if isQt c then rt px cm (.qt c) (if px then tok else sg c) quoted r
      else rt px cm .wd (sg c) quoted r := rt_eq
theorem rt_wdE : rt px cm .wd tok quoted (c :: r) = if isWs c then .out tok quoted false r
      else if cm && c == 35 then (if px then .out tok quoted false (afterLine r) else rt px cm .wd tok quoted (afterLine r))
      else if px && isQt c then rt px cm (.qt c) tok quoted r
      else if px && c == 92 then rt px cm (.es false) tok quoted r
      else rt px cm .wd (tok ++ sg c) quoted r := rt_eq
theorem rt_qtE : rt px cm (.qt q) tok quoted (c :: r) = if c == q then (if px then rt px cm .wd tok true r else .out (tok ++ sg c) true false r)
      else if px && c == 92 && q == 34 then rt px cm (.es true) tok true r
      else rt px cm (.qt q) (tok ++ sg c) true r := rt_eq
theorem rt_esE {dq : Bool} : rt px cm (.es dq) tok quoted (c :: r) = rt px cm (if dq then .qt 34 else .wd) ((if dq && !(c == 92) && !(c == 34) then tok ++ sg 92 else tok) ++ sg c) quoted r := rt_eq
end
end
section
noncomputable def stStr : SS → Str
  | .dn => Str.ofString ""
  | .sp => Str.ofString " "
  | .wd => Str.ofString "a"
  | .qt c => sg c
  | .es _ => sg 92
noncomputable def stVal (u : Tok) : SS → Value
  | .dn => .none
  | st => .str (stStr st) u
noncomputable def StOk (px : Bool) (tok : Str) (quoted : Bool) (esS : Str) : SS → Prop
  | .dn => True
  | .sp => tok = Str.ofString "" ∧ quoted = false
  | .wd => tok.length ≠ 0 ∨ (px = true ∧ quoted = true)
  | .qt c => c = 39 ∨ c = 34
  | .es dq => px = true ∧ esS = (if dq then sg 34 else Str.ofString "a")
noncomputable def esN : SS → Nat
  | .es dq => cond dq 1 0
  | .dn => 0
  | .sp => 0
  | .wd => 0
  | .qt _ => 0
noncomputable def Inv (w : World) (S dS I dI P Fk : Nat) (κ υ : Nat → Tok) (u ub : Tok) (px cmb : Bool) (vE : Value) (cm wc buf : Str) (news : Led) (R : RR) (n : Nat) (m : Str → Option Value) (led : Led) : Prop :=
  ∃ (st : SS) (tok : Str) (quoted : Bool) (esS : Str) (te us ut ul up : Tok) (ln pos : Int) (rest : List Nat),
    n = rest.length ∧ rt px cmb st tok quoted rest = R ∧ At buf pos rest ∧ tok.length + esN st + rest.length ≤ buf.length ∧ StOk px tok quoted esS st ∧
    led = lexLed S dS I dI (lexDict w κ υ I P Fk px vE cm wc (stVal us st) ln ul tok ut) (ioDict w κ u buf ub pos up) news ∧
    m (Str.ofString "self") = some (.ref S) ∧ m (Str.ofString "quoted") = some (.bool quoted) ∧ m (Str.ofString "escapedstate") = some (.str esS te)
noncomputable def inS (y : Str) (c : Nat) : Bool := decide (c ∈ y.cps.toList)
section
variable {prog : Program} {w : World} {A : Around} {E : Value → Shared → Prop} {s : Shared} {c d : Nat} {t u : Tok} {y : Str} {Q : Value → Shared → Prop}
theorem in_sg (h : Q (.bool (inS y c)) s) : wpAny (model prog w) A (compareOp .In (.str (sg c) t) (.str y u)) Q E s := by
  refine in_str ?_
  rw [show sg c = ⟨#[c]⟩ from rfl, StrLaws.found_one]
  exact h
theorem in_ws (h : Q (.bool (isWs c)) s) : wpAny (model prog w) A (compareOp .In (.str (sg c) t) (.str (Str.ofString " \t\r\n") u)) Q E s := by
  refine in_sg ?_
  have : inS (Str.ofString " \t\r\n") c = isWs c := by
    unfold inS isWs
    rw [show (Str.ofString " \t\r\n").cps.toList = [32, 9, 13, 10] by decide +kernel]
    simp [Bool.decide_or, Bool.or_assoc]
    rfl
  rw [this]; exact h
theorem in_qt (h : Q (.bool (isQt c)) s) : wpAny (model prog w) A (compareOp .In (.str (sg c) t) (.str (Str.ofString "'\"") u)) Q E s := by
  refine in_sg ?_
  have : inS (Str.ofString "'\"") c = isQt c := by
    unfold inS isQt
    rw [show (Str.ofString "'\"").cps.toList = [39, 34] by decide +kernel]
    simp [Bool.decide_or]
    rfl
  rw [this]; exact h
theorem in_bs (h : Q (.bool (c == 92)) s) : wpAny (model prog w) A (compareOp .In (.str (sg c) t) (.str (Str.ofString "\\") u)) Q E s := by
  refine in_sg ?_
  have : inS (Str.ofString "\\") c = (c == 92) := by
    unfold inS
    rw [show (Str.ofString "\\").cps.toList = [92] by decide +kernel]
    simp
    rfl
  rw [this]; exact h
theorem in_dq (h : Q (.bool (c == 34)) s) : wpAny (model prog w) A (compareOp .In (.str (sg c) t) (.str (Str.ofString "\"") u)) Q E s := by
  refine in_sg ?_
  have : inS (Str.ofString "\"") c = (c == 34) := by
    unfold inS
    rw [show (Str.ofString "\"").cps.toList = [34] by decide +kernel]
    simp
    rfl
  rw [this]; exact h
theorem in_none (h : Q (.bool false) s) : wpAny (model prog w) A (compareOp .In (.str (sg c) t) (.str (Str.ofString "") u)) Q E s := by
  refine in_sg ?_
  have : inS (Str.ofString "") c = false := by
    unfold inS
    rw [show (Str.ofString "").cps.toList = [] by decide +kernel]
    simp
  rw [this]; exact h
theorem in_a_qt (h : Q (.bool false) s) : wpAny (model prog w) A (compareOp .In (.str (Str.ofString "a") t) (.str (Str.ofString "'\"") u)) Q E s := by
  rw [show Str.ofString "a" = sg 97 by decide +kernel]
  exact in_qt h
theorem in_a_bs (h : Q (.bool false) s) : wpAny (model prog w) A (compareOp .In (.str (Str.ofString "a") t) (.str (Str.ofString "\\") u)) Q E s := by
  rw [show Str.ofString "a" = sg 97 by decide +kernel]
  exact in_bs h
theorem notin_none (h : Q (.bool true) s) : wpAny (model prog w) A (compareOp .NotIn (.str (sg c) t) (.str (Str.ofString "") u)) Q E s := by
  refine notIn_str ?_
  have : (!(!(Builtin.Str.occurrences (Str.ofString "") (sg c) 0 (Str.ofString "").length 1).isEmpty)) = true := by
    rw [show sg c = ⟨#[c]⟩ from rfl, StrLaws.found_one, show (Str.ofString "").cps.toList = [] by decide +kernel]
    simp
  rw [this]; exact h
theorem eq_sg (h : Q (.bool (c == d)) s) : wpAny (model prog w) A (compareOp .Eq (.str (sg c) t) (.str (sg d) u)) Q E s := by
  refine eq_str ?_
  have : (sg c == sg d) = (c == d) := by
    rw [Bool.eq_iff_iff, beq_iff_eq, beq_iff_eq]
    exact ⟨fun h => by injection h with h; simpa using h, fun h => by rw [h]⟩
  rw [this]; exact h
theorem ne_sg (h : Q (.bool (!(c == d))) s) : wpAny (model prog w) A (compareOp .NotEq (.str (sg c) t) (.str (sg d) u)) Q E s := by
  refine ne_str ?_
  have : (sg c != sg d) = !(c == d) := by
    have : (sg c == sg d) = (c == d) := by
      rw [Bool.eq_iff_iff, beq_iff_eq, beq_iff_eq]
      exact ⟨fun h => by injection h with h; simpa using h, fun h => by rw [h]⟩
    rw [bne, this]
  rw [this]; exact h
end
theorem truthy_sg {prog : Program} {w : World} {A : Around} {E : Value → Shared → Prop} {s : Shared} {c : Nat} {t : Tok} {Q : Bool → Shared → Prop} (h : Q true { s with toks := s.toks + 1 + 1 }) : wpAny (model prog w) A (truthy (.str (sg c) t)) Q E s :=
  P.truthy_str (by show ¬ ((1 : Nat) : Int) ≥ 2 ^ 63; decide) h
theorem iadd_sg {prog : Program} {w : World} {A : Around} {E : Value → Shared → Prop} {s : Shared} {x : Str} {c : Nat} {t u : Tok} {Q : Value → Shared → Prop} (hx : x.length < 2 ^ 21) (h : ∀ t' tk, Q (.str (x ++ sg c) t') { s with toks := tk }) :
    wpAny (model prog w) A (inplaceOp .Add (.str x t) (.str (sg c) u)) Q E s := iadd_str h (by show x.length + 1 ≤ sizeLine; rw [show sizeLine = 2 ^ 24 from rfl]; omega)
theorem in_ac {prog : Program} {w : World} {A : Around} {E : Value → Shared → Prop} {s : Shared} {h₀ : Heap} {L T : Addr} {t t1 t2 : Tok} {news : Led} {Q : Value → Shared → Prop}
    (N : News h₀ L s.heap ((T, { cls := .type "tuple", data := .seq [Value.str (Str.ofString "a") t1, Value.str (Str.ofString "c") t2].toArray }) :: news)) (h : News h₀ L s.heap news → Q (.bool true) s) :
    wpAny (model prog w) A (compareOp .In (.str (Str.ofString "a") t) (.ref T)) Q E s := by
  refine in_tuple_strs (N.isTup (.head _)) (.cons _ _ (.cons _ _ .nil)) ?_
  rw [show ([Str.ofString "a", Str.ofString "c"].any (· == Str.ofString "a")) = true by decide +kernel]
  exact h fun p hp => N p (.tail _ hp)
structure LnPost (h₀ : Heap) (L : Addr) (m : Str → Option Value) (s : Shared) (led : Int → Tok → Led) (f : Flow) (s' : Shared) : Prop where
  get : f = .next ∧ ∃ h' tk' ln ul, s' = { s with heap := h', toks := tk' } ∧ Fr h₀ L h' m ∧ News h₀ L h' (led ln ul)
theorem ln_cut {M : Model} {A : Around} {E : Value → Shared → Prop} {Q : Flow → Shared → Prop} {s : Shared} {h₀ : Heap} {L : Addr} {m : Str → Option Value} {t : Sem Flow} {w : World} {S dS I dI P Fk : Nat} {κ υ : Nat → Tok} {px : Bool} {vE : Value} {cm wc : Str} {vS : Value} {ln : Int} {ul : Tok} {tok : Str} {ut : Tok} {oi : Obj} {news : Led}
    (_F : Fr h₀ L s.heap m) (_N : News h₀ L s.heap (lexLed S dS I dI (lexDict w κ υ I P Fk px vE cm wc vS ln ul tok ut) oi news))
    (h1 : wpAny M A t (LnPost h₀ L m s fun ln ul => lexLed S dS I dI (lexDict w κ υ I P Fk px vE cm wc vS ln ul tok ut) oi news) E s)
    (h2 : ∀ h' tk' ln ul, Fr h₀ L h' m → News h₀ L h' (lexLed S dS I dI (lexDict w κ υ I P Fk px vE cm wc vS ln ul tok ut) oi news) → Q .next { s with heap := h', toks := tk' }) : wpAny M A t Q E s := by
  refine wpAny_mono h1 (fun f s' p => ?_) fun _ _ x => x
  obtain ⟨rfl, h', tk', ln, ul, rfl, F, N⟩ := p.get
  exact h2 h' tk' ln ul F N
section
variable {h₀ : Heap} {L : Addr} {m : Str → Option Value} {s : Shared} {w : World} {S dS I dI P Fk : Nat} {κ υ : Nat → Tok} {u ub us ut ul up te : Tok} {px cmb : Bool} {vE : Value} {cm wc buf : Str} {news : Led} {R : RR} {ln pos : Int} {rest : List Nat} {tok esS : Str} {quoted fin : Bool} {h' : Heap} {tk n : Nat} {c : Nat} {r : List Nat}
structure LoopPost (h₀ : Heap) (L : Addr) (s : Shared) (w : World) (S dS I dI P Fk : Nat) (κ υ : Nat → Tok) (u ub : Tok) (px : Bool) (vE : Value) (cm wc buf : Str) (news : Led) (R : RR) (f : Flow) (s' : Shared) : Prop where
  get : f = .next ∧ ∃ tok quoted fin rest us ut ul up ln pos m' h' tk', R = .out tok quoted fin rest ∧ s' = { s with heap := h', toks := tk' } ∧ Fr h₀ L h' m' ∧
    News h₀ L h' (lexLed S dS I dI (lexDict w κ υ I P Fk px vE cm wc (if fin = true then .none else .str (Str.ofString " ") us) ln ul tok ut) (ioDict w κ u buf ub pos up) news) ∧
    At buf pos rest ∧ tok.length ≤ buf.length ∧ m' (Str.ofString "self") = some (.ref S) ∧ m' (Str.ofString "quoted") = some (.bool quoted)
theorem ln_leaf {led : Int → Tok → Led} (F : Fr h₀ L h' m) (N : News h₀ L h' (led ln ul)) : LnPost h₀ L m s led .next { s with heap := h', toks := tk } := ⟨rfl, _, _, _, _, rfl, F, N⟩
theorem stepN {Q : Flow → Shared → Prop} (f : Flow) (hf : f = .next ∨ f = .cont) (st : SS) (F : Fr h₀ L h' m) (N : News h₀ L h' (lexLed S dS I dI (lexDict w κ υ I P Fk px vE cm wc (stVal us st) ln ul tok ut) (ioDict w κ u buf ub pos up) news))
    (hm1 : m (Str.ofString "self") = some (.ref S)) (hm2 : m (Str.ofString "quoted") = some (.bool quoted)) (hm3 : m (Str.ofString "escapedstate") = some (.str esS te))
    (hA : At buf pos rest) (hR : rt px cmb st tok quoted rest = R) (hsz : tok.length + esN st + rest.length ≤ buf.length) (hok : StOk px tok quoted esS st) (hlt : rest.length < n) :
    WhileStep2 h₀ L s (Inv w S dS I dI P Fk κ υ u ub px cmb vE cm wc buf news R) Q n f { s with heap := h', toks := tk } := by
  rcases hf with rfl | rfl
  · exact ⟨h', tk, m, _, rest.length, rfl, F, N, hlt, st, tok, quoted, esS, te, us, ut, ul, up, ln, pos, rest, rfl, hR, hA, hsz, hok, rfl, hm1, hm2, hm3⟩
  · exact ⟨h', tk, m, _, rest.length, rfl, F, N, hlt, st, tok, quoted, esS, te, us, ut, ul, up, ln, pos, rest, rfl, hR, hA, hsz, hok, rfl, hm1, hm2, hm3⟩
theorem breakT {J : Nat → (Str → Option Value) → Led → Prop} (F : Fr h₀ L h' m) (N : News h₀ L h' (lexLed S dS I dI (lexDict w κ υ I P Fk px vE cm wc .none ln ul tok ut) (ioDict w κ u buf ub pos up) news))
    (hm1 : m (Str.ofString "self") = some (.ref S)) (hm2 : m (Str.ofString "quoted") = some (.bool quoted)) (hA : At buf pos rest) (hR : R = .out tok quoted true rest) (hsz : tok.length ≤ buf.length) :
    WhileStep2 h₀ L s J (LoopPost h₀ L s w S dS I dI P Fk κ υ u ub px vE cm wc buf news R) n .brk { s with heap := h', toks := tk } :=
  ⟨rfl, tok, quoted, true, rest, 0, ut, ul, up, ln, pos, m, h', tk, hR, rfl, F, N, hA, hsz, hm1, hm2⟩
theorem breakF {J : Nat → (Str → Option Value) → Led → Prop} (F : Fr h₀ L h' m) (N : News h₀ L h' (lexLed S dS I dI (lexDict w κ υ I P Fk px vE cm wc (.str (Str.ofString " ") us) ln ul tok ut) (ioDict w κ u buf ub pos up) news))
    (hm1 : m (Str.ofString "self") = some (.ref S)) (hm2 : m (Str.ofString "quoted") = some (.bool quoted)) (hA : At buf pos rest) (hR : R = .out tok quoted false rest) (hsz : tok.length ≤ buf.length) :
    WhileStep2 h₀ L s J (LoopPost h₀ L s w S dS I dI P Fk κ υ u ub px vE cm wc buf news R) n .brk { s with heap := h', toks := tk } :=
  ⟨rfl, tok, quoted, false, rest, us, ut, ul, up, ln, pos, m, h', tk, hR, rfl, F, N, hA, hsz, hm1, hm2⟩
end
theorem loop_rule {w : World} {A : Around} {E : Value → Shared → Prop} {Q : Flow → Shared → Prop} {s : Shared} {env : Env} {h₀ : Heap} {L : Addr} {test : Expr} {body : List Stmt} {pos : Pos} {m : Str → Option Value} {led : Led} {n₀ : Nat} {S dS I dI P Fk : Nat} {κ υ : Nat → Tok} {u ub : Tok} {px cmb : Bool} {vE : Value} {cm wc buf : Str} {news : Led} (R : RR)
    (F : Fr h₀ L s.heap m) (N : News h₀ L s.heap led) (hJ : Inv w S dS I dI P Fk κ υ u ub px cmb vE cm wc buf news R n₀ m led)
    (turn : ∀ n m₁ news₁ h₁ tk₁, Fr h₀ L h₁ m₁ → News h₀ L h₁ news₁ → Inv w S dS I dI P Fk κ υ u ub px cmb vE cm wc buf news R n m₁ news₁ →
      wpAny (model PG w) A (isTrue test env (eval test env)) (fun b s₂ =>
        if b = true then wpAny (model PG w) A (execs body env) (WhileStep2 h₀ L s (Inv w S dS I dI P Fk κ υ u ub px cmb vE cm wc buf news R) (LoopPost h₀ L s w S dS I dI P Fk κ υ u ub px vE cm wc buf news R) n) E s₂ else LoopPost h₀ L s w S dS I dI P Fk κ υ u ub px vE cm wc buf news R .next s₂) E { s with heap := h₁, toks := tk₁ })
    (post : ∀ s', LoopPost h₀ L s w S dS I dI P Fk κ υ u ub px vE cm wc buf news R .next s' → Q .next s')
    (hE : PassesOwn (model PG w) A env E := by passes_own) : wpAny (model PG w) A (exec (.While test body [] pos) env) Q E s :=
  wpAny_mono (While_inv2 (Inv w S dS I dI P Fk κ υ u ub px cmb vE cm wc buf news R) F N hJ turn hE) (fun f s' p => by obtain rfl := p.get.1; exact post s' p) fun _ _ x => x
section
variable {px cm : Bool} {tok : Str} {q : Bool} {c d : Nat} {r : List Nat}
theorem rt_dn {l : List Nat} : rt px cm .dn tok q l = .out (Str.ofString "") q true l.tail := rt_eq
theorem rt_sp_nil : rt px cm .sp tok q [] = .out tok q true [] := rt_eq
theorem rt_sp_ws (hw : isWs c = true) : rt px cm .sp tok q (c :: r) = rt px cm .sp tok q r := by rw [rt_spE, if_pos hw]
theorem rt_sp_cm (hw : isWs c = false) (hc : (cm && c == 35) = true) : rt px cm .sp tok q (c :: r) = rt px cm .sp tok q (afterLine r) := by rw [rt_spE, if_neg (by simp [hw]), if_pos hc]
theorem rt_sp_es (hw : isWs c = false) (hc : (cm && c == 35) = false) (hp : px = true) (hb : (c == 92) = true) : rt px cm .sp tok q (c :: r) = rt px cm (.es false) tok q r := by
  rw [rt_spE, if_neg (by simp [hw]), if_neg (by simp [hc]), if_pos (by simp [hp, hb])]
theorem rt_sp_qt (hw : isWs c = false) (hc : (cm && c == 35) = false) (hb : (px && c == 92) = false) (hq : isQt c = true) : rt px cm .sp tok q (c :: r) = rt px cm (.qt c) (if px then tok else sg c) q r := by
  rw [rt_spE, if_neg (by simp [hw]), if_neg (by simp [hc]), if_neg (by simp [hb]), if_pos hq]
theorem rt_sp_qt1 (hw : isWs c = false) (hc : (cm && c == 35) = false) (hp : px = true) (hb : (c == 92) = false) (hq : isQt c = true) : rt px cm .sp tok q (c :: r) = rt px cm (.qt c) tok q r := by
  rw [rt_sp_qt hw hc (by rw [hb, Bool.and_false]) hq, hp]; rfl
theorem rt_sp_qt0 (hw : isWs c = false) (hc : (cm && c == 35) = false) (hp : px = false) (hq : isQt c = true) : rt px cm .sp tok q (c :: r) = rt px cm (.qt c) (sg c) q r := by
  rw [rt_sp_qt hw hc (by rw [hp]; rfl) hq, hp]; rfl
theorem qt_of (hq : isQt c = true) : c = 39 ∨ c = 34 := by simpa [isQt] using hq
theorem len_sg (c : Nat) : (sg c).length = 1 := rfl
theorem len_app (a b : Str) : (a ++ b).length = a.length + b.length := Str.length_append a b
theorem len_none : (Str.ofString "").length = 0 := by decide +kernel
theorem len_bs : (Str.ofString "\\").length = 1 := by decide +kernel
theorem rt_wd_nil : rt px cm .wd tok q [] = .out tok q true [] := rt_eq
theorem rt_wd_ws (hw : isWs c = true) : rt px cm .wd tok q (c :: r) = .out tok q false r := by rw [rt_wdE, if_pos hw]
theorem rt_wd_cm1 (hw : isWs c = false) (hc : (cm && c == 35) = true) (hp : px = true) : rt px cm .wd tok q (c :: r) = .out tok q false (afterLine r) := by rw [rt_wdE, if_neg (by simp [hw]), if_pos hc, if_pos hp]
theorem rt_wd_cm0 (hw : isWs c = false) (hc : (cm && c == 35) = true) (hp : px = false) : rt px cm .wd tok q (c :: r) = rt px cm .wd tok q (afterLine r) := by rw [rt_wdE, if_neg (by simp [hw]), if_pos hc, if_neg (by simp [hp])]
theorem rt_wd_qt (hw : isWs c = false) (hc : (cm && c == 35) = false) (hp : px = true) (hq : isQt c = true) : rt px cm .wd tok q (c :: r) = rt px cm (.qt c) tok q r := by
  rw [rt_wdE, if_neg (by simp [hw]), if_neg (by simp [hc]), if_pos (by simp [hp, hq])]
theorem rt_wd_es (hw : isWs c = false) (hc : (cm && c == 35) = false) (hp : px = true) (hq : isQt c = false) (hb : (c == 92) = true) : rt px cm .wd tok q (c :: r) = rt px cm (.es false) tok q r := by
  rw [rt_wdE, if_neg (by simp [hw]), if_neg (by simp [hc]), if_neg (by simp [hq]), if_pos (by simp [hp, hb])]
theorem rt_wd_wd1 (hw : isWs c = false) (hc : (cm && c == 35) = false) (hq : isQt c = false) (hb : (c == 92) = false) : rt px cm .wd tok q (c :: r) = rt px cm .wd (tok ++ sg c) q r := by
  rw [rt_wdE, if_neg (by simp [hw]), if_neg (by simp [hc]), if_neg (by simp [hq]), if_neg (by simp [hb])]
theorem rt_wd_wd0 (hw : isWs c = false) (hc : (cm && c == 35) = false) (hp : px = false) : rt px cm .wd tok q (c :: r) = rt px cm .wd (tok ++ sg c) q r := by
  rw [rt_wdE, if_neg (by simp [hw]), if_neg (by simp [hc]), if_neg (by simp [hp]), if_neg (by simp [hp])]
theorem rt_qt_nil : rt px cm (.qt d) tok q [] = .noClose := rt_eq
theorem rt_qt_end1 (hc : (c == d) = true) (hp : px = true) : rt px cm (.qt d) tok q (c :: r) = rt px cm .wd tok true r := by rw [rt_qtE, if_pos hc, if_pos hp]
theorem rt_qt_end0 (hc : (c == d) = true) (hp : px = false) : rt px cm (.qt d) tok q (c :: r) = .out (tok ++ sg c) true false r := by rw [rt_qtE, if_pos hc, if_neg (by simp [hp])]
theorem rt_qt_es (hc : (c == d) = false) (hp : px = true) (hb : (c == 92) = true) (hd : (d == 34) = true) : rt px cm (.qt d) tok q (c :: r) = rt px cm (.es true) tok true r := by
  rw [rt_qtE, if_neg (by simp [hc]), if_pos (by simp [hp, hb, hd])]
theorem rt_qt_in (hc : (c == d) = false) (hb : (px && c == 92 && d == 34) = false) : rt px cm (.qt d) tok q (c :: r) = rt px cm (.qt d) (tok ++ sg c) true r := by
  rw [rt_qtE, if_neg (by simp [hc]), if_neg (by simp [hb])]
theorem rt_es_nil {e : Bool} : rt px cm (.es e) tok q [] = .noEsc := rt_eq
theorem rt_es0 : rt px cm (.es false) tok q (c :: r) = rt px cm .wd (tok ++ sg c) q r := by rw [rt_esE]; rfl
theorem rt_es1 (hb : (!(c == 92) && !(c == 34)) = true) : rt px cm (.es true) tok q (c :: r) = rt px cm (.qt 34) (tok ++ sg 92 ++ sg c) q r := by rw [rt_esE]; simp only [Bool.true_and, hb, if_true]
theorem rt_es2 (hb : (!(c == 92) && !(c == 34)) = false) : rt px cm (.es true) tok q (c :: r) = rt px cm (.qt 34) (tok ++ sg c) q r := by rw [rt_esE]; simp only [Bool.true_and, hb, if_true, Bool.false_eq_true, if_false]
theorem rt_sp_wd (hw : isWs c = false) (hc : (cm && c == 35) = false) (hb : (px && c == 92) = false) (hq : isQt c = false) : rt px cm .sp tok q (c :: r) = rt px cm .wd (sg c) q r := by
  rw [rt_spE, if_neg (by simp [hw]), if_neg (by simp [hc]), if_neg (by simp [hb]), if_neg (by simp [hq])]
end

noncomputable def rrMsg : RR → Option Str
  | .noClose => some (Str.ofString "No closing quotation")
  | .noEsc => some (Str.ofString "No escaped character")
  | .out _ _ _ _ => none
/-- what read_token hands back -/
noncomputable def tokVal (px quoted : Bool) (tok : Str) (t : Tok) : Value := if (px && !quoted && tok == Str.ofString "") = true then .none else .str tok t
noncomputable def stOf (fin : Bool) : SS := if fin = true then .dn else .sp
theorem At.len {buf : Str} {pos : Int} {rest : List Nat} (h : At buf pos rest) : rest.length ≤ buf.length := by
  obtain ⟨_, _, e⟩ := h
  rw [← e, List.length_drop]
  have h2 : buf.length = buf.cps.toList.length := by simp [Str.length]
  omega
end
section
/-- is it the end, as the lexer tells it -/
noncomputable def isEnd (px quoted : Bool) (tok : Str) : Bool := if px then !quoted && tok == Str.ofString "" else tok == Str.ofString ""
noncomputable def eofVal (px : Bool) (t : Tok) : Value := if px = true then .none else .str (Str.ofString "") t
end
section
section
variable {w : World} {A : Around} {E : Value → Shared → Prop} {Q : Unit → Shared → Prop} {hp : Heap} {gs : Array GenState} {dr : Drawn} {tk : Nat} {os : OsState} {h₀ : Heap} {L : Addr} {m : Str → Option Value} {S dS I dI P Fk : Nat} {κ υ : Nat → Tok} {px : Bool} {vE : Value} {cm wc : Str} {vS v : Value} {ln z : Int} {ul t : Tok} {tok x : Str} {ut : Tok} {oi : Obj} {news : Led}
theorem lx_state (h : ∀ h', Fr h₀ L h' m → News h₀ L h' (lexLed S dS I dI (lexDict w κ υ I P Fk px vE cm wc v ln ul tok ut) oi news) → Q () ⟨h', gs, dr, tk + 2, os⟩) (F : Fr h₀ L hp m := by k_asm) (X : (hd.heap_39 w.params).In h₀ := by k_asm) (N : News h₀ L hp (lexLed S dS I dI (lexDict w κ υ I P Fk px vE cm wc vS ln ul tok ut) oi news) := by k_asm) (o1 : dS < S := by assumption) (o2 : S < dI := by assumption) (o3 : dI < I := by assumption) (hn : ∀ p ∈ news, p.1 ≠ dS := by assumption) : wpAny (model PG w) A (setAttr (.ref S) (Str.ofString "state") v) Q E ⟨hp, gs, dr, tk, os⟩ := by
  have hpr := prog_here
  revert hpr
  revert X
  k_fill
  intro X _
  walk1
  exact h _ (by k_asm) (by k_asm)
theorem lx_token (h : ∀ h', Fr h₀ L h' m → News h₀ L h' (lexLed S dS I dI (lexDict w κ υ I P Fk px vE cm wc vS ln ul x t) oi news) → Q () ⟨h', gs, dr, tk + 2, os⟩) (F : Fr h₀ L hp m := by k_asm) (X : (hd.heap_39 w.params).In h₀ := by k_asm) (N : News h₀ L hp (lexLed S dS I dI (lexDict w κ υ I P Fk px vE cm wc vS ln ul tok ut) oi news) := by k_asm) (o1 : dS < S := by assumption) (o2 : S < dI := by assumption) (o3 : dI < I := by assumption) (hn : ∀ p ∈ news, p.1 ≠ dS := by assumption) : wpAny (model PG w) A (setAttr (.ref S) (Str.ofString "token") (.str x t)) Q E ⟨hp, gs, dr, tk, os⟩ := by
  have hpr := prog_here
  revert hpr
  revert X
  k_fill
  intro X _
  walk1
  exact h _ (by k_asm) (by k_asm)
theorem lx_lineno (h : ∀ h', Fr h₀ L h' m → News h₀ L h' (lexLed S dS I dI (lexDict w κ υ I P Fk px vE cm wc vS z t tok ut) oi news) → Q () ⟨h', gs, dr, tk + 2, os⟩) (F : Fr h₀ L hp m := by k_asm) (X : (hd.heap_39 w.params).In h₀ := by k_asm) (N : News h₀ L hp (lexLed S dS I dI (lexDict w κ υ I P Fk px vE cm wc vS ln ul tok ut) oi news) := by k_asm) (o1 : dS < S := by assumption) (o2 : S < dI := by assumption) (o3 : dI < I := by assumption) (hn : ∀ p ∈ news, p.1 ≠ dS := by assumption) : wpAny (model PG w) A (setAttr (.ref S) (Str.ofString "lineno") (.int z t)) Q E ⟨hp, gs, dr, tk, os⟩ := by
  have hpr := prog_here
  revert hpr
  revert X
  k_fill
  intro X _
  walk1
  exact h _ (by k_asm) (by k_asm)
end
end
local macro_rules | `(tactic| walk_at $s:str) => wk "compareOp In str str/compareOp Eq str str/compareOp NotEq str str/truthy str;R;in_ws in_qt in_bs in_dq in_none in_a_qt in_a_bs in_sg eq_sg ne_sg truthy_sg" s
local macro_rules | `(tactic| walk_at $s:str) => if ["exec If", "execs cons"].contains s.getString then `(tactic| (k_here; k_fold)) else Lean.Macro.throwUnsupported
section
local macro_rules | `(tactic| walk_at "inplaceOp Add str str") => `(tactic| (k_here; (with_reducible refine' iadd_sg ?ka ?_); (case ka => ((try simp only [len_app, len_sg]); omega)); intro _ _))
local macro_rules | `(tactic| walk_at "compareOp In str ref") => `(tactic| (k_here; (rename News _ _ _ _ => nac9); (with_unfolding_all refine in_ac nac9 ?_); clear nac9; intro nac9))
set_option linter.unusedSimpArgs false
noncomputable def nxS : List Nat → Str
  | [] => Str.ofString ""
  | c :: _ => sg c
/-- behind the reading of a sign -/
noncomputable def RtMid (w : World) (S dS I dI P Fk : Nat) (κ υ : Nat → Tok) (u ub : Tok) (px : Bool) (vE : Value) (cm wc : Str) (vS : Value) (tok : Str) (ut : Tok) (buf : Str) (rest : List Nat) (news : Led) (quoted : Bool) (esS : Str) (te : Tok) (m₀ : Str → Option Value) (g : Heap) (L : Addr) (s s' : Shared) : Prop :=
  ∃ h' tk' ln ul pos up t, s' = { s with heap := h', toks := tk' } ∧ Fr g L h' (fun y => if y = Str.ofString "nextchar" then some (.str (nxS rest) t) else if y = Str.ofString "self" then some (.ref S) else if y = Str.ofString "quoted" then some (.bool quoted) else if y = Str.ofString "escapedstate" then some (.str esS te) else m₀ y) ∧
    News g L h' (lexLed S dS I dI (lexDict w κ υ I P Fk px vE cm wc vS ln ul tok ut) (ioDict w κ u buf ub pos up) news) ∧ At buf pos rest.tail
theorem joinR {M : Model} {A : Around} {E : Value → Shared → Prop} {env : Env} {stmt : Stmt} {Q : Flow → Shared → Prop} {s : Shared} (Mid : Shared → Prop)
    (h1 : wpAny M A (exec stmt env) (fun f s' => f = .next ∧ Mid s') E s) (h2 : ∀ s', Mid s' → Q .next s') : wpAny M A (exec stmt env) Q E s :=
  wpAny_mono h1 (fun f s' p => by obtain ⟨rfl, hm⟩ := p; exact h2 s' hm) fun _ _ e => e
theorem hold_pc {M : Model} {A : Around} {E : Value → Shared → Prop} {s : Shared} {Q : Flow → Shared → Prop} {env : Env} {x : Expr} {p q pp : Pos} {r : List Expr} {b e : List Stmt} (h : Hold (wpAny M A (exec (.If (.BoolOp .And (.Attribute x (Str.ofString "punctuation_chars") p :: r) q) b e pp) env) Q E s)) :
    wpAny M A (exec (.If (.BoolOp .And (.Attribute x (Str.ofString "punctuation_chars") p :: r) q) b e pp) env) Q E s := h.out
theorem hold_ln {M : Model} {A : Around} {E : Value → Shared → Prop} {s : Shared} {Q : Flow → Shared → Prop} {env : Env} {x : Str} {a b c d e : Pos} {k : Const} {tg v : Expr} {op : Operator} {u : Nat} (h : Hold (wpAny M A (exec (.If (.Compare (.Name x a) [.Eq] [.Constant k u b] c) [.AugAssign tg op v d] [] e) env) Q E s)) : wpAny M A (exec (.If (.Compare (.Name x a) [.Eq] [.Constant k u b] c) [.AugAssign tg op v d] [] e) env) Q E s := h.out
local macro_rules | `(tactic| walk_at $s:str) => wk "exec If;isMid;hold_ln hold_pc|setAttr ref;I;lx_state lx_token lx_lineno|compareOp NotIn str str;R;notin_none" s
theorem read_token (w : World) (mean mg mb) (S dS I dI P Fk : Nat) (κ υ : Nat → Tok) (u ub up ul ut us : Tok) (px cmb : Bool) (vE : Value) (cm wc : Str) (ln : Int) (buf : Str) (pos : Int) (rest : List Nat) (news : Led) (st₀ : SS) (hst : st₀ = .sp ∨ st₀ = .dn) (hA : At buf pos rest) (hb : buf.length < 2 ^ 20)
   (o1 : dS < S) (o2 : S < dI) (o3 : dI < I) (hn1 : ∀ p ∈ news, p.1 ≠ dI) (hn2 : ∀ p ∈ news, p.1 ≠ dS) (hcm : ∀ c, inS cm c = (cmb && c == 35)) (hwc : ∀ c, inS wc c = true → isQt c = false) :
   CtrE w mean mg mb 697 [.ref S] (lexLed S dS I dI (lexDict w κ υ I P Fk px vE cm wc (stVal us st₀) ln ul (Str.ofString "") ut) (ioDict w κ u buf ub pos up) news) 6 64
     (fun v news' => ∃ tok quoted fin rest' us' ut' ul' up' ln' pos' t, rt px cmb st₀ (Str.ofString "") false rest = .out tok quoted fin rest' ∧ v = tokVal px quoted tok t ∧ At buf pos' rest' ∧ tok.length ≤ buf.length ∧
       news' = lexLed S dS I dI (lexDict w κ υ I P Fk px vE cm wc (stVal us' (stOf fin)) ln' ul' (Str.ofString "") ut') (ioDict w κ u buf ub pos' up') news)
     (fun cls vs news' => cls = "ValueError" ∧ (∃ msg t, rrMsg (rt px cmb st₀ (Str.ofString "") false rest) = some msg ∧ vs = [.str msg t]) ∧ ∀ p ∈ news, p ∈ news') := by
  have hpr := prog_here
  revert hpr
  unfold CtrE
  k_fill
  intro _ dp un gd cn cs a ccd cl outer A₀ base h₀ L m s Q E B F X N T hk hd hu hret hexc
  refine wpAny_call ?_
  k_dflt (refine' code_def ?k1 ?k2 ?k3 ?k4 ?k5 ?kA ?kF ?kK ?k6 ?k7 ?k8 ?k9 ?kB ?_ ?c2 ?c3 ?c4 ?c5; (case kA | kF => exact rfl); (case kK => assumption); (case k1 | k2 | k3 | k4 | k5 => k_asm); (case k6 | k7 => k_is); (case k8 => k_room); (case k9 => first | exact BindsTo.of_eq rfl | exact binds_K (by k_in) rfl (by k_is) rfl rfl rfl); (case c5 => decide); (case kB => exact locs rfl); (case c2 | c3 | c4 => exact rfl); k_whole; intro _ _ _ _ _ _ _ _ _; (try dsimp only); (try k_fold))
  rename_i gE LE hE FE F0 N0 BE XE TE
  k_steps
  refine ⟨?_⟩
  rename Fr _ _ _ _ => F1
  rename News _ _ _ _ => N1
  refine loop_rule (S := S) (dS := dS) (I := I) (dI := dI) (P := P) (Fk := Fk) (κ := κ) (υ := υ) (u := u) (ub := ub) (px := px) (cmb := cmb) (vE := vE) (cm := cm) (wc := wc) (buf := buf) (news := news) (rt px cmb st₀ (Str.ofString "") false rest) (n₀ := rest.length) F1 N1 ⟨st₀, _, false, _, _, _, _, _, _, _, _, rest, rfl, rfl, hA, ?_, ?_, rfl, rfl, rfl, rfl⟩ ?_ ?_
  · have := hA.len
    rcases hst with rfl | rfl <;> (rw [len_none]; simp only [esN]; omega)
  · rcases hst with rfl | rfl
    · exact ⟨rfl, rfl⟩
    · trivial
  rotate_left
  · intro s' p
    obtain ⟨_, tok, quoted, fin, rest', us', ut', ul', up', ln', pos', m', h', tk', hR, rfl, F', N', hA', hsz', hm1, hm2⟩ := p.get
    clear F1 N1 p
    have em : m' = fun y => if y = Str.ofString "self" then some (.ref S) else if y = Str.ofString "quoted" then some (.bool quoted) else m' y := by
      funext y
      split
      · subst_vars; exact hm1
      · split
        · subst_vars; exact hm2
        · rfl
    rw [em] at F'
    generalize m' = m₁' at F'
    clear em hm1 hm2
    generalize hv : (if fin = true then Value.none else Value.str (Str.ofString " ") us') = vS at N'
    have hv' : vS = stVal us' (stOf fin) := by rw [← hv]; cases fin <;> rfl
    clear hv
    dsimp only
    k_steps
    all_goals (try dsimp only)
    all_goals (
      refine hret _ _ _ _ (by k_asm) (by k_asm) ⟨tok, quoted, fin, rest', us', _, _, _, _, _, ut', hR, ?_, hA', hsz', by rw [hv']⟩
      first
        | exact (if_neg (by simp [*])).symm
        | exact (if_pos (by simp [*])).symm)
  rintro n m₁ led h₁ tk₁ F₂ N₂ ⟨st, tok, quoted, esS, te, us, ut, ul, up, ln, pos, rest, rfl, hR, hAt, hsz, hok, rfl, hm1, hm2, hm3⟩
  clear F1 N1
  have em : m₁ = fun y => if y = Str.ofString "self" then some (.ref S) else if y = Str.ofString "quoted" then some (.bool quoted) else if y = Str.ofString "escapedstate" then some (.str esS te) else m₁ y := by
    funext y
    split
    · subst_vars; exact hm1
    · split
      · subst_vars; exact hm2
      · split
        · subst_vars; exact hm3
        · rfl
  rw [em] at F₂
  generalize m₁ = m₁' at F₂
  clear em hm1 hm2 hm3
  generalize hvS : stVal us st = vS at N₂
  k_steps
  refine Hold.mk ?_
  rename Fr _ _ _ _ => F1
  refine joinR (RtMid w S dS I dI P Fk κ υ u ub px vE cm wc vS tok ut buf rest news quoted esS te m₁' gE LE s) ?_ ?_
  · cases rest with
    | nil =>
      k_steps
      refine Hold.mk ?_
      k_dflt (refine' ctr_use (read1 _ _ _ _ _ _ _ _ _ _ _ _ _ _ _ _ _ _ ?hA ?hb ?o1 ?o2 ?o3 ?hn1) ?k1 ?k2 ?k3 ?k4 ?k5 ?kK ?kd ?ku ?_; (case k1 | k2 | k3 | k4 | k5 => k_asm); (case kK => first | exact rfl | assumption); (case hA | hb | o1 | o2 | o3 | hn1 => assumption); (case kd => ktr_room); (case ku => ktr_units); intro v9 h9 tk9 n9 F9 N9 P9; (obtain ⟨t9, pos9, up9, e9, hA9, f9⟩ := P9); (subst e9); (subst f9); (dsimp only [List.tail] at hA9 ⊢); (try k_fold))
      k_steps
      all_goals exact ⟨_, _, _, _, _, _, _, rfl, by k_asm, by k_asm, ‹At buf _ _›⟩
    | cons c r =>
      k_steps
      refine Hold.mk ?_
      k_dflt (refine' ctr_use (read1 _ _ _ _ _ _ _ _ _ _ _ _ _ _ _ _ _ _ ?hA ?hb ?o1 ?o2 ?o3 ?hn1) ?k1 ?k2 ?k3 ?k4 ?k5 ?kK ?kd ?ku ?_; (case k1 | k2 | k3 | k4 | k5 => k_asm); (case kK => first | exact rfl | assumption); (case hA | hb | o1 | o2 | o3 | hn1 => assumption); (case kd => ktr_room); (case ku => ktr_units); intro v9 h9 tk9 n9 F9 N9 P9; (obtain ⟨t9, pos9, up9, e9, hA9, f9⟩ := P9); (subst e9); (subst f9); (dsimp only [List.tail] at hA9 ⊢); (try k_fold))
      k_steps
      all_goals exact ⟨_, _, _, _, _, _, _, rfl, by k_asm, by k_asm, ‹At buf _ _›⟩
  clear F1 N₂ hAt
  rintro _ ⟨h₂, tk₂, ln₂, ul₂, pos₂, up₂, tn, rfl, F₃, N₃, hAt⟩
  try dsimp only
  k_steps
  refine Hold.mk ?_
  refine joinR (RtMid w S dS I dI P Fk κ υ u ub px vE cm wc vS tok ut buf rest news quoted esS te m₁' gE LE s) ?_ ?_
  · cases rest with
    | nil =>
      dsimp only [nxS] at F₃
      k_steps
      all_goals exact ⟨_, _, _, _, _, _, _, rfl, by k_asm, by k_asm, hAt⟩
    | cons c r =>
      dsimp only [nxS] at F₃
      k_steps
      all_goals exact ⟨_, _, _, _, _, _, _, rfl, by k_asm, by k_asm, hAt⟩
  clear F₃ N₃ hAt
  rintro _ ⟨h₃, tk₃, ln₃, ul₃, pos₃, up₃, tm, rfl, F₃, N₃, hAt⟩
  try dsimp only
  cases st with
  | dn =>
    dsimp only [stVal, stStr] at hvS
    subst hvS
    cases rest with
    | nil =>
      dsimp only [nxS] at F₃
      replace hAt : At buf pos₃ [] := hAt
      k_steps
      all_goals (try dsimp only)
      all_goals first
        | exact breakT (by k_asm) (by k_asm) (by exact rfl) (by exact rfl) ‹At buf _ []› (hR.symm.trans rt_dn) (by rw [len_none]; omega)
    | cons c r =>
      dsimp only [nxS] at F₃
      replace hAt : At buf pos₃ r := hAt
      k_steps
      all_goals (try dsimp only)
      all_goals first
        | exact breakT (by k_asm) (by k_asm) (by exact rfl) (by exact rfl) ‹At buf _ r› (hR.symm.trans rt_dn) (by rw [len_none]; omega)
  | sp =>
    dsimp only [stVal, stStr] at hvS
    subst hvS
    obtain ⟨rfl, rfl⟩ := hok
    cases rest with
    | nil =>
      dsimp only [nxS] at F₃
      replace hAt : At buf pos₃ [] := hAt
      k_steps
      all_goals (try dsimp only)
      all_goals first
        | exact breakT (by k_asm) (by k_asm) (by exact rfl) (by exact rfl) ‹At buf _ []› (hR.symm.trans rt_sp_nil) (by rw [len_none]; omega)
    | cons c r =>
      dsimp only [nxS] at F₃
      replace hAt : At buf pos₃ r := hAt
      have hsg : (sg c).length = 1 := rfl
      k_steps
      all_goals first
        | (refine Hold.mk ?_; k_dflt (refine' ctr_use (readline _ _ _ _ _ _ _ _ _ _ _ _ _ _ _ _ _ ?hA ?hb ?o1 ?o2 ?o3 ?hn1) ?k1 ?k2 ?k3 ?k4 ?k5 ?kK ?kd ?ku ?_; (case k1 | k2 | k3 | k4 | k5 => k_asm); (case kK => first | exact rfl | assumption); (case hA | hb | o1 | o2 | o3 | hn1 => assumption); (case kd => ktr_room); (case ku => ktr_units); intro v9 h9 tk9 n9 F9 N9 P9; (obtain ⟨pos9, up9, hA9, f9⟩ := P9); (subst f9); (try k_fold)); k_steps)
        | skip
      all_goals (try dsimp only)
      all_goals first
        | exact stepN _ (by first | exact .inl rfl | exact .inr rfl) .sp (by k_asm) (by k_asm) (by exact rfl) (by exact rfl) (by exact rfl) ‹At buf _ r› ((rt_sp_ws ‹isWs c = true›).symm.trans hR) (by simp only [esN, cond_true, cond_false, List.length_cons, len_none, len_sg] at hsz ⊢; omega) ⟨rfl, rfl⟩ (Nat.lt_succ_self _)
        | exact stepN _ (by first | exact .inl rfl | exact .inr rfl) .sp (by k_asm) (by k_asm) (by exact rfl) (by exact rfl) (by exact rfl) ‹At buf _ (afterLine r)› ((rt_sp_cm ‹isWs c = false› ((hcm c).symm.trans ‹inS cm c = true›)).symm.trans hR) (by have := afterLine_le r; simp only [esN, cond_true, cond_false, List.length_cons, len_none, len_sg] at hsz ⊢; omega) ⟨rfl, rfl⟩ (Nat.lt_succ_of_le (afterLine_le _))
        | exact stepN _ (by first | exact .inl rfl | exact .inr rfl) .wd (by k_asm) (by k_asm) (by exact rfl) (by exact rfl) (by exact rfl) ‹At buf _ r› ((rt_sp_wd ‹isWs c = false› ((hcm c).symm.trans ‹inS cm c = false›) (by first | (rw [‹px = false›]; rfl) | (rw [‹(c == 92) = false›, Bool.and_false])) (by first | assumption | exact hwc c ‹_›)).symm.trans hR) (by simp only [esN, cond_true, cond_false, List.length_cons, len_none, len_sg] at hsz ⊢; omega) (.inl (by rw [len_sg]; decide)) (Nat.lt_succ_self _)
        | exact stepN _ (by first | exact .inl rfl | exact .inr rfl) (.qt c) (by k_asm) (by k_asm) (by exact rfl) (by exact rfl) (by exact rfl) ‹At buf _ r› ((rt_sp_qt1 ‹isWs c = false› ((hcm c).symm.trans ‹inS cm c = false›) ‹px = true› ‹(c == 92) = false› ‹isQt c = true›).symm.trans hR) (by simp only [esN, cond_true, cond_false, List.length_cons, len_none, len_sg] at hsz ⊢; omega) (qt_of ‹isQt c = true›) (Nat.lt_succ_self _)
        | exact stepN _ (by first | exact .inl rfl | exact .inr rfl) (.qt c) (by k_asm) (by k_asm) (by exact rfl) (by exact rfl) (by exact rfl) ‹At buf _ r› ((rt_sp_qt0 ‹isWs c = false› ((hcm c).symm.trans ‹inS cm c = false›) ‹px = false› ‹isQt c = true›).symm.trans hR) (by simp only [esN, cond_true, cond_false, List.length_cons, len_none, len_sg] at hsz ⊢; omega) (qt_of ‹isQt c = true›) (Nat.lt_succ_self _)
        | (have hc92 := ‹(c == 92) = true›
           have hes := rt_sp_es (tok := Str.ofString "") (q := false) (r := r) ‹isWs c = false› ((hcm c).symm.trans ‹inS cm c = false›) ‹px = true› hc92
           obtain rfl : c = 92 := by simpa using hc92
           exact stepN _ (by first | exact .inl rfl | exact .inr rfl) (.es false) (by k_asm) (by k_asm) (by exact rfl) (by exact rfl) (by exact rfl) ‹At buf _ r› (hes.symm.trans hR) (by simp only [esN, cond_true, cond_false, List.length_cons, len_none, len_sg] at hsz ⊢; omega) ⟨‹px = true›, rfl⟩ (Nat.lt_succ_self _))
  | wd =>
    dsimp only [stVal, stStr] at hvS
    subst hvS
    have hok' : px = true → quoted = false → tok.length ≠ 0 := fun a b => hok.elim id fun x => by rw [x.2] at b; cases b
    have hok0 : px = false → tok.length ≠ 0 := fun a => hok.elim id fun x => by rw [x.1] at a; cases a
    cases rest with
    | nil =>
      dsimp only [nxS] at F₃
      replace hAt : At buf pos₃ [] := hAt
      k_steps
      all_goals (try dsimp only)
      all_goals first
        | exact breakT (by k_asm) (by k_asm) (by exact rfl) (by exact rfl) ‹At buf _ []› (hR.symm.trans rt_wd_nil) (by simp only [esN, cond_true, cond_false, List.length_cons, List.length_nil, len_none, len_sg, len_app, len_bs] at hsz ⊢; omega)
    | cons c r =>
      dsimp only [nxS] at F₃
      replace hAt : At buf pos₃ r := hAt
      have htl : tok.length + 1 ≤ buf.length := by simp only [List.length_cons] at hsz; omega
      k_steps
      all_goals first
        | (refine Hold.mk ?_; k_dflt (refine' ctr_use (readline _ _ _ _ _ _ _ _ _ _ _ _ _ _ _ _ _ ?hA ?hb ?o1 ?o2 ?o3 ?hn1) ?k1 ?k2 ?k3 ?k4 ?k5 ?kK ?kd ?ku ?_; (case k1 | k2 | k3 | k4 | k5 => k_asm); (case kK => first | exact rfl | assumption); (case hA | hb | o1 | o2 | o3 | hn1 => assumption); (case kd => ktr_room); (case ku => ktr_units); intro v9 h9 tk9 n9 F9 N9 P9; (obtain ⟨pos9, up9, hA9, f9⟩ := P9); (subst f9); (try k_fold)); k_steps)
        | skip
      all_goals (try dsimp only)
      all_goals first
        | exact breakF (by k_asm) (by k_asm) (by exact rfl) (by exact rfl) ‹At buf _ r› (hR.symm.trans (rt_wd_ws ‹isWs c = true›)) (by simp only [esN, cond_true, cond_false, List.length_cons, List.length_nil, len_none, len_sg, len_app, len_bs] at hsz ⊢; omega)
        | exact breakF (by k_asm) (by k_asm) (by exact rfl) (by exact rfl) ‹At buf _ (afterLine r)› (hR.symm.trans (rt_wd_cm1 ‹isWs c = false› ((hcm c).symm.trans ‹inS cm c = true›) ‹px = true›)) (by have := afterLine_le r; simp only [esN, cond_true, cond_false, List.length_cons, List.length_nil, len_none, len_sg, len_app, len_bs] at hsz ⊢; omega)
        | exact stepN _ (by first | exact .inl rfl | exact .inr rfl) .wd (by k_asm) (by k_asm) (by exact rfl) (by exact rfl) (by exact rfl) ‹At buf _ (afterLine r)› ((rt_wd_cm0 ‹isWs c = false› ((hcm c).symm.trans ‹inS cm c = true›) ‹px = false›).symm.trans hR) (by have := afterLine_le r; simp only [esN, cond_true, cond_false, List.length_cons, List.length_nil, len_none, len_sg, len_app, len_bs] at hsz ⊢; omega) hok (Nat.lt_succ_of_le (afterLine_le _))
        | exact stepN _ (by first | exact .inl rfl | exact .inr rfl) (.qt c) (by k_asm) (by k_asm) (by exact rfl) (by exact rfl) (by exact rfl) ‹At buf _ r› ((rt_wd_qt ‹isWs c = false› ((hcm c).symm.trans ‹inS cm c = false›) ‹px = true› ‹isQt c = true›).symm.trans hR) (by simp only [esN, cond_true, cond_false, List.length_cons, List.length_nil, len_none, len_sg, len_app, len_bs] at hsz ⊢; omega) (qt_of ‹isQt c = true›) (Nat.lt_succ_self _)
        | exact stepN _ (by first | exact .inl rfl | exact .inr rfl) .wd (by k_asm) (by k_asm) (by exact rfl) (by exact rfl) (by exact rfl) ‹At buf _ r› ((rt_wd_wd1 ‹isWs c = false› ((hcm c).symm.trans ‹inS cm c = false›) ‹isQt c = false› ‹(c == 92) = false›).symm.trans hR) (by simp only [esN, cond_true, cond_false, List.length_cons, List.length_nil, len_none, len_sg, len_app, len_bs] at hsz ⊢; omega) (.inl (by rw [len_app, len_sg]; omega)) (Nat.lt_succ_self _)
        | exact stepN _ (by first | exact .inl rfl | exact .inr rfl) .wd (by k_asm) (by k_asm) (by exact rfl) (by exact rfl) (by exact rfl) ‹At buf _ r› ((rt_wd_wd0 ‹isWs c = false› ((hcm c).symm.trans ‹inS cm c = false›) ‹px = false›).symm.trans hR) (by simp only [esN, cond_true, cond_false, List.length_cons, List.length_nil, len_none, len_sg, len_app, len_bs] at hsz ⊢; omega) (.inl (by rw [len_app, len_sg]; omega)) (Nat.lt_succ_self _)
        | (have hc92 := ‹(c == 92) = true›
           have hes := rt_wd_es (tok := tok) (q := quoted) (r := r) ‹isWs c = false› ((hcm c).symm.trans ‹inS cm c = false›) ‹px = true› ‹isQt c = false› hc92
           obtain rfl : c = 92 := by simpa using hc92
           exact stepN _ (by first | exact .inl rfl | exact .inr rfl) (.es false) (by k_asm) (by k_asm) (by exact rfl) (by exact rfl) (by exact rfl) ‹At buf _ r› (hes.symm.trans hR) (by simp only [esN, cond_true, cond_false, List.length_cons, List.length_nil, len_none, len_sg, len_app, len_bs] at hsz ⊢; omega) ⟨‹px = true›, rfl⟩ (Nat.lt_succ_self _))
        | exact absurd (by omega) (hok' ‹px = true› ‹quoted = false›)
        | exact absurd (by omega) (hok0 ‹px = false›)
  | qt d =>
    dsimp only [stVal, stStr] at hvS
    subst hvS
    have hq : isQt d = true := by rcases hok with rfl | rfl <;> rfl
    have hsp : (sg d == Str.ofString " ") = false := by rcases hok with rfl | rfl <;> decide +kernel
    · cases rest with
      | nil =>
        dsimp only [nxS] at F₃
        replace hAt : At buf pos₃ [] := hAt
        k_steps
        all_goals (try dsimp only)
        all_goals exact hexc _ _ _ _ _ _ _ _ ‹RaisedS base _ _ _ _ _ _ _ _› ‹Fr h₀ L _ m› ‹_› ⟨rfl, ⟨_, _, by rw [← hR, rt_qt_nil]; rfl, rfl⟩, fun _ hp => .tail _ (.tail _ (.tail _ (.tail _ hp)))⟩
      | cons c r =>
        dsimp only [nxS] at F₃
        replace hAt : At buf pos₃ r := hAt
        have htl : tok.length + 1 ≤ buf.length := by simp only [List.length_cons] at hsz; omega
        k_steps
        all_goals (try dsimp only)
        all_goals first
          | exact stepN _ (by first | exact .inl rfl | exact .inr rfl) .wd (by k_asm) (by k_asm) (by exact rfl) (by exact rfl) (by exact rfl) ‹At buf _ r› ((rt_qt_end1 ‹(c == d) = true› ‹px = true›).symm.trans hR) (by simp only [esN, cond_true, cond_false, List.length_cons, List.length_nil, len_none, len_sg, len_app, len_bs] at hsz ⊢; omega) (.inr ⟨‹px = true›, rfl⟩) (Nat.lt_succ_self _)
          | exact breakF (by k_asm) (by k_asm) (by exact rfl) (by exact rfl) ‹At buf _ r› (hR.symm.trans (rt_qt_end0 ‹(c == d) = true› ‹px = false›)) (by simp only [esN, cond_true, cond_false, List.length_cons, List.length_nil, len_none, len_sg, len_app, len_bs] at hsz ⊢; omega)
          | exact stepN _ (by first | exact .inl rfl | exact .inr rfl) (.qt d) (by k_asm) (by k_asm) (by exact rfl) (by exact rfl) (by exact rfl) ‹At buf _ r› ((rt_qt_in ‹(c == d) = false› (by first | (rw [‹(d == 34) = false›, Bool.and_false]) | (rw [‹px = false›]; rfl) | (rw [‹(c == 92) = false›]; cases px <;> rfl) | (cases px <;> cases c == 92 <;> rfl))).symm.trans hR) (by simp only [esN, cond_true, cond_false, List.length_cons, List.length_nil, len_none, len_sg, len_app, len_bs] at hsz ⊢; omega) hok (Nat.lt_succ_self _)
          | (have hd34 := ‹(d == 34) = true›
             obtain rfl : d = 34 := by simpa using hd34
             have hc92 := ‹(c == 92) = true›
             have hes := rt_qt_es (cm := cmb) (d := 34) (tok := tok) (q := quoted) (r := r) ‹(c == 34) = false› ‹px = true› hc92 (by rfl)
             obtain rfl : c = 92 := by simpa using hc92
             exact stepN _ (by first | exact .inl rfl | exact .inr rfl) (.es true) (by k_asm) (by k_asm) (by exact rfl) (by exact rfl) (by exact rfl) ‹At buf _ r› (hes.symm.trans hR) (by simp only [esN, cond_true, cond_false, List.length_cons, List.length_nil, len_none, len_sg, len_app, len_bs] at hsz ⊢; omega) ⟨‹px = true›, rfl⟩ (Nat.lt_succ_self _))
  
  | es dq =>
    dsimp only [stVal, stStr] at hvS
    subst hvS
    obtain ⟨hpx, rfl⟩ := hok
    cases rest with
    | nil =>
      dsimp only [nxS] at F₃
      replace hAt : At buf pos₃ [] := hAt
      k_steps
      all_goals (try dsimp only)
      all_goals exact hexc _ _ _ _ _ _ _ _ ‹RaisedS base _ _ _ _ _ _ _ _› ‹Fr h₀ L _ m› ‹_› ⟨rfl, ⟨_, _, by rw [← hR, rt_es_nil]; rfl, rfl⟩, fun _ hp => .tail _ (.tail _ (.tail _ (.tail _ hp)))⟩
    | cons c r =>
      cases dq
      · simp only [Bool.false_eq_true, if_false, if_true] at F₃
        dsimp only [nxS] at F₃
        replace hAt : At buf pos₃ r := hAt
        have htl : tok.length + 1 ≤ buf.length := by simp only [List.length_cons] at hsz; omega
        k_steps
        all_goals (try dsimp only)
        all_goals first
          | exact stepN _ (by first | exact .inl rfl | exact .inr rfl) .wd (by k_asm) (by k_asm) (by exact rfl) (by exact rfl) (by exact rfl) ‹At buf _ r› (rt_es0.symm.trans hR) (by simp only [esN, cond_true, cond_false, List.length_cons, List.length_nil, len_none, len_sg, len_app, len_bs] at hsz ⊢; omega) (.inl (by rw [len_app, len_sg]; omega)) (Nat.lt_succ_self _)
      · simp only [Bool.false_eq_true, if_false, if_true] at F₃
        dsimp only [nxS] at F₃
        replace hAt : At buf pos₃ r := hAt
        have htl : tok.length + 1 ≤ buf.length := by simp only [List.length_cons] at hsz; omega
        k_steps
        all_goals (try dsimp only)
        all_goals first
          | exact stepN _ (by first | exact .inl rfl | exact .inr rfl) (.qt 34) (by k_asm) (by k_asm) (by exact rfl) (by exact rfl) (by exact rfl) ‹At buf _ r› ((rt_es2 (by first | (rw [‹(c == 92) = true›]; rfl) | (rw [‹(c == 34) = true›]; cases c == 92 <;> rfl) | assumption)).symm.trans hR) (by simp only [esN, cond_true, cond_false, List.length_cons, List.length_nil, len_none, len_sg, len_app, len_bs] at hsz ⊢; omega) (.inr rfl) (Nat.lt_succ_self _)
          | exact stepN _ (by first | exact .inl rfl | exact .inr rfl) (.qt 34) (by k_asm) (by k_asm) (by exact rfl) (by exact rfl) (by exact rfl) ‹At buf _ r› ((rt_es1 (by rw [‹(c == 92) = false›, ‹(c == 34) = false›]; rfl)).symm.trans hR) (by simp only [esN, cond_true, cond_false, List.length_cons, List.length_nil, len_none, len_sg, len_app, len_bs] at hsz ⊢; omega) (.inr rfl) (Nat.lt_succ_self _)
end
section
theorem while_once {prog : Program} {w : World} {A : Around} {E : Value → Shared → Prop} {Q : Flow → Shared → Prop} {s : Shared} {env : Env} {test : Expr} {body : List Stmt} {pos : Pos}
    (turn : wpAny (model prog w) A (isTrue test env (eval test env)) (fun b s₂ => if b = true then wpAny (model prog w) A (execs body env) (fun f s₃ => match f with | .ret v => Q (.ret v) s₃ | .brk => Q .next s₃ | _ => False) E s₂ else Q .next s₂) E s)
    (hE : PassesOwn (model prog w) A env E := by passes_own) : wpAny (model prog w) A (exec (.While test body [] pos) env) Q E s := by
  refine wpAny_While (codeAny_whileLoop (fun n s' => n = 0 ∧ s' = s) ?_ 0 ⟨rfl, rfl⟩)
  rintro n s' ⟨rfl, rfl⟩
  refine wpAny_mono turn (fun b s₂ h₂ => ?_) hE
  cases b with
  | false =>
    simp only [Bool.false_eq_true, if_false] at h₂ ⊢
    exact wpAny_execs_nil h₂
  | true =>
    simp only [if_true] at h₂ ⊢
    refine wpAny_mono h₂ (fun f s₃ h₃ => ?_) hE
    cases f with
    | next => exact h₃.elim
    | cont => exact h₃.elim
    | brk => exact h₃
    | ret v => exact h₃
theorem tokVal_cases {px q : Bool} {tok : Str} {t : Tok} {v : Value} (h : v = tokVal px q tok t) : ((px && !q && tok == Str.ofString "") = true ∧ v = .none) ∨ ((px && !q && tok == Str.ofString "") = false ∧ v = .str tok t) := by
  unfold tokVal at h
  split at h
  · rename_i hc; exact .inl ⟨hc, h⟩
  · rename_i hc; exact .inr ⟨by simpa using hc, h⟩
local macro_rules | `(tactic| walk_at $s:str) => wk "exec While Compare cons nil;R;while_once" s
local macro_rules | `(tactic| walk_at "truthy ref") => `(tactic| (k_here; k_dflt (refine' dq_truthyN ?k1 ?k2 ?_; (case k1 => k_asm); (case k2 => k_mem); k_whole)))
theorem get_token (w : World) (mean mg mb) (S dS I dI P Fk : Nat) (κ υ : Nat → Tok) (u ub up ul ut us te : Tok) (px cmb : Bool) (cm wc : Str) (ln : Int) (buf : Str) (pos : Int) (rest : List Nat) (news : Led) (st₀ : SS) (hst : st₀ = .sp ∨ st₀ = .dn) (hA : At buf pos rest) (hb : buf.length < 2 ^ 20)
   (o1 : dS < S) (o2 : S < dI) (o3 : dI < I) (hn1 : ∀ p ∈ (P, dqObj) :: (Fk, dqObj) :: news, p.1 ≠ dI) (hn2 : ∀ p ∈ (P, dqObj) :: (Fk, dqObj) :: news, p.1 ≠ dS) (hcm : ∀ c, inS cm c = (cmb && c == 35)) (hwc : ∀ c, inS wc c = true → isQt c = false) :
   CtrE w mean mg mb 690 [.ref S] (lexLed S dS I dI (lexDict w κ υ I P Fk px (eofVal px te) cm wc (stVal us st₀) ln ul (Str.ofString "") ut) (ioDict w κ u buf ub pos up) ((P, dqObj) :: (Fk, dqObj) :: news)) 8 80
     (fun v news' => ∃ tok quoted fin rest' us' ut' ul' up' ln' pos' t, rt px cmb st₀ (Str.ofString "") false rest = .out tok quoted fin rest' ∧ v = (if isEnd px quoted tok = true then eofVal px te else .str tok t) ∧ At buf pos' rest' ∧ tok.length ≤ buf.length ∧
       news' = lexLed S dS I dI (lexDict w κ υ I P Fk px (eofVal px te) cm wc (stVal us' (stOf fin)) ln' ul' (Str.ofString "") ut') (ioDict w κ u buf ub pos' up') ((P, dqObj) :: (Fk, dqObj) :: news))
     (fun cls vs news' => cls = "ValueError" ∧ (∃ msg t, rrMsg (rt px cmb st₀ (Str.ofString "") false rest) = some msg ∧ vs = [.str msg t]) ∧ ∀ p ∈ (P, dqObj) :: (Fk, dqObj) :: news, p ∈ news') := by
  have hpr := prog_here
  revert hpr
  unfold CtrE
  k_fill
  intro _ dp un gd cn cs a ccd cl outer A₀ base h₀ L m s Q E B F X N T hk hd hu hret hexc
  cases px
  · rw [show eofVal false te = Value.str (Str.ofString "") te from rfl] at N
    refine wpAny_call ?_
    k_dflt (refine' code_def ?k1 ?k2 ?k3 ?k4 ?k5 ?kA ?kF ?kK ?k6 ?k7 ?k8 ?k9 ?kB ?_ ?c2 ?c3 ?c4 ?c5; (case kA | kF => exact rfl); (case kK => assumption); (case k1 | k2 | k3 | k4 | k5 => k_asm); (case k6 | k7 => k_is); (case k8 => k_room); (case k9 => first | exact BindsTo.of_eq rfl | exact binds_K (by k_in) rfl (by k_is) rfl rfl rfl); (case c5 => decide); (case kB => exact locs rfl); (case c2 | c3 | c4 => exact rfl); k_whole; intro _ _ _ _ _ _ _ _ _; (try dsimp only); (try k_fold))
    k_steps
    refine Hold.mk ?_
    k_dflt (refine' ctrE_use (read_token _ _ _ _ _ _ _ _ _ _ _ _ _ _ _ _ _ _ _ _ _ _ _ _ _ _ _ _ _ ?hst ?hA ?hb ?o1 ?o2 ?o3 ?hn1 ?hn2 ?hcm ?hwc) ?k1 ?k2 ?k3 ?k4 ?k5 ?kK ?kd ?ku ?_ ?_; (case k1 | k2 | k3 | k4 | k5 => k_asm); (case kK => first | exact rfl | assumption); (case hst | hA | hb | o1 | o2 | o3 | hn1 | hn2 | hcm | hwc => assumption); (case kd => ktr_room); (case ku => ktr_units))
    (rotate_left; (intro e9 t9 c9 v9 h9 tk9 n9 g9 R9 F9 U9 P9; (obtain ⟨e91, ⟨msg9, t91, hm91, hv91⟩, hs9⟩ := P9); (subst e91); (subst hv91); (try k_fold)); rotate_left; (intro v9 h9 tk9 n9 F9 N9 P9; (obtain ⟨tok9, q9, fin9, rest9, us9, ut9, ul9, up9, ln9, pos9, t9, hR9, hv9, hA9, hs9, hn9⟩ := P9); (subst hn9); (rcases tokVal_cases hv9 with ⟨hc9, hx9⟩ | ⟨hc9, hx9⟩ <;> (subst hx9; clear hv9)); (any_goals (try (exact absurd hc9 Bool.false_ne_true))); (try k_fold)))
    all_goals k_steps
    all_goals first
      | exact absurd ‹(false && _ && _) = true› Bool.false_ne_true
      | exact hexc _ _ _ _ _ _ _ _ ‹RaisedS base _ _ _ _ _ _ _ _› ‹Fr h₀ L _ m› ‹_› ⟨rfl, ⟨_, _, ‹rrMsg _ = some _›, rfl⟩, ‹∀ p ∈ _, p ∈ _›⟩
      | (refine hret _ _ _ _ (by k_asm) (by k_asm) ⟨_, _, _, _, _, _, _, _, _, _, 0, ‹rt _ _ _ _ _ _ = RR.out _ _ _ _›, (if_pos ?_).symm, ‹At buf _ _›, ‹_ ≤ buf.length›, rfl⟩; first | assumption | (simpa [isEnd] using ‹(true && _ && _) = true›))
      | (refine hret _ _ _ _ (by k_asm) (by k_asm) ⟨_, _, _, _, _, _, _, _, _, _, _, ‹rt _ _ _ _ _ _ = RR.out _ _ _ _›, (if_neg ?_).symm, ‹At buf _ _›, ‹_ ≤ buf.length›, rfl⟩; first | (simp only [isEnd, Bool.false_eq_true, if_false]; simp [*]; done) | (exact fun h => Bool.noConfusion ((show isEnd true _ _ = false from ‹(true && _ && _) = false›).symm.trans h)))
  · rw [show eofVal true te = Value.none from rfl] at N
    refine wpAny_call ?_
    k_dflt (refine' code_def ?k1 ?k2 ?k3 ?k4 ?k5 ?kA ?kF ?kK ?k6 ?k7 ?k8 ?k9 ?kB ?_ ?c2 ?c3 ?c4 ?c5; (case kA | kF => exact rfl); (case kK => assumption); (case k1 | k2 | k3 | k4 | k5 => k_asm); (case k6 | k7 => k_is); (case k8 => k_room); (case k9 => first | exact BindsTo.of_eq rfl | exact binds_K (by k_in) rfl (by k_is) rfl rfl rfl); (case c5 => decide); (case kB => exact locs rfl); (case c2 | c3 | c4 => exact rfl); k_whole; intro _ _ _ _ _ _ _ _ _; (try dsimp only); (try k_fold))
    k_steps
    refine Hold.mk ?_
    k_dflt (refine' ctrE_use (read_token _ _ _ _ _ _ _ _ _ _ _ _ _ _ _ _ _ _ _ _ _ _ _ _ _ _ _ _ _ ?hst ?hA ?hb ?o1 ?o2 ?o3 ?hn1 ?hn2 ?hcm ?hwc) ?k1 ?k2 ?k3 ?k4 ?k5 ?kK ?kd ?ku ?_ ?_; (case k1 | k2 | k3 | k4 | k5 => k_asm); (case kK => first | exact rfl | assumption); (case hst | hA | hb | o1 | o2 | o3 | hn1 | hn2 | hcm | hwc => assumption); (case kd => ktr_room); (case ku => ktr_units))
    (rotate_left; (intro e9 t9 c9 v9 h9 tk9 n9 g9 R9 F9 U9 P9; (obtain ⟨e91, ⟨msg9, t91, hm91, hv91⟩, hs9⟩ := P9); (subst e91); (subst hv91); (try k_fold)); rotate_left; (intro v9 h9 tk9 n9 F9 N9 P9; (obtain ⟨tok9, q9, fin9, rest9, us9, ut9, ul9, up9, ln9, pos9, t9, hR9, hv9, hA9, hs9, hn9⟩ := P9); (subst hn9); (rcases tokVal_cases hv9 with ⟨hc9, hx9⟩ | ⟨hc9, hx9⟩ <;> (subst hx9; clear hv9)); (any_goals (try (exact absurd hc9 Bool.false_ne_true))); (try k_fold)))
    all_goals k_steps
    all_goals first
      | exact absurd ‹(false && _ && _) = true› Bool.false_ne_true
      | exact hexc _ _ _ _ _ _ _ _ ‹RaisedS base _ _ _ _ _ _ _ _› ‹Fr h₀ L _ m› ‹_› ⟨rfl, ⟨_, _, ‹rrMsg _ = some _›, rfl⟩, ‹∀ p ∈ _, p ∈ _›⟩
      | (refine hret _ _ _ _ (by k_asm) (by k_asm) ⟨_, _, _, _, _, _, _, _, _, _, 0, ‹rt _ _ _ _ _ _ = RR.out _ _ _ _›, (if_pos ?_).symm, ‹At buf _ _›, ‹_ ≤ buf.length›, rfl⟩; first | assumption | (simpa [isEnd] using ‹(true && _ && _) = true›))
      | (refine hret _ _ _ _ (by k_asm) (by k_asm) ⟨_, _, _, _, _, _, _, _, _, _, _, ‹rt _ _ _ _ _ _ = RR.out _ _ _ _›, (if_neg ?_).symm, ‹At buf _ _›, ‹_ ≤ buf.length›, rfl⟩; first | (simp only [isEnd, Bool.false_eq_true, if_false]; simp [*]; done) | (exact fun h => Bool.noConfusion ((show isEnd true _ _ = false from ‹(true && _ && _) = false›).symm.trans h)))
end
section
theorem ite_cases {c : Bool} {a b v : Value} (h : v = if c = true then a else b) : (c = true ∧ v = a) ∨ (c = false ∧ v = b) := by
  cases c
  · exact .inr ⟨rfl, h⟩
  · exact .inl ⟨rfl, h⟩
theorem get_token0 (w : World) (mean mg mb) (S dS I dI P Fk : Nat) (κ υ : Nat → Tok) (u ub up ul ut us te : Tok) (cmb : Bool) (cm wc : Str) (ln : Int) (buf : Str) (pos : Int) (rest : List Nat) (news : Led) (st₀ : SS) (hst : st₀ = .sp ∨ st₀ = .dn) (hA : At buf pos rest) (hb : buf.length < 2 ^ 20)
   (o1 : dS < S) (o2 : S < dI) (o3 : dI < I) (hn1 : ∀ p ∈ (P, dqObj) :: (Fk, dqObj) :: news, p.1 ≠ dI) (hn2 : ∀ p ∈ (P, dqObj) :: (Fk, dqObj) :: news, p.1 ≠ dS) (hcm : ∀ c, inS cm c = (cmb && c == 35)) (hwc : ∀ c, inS wc c = true → isQt c = false) :
   CtrE w mean mg mb 690 [.ref S] (lexLed S dS I dI (lexDict w κ υ I P Fk false (.str (Str.ofString "") te) cm wc (stVal us st₀) ln ul (Str.ofString "") ut) (ioDict w κ u buf ub pos up) ((P, dqObj) :: (Fk, dqObj) :: news)) 8 80
     (fun v news' => ∃ tok quoted fin rest' us' ut' ul' up' ln' pos' t, rt false cmb st₀ (Str.ofString "") false rest = .out tok quoted fin rest' ∧ v = (if isEnd false quoted tok = true then (.str (Str.ofString "") te) else .str tok t) ∧ At buf pos' rest' ∧ tok.length ≤ buf.length ∧
       news' = lexLed S dS I dI (lexDict w κ υ I P Fk false (.str (Str.ofString "") te) cm wc (stVal us' (stOf fin)) ln' ul' (Str.ofString "") ut') (ioDict w κ u buf ub pos' up') ((P, dqObj) :: (Fk, dqObj) :: news))
     (fun cls vs news' => cls = "ValueError" ∧ (∃ msg t, rrMsg (rt false cmb st₀ (Str.ofString "") false rest) = some msg ∧ vs = [.str msg t]) ∧ ∀ p ∈ (P, dqObj) :: (Fk, dqObj) :: news, p ∈ news') :=
  get_token w mean mg mb S dS I dI P Fk κ υ u ub up ul ut us te false cmb cm wc ln buf pos rest news st₀ hst hA hb o1 o2 o3 hn1 hn2 hcm hwc
theorem get_token1 (w : World) (mean mg mb) (S dS I dI P Fk : Nat) (κ υ : Nat → Tok) (u ub up ul ut us : Tok) (cmb : Bool) (cm wc : Str) (ln : Int) (buf : Str) (pos : Int) (rest : List Nat) (news : Led) (st₀ : SS) (hst : st₀ = .sp ∨ st₀ = .dn) (hA : At buf pos rest) (hb : buf.length < 2 ^ 20)
   (o1 : dS < S) (o2 : S < dI) (o3 : dI < I) (hn1 : ∀ p ∈ (P, dqObj) :: (Fk, dqObj) :: news, p.1 ≠ dI) (hn2 : ∀ p ∈ (P, dqObj) :: (Fk, dqObj) :: news, p.1 ≠ dS) (hcm : ∀ c, inS cm c = (cmb && c == 35)) (hwc : ∀ c, inS wc c = true → isQt c = false) :
   CtrE w mean mg mb 690 [.ref S] (lexLed S dS I dI (lexDict w κ υ I P Fk true .none cm wc (stVal us st₀) ln ul (Str.ofString "") ut) (ioDict w κ u buf ub pos up) ((P, dqObj) :: (Fk, dqObj) :: news)) 8 80
     (fun v news' => ∃ tok quoted fin rest' us' ut' ul' up' ln' pos' t, rt true cmb st₀ (Str.ofString "") false rest = .out tok quoted fin rest' ∧ v = (if isEnd true quoted tok = true then .none else .str tok t) ∧ At buf pos' rest' ∧ tok.length ≤ buf.length ∧
       news' = lexLed S dS I dI (lexDict w κ υ I P Fk true .none cm wc (stVal us' (stOf fin)) ln' ul' (Str.ofString "") ut') (ioDict w κ u buf ub pos' up') ((P, dqObj) :: (Fk, dqObj) :: news))
     (fun cls vs news' => cls = "ValueError" ∧ (∃ msg t, rrMsg (rt true cmb st₀ (Str.ofString "") false rest) = some msg ∧ vs = [.str msg t]) ∧ ∀ p ∈ (P, dqObj) :: (Fk, dqObj) :: news, p ∈ news') :=
  get_token w mean mg mb S dS I dI P Fk κ υ u ub up ul ut us 0 true cmb cm wc ln buf pos rest news st₀ hst hA hb o1 o2 o3 hn1 hn2 hcm hwc
theorem next_ (w : World) (mean mg mb) (S dS I dI P Fk : Nat) (κ υ : Nat → Tok) (u ub up ul ut us te : Tok) (px cmb : Bool) (cm wc : Str) (ln : Int) (buf : Str) (pos : Int) (rest : List Nat) (news : Led) (st₀ : SS) (hst : st₀ = .sp ∨ st₀ = .dn) (hA : At buf pos rest) (hb : buf.length < 2 ^ 20)
   (o1 : dS < S) (o2 : S < dI) (o3 : dI < I) (hn1 : ∀ p ∈ (P, dqObj) :: (Fk, dqObj) :: news, p.1 ≠ dI) (hn2 : ∀ p ∈ (P, dqObj) :: (Fk, dqObj) :: news, p.1 ≠ dS) (hcm : ∀ c, inS cm c = (cmb && c == 35)) (hwc : ∀ c, inS wc c = true → isQt c = false) :
   CtrE w mean mg mb 726 [.ref S] (lexLed S dS I dI (lexDict w κ υ I P Fk px (eofVal px te) cm wc (stVal us st₀) ln ul (Str.ofString "") ut) (ioDict w κ u buf ub pos up) ((P, dqObj) :: (Fk, dqObj) :: news)) 10 96
     (fun v news' => ∃ tok quoted fin rest' us' ut' ul' up' ln' pos' t, rt px cmb st₀ (Str.ofString "") false rest = .out tok quoted fin rest' ∧ isEnd px quoted tok = false ∧ v = .str tok t ∧ At buf pos' rest' ∧ tok.length ≤ buf.length ∧
       news' = lexLed S dS I dI (lexDict w κ υ I P Fk px (eofVal px te) cm wc (stVal us' (stOf fin)) ln' ul' (Str.ofString "") ut') (ioDict w κ u buf ub pos' up') ((P, dqObj) :: (Fk, dqObj) :: news))
     (fun cls vs news' => (∀ p ∈ news, p ∈ news') ∧ ((cls = "ValueError" ∧ ∃ msg t, rrMsg (rt px cmb st₀ (Str.ofString "") false rest) = some msg ∧ vs = [.str msg t]) ∨
       (cls = "StopIteration" ∧ vs = [] ∧ ∃ tok quoted fin rest', rt px cmb st₀ (Str.ofString "") false rest = .out tok quoted fin rest' ∧ isEnd px quoted tok = true))) := by
  have hpr := prog_here
  revert hpr
  unfold CtrE
  k_fill
  intro _ dp un gd cn cs a ccd cl outer A₀ base h₀ L m s Q E B F X N T hk hd hu hret hexc
  cases px
  · rw [show eofVal false te = Value.str (Str.ofString "") te from rfl] at N
    refine wpAny_call ?_
    k_dflt (refine' code_def ?k1 ?k2 ?k3 ?k4 ?k5 ?kA ?kF ?kK ?k6 ?k7 ?k8 ?k9 ?kB ?_ ?c2 ?c3 ?c4 ?c5; (case kA | kF => exact rfl); (case kK => assumption); (case k1 | k2 | k3 | k4 | k5 => k_asm); (case k6 | k7 => k_is); (case k8 => k_room); (case k9 => first | exact BindsTo.of_eq rfl | exact binds_K (by k_in) rfl (by k_is) rfl rfl rfl); (case c5 => decide); (case kB => exact locs rfl); (case c2 | c3 | c4 => exact rfl); k_whole; intro _ _ _ _ _ _ _ _ _; (try dsimp only); (try k_fold))
    k_steps
    refine Hold.mk ?_
    k_dflt (refine' ctrE_use (get_token0 _ _ _ _ _ _ _ _ _ _ _ _ _ _ _ _ _ _ _ _ _ _ _ _ _ _ _ _ ?hst ?hA ?hb ?o1 ?o2 ?o3 ?hn1 ?hn2 ?hcm ?hwc) ?k1 ?k2 ?k3 ?k4 ?k5 ?kK ?kd ?ku ?_ ?_; (case k1 | k2 | k3 | k4 | k5 => k_asm); (case kK => first | exact rfl | assumption); (case hst | hA | hb | o1 | o2 | o3 | hn1 | hn2 | hcm | hwc => assumption); (case kd => ktr_room); (case ku => ktr_units))
    (rotate_left; (intro e9 t9 c9 v9 h9 tk9 n9 g9 R9 F9 U9 P9; (obtain ⟨e91, ⟨msg9, t91, hm91, hv91⟩, hs9⟩ := P9); (subst e91); (subst hv91); (try k_fold)); rotate_left; (intro v9 h9 tk9 n9 F9 N9 P9; (obtain ⟨tok9, q9, fin9, rest9, us9, ut9, ul9, up9, ln9, pos9, t9, hR9, hv9, hA9, hs9, hn9⟩ := P9); (subst hn9); (rcases ite_cases hv9 with ⟨hc9, hx9⟩ | ⟨hc9, hx9⟩ <;> (subst hx9; clear hv9)); (try k_fold)))
    all_goals k_steps
    all_goals first
      | exact hexc _ _ _ _ _ _ _ _ ‹RaisedS base _ _ _ _ _ _ _ _› ‹Fr h₀ L _ m› ‹_› ⟨by first | exact fun p hp => ‹∀ p ∈ (P, dqObj) :: (Fk, dqObj) :: news, p ∈ _› p (.tail _ (.tail _ hp)) | exact fun _ hp => .tail _ (.tail _ (.tail _ (.tail _ (.tail _ (.tail _ hp))))), .inl ⟨rfl, _, _, ‹rrMsg _ = some _›, rfl⟩⟩
      | exact hret _ _ _ _ (by k_asm) (by k_asm) ⟨_, _, _, _, _, _, _, _, _, _, _, ‹rt _ _ _ _ _ _ = RR.out _ _ _ _›, ‹isEnd _ _ _ = false›, rfl, ‹At buf _ _›, ‹_ ≤ buf.length›, rfl⟩
      | exact absurd ((show isEnd false _ _ = true from ‹(_ == Str.ofString "") = true›).symm.trans ‹isEnd false _ _ = false›) (by decide)
      | exact hexc _ _ _ _ _ _ _ _ ‹RaisedS base _ _ _ _ _ _ _ _› ‹Fr h₀ L _ m› ‹_› ⟨by first | exact fun p hp => ‹∀ p ∈ (P, dqObj) :: (Fk, dqObj) :: news, p ∈ _› p (.tail _ (.tail _ hp)) | exact fun _ hp => .tail _ (.tail _ (.tail _ (.tail _ (.tail _ (.tail _ hp))))), .inr ⟨rfl, rfl, _, _, _, _, ‹rt _ _ _ _ _ _ = RR.out _ _ _ _›, ‹isEnd _ _ _ = true›⟩⟩
  · rw [show eofVal true te = Value.none from rfl] at N
    refine wpAny_call ?_
    k_dflt (refine' code_def ?k1 ?k2 ?k3 ?k4 ?k5 ?kA ?kF ?kK ?k6 ?k7 ?k8 ?k9 ?kB ?_ ?c2 ?c3 ?c4 ?c5; (case kA | kF => exact rfl); (case kK => assumption); (case k1 | k2 | k3 | k4 | k5 => k_asm); (case k6 | k7 => k_is); (case k8 => k_room); (case k9 => first | exact BindsTo.of_eq rfl | exact binds_K (by k_in) rfl (by k_is) rfl rfl rfl); (case c5 => decide); (case kB => exact locs rfl); (case c2 | c3 | c4 => exact rfl); k_whole; intro _ _ _ _ _ _ _ _ _; (try dsimp only); (try k_fold))
    k_steps
    refine Hold.mk ?_
    k_dflt (refine' ctrE_use (get_token1 _ _ _ _ _ _ _ _ _ _ _ _ _ _ _ _ _ _ _ _ _ _ _ _ _ _ _ ?hst ?hA ?hb ?o1 ?o2 ?o3 ?hn1 ?hn2 ?hcm ?hwc) ?k1 ?k2 ?k3 ?k4 ?k5 ?kK ?kd ?ku ?_ ?_; (case k1 | k2 | k3 | k4 | k5 => k_asm); (case kK => first | exact rfl | assumption); (case hst | hA | hb | o1 | o2 | o3 | hn1 | hn2 | hcm | hwc => assumption); (case kd => ktr_room); (case ku => ktr_units))
    (rotate_left; (intro e9 t9 c9 v9 h9 tk9 n9 g9 R9 F9 U9 P9; (obtain ⟨e91, ⟨msg9, t91, hm91, hv91⟩, hs9⟩ := P9); (subst e91); (subst hv91); (try k_fold)); rotate_left; (intro v9 h9 tk9 n9 F9 N9 P9; (obtain ⟨tok9, q9, fin9, rest9, us9, ut9, ul9, up9, ln9, pos9, t9, hR9, hv9, hA9, hs9, hn9⟩ := P9); (subst hn9); (rcases ite_cases hv9 with ⟨hc9, hx9⟩ | ⟨hc9, hx9⟩ <;> (subst hx9; clear hv9)); (try k_fold)))
    all_goals k_steps
    all_goals first
      | exact hexc _ _ _ _ _ _ _ _ ‹RaisedS base _ _ _ _ _ _ _ _› ‹Fr h₀ L _ m› ‹_› ⟨by first | exact fun p hp => ‹∀ p ∈ (P, dqObj) :: (Fk, dqObj) :: news, p ∈ _› p (.tail _ (.tail _ hp)) | exact fun _ hp => .tail _ (.tail _ (.tail _ (.tail _ (.tail _ (.tail _ hp))))), .inl ⟨rfl, _, _, ‹rrMsg _ = some _›, rfl⟩⟩
      | exact hret _ _ _ _ (by k_asm) (by k_asm) ⟨_, _, _, _, _, _, _, _, _, _, _, ‹rt _ _ _ _ _ _ = RR.out _ _ _ _›, ‹isEnd _ _ _ = false›, rfl, ‹At buf _ _›, ‹_ ≤ buf.length›, rfl⟩
      | exact absurd ((show isEnd false _ _ = true from ‹(_ == Str.ofString "") = true›).symm.trans ‹isEnd false _ _ = false›) (by decide)
      | exact hexc _ _ _ _ _ _ _ _ ‹RaisedS base _ _ _ _ _ _ _ _› ‹Fr h₀ L _ m› ‹_› ⟨by first | exact fun p hp => ‹∀ p ∈ (P, dqObj) :: (Fk, dqObj) :: news, p ∈ _› p (.tail _ (.tail _ hp)) | exact fun _ hp => .tail _ (.tail _ (.tail _ (.tail _ (.tail _ (.tail _ hp))))), .inr ⟨rfl, rfl, _, _, _, _, ‹rt _ _ _ _ _ _ = RR.out _ _ _ _›, ‹isEnd _ _ _ = true›⟩⟩
end
section
theorem rt_shrinks (px cm : Bool) : ∀ (n : Nat) (st : SS) (tok : Str) (q : Bool) (rest : List Nat), rest.length = n → ∀ tok' q' fin rest', rt px cm st tok q rest = .out tok' q' fin rest' →
    rest'.length ≤ rest.length ∧ (st ≠ .dn → fin = false → rest'.length < rest.length) := by
  intro n
  induction n using Nat.strongRecOn with
  | _ n ih =>
    intro st tok q rest hn tok' q' fin rest' h
    have go : ∀ st₁ tok₁ q₁ r₁, r₁.length < rest.length → st₁ ≠ .dn → rt px cm st₁ tok₁ q₁ r₁ = .out tok' q' fin rest' → rest'.length ≤ rest.length ∧ (st ≠ .dn → fin = false → rest'.length < rest.length) := by
      intro st₁ tok₁ q₁ r₁ hl hd e
      obtain ⟨a, b⟩ := ih r₁.length (by omega) st₁ tok₁ q₁ r₁ rfl tok' q' fin rest' e
      exact ⟨by omega, fun _ hf => by have := b hd hf; omega⟩
    cases st with
    | dn =>
      rw [rt_dn] at h
      injection h with _ _ _ h4
      subst h4
      exact ⟨by simp, fun x => absurd rfl x⟩
    | sp =>
      cases rest with
      | nil =>
        rw [rt_sp_nil] at h
        injection h with _ _ h3 h4
        subst h3 h4
        exact ⟨Nat.le_refl _, fun _ x => by cases x⟩
      | cons c r =>
        have hl : r.length < (c :: r).length := Nat.lt_succ_self _
        have hal : (afterLine r).length < (c :: r).length := Nat.lt_succ_of_le (afterLine_le r)
        rw [rt_spE] at h
        (repeat' split at h) <;> first | exact go _ _ _ _ hl (by nofun) h | exact go _ _ _ _ hal (by nofun) h
    | wd =>
      cases rest with
      | nil =>
        rw [rt_wd_nil] at h
        injection h with _ _ h3 h4
        subst h3 h4
        exact ⟨Nat.le_refl _, fun _ x => by cases x⟩
      | cons c r =>
        have hl : r.length < (c :: r).length := Nat.lt_succ_self _
        have hal : (afterLine r).length < (c :: r).length := Nat.lt_succ_of_le (afterLine_le r)
        rw [rt_wdE] at h
        (repeat' split at h) <;> first
          | exact go _ _ _ _ hl (by nofun) h
          | exact go _ _ _ _ hal (by nofun) h
          | (injection h with _ _ h3 h4; subst h4; exact ⟨by omega, fun _ _ => by omega⟩)
    | qt d =>
      cases rest with
      | nil => rw [rt_qt_nil] at h; cases h
      | cons c r =>
        have hl : r.length < (c :: r).length := Nat.lt_succ_self _
        rw [rt_qtE] at h
        (repeat' split at h) <;> first
          | exact go _ _ _ _ hl (by nofun) h
          | (injection h with _ _ h3 h4; subst h4; exact ⟨by omega, fun _ _ => by omega⟩)
    | es e =>
      cases rest with
      | nil => rw [rt_es_nil] at h; cases h
      | cons c r =>
        have hl : r.length < (c :: r).length := Nat.lt_succ_self _
        rw [rt_esE] at h
        exact go _ _ _ _ hl (by cases e <;> nofun) h
/-- the words that are left, or what the ValueError says -/
noncomputable def wordsF (px cmb : Bool) : Nat → SS → List Nat → Except Str (List Str)
  | 0, _, _ => .ok []
  | n + 1, st, rest => match rt px cmb st (Str.ofString "") false rest with
    | .out tok q fin rest' => if isEnd px q tok = true then .ok [] else (match wordsF px cmb n (stOf fin) rest' with
      | .ok ws => .ok (tok :: ws)
      | .error e => .error e)
    | .noClose => .error (Str.ofString "No closing quotation")
    | .noEsc => .error (Str.ofString "No escaped character")
noncomputable def meas : SS → List Nat → Nat
  | .sp, r => r.length + 1
  | _, _ => 0
theorem wordsF_end {px cmb : Bool} {n : Nat} {st : SS} {rest rest' : List Nat} {tok : Str} {q fin : Bool} (h : rt px cmb st (Str.ofString "") false rest = .out tok q fin rest') (he : isEnd px q tok = true) : wordsF px cmb (n + 1) st rest = .ok [] := by
  unfold wordsF; rw [h]; simp only [he, if_true]
theorem wordsF_msg {px cmb : Bool} {n : Nat} {st : SS} {rest : List Nat} {msg : Str} (h : rrMsg (rt px cmb st (Str.ofString "") false rest) = some msg) : wordsF px cmb (n + 1) st rest = .error msg := by
  unfold wordsF
  cases e : rt px cmb st (Str.ofString "") false rest with
  | out => rw [e] at h; cases h
  | noClose => rw [e] at h; cases h; rfl
  | noEsc => rw [e] at h; cases h; rfl
theorem wordsF_more {px cmb : Bool} {n : Nat} {st : SS} {rest rest' : List Nat} {tok : Str} {q fin : Bool} (h : rt px cmb st (Str.ofString "") false rest = .out tok q fin rest') (he : isEnd px q tok = false) :
    wordsF px cmb (n + 1) st rest = (match wordsF px cmb n (stOf fin) rest' with | .ok ws => .ok (tok :: ws) | .error e => .error e) := by
  conv => lhs; unfold wordsF
  rw [h]; simp only [he, Bool.false_eq_true, if_false]
theorem meas_next {px cmb : Bool} {n : Nat} {st : SS} {rest rest' : List Nat} {tok : Str} {q fin : Bool} (hst : st = .sp ∨ st = .dn) (h : rt px cmb st (Str.ofString "") false rest = .out tok q fin rest') (he : isEnd px q tok = false) (hm : meas st rest < n + 1) : meas (stOf fin) rest' < n := by
  rcases hst with rfl | rfl
  · have hs := rt_shrinks px cmb _ _ _ _ _ rfl _ _ _ _ h
    have h1 : meas .sp rest = rest.length + 1 := rfl
    cases fin with
    | true => show 0 < n; omega
    | false =>
      have := hs.2 (by nofun) rfl
      show rest'.length + 1 < n
      omega
  · rw [rt_dn] at h
    injection h with h1 h2 _ _
    subst h1 h2
    cases px <;> exact absurd he (by decide +kernel)
end
section
section
variable {M : Model} {A A₀ : Around} {E : Value → Shared → Prop} {s : Shared} {base h₀ G : Heap} {outer : List Env} {L a e t : Addr} {m : Str → Option Value} {name : Str} {scope : Scope} {cd : Value} {vs : List Value} {news : Led} {X : String}
/-- StopIteration that a built-in takes, in any frame -/
theorem stop_ground (R : RaisedS base G (envOf name scope L a cd :: outer) e (.type X) t vs news s.heap) (F : Fr h₀ L G m) (K : Below A₀ base outer h₀) (hsm : G.UpToSlots s.heap) :
    s.TypeIs (.ref e) X ∧ ∃ g', KtsTurn (outer.filterMap (·.frame)) h₀ g' ∧ Fr g' L s.heap m ∧ News g' L s.heap news ∧ Below A₀ base outer g' := by
  obtain ⟨⟨B, hB, hBG, hl, hfl, hnew⟩, htup⟩ := R
  have hL : B.get? L = none := by
    obtain ⟨_, ⟨L', _, hf, hn', _⟩, _⟩ := hfl.2.2.1
    obtain rfl : L = L' := Option.some.inj hf
    exact hn'
  obtain ⟨ob, hob, hobc⟩ := hfl.there
  obtain ⟨g', T', F', K'⟩ := kts_ground K F hBG hfl.1 hsm
  exact ⟨⟨ob, hob, hobc⟩, g', T', F', fun q hq => ⟨hfl.1 _ _ (hl q hq).1, (fun z => by have := (hl q hq).1; rw [z, hL] at this; cases this), T'.none_ _ (kts_none F.keep (hl q hq).2.1)⟩, K'⟩
end
theorem stop_sub : isSubtype (.type "StopIteration") (.type "StopIteration") = pure true := by rw [isSubtype_type]; kernel_rfl
theorem value_sub : isSubtype (.type "ValueError") (.type "StopIteration") = pure false := by rw [isSubtype_type]; kernel_rfl
theorem strs_snoc {x : Str} {t : Tok} : ∀ {vs : List Value} {ys : List Str}, StrsAre vs ys → StrsAre (vs ++ [.str x t]) (ys ++ [x])
  | _, _, .nil => .cons _ _ .nil
  | _, _, .cons y u h => .cons y u (strs_snoc h)
noncomputable abbrev fullLed (w : World) (κ υ : Nat → Tok) (S dS I dI P Fk X : Nat) (u ub te : Tok) (px : Bool) (cm wc buf : Str) (st : SS) (us ul ut up : Tok) (ln pos : Int) (its : Array Value) (c : Nat) (news : Led) : Led :=
  lexLed S dS I dI (lexDict w κ υ I P Fk px (eofVal px te) cm wc (stVal us st) ln ul (Str.ofString "") ut) (ioDict w κ u buf ub pos up) ((P, dqObj) :: (Fk, dqObj) :: (X, listOf its c) :: news)
theorem lex_loop (w : World) (mean mg mb) (S dS I dI P Fk X : Nat) (κ υ : Nat → Tok) (u ub te : Tok) (px cmb : Bool) (cm wc buf : Str) (news : Led) (hb : buf.length < 2 ^ 20)
    (o1 : dS < S) (o2 : S < dI) (o3 : dI < I) (o4 : I < P) (o5 : P < Fk) (o6 : Fk < X) (hnw : ∀ p ∈ news, p.1 < dS) (hcm : ∀ c, inS cm c = (cmb && c == 35)) (hwc : ∀ c, inS wc c = true → isQt c = false)
    (dp un : Nat) (gd : Option (List Code)) (cn : Str) (cs : Scope) (a : Addr) (ccd : Value) (outer : List Env) (A₀ : Around) (base h₀ : Heap) (L : Addr) (m : Str → Option Value) (R : Result → Shared → Prop)
    (B : Below A₀ base outer h₀) (K : (hd.heap_39 w.params).In h₀) (T : Top hd.view_39 LS mean mg mb h₀) (hk : cs.kind = .function) (hdp : dp + 11 < recursionLimit) (hun : un + 100 < cLine)
    (hnext : findIn (hd.heap_39 w.params) (.ref 729) "__next__" = some (some (.ref 726))) (hfn : isFn (hd.heap_39 w.params) (.ref 726) = true) :
    ∀ (n : Nat) (st : SS) (rest : List Nat) (us ul ut up : Tok) (ln pos : Int) (its : Array Value) (acc : List Str) (c : Nat) (s : Shared), meas st rest < n → (st = .sp ∨ st = .dn) → At buf pos rest → its.size + meas st rest ≤ 2 ^ 21 → StrsAre its.toList acc →
      Fr h₀ L s.heap m → News h₀ L s.heap (fullLed w κ υ S dS I dI P Fk X u ub te px cm wc buf st us ul ut up ln pos its c news) →
      (∀ h₀' h' tk' led' its' acc' c', KtsTurn (outer.filterMap (·.frame)) h₀ h₀' → Fr h₀' L h' m → News h₀' L h' ((X, listOf its' c') :: led') → (∀ p ∈ news, p ∈ led') → Below A₀ base outer h₀' → wordsF px cmb n st rest = .ok acc' → StrsAre its'.toList (acc ++ acc') → R (.ok (.ret .none)) { s with heap := h', toks := tk' }) →
      (∀ e t vs h' tk' news' g msg t1, RaisedS base g (envX cn cs L a ccd [] :: outer) e (.type "ValueError") t vs news' h' → Fr h₀ L g m → g.UpToSlots h' → wordsF px cmb n st rest = .error msg → vs = [.str msg t1] → (∀ p ∈ news, p ∈ news') → R (.error (.ref e)) { s with heap := h', toks := tk' }) →
      codeAny (model PG w) (ktrTop dp un gd cn cs L a ccd [] outer) (.builtin "list.extend.loop" ⟨[.ref X, .ref S, .none], []⟩) R s := by
  intro n
  induction n with
  | zero => intro st rest us ul ut up ln pos its acc c s hm; exact absurd hm (Nat.not_lt_zero _)
  | succ n ih =>
    intro st rest us ul ut up ln pos its acc c s hm hst hA hsz hits F N ret exc
    refine codeAny_builtin PySem.F.entry_extend_loop ?_
    rw [Around.under_plainId PySem.F.plain_extend_loop _]
    show wpAny _ (ktrTop dp (un + 1) gd cn cs L a ccd [] outer) (pyNext (.ref S) >>= _) _ _ s
    refine wpAny_bind ?_
    have hall : ∀ d : Nat, d < P → d ≠ S → d ≠ I → dS ≤ d → ∀ p ∈ (P, dqObj) :: (Fk, dqObj) :: (X, listOf its c) :: news, p.1 ≠ d := by
      intro d d1 d2 d3 d4 p hp
      rcases List.mem_cons.mp hp with rfl | hp
      · exact (Nat.ne_of_gt d1)
      rcases List.mem_cons.mp hp with rfl | hp
      · exact (Nat.ne_of_gt (Nat.lt_trans d1 o5))
      rcases List.mem_cons.mp hp with rfl | hp
      · exact (Nat.ne_of_gt (Nat.lt_trans d1 (Nat.lt_trans o5 o6)))
      · exact Nat.ne_of_lt (Nat.lt_of_lt_of_le (hnw p hp) d4)
    refine owit_next F K (InstAt.of_news N (.head _) (.tail _ (.head _))) hnext hfn ?_
    refine ctrE_use (next_ w mean mg mb S dS I dI P Fk κ υ u ub up ul ut us te px cmb cm wc ln buf pos rest ((X, listOf its c) :: news) st hst hA hb o1 o2 o3 (hall dI (Nat.lt_trans o3 o4) (Nat.ne_of_gt o2) (Nat.ne_of_lt o3) (Nat.le_of_lt (Nat.lt_trans o1 o2))) (hall dS (Nat.lt_trans o1 (Nat.lt_trans o2 (Nat.lt_trans o3 o4))) (Nat.ne_of_lt o1) (Nat.ne_of_lt (Nat.lt_trans o1 (Nat.lt_trans o2 o3))) (Nat.le_refl _)) hcm hwc)
      B F K N T hk (by omega) (by omega) ?_ ?_
    · rintro v h' tk' news' F' N' ⟨tok, quoted, fin, rest', us', ut', ul', up', ln', pos', t, hR, hend, rfl, hA', hl', rfl⟩
      have hX : h'.get? X = some (listOf its c) := (N' (X, listOf its c) (.tail _ (.tail _ (.tail _ (.tail _ (.tail _ (.tail _ (.head _)))))))).1
      have hmn := meas_next hst hR hend hm
      have hms : meas (stOf fin) rest' + 1 ≤ meas st rest := by
        have := meas_next (n := meas st rest) hst hR hend (Nat.lt_succ_self _)
        omega
      show wpAny _ (ktrTop dp (un + 1) gd cn cs L a ccd [] outer) (updateSeq X (·.push (.str tok t)) >>= _) _ _ _
      refine wpAny_bind (wpAny_updateSeq hX rfl ?_ (by show its.size ≤ sizeLine; rw [show sizeLine = 2 ^ 24 from rfl]; omega) (by show (its.push _).size ≤ sizeLine + 1; rw [Array.size_push, show sizeLine = 2 ^ 24 from rfl]; omega))
      have hup := news_upd (pre := [(S, instObj 729 dS), (dS, lexDict w κ υ I P Fk px (eofVal px te) cm wc (stVal us' (stOf fin)) ln' ul' (Str.ofString "") ut'), (I, instObj 594 dI), (dI, ioDict w κ u buf ub pos' up'), (P, dqObj), (Fk, dqObj)]) (d := X) (o := listOf its c) (post := news)
        (f := Obj.mapSeq (·.push (Value.str tok t))) (o' := listOf (its.push (.str tok t)) (c + 1)) F' N' (by
          intro p hp
          simp only [List.mem_cons, List.not_mem_nil, or_false] at hp
          rcases hp with rfl | rfl | rfl | rfl | rfl | rfl <;> (refine neN ?_; dsimp only; omega))
        (fun p hp => Nat.ne_of_lt (Nat.lt_trans (hnw p hp) (by omega))) (by
          show ({ cls := .type "list", data := .seq (its.push (.str tok t)) (if (its.push (Value.str tok t)).size == its.size then c else c + 1) } : Obj) = _
          rw [if_neg (by simp)]) rfl
      refine wpAny_pure ⟨plainId_quiet PySem.F.plain_extend_loop _, ?_⟩
      refine ih (stOf fin) rest' us' ul' ut' up' ln' pos' (its.push (.str tok t)) (acc ++ [tok]) (c + 1) _ hmn (by cases fin; exact .inl rfl; exact .inr rfl) hA' (by rw [Array.size_push]; omega) ?_ hup.1 hup.2 ?_ ?_
      · rw [Array.toList_push]
        exact strs_snoc hits
      · intro h₀' h'' tk'' led' its' acc' c' t1 f1 n1 l1 b1 w1 s1
        refine ret h₀' h'' tk'' led' its' (tok :: acc') c' t1 f1 n1 l1 b1 ?_ ?_
        · rw [wordsF_more hR hend, w1]
        · rw [List.append_assoc] at s1; exact s1
      · intro e' t' vs' h'' tk'' news'' g' msg t1 r1 f1 u1 w1 v1 l1
        refine exc e' t' vs' h'' tk'' news'' g' msg t1 r1 f1 u1 ?_ v1 l1
        rw [wordsF_more hR hend, w1]
    · rintro e t cls vs h' tk' news' g Rs Fg U ⟨hsub, hcase⟩
      unfold OwitStop
      obtain ⟨hT, g', T', F', N', B'⟩ := stop_ground (s := { s with heap := h', toks := tk' }) Rs Fg B U
      rcases hcase with ⟨rfl, msg, t1, hmsg, rfl⟩ | ⟨rfl, rfl, tok, quoted, fin, rest', hR, hend⟩
      · refine wpAny_isInstance hT value_sub ?_
        show (if false = true then _ else _)
        rw [if_neg (by decide)]
        exact exc e t _ h' tk' news' g msg t1 Rs Fg U (wordsF_msg hmsg) rfl fun p hp => hsub p (.tail _ hp)
      · refine wpAny_isInstance hT stop_sub ?_
        show (if true = true then _ else _)
        rw [if_pos rfl]
        refine wpAny_pure ?_
        refine ret g' h' tk' news' its [] c T' F' ?_ (fun p hp => hsub p (.tail _ hp)) B' (wordsF_end hR hend) (by rw [List.append_nil]; exact hits)
        intro q hq
        rcases List.mem_cons.mp hq with rfl | hq
        · exact N' _ (hsub _ (.head _))
        · exact N' _ hq
end
section
theorem iter_ (w : World) (mean mg mb) (S : Nat) (news : Led) : Ctr w mean mg mb 719 [.ref S] news 1 8 (fun v news' => v = .ref S ∧ news' = news) := by
  have hpr := prog_here
  revert hpr
  unfold Ctr
  k_fill
  intro _ dp un gd cn cs a ccd cl outer A₀ base h₀ L m s Q E B F X N T hk hd hu hret
  refine wpAny_call ?_
  k_dflt (refine' code_def ?k1 ?k2 ?k3 ?k4 ?k5 ?kA ?kF ?kK ?k6 ?k7 ?k8 ?k9 ?kB ?_ ?c2 ?c3 ?c4 ?c5; (case kA | kF => exact rfl); (case kK => assumption); (case k1 | k2 | k3 | k4 | k5 => k_asm); (case k6 | k7 => k_is); (case k8 => k_room); (case k9 => first | exact BindsTo.of_eq rfl | exact binds_K (by k_in) rfl (by k_is) rfl rfl rfl); (case c5 => decide); (case kB => exact locs rfl); (case c2 | c3 | c4 => exact rfl); k_whole; intro _ _ _ _ _ _ _ _ _; (try dsimp only); (try k_fold))
  k_steps
  exact hret _ _ _ _ (by k_asm) (by k_asm) ⟨rfl, rfl⟩
theorem lx_next (w : World) : findIn (hd.heap_39 w.params) (.ref 729) "__next__" = some (some (.ref 726)) := by kernel_rfl
theorem lx_nextF (w : World) : isFn (hd.heap_39 w.params) (.ref 726) = true := by kernel_rfl
theorem lx_iter (w : World) : findIn (hd.heap_39 w.params) (.ref 729) "__iter__" = some (some (.ref 719)) := by kernel_rfl
theorem lx_iterF (w : World) : isFn (hd.heap_39 w.params) (.ref 719) = true := by kernel_rfl
theorem lx_len (w : World) : findIn (hd.heap_39 w.params) (.ref 729) "__len__" = some none := by kernel_rfl
theorem lx_hint (w : World) : findIn (hd.heap_39 w.params) (.ref 729) "__length_hint__" = some none := by kernel_rfl
theorem list_lex (w : World) (mean mg mb) (S dS I dI P Fk : Nat) (κ υ : Nat → Tok) (u ub te us ul ut up : Tok) (px cmb : Bool) (cm wc buf : Str) (ln pos : Int) (rest : List Nat) (news : Led) (hb : buf.length < 2 ^ 20)
    (o1 : dS < S) (o2 : S < dI) (o3 : dI < I) (o4 : I < P) (o5 : P < Fk) (hnw : ∀ p ∈ news, p.1 < dS) (hcm : ∀ c, inS cm c = (cmb && c == 35)) (hwc : ∀ c, inS wc c = true → isQt c = false) (hA : At buf pos rest)
    (dp un : Nat) (gd : Option (List Code)) (cn : Str) (cs : Scope) (a : Addr) (ccd : Value) (outer : List Env) (A₀ : Around) (base h₀ : Heap) (L : Addr) (m : Str → Option Value) (s : Shared) (Q E : Value → Shared → Prop)
    (B : Below A₀ base outer h₀) (F : Fr h₀ L s.heap m) (K : (hd.heap_39 w.params).In h₀) (N : News h₀ L s.heap (lexLed S dS I dI (lexDict w κ υ I P Fk px (eofVal px te) cm wc (.str (Str.ofString " ") us) ln ul (Str.ofString "") ut) (ioDict w κ u buf ub pos up) ((P, dqObj) :: (Fk, dqObj) :: news)))
    (T : Top hd.view_39 LS mean mg mb h₀) (hk : cs.kind = .function) (hdp : dp + 11 < recursionLimit) (hun : un + 110 < cLine)
    (ret : ∀ (D : Nat) h₀' h' tk' led' its ws c, KtsTurn (outer.filterMap (·.frame)) h₀ h₀' → Fr h₀' L h' m → News h₀' L h' ((D, listOf its c) :: led') → (∀ p ∈ news, p ∈ led') → (∀ p ∈ news, p.1 < D) → Below A₀ base outer h₀' → wordsF px cmb (rest.length + 2) .sp rest = .ok ws → StrsAre its.toList ws → Q (.ref D) { s with heap := h', toks := tk' })
    (exc : ∀ e t vs h' tk' news' g msg t1, RaisedS base g (envX cn cs L a ccd [] :: outer) e (.type "ValueError") t vs news' h' → Fr h₀ L g m → g.UpToSlots h' → wordsF px cmb (rest.length + 2) .sp rest = .error msg → vs = [.str msg t1] → (∀ p ∈ news, p ∈ news') → E (.ref e) { s with heap := h', toks := tk' }) :
    wpAny (model PG w) (ktrTop dp un gd cn cs L a ccd [] outer) (call (.type "list") [.ref S]) Q E s := by
  have hX : ∀ p ∈ (lexLed S dS I dI (lexDict w κ υ I P Fk px (eofVal px te) cm wc (.str (Str.ofString " ") us) ln ul (Str.ofString "") ut) (ioDict w κ u buf ub pos up) ((P, dqObj) :: (Fk, dqObj) :: news)), (p.1 : Nat) < s.heap.objs.size := fun p hp => Heap.lt_size (N p hp).1
  have o6 : Fk < s.heap.objs.size := hX (Fk, dqObj) (.tail _ (.tail _ (.tail _ (.tail _ (.tail _ (.head _))))))
  refine callType_codes (Q₁ := fun obj s₁ => obj = .ref s.heap.objs.size ∧ s₁ = { s with heap := s.heap.push (listOf #[] 0) }) PySem.F.called_list (PySem.F.typeCall_list_1 _) PySem.F.entry_list_init
    (code_list_new _ ⟨rfl, rfl⟩) fun obj s₁ h₁ => ?_
  obtain ⟨rfl, rfl⟩ := h₁
  have F₁ := F.push (listOf #[] 0)
  have N₁ := News.push F N (listOf #[] 0)
  generalize hXe : s.heap.objs.size = X at *
  generalize hH : s.heap.push (listOf #[] 0) = h1 at *
  have hS : h1.get? X = some (listOf #[] 0) := (N₁ _ (.head _)).1
  refine ⟨⟨_, hS, rfl⟩, PySem.F.args_list_init_2 _ _, ?_⟩
  show wpAny _ (ktrTop dp (un + 2) gd cn cs L a ccd [] outer) (do let old ← Builtin.List.listItems (.ref X); Builtin.List.listUpdate (.ref X) (fun _ => #[]); letGo old.toList.reverse; Builtin.List.listExtendWith (.ref X) (.ref S) .none) _ _ _
  refine wpAny_bind ?_
  unfold Builtin.List.listItems
  refine wpAny_bind (wpAny_seqItems hS rfl (wpAny_pure ?_))
  show wpAny _ (ktrTop dp (un + 2) gd cn cs L a ccd [] outer) (updateSeq X (fun _ => #[]) >>= fun _ => letGo (#[] : Array Value).toList.reverse >>= fun _ => Builtin.List.listExtendWith (.ref X) (.ref S) .none) _ _ _
  refine wpAny_bind (wpAny_updateSeq hS rfl ?_)
  have hne : ∀ p ∈ (lexLed S dS I dI (lexDict w κ υ I P Fk px (eofVal px te) cm wc (.str (Str.ofString " ") us) ln ul (Str.ofString "") ut) (ioDict w κ u buf ub pos up) ((P, dqObj) :: (Fk, dqObj) :: news)), p.1 ≠ X := fun p hp => Nat.ne_of_lt (hX p hp)
  obtain ⟨F₂, N₂⟩ := news_upd (pre := []) (d := X) (o := listOf #[] 0) (f := Obj.mapSeq (fun _ => (#[] : Array Value))) (o' := listOf #[] 0) F₁ N₁ (fun p hp => nomatch hp) hne rfl rfl
  refine wpAny_bind (wpAny_letGo ?_)
  generalize hH2 : Heap.update h1 X (Obj.mapSeq (fun _ => (#[] : Array Value))) = h2 at *
  have I₂ := InstAt.of_news N₂ (.tail _ (.head _)) (.tail _ (.tail _ (.head _)))
  have K₂ : (hd.heap_39 w.params).In h2 := K.keeps F₂.keep
  unfold Builtin.List.listExtendWith
  refine wpAny_bind (I₂.type.here ?_)
  have h1' : Builtin.List.listSameRef (.ref X) (.ref S) = false := by
    have : X ≠ S := by omega
    simp [Builtin.List.listSameRef, this]
  have h2' : (Value.ref 729 == Value.type "list") = false := by decide
  have h3' : (Value.ref 729 == Value.type "tuple") = false := by decide
  simp only [h1', h2', h3', Bool.or_false, Bool.false_eq_true, if_false]
  refine wpAny_bind (owit_iter F₂ K I₂ (lx_iter w) (lx_iterF w) ?_)
  refine ctr_use (iter_ w mean mg mb S _) B F₂ K N₂ T hk (by omega) (by omega) ?_
  rintro v h3 tk3 news3 F₃ N₃ ⟨rfl, rfl⟩
  have I₃ := InstAt.of_news N₃ (.tail _ (.head _)) (.tail _ (.tail _ (.head _)))
  refine owit_it F₃ K I₃ (lx_next w) ?_
  refine wpAny_bind (wpAny_holding ?_)
  unfold Builtin.List.listLengthHint
  refine wpAny_bind (wpAny_bind (I₃.type.here ((looks_findIn (K.keeps F₃.keep) (lx_len w)).here ?_)))
  show wpAny _ (ktrTop dp (un + 2) gd cn cs L a ccd [] outer) (specialOf (Value.ref S) (Str.ofString "__length_hint__") >>= _) _ _ _
  refine wpAny_bind (wpAny_bind (I₃.type.here ((looks_findIn (K.keeps F₃.keep) (lx_hint w)).here ?_)))
  refine wpAny_pure ?_
  show wpAny _ (ktrTop dp (un + 2) gd cn cs L a ccd [] outer) (rule "list.extend.makes-room" >>= fun _ => Builtin.List.listTouch (.ref X) >>= fun _ =>
    again (.builtin "list.extend.loop" ⟨[.ref X, .ref S, .none], []⟩)) _ _ _
  refine wpAny_bind (wpAny_rule ?_)
  refine wpAny_bind ?_
  show wpAny _ (ktrTop dp (un + 2) gd cn cs L a ccd [] outer) (updateSeq X (·.push .none) >>= fun _ => updateSeq X (·.pop)) _ _ _
  refine wpAny_bind (wpAny_updateSeq (N₃ _ (.head _)).1 rfl ?_)
  obtain ⟨F₄, N₄⟩ := news_upd (pre := []) (d := X) (o := listOf #[] 0) (f := Obj.mapSeq (·.push Value.none)) (o' := listOf #[.none] 1) F₃ N₃ (fun p hp => nomatch hp) hne rfl rfl
  refine wpAny_updateSeq (N₄ _ (.head _)).1 rfl ?_
  obtain ⟨F₅, N₅⟩ := news_upd (pre := []) (d := X) (o := listOf #[.none] 1) (f := Obj.mapSeq (·.pop)) (o' := listOf #[] 2) F₄ N₄ (fun p hp => nomatch hp) hne rfl rfl
  refine wpAny_pure ⟨plainId_quiet PySem.F.plain_extend_loop _, ?_⟩
  refine lex_loop w mean mg mb S dS I dI P Fk X κ υ u ub te px cmb cm wc buf news hb o1 o2 o3 o4 o5 o6 hnw hcm hwc dp (un + 1) gd cn cs a ccd outer A₀ base h₀ L m _ B K T hk hdp (by omega) (lx_next w) (lx_nextF w)
    (rest.length + 2) .sp rest us ul ut up ln pos #[] [] 2 _ (by show rest.length + 1 < rest.length + 2; omega) (.inl rfl) hA ?_ .nil F₅ ?_ ?_ ?_
  · have := hA.len
    show 0 + (rest.length + 1) ≤ 2 ^ 21
    omega
  · intro p hp
    rcases List.mem_cons.mp hp with rfl | hp
    · exact N₅ _ (.tail _ (.head _))
    rcases List.mem_cons.mp hp with rfl | hp
    · exact N₅ _ (.tail _ (.tail _ (.head _)))
    rcases List.mem_cons.mp hp with rfl | hp
    · exact N₅ _ (.tail _ (.tail _ (.tail _ (.head _))))
    rcases List.mem_cons.mp hp with rfl | hp
    · exact N₅ _ (.tail _ (.tail _ (.tail _ (.tail _ (.head _)))))
    rcases List.mem_cons.mp hp with rfl | hp
    · exact N₅ _ (.tail _ (.tail _ (.tail _ (.tail _ (.tail _ (.head _))))))
    rcases List.mem_cons.mp hp with rfl | hp
    · exact N₅ _ (.tail _ (.tail _ (.tail _ (.tail _ (.tail _ (.tail _ (.head _)))))))
    rcases List.mem_cons.mp hp with rfl | hp
    · exact N₅ _ (.head _)
    · exact N₅ _ (.tail _ (.tail _ (.tail _ (.tail _ (.tail _ (.tail _ (.tail _ hp)))))))
  · intro h₀' h' tk' led' its' acc' c' t1 f1 n1 l1 b1 w1 s1
    exact ⟨rfl, ret X h₀' h' tk' led' its' acc' c' t1 f1 n1 l1 (fun p hp => Nat.lt_trans (hnw p hp) (by omega)) b1 w1 s1⟩
  · intro e' t' vs' h'' tk'' news'' g' msg t1 r1 f1 u1 w1 v1 l1
    exact exc e' t' vs' h'' tk'' news'' g' msg t1 r1 f1 u1 w1 v1 l1
end
section
/-- a tree that reads the written part alone and makes two objects -/
noncomputable def peek2 {α : Type} (K : Frag) (S : Setting) (t : Sem α) (a b : Addr) : Option (Obj × Obj × α) := match peekA K S t with
  | some (o1, g1) => (match peekA K S (g1 a) with
    | some (o2, g2) => (match peek K S (g2 b) with
      | some r => some (o1, o2, r)
      | none => none)
    | none => none)
  | none => none
theorem wp_of_peek2 {α : Type} {K : Frag} {M : Model} {A : Around} {E : Value → Shared → Prop} {Q : α → Shared → Prop} {s : Shared} {h₀ : Heap} {L : Addr} {m : Str → Option Value} {news : Led} {t : Sem α} {o1 : Obj} {o2 : Addr → Addr → Obj} {r : Addr → Addr → α}
    (F : Fr h₀ L s.heap m) (N : News h₀ L s.heap news) (X : K.In h₀) (e : ∀ a b, peek2 K ⟨M.prog, M.w.params⟩ t a b = some (o1, o2 a b, r a b)) (f1 : o1.isFreed = false) (f2 : ∀ a b, (o2 a b).isFreed = false)
    (h : ∀ (a b : Nat) h', Fr h₀ L h' m → News h₀ L h' ((b, o2 a b) :: (a, o1) :: news) → (∀ p ∈ news, p.1 < a) → a < b → Q (r a b) { s with heap := h' }) : wpAny M A t Q E s := by
  have e0 := fun b => e s.heap.objs.size b
  unfold peek2 at e0
  cases h1 : peekA K ⟨M.prog, M.w.params⟩ t with
  | none => have := e0 0; rw [h1] at this; cases this
  | some p =>
    obtain ⟨p1, g1⟩ := p
    simp only [h1] at e0
    have hp1 : p1 = o1 := by
      have := e0 0
      split at this
      · split at this
        · injection this with this; injection this
        · cases this
      · cases this
    subst hp1
    refine wp_of_peekA F N (X.keeps F.keep) f1 t g1 h1 fun h' F' N' hl => ?_
    cases h2 : peekA K ⟨M.prog, M.w.params⟩ (g1 s.heap.objs.size) with
    | none => have := e0 0; rw [h2] at this; cases this
    | some q =>
      obtain ⟨q1, g2⟩ := q
      simp only [h2] at e0
      have hsz : s.heap.objs.size < h'.objs.size := Heap.lt_size (N' _ (.head _)).1
      have e1 := e0 h'.objs.size
      split at e1
      · rename_i r' h3
        injection e1 with e1
        injection e1 with _ e1
        injection e1 with e2 e3
        subst e2 e3
        refine wp_of_peekA (s := { s with heap := h' }) F' N' (X.keeps F'.keep) (f2 _ _) _ g2 h2 fun h'' F'' N'' hl' => ?_
        exact fun Γ p hΓ => wp_of_peek (X.keeps F''.keep) (h s.heap.objs.size h'.objs.size h'' F'' N'' hl hsz) _ h3
      · cases e1
theorem on_check (w : World) : peek (hd.heap_39 w.params) ⟨PG, w.params⟩ (checkBuiltinCall "object.__new__" ⟨[.ref 594], []⟩) = some () := by kernel_rfl
theorem on_body (w : World) (a b : Addr) : peek2 (hd.heap_39 w.params) ⟨PG, w.params⟩ (Builtin.«object.__new__» ⟨[.ref 594], []⟩) a b = some (emptyDict, instObj 594 a, .done (.ret (.ref b))) := by kernel_rfl
theorem obj_new594 {w : World} {A : Around} {E : Value → Shared → Prop} {s : Shared} {h₀ : Heap} {L : Addr} {m : Str → Option Value} {news : Led} {Q : Value → Shared → Prop} (F : Fr h₀ L s.heap m) (N : News h₀ L s.heap news) (X : (hd.heap_39 w.params).In h₀)
    (h : ∀ (a b : Nat) h', Fr h₀ L h' m → News h₀ L h' ((b, instObj 594 a) :: (a, emptyDict) :: news) → (∀ p ∈ news, p.1 < a) → a < b → Q (.ref b) { s with heap := h' }) : wpAny (model PG w) A (call (.builtin "object.__new__") [.ref 594]) Q E s :=
  wpAny_call (codeAny_call_builtin_code (Code.quiet_builtin _ PySem.F.objNew.quiet) ((Looks.of_peek (X.keeps F.keep) (on_check w)).here (codeAny_builtin PySem.F.objNew.entry (wp_of_peek2 F N X (on_body w) rfl (fun _ _ => rfl) h))))
theorem new_ (w : World) (mean mg mb) (v : Value) (news : Led) : Ctr w mean mg mb 87 [.ref 594, v] news 3 30
    (fun r news' => ∃ (x dx : Nat), r = .ref x ∧ dx < x ∧ (∀ p ∈ news, (p.1 : Nat) < dx) ∧ ∀ p ∈ (x, instObj 594 dx) :: (dx, emptyDict) :: news, p ∈ news') := by
  have hpr := prog_here
  revert hpr
  unfold Ctr
  k_fill
  intro _ dp un gd cn cs a ccd cl outer A₀ base h₀ L m s Q E B F X N T hk hd hu hret
  refine wpAny_call ?_
  k_dflt (refine' kp_both ?k1 ?k2 ?k3 ?k4 ?k5 ?kA ?kF ?kK ?k6 ?k7 ?k8 ?kV ?kX ?kQ ?kM ?kN ?kD ?kR ?kP ?kS ?kT ?kB ?_ ?c2 ?c3 ?c4 ?c5; (case kA | kF => exact rfl); (case kK => assumption); (case k1 | k2 | k3 | k4 | k5 => k_asm); (case k6 | k7 => k_is); (case k8 => k_room); (case kV | kX => kp_lit); (case kQ | kM | kN => exact rfl); (case kD => kp_flats); (case kR | kP => exact rfl); (case kS => exact fun _ => rfl); (case kT => exact fun _ _ => rfl); (case kB => exact fun _ _ => locs rfl); (case c5 => decide); (case c2 | c3 | c4 => exact rfl); k_whole; intro C' D' o' g' L' h' tk' l1 l2 lo' hs' fs' FG' F' N' B' X' T'; (try k_lt l1); (try dsimp only); (try k_fold))
  k_steps
  refine Hold.mk ?_
  k_dflt (refine' obj_new594 ?k1 ?k2 ?k3 ?_; (case k1 | k2 | k3 => k_asm)); intro a9 b9 h9 F9 N9 l9 l8
  k_steps
  refine hret _ _ _ _ (by k_asm) (by k_asm) ⟨_, _, rfl, by assumption, fun p hp => (show ∀ p ∈ _ :: _ :: news, (p.1 : Nat) < _ by assumption) p (.tail _ (.tail _ hp)), fun p hp => ?_⟩
  rcases List.mem_cons.mp hp with rfl | hp
  · exact .head _
  rcases List.mem_cons.mp hp with rfl | hp
  · exact .tail _ (.head _)
  · exact .tail _ (.tail _ (.tail _ (.tail _ hp)))
theorem si_call (w : World) (v : Value) : peek (hd.heap_39 w.params) ⟨PG, w.params⟩ (callAny (.ref 594) ⟨[v], []⟩) = some (.again (.call (.builtin "type.__call__") ⟨[.ref 594, v], []⟩)) := by kernel_rfl
theorem si_check (w : World) (v : Value) : peek (hd.heap_39 w.params) ⟨PG, w.params⟩ (checkBuiltinCall "type.__call__" ⟨[.ref 594, v], []⟩) = some () := by kernel_rfl
theorem si_mro (w : World) : peek (hd.heap_39 w.params) ⟨PG, w.params⟩ (mroOf (.ref 594)) = some [.ref 594, .ref 117, .ref 90, .type "object"] := by kernel_rfl
theorem si_made (w : World) : peek (hd.heap_39 w.params) ⟨PG, w.params⟩ (Bind.madeBy (.ref 594)) = some none := by kernel_rfl
theorem si_reads (w : World) : readsIn (hd.heap_39 w.params) 594 (.type "type") = true := by kernel_rfl
theorem si_type (w : World) : typeIn (hd.heap_39 w.params) (.ref 594) = some (.type "type") := by kernel_rfl
theorem si_find (w : World) : findCls (hd.heap_39 w.params) (.ref 594) (.type "type") "__new__" = some (.get (.builtin "staticmethod.__get__") (.ref 91) .none (.ref 594)) := by kernel_rfl
theorem si_rec (w : World) : recIn (hd.heap_39 w.params) 91 "staticmethod" = some [.ref 87] := by kernel_rfl
theorem si_self (w : World) : mroIn (hd.heap_39 w.params) 594 (.ref 594) = some true := by kernel_rfl
theorem si_init (w : World) : findIn (hd.heap_39 w.params) (.ref 594) "__init__" = some (some (.ref 364)) := by kernel_rfl
theorem si_initF (w : World) : typeIn (hd.heap_39 w.params) (.ref 364) = some (.type "function") := by kernel_rfl
noncomputable def k3 (a b c : Tok) : Nat → Tok
  | 20 => a
  | 21 => b
  | _ => c
theorem init_ (w : World) (mean mg mb) (x dx : Nat) (buf : Str) (ub : Tok) (news : Led) (hlt : dx < x) (hnl : ∀ p ∈ news, (p.1 : Nat) < dx) (hb : buf.length < 2 ^ 20) :
    Ctr w mean mg mb 364 [.ref x, .str buf ub] ((x, instObj 594 dx) :: (dx, dictOf [] 0) :: news) 5 40
    (fun v news' => v = .none ∧ ∃ (κ : Nat → Tok) (u up : Tok), news' = (x, instObj 594 dx) :: (dx, ioDict w κ u buf ub 0 up) :: news) := by
  have hpr := prog_here
  revert hpr
  unfold Ctr
  k_fill
  intro _ dp un gd cn cs a ccd cl outer A₀ base h₀ L m s Q E B F X N T hk hd hu hret
  have hn1 : ∀ p ∈ news, p.1 ≠ dx := fun p hp => Nat.ne_of_lt (hnl p hp)
  refine wpAny_call ?_
  k_dflt (refine' code_def ?k1 ?k2 ?k3 ?k4 ?k5 ?kA ?kF ?kK ?k6 ?k7 ?k8 ?k9 ?kB ?_ ?c2 ?c3 ?c4 ?c5; (case kA | kF => exact rfl); (case kK => assumption); (case k1 | k2 | k3 | k4 | k5 => k_asm); (case k6 | k7 => k_is); (case k8 => k_room); (case k9 => first | exact BindsTo.of_eq rfl | exact binds_K (by k_in) rfl (by k_is) rfl rfl rfl); (case c5 => decide); (case kB => exact locs rfl); (case c2 | c3 | c4 => exact rfl); k_whole; intro _ _ _ _ _ _ _ _ _; (try dsimp only); (try k_fold))
  k_steps
  exact hret _ _ _ _ (by k_asm) (by k_asm) ⟨rfl, k3 _ _ _, _, _, rfl⟩
theorem stringio (w : World) (mean mg mb) (buf : Str) (ub : Tok) (news : Led) (hb : buf.length < 2 ^ 20) : Ctr w mean mg mb 594 [.str buf ub] news 8 60
    (fun v news' => ∃ (I dI : Nat) (κ : Nat → Tok) (u up : Tok), v = .ref I ∧ dI < I ∧ (∀ p ∈ news, (p.1 : Nat) < dI) ∧ ∀ p ∈ (I, instObj 594 dI) :: (dI, ioDict w κ u buf ub 0 up) :: news, p ∈ news') := by
  have hpr := prog_here
  revert hpr
  unfold Ctr
  k_fill
  intro _ dp un gd cn cs a ccd cl outer A₀ base h₀ L m s Q E B F X N T hk hd hu hret
  have XS := X.keeps F.keep
  refine wpAny_call (codeAny_of_tree ?_)
  refine (Looks.of_peek (M := model PG w) XS (si_call w (.str buf ub))).here ?_
  refine ⟨rfl, ?_⟩
  refine codeAny_call_builtin_code (Code.quiet_builtin _ (by decide +kernel)) ?_
  refine (Looks.of_peek (M := model PG w) XS (si_check w (.str buf ub))).here ?_
  refine codeAny_builtin PySem.F.entry_type_call ?_
  unfold Builtin.«type.__call__»
  have hm := Looks.of_peek (M := model PG w) XS (si_mro w)
  have hmade := Looks.of_peek (M := model PG w) XS (si_made w)
  obtain ⟨hh, gg, dd, tt, os⟩ := s
  dsimp only at *
  repeat (first | simp only [List.isEmpty_cons, Bool.false_eq_true, if_false] | with_reducible refine cls_sm F X (si_type w) (si_reads w) (si_find w) (si_rec w) rfl ?_ | ((with_reducible show wpAny _ _ (call (Value.ref 87) _) _ _ _); refine Hold.out ?_) | lk)
  refine ⟨?_⟩
  refine ctr_use (new_ w mean mg mb (.str buf ub) news) B F X N T hk (by show dp + 1 + 3 < recursionLimit; omega) ?_ ?_
  · exact (show un + 1 + 30 < cLine by omega)
  rintro r h' tk' news' F' N' ⟨x, dx, rfl, hlt, hnl, hsub⟩
  have N₁ : News h₀ L h' ((x, instObj 594 dx) :: (dx, emptyDict) :: news) := fun p hp => N' p (hsub p hp)
  have I₁ := InstAt.of_news N₁ (.head _) (.tail _ (.head _))
  have XS' := X.keeps F'.keep
  have s1 := looks_mroIn (M := model PG w) XS' (si_self w)
  unfold isInstance
  refine wpAny_bind (wpAny_bind (I₁.type.here (s1.here ?_)))
  rw [if_neg (by decide)]
  refine wpAny_bind (wpAny_holding (special_fn (name := "__init__") XS' I₁ (si_init w) (si_initF w) ?_))
  refine ctr_use (init_ w mean mg mb x dx buf ub news hlt hnl hb) B F' X N₁ T hk (by show dp + 1 + 5 < recursionLimit; omega) (show un + 1 + 40 < cLine by omega) ?_
  rintro r2 h2 tk2 news2 F₂ N₂ ⟨rfl, κ, u, up, rfl⟩
  dsimp only
  rw [if_neg (by decide)]
  refine wpAny_pure ?_
  exact hret _ _ _ _ F₂ N₂ ⟨x, dx, κ, u, up, rfl, hlt, hnl, fun p hp => hp⟩
end
section
/-- the frames that may turn -/
abbrev frs (outer : List Env) : List Addr := outer.filterMap (·.frame)
noncomputable def LeaveT (fs : List Addr) (A₀ : Around) (base : Heap) (outer : List Env) (K : Frag) (p : Program) (loose : List Str) (mean : ExcName → Option Value) (mg mb : Str → Option Value) (g₀ : Heap) (L : Addr) (m : Str → Option Value) (g : Heap) (R : Result → Shared → Prop) (v : Value) (s' : Shared) : Prop :=
  ∃ g' L' m' news', KtsTurn fs g g' ∧ Fr g' L' s'.heap m' ∧ News g' L' s'.heap news' ∧ ∀ h₀', KtsTurn (frs outer) g₀ h₀' → Fr h₀' L s'.heap m → News h₀' L s'.heap news' → Below A₀ base outer h₀' → K.In h₀' → Top p loose mean mg mb h₀' →
    KtsDicts (frs outer) h₀' → R (.ok (.ret v)) s'
theorem mem_frs {env : Env} {L b : Addr} {outer : List Env} (hf : env.frame = some L) (hm : b ∈ frs (env :: outer)) : b = L ∨ b ∈ frs outer := by
  obtain ⟨e, he, hb⟩ := List.mem_filterMap.mp hm
  rcases List.mem_cons.mp he with rfl | he
  · rw [hf] at hb; exact .inl (Option.some.inj hb).symm
  · exact .inr (List.mem_filterMap.mpr ⟨e, he, hb⟩)
section
variable {prog : Program} {w : World} {A₀ A : Around} {s : Shared} {base h₀ g₀ : Heap} {outer : List Env} {L : Addr} {m : Str → Option Value} {env : Env} {news : Led} {K : Frag} {p : Program} {loose : List Str} {mean : ExcName → Option Value} {mg mb : Str → Option Value}
    {R : Result → Shared → Prop} {name qual : Str} {params : Arguments} {body : List Stmt} {scope : Scope} {dV kV doc pm cdv ct oc : Value} {an od : Option Addr} {osl : Array (Option Value)} {f : Addr} {args : Args} {binds : List (Str × Value)}
/-- what a turned callee's ground gives back to its caller -/
theorem backT (B : Below A₀ base outer h₀) (F : Fr h₀ L s.heap m) (N : News h₀ L s.heap news) (XB : K.In base) (TB : Top p loose mean mg mb base) (D : KtsDicts (frs outer) h₀) (T0 : KtsTurn (frs outer) g₀ h₀)
    (hf : env.frame = some L) {v : Value} {s' : Shared} (hl : LeaveT (frs (env :: outer)) A₀ base outer K p loose mean mg mb g₀ L m (hideAll s.heap (news.map (·.1))) R v s') : R (.ok (.ret v)) s' := by
  obtain ⟨g', L', m', news', T', F', N', k⟩ := hl
  have nm : ∀ b o, h₀.get? b = some o → b ∉ news.map (·.1) := fun b o e q => by
    obtain ⟨p, hp, rfl⟩ := List.mem_map.mp q
    rw [(N p hp).2.2] at e; cases e
  have st : h₀.StaysIn (hideAll s.heap (news.map (·.1))) := fun b o e => hideAll_get _ (F.keep b o e) (nm b o e)
  obtain ⟨oL, es, ep, hL, hLd, hLk, hLf⟩ := F.ns
  have nL : L ∉ news.map (·.1) := fun q => by
    obtain ⟨p, hp, e⟩ := List.mem_map.mp q
    exact (N p hp).2.1 e
  have hLg := hideAll_get (news.map (·.1)) hL nL
  have nL₀ : h₀.get? L = none := kts_self F
  obtain ⟨sl, hs⟩ := T'.up hLg
  obtain ⟨T₁, S₁⟩ := kts_turn_at (h := s'.heap) (fs := frs outer) (g := h₀)
    (fun b hb => by
      obtain ⟨_, o, ho', _⟩ := B.frames.mem hb
      exact ⟨o, ho'⟩)
    (fun b o e nmem => F'.keep b o (T'.other b o (st b o e) (fun q => by
      rcases mem_frs hf q with z | z
      · rw [z, nL₀] at e; cases e
      · exact nmem z)))
    (fun b o e _ => by
      obtain ⟨sl', hs'⟩ := T'.up (st b o e)
      exact ⟨sl', F'.keep _ _ hs'⟩)
  have B₃ : Below A₀ base outer (ktsHeap s'.heap (frs outer) h₀) := ⟨B.stack, fun b o e => T₁.other b o (B.stays b o e) (fun hm => by
    rw [(B.frames.mem hm).1] at e
    cases e), B.frames.of_keeps fun b o e _ => by
    obtain ⟨sl', hs'⟩ := T₁.up e
    exact ⟨_, hs', rfl⟩⟩
  refine k _ (T0.trans T₁) ⟨⟨_, es, ep, F'.keep _ _ hs, hLd, hLk, hLf⟩, S₁, by rw [T₁.size]; exact F.above⟩ (fun p hp => ⟨(N' p hp).1, fun q => ?_, ?_⟩) B₃ (XB.keeps B₃.stays) (TB.keeps B₃.stays) (D.turn T₁)
  · have := (N' p hp).2.2; rw [q, hs] at this; cases this
  · refine T₁.none_ _ ?_
    cases q : h₀.get? p.1 with
    | none => rfl
    | some o =>
      obtain ⟨sl', hs'⟩ := T'.up (st _ _ q)
      have := (N' p hp).2.2
      rw [hs'] at this
      cases this
theorem dictsT (F : Fr h₀ L s.heap m) (N : News h₀ L s.heap news) (D : KtsDicts (frs outer) h₀) (hf : env.frame = some L) : KtsDicts (frs (env :: outer)) (hideAll s.heap (news.map (·.1))) := fun b hb => by
  have nm : ∀ b o, h₀.get? b = some o → b ∉ news.map (·.1) := fun b o e q => by
    obtain ⟨p, hp, rfl⟩ := List.mem_map.mp q
    rw [(N p hp).2.2] at e; cases e
  rcases mem_frs hf hb with rfl | hb
  · obtain ⟨oL, es, ep, hL, hLd, hLk, hLf⟩ := F.ns
    refine ⟨oL, es, ep, hideAll_get _ hL (fun q => ?_), hLd⟩
    obtain ⟨p, hp, e⟩ := List.mem_map.mp q
    exact (N p hp).2.1 e
  · obtain ⟨o, es', n', ho', hd'⟩ := D b hb
    exact ⟨o, es', n', hideAll_get _ (F.keep b o ho') (nm b o ho'), hd'⟩
/-- a def is entered, from a frame with or without cells; what it catches may turn the frames below -/
theorem code_defT (B : Below A₀ base outer h₀) (F : Fr h₀ L s.heap m) (X₀ : K.In h₀) (N : News h₀ L s.heap news) (T : Top p loose mean mg mb h₀) (XB : K.In base) (TB : Top p loose mean mg mb base) (D : KtsDicts (frs outer) h₀)
    (T0 : KtsTurn (frs outer) g₀ h₀) (hA : A.frames = some (env :: outer)) (hf : env.frame = some L) (hke : env.scope.kind = .function)
    (ho : K.lookup f = some ⟨oc, od, .func (fnOf name qual params body scope dV kV doc pm an cdv ct), osl⟩) (hcd : codeIn K cdv qual = true) (hroom : A.depth < recursionLimit)
    (hbind : BindsTo s (fnOf name qual params body scope dV kV doc pm an cdv ct) args binds) (hloc : ∀ y ∈ binds, scope.names.lookup y.1 = some .local)
    (h : ∀ g L' h₁, Fr h₀ L g m → Fr g L' h₁ (fun y => binds.reverse.lookup y) → News g L' h₁ news → Below A base (env :: outer) g → K.In g → Top p loose mean mg mb g → KtsDicts (frs (env :: outer)) g → (∀ p ∈ news, (p.1 : Nat) < L') →
      wpAny (model prog w) (A.deeper (envOf qual scope L' f cdv)) (execs body (envOf qual scope L' f cdv))
        (fun fl s' => LeaveT (frs (env :: outer)) A₀ base outer K p loose mean mg mb g₀ L m g R (match fl with | .ret v => v | _ => .none) s')
        (fun e s' => wpAny (model prog w) (A.deeper (envOf qual scope L' f cdv)) (leaving (envOf qual scope L' f cdv) e) (fun _ s'' => R (.error e) s'') (fun e' s'' => R (.error e') s'') s')
        { s with heap := h₁, toks := s.toks + binds.length })
    (hco : scope.isCoroutine = false) (hgen : scope.isGenerator = false) (hk : scope.kind = .function)
    (hcell : ∀ x ∈ scope.names, x.2 ≠ .cell) : codeAny (model prog w) A (.call (.ref f) args) R s := by
  have X := X₀.keeps F.keep
  obtain ⟨FG, BG, st, _⟩ := groundX (R := R) B F N hA hf hke
  refine codeAny_call_def (fd := fnOf name qual params body scope dV kV doc pm an cdv ct) (body := body) (binds := binds) hroom (X _ _ ho) rfl (T.nolimit.keeps F.keep) (codeRec_of X hcd) rfl hbind hcell hloc (fun h₁ hns hk₁ => ?_) hco hgen hk
  exact wpAny_mono (h _ s.heap.objs.size h₁ FG ⟨hns, fun b o e => hk₁ b o (of_hideAll _ e), Nat.le_of_eq (hideAll_size _ _)⟩
    (fun p hp => ⟨hk₁ _ _ (N p hp).1, Nat.ne_of_lt (Heap.lt_size (N p hp).1), hideAll_none _ (List.mem_map_of_mem hp)⟩) BG (X₀.keeps st) (T.keeps st) (dictsT F N D hf) (fun p hp => Heap.lt_size (N p hp).1))
    (fun fl s' hl => backT B F N XB TB D T0 hf hl) fun _ _ y => y
end
/-- a call that may turn the frames' slots below, and may raise -/
noncomputable def CtrS (w : World) (mean : ExcName → Option Value) (mg mb : Str → Option Value) (f : Addr) (vs : List Value) (news : Led) (D U : Nat) (Post : Value → Led → Prop) (PostE : String → List Value → Led → Prop) : Prop :=
  ∀ (dp un : Nat) (gd : Option (List Code)) (cn : Str) (cs : Scope) (a : Addr) (ccd : Value) (cl : List (Str × Addr)) (outer : List Env) (A₀ : Around) (base g₀ h₀ : Heap) (L : Addr) (m : Str → Option Value) (s : Shared) (Q E : Value → Shared → Prop),
    Below A₀ base outer h₀ → Fr h₀ L s.heap m → (hd.heap_39 w.params).In h₀ → News h₀ L s.heap news → Top hd.view_39 LS mean mg mb h₀ → (hd.heap_39 w.params).In base → Top hd.view_39 LS mean mg mb base → KtsDicts (frs outer) h₀ → KtsTurn (frs outer) g₀ h₀ → cs.kind = .function →
    dp + D < recursionLimit → un + U < cLine →
    (∀ v h₀' h' tk' news', KtsTurn (frs outer) g₀ h₀' → Fr h₀' L h' m → News h₀' L h' news' → Below A₀ base outer h₀' → (hd.heap_39 w.params).In h₀' → Top hd.view_39 LS mean mg mb h₀' → KtsDicts (frs outer) h₀' → Post v news' → Q v { s with heap := h', toks := tk' }) →
    (∀ e t cls vs h' tk' news' g, RaisedS base g (envX cn cs L a ccd cl :: outer) e (.type cls) t vs news' h' → Fr h₀ L g m → g.UpToSlots h' → PostE cls vs news' → E (.ref e) { s with heap := h', toks := tk' }) →
      wpAny (model PG w) (ktrTop dp un gd cn cs L a ccd cl outer) (call (.ref f) vs) Q E s
section
variable {w : World} {mean : ExcName → Option Value} {mg mb : Str → Option Value} {f : Addr} {vs : List Value} {news : Led} {D U : Nat} {Post : Value → Led → Prop} {PostE : String → List Value → Led → Prop}
  {dp un : Nat} {gd : Option (List Code)} {cn : Str} {cs : Scope} {a : Addr} {ccd : Value} {cl : List (Str × Addr)} {outer : List Env} {A₀ : Around} {base g₀ h₀ : Heap} {L : Addr} {m : Str → Option Value} {s : Shared} {Q E : Value → Shared → Prop}
theorem ctrS_use (C : CtrS w mean mg mb f vs news D U Post PostE) (B : Below A₀ base outer h₀) (F : Fr h₀ L s.heap m) (X : (hd.heap_39 w.params).In h₀) (N : News h₀ L s.heap news) (T : Top hd.view_39 LS mean mg mb h₀)
    (XB : (hd.heap_39 w.params).In base) (TB : Top hd.view_39 LS mean mg mb base) (Dk : KtsDicts (frs outer) h₀) (T0 : KtsTurn (frs outer) g₀ h₀) (hk : cs.kind = .function)
    (hdp : dp + D < recursionLimit) (hun : un + U < cLine)
    (ret : ∀ v h₀' h' tk' news', KtsTurn (frs outer) g₀ h₀' → Fr h₀' L h' m → News h₀' L h' news' → Below A₀ base outer h₀' → (hd.heap_39 w.params).In h₀' → Top hd.view_39 LS mean mg mb h₀' → KtsDicts (frs outer) h₀' → Post v news' → Q v { s with heap := h', toks := tk' })
    (exc : ∀ e t cls vs h' tk' news' g, RaisedS base g (envX cn cs L a ccd cl :: outer) e (.type cls) t vs news' h' → Fr h₀ L g m → g.UpToSlots h' → PostE cls vs news' → E (.ref e) { s with heap := h', toks := tk' }) :
    wpAny (model PG w) (ktrTop dp un gd cn cs L a ccd cl outer) (call (.ref f) vs) Q E s := C _ _ _ _ _ _ _ _ _ _ _ _ _ _ _ _ _ _ B F X N T XB TB Dk T0 hk hdp hun ret exc
/-- a plain contract, in a frame that may have turned -/
theorem Ctr.toS (C : Ctr w mean mg mb f vs news D U Post) : CtrS w mean mg mb f vs news D U Post PostE := fun _ _ _ _ _ _ _ _ _ _ _ _ _ _ _ _ _ _ B F X N T _ _ Dk T0 hk hdp hun ret _ =>
  C _ _ _ _ _ _ _ _ _ _ _ _ _ _ _ _ _ B F X N T hk hdp hun fun v h' tk' news' F' N' P' => ret v _ h' tk' news' T0 F' N' B X T Dk P'
end
end
section
theorem units_under9 (A : Around) (C : Addr) (vals : List Value) (kw : List (Str × Value)) : (A.under (.builtin "type.__call__" ⟨.ref C :: vals, kw⟩)).units = A.units + 1 := rfl
theorem News.drop9 {h₀ h : Heap} {L : Addr} {news news' : Led} (N : News h₀ L h news') (hs : ∀ p ∈ news, p ∈ news') : News h₀ L h news := fun p hp => N p (hs p hp)
noncomputable def nthT : List Tok → Nat → Tok
  | [], _ => 0
  | a :: _, 0 => a
  | _ :: l, n + 1 => nthT l n
noncomputable def kk (κ : Nat → Tok) (l : List Tok) (n : Nat) : Tok := cond (Nat.blt n 19) (nthT l n) (κ n)
noncomputable abbrev lexDict0 (w : World) (κ υ : Nat → Tok) (I P Fk : Addr) (px : Bool) (vE : Value) (wc : Str) (us ul ut : Tok) : Obj :=
  dictOf [en w "instream" (κ 0) (.ref I), en w "infile" (κ 1) .none, en w "posix" (κ 2) (.bool px), en w "eof" (κ 3) vE, en w "commenters" (κ 4) (.str (Str.ofString "#") (υ 4)), en w "wordchars" (κ 5) (.str wc (υ 5)),
    en w "whitespace" (κ 6) (.str (Str.ofString " \t\r\n") (υ 6)), en w "whitespace_split" (κ 7) (.bool false), en w "quotes" (κ 8) (.str (Str.ofString "'\"") (υ 8)), en w "escape" (κ 9) (.str (Str.ofString "\\") (υ 9)),
    en w "escapedquotes" (κ 10) (.str (Str.ofString "\"") (υ 10)), en w "state" (κ 11) (.str (Str.ofString " ") us), en w "pushback" (κ 12) (.ref P), en w "lineno" (κ 13) (.int 1 ul), en w "debug" (κ 14) (.int 0 (υ 14)), en w "token" (κ 15) (.str (Str.ofString "") ut),
    en w "filestack" (κ 16) (.ref Fk), en w "source" (κ 17) .none, en w "_punctuation_chars" (κ 18) (.str (Str.ofString "") (υ 18))] 19
theorem noq_of {x : Str} (h : x.cps.toList.all (fun c => !isQt c) = true) : ∀ c, inS x c = true → isQt c = false := by
  intro c hc
  have := List.all_eq_true.mp h c (of_decide_eq_true hc)
  simpa using this
theorem noq_app {x y : Str} (hx : ∀ c, inS x c = true → isQt c = false) (hy : ∀ c, inS y c = true → isQt c = false) : ∀ c, inS (x ++ y) c = true → isQt c = false := by
  intro c hc
  have h1 := of_decide_eq_true hc
  rw [Str.cps_append, Array.toList_append, List.mem_append] at h1
  rcases h1 with h1 | h1
  · exact hx c (decide_eq_true h1)
  · exact hy c (decide_eq_true h1)
theorem perm_lex {h₀ h : Heap} {L : Addr} {S dS I dI P Fk : Nat} {od oi : Obj} {news : Led} (N : News h₀ L h ((Fk, dqObj) :: (P, dqObj) :: (I, instObj 594 dI) :: (dI, oi) :: (S, instObj 729 dS) :: (dS, od) :: news)) :
    News h₀ L h (lexLed S dS I dI od oi ((P, dqObj) :: (Fk, dqObj) :: news)) := by
  intro p hp
  rcases List.mem_cons.mp hp with rfl | hp
  · exact N _ (.tail _ (.tail _ (.tail _ (.tail _ (.head _)))))
  rcases List.mem_cons.mp hp with rfl | hp
  · exact N _ (.tail _ (.tail _ (.tail _ (.tail _ (.tail _ (.head _))))))
  rcases List.mem_cons.mp hp with rfl | hp
  · exact N _ (.tail _ (.tail _ (.head _)))
  rcases List.mem_cons.mp hp with rfl | hp
  · exact N _ (.tail _ (.tail _ (.tail _ (.head _))))
  rcases List.mem_cons.mp hp with rfl | hp
  · exact N _ (.tail _ (.head _))
  rcases List.mem_cons.mp hp with rfl | hp
  · exact N _ (.head _)
  · exact N _ (.tail _ (.tail _ (.tail _ (.tail _ (.tail _ (.tail _ hp))))))
noncomputable abbrev lexDict9 (w : World) (k0 k1 k2 k3 k4 k5 k6 k7 k8 k9 k10 k11 k12 k13 k14 k15 k16 k17 k18 v4 v5 v6 v8 v9 v10 v14 v18 : Tok) (I P Fk : Addr) (px : Bool) (vE : Value) (wc : Str) (us ul ut : Tok) : Obj :=
  dictOf [en w "instream" k0 (.ref I), en w "infile" k1 .none, en w "posix" k2 (.bool px), en w "eof" k3 vE, en w "commenters" k4 (.str (Str.ofString "#") v4), en w "wordchars" k5 (.str wc v5),
    en w "whitespace" k6 (.str (Str.ofString " \t\r\n") v6), en w "whitespace_split" k7 (.bool false), en w "quotes" k8 (.str (Str.ofString "'\"") v8), en w "escape" k9 (.str (Str.ofString "\\") v9),
    en w "escapedquotes" k10 (.str (Str.ofString "\"") v10), en w "state" k11 (.str (Str.ofString " ") us), en w "pushback" k12 (.ref P), en w "lineno" k13 (.int 1 ul), en w "debug" k14 (.int 0 v14), en w "token" k15 (.str (Str.ofString "") ut),
    en w "filestack" k16 (.ref Fk), en w "source" k17 .none, en w "_punctuation_chars" k18 (.str (Str.ofString "") v18)] 19
noncomputable def MidE (w : World) (px : Bool) (g : Heap) (L : Addr) (m : Str → Option Value) (a b c : Addr × Obj) (d : Addr) (x y z : DictEntry) (news : Led) (s s' : Shared) : Prop :=
  ∃ h' tk' k te, s' = { s with heap := h', toks := tk' } ∧ Fr g L h' m ∧ News g L h' (a :: b :: c :: (d, dictOf [x, y, z, en w "eof" k (eofVal px te)] 4) :: news)
noncomputable def MidW (g : Heap) (L : Addr) (m : Str → Option Value) (a b c : Addr × Obj) (d : Addr) (x y z u v : DictEntry) (hh : Int) (kk : Value) (news : Led) (s s' : Shared) : Prop :=
  ∃ h' tk' wc' t', (∀ c, inS wc' c = true → isQt c = false) ∧ s' = { s with heap := h', toks := tk' } ∧ Fr g L h' m ∧ News g L h' (a :: b :: c :: (d, dictOf [x, y, z, u, v, ⟨hh, kk, .str wc' t'⟩] 6) :: news)
theorem join_eof {M : Model} {A : Around} {E : Value → Shared → Prop} {env : Env} {stmt : Stmt} {Q : Flow → Shared → Prop} {s : Shared} (w : World) (px : Bool) {g h : Heap} {L : Addr} {m : Str → Option Value} {a b c : Addr × Obj} {d : Addr} {x y z : DictEntry} {news : Led}
    (_ : Fr g L h m) (_ : News g L h (a :: b :: c :: (d, dictOf [x, y, z] 3) :: news))
    (h1 : wpAny M A (exec stmt env) (fun f s' => f = .next ∧ MidE w px g L m a b c d x y z news s s') E s)
    (h2 : ∀ h' tk' k te, Fr g L h' m → News g L h' (a :: b :: c :: (d, dictOf [x, y, z, en w "eof" k (eofVal px te)] 4) :: news) → Q .next { s with heap := h', toks := tk' }) : wpAny M A (exec stmt env) Q E s :=
  wpAny_mono h1 (fun f s' p => by obtain ⟨rfl, h', tk', k, te, rfl, hF, hN⟩ := p; exact h2 h' tk' k te hF hN) fun _ _ e => e
theorem join_wc {M : Model} {A : Around} {E : Value → Shared → Prop} {env : Env} {stmt : Stmt} {Q : Flow → Shared → Prop} {s : Shared} {g h : Heap} {L : Addr} {m : Str → Option Value} {a b c : Addr × Obj} {d : Addr} {x y z u v : DictEntry} {hh : Int} {kk : Value} {wc : Str} {t : Tok} {news : Led}
    (_ : Fr g L h m) (_ : News g L h (a :: b :: c :: (d, dictOf [x, y, z, u, v, ⟨hh, kk, .str wc t⟩] 6) :: news))
    (h1 : wpAny M A (exec stmt env) (fun f s' => f = .next ∧ MidW g L m a b c d x y z u v hh kk news s s') E s)
    (h2 : ∀ h' tk' wc' t', (∀ c, inS wc' c = true → isQt c = false) → Fr g L h' m → News g L h' (a :: b :: c :: (d, dictOf [x, y, z, u, v, ⟨hh, kk, .str wc' t'⟩] 6) :: news) → Q .next { s with heap := h', toks := tk' }) : wpAny M A (exec stmt env) Q E s :=
  wpAny_mono h1 (fun f s' p => by obtain ⟨rfl, h', tk', wc', t', hw, rfl, hF, hN⟩ := p; exact h2 h' tk' wc' t' hw hF hN) fun _ _ e => e
theorem hold_ifN {M : Model} {A : Around} {E : Value → Shared → Prop} {s : Shared} {Q : Flow → Shared → Prop} {env : Env} {pp : Pos} {x : Str} {a b c d : Pos} {k : Const} {u : Nat} {t1 t2 : List Expr} {v : Expr} (h : Hold (wpAny M A (exec (.If (.Name x a) [.Assign t1 (.Constant k u b) c] [.Assign t2 v d] pp) env) Q E s)) : wpAny M A (exec (.If (.Name x a) [.Assign t1 (.Constant k u b) c] [.Assign t2 v d] pp) env) Q E s := h.out
theorem hold_ifA {M : Model} {A : Around} {E : Value → Shared → Prop} {s : Shared} {Q : Flow → Shared → Prop} {env : Env} {pp : Pos} {o tg v : Expr} {n : Str} {a b : Pos} {op : Operator} (h : Hold (wpAny M A (exec (.If (.Attribute o n a) [.AugAssign tg op v b] [] pp) env) Q E s)) : wpAny M A (exec (.If (.Attribute o n a) [.AugAssign tg op v b] [] pp) env) Q E s := h.out
local macro_rules | `(tactic| walk_at $s:str) => wk "exec If;isMid;hold_ifN hold_ifA" s
theorem mk_lex9 (w : World) (mean mg mb) (px : Bool) (buf : Str) (ub : Tok) (news : Led) (hb : buf.length < 2 ^ 20)
    (dp un : Nat) (gd : Option (List Code)) (cn : Str) (cs : Scope) (a : Addr) (ccd : Value) (cl : List (Str × Addr)) (outer : List Env) (A₀ : Around) (base h₀ : Heap) (L : Addr) (m : Str → Option Value) (s : Shared) (Q E : Value → Shared → Prop)
    (B : Below A₀ base outer h₀) (F : Fr h₀ L s.heap m) (X : (hd.heap_39 w.params).In h₀) (N : News h₀ L s.heap news) (T : Top hd.view_39 LS mean mg mb h₀) (hk : cs.kind = .function) (hdp : dp + 14 < recursionLimit) (hun : un + 120 < cLine)
    (ret : ∀ (S dS I dI P Fk : Nat) (κ : Nat → Tok) (k0 k1 k2 k3 k4 k5 k6 k7 k8 k9 k10 k11 k12 k13 k14 k15 k16 k17 k18 v4 v5 v6 v8 v9 v10 v14 v18 : Tok) (u up te us ul ut : Tok) (wc : Str) h' tk', (∀ c, inS wc c = true → isQt c = false) → dS < S → S < dI → dI < I → I < P → P < Fk → (∀ p ∈ news, (p.1 : Nat) < dS) → Fr h₀ L h' m →
      News h₀ L h' (lexLed S dS I dI (lexDict9 w k0 k1 k2 k3 k4 k5 k6 k7 k8 k9 k10 k11 k12 k13 k14 k15 k16 k17 k18 v4 v5 v6 v8 v9 v10 v14 v18 I P Fk px (eofVal px te) wc us ul ut) (ioDict w κ u buf ub 0 up) ((P, dqObj) :: (Fk, dqObj) :: news)) → Q (.ref S) { s with heap := h', toks := tk' }) :
    PySem.Challenge.rw_mj0242_04.prog = PySem.Challenge.rw_mj0242_04.prog →
    wpAny (model PG w) (ktrTop dp un gd cn cs L a ccd cl outer) (call (.ref 729) [.str buf ub] [(Str.ofString "posix", .bool px)]) Q E s := by
  revert X
  k_fill
  intro X _
  k_dflt (refine' call_cls ?k1 ?k2 ?k3 ?k4 ?k5 ?k6 ?_; (case k1 | k2 | k3 => k_asm); (case k4 | k5 | k6 => k_is); k_whole; intro x' d' h' F' N' l1 l2; (have l0 := l1); (try k_lt l1); (try k_lt2 l2))
  k_dflt (refine' code_def ?k1 ?k2 ?k3 ?k4 ?k5 ?kA ?kF ?kK ?k6 ?k7 ?k8 ?k9 ?kB ?_ ?c2 ?c3 ?c4 ?c5; (case kA | kF => exact rfl); (case kK => assumption); (case k1 | k2 | k3 | k4 | k5 => k_asm); (case k6 | k7 => k_is); (case k8 => k_room); (case k9 => first | exact BindsTo.of_eq rfl | exact binds_K (by k_in) rfl (by k_is) rfl rfl rfl); (case c5 => decide); (case kB => exact locs rfl); (case c2 | c3 | c4 => exact rfl); k_whole; intro _ _ _ _ _ _ _ _ _; (try dsimp only); (try k_fold))
  k_steps
  refine Hold.mk ?_
  k_dflt (refine' ctr_use (stringio _ _ _ _ _ _ _ ?hb) ?k1 ?k2 ?k3 ?k4 ?k5 ?kK ?kd ?ku ?_; (case k1 | k2 | k3 | k4 | k5 => k_asm); (case kK => first | exact rfl | assumption); (case hb => assumption); (case kd => ktr_room); (case ku => first | ktr_units | (have hcL9 := cLine_is; (simp only [units_in1, units_deeper, Around.mark_units, units_under9]); (try dsimp only [ktrTop]); omega)))
  (intro v9 h9 tk9 n9 F9 N9 P9; (obtain ⟨I9, dI9, κ9, u9, up9, e9, o9, l9, hs9⟩ := P9); (subst e9); (replace N9 := News.drop9 N9 hs9); (clear hs9); (try k_lt l9); (try k_fold))
  k_steps
  refine Hold.mk ?_
  rename Fr _ _ _ _ => F1
  rename News _ _ _ _ => N1
  refine join_eof w px F1 N1 ?_ ?_
  · k_steps
    all_goals (rename Fr _ _ _ _ => FF; rename News _ _ _ _ => NN)
    · have e := ‹px = true›
      subst e
      exact ⟨_, _, _, 0, rfl, FF, NN⟩
    · have e := ‹px = false›
      subst e
      exact ⟨_, _, _, _, rfl, FF, NN⟩
  clear F1 N1
  intro h2 tk2 k3 te F1 N1
  dsimp only
  k_steps
  refine Hold.mk ?_
  rename Fr _ _ _ _ => F2
  rename News _ _ _ _ => N2
  refine join_wc F2 N2 ?_ ?_
  · k_steps
    all_goals (rename Fr _ _ _ _ => FF; rename News _ _ _ _ => NN)
    all_goals (refine ⟨_, _, _, _, ?_, rfl, FF, NN⟩; exact noq_of (by decide +kernel))
  clear F2 N2
  intro h4 tk4 wc t4 hwc F2 N2
  dsimp only
  k_steps
  refine Hold.mk ?_
  k_dflt (refine' deque_N ?k1 ?k2 ?_; (case k1 | k2 => k_asm)); intro D9 h9 F9 N9 l9; (try k_lt l9)
  k_steps
  refine Hold.mk ?_
  k_dflt (refine' deque_N ?k1 ?k2 ?_; (case k1 | k2 => k_asm)); intro D9 h9 F9 N9 l9; (try k_lt l9)
  k_steps
  rename News h₀ L _ _ => NN
  rename Nat → Tok => κ9
  refine ret _ _ _ _ _ _ κ9 _ _ _ _ _ _ _ _ _ _ _ _ _ _ _ _ _ _ _ _ _ _ _ _ _ _ _ _ _ _ _ _ _ _ _ _ ?hw ?p1 ?p2 ?p3 ?p4 ?p5 ?pl ?hF (perm_lex NN)
  case hF => k_asm
  case pl => exact l0
  case hw => exact hwc
  all_goals omega
theorem mk_lex (w : World) (mean mg mb) (px : Bool) (buf : Str) (ub : Tok) (news : Led) (hb : buf.length < 2 ^ 20)
    (dp un : Nat) (gd : Option (List Code)) (cn : Str) (cs : Scope) (a : Addr) (ccd : Value) (cl : List (Str × Addr)) (outer : List Env) (A₀ : Around) (base h₀ : Heap) (L : Addr) (m : Str → Option Value) (s : Shared) (Q E : Value → Shared → Prop)
    (B : Below A₀ base outer h₀) (F : Fr h₀ L s.heap m) (X : (hd.heap_39 w.params).In h₀) (N : News h₀ L s.heap news) (T : Top hd.view_39 LS mean mg mb h₀) (hk : cs.kind = .function) (hdp : dp + 14 < recursionLimit) (hun : un + 120 < cLine)
    (ret : ∀ (S dS I dI P Fk : Nat) (κ υ : Nat → Tok) (u up te us ul ut : Tok) (wc : Str) h' tk', (∀ c, inS wc c = true → isQt c = false) → dS < S → S < dI → dI < I → I < P → P < Fk → (∀ p ∈ news, (p.1 : Nat) < dS) → Fr h₀ L h' m →
      News h₀ L h' (lexLed S dS I dI (lexDict0 w κ υ I P Fk px (eofVal px te) wc us ul ut) (ioDict w κ u buf ub 0 up) ((P, dqObj) :: (Fk, dqObj) :: news)) → Q (.ref S) { s with heap := h', toks := tk' }) :
    PySem.Challenge.rw_mj0242_04.prog = PySem.Challenge.rw_mj0242_04.prog →
    wpAny (model PG w) (ktrTop dp un gd cn cs L a ccd cl outer) (call (.ref 729) [.str buf ub] [(Str.ofString "posix", .bool px)]) Q E s := by
  refine mk_lex9 w mean mg mb px buf ub news hb dp un gd cn cs a ccd cl outer A₀ base h₀ L m s Q E B F X N T hk hdp hun ?_
  intro S dS I dI P Fk κ k0 k1 k2 k3 k4 k5 k6 k7 k8 k9 k10 k11 k12 k13 k14 k15 k16 k17 k18 v4 v5 v6 v8 v9 v10 v14 v18 u up te us ul ut wc h' tk' hw p1 p2 p3 p4 p5 pl hF hN
  exact ret S dS I dI P Fk (kk κ [k0, k1, k2, k3, k4, k5, k6, k7, k8, k9, k10, k11, k12, k13, k14, k15, k16, k17, k18]) (nthT [0, 0, 0, 0, v4, v5, v6, 0, v8, v9, v10, 0, 0, 0, v14, 0, 0, 0, v18]) u up te us ul ut wc h' tk' hw p1 p2 p3 p4 p5 pl hF hN
end
section
noncomputable def up4 (υ : Nat → Tok) (uc : Tok) : Nat → Tok
  | 4 => uc
  | n => υ n
noncomputable abbrev lexDict4 (w : World) (κ υ : Nat → Tok) (uc : Tok) (I P Fk : Addr) (px : Bool) (vE : Value) (cm wc : Str) (us ul ut : Tok) : Obj :=
  dictOf [en w "instream" (κ 0) (.ref I), en w "infile" (κ 1) .none, en w "posix" (κ 2) (.bool px), en w "eof" (κ 3) vE, en w "commenters" (κ 4) (.str cm uc), en w "wordchars" (κ 5) (.str wc (υ 5)),
    en w "whitespace" (κ 6) (.str (Str.ofString " \t\r\n") (υ 6)), en w "whitespace_split" (κ 7) (.bool true), en w "quotes" (κ 8) (.str (Str.ofString "'\"") (υ 8)), en w "escape" (κ 9) (.str (Str.ofString "\\") (υ 9)),
    en w "escapedquotes" (κ 10) (.str (Str.ofString "\"") (υ 10)), en w "state" (κ 11) (.str (Str.ofString " ") us), en w "pushback" (κ 12) (.ref P), en w "lineno" (κ 13) (.int 1 ul), en w "debug" (κ 14) (.int 0 (υ 14)), en w "token" (κ 15) (.str (Str.ofString "") ut),
    en w "filestack" (κ 16) (.ref Fk), en w "source" (κ 17) .none, en w "_punctuation_chars" (κ 18) (.str (Str.ofString "") (υ 18))] 19
theorem At.zero (buf : Str) : At buf 0 buf.cps.toList := ⟨Int.le_refl _, Int.natCast_nonneg _, rfl⟩
theorem list_lex4 {w : World} {mean : ExcName → Option Value} {mg mb : Str → Option Value} {S dS I dI P Fk : Nat} {κ υ : Nat → Tok} {uc u ub te us ul ut up : Tok} {px : Bool} (cmb : Bool) {cm wc buf : Str} {news : Led} (hb : buf.length < 2 ^ 20)
    (o1 : dS < S) (o2 : S < dI) (o3 : dI < I) (o4 : I < P) (o5 : P < Fk) (hnw : ∀ p ∈ news, p.1 < dS) (hcm : ∀ c, inS cm c = (cmb && c == 35)) (hwc : ∀ c, inS wc c = true → isQt c = false)
    {dp un : Nat} {gd : Option (List Code)} {cn : Str} {cs : Scope} {a : Addr} {ccd : Value} {outer : List Env} {A₀ : Around} {base h₀ : Heap} {L : Addr} {m : Str → Option Value} {s : Shared} {Q E : Value → Shared → Prop}
    (B : Below A₀ base outer h₀) (F : Fr h₀ L s.heap m) (K : (hd.heap_39 w.params).In h₀) (N : News h₀ L s.heap (lexLed S dS I dI (lexDict4 w κ υ uc I P Fk px (eofVal px te) cm wc us ul ut) (ioDict w κ u buf ub 0 up) ((P, dqObj) :: (Fk, dqObj) :: news)))
    (T : Top hd.view_39 LS mean mg mb h₀) (hk : cs.kind = .function) (hdp : dp + 11 < recursionLimit) (hun : un + 110 < cLine)
    (ret : ∀ (D : Nat) h₀' h' tk' led' its ws c, KtsTurn (frs outer) h₀ h₀' → Fr h₀' L h' m → News h₀' L h' ((D, listOf its c) :: led') → (∀ p ∈ news, p ∈ led') → (∀ p ∈ news, p.1 < D) → Below A₀ base outer h₀' → wordsF px cmb (buf.length + 2) .sp buf.cps.toList = .ok ws → StrsAre its.toList ws → Q (.ref D) { s with heap := h', toks := tk' })
    (exc : ∀ e t vs h' tk' news' g msg t1, RaisedS base g (envX cn cs L a ccd [] :: outer) e (.type "ValueError") t vs news' h' → Fr h₀ L g m → g.UpToSlots h' → wordsF px cmb (buf.length + 2) .sp buf.cps.toList = .error msg → vs = [.str msg t1] → (∀ p ∈ news, p ∈ news') → E (.ref e) { s with heap := h', toks := tk' }) :
    wpAny (model PG w) (ktrTop dp un gd cn cs L a ccd [] outer) (call (.type "list") [.ref S]) Q E s :=
  list_lex w mean mg mb S dS I dI P Fk κ (up4 υ uc) u ub te us ul ut up px cmb cm wc buf 1 0 buf.cps.toList news hb o1 o2 o3 o4 o5 hnw hcm hwc (At.zero buf)
    dp un gd cn cs a ccd outer A₀ base h₀ L m s Q E B F K N T hk hdp hun ret exc
theorem inS_hash (c : Nat) : inS (Str.ofString "#") c = (true && c == 35) := by
  unfold inS
  rw [show (Str.ofString "#").cps.toList = [35] by decide +kernel]
  simp
  rfl
theorem inS_none (c : Nat) : inS (Str.ofString "") c = (false && c == 35) := by
  unfold inS
  rw [show (Str.ofString "").cps.toList = [] by decide +kernel]
  simp
noncomputable def SplitPost (buf : Str) (px cmb : Bool) (news : Led) (v : Value) (news' : Led) : Prop :=
  ∃ (D : Nat) (its : Array Value) (ws : List Str) (c : Nat), v = .ref D ∧ wordsF px cmb (buf.length + 2) .sp buf.cps.toList = .ok ws ∧ StrsAre its.toList ws ∧ (D, listOf its c) ∈ news' ∧ (∀ p ∈ news, p ∈ news') ∧ ∀ p ∈ news, (p.1 : Nat) < D
noncomputable def SplitExc (buf : Str) (px cmb : Bool) (news : Led) (cls : String) (vs : List Value) (news' : Led) : Prop :=
  cls = "ValueError" ∧ ∃ msg t1, vs = [.str msg t1] ∧ wordsF px cmb (buf.length + 2) .sp buf.cps.toList = .error msg ∧ ∀ p ∈ news, p ∈ news'
local macro_rules | `(tactic| walk_at "call ref") => `(tactic| (k_here; (with_reducible show wpAny _ _ (call (Value.ref 729) _ _) _ _ _); refine Hold.out ?_))
local macro_rules | `(tactic| walk_at $s:str) => wk "call type:list;R;holdO" s
theorem split_ (w : World) (mean mg mb) (buf : Str) (ub : Tok) (news : Led) (hb : buf.length < 2 ^ 20) :
    CtrS w mean mg mb 741 [.str buf ub] news 20 200 (SplitPost buf true false news) (SplitExc buf true false news) := by
  have hpr := prog_here
  revert hpr
  unfold CtrS
  k_fill
  intro _ dp un gd cn cs a ccd cl outer A₀ base g₀ h₀ L m s Q E B F X N T XB TB D T0 hk hdp hun ret exc
  have XS := X.keeps F.keep
  refine wpAny_call ?_
  k_dflt (refine' code_defT ?k1 ?k2 ?k3 ?k4 ?k5 ?XB ?TB ?kD ?T0 ?kA ?kF ?kK ?k6 ?k7 ?k8 ?k9 ?kB ?_ ?c2 ?c3 ?c4 ?c5; (case kA | kF => exact rfl); (case kK => assumption); (case k1 | k2 | k3 | k4 | k5 => k_asm); (case XB | TB | kD | T0 => assumption); (case k6 | k7 => k_is); (case k8 => k_room); (case k9 => first | exact BindsTo.of_eq rfl | exact binds_K (by k_in) rfl (by k_is) rfl rfl rfl); (case c5 => decide); (case kB => exact locs rfl); (case c2 | c3 | c4 => exact rfl); k_whole; intro g' L' h' FG' F' N' B' X' T' D' l0; (try dsimp only); (try k_fold))
  k_steps
  refine Hold.mk ?_
  k_dflt (refine' mk_lex _ _ _ _ _ _ _ _ ?hb _ _ _ _ _ _ _ _ _ _ _ _ _ _ _ _ _ ?k1 ?k2 ?k3 ?k4 ?k5 ?kK ?kd ?ku ?_ ?pr; (case k1 | k2 | k3 | k4 | k5 => k_asm); (case kK => first | exact rfl | assumption); (case pr => exact rfl); (case hb => assumption); (case kd => ktr_room); (case ku => ktr_units))
  (intro S9 dS9 I9 dI9 P9 Fk9 κ9 υ9 u9 up9 te9 us9 ul9 ut9 wc9 h9 tk9 w9 o1 o2 o3 o4 o5 l9 F9 N9; (try k_fold))
  k_steps
  refine Hold.mk ?_
  k_dflt (refine' list_lex4 false hb ?o1 ?o2 ?o3 ?o4 ?o5 ?hn ?hc ?hw ?k1 ?k2 ?k3 ?k4 ?k5 ?kK ?kd ?ku ?_ ?_; (case k1 | k2 | k3 | k4 | k5 => k_asm); (case kK => exact rfl); (case o1 | o2 | o3 | o4 | o5 | hn => assumption); (case hc => exact inS_none); (case hw => assumption); (case kd => ktr_room); (case ku => ktr_units))
  · intro D1 h₀1 h1 tk1 led1 its1 ws1 c1 T1 F1 N1 s1 l1 B1 w1 a1
    refine ⟨h₀1, _, _, _, T1, F1, N1, fun h₀' kT kF kN kB kX kP kD => ret _ h₀' _ _ _ kT kF kN kB kX kP kD ⟨D1, its1, ws1, c1, rfl, w1, a1, .head _, fun p hp => .tail _ (s1 p hp), l1⟩⟩
  · intro e1 t1 vs1 h1 tk1 news1 g1 msg1 t2 R1 F1 U1 w1 v1 s1
    walk_at "leaving ref"
    refine exc _ _ _ _ _ _ _ _ (by assumption) (by assumption) (by assumption) ⟨rfl, msg1, t2, v1, w1, s1⟩
end
section
local macro_rules | `(tactic| walk_at $_) => Lean.Macro.throwUnsupported
noncomputable def ToldPost (buf : Str) (px cmb : Bool) (news : Led) (v : Value) (news' : Led) : Prop :=
  SplitPost buf px cmb news v news' ∨ ∃ msg t, v = .str msg t ∧ wordsF px cmb (buf.length + 2) .sp buf.cps.toList = .error msg ∧ ∀ p ∈ news, p ∈ news'
theorem MadeL_of {h₀ h : Heap} {L : Addr} {news led : Led} (N : News h₀ L h led) (hs : ∀ p ∈ news, p ∈ led) : News h₀ L h news := fun p hp => N p (hs p hp)
local macro_rules | `(tactic| walk_at "call ref") => `(tactic| (k_here; (with_reducible show wpAny _ _ (call (Value.ref 741) _) _ _ _); refine Hold.out ?_))
local macro_rules | `(tactic| walk_at "call type:str") => `(tactic| (k_here; (rename Got _ _ _ _ _ => gX); (rename News _ _ _ _ => nX); refine Hold.out ?_))
theorem told_ (w : World) (mean mg mb) (buf : Str) (ub : Tok) (news : Led) (hb : buf.length < 2 ^ 20) :
    CtrS w mean mg mb 767 [.str buf ub] news 22 220 (ToldPost buf true false news) (fun _ _ _ => False) := by
  have hpr := prog_here
  revert hpr
  unfold CtrS
  k_fill
  intro _ dp un gd cn cs a ccd cl outer A₀ base g₀ h₀ L m s Q E B F X N T XB TB D T0 hk hdp hun ret exc
  have XS := X.keeps F.keep
  refine wpAny_call ?_
  k_dflt (refine' code_defT ?k1 ?k2 ?k3 ?k4 ?k5 ?XB ?TB ?kD ?T0 ?kA ?kF ?kK ?k6 ?k7 ?k8 ?k9 ?kB ?_ ?c2 ?c3 ?c4 ?c5; (case kA | kF => exact rfl); (case kK => assumption); (case k1 | k2 | k3 | k4 | k5 => k_asm); (case XB | TB | kD | T0 => assumption); (case k6 | k7 => k_is); (case k8 => k_room); (case k9 => first | exact BindsTo.of_eq rfl | exact binds_K (by k_in) rfl (by k_is) rfl rfl rfl); (case c5 => decide); (case kB => exact locs rfl); (case c2 | c3 | c4 => exact rfl); k_whole; intro g' L' h' FG' F' N' B' X' T' D' l0; (try dsimp only); (try k_fold))
  k_steps
  refine Hold.mk ?_
  (refine' ctrS_use (split_ _ _ _ _ _ _ _ ?hb) ?k1 ?k2 ?k3 ?k4 ?k5 ?XB ?TB ?kD ?T0 ?kK ?kd ?ku ?_ ?_; (case k1 | k2 | k3 | k4 | k5 => k_asm); (case XB | TB | kD => assumption); (case T0 => first | assumption | exact KtsTurn.refl); (case kK => first | exact rfl | assumption); (case hb => assumption); (case kd => ktr_room); (case ku => ktr_units))
  · intro v9 g9 h9 tk9 n9 T9 F9 N9 B9 X9 Q9 D9 P9
    exact ⟨g9, _, _, n9, T9, F9, N9, fun h₀' kT kF kN kB kX kP kD => ret _ h₀' _ _ _ kT kF kN kB kX kP kD (.inl P9)⟩
  · intro e9 t9 c9 v9 h9 tk9 n9 g9 R9 F9 U9 P9
    obtain ⟨q1, msg9, t19, q2, w9, s9⟩ := P9
    subst q1
    subst q2
    try k_fold
    k_steps
    refine Hold.mk ?_
    refine' str_got_one (news := ?nn) PySem.F.excStr_ValueError ?kN ?kG ?ku ?_; (case kG | kN => assumption); (case ku => ktr_units)
    k_steps
    rename KtsTurn _ _ _ => T9
    rename Fr _ _ _ _ => F9
    rename News _ _ _ n9 => N9
    exact ⟨_, _, _, n9, T9, F9, N9, fun h₀' kT kF kN kB kX kP kD => ret _ h₀' _ _ _ kT kF kN kB kX kP kD (.inr ⟨msg9, t19, rfl, w9, s9⟩)⟩
end
section
/-- one pair of replace -/
noncomputable def repl1 (x : Str) (p : Str × Str) : Str := Txt.join p.2 (Txt.split x p.1)
noncomputable def replF (x : Str) (ps : List (Str × Str)) : Str := ps.foldl repl1 x
/-- nothing grows too far on the way, and each sought text has signs -/
noncomputable def RepOk : Str → List (Str × Str) → Prop
  | x, [] => x.length < 2 ^ 20
  | x, p :: r => x.length < 2 ^ 20 ∧ p.1.length ≠ 0 ∧ p.2.length < 8 ∧ RepOk (repl1 x p) r
inductive PairsAre : List Value → List (Str × Str) → Prop
  | nil : PairsAre [] []
  | cons (a b : Str) (t u : Tok) {vs : List Value} {ps : List (Str × Str)} : PairsAre vs ps → PairsAre (.str a t :: .str b u :: vs) ((a, b) :: ps)
theorem PairsAre.len : ∀ {vs : List Value} {ps : List (Str × Str)}, PairsAre vs ps → vs.length = 2 * ps.length
  | _, _, .nil => rfl
  | _, _, .cons _ _ _ _ h => by simp only [List.length_cons]; rw [h.len]; omega
abbrev tupO (vs : List Value) : Obj := { cls := .type "tuple", data := .seq vs.toArray }
noncomputable def RInv (R : Str) (news : Led) (n : Nat) (m : Str → Option Value) (led : Led) : Prop :=
  ∃ (x : Str) (tx : Tok) (T : Nat) (vs : List Value) (ps : List (Str × Str)) (own : Led), n = ps.length ∧ PairsAre vs ps ∧ ps.length ≤ 8 ∧ RepOk x ps ∧ replF x ps = R ∧ led = (T, tupO vs) :: own ∧ (∀ p ∈ news, p ∈ own) ∧
    m (Str.ofString "text") = some (.str x tx) ∧ m (Str.ofString "pairs") = some (.ref T)
structure RPost (h₀ : Heap) (L : Addr) (s : Shared) (R : Str) (news : Led) (f : Flow) (s' : Shared) : Prop where
  get : f = .next ∧ ∃ tx m' h' tk' led, s' = { s with heap := h', toks := tk' } ∧ Fr h₀ L h' m' ∧ News h₀ L h' led ∧ (∀ p ∈ news, p ∈ led) ∧ m' (Str.ofString "text") = some (.str R tx)
theorem rep_rule {w : World} {A : Around} {E : Value → Shared → Prop} {Q : Flow → Shared → Prop} {s : Shared} {env : Env} {h₀ : Heap} {L : Addr} {test : Expr} {body : List Stmt} {pos : Pos} {m : Str → Option Value} {led news : Led} {n₀ : Nat} (R : Str)
    (F : Fr h₀ L s.heap m) (N : News h₀ L s.heap led) (hJ : RInv R news n₀ m led)
    (turn : ∀ n m₁ led₁ h₁ tk₁, Fr h₀ L h₁ m₁ → News h₀ L h₁ led₁ → RInv R news n m₁ led₁ →
      wpAny (model PG w) A (isTrue test env (eval test env)) (fun b s₂ =>
        if b = true then wpAny (model PG w) A (execs body env) (WhileStep2 h₀ L s (RInv R news) (RPost h₀ L s R news) n) E s₂ else RPost h₀ L s R news .next s₂) E { s with heap := h₁, toks := tk₁ })
    (post : ∀ s', RPost h₀ L s R news .next s' → Q .next s')
    (hE : PassesOwn (model PG w) A env E := by passes_own) : wpAny (model PG w) A (exec (.While test body [] pos) env) Q E s :=
  wpAny_mono (While_inv2 (RInv R news) F N hJ turn hE) (fun f s' p => by obtain rfl := p.get.1; exact post s' p) fun _ _ x => x
section
variable {w : World} {A : Around} {E : Value → Shared → Prop} {s : Shared} {h₀ : Heap} {L : Addr} {m : Str → Option Value} {T : Nat} {v v1 : Value} {vs : List Value} {own : Led}
theorem tup_truthy {Q : Bool → Shared → Prop} (N : News h₀ L s.heap ((T, tupO (v :: vs)) :: own)) (hl : (v :: vs).length ≤ 100) (h : Q true { s with toks := s.toks + 1 + 1 }) : wpAny (model PG w) A (truthy (.ref T)) Q E s :=
  truthy_tuple (News.isTup N (.head _)) (by rw [List.size_toArray]; omega) (by simpa using h)
theorem tup_item0 {Q : Value → Shared → Prop} {value slice : Expr} {u : Tok} (N : News h₀ L s.heap ((T, tupO (v :: v1 :: vs)) :: own)) (h : Q v s)
    (hs : subscripted slice false (.ref T) (.int 0 u) = operate [.ref T, .int 0 u] (getItem (.ref T) (.int 0 u)) := by with_unfolding_all rfl) (hg : ∀ r, letTemporaryGo value (.ref T) r = pure () := by intro _; with_unfolding_all rfl) :
    wpAny (model PG w) A (subscriptTail value slice (.ref T) (.int 0 u)) Q E s :=
  item_tupleL (j := 0) (News.isTup N (.head _)) (by decide) (by decide) (seqIndex_of (by decide) (by simp only [List.length_cons]; omega)) rfl h hs hg
theorem tup_item1 {Q : Value → Shared → Prop} {value slice : Expr} {u : Tok} (N : News h₀ L s.heap ((T, tupO (v :: v1 :: vs)) :: own)) (h : Q v1 s)
    (hs : subscripted slice false (.ref T) (.int 1 u) = operate [.ref T, .int 1 u] (getItem (.ref T) (.int 1 u)) := by with_unfolding_all rfl) (hg : ∀ r, letTemporaryGo value (.ref T) r = pure () := by intro _; with_unfolding_all rfl) :
    wpAny (model PG w) A (subscriptTail value slice (.ref T) (.int 1 u)) Q E s :=
  item_tupleL (j := 1) (News.isTup N (.head _)) (by decide) (by decide) (seqIndex_of (by decide) (by simp only [List.length_cons]; omega)) rfl h hs hg
theorem tup_from2 {Q : Value → Shared → Prop} {value slice : Expr} {u : Tok} {news : Led} (F : Fr h₀ L s.heap m) (N : News h₀ L s.heap news) (hT : (T, tupO (v :: v1 :: vs)) ∈ news) (hl : (v :: v1 :: vs).length ≤ 100)
    (h : ∀ (D : Nat) h', Fr h₀ L h' m → News h₀ L h' ((D, tupO vs) :: news) → (∀ p ∈ news, (p.1 : Nat) < D) → Q (.ref D) { s with heap := h' })
    (hs : subscripted slice false (.ref T) (.ref s.heap.objs.size) = operate [.ref s.heap.objs.size, .ref T] (getItem (.ref T) (.ref s.heap.objs.size)) := by with_unfolding_all rfl)
    (hg : ∀ r, letTemporaryGo value (.ref T) r = pure () := by intro _; with_unfolding_all rfl) :
    wpAny (model PG w) A (subscriptTail value slice (.ref T) (.ref s.heap.objs.size)) Q E { s with heap := s.heap.push { cls := .type "slice", data := .fields #[.int 2 u, .none, .none] } } :=
  slice_tuple_from (a := 2) F N (News.isTup N hT) (by decide) (by rw [List.size_toArray]; simp only [List.length_cons]; omega) (fun h' F' N' => h _ h' F' N' fun p hp => Nat.lt_succ_of_lt (Heap.lt_size (N p hp).1)) hs hg (by rw [List.size_toArray, show sizeLine = 2 ^ 24 from rfl]; omega)
theorem split_K {Q : Value → Shared → Prop} {x y : Str} {t u : Tok} {news : Led} (F : Fr h₀ L s.heap m) (N : News h₀ L s.heap news) (hx : x.length < 2 ^ 20) (hy : y.length ≠ 0)
    (h : ∀ (D : Nat) l h' k, l.map (·.1) = Txt.split x y → Fr h₀ L h' m → News h₀ L h' ((D, { cls := .type "list", data := .seq (strValues l).toArray }) :: news) → (∀ p ∈ news, (p.1 : Nat) < D) → Q (.ref D) { s with heap := h', toks := k }) :
    wpAny (model PG w) A (call (.builtin "str.split") [.str x t, .str y u]) Q E s :=
  splitN1A F N (by simpa using hy) (fun l h' k e _ _ _ F' N' => h _ l h' k e F' N' fun p hp => Heap.lt_size (N p hp).1) (by rw [show sizeLine = 2 ^ 24 from rfl]; omega)
theorem join_K {Q : Value → Shared → Prop} {x y b : Str} {t : Tok} {news : Led} {D : Nat} {l : List (Str × Tok)} (N : News h₀ L s.heap ((D, { cls := .type "list", data := .seq (strValues l).toArray }) :: news)) (e : l.map (·.1) = Txt.split x y) (hx : x.length < 2 ^ 20) (hy : y.length ≠ 0) (hb : b.length < 8)
    (h : ∀ t k, Q (.str (repl1 x (y, b)) t) { s with toks := k }) : wpAny (model PG w) A (call (.builtin "str.join") [.str b t, .ref D]) Q E s := by
  have hw := split_weight x y (Nat.one_le_iff_ne_zero.mpr hy)
  have hm : (Txt.split x y).length * b.length ≤ (Txt.split x y).length * 7 := Nat.mul_le_mul_left _ (by omega)
  refine join_list (News.isList N (.head _)) (strsAre_of_values l) ?_ fun t k => ?_
  · rw [e]; omega
  · rw [e]; exact h t k
end
local macro_rules | `(tactic| walk_at $s:str) => wk "exec While Name cons nil;R;holdO" s
local macro_rules | `(tactic| walk_at "truthy ref") => `(tactic| (k_here; k_dflt (refine' tup_truthy ?kN ?kl ?_; (case kN => k_asm); (case kl => assumption))))
local macro_rules | `(tactic| walk_at "subscriptTail Name Constant ref int") => `(tactic| (k_here; first
  | ((with_reducible show wpAny _ _ (subscriptTail _ _ _ (Value.int 0 _)) _ _ _); k_dflt (refine' tup_item0 ?kN ?_; (case kN => k_asm)))
  | ((with_reducible show wpAny _ _ (subscriptTail _ _ _ (Value.int 1 _)) _ _ _); k_dflt (refine' tup_item1 ?kN ?_; (case kN => k_asm)))))
local macro_rules | `(tactic| walk_at "call builtin:str.split") => `(tactic| (k_here; k_dflt (refine' split_K ?kF ?kN ?hx ?hy ?_; (case kF | kN => k_asm); (case hx | hy => assumption)); (intro D9 l9 h9 k9 e9 F9 N9 o9)))
local macro_rules | `(tactic| walk_at "call builtin:str.join") => `(tactic| (k_here; k_dflt (refine' join_K ?kN ?ke ?hx ?hy ?hb ?_; (case kN => k_asm); (case ke | hx | hy | hb => assumption)); (intro t9 k9)))
local macro_rules | `(tactic| walk_at "subscriptTail Name Slice ref ref") => `(tactic| (k_here; k_dflt (refine' tup_from2 ?kF ?kN ?hT ?hl ?_; (case kF | kN => k_asm); (case hT => k_mem); (case hl => assumption)); (intro D9 h9 F9 N9 o9)))
theorem replace_4 (w : World) (mean mg mb) (x a1 b1 a2 b2 a3 b3 a4 b4 : Str) (tx t1 u1 t2 u2 t3 u3 t4 u4 : Tok) (news : Led) (hok : RepOk x [(a1, b1), (a2, b2), (a3, b3), (a4, b4)]) :
    Ctr w mean mg mb 46 [.str x tx, .str a1 t1, .str b1 u1, .str a2 t2, .str b2 u2, .str a3 t3, .str b3 u3, .str a4 t4, .str b4 u4] news 2 24 (fun v news' => ∃ t, v = .str (replF x [(a1, b1), (a2, b2), (a3, b3), (a4, b4)]) t ∧ ∀ p ∈ news, p ∈ news') := by
  have hpr := prog_here
  revert hpr
  unfold Ctr
  k_fill
  intro _ dp un gd cn cs a ccd cl outer A₀ base h₀ L m s Q E B F X N T hk hd hu hret
  refine wpAny_call ?_
  k_dflt (refine' kp_rest ?k1 ?k2 ?k3 ?k4 ?k5 ?kA ?kF ?kK ?k6 ?k7 ?k8 ?kV ?kP ?kG ?kB ?_ ?c2 ?c3 ?c4 ?c5; (case kA | kF => exact rfl); (case kK => assumption); (case k1 | k2 | k3 | k4 | k5 => k_asm); (case k6 | k7 => k_is); (case k8 => k_room); (case kV | kP => exact rfl); (case kG => exact fun _ => rfl); (case kB => exact fun _ => locs rfl); (case c5 => decide); (case c2 | c3 | c4 => exact rfl); k_whole; intro D' g' L' h' l1 FG' F' N' B' X' T'; (try dsimp only); (try k_fold))
  k_steps
  refine Hold.mk ?_
  rename Fr _ _ _ _ => F1
  rename News _ _ _ _ => N1
  refine rep_rule (news := news) (replF x [(a1, b1), (a2, b2), (a3, b3), (a4, b4)]) (n₀ := 4) F1 N1 ⟨x, tx, _, _, [(a1, b1), (a2, b2), (a3, b3), (a4, b4)], news, rfl, (.cons _ _ _ _ (.cons _ _ _ _ (.cons _ _ _ _ (.cons _ _ _ _ .nil)))), by simp, hok, rfl, rfl, fun p hp => hp, rfl, rfl⟩ ?_ ?_
  · rintro n m₁ led h₁ tk₁ F₂ N₂ ⟨x, tx, T, vs, ps, own, rfl, hps, hln, hok, hR, rfl, hown, hm1, hm2⟩
    clear F1 N1
    have em : m₁ = fun y => if y = Str.ofString "text" then some (.str x tx) else if y = Str.ofString "pairs" then some (.ref T) else m₁ y := by
      funext y
      split
      · subst_vars; exact hm1
      · split
        · subst_vars; exact hm2
        · rfl
    rw [em] at F₂
    generalize m₁ = m₂ at F₂
    clear em hm1 hm2
    cases hps with
    | nil =>
      k_steps
      exact ⟨rfl, tx, _, _, _, _, rfl, F₂, N₂, fun p hp => .tail _ (hown p hp), by rw [← hR]; rfl⟩
    | cons a b t u hps =>
      rename_i vs ps
      have hvl := hps.len
      obtain ⟨hx, hy, hbl, hok⟩ := hok
      dsimp only at hy hbl
      rw [List.length_cons] at hln
      have hvb : (Value.str a t :: Value.str b u :: vs).length ≤ 100 := by simp only [List.length_cons]; omega
      k_steps
      refine ⟨_, _, _, _, ps.length, rfl, by k_asm, by k_asm, Nat.lt_succ_self _, repl1 x (a, b), _, _, vs, ps, _, rfl, hps, by omega, hok, hR, rfl, fun p hp => .tail _ (.tail _ (hown p hp)), rfl, rfl⟩
  · intro s' p
    obtain ⟨_, tx', m', h', tk', led, rfl, F', N', hs, hm⟩ := p.get
    clear F1 N1 p
    have em : m' = fun y => if y = Str.ofString "text" then some (.str (replF x [(a1, b1), (a2, b2), (a3, b3), (a4, b4)]) tx') else m' y := by
      funext y
      split
      · subst_vars; exact hm
      · rfl
    rw [em] at F'
    generalize m' = m₂ at F'
    clear em hm
    dsimp only
    k_steps
    exact hret _ _ _ _ (by k_asm) (by k_asm) ⟨_, rfl, hs⟩
end
section
/-- the sign that _law_sign gives -/
noncomputable def signF (k c : Int) : Str :=
  if k = 7 then (let z := (if c < 55296 then c else c + 2048).toNat; if z = 92 ∨ z = 48 ∨ z = 49 then sg 97 else sg z)
  else if k = 0 ∨ k = 4 then sg 39 else if k = 1 ∨ k = 5 then sg 34 else if k = 2 then sg 97 else if k = 3 then sg 32 else Str.ofString ""
theorem item_tab {w : World} {A : Around} {E : Value → Shared → Prop} {s : Shared} {h₀ : Heap} {L l : Addr} {its : Array Value} {n : Nat} {news : Led} {value slice : PySem.Expr} {k : Int} {u : Tok} {v : Value} {Q : Value → Shared → Prop}
    (N : News h₀ L s.heap ((l, listOf its n) :: news)) (h0 : 0 ≤ k) (hhi : k < 2 ^ 63) (hx : its[k.toNat]? = some v) (h : Q v s)
    (hs : subscripted slice false (.ref l) (.int k u) = operate [.ref l, .int k u] (getItem (.ref l) (.int k u)) := by with_unfolding_all rfl) :
    wpAny (model PG w) A (subscriptTail value slice (.ref l) (.int k u)) Q E s :=
  have hl : s.heap.IsList l its := News.isList N (.head _)
  tail_any hl.typeIs slot_list_getitem.lookup (wpAny_getItem_list hl h0 hhi hx h) hs
theorem occ_01 (z : Nat) : (Builtin.Str.occurrences (Str.ofString "\\01") ⟨#[z]⟩ 0 (Str.ofString "\\01").length 1).isEmpty = !decide (z = 92 ∨ z = 48 ∨ z = 49) := by
  have := StrLaws.found_one (Str.ofString "\\01") z
  rw [show (Str.ofString "\\01").cps.toList = [92, 48, 49] by decide +kernel] at this
  rw [← Bool.not_not (Builtin.Str.occurrences _ _ _ _ _).isEmpty, this]
  simp
theorem signF_lo {k c : Int} (h : k = 7) (hc : c < 55296) (ho : (Builtin.Str.occurrences (Str.ofString "\\01") ⟨#[c.toNat]⟩ 0 (Str.ofString "\\01").length 1).isEmpty = true) : (⟨#[c.toNat]⟩ : Str) = signF k c := by
  rw [occ_01] at ho
  simp only [Bool.not_eq_true', decide_eq_false_iff_not] at ho
  unfold signF
  rw [if_pos h, if_pos hc]
  exact (if_neg ho).symm
theorem signF_loa {k c : Int} (h : k = 7) (hc : c < 55296) (ho : (Builtin.Str.occurrences (Str.ofString "\\01") ⟨#[c.toNat]⟩ 0 (Str.ofString "\\01").length 1).isEmpty = false) : Str.ofString "a" = signF k c := by
  rw [occ_01] at ho
  simp only [Bool.not_eq_false', decide_eq_true_eq] at ho
  unfold signF
  rw [if_pos h, if_pos hc, show Str.ofString "a" = sg 97 by decide +kernel]
  exact (if_pos ho).symm
theorem signF_hi {k c : Int} (h : k = 7) (hc : ¬ c < 55296) (ho : (Builtin.Str.occurrences (Str.ofString "\\01") ⟨#[(c + 2048).toNat]⟩ 0 (Str.ofString "\\01").length 1).isEmpty = true) : (⟨#[(c + 2048).toNat]⟩ : Str) = signF k c := by
  rw [occ_01] at ho
  simp only [Bool.not_eq_true', decide_eq_false_iff_not] at ho
  unfold signF
  rw [if_pos h, if_neg hc]
  exact (if_neg ho).symm
theorem signF_hia {k c : Int} (h : k = 7) (hc : ¬ c < 55296) (ho : (Builtin.Str.occurrences (Str.ofString "\\01") ⟨#[(c + 2048).toNat]⟩ 0 (Str.ofString "\\01").length 1).isEmpty = false) : Str.ofString "a" = signF k c := by
  rw [occ_01] at ho
  simp only [Bool.not_eq_false', decide_eq_true_eq] at ho
  unfold signF
  rw [if_pos h, if_neg hc, show Str.ofString "a" = sg 97 by decide +kernel]
  exact (if_pos ho).symm
theorem ofS_a : Str.ofString "a" = sg 97 := by decide +kernel
theorem sign_ (w : World) (mean mg mb) (k c : Int) (tk tc : Tok) (news : Led) (hk0 : 0 ≤ k) (hk1 : k < 8) (hc0 : 0 ≤ c) (hc1 : c < 1112064) :
    Ctr w mean mg mb 748 [.int k tk, .int c tc] news 2 24 (fun v news' => ∃ t, v = .str (signF k c) t ∧ ∀ p ∈ news, p ∈ news') := by
  have hpr := prog_here
  revert hpr
  unfold Ctr
  k_fill
  intro _ dp un gd cn cs a ccd cl outer A₀ base h₀ L m s Q E B F X N T hk hd hu hret
  refine wpAny_call ?_
  k_dflt (refine' code_def ?k1 ?k2 ?k3 ?k4 ?k5 ?kA ?kF ?kK ?k6 ?k7 ?k8 ?k9 ?kB ?_ ?c2 ?c3 ?c4 ?c5; (case kA | kF => exact rfl); (case kK => assumption); (case k1 | k2 | k3 | k4 | k5 => k_asm); (case k6 | k7 => k_is); (case k8 => k_room); (case k9 => first | exact BindsTo.of_eq rfl | exact binds_K (by k_in) rfl (by k_is) rfl rfl rfl); (case c5 => decide); (case kB => exact locs rfl); (case c2 | c3 | c4 => exact rfl); k_whole; intro _ _ _ _ _ _ _ _ _; (try dsimp only); (try k_fold))
  k_steps
  · refine hret _ _ _ _ (by k_asm) (by k_asm) ⟨_, congrArg (Value.str · _) (signF_lo ?_ ?_ ?_), fun p hp => hp⟩ <;> first | assumption | omega
  · refine hret _ _ _ _ (by k_asm) (by k_asm) ⟨_, congrArg (Value.str · _) (signF_loa ?_ ?_ ?_), fun p hp => hp⟩ <;> first | assumption | omega
  · refine hret _ _ _ _ (by k_asm) (by k_asm) ⟨_, congrArg (Value.str · _) (signF_hi ?_ ?_ ?_), fun p hp => hp⟩ <;> first | assumption | omega
  · refine hret _ _ _ _ (by k_asm) (by k_asm) ⟨_, congrArg (Value.str · _) (signF_hia ?_ ?_ ?_), fun p hp => hp⟩ <;> first | assumption | omega
  · have h7 : k = 0 ∨ k = 1 ∨ k = 2 ∨ k = 3 ∨ k = 4 ∨ k = 5 ∨ k = 6 := by omega
    rename News _ _ _ (_ :: _) => N9
    rcases h7 with rfl | rfl | rfl | rfl | rfl | rfl | rfl
    all_goals (
      refine item_tab N9 (by decide) (by decide) rfl ?_
      k_steps
      exact hret _ _ _ _ (by k_asm) (by k_asm) ⟨_, congrArg (Value.str · _) (by first | rfl | ((show _ = sg 39); decide +kernel) | ((show _ = sg 34); decide +kernel) | ((show _ = sg 97); decide +kernel) | ((show _ = sg 32); decide +kernel)), fun p hp => .tail _ hp⟩)
end
section
/-- how a turn of a loop ends: the ground may have turned; the iterator stands as it stood -/
noncomputable def ForPost (L I : Addr) (o : Obj) (fp : List Addr) (h : Heap) (s : Shared) (J : Heap → (Str → Option Value) → Led → Prop) (Q : Flow → Shared → Prop) (f : Flow) (s₃ : Shared) : Prop :=
  match f with
  | .next | .cont => ∃ g' m' led' nx h' tk', s₃ = { s with heap := h', toks := tk' } ∧ Fr g' L h' m' ∧ News g' L h' nx ∧ (I, o) ∈ nx ∧ (∀ p ∈ led', p ∈ nx) ∧ (∀ p ∈ led', p.1 ≠ I) ∧ (∀ b ∈ fp, b ≠ I → ∀ o, h.get? b = some o → h'.get? b = some o) ∧ J g' m' led'
  | .brk => Q .next s₃
  | .ret v => Q (.ret v) s₃
section
variable {prog : Program} {w : World} {A : Around} {E : Value → Shared → Prop} {Q : Flow → Shared → Prop} {s : Shared} {env : Env}
theorem for_T {x : Str} {px : Pos} {body : List Stmt} {I : Addr} {fp : List Addr} {n : Nat} {P : Nat → Value → Prop} {St : Nat → Heap → Prop} {g : Heap} {m : Str → Option Value} {led : Led}
    (J : Nat → Heap → (Str → Option Value) → Led → Prop) (W : Walks prog w A I fp [I] n P St) (hSt : ∀ i h, St i h → ∃ o, h.get? I = some o) (hx : env.kindOf x = some .local) (hp : (env.scope.kind == .class || (env.scope.kind == .module && env.locals != env.globals)) = false)
    (hLf : env.locals ∉ fp) (hst : St 0 s.heap) (F : Fr g env.locals s.heap m) (N : News g env.locals s.heap led) (hI : g.get? I = none) (hoff : ∀ p ∈ led, p.1 ≠ I) (h0 : J 0 g m led)
    (turn : ∀ i v g m₁ led o h tk, i < n → P i v → J i g m₁ led → (∀ p ∈ led, p.1 ≠ I) → Fr g env.locals h (fun y => if y = x then some v else m₁ y) → News g env.locals h ((I, o) :: led) →
      wpAny (model prog w) A (execs body env) (ForPost env.locals I o fp h s (J (i + 1)) Q) E { s with heap := h, toks := tk })
    (done : ∀ g m₁ led h tk, J n g m₁ led → Fr g env.locals h m₁ → News g env.locals h led → Q .next { s with heap := h, toks := tk })
    (hE : PassesOwn (model prog w) A env E := by passes_own) :
    codeAny (model prog w) A (.forLoop (.Name x px) (.ref I) body [] env) (fun r s' => match r with | .ok f => Q f s' | .error e => cameBackBy (model prog w) A env E e s') s := by
  have hIf : I ∈ fp := W.sub I (.head _)
  have hLI : env.locals ≠ I := fun q => hLf (q ▸ hIf)
  refine codeAny_forLoop
    (fun k s' => ∃ h' tk m' led' g' i, s' = { s with heap := h', toks := tk } ∧ St i h' ∧ Fr g' env.locals h' m' ∧ News g' env.locals h' led' ∧ g'.get? I = none ∧ (∀ p ∈ led', p.1 ≠ I) ∧ J i g' m' led' ∧ i ≤ n ∧ k = n + 1 - i) ?_ (n + 1)
    ⟨s.heap, s.toks, m, led, g, 0, rfl, hst, F, N, hI, hoff, h0, Nat.zero_le _, rfl⟩
  rintro k s' ⟨h', tk, m', led', g', i, rfl, hst', F', N', hI', hoff', hJ, hi, rfl⟩
  have next : ∀ h₁ : Heap, (∀ b o, b ∉ [I] → h'.get? b = some o → h₁.get? b = some o) → Fr g' env.locals h₁ m' ∧ News g' env.locals h₁ led' := fun h₁ hk₁ =>
    ⟨⟨F'.ns.at' fun o e => hk₁ _ o (fun q => hLI (List.mem_singleton.mp q)) e, fun b o e => hk₁ b o (fun q => by rw [List.mem_singleton.mp q, hI'] at e; cases e) (F'.keep b o e), F'.above⟩,
      fun p hp => ⟨hk₁ _ _ (fun q => hoff' p hp (List.mem_singleton.mp q)) (N' p hp).1, (N' p hp).2⟩⟩
  by_cases hlt : i < n
  · refine W.item i _ _ _ hlt hst' fun v h₁ tk₁ hP hst₁ hk₁ => ?_
    obtain ⟨F₁, N₁⟩ := next h₁ hk₁
    refine wpAny_assign_Name (wpAny_storeName_local hx F₁.ns (fun h₂ hn₂ hs₂ => ?_) hp)
    have F₂ := F₁.set hn₂ hs₂
    have hst₂ : St (i + 1) h₂ := W.frame _ _ _ hst₁ fun b hb o e => (hs₂.2 b fun q => hLf (q ▸ hb)).trans e
    obtain ⟨o, ho⟩ := hSt _ _ hst₂
    have N₂ : News g' env.locals h₂ ((I, o) :: led') := fun p hp => by
      rcases List.mem_cons.mp hp with rfl | hp
      · exact ⟨ho, Ne.symm hLI, hI'⟩
      · exact (N₁.set hs₂) p hp
    refine wpAny_mono (turn i v g' m' led' o h₂ _ hlt hP hJ hoff' F₂ N₂) (fun f s₃ h₃ => ?_) hE
    have fin : (∃ g' m' led' nx h' tk', s₃ = { s with heap := h', toks := tk' } ∧ Fr g' env.locals h' m' ∧ News g' env.locals h' nx ∧ (I, o) ∈ nx ∧ (∀ p ∈ led', p ∈ nx) ∧ (∀ p ∈ led', p.1 ≠ I) ∧ (∀ b ∈ fp, b ≠ I → ∀ o, h₂.get? b = some o → h'.get? b = some o) ∧ J (i + 1) g' m' led') →
        ∃ m, m < n + 1 - i ∧ ∃ h' tk m' led' g' i, s₃ = { s with heap := h', toks := tk } ∧ St i h' ∧ Fr g' env.locals h' m' ∧ News g' env.locals h' led' ∧ g'.get? I = none ∧ (∀ p ∈ led', p.1 ≠ I) ∧ J i g' m' led' ∧ i ≤ n ∧ m = n + 1 - i := by
      rintro ⟨g₃, m₃, led₃, nx, k₃, tk₃, rfl, F₃, N₃, hIn, hsub, hoff₃, hfp, hJ₃⟩
      refine ⟨n + 1 - (i + 1), by omega, k₃, tk₃, m₃, led₃, g₃, i + 1, rfl, ?_, F₃, fun p hp => N₃ p (hsub p hp), (N₃ _ hIn).2.2, hoff₃, hJ₃, hlt, rfl⟩
      refine W.frame _ _ _ hst₂ fun b hb ob e => ?_
      by_cases q : b = I
      · subst q
        rw [ho] at e
        cases e
        exact (N₃ _ hIn).1
      · exact hfp b hb q ob e
    cases f with
    | ret v => exact h₃
    | brk => exact h₃
    | cont => exact fin h₃
    | next => exact fin h₃
  · have hin : i = n := by omega
    subst hin
    refine W.done _ _ _ hst' fun h₁ tk₁ hk₁ => wpAny_execs_nil ?_
    obtain ⟨F₁, N₁⟩ := next h₁ hk₁
    exact done g' m' led' h₁ tk₁ hJ F₁ N₁
/-- a for over a text -/
theorem for_str {x : Str} {px : Pos} {body : List Stmt} {g : Heap} {m : Str → Option Value} {led : Led} {txt : Str} {tt : Tok}
    (J : Nat → Heap → (Str → Option Value) → Led → Prop) (hh : A.handled = none) (hx : env.kindOf x = some .local) (hp : (env.scope.kind == .class || (env.scope.kind == .module && env.locals != env.globals)) = false)
    (F : Fr g env.locals s.heap m) (N : News g env.locals s.heap led) (h0 : J 0 g m led)
    (turn : ∀ (I : Nat) i c u g m₁ led o h tk, txt.cps.toList[i]? = some c → J i g m₁ led → (∀ p ∈ led, p.1 ≠ I) → Fr g env.locals h (fun y => if y = x then some (.str (sg c) u) else m₁ y) → News g env.locals h ((I, o) :: led) →
      wpAny (model prog w) A (execs body env) (ForPost env.locals I o [I] h s (J (i + 1)) Q) E { s with heap := h, toks := tk })
    (done : ∀ g m₁ led h tk, J txt.cps.toList.length g m₁ led → Fr g env.locals h m₁ → News g env.locals h led → Q .next { s with heap := h, toks := tk })
    (hE : PassesOwn (model prog w) A env E := by passes_own) :
    wpAny (model prog w) A (pyIter (.str txt tt)) (fun it s₂ => codeAny (model prog w) A (.forLoop (.Name x px) it body [] env) (fun r s' => match r with | .ok f => Q f s' | .error e => cameBackBy (model prog w) A env E e s') s₂) E s := by
  have hL : env.locals ≠ s.heap.objs.size := Nat.ne_of_lt F.ns.lt
  have hg : g.get? s.heap.objs.size = none := next_is_new F
  have go : ∀ (ob : Obj) (St : Nat → Heap → Prop), ob.isFreed = false → Walks prog w A s.heap.objs.size [s.heap.objs.size] [s.heap.objs.size] txt.cps.size (SignAt txt) St → (∀ i h, St i h → ∃ o, h.get? s.heap.objs.size = some o) → St 0 (s.heap.push ob) →
      codeAny (model prog w) A (.forLoop (.Name x px) (.ref s.heap.objs.size) body [] env) (fun r s' => match r with | .ok f => Q f s' | .error e => cameBackBy (model prog w) A env E e s') { s with heap := s.heap.push ob } := by
    intro ob St hf W hSt hst
    refine for_T (s := { s with heap := s.heap.push ob }) J W hSt hx hp (fun q => hL (List.mem_singleton.mp q)) hst (F.push ob) (N.pushKeep ob) hg (fun p hp => Nat.ne_of_lt (Heap.lt_size (N p hp).1)) h0 ?_ ?_ hE
    · rintro i v g m₁ led o h tk hi ⟨c, u, hc, rfl⟩ hJ hoff F₁ N₁
      exact turn _ i c u g m₁ led o h tk (by simpa using hc) hJ hoff F₁ N₁
    · intro g m₁ led h tk hJ F₁ N₁
      exact done g m₁ led h tk (by simpa using hJ) F₁ N₁
  cases ha : txt.cps.all (· < 128)
  · exact wpAny_pyIter_wide ha (go _ _ rfl (Walks.strWide hh _ txt tt) (fun _ _ st => let ⟨o, ho, _⟩ := st; ⟨o, ho⟩) ⟨_, Heap.get?_push_size _ rfl, rfl, rfl⟩)
  · exact wpAny_pyIter_ascii ha (go _ _ rfl (Walks.strAscii hh _ txt tt) (fun _ _ st => let ⟨o, ho, _⟩ := st; ⟨o, ho⟩) ⟨_, Heap.get?_push_size _ rfl, rfl, rfl⟩)
end
end
section
theorem withD {P : Prop} {news : Led} {X : Addr} (_ : ∀ p ∈ news, p.1 < X) (h : ∀ D : Nat, D = X → P) : P := h X rfl
abbrev LwS := List Str × Option Str × Option Nat
noncomputable def lwStep : LwS → Nat → LwS
  | (ws, b, some q), c => if c = q then (ws, b, none) else (ws, some (b.getD (Str.ofString "") ++ sg c), some q)
  | (ws, b, none), c => if isWs c then (match b with | some x => (ws ++ [x], none, none) | none => (ws, none, none))
    else if isQt c then (ws, some (b.getD (Str.ofString "")), some c) else (ws, some (b.getD (Str.ofString "") ++ sg c), none)
noncomputable def lwEnd : LwS → List Str
  | (ws, none, _) => ws
  | (ws, some x, _) => ws ++ [x]
/-- what _law_words gives -/
noncomputable def lwF (t : List Nat) : List Str := lwEnd (t.foldl lwStep ([], none, none))
noncomputable def obV (t : Tok) : Option Str → Value
  | none => .none
  | some x => .str x t
noncomputable def plV (t : Tok) : Option Nat → Value
  | none => .str (Str.ofString "") t
  | some q => .str (sg q) t
noncomputable def LwJ (g₀ : Heap) (D : Nat) (txt : Str) (news : Led) (i : Nat) (g : Heap) (m : Str → Option Value) (led : Led) : Prop :=
  g = g₀ ∧ ∃ (ws : List Str) (b : Option Str) (pl : Option Nat) (its : Array Value) (n : Nat) (tb tp : Tok), (txt.cps.toList.take i).foldl lwStep ([], none, none) = (ws, b, pl) ∧ StrsAre its.toList ws ∧ (pl.isSome → b.isSome) ∧ (b.getD (Str.ofString "")).length ≤ i ∧ its.size ≤ i ∧
    led = (D, listOf its n) :: news ∧ m (Str.ofString "words") = some (.ref D) ∧ m (Str.ofString "begun") = some (obV tb b) ∧ m (Str.ofString "place") = some (plV tp pl)
theorem strs_snoc0 {x : Str} {t : Tok} : ∀ {vs : List Value} {ys : List Str}, StrsAre vs ys → StrsAre (vs ++ [.str x t]) (ys ++ [x])
  | _, _, .nil => .cons _ _ .nil
  | _, _, .cons y u h => .cons y u (strs_snoc0 h)
theorem lw_leaf {g₀ : Heap} {L I : Addr} {D i : Nat} {txt : Str} {news nx : Led} {o : Obj} {h h' : Heap} {s : Shared} {tk' : Nat} {Q : Flow → Shared → Prop} {f : Flow} {m' : Str → Option Value} {st : LwS} {c : Nat} {its₀ : Array Value} {n₀ : Nat} (ws' : List Str) (b' : Option Str) (pl' : Option Nat) {its' : Array Value} {n' : Nat} {tb tp : Tok}
    (hfold : (txt.cps.toList.take i).foldl lwStep ([], none, none) = st) (hc : txt.cps.toList[i]? = some c) (hoff : ∀ p ∈ (D, listOf its₀ n₀) :: news, p.1 ≠ I) (hstep : lwStep st c = (ws', b', pl')) (hf : f = .next ∨ f = .cont)
    (F : Fr g₀ L h' m') (N : News g₀ L h' nx) (hI : (I, o) ∈ nx) (hD : (D, listOf its' n') ∈ nx) (hn : ∀ p ∈ news, p ∈ nx) (hits : StrsAre its'.toList ws') (hpb : pl'.isSome → b'.isSome) (hbl : (b'.getD (Str.ofString "")).length ≤ i + 1) (hsz : its'.size ≤ i + 1)
    (hm1 : m' (Str.ofString "words") = some (.ref D)) (hm2 : m' (Str.ofString "begun") = some (obV tb b')) (hm3 : m' (Str.ofString "place") = some (plV tp pl')) :
    ForPost L I o [I] h s (LwJ g₀ D txt news (i + 1)) Q f { s with heap := h', toks := tk' } := by
  have fin : ForPost L I o [I] h s (LwJ g₀ D txt news (i + 1)) Q .next { s with heap := h', toks := tk' } := by
    refine ⟨g₀, m', (D, listOf its' n') :: news, nx, h', tk', rfl, F, N, hI, fun p hp => ?_, fun p hp => ?_, fun b hb q => absurd (List.mem_singleton.mp hb) q, rfl, ws', b', pl', its', n', tb, tp, ?_, hits, hpb, hbl, hsz, rfl, hm1, hm2, hm3⟩
    · rcases List.mem_cons.mp hp with rfl | hp
      · exact hD
      · exact hn p hp
    · rcases List.mem_cons.mp hp with rfl | hp
      · exact hoff (D, listOf its₀ n₀) (.head _)
      · exact hoff p (.tail _ hp)
    · rw [List.take_add_one, hc, Option.toList_some, List.foldl_append, hfold]
      exact hstep
  rcases hf with rfl | rfl
  · exact fin
  · exact fin
theorem add_sg {prog : Program} {w : World} {A : Around} {E : Value → Shared → Prop} {s : Shared} {x : Str} {c : Nat} {t u : Tok} {Q : Value → Shared → Prop} (hx : x.length < 2 ^ 21) (h : ∀ t' tk, Q (.str (x ++ sg c) t') { s with toks := tk }) :
    wpAny (model prog w) A (binaryOp .Add (.str x t) (.str (sg c) u)) Q E s := PyProof.Rows.add_str h (by show x.length + 1 ≤ sizeLine; rw [show sizeLine = 2 ^ 24 from rfl]; omega)
theorem app_none (x : Str) : x ++ Str.ofString "" = x := by
  refine Str.ext' (Array.toList_inj.mp ?_)
  rw [Str.cps_append, Array.toList_append, show (Str.ofString "").cps.toList = [] by decide +kernel, List.append_nil]
theorem none_of {x : Str} (h : (x.length : Int) = 0) : x = Str.ofString "" := by
  refine Str.ext' (Array.toList_inj.mp ?_)
  rw [show (Str.ofString "").cps.toList = [] by decide +kernel]
  have h2 : x.length = x.cps.toList.length := by simp [Str.length]
  exact List.eq_nil_of_length_eq_zero (by omega)
theorem ne_sg_none {prog : Program} {w : World} {A : Around} {E : Value → Shared → Prop} {s : Shared} {c : Nat} {t u : Tok} {Q : Value → Shared → Prop} (h : Q (.bool true) s) : wpAny (model prog w) A (compareOp .NotEq (.str (sg c) t) (.str (Str.ofString "") u)) Q E s := by
  refine ne_str ?_
  have : (sg c != Str.ofString "") = true := by
    rw [bne_iff_ne]
    intro e
    have := congrArg Str.length e
    rw [len_none] at this
    exact absurd (show (1 : Nat) = 0 from this) (by decide)
  rw [this]; exact h
local macro_rules | `(tactic| walk_at $s:str) => wk "pyIter str;R;holdO|exec For Name Name cons nil;R;holdO|compareOp NotEq str str;R;ne_sg_none" s
local macro_rules | `(tactic| walk_at "binaryOp Add str str") => `(tactic| (k_here; (with_reducible refine' add_sg ?ka ?_); (case ka => omega); intro _ _))
theorem words_ (w : World) (mean mg mb) (txt : Str) (tt : Tok) (news : Led) (hb : txt.length < 2 ^ 20) :
    Ctr w mean mg mb 760 [.str txt tt] news 2 24 (fun v news' => ∃ (D : Nat) (its : Array Value) (n : Nat), v = .ref D ∧ StrsAre its.toList (lwF txt.cps.toList) ∧ (D, listOf its n) ∈ news' ∧ (∀ p ∈ news, p ∈ news') ∧ ∀ p ∈ news, (p.1 : Nat) < D) := by
  have hpr := prog_here
  revert hpr
  unfold Ctr
  k_fill
  intro _ dp un gd cn cs a ccd cl outer A₀ base h₀ L m s Q E B F X N T hk hd hu hret
  refine wpAny_call ?_
  k_dflt (refine' code_def ?k1 ?k2 ?k3 ?k4 ?k5 ?kA ?kF ?kK ?k6 ?k7 ?k8 ?k9 ?kB ?_ ?c2 ?c3 ?c4 ?c5; (case kA | kF => exact rfl); (case kK => assumption); (case k1 | k2 | k3 | k4 | k5 => k_asm); (case k6 | k7 => k_is); (case k8 => k_room); (case k9 => first | exact BindsTo.of_eq rfl | exact binds_K (by k_in) rfl (by k_is) rfl rfl rfl); (case c5 => decide); (case kB => exact locs rfl); (case c2 | c3 | c4 => exact rfl); k_whole; intro _ _ _ _ _ _ _ _ _; (try dsimp only); (try k_fold))
  k_steps
  refine Hold.mk ?_
  refine wpAny_For ?_
  k_steps
  refine Hold.mk ?_
  rename Fr _ _ _ _ => F1
  rename News _ _ _ _ => N1
  rename (∀ (p : Addr × Obj), p ∈ news → p.fst < _) => o1
  refine withD o1 fun D hDe => ?_
  subst hDe
  have hn1 := fun p hp => Nat.ne_of_lt (o1 p hp)
  refine for_str (LwJ _ _ txt news) rfl rfl rfl F1 N1 ⟨rfl, [], none, none, #[], 0, 0, _, by simp, .nil, by nofun, by decide +kernel, by simp, rfl, rfl, rfl, rfl⟩ ?_ ?_
  · rintro I i c u g m₁ led o h tk hc ⟨rfl, ws, b, pl, its, n, tb, tp, hfold, hits, hpb, hbl, hsz, rfl, hm1, hm2, hm3⟩ hoff F₂ N₂
    clear F1 N1
    have em : m₁ = fun y => if y = Str.ofString "words" then some (.ref D) else if y = Str.ofString "begun" then some (obV tb b) else if y = Str.ofString "place" then some (plV tp pl) else m₁ y := by
      funext y
      split
      · subst_vars; exact hm1
      · split
        · subst_vars; exact hm2
        · split
          · subst_vars; exact hm3
          · rfl
    rw [em] at F₂
    generalize m₁ = m₂ at F₂
    clear em hm1 hm2 hm3
    have hDI : D ≠ I := hoff (D, listOf its n) (.head _)
    have hi : i < txt.length := by
      have := (List.getElem?_eq_some_iff.mp hc).1
      have h2 : txt.length = txt.cps.toList.length := by simp [Str.length]
      omega
    have hID : I ≠ D := Ne.symm hDI
    cases pl with
    | some q =>
      cases b with
      | none => exact absurd (hpb rfl) (by decide)
      | some x =>
        dsimp only [obV, plV] at F₂
        dsimp only [Option.getD] at hbl
        k_steps
        · exact lw_leaf ws (some x) none hfold hc hoff (by simp_all [lwStep]) (.inl rfl) (by k_asm) (by k_asm) (.head _) (.tail _ (.head _)) (fun p hp => .tail _ (.tail _ hp)) hits (by nofun) (Nat.le_succ_of_le hbl) (Nat.le_succ_of_le hsz) rfl rfl rfl
        · exact lw_leaf ws (some (x ++ sg c)) (some q) hfold hc hoff (by simp_all [lwStep]) (.inl rfl) (by k_asm) (by k_asm) (.head _) (.tail _ (.head _)) (fun p hp => .tail _ (.tail _ hp)) hits (fun _ => rfl) (by simp only [Option.getD, len_app, len_sg]; omega) (Nat.le_succ_of_le hsz) rfl rfl rfl
    | none =>
      cases b with
      | none =>
        dsimp only [obV, plV] at F₂
        k_steps
        · exact lw_leaf (tb := 0) ws none none hfold hc hoff (by simp_all [lwStep]) (.inl rfl) (by k_asm) (by k_asm) (.head _) (.tail _ (.head _)) (fun p hp => .tail _ (.tail _ hp)) hits (by nofun) (Nat.le_succ_of_le hbl) (Nat.le_succ_of_le hsz) rfl rfl rfl
        · exact lw_leaf ws (some (Str.ofString "")) (some c) hfold hc hoff (by simp_all [lwStep]) (.inl rfl) (by k_asm) (by k_asm) (.head _) (.tail _ (.head _)) (fun p hp => .tail _ (.tail _ hp)) hits (fun _ => rfl) (Nat.le_succ_of_le hbl) (Nat.le_succ_of_le hsz) rfl rfl rfl
        · exact lw_leaf ws (some (Str.ofString "" ++ sg c)) none hfold hc hoff (by simp_all [lwStep]) (.inl rfl) (by k_asm) (by k_asm) (.head _) (.tail _ (.head _)) (fun p hp => .tail _ (.tail _ hp)) hits (by nofun) (by simp only [Option.getD, len_app, len_sg, len_none]; omega) (Nat.le_succ_of_le hsz) rfl rfl rfl
      | some x =>
        dsimp only [obV, plV] at F₂
        dsimp only [Option.getD] at hbl
        k_steps
        · exact lw_leaf (tb := 0) (ws ++ [x]) none none hfold hc hoff (by simp_all [lwStep]) (.inl rfl) (by k_asm) (by k_asm) (.head _) (.tail _ (.head _)) (fun p hp => .tail _ (.tail _ hp)) (by rw [Array.toList_push]; exact strs_snoc0 hits) (by nofun) (by rw [show ((none : Option Str).getD (Str.ofString "")).length = 0 from len_none]; omega) (by rw [Array.size_push]; omega) rfl rfl rfl
        · exact lw_leaf ws (some (x ++ Str.ofString "")) (some c) hfold hc hoff (by simp_all [lwStep, app_none]) (.inl rfl) (by k_asm) (by k_asm) (.head _) (.tail _ (.head _)) (fun p hp => .tail _ (.tail _ hp)) hits (fun _ => rfl) (by simp only [Option.getD, app_none]; omega) (Nat.le_succ_of_le hsz) rfl rfl rfl
        · exact lw_leaf ws (some (x ++ sg c)) none hfold hc hoff (by simp_all [lwStep]) (.inl rfl) (by k_asm) (by k_asm) (.head _) (.tail _ (.head _)) (fun p hp => .tail _ (.tail _ hp)) hits (by nofun) (by simp only [Option.getD, len_app, len_sg]; omega) (Nat.le_succ_of_le hsz) rfl rfl rfl
        · have hx0 := none_of (by assumption)
          subst hx0
          exact lw_leaf ws (some (Str.ofString "")) (some c) hfold hc hoff (by simp_all [lwStep]) (.inl rfl) (by k_asm) (by k_asm) (.head _) (.tail _ (.head _)) (fun p hp => .tail _ (.tail _ hp)) hits (fun _ => rfl) (Nat.le_succ_of_le hbl) (Nat.le_succ_of_le hsz) rfl rfl rfl
        · have hx0 := none_of (by assumption)
          subst hx0
          exact lw_leaf ws (some (Str.ofString "" ++ sg c)) none hfold hc hoff (by simp_all [lwStep]) (.inl rfl) (by k_asm) (by k_asm) (.head _) (.tail _ (.head _)) (fun p hp => .tail _ (.tail _ hp)) hits (by nofun) (by simp only [Option.getD, len_app, len_sg, len_none]; omega) (Nat.le_succ_of_le hsz) rfl rfl rfl
  · rintro g m₁ led h tk ⟨rfl, ws, b, pl, its, n, tb, tp, hfold, hits, hpb, hbl, hsz, rfl, hm1, hm2, hm3⟩ F₂ N₂
    clear F1 N1
    rw [List.take_length] at hfold
    have em : m₁ = fun y => if y = Str.ofString "words" then some (.ref D) else if y = Str.ofString "begun" then some (obV tb b) else m₁ y := by
      funext y
      split
      · subst_vars; exact hm1
      · split
        · subst_vars; exact hm2
        · rfl
    rw [em] at F₂
    generalize m₁ = m₂ at F₂
    clear em hm1 hm2 hm3
    dsimp only
    cases b with
    | none =>
      dsimp only [obV] at F₂
      k_steps
      refine hret _ _ _ _ (by k_asm) (by k_asm) ⟨D, its, n, rfl, ?_, .head _, fun p hp => .tail _ hp, o1⟩
      show StrsAre its.toList (lwEnd _)
      rw [hfold]
      exact hits
    | some x =>
      dsimp only [obV] at F₂
      k_steps
      rename Fr _ _ _ _ => F3
      rename News _ _ _ _ => N3
      refine Hold.mk ?_
      refine PyProof.Rows.add_arrays F3 N3 (News.isList N3 (.tail _ (.head _))) (News.isList N3 (.head _)) (fun h4 F4 N4 => ?_) ?_
      · have hlt : ∀ p ∈ news, (p.1 : Nat) < _ := fun p hp => Heap.lt_size (N3 p (.tail _ (.tail _ hp))).1
        k_steps
        refine hret _ _ _ _ (by k_asm) (by k_asm) ⟨_, _, 0, rfl, ?_, .head _, fun p hp => .tail _ (.tail _ (.tail _ hp)), hlt⟩
        show StrsAre _ (lwEnd _)
        rw [hfold]
        exact strs_snoc0 hits
      · have h2 : txt.length = txt.cps.toList.length := by simp [Str.length]
        rw [show sizeLine = 2 ^ 24 from rfl]
        show its.toList.length + 1 ≤ _
        rw [Array.length_toList]
        omega
end
section
section
variable {prog : Program} {w : World} {A : Around} {E : Value → Shared → Prop} {s : Shared} {h₀ : Heap} {L : Addr} {m : Str → Option Value} {env : Env} {elt : Expr} {x : Str} {scope : Scope} {cl : List (Str × Addr)}
/-- a comprehension's turns by an invariant -/
theorem comp_ind {S : Led → Prop} {P : Nat → Value → Prop} {Fin : List Value → Led → Prop} {news : Led} {n : Nat} (Inv : Nat → List Value → Led → Prop) (h0 : Inv 0 [] news)
    (step : ∀ (i : Nat) ys news v I oI C oC D m₂ h tk (E' : Value → Shared → Prop), i < n → Inv i ys news → P i v → LCg.NsObj oC m₂ → m₂ x = some v → Fr h₀ L h m → News h₀ L h ((I, oI) :: (C, oC) :: (D, LCg.lst ys) :: news) → LCg.Off3 I C D news → ((@Ne Nat I C) ∧ (@Ne Nat I D) ∧ (@Ne Nat C D)) →
      wpAny (model prog w) A (eval elt (compEnvC scope cl C env)) (LCg.CompEnd h₀ L m { s with heap := h, toks := tk } I oI C oC D (LCg.lst ys) S (fun y news' => Inv (i + 1) (ys ++ [y]) news')) E' { s with heap := h, toks := tk })
    (fin : ∀ ys news, Inv n ys news → Fin ys news) : LCg.CompRest prog w A h₀ L m env elt x scope cl s S P Fin n 0 [] news := by
  have key : ∀ k i ys news, i + k = n → Inv i ys news → LCg.CompRest prog w A h₀ L m env elt x scope cl s S P Fin k i ys news := by
    intro k
    induction k with
    | zero => intro i ys news e h; exact LCg.CompRest.zero (fin ys news ((show i = n from e) ▸ h))
    | succ k ih =>
      intro i ys news e h
      refine LCg.CompRest.succ fun v I oI C oC D m₂ h' tk E' hP hC hx F N off ne => ?_
      refine wpAny_mono (step i ys news v I oI C oC D m₂ h' tk E' (by omega) h hP hC hx F N off ne) (fun y s₂ p => ?_) fun _ _ e => e
      obtain ⟨h₂, tk₂, news₂, rfl, F₂, N₂, off₂, hS, hI⟩ := p
      exact ⟨h₂, tk₂, news₂, rfl, F₂, N₂, off₂, hS, ih (i + 1) (ys ++ [y]) news₂ (by omega) hI⟩
  exact key n 0 [] news (Nat.zero_add n) h0
/-- an element's end: the ledger's own part stands -/
theorem comp_end {S : Led → Prop} {rest : Value → Led → Prop} {I C D : Addr} {oI oC oD : Obj} {s₁ : Shared} {h' : Heap} {tk : Nat} {all news' : Led} {y : Value} (F : Fr h₀ L h' m) (N : News h₀ L h' all) (s1 : (I, oI) ∈ all) (s2 : (C, oC) ∈ all) (s3 : (D, oD) ∈ all) (s4 : ∀ p ∈ news', p ∈ all)
    (off : LCg.Off3 I C D news') (hS : S news') (r : rest y news') : LCg.CompEnd h₀ L m s₁ I oI C oC D oD S rest y { s₁ with heap := h', toks := tk } :=
  LCg.CompEnd.intro F N news' (fun p hp => by
    rcases List.mem_cons.mp hp with rfl | hp
    · exact s1
    rcases List.mem_cons.mp hp with rfl | hp
    · exact s2
    rcases List.mem_cons.mp hp with rfl | hp
    · exact s3
    · exact s4 p hp) off hS r
/-- an item of a list of ints of the ledger, at a place in bounds -/
theorem item_mem {led : Led} {l : Addr} {its : Array Value} {n : Nat} {ns : List Int} {value slice : Expr} {k : Int} {u : Tok} {Q : Value → Shared → Prop}
    (N : News h₀ L s.heap led) (hm : (l, listOf its n) ∈ led) (hi : IntsAre its.toList ns) (h0 : 0 ≤ k) (hk : k < (ns.length : Int)) (hs63 : k < 2 ^ 63) (h : ∀ t, Q (.int (ns.getD k.toNat 0) t) s)
    (hs : subscripted slice false (.ref l) (.int k u) = operate [.ref l, .int k u] (getItem (.ref l) (.int k u)) := by with_unfolding_all rfl) :
    wpAny (model prog w) A (subscriptTail value slice (.ref l) (.int k u)) Q E s := by
  have hl : s.heap.IsList l its := News.isList N hm
  have hlt : k.toNat < ns.length := by omega
  obtain ⟨t, ht⟩ := hi.get k.toNat ns[k.toNat] (by simp [hlt])
  refine tail_any hl.typeIs slot_list_getitem.lookup (wpAny_getItem_list hl h0 hs63 (by simpa using ht) ?_) hs
  have : ns.getD k.toNat 0 = ns[k.toNat] := by simp [List.getD, hlt]
  rw [← this]
  exact h t
end
end
section
/-- a move: where the three places go -/
noncomputable def mvStep (s1 s2 : List Int) (mv : List Int) (c : Nat) : List Int :=
  if c = 39 then mv.map fun p => s1.getD p.toNat 0 else if c = 34 then mv.map fun p => s2.getD p.toNat 0 else mv
noncomputable def mvF (s1 s2 : List Int) (t : List Nat) : List Int := t.foldl (mvStep s1 s2) [0, 1, 2]
noncomputable def Mv (l : List Int) : Prop := l.length = 3 ∧ ∀ x ∈ l, 0 ≤ x ∧ x < 3
theorem mvStep_Mv {s1 s2 mv : List Int} {c : Nat} (h1 : Mv s1) (h2 : Mv s2) (h : Mv mv) : Mv (mvStep s1 s2 mv c) := by
  have go : ∀ s : List Int, Mv s → Mv (mv.map fun p => s.getD p.toNat 0) := by
    intro s hs
    refine ⟨by rw [List.length_map]; exact h.1, fun x hx => ?_⟩
    obtain ⟨p, hp, rfl⟩ := List.mem_map.mp hx
    have := h.2 p hp
    have hl : p.toNat < s.length := by rw [hs.1]; omega
    have e : s.getD p.toNat 0 = s[p.toNat] := by simp [List.getD, hl]
    rw [e]
    exact hs.2 _ (List.getElem_mem hl)
  unfold mvStep
  split
  · exact go s1 h1
  · split
    · exact go s2 h2
    · exact h
theorem mvFold_Mv {s1 s2 : List Int} (h1 : Mv s1) (h2 : Mv s2) : ∀ (t : List Nat) (mv : List Int), Mv mv → Mv (t.foldl (mvStep s1 s2) mv)
  | [], _, h => h
  | _ :: t, _, h => mvFold_Mv h1 h2 t _ (mvStep_Mv h1 h2 h)
theorem mv012 : Mv [0, 1, 2] := ⟨rfl, by decide⟩
noncomputable def MvJ (g₀ : Heap) (S1 S2 Cc : Nat) (l1 l2 : List Int) (txt : Str) (news : Led) (i : Nat) (g : Heap) (m : Str → Option Value) (led : Led) : Prop :=
  g = g₀ ∧ ∃ (D : Nat) (its : Array Value) (n : Nat) (oc : Obj) (cv : Option Value), IntsAre its.toList ((txt.cps.toList.take i).foldl (mvStep l1 l2) [0, 1, 2]) ∧ oc.data = .cell cv ∧ led = (D, listOf its n) :: (Cc, oc) :: news ∧ Cc ≠ D ∧ (∀ p ∈ news, p.1 ≠ D) ∧
    m (Str.ofString "move") = some (.ref D) ∧ m (Str.ofString "single") = some (.ref S1) ∧ m (Str.ofString "double") = some (.ref S2)
theorem mv_leaf {g₀ : Heap} {L I : Addr} {S1 S2 Cc i : Nat} {l1 l2 : List Int} {txt : Str} {news nx : Led} {o : Obj} {h h' : Heap} {s : Shared} {tk' : Nat} {Q : Flow → Shared → Prop} {m' : Str → Option Value} {c D' : Nat} {its' : Array Value} {n' : Nat} {oc' : Obj} {cv' : Option Value}
    (hc : txt.cps.toList[i]? = some c) (hIn : ∀ p ∈ news, p.1 ≠ I) (hIC : Cc ≠ I) (hID : D' ≠ I) (F : Fr g₀ L h' m') (N : News g₀ L h' nx) (hI : (I, o) ∈ nx) (hD : (D', listOf its' n') ∈ nx) (hC : (Cc, oc') ∈ nx) (hn : ∀ p ∈ news, p ∈ nx)
    (hits : IntsAre its'.toList (mvStep l1 l2 ((txt.cps.toList.take i).foldl (mvStep l1 l2) [0, 1, 2]) c)) (hcd : oc'.data = .cell cv') (hlt : Cc ≠ D') (hnd : ∀ p ∈ news, p.1 ≠ D')
    (hm1 : m' (Str.ofString "move") = some (.ref D')) (hm2 : m' (Str.ofString "single") = some (.ref S1)) (hm3 : m' (Str.ofString "double") = some (.ref S2)) :
    ForPost L I o [I] h s (MvJ g₀ S1 S2 Cc l1 l2 txt news (i + 1)) Q .next { s with heap := h', toks := tk' } := by
  refine ⟨g₀, m', (D', listOf its' n') :: (Cc, oc') :: news, nx, h', tk', rfl, F, N, hI, fun p hp => ?_, fun p hp => ?_, fun b hb q => absurd (List.mem_singleton.mp hb) q, rfl, D', its', n', oc', cv', ?_, hcd, rfl, hlt, hnd, hm1, hm2, hm3⟩
  · rcases List.mem_cons.mp hp with rfl | hp
    · exact hD
    rcases List.mem_cons.mp hp with rfl | hp
    · exact hC
    · exact hn p hp
  · rcases List.mem_cons.mp hp with rfl | hp
    · exact hID
    rcases List.mem_cons.mp hp with rfl | hp
    · exact hIC
    · exact hIn p hp
  · rw [List.take_add_one, hc, Option.toList_some, List.foldl_append]
    exact hits
theorem eq_lit {prog : Program} {w : World} {A : Around} {E : Value → Shared → Prop} {s : Shared} {c d : Nat} {y : Str} {t u : Tok} {Q : Value → Shared → Prop} (hy : y = sg d) (h : Q (.bool (c == d)) s) : wpAny (model prog w) A (compareOp .Eq (.str (sg c) t) (.str y u)) Q E s := by
  subst hy
  exact eq_sg h
theorem ints_at {vs : Array Value} {ns : List Int} {i : Nat} {v : Value} (h : IntsAre vs.toList ns) (e : vs[i]? = some v) : ∃ y t, ns[i]? = some y ∧ v = .int y t := by
  have hl : i < ns.length := by
    rw [← h.length, Array.length_toList]
    exact (Array.getElem?_eq_some_iff.mp e).1
  obtain ⟨t, ht⟩ := h.get i ns[i] (by simp [hl])
  refine ⟨ns[i], t, by simp [hl], ?_⟩
  have e' : vs.toList[i]? = some v := by simpa using e
  rw [e'] at ht
  exact Option.some.inj ht
theorem ints_snoc {x : Int} {t : Tok} : ∀ {vs : List Value} {ns : List Int}, IntsAre vs ns → IntsAre (vs ++ [.int x t]) (ns ++ [x])
  | _, _, .nil => .cons _ _ .nil
  | _, _, .cons y u h => .cons y u (ints_snoc h)
theorem mv_is1 {l1 l2 mv : List Int} {c : Nat} {ys : List Value} (h : (c == 39) = true) (hy : IntsAre ys (mv.map fun p => l1.getD p.toNat 0)) : IntsAre ys.toArray.toList (mvStep l1 l2 mv c) := by
  unfold mvStep
  rw [if_pos (by simpa using h)]
  exact hy
theorem mv_is2 {l1 l2 mv : List Int} {c : Nat} {ys : List Value} (hq : isQt c = true) (h : (c == 39) = false) (hy : IntsAre ys (mv.map fun p => l2.getD p.toNat 0)) : IntsAre ys.toArray.toList (mvStep l1 l2 mv c) := by
  have h39 : c ≠ 39 := by simpa using h
  have h34 : c = 34 := by simpa [isQt, h39] using hq
  unfold mvStep
  rw [if_neg h39, if_pos h34]
  exact hy
theorem mv_is0 {l1 l2 mv : List Int} {c : Nat} (hq : isQt c = false) : mvStep l1 l2 mv c = mv := by
  have : c ≠ 39 ∧ c ≠ 34 := by simpa [isQt] using hq
  unfold mvStep
  rw [if_neg this.1, if_neg this.2]
theorem off1_mem {D : Addr} : ∀ {l : Led}, LCg.Off1 D l → ∀ p ∈ l, p.1 ≠ D
  | [], _, _, h => nomatch h
  | _ :: _, x, p, h => by
    rcases List.mem_cons.mp h with rfl | h
    · exact x.1
    · exact off1_mem x.2 p h
theorem ofS_sq : Str.ofString "'" = sg 39 := by decide +kernel
theorem ofS_dq : Str.ofString "\"" = sg 34 := by decide +kernel
local macro_rules | `(tactic| walk_at "exec If") => `(tactic| (k_here; k_fold))
local macro_rules | `(tactic| walk_at "execs cons") => `(tactic| (k_here; k_fold))
local macro_rules | `(tactic| walk_at "compareOp Eq str str") => `(tactic| (k_here; (with_reducible show wpAny _ _ (compareOp _ (Value.str (sg _) _) (Value.str (Str.ofString _) _)) _ _ _); first | refine eq_lit ofS_sq ?_ | refine eq_lit ofS_dq ?_))
local macro_rules | `(tactic| walk_at $s:str) => wk "exec Assign cons ListComp;R;holdO|pyIter str;R;holdO|exec For Name Name cons nil;R;holdO" s
local macro_rules | `(tactic| walk_at "subscriptTail Name Name ref int") => `(tactic| (k_here; (with_reducible show wpAny _ _ (subscriptTail _ _ (Value.ref _) (Value.int _ _)) _ _ _); k_dflt (refine' item_mem ?kN ?kM ?kI ?k0 ?k1 ?k2 ?_; (case k0 | k2 => assumption); (case kN => k_asm); (case kM => (repeat (first | assumption | apply List.mem_cons_of_mem))); (case kI | k1 => assumption)); intro t8))
theorem move_ (w : World) (mean mg mb) (txt : Str) (tt : Tok) (S1 S2 : Nat) (l1 l2 : List Int) (it1 it2 : Array Value) (n1 n2 : Nat) (news : Led) (hb : txt.length < 2 ^ 20) (hS1 : (S1, listOf it1 n1) ∈ news) (hS2 : (S2, listOf it2 n2) ∈ news)
    (hi1 : IntsAre it1.toList l1) (hi2 : IntsAre it2.toList l2) (hm1 : Mv l1) (hm2 : Mv l2) :
    Ctr w mean mg mb 753 [.str txt tt, .ref S1, .ref S2] news 2 24 (fun v news' => ∃ (D : Nat) (its : Array Value) (n : Nat), v = .ref D ∧ IntsAre its.toList (mvF l1 l2 txt.cps.toList) ∧ (D, listOf its n) ∈ news' ∧ (∀ p ∈ news, p ∈ news') ∧ ∀ p ∈ news, p.1 ≠ D) := by
  have hpr := prog_here
  revert hpr
  unfold Ctr
  k_fill
  intro _ dp un gd cn cs a ccd cl outer A₀ base h₀ L m s Q E B F X N T hk hd hu hret
  refine wpAny_call ?_
  k_dflt (refine' code_defC ?k1 ?k2 ?k3 ?k4 ?k5 ?kA ?kF ?kK ?k6 ?k7 ?k8 ?k9 ?kB ?kD ?_ ?c2 ?c3 ?c4; (case kA | kF => exact rfl); (case kK => assumption); (case k1 | k2 | k3 | k4 | k5 => k_asm); (case k6 | k7 => k_is); (case k8 => k_room); (case k9 => first | exact BindsTo.of_eq rfl | exact binds_K (by k_in) rfl (by k_is) rfl rfl rfl); (case kB => exact rfl); (case kD => decide +kernel); (case c2 | c3 | c4 => exact rfl); k_whole; intro g' L' h' tk' cells' FG' F' N' Y' B' X' T' l1; k_cells Y'; (try simp only [List.cons_append, List.nil_append] at N'); (try dsimp only); (try k_fold))
  k_steps
  refine Hold.mk ?_
  refine wpAny_For ?_
  k_steps
  refine Hold.mk ?_
  rename Fr _ _ _ _ => F1
  rename News _ _ _ _ => N1
  rename (∀ (p : Addr × Obj), p ∈ news → p.fst < _) => o1
  rename (_ < _ ∧ AllLt _ news) => o2
  rename (_ = Data.cell _) => hcell
  refine withD o1 fun D hDe => ?_
  subst hDe
  refine for_str (MvJ _ S1 S2 (D + 1) l1 l2 txt news) rfl rfl rfl F1 N1 ⟨rfl, _, _, _, _, _, .cons _ _ (.cons _ _ (.cons _ _ .nil)), hcell, rfl, Nat.ne_of_lt o2.1, fun p hp => Nat.ne_of_lt (Nat.lt_trans (o1 p hp) (Nat.lt_trans (Nat.lt_succ_self _) o2.1)), rfl, rfl, rfl⟩ ?_ ?_
  · rintro I i c u g m₁ led o h tk hc ⟨rfl, D', its, n, oc, cv, hits, hcd, rfl, hlt, hnd, e1, e2, e3⟩ hoff F₂ N₂
    clear F1 N1 hcell o2
    have em : m₁ = fun y => if y = Str.ofString "move" then some (.ref D') else if y = Str.ofString "single" then some (.ref S1) else if y = Str.ofString "double" then some (.ref S2) else m₁ y := by
      funext y
      split
      · subst_vars; exact e1
      · split
        · subst_vars; exact e2
        · split
          · subst_vars; exact e3
          · rfl
    rw [em] at F₂
    generalize m₁ = m₂ at F₂
    clear em e1 e2 e3
    have hn1 : ∀ p ∈ news, p.1 ≠ D + 1 := fun p hp => Nat.ne_of_lt (Nat.lt_succ_of_lt (o1 p hp))
    have hID : D' ≠ I := hoff (D', listOf its n) (.head _)
    have hIC : D + 1 ≠ I := hoff (D + 1, oc) (.tail _ (.head _))
    have hIn : ∀ p ∈ news, p.1 ≠ I := fun p hp => hoff p (.tail _ (.tail _ hp))
    generalize hmv : (txt.cps.toList.take i).foldl (mvStep l1 l2) [0, 1, 2] = mv at *
    have hMv : Mv mv := hmv ▸ mvFold_Mv hm1 hm2 _ _ mv012
    have hsz3 : its.size = 3 := by
      have := hits.length
      rw [hMv.1, Array.length_toList] at this
      exact this
    k_steps
    · refine Hold.mk ?_
      rename Fr _ _ _ _ => F4
      rename News _ _ _ _ => N4
      refine LCg.Assign_ListComp_U F4 rfl (by with_unfolding_all rfl) (by with_unfolding_all rfl) (by decide) (by rfl) (by decide) (by rfl) (by rfl) (by rfl) ?_
      refine nameX_L F4 (by rfl) ?_
      refine LCg.CompSrc.ledger rfl F4 N4 (by k_mem) (by rw [hsz3]; decide) fun g9 => comp_ind (fun i ys nw => nw = _ ∧ IntsAre ys ((mv.take i).map fun p => l1.getD p.toNat 0)) ⟨rfl, .nil⟩ ?_ ?_
      · rintro j ys nw v I9 oI C oC D9 m₉ h9 tk9 E' hj ⟨rfl, hys⟩ hv hC hx F9 N9 off ne
        obtain ⟨y, t9, hyj, rfl⟩ := ints_at hits hv
        have hy3 := hMv.2 y (List.mem_of_getElem? hyj)
        have hyl : y < (l1.length : Int) := by rw [hm1.1]; omega
        have hy0 := hy3.1
        have hy63 : y < 2 ^ 63 := by omega
        k_steps
        refine comp_end (by k_asm) (by k_asm) (.head _) (.tail _ (.head _)) (.tail _ (.tail _ (.head _))) (fun p hp => .tail _ (.tail _ (.tail _ hp))) off (.inr ⟨_, .tail _ (.head _), rfl, _, rfl⟩) ⟨rfl, ?_⟩
        rw [List.take_add_one, hyj, Option.toList_some, List.map_append]
        exact ints_snoc hys
      · rintro ys nw ⟨rfl, hys⟩ D9 h9 tk9 F9 N9 off9
        rw [hsz3, ← hMv.1, List.take_length] at hys
        dsimp only
        k_steps
        refine mv_leaf (D' := D9) hc hIn hIC (Ne.symm off9.1) (by k_asm) (by k_asm) (.tail _ (.head _)) (.head _) (.tail _ (.tail _ (.tail _ (.head _)))) (fun p hp => .tail _ (.tail _ (.tail _ (.tail _ hp)))) ?_ (by assumption) off9.2.2.1 (off1_mem off9.2.2.2) rfl rfl rfl
        rw [hmv]
        exact mv_is1 (by assumption) hys
    · refine Hold.mk ?_
      rename Fr _ _ _ _ => F4
      rename News _ _ _ _ => N4
      refine LCg.Assign_ListComp_U F4 rfl (by with_unfolding_all rfl) (by with_unfolding_all rfl) (by decide) (by rfl) (by decide) (by rfl) (by rfl) (by rfl) ?_
      refine nameX_L F4 (by rfl) ?_
      refine LCg.CompSrc.ledger rfl F4 N4 (by k_mem) (by rw [hsz3]; decide) fun g9 => comp_ind (fun i ys nw => nw = _ ∧ IntsAre ys ((mv.take i).map fun p => l2.getD p.toNat 0)) ⟨rfl, .nil⟩ ?_ ?_
      · rintro j ys nw v I9 oI C oC D9 m₉ h9 tk9 E' hj ⟨rfl, hys⟩ hv hC hx F9 N9 off ne
        obtain ⟨y, t9, hyj, rfl⟩ := ints_at hits hv
        have hy3 := hMv.2 y (List.mem_of_getElem? hyj)
        have hyl : y < (l2.length : Int) := by rw [hm2.1]; omega
        have hy0 := hy3.1
        have hy63 : y < 2 ^ 63 := by omega
        k_steps
        refine comp_end (by k_asm) (by k_asm) (.head _) (.tail _ (.head _)) (.tail _ (.tail _ (.head _))) (fun p hp => .tail _ (.tail _ (.tail _ hp))) off (.inr ⟨_, .tail _ (.head _), rfl, _, rfl⟩) ⟨rfl, ?_⟩
        rw [List.take_add_one, hyj, Option.toList_some, List.map_append]
        exact ints_snoc hys
      · rintro ys nw ⟨rfl, hys⟩ D9 h9 tk9 F9 N9 off9
        rw [hsz3, ← hMv.1, List.take_length] at hys
        dsimp only
        k_steps
        refine mv_leaf (D' := D9) hc hIn hIC (Ne.symm off9.1) (by k_asm) (by k_asm) (.tail _ (.head _)) (.head _) (.tail _ (.tail _ (.tail _ (.head _)))) (fun p hp => .tail _ (.tail _ (.tail _ (.tail _ hp)))) ?_ (by assumption) off9.2.2.1 (off1_mem off9.2.2.2) rfl rfl rfl
        rw [hmv]
        exact mv_is2 (by assumption) (by assumption) hys
    · refine mv_leaf hc hIn hIC hID (by k_asm) (by k_asm) (.head _) (.tail _ (.head _)) (.tail _ (.tail _ (.head _))) (fun p hp => .tail _ (.tail _ (.tail _ hp))) ?_ hcd hlt hnd rfl rfl rfl
      rw [hmv, mv_is0 (by assumption)]
      exact hits
  · rintro g m₁ led h tk ⟨rfl, D', its, n, oc, cv, hits, hcd, rfl, hlt, hnd, e1, e2, e3⟩ F₂ N₂
    clear F1 N1 hcell o2
    rw [List.take_length] at hits
    have em : m₁ = fun y => if y = Str.ofString "move" then some (.ref D') else m₁ y := by
      funext y
      split
      · subst_vars; exact e1
      · rfl
    rw [em] at F₂
    generalize m₁ = m₂ at F₂
    clear em e1 e2 e3
    dsimp only
    k_steps
    exact hret _ _ _ _ (by k_asm) (by k_asm) ⟨D', its, n, rfl, hits, .head _, fun p hp => .tail _ (.tail _ hp), hnd⟩
end
section
noncomputable def StrsOk (ws : List Str) : Prop := ∀ x ∈ ws, PyData.strOk x = true
theorem cl_strs : ∀ ws : List Str, StrsOk ws → PyData.canLayAll0 (ws.map PyData.str) = true
  | [], _ => rfl
  | x :: r, h => by simp [PyData.canLayAll0, PyData.canLay0, cl_strs r fun y hy => h y (.tail _ hy), h x (.head _)]
theorem dp_strs : ∀ ws : List Str, PyData.depthAll (ws.map PyData.str) = 0
  | [] => rfl
  | _ :: r => by simp [PyData.depthAll, PyData.depth, dp_strs r]
theorem shaped_strs {ws : List Str} (h : StrsOk ws) : SeqAt.shaped (.list (ws.map PyData.str)) = true := by
  simp [SeqAt.shaped, PyData.canLay0, PyData.depth, cl_strs ws h, dp_strs]
theorem same_strsAll : ∀ ns ms : List Str, PySem.Spec.sameAll (ns.map PyData.str) (ms.map PyData.str) = decide (ns = ms)
  | [], [] => by simp [PySem.Spec.sameAll]
  | [], _ :: _ => by simp [PySem.Spec.sameAll]
  | _ :: _, [] => by simp [PySem.Spec.sameAll]
  | a :: r, b :: t => by
    simp only [List.map_cons, PySem.Spec.sameAll, PySem.Spec.same, same_strsAll r t]
    by_cases h : a = b <;> by_cases h' : r = t <;> simp [h, h']
theorem same_strs (ns ms : List Str) : PySem.Spec.same (.list (ns.map PyData.str)) (.list (ms.map PyData.str)) = decide (ns = ms) := by
  simp only [PySem.Spec.same]; exact same_strsAll ns ms
theorem carried_strs : ∀ {vs : List Value} {ns : List Str}, StrsAre vs ns → CarriedAll vs (ns.map PyData.str)
  | _, _, .nil => .nil
  | _, _, .cons _ t r => .cons (.str _ t) (carried_strs r)
section
variable {prog : Program} {w : World} {A : Around} {E : Value → Shared → Prop} {s : Shared} {h₀ : Heap} {L : Addr} {led : Led} {a b : Addr} {xs ys : Array Value} {n1 n2 : Nat} {ns ms : List Str} {Q : Value → Shared → Prop}
theorem eq_strs (N : News h₀ L s.heap led) (ha : (a, listOf xs n1) ∈ led) (hb : (b, listOf ys n2) ∈ led) (hi : StrsAre xs.toList ns) (hj : StrsAre ys.toList ms) (ok1 : StrsOk ns) (ok2 : StrsOk ms) (hu : A.units + 64 < cLine) (h : Q (.bool (decide (ns = ms))) s) :
    wpAny (model prog w) A (compareOp .Eq (.ref a) (.ref b)) Q E s :=
  eq_dataH_same (reads_newData (News.isList N ha) (carried_strs hi)) (reads_newData (News.isList N hb) (carried_strs hj)) (shaped_strs ok1) (shaped_strs ok2) hu (SeqAt.noMix_of_shape (.list .str) rfl _ _ (list_map_has fun _ => rfl) (list_map_has fun _ => rfl)) (by rw [same_strs]; exact h)
theorem ne_strs (N : News h₀ L s.heap led) (ha : (a, listOf xs n1) ∈ led) (hb : (b, listOf ys n2) ∈ led) (hi : StrsAre xs.toList ns) (hj : StrsAre ys.toList ms) (ok1 : StrsOk ns) (ok2 : StrsOk ms) (hu : A.units + 64 < cLine) (h : Q (.bool (!decide (ns = ms))) s) :
    wpAny (model prog w) A (compareOp .NotEq (.ref a) (.ref b)) Q E s :=
  ne_dataH_same (reads_newData (News.isList N ha) (carried_strs hi)) (reads_newData (News.isList N hb) (carried_strs hj)) (shaped_strs ok1) (shaped_strs ok2) hu (SeqAt.noMix_of_shape (.list .str) rfl _ _ (list_map_has fun _ => rfl) (list_map_has fun _ => rfl)) (by rw [same_strs]; exact h)
/-- an item of a list of texts of the ledger, at a place in bounds -/
theorem item_strs {l : Addr} {its : Array Value} {n : Nat} {xs : List Str} {value slice : Expr} {k : Int} {u : Tok}
    (N : News h₀ L s.heap led) (hm : (l, listOf its n) ∈ led) (hi : StrsAre its.toList xs) (h0 : 0 ≤ k) (hk : k < (xs.length : Int)) (hs63 : k < 2 ^ 63) (h : ∀ t, Q (.str (xs.getD k.toNat (Str.ofString "")) t) s)
    (hs : subscripted slice false (.ref l) (.int k u) = operate [.ref l, .int k u] (getItem (.ref l) (.int k u)) := by with_unfolding_all rfl) :
    wpAny (model prog w) A (subscriptTail value slice (.ref l) (.int k u)) Q E s := by
  have hl : s.heap.IsList l its := News.isList N hm
  have hlt : k.toNat < xs.length := by omega
  obtain ⟨t, ht⟩ := hi.get k.toNat xs[k.toNat] (by simp [hlt])
  refine tail_any hl.typeIs slot_list_getitem.lookup (wpAny_getItem_list hl h0 hs63 (by simpa using ht) ?_) hs
  have : xs.getD k.toNat (Str.ofString "") = xs[k.toNat] := by simp [List.getD, hlt]
  rw [← this]
  exact h t
end
section
variable {prog : Program} {w : World} {A : Around} {E : Value → Shared → Prop} {Q : Flow → Shared → Prop} {s : Shared} {env : Env}
/-- a for over a range from nought -/
theorem for_range {x : Str} {px : Pos} {body : List Stmt} {g : Heap} {m : Str → Option Value} {led : Led} {r : Addr} {b : Int} {t u v : Tok} {n : Nat}
    (J : Nat → Heap → (Str → Option Value) → Led → Prop) (hh : A.handled = none) (hr : IsRange s.heap r 0 b 1 t u v) (hsm : Builtin.Range.small 0 b 1 = true) (hn : Builtin.Range.rangeSize 0 b 1 = (n : Int)) (hx : env.kindOf x = some .local) (hp : (env.scope.kind == .class || (env.scope.kind == .module && env.locals != env.globals)) = false)
    (F : Fr g env.locals s.heap m) (N : News g env.locals s.heap led) (h0 : J 0 g m led)
    (turn : ∀ (I : Nat) i u g m₁ led o h tk, i < n → J i g m₁ led → (∀ p ∈ led, p.1 ≠ I) → Fr g env.locals h (fun y => if y = x then some (.int (i : Int) u) else m₁ y) → News g env.locals h ((I, o) :: led) →
      wpAny (model prog w) A (execs body env) (ForPost env.locals I o [I] h s (J (i + 1)) Q) E { s with heap := h, toks := tk })
    (done : ∀ g m₁ led h tk, J n g m₁ led → Fr g env.locals h m₁ → News g env.locals h led → Q .next { s with heap := h, toks := tk })
    (hE : PassesOwn (model prog w) A env E := by passes_own) :
    wpAny (model prog w) A (pyIter (.ref r)) (fun it s₂ => codeAny (model prog w) A (.forLoop (.Name x px) it body [] env) (fun r s' => match r with | .ok f => Q f s' | .error e => cameBackBy (model prog w) A env E e s') s₂) E s := by
  have hL : env.locals ≠ s.heap.objs.size := Nat.ne_of_lt F.ns.lt
  refine wpAny_pyIter_range hr hsm ?_
  refine for_T (s := { s with heap := s.heap.push _ }) J (LCg.range_walks hh 0 n) (fun i h st => ⟨_, st⟩) hx hp (fun q => hL (List.mem_singleton.mp q)) (by show IsRangeIter _ _ _ _ _; rw [hn]; simpa using Heap.get?_push_size _ rfl) (F.push _) (N.pushKeep _) (next_is_new F) (fun p hp => Nat.ne_of_lt (Heap.lt_size (N p hp).1)) h0 ?_ ?_ hE
  · rintro i v g m₁ led o h tk hi ⟨u, rfl⟩ hJ hoff F₁ N₁
    rw [Int.zero_add] at F₁
    exact turn _ i u g m₁ led o h tk hi hJ hoff F₁ N₁
  · intro g m₁ led h tk hJ F₁ N₁
    exact done g m₁ led h tk hJ F₁ N₁
end
end
section
structure Gd (w : World) (mean : ExcName → Option Value) (mg mb : Str → Option Value) (A₀ : Around) (base : Heap) (outer : List Env) (g₀ g : Heap) : Prop where
  T0 : KtsTurn (frs outer) g₀ g
  B : Below A₀ base outer g
  X : (hd.heap_39 w.params).In g
  P : Top hd.view_39 LS mean mg mb g
  D : KtsDicts (frs outer) g
noncomputable def MK : List Str := [Str.ofString "", Str.ofString "'", Str.ofString "\""]
noncomputable def wholeF (txt : Str) (p e : Nat) : Str := MK.getD p (Str.ofString "") ++ txt ++ MK.getD e (Str.ofString "")
noncomputable def HoldsOk (txt : Str) (mv : List Int) : Prop := ∀ p e : Nat, p < 3 → e < 3 → StrsOk (lwF (wholeF txt p e).cps.toList) ∧
  wordsF true false ((wholeF txt p e).length + 2) .sp (wholeF txt p e).cps.toList = if mv.getD p 0 = (e : Int) then .ok (lwF (wholeF txt p e).cps.toList) else .error (Str.ofString "No closing quotation")
noncomputable def HoM (txt : Str) (tt : Tok) (M Mk : Nat) (m : Str → Option Value) : Prop := m (Str.ofString "text") = some (.str txt tt) ∧ m (Str.ofString "move") = some (.ref M) ∧ m (Str.ofString "marks") = some (.ref Mk)
theorem news_cons {h₀ h : Heap} {L : Addr} {nx led : Led} {q : Addr × Obj} (N : News h₀ L h nx) (h1 : q ∈ nx) (h2 : ∀ p ∈ led, p ∈ nx) : News h₀ L h (q :: led) := fun p hp => by
  rcases List.mem_cons.mp hp with rfl | hp
  · exact N _ h1
  · exact N _ (h2 _ hp)
theorem mk_len (p : Nat) : (MK.getD p (Str.ofString "")).length ≤ 1 := by
  match p with
  | 0 => decide +kernel
  | 1 => decide +kernel
  | 2 => decide +kernel
  | n + 3 =>
    show (Str.ofString "").length ≤ 1
    decide +kernel
theorem mk_strs (t u v : Tok) : StrsAre (#[Value.str (Str.ofString "") t, Value.str (Str.ofString "'") u, Value.str (Str.ofString "\"") v] : Array Value).toList MK := .cons _ _ (.cons _ _ (.cons _ _ .nil))
theorem gen_led {P : Prop} {h₀ h : Heap} {L Mk : Addr} {t u v : Tok} {news : Led} (N : News h₀ L h ((Mk, listOf #[Value.str (Str.ofString "") t, Value.str (Str.ofString "'") u, Value.str (Str.ofString "\"") v] 0) :: news))
    (k : ∀ itsK : Array Value, StrsAre itsK.toList MK → News h₀ L h ((Mk, listOf itsK 0) :: news) → P) : P := k _ (mk_strs t u v) N
theorem whole_len (txt : Str) (p e : Nat) : (wholeF txt p e).length ≤ txt.length + 2 := by
  have h1 := mk_len p
  have h2 := mk_len e
  unfold wholeF
  rw [len_app, len_app]
  omega
theorem hom_eq {txt : Str} {tt : Tok} {M Mk : Nat} {m : Str → Option Value} (h : HoM txt tt M Mk m) : m = fun y => if y = Str.ofString "text" then some (.str txt tt) else if y = Str.ofString "move" then some (.ref M) else if y = Str.ofString "marks" then some (.ref Mk) else m y := by
  funext y
  split
  · subst_vars; exact h.1
  · split
    · subst_vars; exact h.2.1
    · split
      · subst_vars; exact h.2.2
      · rfl
noncomputable def HoJ (w : World) (mean : ExcName → Option Value) (mg mb : Str → Option Value) (A₀ : Around) (base : Heap) (outer : List Env) (g₀ : Heap) (txt : Str) (tt : Tok) (M Mk : Nat) (led₀ : Led) (_ : Nat) (g : Heap) (m : Str → Option Value) (led : Led) : Prop :=
  Gd w mean mg mb A₀ base outer g₀ g ∧ led = led₀ ∧ HoM txt tt M Mk m
noncomputable def HoI (w : World) (mean : ExcName → Option Value) (mg mb : Str → Option Value) (A₀ : Around) (base : Heap) (outer : List Env) (g₀ : Heap) (txt : Str) (tt : Tok) (M Mk : Nat) (led₀ : Led) (pl : Nat) (_ : Nat) (g : Heap) (m : Str → Option Value) (led : Led) : Prop :=
  Gd w mean mg mb A₀ base outer g₀ g ∧ led = led₀ ∧ HoM txt tt M Mk m ∧ ∃ tp, m (Str.ofString "place") = some (.int (pl : Int) tp)
local macro_rules | `(tactic| walk_at "exec If") => `(tactic| (k_here; k_fold))
local macro_rules | `(tactic| walk_at "execs cons") => `(tactic| (k_here; k_fold))
local macro_rules | `(tactic| walk_at $s:str) => wk "pyIter ref;R;holdO|exec For Name Call cons nil;R;holdO" s
local macro_rules | `(tactic| walk_at "call ref") => `(tactic| (k_here; (with_reducible show wpAny _ _ (call (Value.ref 767) _) _ _ _); refine Hold.out ?_))
local macro_rules | `(tactic| walk_at "call ref") => `(tactic| (k_here; (with_reducible show wpAny _ _ (call (Value.ref 760) _) _ _ _); refine Hold.out ?_))
local macro_rules | `(tactic| walk_at "binaryOp Add str str") => `(tactic| (k_here; (refine' PyProof.Rows.add_str ?_ ?ka); (case ka => ((try simp only [len_app]); rw [show sizeLine = 2 ^ 24 from rfl]; omega)); intro _ _))
local macro_rules | `(tactic| walk_at "subscriptTail Name Name ref int") => `(tactic| (k_here; (with_reducible show wpAny _ _ (subscriptTail _ _ (Value.ref _) (Value.int _ _)) _ _ _); first
  | (k_dflt (refine' item_strs ?kN ?kM ?kI ?k0 ?k1 ?k2 ?_; (case kN => k_asm); (case kM => (repeat (first | exact List.mem_cons_self | assumption | apply List.mem_cons_of_mem))); (case kI => assumption); (case k0 => omega); (case k1 => ((show _ < (3 : Int)); omega)); (case k2 => omega)); intro t8; (try rw [Int.toNat_natCast]))
  | (k_dflt (refine' item_mem ?kN ?kM ?kI ?k0 ?k1 ?k2 ?_; (case kN => k_asm); (case kM => (repeat (first | exact List.mem_cons_self | assumption | apply List.mem_cons_of_mem))); (case kI => assumption); (case k0 | k1 | k2 => omega)); intro t8; (try rw [Int.toNat_natCast]))))
local macro_rules | `(tactic| walk_at "compareOp NotEq ref ref") => `(tactic| (k_here; k_dflt (refine' ne_strs ?kN ?ka ?kb ?ki ?kj ?k1 ?k2 ?ku ?_; (case kN => k_asm); (case ka => (repeat (first | exact List.mem_cons_self | assumption | apply List.mem_cons_of_mem))); (case kb => (repeat (first | exact List.mem_cons_self | assumption | apply List.mem_cons_of_mem))); (case ki | kj | k1 | k2 => assumption); (case ku => ktr_units)); (simp only [decide_true, Bool.not_true])))
theorem holds_ (w : World) (mean mg mb) (txt : Str) (tt : Tok) (M nM : Nat) (itm : Array Value) (mv : List Int) (news : Led) (hb : txt.length < 2 ^ 19) (hM : (M, listOf itm nM) ∈ news) (hi : IntsAre itm.toList mv) (hmv : Mv mv) (hlaw : HoldsOk txt mv) :
    CtrS w mean mg mb 774 [.str txt tt, .ref M] news 24 240 (fun v news' => v = .bool true ∧ ∀ p ∈ news, p ∈ news') (fun _ _ _ => False) := by
  have hpr := prog_here
  revert hpr
  unfold CtrS
  k_fill
  intro _ dp un gd cn cs a ccd cl outer A₀ base g₀ h₀ L m s Q E B F X N T XB TB D T0 hk hdp hun ret exc
  have XS := X.keeps F.keep
  refine wpAny_call ?_
  k_dflt (refine' code_defT ?k1 ?k2 ?k3 ?k4 ?k5 ?XB ?TB ?kD ?T0 ?kA ?kF ?kK ?k6 ?k7 ?k8 ?k9 ?kB ?_ ?c2 ?c3 ?c4 ?c5; (case kA | kF => exact rfl); (case kK => assumption); (case k1 | k2 | k3 | k4 | k5 => k_asm); (case XB | TB | kD | T0 => assumption); (case k6 | k7 => k_is); (case k8 => k_room); (case k9 => first | exact BindsTo.of_eq rfl | exact binds_K (by k_in) rfl (by k_is) rfl rfl rfl); (case c5 => decide); (case kB => exact locs rfl); (case c2 | c3 | c4 => exact rfl); k_whole; intro g' L' h' FG' F' N' B' X' T' D' l0; (try dsimp only); (try k_fold))
  k_steps
  refine Hold.mk ?_
  refine wpAny_For ?_
  k_steps
  refine Hold.mk ?_
  rename Fr _ _ _ _ => F1
  rename News _ _ _ _ => N1
  rename IsRange _ _ _ _ _ _ _ _ => R1
  rename Below _ _ _ _ => B1
  rename KtsDicts _ _ => D1
  rename (∀ (p : Addr × Obj), p ∈ news → p.fst < _) => o1
  refine withD o1 fun Mk hDe => ?_
  subst hDe
  refine gen_led N1 fun itsK hks N1 => ?_
  have hml : (mv.length : Int) = 3 := by rw [hmv.1]; rfl
  refine for_range (HoJ w mean mg mb _ base _ _ txt tt M Mk (_ :: news)) rfl R1 (by decide) (n := 3) (by decide) rfl rfl F1 N1 ⟨⟨KtsTurn.refl, B1, by assumption, by assumption, D1⟩, rfl, rfl, rfl, rfl⟩ ?_ ?_
  · rintro I i u g m₁ led o h tk hi3 ⟨⟨Tg, Bg, Xg, Pg, Dg⟩, rfl, hm⟩ hoff F₂ N₂
    clear F1 N1 R1
    rw [hom_eq hm] at F₂
    clear hm
    generalize m₁ = m₂ at F₂
    k_steps
    refine Hold.mk ?_
    refine wpAny_For ?_
    k_steps
    refine Hold.mk ?_
    rename Fr _ _ _ _ => F1
    rename News _ _ _ _ => N1
    rename IsRange _ _ _ _ _ _ _ _ => R1
    refine for_range (HoI w mean mg mb _ base _ _ txt tt M Mk (_ :: _ :: news) i) rfl R1 (by decide) (n := 3) (by decide) rfl rfl F1 N1 ⟨⟨Tg, Bg, Xg, Pg, Dg⟩, rfl, ⟨rfl, rfl, rfl⟩, _, rfl⟩ ?_ ?_
    · clear F1 N1 R1 Tg Bg Xg Pg Dg
      rintro I2 e u2 g m₁ led o2 h tk he3 ⟨⟨Tg, Bg, Xg, Pg, Dg⟩, rfl, hm, tp, hpl⟩ hoff2 F₂ N₂
      have em : m₁ = fun y => if y = Str.ofString "place" then some (.int (i : Int) tp) else m₁ y := by
        funext y
        split
        · subst_vars; exact hpl
        · rfl
      rw [em, hom_eq hm] at F₂
      clear em hm hpl
      generalize m₁ = m₂ at F₂
      have h1 := mk_len i
      have h2 := mk_len e
      have hwl : (MK.getD i (Str.ofString "") ++ txt ++ MK.getD e (Str.ofString "")).length < 2 ^ 20 := by rw [len_app, len_app]; omega
      obtain ⟨hok, hl⟩ := hlaw i e hi3 he3
      unfold wholeF at hok hl
      k_steps
      · rw [if_pos (by assumption)] at hl
        refine Hold.mk ?_
        k_dflt (refine' ctr_use (words_ _ _ _ _ _ _ _ ?hb) ?k1 ?k2 ?k3 ?k4 ?k5 ?kK ?kd ?ku ?_; (case k1 | k2 | k3 | k4 | k5 => k_asm); (case kK => first | exact rfl | assumption); (case hb => assumption); (case kd => ktr_room); (case ku => ktr_units))
        rintro v9 h9 tk9 n9 F9 N9 ⟨D1, its1, n1, rfl, hits1, hm1, hs1, ho1⟩
        replace N9 := news_cons N9 hm1 hs1
        clear hm1 hs1
        k_steps
        refine Hold.mk ?_
        k_dflt (refine' ctrS_use (told_ _ _ _ _ _ _ _ ?hb) ?k1 ?k2 ?k3 ?k4 ?k5 ?XB ?TB ?kD ?T0 ?kK ?kd ?ku ?_ ?_; (case k1 | k2 | k3 | k4 | k5 => k_asm); (case XB | TB | kD | T0 => assumption); (case kK => first | exact rfl | assumption); (case hb => assumption); (case kd => ktr_room); (case ku => ktr_units))
        · rintro v8 g8 h8 tk8 n8 T8 F8 N8 B8 X8 P8 D8 (⟨D2, its2, ws, c2, rfl, hw, hs2, hm2, hsub, _⟩ | ⟨msg, t, rfl, hw, hsub⟩)
          · obtain rfl : ws = _ := by
              have := hw.symm.trans hl
              injection this
            replace N8 := news_cons N8 hm2 hsub
            clear hm2 hsub
            k_steps
            exact ⟨g8, _, _, _, _, _, rfl, (by k_asm), (by k_asm), .tail _ (.tail _ (.head _)), fun p hp => .tail _ (.tail _ (.tail _ hp)), hoff2, fun b hb q => absurd (List.mem_singleton.mp hb) q, ⟨T8, B8, X8, P8, D8⟩, rfl, ⟨rfl, rfl, rfl⟩, _, rfl⟩
          · exact absurd (hw.symm.trans hl) (by nofun)
        · intro e9 t9 c9 v9 h9 tk9 n9 g9 R9 F9 U9 P9
          exact P9.elim
      · rw [if_neg (by assumption)] at hl
        refine Hold.mk ?_
        k_dflt (refine' ctrS_use (told_ _ _ _ _ _ _ _ ?hb) ?k1 ?k2 ?k3 ?k4 ?k5 ?XB ?TB ?kD ?T0 ?kK ?kd ?ku ?_ ?_; (case k1 | k2 | k3 | k4 | k5 => k_asm); (case XB | TB | kD | T0 => assumption); (case kK => first | exact rfl | assumption); (case hb => assumption); (case kd => ktr_room); (case ku => ktr_units))
        · rintro v8 g8 h8 tk8 n8 T8 F8 N8 B8 X8 P8 D8 (⟨D2, its2, ws, c2, rfl, hw, hs2, hm2, hsub, _⟩ | ⟨msg, t, rfl, hw, hsub⟩)
          · exact absurd (hw.symm.trans hl) (by nofun)
          · obtain rfl : msg = _ := by
              have := hw.symm.trans hl
              injection this
            replace N8 := News.drop9 N8 hsub
            clear hsub
            k_steps
            exact ⟨g8, _, _, _, _, _, rfl, (by k_asm), (by k_asm), .head _, fun p hp => .tail _ hp, hoff2, fun b hb q => absurd (List.mem_singleton.mp hb) q, ⟨T8, B8, X8, P8, D8⟩, rfl, ⟨rfl, rfl, rfl⟩, _, rfl⟩
        · intro e9 t9 c9 v9 h9 tk9 n9 g9 R9 F9 U9 P9
          exact P9.elim
    · rintro g m₁ led h tk ⟨Gg, rfl, hm, tp, hpl⟩ F₂ N₂
      clear F1 N1 R1 Tg Bg Xg Pg Dg
      dsimp only
      k_steps
      exact ⟨g, m₁, _, _, h, tk, rfl, F₂, N₂, .head _, fun p hp => .tail _ hp, hoff, fun b hb q => absurd (List.mem_singleton.mp hb) q, Gg, rfl, hm⟩
  · rintro g m₁ led h tk ⟨⟨Tg, Bg, Xg, Pg, Dg⟩, rfl, hm⟩ F₂ N₂
    clear F1 N1 R1
    dsimp only
    k_steps
    exact ⟨g, _, _, _, Tg, F₂, N₂, fun h₀' kT kF kN kB kX kP kD => ret _ h₀' _ _ _ kT kF kN kB kX kP kD ⟨rfl, fun p hp => .tail _ hp⟩⟩
end
section
theorem cut {M : Model} {A : Around} {E : Value → Shared → Prop} {env : Env} {stmt : Stmt} {rest : List Stmt} {Q : Flow → Shared → Prop} {s : Shared} (Mid : Shared → Prop)
    (h1 : wpAny M A (exec stmt env) (fun f s' => f = .next ∧ Mid s') E s) (h2 : ∀ s', Mid s' → wpAny M A (execs rest env) Q E s') : wpAny M A (execs (stmt :: rest) env) Q E s :=
  wpAny_execs_cons (wpAny_mono h1 (fun f s' p => by obtain ⟨rfl, hm⟩ := p; exact h2 s' hm) fun _ _ e => e)
/-- the law's frame behind a statement -/
noncomputable def Be (h₀ : Heap) (L : Addr) (s : Shared) (P : (Str → Option Value) → Led → Prop) (s' : Shared) : Prop := ∃ h' tk' m' led, s' = { s with heap := h', toks := tk' } ∧ Fr h₀ L h' m' ∧ News h₀ L h' led ∧ P m' led
abbrev cellsL (L : Nat) (oM oF oT oS : Obj) : Led := [(L + 1 + 1 + 1 + 1, oM), (L + 1 + 1 + 1, oF), (L + 1 + 1, oT), (L + 1, oS)]
noncomputable def drawnF (ns : List Int) : List Int := if ns = [] then [456, 26, 65] else ns.take 6
noncomputable def offC (L D : Nat) : Prop := D ≠ L + 1 + 1 + 1 + 1 ∧ D ≠ L + 1 + 1 + 1 ∧ D ≠ L + 1 + 1 ∧ D ≠ L + 1
noncomputable def numsF (ns : List Int) : List Int := (drawnF ns).map (Int.fmod · 569376768)
noncomputable def P1 (L : Nat) (ns : List Int) (m : Str → Option Value) (led : Led) : Prop :=
  ∃ (D : Nat) (its : Array Value) (n : Nat) (oM oF oT oS : Obj), m (Str.ofString "drawn") = some (.ref D) ∧ IntsAre its.toList (drawnF ns) ∧ led = (D, listOf its n) :: cellsL L oM oF oT oS ∧ offC L D ∧ oM.data = .cell none ∧ oF.data = .cell none ∧ oT.data = .cell none ∧ oS.data = .cell none
noncomputable def P2 (L : Nat) (ns : List Int) (m : Str → Option Value) (led : Led) : Prop :=
  ∃ (D : Nat) (its : Array Value) (n : Nat) (oM oF oT oS : Obj), m (Str.ofString "numbers") = some (.ref D) ∧ IntsAre its.toList (numsF ns) ∧ led = (D, listOf its n) :: cellsL L oM oF oT oS ∧ offC L D ∧ oM.data = .cell none ∧ oF.data = .cell none ∧ oT.data = .cell none ∧ oS.data = .cell none
theorem be_intro {h₀ : Heap} {L : Addr} {s : Shared} {P : (Str → Option Value) → Led → Prop} {h' : Heap} {tk' : Nat} {m' : Str → Option Value} {led : Led} (nx : Led) (F : Fr h₀ L h' m') (N : News h₀ L h' nx) (hs : ∀ p ∈ led, p ∈ nx) (hP : P m' led) : Be h₀ L s P { s with heap := h', toks := tk' } :=
  ⟨h', tk', m', led, rfl, F, fun p hp => N p (hs p hp), hP⟩
theorem drawn_nil {ns : List Int} (h : decide (ns = []) = true) : drawnF ns = [456, 26, 65] := if_pos (of_decide_eq_true h)
theorem drawn_cons {ns : List Int} (h : decide (ns = []) = false) : drawnF ns = ns.take 6 := if_neg (of_decide_eq_false h)
theorem drawn_len (ns : List Int) : (drawnF ns).length ≤ 6 := by
  unfold drawnF
  split
  · decide
  · rw [List.length_take]; omega
theorem sub1 {a b : Addr × Obj} {l : Led} : ∀ p ∈ a :: l, p ∈ a :: b :: l := fun p hp => by
  rcases List.mem_cons.mp hp with rfl | hp
  · exact .head _
  · exact .tail _ (.tail _ hp)
theorem one_m {m : Str → Option Value} {x : Str} {v : Value} (h : m x = some v) : m = fun y => if y = x then some v else m y := by
  funext y
  split
  · subst_vars; exact h
  · rfl
theorem ints_size {vs : Array Value} {ns : List Int} (h : IntsAre vs.toList ns) : vs.size = ns.length := by
  have := h.length
  rw [Array.length_toList] at this
  exact this
theorem size6 {n : Nat} (h : n ≤ 200) : n ≤ sizeLine := by rw [show sizeLine = 2 ^ 24 from rfl]; omega
theorem nums_len (ns : List Int) : (numsF ns).length ≤ 6 := by rw [numsF, List.length_map]; exact drawn_len ns
theorem fmod_rng {y k : Int} (hk : 0 < k) : 0 ≤ y.fmod k ∧ y.fmod k < k := by
  rw [Int.fmod_eq_emod_of_nonneg _ (Int.le_of_lt hk)]
  exact ⟨Int.emod_nonneg _ (Int.ne_of_gt hk), Int.emod_lt_of_pos _ hk⟩
theorem code_rng {x : Int} (h : 0 ≤ x ∧ x < 569376768) : 0 ≤ x.fdiv 512 ∧ x.fdiv 512 < 1112064 := by
  rw [Int.fdiv_eq_ediv_of_nonneg _ (by decide)]
  omega
theorem nums_lt {ns : List Int} {x : Int} (h : x ∈ numsF ns) : 0 ≤ x ∧ x < 569376768 := by
  obtain ⟨y, _, rfl⟩ := List.mem_map.mp h
  exact fmod_rng (by decide)
noncomputable def catF (ws : List Str) : Str := Txt.join (Str.ofString "") ws
noncomputable def s1F (x : Int) : Str := signF (x.fmod 8) (x.fdiv 512)
noncomputable def s2F (x : Int) : Str := signF ((x.fdiv 8).fmod 8) (x.fdiv 512)
noncomputable def s3F (x : Int) : Str := signF ((x.fdiv 64 + 1).fmod 8) (x.fdiv 512)
noncomputable def fstF (ns : List Int) : Str := catF ((numsF ns).map s1F)
noncomputable def sndF (ns : List Int) : Str := catF (((numsF ns).take 3).map s2F)
noncomputable def trdF (ns : List Int) : Str := catF (((numsF ns).take 3).map s3F)
noncomputable def P3 (L : Nat) (ns : List Int) (m : Str → Option Value) (led : Led) : Prop :=
  ∃ (D : Nat) (its : Array Value) (n : Nat) (oM oF oT oS : Obj) (t1 : Tok), m (Str.ofString "numbers") = some (.ref D) ∧ m (Str.ofString "first") = some (.str (fstF ns) t1) ∧ IntsAre its.toList (numsF ns) ∧ led = (D, listOf its n) :: cellsL L oM oF oT oS ∧ offC L D ∧ oM.data = .cell none ∧ oF.data = .cell none ∧ oT.data = .cell none ∧ oS.data = .cell none
theorem sign_len (k c : Int) : (signF k c).length ≤ 1 := by
  unfold signF
  dsimp only
  repeat' split
  all_goals first | exact Nat.le_refl _ | exact Nat.le_of_lt (by decide +kernel)
theorem strs_snoc1 {x : Str} {t : Tok} {vs : List Value} {ys : List Str} (h : StrsAre vs ys) : StrsAre (vs ++ [.str x t]) (ys ++ [x]) := strs_snoc0 h
/-- join of a comprehension's list of short texts -/
theorem join_C {w : World} {A : Around} {E : Value → Shared → Prop} {s : Shared} {h₀ : Heap} {L : Addr} {Q : Value → Shared → Prop} {t : Tok} {news : Led} {D : Addr} {ys : List Value} {ws : List Str} (N : News h₀ L s.heap ((D, LCg.lst ys) :: news)) (hi : StrsAre ys ws) (hw : ws.length ≤ 200) (hl : ∀ x ∈ ws, x.length ≤ 200)
    (h : ∀ t k, Q (.str (catF ws) t) { s with toks := k }) : wpAny (model PG w) A (call (.builtin "str.join") [.str (Str.ofString "") t, .ref D]) Q E s := by
  refine join_list (News.isList N (.head _)) hi ?_ h
  have : ∀ ws : List Str, (∀ x ∈ ws, x.length ≤ 200) → (ws.map (·.length)).sum ≤ ws.length * 200 := by
    intro ws
    induction ws with
    | nil => intro _; exact Nat.le_refl _
    | cons x r ih =>
      intro hx
      have h1 := hx x (.head _)
      have h2 := ih fun y hy => hx y (.tail _ hy)
      simp only [List.map_cons, List.sum_cons, List.length_cons]
      omega
  have h1 := this ws hl
  rw [len_none]
  omega
theorem two_m {m : Str → Option Value} {x y : Str} {v u : Value} (h : m x = some v) (h' : m y = some u) : m = fun z => if z = x then some v else if z = y then some u else m z := by
  funext z
  split
  · subst_vars; exact h
  · split
    · subst_vars; exact h'
    · rfl
theorem map_len {f : Int → Str} (hf : ∀ x, (f x).length ≤ 1) {l : List Int} : ∀ y ∈ l.map f, y.length ≤ 200 := fun y hy => by
  obtain ⟨x, _, rfl⟩ := List.mem_map.mp hy
  have := hf x
  omega
noncomputable def fthF (ns : List Int) : Str := catF ((fstF ns).cps.toList.map fun c => if c = 39 then sndF ns else if c = 34 then trdF ns else sg c)
noncomputable def P4 (L : Nat) (ns : List Int) (m : Str → Option Value) (led : Led) : Prop :=
  ∃ (D : Nat) (its : Array Value) (n : Nat) (oM oF oT oS : Obj) (t1 t2 : Tok), m (Str.ofString "numbers") = some (.ref D) ∧ m (Str.ofString "first") = some (.str (fstF ns) t1) ∧ IntsAre its.toList (numsF ns) ∧ led = (D, listOf its n) :: cellsL L oM oF oT oS ∧ offC L D ∧ oM.data = .cell none ∧ oF.data = .cell none ∧ oT.data = .cell none ∧ oS.data = .cell (some (.str (sndF ns) t2))
noncomputable def P5 (L : Nat) (ns : List Int) (m : Str → Option Value) (led : Led) : Prop :=
  ∃ (oM oF oT oS : Obj) (t1 t2 t3 : Tok), m (Str.ofString "first") = some (.str (fstF ns) t1) ∧ led = cellsL L oM oF oT oS ∧ oM.data = .cell none ∧ oF.data = .cell none ∧ oT.data = .cell (some (.str (trdF ns) t3)) ∧ oS.data = .cell (some (.str (sndF ns) t2))
noncomputable def P6 (L : Nat) (ns : List Int) (m : Str → Option Value) (led : Led) : Prop :=
  ∃ (oM oF oT oS : Obj) (t1 t2 t3 t4 : Tok), m (Str.ofString "first") = some (.str (fstF ns) t1) ∧ led = cellsL L oM oF oT oS ∧ oM.data = .cell none ∧ oF.data = .cell (some (.str (fthF ns) t4)) ∧ oT.data = .cell (some (.str (trdF ns) t3)) ∧ oS.data = .cell (some (.str (sndF ns) t2))
theorem cat_cps : ∀ ws : List Str, (catF ws).cps.toList = (ws.map fun x => x.cps.toList).flatten := by
  have hj : ∀ ws : List Str, (Str.join (Str.ofString "") ws).cps.toList = (ws.map fun x => x.cps.toList).flatten := by
    intro ws
    induction ws with
    | nil => rfl
    | cons x r ih =>
      cases r with
      | nil => show x.cps.toList = _; simp
      | cons y t =>
        show (x ++ Str.ofString "" ++ Str.join (Str.ofString "") (y :: t)).cps.toList = _
        rw [app_none, Str.cps_append, Array.toList_append, ih]
        rfl
  intro ws
  show (Txt.join _ _).cps.toList = _
  unfold Txt.join
  rw [StrLaws.glued_eq_join]
  exact hj ws
theorem len_cps (x : Str) : x.length = x.cps.toList.length := by simp [Str.length]
theorem cat_len {ws : List Str} {k : Nat} (h : ∀ x ∈ ws, x.length ≤ k) : (catF ws).length ≤ ws.length * k := by
  rw [len_cps, cat_cps]
  induction ws with
  | nil => simp
  | cons x r ih =>
    have h1 := h x (.head _)
    rw [len_cps] at h1
    have h2 := ih fun y hy => h y (.tail _ hy)
    simp only [List.map_cons, List.flatten_cons, List.length_append, List.length_cons]
    rw [Nat.add_mul]
    omega
theorem fst_len (ns : List Int) : (fstF ns).length ≤ 6 := by
  have h := cat_len (k := 1) (ws := (numsF ns).map s1F) fun x hx => by
    obtain ⟨y, _, rfl⟩ := List.mem_map.mp hx
    exact sign_len _ _
  have h2 := nums_len ns
  rw [List.length_map] at h
  show (catF _).length ≤ 6
  omega
theorem snd_len (ns : List Int) : (sndF ns).length ≤ 3 := by
  have h := cat_len (k := 1) (ws := ((numsF ns).take 3).map s2F) fun x hx => by
    obtain ⟨y, _, rfl⟩ := List.mem_map.mp hx
    exact sign_len _ _
  rw [List.length_map, List.length_take] at h
  show (catF _).length ≤ 3
  omega
theorem trd_len (ns : List Int) : (trdF ns).length ≤ 3 := by
  have h := cat_len (k := 1) (ws := ((numsF ns).take 3).map s3F) fun x hx => by
    obtain ⟨y, _, rfl⟩ := List.mem_map.mp hx
    exact sign_len _ _
  rw [List.length_map, List.length_take] at h
  show (catF _).length ≤ 3
  omega
theorem put_len (ns : List Int) (c : Nat) : (if c = 39 then sndF ns else if c = 34 then trdF ns else sg c).length ≤ 3 := by
  have h1 := snd_len ns
  have h2 := trd_len ns
  split
  · exact h1
  · split
    · exact h2
    · exact (by decide : 1 ≤ 3)
theorem fth_len (ns : List Int) : (fthF ns).length ≤ 18 := by
  have h := cat_len (k := 3) (ws := (fstF ns).cps.toList.map fun c => if c = 39 then sndF ns else if c = 34 then trdF ns else sg c) fun x hx => by
    obtain ⟨y, _, rfl⟩ := List.mem_map.mp hx
    exact put_len ns y
  have h2 := fst_len ns
  rw [len_cps] at h2
  rw [List.length_map] at h
  show (catF _).length ≤ 18
  omega
theorem put1 {a b : Str} {c : Nat} {t : Tok} {ys : List Value} {l : List Str} (h : (c == 39) = true) (hy : StrsAre ys l) : StrsAre (ys ++ [.str a t]) (l ++ [if c = 39 then a else if c = 34 then b else sg c]) := by
  rw [if_pos (by simpa using h)]; exact strs_snoc1 hy
theorem put2 {a b : Str} {c : Nat} {t : Tok} {ys : List Value} {l : List Str} (h : (c == 39) = false) (h' : (c == 34) = true) (hy : StrsAre ys l) : StrsAre (ys ++ [.str b t]) (l ++ [if c = 39 then a else if c = 34 then b else sg c]) := by
  rw [if_neg (by simpa using h), if_pos (by simpa using h')]; exact strs_snoc1 hy
theorem put3 {a b : Str} {c : Nat} {t : Tok} {ys : List Value} {l : List Str} (h : (c == 39) = false) (h' : (c == 34) = false) (hy : StrsAre ys l) : StrsAre (ys ++ [.str (sg c) t]) (l ++ [if c = 39 then a else if c = 34 then b else sg c]) := by
  rw [if_neg (by simpa using h), if_neg (by simpa using h')]; exact strs_snoc1 hy
noncomputable def repPs (ns : List Int) : List (Str × Str) := [(Str.ofString "'", Str.ofString "0"), (Str.ofString "\"", Str.ofString "1"), (Str.ofString "0", sndF ns), (Str.ofString "1", trdF ns)]
theorem ne_self {prog : Program} {w : World} {A : Around} {E : Value → Shared → Prop} {s : Shared} {x : Str} {t u : Tok} {Q : Value → Shared → Prop} (h : Q (.bool false) s) : wpAny (model prog w) A (compareOp .NotEq (.str x t) (.str x u)) Q E s := by
  refine ne_str ?_
  rw [show (x != x) = false by simp]
  exact h
noncomputable def mv1F (ns : List Int) : List Int := mvF [1, 0, 2] [2, 1, 0] (sndF ns).cps.toList
noncomputable def mv2F (ns : List Int) : List Int := mvF [1, 0, 2] [2, 1, 0] (trdF ns).cps.toList
noncomputable def mvFF (ns : List Int) : List Int := mvF (mv1F ns) (mv2F ns) (fstF ns).cps.toList
theorem mv102 : Mv [1, 0, 2] := ⟨rfl, by decide⟩
theorem mv210 : Mv [2, 1, 0] := ⟨rfl, by decide⟩
theorem mv1_Mv (ns : List Int) : Mv (mv1F ns) := mvFold_Mv mv102 mv210 _ _ mv012
theorem mv2_Mv (ns : List Int) : Mv (mv2F ns) := mvFold_Mv mv102 mv210 _ _ mv012
theorem mv_Mv (ns : List Int) : Mv (mvFF ns) := mvFold_Mv (mv1_Mv ns) (mv2_Mv ns) _ _ mv012
noncomputable def P8 (L : Nat) (ns : List Int) (m : Str → Option Value) (led : Led) : Prop :=
  ∃ (oM oF oT oS : Obj) (t1 t2 t3 t4 : Tok) (Dm D1 D2 : Nat) (i1 i2 : Array Value) (n0 n1 n2 : Nat), m (Str.ofString "first") = some (.str (fstF ns) t1) ∧ m (Str.ofString "moves") = some (.ref Dm) ∧
    led = (Dm, listOf #[.ref D1, .ref D2] n0) :: (D1, listOf i1 n1) :: (D2, listOf i2 n2) :: cellsL L oM oF oT oS ∧ offC L Dm ∧ offC L D1 ∧ offC L D2 ∧ IntsAre i1.toList (mv1F ns) ∧ IntsAre i2.toList (mv2F ns) ∧
    oM.data = .cell none ∧ oF.data = .cell (some (.str (fthF ns) t4)) ∧ oT.data = .cell (some (.str (trdF ns) t3)) ∧ oS.data = .cell (some (.str (sndF ns) t2))
/-- the moves that are made so far -/
noncomputable def MvI (ns : List Int) (led₀ : Led) (i : Nat) (ys : List Value) (nw : Led) : Prop :=
  (i = 0 ∧ ys = [] ∧ nw = led₀) ∨ (i = 1 ∧ ∃ (D1 n1 : Nat) (i1 : Array Value), ys = [.ref D1] ∧ nw = (D1, listOf i1 n1) :: led₀ ∧ IntsAre i1.toList (mv1F ns) ∧ (∀ p ∈ led₀, p.1 ≠ D1)) ∨
  (i = 2 ∧ ∃ (D1 n1 : Nat) (i1 : Array Value) (D2 n2 : Nat) (i2 : Array Value), ys = [.ref D1, .ref D2] ∧ nw = (D2, listOf i2 n2) :: (D1, listOf i1 n1) :: led₀ ∧ IntsAre i1.toList (mv1F ns) ∧ IntsAre i2.toList (mv2F ns) ∧ (∀ p ∈ led₀, p.1 ≠ D1) ∧ ∀ p ∈ led₀, p.1 ≠ D2)
theorem off3_cons {I C D X : Addr} {o : Obj} {l : Led} (h : LCg.Off3 I C D l) (h1 : X ≠ I) (h2 : X ≠ C) (h3 : X ≠ D) : LCg.Off3 I C D ((X, o) :: l) := ⟨⟨h1, h2, h3⟩, h⟩
theorem move_i {w : World} {mean mg mb} {txt : Str} {tt : Tok} {S1 S2 : Nat} {l1 l2 : List Int} {it1 it2 : Array Value} {n1 n2 : Nat} {news : Led} (hb : txt.length < 2 ^ 20) (hS1 : (S1, listOf it1 n1) ∈ news) (hS2 : (S2, listOf it2 n2) ∈ news)
    (hi1 : IntsAre it1.toList l1) (hi2 : IntsAre it2.toList l2) (hm1 : Mv l1) (hm2 : Mv l2) :
    Ctr w mean mg mb 753 [.str txt tt, .ref S1, .ref S2] news 2 24 (fun v news' => ∃ (D : Nat) (its : Array Value) (n : Nat), v = .ref D ∧ IntsAre its.toList (mvF l1 l2 txt.cps.toList) ∧ (D, listOf its n) ∈ news' ∧ (∀ p ∈ news, p ∈ news') ∧ ∀ p ∈ news, p.1 ≠ D) :=
  move_ w mean mg mb txt tt S1 S2 l1 l2 it1 it2 n1 n2 news hb hS1 hS2 hi1 hi2 hm1 hm2
theorem holds_i {w : World} {mean mg mb} {txt : Str} {tt : Tok} {M nM : Nat} {itm : Array Value} {mv : List Int} {news : Led} (hb : txt.length < 2 ^ 19) (hM : (M, listOf itm nM) ∈ news) (hi : IntsAre itm.toList mv) (hmv : Mv mv) (hlaw : HoldsOk txt mv) :
    CtrS w mean mg mb 774 [.str txt tt, .ref M] news 24 240 (fun v news' => v = .bool true ∧ ∀ p ∈ news, p ∈ news') (fun _ _ _ => False) := holds_ w mean mg mb txt tt M nM itm mv news hb hM hi hmv hlaw
noncomputable def P9 (L : Nat) (ns : List Int) (m : Str → Option Value) (led : Led) : Prop :=
  ∃ (oM oF oT oS : Obj) (t1 t2 t3 t4 : Tok) (Dm D1 D2 D3 : Nat) (i1 i2 i3 : Array Value) (n0 n1 n2 n3 : Nat), m (Str.ofString "moves") = some (.ref Dm) ∧
    led = (D3, listOf i3 n3) :: (Dm, listOf #[.ref D1, .ref D2] n0) :: (D1, listOf i1 n1) :: (D2, listOf i2 n2) :: cellsL L oM oF oT oS ∧ IntsAre i1.toList (mv1F ns) ∧ IntsAre i2.toList (mv2F ns) ∧ IntsAre i3.toList (mvFF ns) ∧
    oM.data = .cell (some (.ref D3)) ∧ oF.data = .cell (some (.str (fthF ns) t4)) ∧ oT.data = .cell (some (.str (trdF ns) t3)) ∧ oS.data = .cell (some (.str (sndF ns) t2))
/-- what is left to the holds -/
noncomputable def P10 (L : Nat) (ns : List Int) (led : Led) : Prop :=
  ∃ (oM oF oT oS : Obj) (t4 : Tok) (D3 : Nat) (i3 : Array Value) (n3 : Nat), led = (D3, listOf i3 n3) :: cellsL L oM oF oT oS ∧ IntsAre i3.toList (mvFF ns) ∧ oM.data = .cell (some (.ref D3)) ∧ oF.data = .cell (some (.str (fthF ns) t4))
noncomputable def revF (x : Str) : Str := catF (x.cps.toList.reverse.map sg)
noncomputable def P11 (L : Nat) (ns : List Int) (m : Str → Option Value) (led : Led) : Prop := P10 L ns led ∧ ∃ t, m (Str.ofString "turned") = some (.str (revF (fthF ns)) t)
theorem rng_size (n : Nat) : Builtin.Range.rangeSize 0 (n : Int) 1 = (n : Int) := by
  rw [PyProof.Rows.rangeSize_nat, Int.sub_zero, Int.toNat_natCast]
theorem rng_fits {n : Nat} (h : n ≤ 200) : Builtin.Range.rangeFitsLong (n : Int) = true := by
  unfold Builtin.Range.rangeFitsLong
  simp
  omega
theorem rng_small {n : Nat} (h : n ≤ 200) : Builtin.Range.small 0 (n : Int) 1 = true := by
  have h0 : Builtin.Range.rangeFitsLong 0 = true := rng_fits (n := 0) (by decide)
  have h1 : Builtin.Range.rangeFitsLong 1 = true := rng_fits (n := 1) (by decide)
  unfold Builtin.Range.small
  rw [rng_size]
  simp [h0, h1, rng_fits h]
theorem rev_item {x : Str} {j : Nat} (h : j < x.length) : ∃ c, x.cps.toList.reverse[j]? = some c ∧ Txt.item x ((x.length : Int) - 1 - (j : Int)) = sg c := by
  rw [len_cps] at h
  have e : x.cps.toList.reverse[j]? = some x.cps.toList[x.cps.toList.length - 1 - j] := by
    rw [List.getElem?_reverse h]
    exact List.getElem?_eq_getElem (by omega)
  refine ⟨_, e, PyProof.Rows.item_meets (by rw [len_cps]; omega) ?_⟩
  have e2 : ((x.length : Int) - 1 - (j : Int)).toNat = x.cps.toList.length - 1 - j := by rw [len_cps]; omega
  rw [e2, ← Array.getElem?_toList]
  exact List.getElem?_eq_getElem (by omega)
theorem sg_len200 {l : List Nat} : ∀ y ∈ l.map sg, y.length ≤ 200 := fun y hy => by
  obtain ⟨x, _, rfl⟩ := List.mem_map.mp hy
  exact (by decide : 1 ≤ 200)
noncomputable def invF (mv : List Int) : List Int := [0, 1, 2].map fun p => ((mv.idxOf p : Nat) : Int)
theorem lay3 {mv : List Int} (h : Mv mv) : PyData.layable0 (.list (mv.map .int)) = true := by
  obtain ⟨h1, h2⟩ := h
  match mv, h1 with
  | [a, b, c], _ =>
    have ha := h2 a (by simp)
    have hb := h2 b (by simp)
    have hc := h2 c (by simp)
    have ha' : a = 0 ∨ a = 1 ∨ a = 2 := by omega
    have hb' : b = 0 ∨ b = 1 ∨ b = 2 := by omega
    have hc' : c = 0 ∨ c = 1 ∨ c = 2 := by omega
    rcases ha' with rfl | rfl | rfl <;> rcases hb' with rfl | rfl | rfl <;> rcases hc' with rfl | rfl | rfl <;> decide +kernel
theorem index_C {w : World} {A : Around} {E : Value → Shared → Prop} {s : Shared} {h₀ : Heap} {L : Addr} {led : Led} {l : Addr} {its : Array Value} {n : Nat} {mv : List Int} {k : Int} {t : Tok} {Q : Value → Shared → Prop} (N : News h₀ L s.heap led) (hm : (l, listOf its n) ∈ led) (hi : IntsAre its.toList mv) (hv : Mv mv) (hk : k ∈ mv)
    (h : Q (.int (mv.idxOf k : Nat) s.toks) { s with toks := s.toks + 1 }) : wpAny (model PG w) A (call (.builtin "list.index") [.ref l, .int k t]) Q E s :=
  index_list_ints (vs := its.toList) (News.isList N hm) hi (lay3 hv) hk h
theorem inv_at {mv : List Int} {j : Nat} (h : j < 3) : (invF mv)[j]? = some ((mv.idxOf (j : Int) : Nat) : Int) := by
  match j, h with
  | 0, _ => rfl
  | 1, _ => rfl
  | 2, _ => rfl
theorem inv_Mv {mv : List Int} (h : Mv mv) (hp : ∀ j : Nat, j < 3 → (j : Int) ∈ mv) : Mv (invF mv) := by
  refine ⟨rfl, fun x hx => ?_⟩
  obtain ⟨p, hp', rfl⟩ := List.mem_map.mp hx
  have hm : p ∈ mv := by
    simp only [List.mem_cons, List.not_mem_nil, or_false] at hp'
    rcases hp' with rfl | rfl | rfl
    · exact hp 0 (by decide)
    · exact hp 1 (by decide)
    · exact hp 2 (by decide)
  have := List.idxOf_lt_length_iff.mpr hm
  rw [h.1] at this
  omega
theorem rev_len (x : Str) : (revF x).length = x.length := by
  rw [len_cps, revF, cat_cps, List.map_map, len_cps]
  have : ∀ l : List Nat, (l.map ((fun x : Str => x.cps.toList) ∘ sg)).flatten = l := by
    intro l
    induction l with
    | nil => rfl
    | cons a r ih => simp only [List.map_cons, List.flatten_cons, ih]; rfl
  rw [this, List.length_reverse]
noncomputable def rep6 (x : Str) : Str := Txt.mul x 6
noncomputable def arF (x : Str) (k : Nat) : Str := MK.getD k (Str.ofString "") ++ rep6 x ++ MK.getD k (Str.ofString "")
noncomputable def P13 (L : Nat) (ns : List Int) (wh : Nat → Str) (m : Str → Option Value) (led : Led) : Prop :=
  ∃ (oM oF oT oS : Obj) (Da : Nat) (ia : Array Value) (na : Nat), m (Str.ofString "around") = some (.ref Da) ∧ led = (Da, listOf ia na) :: cellsL L oM oF oT oS ∧ StrsAre ia.toList [wh 0, wh 1, wh 2]
/-- a list of lists of texts, made so far -/
noncomputable def RefI (W : Nat → List Str) (led₀ : Led) (i : Nat) (ys : List Value) (nw : Led) : Prop :=
  (∀ p ∈ led₀, p ∈ nw) ∧ ys.length = i ∧ ∀ k, k < i → ∃ (D : Nat) (its : Array Value) (n : Nat), ys[k]? = some (.ref D) ∧ (D, listOf its n) ∈ nw ∧ StrsAre its.toList (W k)
theorem RefI.nil {W : Nat → List Str} {led₀ : Led} : RefI W led₀ 0 [] led₀ := ⟨fun _ h => h, rfl, fun _ h => absurd h (Nat.not_lt_zero _)⟩
theorem RefI.snoc {W : Nat → List Str} {led₀ nw : Led} {i : Nat} {ys : List Value} {D n : Nat} {its : Array Value} (h : RefI W led₀ i ys nw) (hs : StrsAre its.toList (W i)) : RefI W led₀ (i + 1) (ys ++ [.ref D]) ((D, listOf its n) :: nw) := by
  obtain ⟨h1, h2, h3⟩ := h
  refine ⟨fun p hp => .tail _ (h1 p hp), by rw [List.length_append, h2]; rfl, fun k hk => ?_⟩
  by_cases e : k < i
  · obtain ⟨D', its', n', e1, e2, e3⟩ := h3 k e
    exact ⟨D', its', n', by rw [List.getElem?_append_left (by omega)]; exact e1, .tail _ e2, e3⟩
  · have : k = i := by omega
    subst this
    refine ⟨D, its, n, ?_, .head _, hs⟩
    rw [List.getElem?_append_right (by omega), h2, Nat.sub_self]
    rfl
noncomputable def dat3 (W : Nat → List Str) : PyData := .list [.list ((W 0).map .str), .list ((W 1).map .str), .list ((W 2).map .str)]
theorem ref_reads {h₀ : Heap} {L : Addr} {h : Heap} {W : Nat → List Str} {led₀ nw nx : Led} {ys : List Value} {A : Addr} (N : News h₀ L h nx) (hA : (A, LCg.lst ys) ∈ nx) (hs : ∀ p ∈ nw, p ∈ nx) (hR : RefI W led₀ 3 ys nw) : ∃ as, Reads h (.ref A) (dat3 W) as := by
  obtain ⟨_, h2, h3⟩ := hR
  obtain ⟨D0, i0, n0, e0, m0, s0⟩ := h3 0 (by decide)
  obtain ⟨D1, i1, n1, e1, m1, s1⟩ := h3 1 (by decide)
  obtain ⟨D2, i2, n2, e2, m2, s2⟩ := h3 2 (by decide)
  match ys, h2, e0, e1, e2 with
  | [a, b, c], _, e0, e1, e2 =>
    obtain rfl : a = .ref D0 := by simpa using e0
    obtain rfl : b = .ref D1 := by simpa using e1
    obtain rfl : c = .ref D2 := by simpa using e2
    exact ⟨_, reads_list_at (N.get hA) rfl rfl (.cons (reads_newData (News.isList N (hs _ m0)) (carried_strs s0)) (.cons (reads_newData (News.isList N (hs _ m1)) (carried_strs s1)) (.cons (reads_newData (News.isList N (hs _ m2)) (carried_strs s2)) .nil)))⟩
theorem dat3_shaped {W : Nat → List Str} (h : ∀ k, k < 3 → StrsOk (W k)) : SeqAt.shaped (dat3 W) = true := by
  have h0 := cl_strs _ (h 0 (by decide))
  have h1 := cl_strs _ (h 1 (by decide))
  have h2 := cl_strs _ (h 2 (by decide))
  simp [dat3, SeqAt.shaped, PyData.canLay0, PyData.canLayAll0, PyData.depth, PyData.depthAll, h0, h1, h2, dp_strs]
theorem rep6_cps (x : Str) : (rep6 x).cps.toList = (List.replicate 6 x.cps.toList).flatten := by
  unfold rep6 Txt.mul
  rw [if_neg (by decide)]
  by_cases h : x.length = 0
  · have hx : x.cps.toList = [] := List.eq_nil_of_length_eq_zero (by rw [← len_cps]; exact h)
    rw [if_pos (by simp [h]), hx]
    rfl
  · rw [if_neg (by simp [h])]
    show ((List.replicate 6 x.cps).foldl (· ++ ·) #[]).toList = _
    simp [List.replicate]
theorem rep6_len (x : Str) : (rep6 x).length = 6 * x.length := by
  rw [len_cps, rep6_cps, len_cps]
  simp [List.replicate]
  omega
theorem mul6_C {w : World} {A : Around} {E : Value → Shared → Prop} {s : Shared} {x : Str} {t u : Tok} {Q : Value → Shared → Prop} (hx : x.length ≤ 18) (h : ∀ t' k, Q (.str (rep6 x) t') { s with toks := k }) : wpAny (model PG w) A (binaryOp .Mult (.str x t) (.int 6 u)) Q E s := by
  refine SB.mul (mulOk_of 1048576 16 (by omega) (by omega) (by omega) (by decide) (by decide)) ?_
  intro t' k
  exact h t' k
theorem strs_at {vs : Array Value} {xs : List Str} {i : Nat} {v : Value} (h : StrsAre vs.toList xs) (e : vs[i]? = some v) : ∃ y t, xs[i]? = some y ∧ v = .str y t := by
  have hl : i < xs.length := by
    rw [← h.length, Array.length_toList]
    exact (Array.getElem?_eq_some_iff.mp e).1
  obtain ⟨t, ht⟩ := h.get i xs[i] (by simp [hl])
  refine ⟨xs[i], t, by simp [hl], ?_⟩
  have e' : vs.toList[i]? = some v := by simpa using e
  rw [e'] at ht
  exact Option.some.inj ht
theorem mk_at {i : Nat} {y : Str} (h : MK[i]? = some y) : y = MK.getD i (Str.ofString "") ∧ ([0, 1, 2] : List Nat)[i]? = some i := by
  match i, h with
  | 0, h => exact ⟨(Option.some.inj h).symm, rfl⟩
  | 1, h => exact ⟨(Option.some.inj h).symm, rfl⟩
  | 2, h => exact ⟨(Option.some.inj h).symm, rfl⟩
theorem ar_at {wh : Nat → Str} {i : Nat} {y : Str} (h : [wh 0, wh 1, wh 2][i]? = some y) : y = wh i ∧ i < 3 := by
  match i, h with
  | 0, h => exact ⟨(Option.some.inj h).symm, by decide⟩
  | 1, h => exact ⟨(Option.some.inj h).symm, by decide⟩
  | 2, h => exact ⟨(Option.some.inj h).symm, by decide⟩
theorem ar_len {x : Str} {k : Nat} (h : x.length ≤ 18) : (arF x k).length < 2 ^ 20 := by
  have h1 := mk_len k
  have h2 := rep6_len x
  unfold arF
  rw [len_app, len_app]
  omega
end
section
section
variable {prog : Program} {w : World} {A : Around} {E : Value → Shared → Prop} {s : Shared} {h₀ : Heap} {L : Addr} {m : Str → Option Value} {env : Env}
/-- a list comprehension over a text -/
theorem ListComp_S {elt iter : Expr} {x : Str} {px : Pos} {scope : Scope} {cl : List (Str × Addr)} {pos : Pos} {Q : Value → Shared → Prop} (_F₀ : Fr h₀ L s.heap m)
    (hclos : closureFor scope env = pure cl) (hcell : ∀ y ∈ scope.names, y.2 ≠ .cell) (hkind : scope.kind = .function)
    (hnames : ∀ y ∈ scope.names, y.2 = .local → scope.names.lookup y.1 = some .local) (hx : scope.names.lookup x = some .local)
    (h : wpAny (model prog w) A (eval iter env) (fun xv s₁ => ∃ txt tt news, xv = .str txt tt ∧ A.handled = none ∧ Fr h₀ L s₁.heap m ∧ News h₀ L s₁.heap news ∧ txt.cps.size ≤ sizeLine ∧
      ∀ s₂ : Shared, (∃ h, s₂ = { s₁ with heap := h }) → LCg.CompRest prog w A h₀ L m env elt x scope cl s₂ (fun _ => True) (SignAt txt) (LCg.FinE h₀ L m s₂ Q) txt.cps.size 0 [] news) E s)
    (hs : ∀ x, foldedSetIterable iter env x = pure x := by intro _; rfl) :
    wpAny (model prog w) A (eval (.ListComp elt [⟨.Name x px, iter, [], 0⟩] scope pos) env) Q E s := by
  rw [eval_ListComp]
  refine wpAny_comprehension_free (use := none) rfl hs hclos hkind hnames (wpAny_mono h (fun xv s₁ h₁ => ?_) fun _ _ e => e)
  obtain ⟨txt, tt, news, rfl, hh, F, N, hsz, R⟩ := h₁
  have go : ∀ (ob : Obj) (ty : String), Walks prog w A s₁.heap.objs.size [s₁.heap.objs.size] [s₁.heap.objs.size] txt.cps.size (SignAt txt) (fun i h => h.IsStrIter s₁.heap.objs.size ty txt tt i) → (s₁.heap.push ob).IsStrIter s₁.heap.objs.size ty txt tt 0 →
      wpAny (model prog w) A (newList []) (fun acc s₃ => wpAny (model prog w) A (newFunctionEnv scope env.globals cl [] env.qual none .none (some env)) (fun cenv s₄ =>
        codeAny (model prog w) A (.compStart (.ListComp elt [⟨.Name x px, iter, [], 0⟩] scope pos) 0 (.ref s₁.heap.objs.size) acc { cenv with scope := relabel scope env }) (compPost (model prog w) A E none Q acc cenv.locals) s₄) E s₃) E { s₁ with heap := s₁.heap.push ob } := by
    intro ob ty W hst
    refine LCg.block_U (s₂ := { s₁ with heap := s₁.heap.push ob }) (h₀ := h₀) (L := L) (m := m) (S := fun _ => True) (news := news) (RR := fun acc C => compPost (model prog w) A E none Q acc C) W hsz (fun i h st => let ⟨o, ho, _⟩ := st; ⟨o, ho⟩)
      (fun i h h' o nw st e e' _ _ _ => by obtain ⟨o', q, r⟩ := st; rw [e] at q; cases q; exact ⟨o, e', r⟩) hcell hkind hx hst (fun b hb => ?_)
      (F.keeps fun _ _ e => Heap.get?_push_of_some _ e) (N.grown fun _ _ e => Heap.get?_push_of_some _ e) (Nat.ne_of_lt F.ns.lt) (next_is_new F) (fun p hp => Nat.ne_of_lt (Heap.lt_size (N p hp).1)) trivial (R _ ⟨_, rfl⟩) ?_
    · rw [List.mem_singleton.mp hb]
      show s₁.heap.objs.size < (s₁.heap.push _).objs.size
      rw [Heap.size_push]; exact Nat.lt_succ_self _
    · intro D C h tk m' ys news' F' N' o1 hn hC₀ hD₀ hCL hDL hCD offC fin
      refine ⟨m', hn, fun h'' hs'' => fin D h'' tk (F'.change hs'' hCL hC₀) (fun p hp => ?_) o1⟩
      refine ⟨hs''.extBut _ _ ?_ (N' p hp).1, (N' p hp).2⟩
      rcases List.mem_cons.mp hp with rfl | hp
      · exact Ne.symm hCD
      · exact offC p hp
  cases ha : txt.cps.all (· < 128)
  · exact wpAny_pyIter_wide ha (go _ _ (Walks.strWide hh _ txt tt) ⟨_, Heap.get?_push_size _ rfl, rfl, rfl⟩)
  · exact wpAny_pyIter_ascii ha (go _ _ (Walks.strAscii hh _ txt tt) ⟨_, Heap.get?_push_size _ rfl, rfl, rfl⟩)
end
theorem slice_3 {prog : Program} {w : World} {A : Around} {E : Value → Shared → Prop} {s : Shared} {h₀ : Heap} {L l : Addr} {m : Str → Option Value} {led : Led} {value slice : Expr} {its : Array Value} {n : Nat} {ns : List Int} {u : Tok} {Q : Value → Shared → Prop}
    (F : Fr h₀ L s.heap m) (N : News h₀ L s.heap led) (hm : (l, listOf its n) ∈ led) (hi : IntsAre its.toList ns) (hz : ns.length ≤ 200)
    (h : ∀ (D : Nat) ws h', Fr h₀ L h' m → News h₀ L h' ((D, listOf (List.toArray ws) 0) :: led) → (∀ p ∈ led, (p.1 : Nat) < D) → IntsAre ws (ns.take 3) → Q (.ref D) { s with heap := h' })
    (hs : subscripted slice false (.ref l) (.ref s.heap.objs.size) = operate [.ref s.heap.objs.size, .ref l] (getItem (.ref l) (.ref s.heap.objs.size))) (ht : ∀ r, letTemporaryGo value (.ref l) r = pure ()) :
    wpAny (model prog w) A (subscriptTail value slice (.ref l) (.ref s.heap.objs.size)) Q E { s with heap := s.heap.push { cls := .type "slice", data := .fields #[.none, .int 3 u, .none] } } := by
  have hsz : its.size = ns.length := by
    have := hi.length
    rw [Array.length_toList] at this
    exact this
  refine kmk_slice (lo := none) (hi := some 3) F N (News.isList N hm) .none (.int _ _) (fun D h' F' N' l1 => ?_) hs ht (by rw [hsz, show sizeLine = 2 ^ 24 from rfl]; omega)
  have h1 := kmk_upto (y := 3) hi (by decide)
  rw [Array.toArray_toList] at h1
  refine h D (slicePick its none (some 3) none).toList h' F' ?_ l1 h1
  rw [Array.toArray_toList]
  exact N'
theorem ctrS_top {w : World} {mean : ExcName → Option Value} {mg mb : Str → Option Value} {f : Addr} {vs : List Value} {news : Led} {D U : Nat} {Post : Value → Led → Prop}
  {dp un : Nat} {gd : Option (List Code)} {cn : Str} {cs : Scope} {a : Addr} {ccd : Value} {cl : List (Str × Addr)} {A₀ : Around} {h₀ : Heap} {L : Addr} {m : Str → Option Value} {s : Shared} {Q E : Value → Shared → Prop}
    (C : CtrS w mean mg mb f vs news D U Post (fun _ _ _ => False)) (B : Below A₀ h₀ [] h₀) (F : Fr h₀ L s.heap m) (X : (hd.heap_39 w.params).In h₀) (N : News h₀ L s.heap news) (T : Top hd.view_39 LS mean mg mb h₀) (hk : cs.kind = .function)
    (hdp : dp + D < recursionLimit) (hun : un + U < cLine) (ret : ∀ v h' tk' news', Fr h₀ L h' m → News h₀ L h' news' → Post v news' → Q v { s with heap := h', toks := tk' }) :
    wpAny (model PG w) (ktrTop dp un gd cn cs L a ccd cl []) (call (.ref f) vs) Q E s := by
  refine ctrS_use (g₀ := h₀) C B F X N T X T ktsDicts_nil KtsTurn.refl hk hdp hun ?_ (fun e t cls vs h' tk' news' g _ _ _ p => p.elim)
  intro v h₀' h' tk' news' T' F' N' B' X' P' D' hp
  have kp : ∀ b o, h₀.get? b = some o → h₀'.get? b = some o := fun b o e => T'.other b o e (by simp [frs])
  exact ret v h' tk' news' ⟨F'.ns, fun b o e => F'.keep b o (kp b o e), by rw [← T'.size]; exact F'.above⟩ (fun p hp => ⟨(N' p hp).1, (N' p hp).2.1, kts_none kp (N' p hp).2.2⟩) hp
end
section
/-- where a place goes by a sign: 0 outside, 1 within '..', 2 within ".." -/
noncomputable def dl (p c : Nat) : Nat := if c = 39 then (if p = 0 then 1 else if p = 1 then 0 else p) else if c = 34 then (if p = 0 then 2 else if p = 2 then 0 else p) else p
noncomputable def dS (p : Nat) (t : List Nat) : Nat := t.foldl dl p
noncomputable def plOf : Nat → Option Nat
  | 0 => none
  | 1 => some 39
  | _ => some 34
theorem dl_lt {p : Nat} (c : Nat) (h : p < 3) : dl p c < 3 := by
  unfold dl
  repeat' split
  all_goals omega
theorem dS_lt : ∀ (t : List Nat) {p : Nat}, p < 3 → dS p t < 3
  | [], _, h => h
  | c :: t, _, h => dS_lt t (dl_lt c h)
theorem dS_app (p : Nat) (a b : List Nat) : dS p (a ++ b) = dS (dS p a) b := List.foldl_append
theorem dl_dl {p : Nat} (c : Nat) (h : p < 3) : dl (dl p c) c = p := by
  have : p = 0 ∨ p = 1 ∨ p = 2 := by omega
  unfold dl
  rcases this with rfl | rfl | rfl
  all_goals (by_cases h1 : c = 39 <;> by_cases h2 : c = 34 <;> simp_all)
theorem dS_rev : ∀ (t : List Nat) {p : Nat}, p < 3 → dS (dS p t) t.reverse = p
  | [], _, _ => rfl
  | c :: t, p, h => by
    rw [List.reverse_cons, dS_app]
    show dS (dS (dS (dl p c) t) t.reverse) [c] = p
    rw [dS_rev t (dl_lt c h)]
    exact dl_dl c h
theorem dS_rev' (t : List Nat) {p : Nat} (h : p < 3) : dS (dS p t.reverse) t = p := by
  have := dS_rev t.reverse h
  rwa [List.reverse_reverse] at this
theorem qt_cases {c : Nat} (h : isQt c = true) : c = 39 ∨ c = 34 := qt_of h
theorem ws_not {c : Nat} (h : isWs c = true) : c ≠ 39 ∧ c ≠ 34 := by
  have : c = 32 ∨ c = 9 ∨ c = 13 ∨ c = 10 := by simpa [isWs, or_assoc] using h
  omega
theorem lw_some (ws : List Str) (b : Option Str) (q c : Nat) : lwStep (ws, b, some q) c = if c = q then (ws, b, none) else (ws, some (b.getD (Str.ofString "") ++ sg c), some q) := rfl
theorem lw_none (ws : List Str) (b : Option Str) (c : Nat) : lwStep (ws, b, none) c = if isWs c = true then (match b with | some x => (ws ++ [x], none, none) | none => (ws, none, none))
    else if isQt c = true then (ws, some (b.getD (Str.ofString "")), some c) else (ws, some (b.getD (Str.ofString "") ++ sg c), none) := rfl
theorem lw_pl (ws : List Str) (b : Option Str) {p : Nat} (c : Nat) (h : p < 3) : (lwStep (ws, b, plOf p) c).2.2 = plOf (dl p c) := by
  have hp : p = 0 ∨ p = 1 ∨ p = 2 := by omega
  rcases hp with rfl | rfl | rfl
  · show (lwStep (ws, b, none) c).2.2 = _
    rw [lw_none]
    by_cases hw : isWs c = true
    · have := ws_not hw
      rw [if_pos hw]
      cases b <;> simp [dl, this, plOf]
    · rw [if_neg hw]
      by_cases hq : isQt c = true
      · rw [if_pos hq]
        rcases qt_cases hq with rfl | rfl <;> rfl
      · rw [if_neg hq]
        have : c ≠ 39 ∧ c ≠ 34 := by simpa [isQt] using hq
        simp [dl, this, plOf]
  · show (lwStep (ws, b, some 39) c).2.2 = _
    rw [lw_some]
    by_cases hc : c = 39
    · subst hc; rfl
    · rw [if_neg hc]
      by_cases h2 : c = 34
      · subst h2; rfl
      · simp [dl, hc, h2, plOf]
  · show (lwStep (ws, b, some 34) c).2.2 = _
    rw [lw_some]
    by_cases hc : c = 34
    · subst hc; rfl
    · rw [if_neg hc]
      by_cases h2 : c = 39
      · subst h2; rfl
      · simp [dl, hc, h2, plOf]
theorem lw_place : ∀ (t : List Nat) (s : LwS) (p : Nat), p < 3 → s.2.2 = plOf p → (t.foldl lwStep s).2.2 = plOf (dS p t)
  | [], _, _, _, h => h
  | c :: t, (ws, b, pl), p, hp, h => by
    have h' : pl = plOf p := h
    subst h'
    exact lw_place t (lwStep (ws, b, plOf p) c) (dl p c) (dl_lt c hp) (lw_pl ws b c hp)
theorem lw_one (ws : List Str) (b : Option Str) (pl : Option Nat) (c : Nat) : lwStep (ws, b, pl) c = (ws ++ (lwStep ([], b, pl) c).1, (lwStep ([], b, pl) c).2) := by
  cases pl with
  | some q =>
    rw [lw_some, lw_some]
    split <;> simp
  | none =>
    rw [lw_none, lw_none]
    split
    · cases b <;> simp
    · split <;> simp
theorem lw_pre : ∀ (t : List Nat) (ws : List Str) (b : Option Str) (pl : Option Nat), t.foldl lwStep (ws, b, pl) = (ws ++ (t.foldl lwStep ([], b, pl)).1, (t.foldl lwStep ([], b, pl)).2)
  | [], ws, b, pl => by simp
  | c :: t, ws, b, pl => by
    have h1 := lw_one ws b pl c
    obtain ⟨⟨w', b', pl'⟩, hs⟩ : ∃ x, lwStep ([], b, pl) c = x := ⟨_, rfl⟩
    rw [hs] at h1
    show t.foldl lwStep (lwStep (ws, b, pl) c) = (ws ++ (t.foldl lwStep (lwStep ([], b, pl) c)).1, (t.foldl lwStep (lwStep ([], b, pl) c)).2)
    rw [h1, hs]
    show t.foldl lwStep (ws ++ w', b', pl') = _
    rw [lw_pre t (ws ++ w') b' pl', lw_pre t w' b' pl']
    simp [List.append_assoc]
noncomputable def contF (n : Nat) : RR → Except Str (List Str)
  | .out tok q fin rest' => if isEnd true q tok = true then .ok [] else (match wordsF true false n (stOf fin) rest' with
      | .ok ws => .ok (tok :: ws)
      | .error e => .error e)
  | .noClose => .error (Str.ofString "No closing quotation")
  | .noEsc => .error (Str.ofString "No escaped character")
theorem cont_out (n : Nat) (tok : Str) (q fin : Bool) (rest' : List Nat) : contF n (.out tok q fin rest') = if isEnd true q tok = true then .ok [] else (match wordsF true false n (stOf fin) rest' with
      | .ok ws => .ok (tok :: ws)
      | .error e => .error e) := rfl
theorem words_cont (n : Nat) (st : SS) (rest : List Nat) : wordsF true false (n + 1) st rest = contF n (rt true false st (Str.ofString "") false rest) := by
  conv => lhs; unfold wordsF
  cases rt true false st (Str.ofString "") false rest <;> rfl
noncomputable def RF (b : Option Str) (pl : Option Nat) (t : List Nat) : Except Str (List Str) :=
  if (t.foldl lwStep ([], b, pl)).2.2 = none then .ok (lwEnd (t.foldl lwStep ([], b, pl))) else .error (Str.ofString "No closing quotation")
theorem RF_cons {b b' : Option Str} {pl pl' : Option Nat} {c : Nat} {r : List Nat} (h : lwStep ([], b, pl) c = ([], b', pl')) : RF b pl (c :: r) = RF b' pl' r := by
  unfold RF
  rw [List.foldl_cons, h]
theorem none_app (x : Str) : Str.ofString "" ++ x = x := by
  refine Str.ext' (Array.toList_inj.mp ?_)
  rw [Str.cps_append, Array.toList_append, show (Str.ofString "").cps.toList = [] by decide +kernel, List.nil_append]
theorem end_no {q : Bool} {tok : Str} (h : tok.length ≠ 0 ∨ q = true) : isEnd true q tok = false := by
  unfold isEnd
  rcases h with h | h
  · have : tok ≠ Str.ofString "" := fun e => h (by rw [e]; exact len_none)
    simp [this]
  · simp [h]
theorem words_dn (n : Nat) : wordsF true false (n + 1) .dn [] = .ok [] := wordsF_end rt_dn (by decide +kernel)
theorem lwEnd_cons (x : Str) (s : LwS) : lwEnd (x :: s.1, s.2) = x :: lwEnd s := by
  obtain ⟨ws, b, pl⟩ := s
  cases b <;> rfl
theorem main : ∀ (t : List Nat), (∀ c ∈ t, c ≠ 92) → ∀ n, t.length < n →
    contF n (rt true false .sp (Str.ofString "") false t) = RF none none t ∧
    (∀ tok q, (tok.length ≠ 0 ∨ q = true) → contF n (rt true false .wd tok q t) = RF (some tok) none t) ∧
    (∀ d tok q, isQt d = true → contF n (rt true false (.qt d) tok q t) = RF (some tok) (some d) t) := by
  intro t
  induction t with
  | nil =>
    intro _ n hn
    obtain ⟨m, rfl⟩ : ∃ m, n = m + 1 := ⟨n - 1, by have : 0 < n := hn; omega⟩
    refine ⟨?_, fun tok q h => ?_, fun d tok q h => ?_⟩
    · rw [rt_sp_nil]
      rw [cont_out]
      rw [if_pos (show isEnd true false (Str.ofString "") = true by decide +kernel)]
      rfl
    · rw [rt_wd_nil]
      rw [cont_out]
      rw [end_no h, if_neg (by decide)]
      show (match wordsF true false (m + 1) .dn [] with | .ok ws => Except.ok (tok :: ws) | .error e => .error e) = _
      rw [words_dn]
      rfl
    · rw [rt_qt_nil]
      rfl
  | cons c r ih =>
    intro hb n hn
    have hb' : ∀ c ∈ r, c ≠ 92 := fun x hx => hb x (.tail _ hx)
    have h92 : (c == 92) = false := by simpa using hb c (.head _)
    have hcm : (false && c == 35) = false := rfl
    have hn' : r.length + 1 < n := hn
    obtain ⟨i1, i2, i3⟩ := ih hb' n (by omega)
    refine ⟨?_, fun tok q h => ?_, fun d tok q h => ?_⟩
    · by_cases hw : isWs c = true
      · rw [rt_sp_ws hw, i1, RF_cons (b' := none) (pl' := none)]
        show lwStep ([], none, none) c = _
        rw [lw_none]
        rw [if_pos hw]
      · have hw' : isWs c = false := by simpa using hw
        by_cases hq : isQt c = true
        · rw [rt_sp_qt1 hw' hcm rfl h92 hq, i3 c _ _ hq, RF_cons (b' := some (Str.ofString "")) (pl' := some c)]
          show lwStep ([], none, none) c = _
          rw [lw_none]
          rw [if_neg hw, if_pos hq]
          rfl
        · have hq' : isQt c = false := by simpa using hq
          rw [rt_sp_wd hw' hcm (by rw [h92]; rfl) hq', i2 _ _ (.inl (by rw [len_sg]; decide)), RF_cons (b' := some (sg c)) (pl' := none)]
          show lwStep ([], none, none) c = _
          rw [lw_none]
          rw [if_neg hw, if_neg hq]
          show ([], some (Str.ofString "" ++ sg c), none) = _
          rw [none_app]
    · by_cases hw : isWs c = true
      · rw [rt_wd_ws hw]
        rw [cont_out]
        rw [end_no h, if_neg (by decide)]
        obtain ⟨m, rfl⟩ : ∃ m, n = m + 1 := ⟨n - 1, by omega⟩
        show (match wordsF true false (m + 1) .sp r with | .ok ws => Except.ok (tok :: ws) | .error e => .error e) = _
        rw [words_cont, (ih hb' m (by omega)).1]
        have hs : lwStep ([], some tok, none) c = ([tok], none, none) := by
          rw [lw_none]
          rw [if_pos hw]
          rfl
        unfold RF
        rw [List.foldl_cons, hs, lw_pre r [tok] none none]
        by_cases hp : (r.foldl lwStep ([], none, none)).2.2 = none
        · rw [if_pos hp, if_pos hp]
          exact congrArg Except.ok (lwEnd_cons tok _).symm
        · rw [if_neg hp, if_neg hp]
      · have hw' : isWs c = false := by simpa using hw
        by_cases hq : isQt c = true
        · rw [rt_wd_qt hw' hcm rfl hq, i3 c _ _ hq, RF_cons (b' := some tok) (pl' := some c)]
          rw [lw_none]
          rw [if_neg hw, if_pos hq]
          rfl
        · have hq' : isQt c = false := by simpa using hq
          rw [rt_wd_wd1 hw' hcm hq' h92, i2 _ _ (.inl (by rw [len_app, len_sg]; omega)), RF_cons (b' := some (tok ++ sg c)) (pl' := none)]
          rw [lw_none]
          rw [if_neg hw, if_neg hq]
          rfl
    · by_cases hc : c = d
      · rw [rt_qt_end1 (by simpa using hc) rfl, i2 _ _ (.inr rfl), RF_cons (b' := some tok) (pl' := none)]
        rw [lw_some]
        rw [if_pos hc]
      · rw [rt_qt_in (by simpa using hc) (by rw [h92]; rfl), i3 d _ _ h, RF_cons (b' := some (tok ++ sg c)) (pl' := some d)]
        rw [lw_some]
        rw [if_neg hc]
        rfl
theorem words_plain {t : List Nat} (h : ∀ c ∈ t, c ≠ 92) : wordsF true false (t.length + 2) .sp t = if dS 0 t = 0 then .ok (lwF t) else .error (Str.ofString "No closing quotation") := by
  rw [words_cont, (main t h (t.length + 1) (Nat.lt_succ_self _)).1]
  unfold RF
  rw [lw_place t ([], none, none) 0 (by decide) rfl]
  have hlt := dS_lt t (p := 0) (by decide)
  have : dS 0 t = 0 ∨ dS 0 t = 1 ∨ dS 0 t = 2 := by omega
  rcases this with e | e | e
  · rw [e, if_pos (show plOf 0 = none from rfl), if_pos rfl]; rfl
  · rw [e, if_neg (by decide), if_neg (by decide)]
  · rw [e, if_neg (by decide), if_neg (by decide)]
end
section
noncomputable def GoodC (z : Nat) : Prop := z ≠ 92 ∧ z ≠ 48 ∧ z ≠ 49 ∧ z < 1114112
theorem sg_cps (c : Nat) : (sg c).cps.toList = [c] := rfl
theorem none_cps : (Str.ofString "").cps.toList = [] := by decide +kernel
theorem sign_good {k c : Int} (h0 : 0 ≤ c) (h1 : c < 1112064) : ∀ z ∈ (signF k c).cps.toList, GoodC z := by
  intro z hz
  have hz0 : (if c < 55296 then c else c + 2048).toNat < 1114112 := by split <;> omega
  unfold signF at hz
  dsimp only at hz
  generalize (if c < 55296 then c else c + 2048).toNat = z0 at hz hz0
  split at hz
  · split at hz
    · rw [sg_cps, List.mem_singleton] at hz
      subst hz
      exact ⟨by decide, by decide, by decide, by decide⟩
    · rename_i hn
      rw [sg_cps, List.mem_singleton] at hz
      subst hz
      exact ⟨fun e => hn (.inl e), fun e => hn (.inr (.inl e)), fun e => hn (.inr (.inr e)), hz0⟩
  · repeat' split at hz
    all_goals first
      | (rw [sg_cps, List.mem_singleton] at hz; subst hz; exact ⟨by decide, by decide, by decide, by decide⟩)
      | (rw [none_cps] at hz; exact absurd hz (by simp))
theorem cat_mem {ws : List Str} {z : Nat} (h : z ∈ (catF ws).cps.toList) : ∃ x ∈ ws, z ∈ x.cps.toList := by
  rw [cat_cps] at h
  obtain ⟨l, hl, hz⟩ := List.mem_flatten.mp h
  obtain ⟨x, hx, rfl⟩ := List.mem_map.mp hl
  exact ⟨x, hx, hz⟩
theorem fst_good (ns : List Int) : ∀ z ∈ (fstF ns).cps.toList, GoodC z := fun z hz => by
  obtain ⟨x, hx, hz⟩ := cat_mem hz
  obtain ⟨y, hy, rfl⟩ := List.mem_map.mp hx
  have := code_rng (nums_lt hy)
  exact sign_good this.1 this.2 z hz
theorem snd_good (ns : List Int) : ∀ z ∈ (sndF ns).cps.toList, GoodC z := fun z hz => by
  obtain ⟨x, hx, hz⟩ := cat_mem hz
  obtain ⟨y, hy, rfl⟩ := List.mem_map.mp hx
  have := code_rng (nums_lt (List.mem_of_mem_take hy))
  exact sign_good this.1 this.2 z hz
theorem trd_good (ns : List Int) : ∀ z ∈ (trdF ns).cps.toList, GoodC z := fun z hz => by
  obtain ⟨x, hx, hz⟩ := cat_mem hz
  obtain ⟨y, hy, rfl⟩ := List.mem_map.mp hx
  have := code_rng (nums_lt (List.mem_of_mem_take hy))
  exact sign_good this.1 this.2 z hz
noncomputable def putL (ns : List Int) (c : Nat) : List Nat := if c = 39 then (sndF ns).cps.toList else if c = 34 then (trdF ns).cps.toList else [c]
theorem fth_cps (ns : List Int) : (fthF ns).cps.toList = (fstF ns).cps.toList.flatMap (putL ns) := by
  rw [fthF, cat_cps, List.map_map, List.flatMap_def]
  congr 1
  refine List.map_congr_left fun c _ => ?_
  show (if c = 39 then sndF ns else if c = 34 then trdF ns else sg c).cps.toList = _
  unfold putL
  split
  · rfl
  · split <;> rfl
theorem fth_good (ns : List Int) : ∀ z ∈ (fthF ns).cps.toList, GoodC z := fun z hz => by
  rw [fth_cps] at hz
  obtain ⟨c, hc, hz⟩ := List.mem_flatMap.mp hz
  unfold putL at hz
  split at hz
  · exact snd_good ns z hz
  · split at hz
    · exact trd_good ns z hz
    · rw [List.mem_singleton] at hz
      subst hz
      exact fst_good ns _ hc
theorem rev_cps (x : Str) : (revF x).cps.toList = x.cps.toList.reverse := by
  rw [revF, cat_cps, List.map_map]
  have : ∀ l : List Nat, (l.map ((fun x : Str => x.cps.toList) ∘ sg)).flatten = l := by
    intro l
    induction l with
    | nil => rfl
    | cons a r ih => simp only [List.map_cons, List.flatten_cons, ih]; rfl
  exact this _
/-- the marks as signs -/
noncomputable def mkL (p : Nat) : List Nat := (MK.getD p (Str.ofString "")).cps.toList
theorem mkL_0 : mkL 0 = [] := by decide +kernel
theorem mkL_1 : mkL 1 = [39] := by decide +kernel
theorem mkL_2 : mkL 2 = [34] := by decide +kernel
theorem dS_mk {p : Nat} (h : p < 3) : dS 0 (mkL p) = p := by
  have : p = 0 ∨ p = 1 ∨ p = 2 := by omega
  rcases this with rfl | rfl | rfl
  · rw [mkL_0]; rfl
  · rw [mkL_1]; rfl
  · rw [mkL_2]; rfl
theorem dS_mk2 {q e : Nat} (hq : q < 3) (he : e < 3) : dS q (mkL e) = 0 ↔ q = e := by
  have h1 : q = 0 ∨ q = 1 ∨ q = 2 := by omega
  have h2 : e = 0 ∨ e = 1 ∨ e = 2 := by omega
  rcases h2 with rfl | rfl | rfl
  · rw [mkL_0]; exact Iff.rfl
  · rw [mkL_1]; rcases h1 with rfl | rfl | rfl <;> decide
  · rw [mkL_2]; rcases h1 with rfl | rfl | rfl <;> decide
theorem mkL_good {e : Nat} (he : e < 3) : ∀ z ∈ mkL e, z ≠ 92 ∧ z < 1114112 := by
  have h2 : e = 0 ∨ e = 1 ∨ e = 2 := by omega
  rcases h2 with rfl | rfl | rfl
  · rw [mkL_0]; decide
  · rw [mkL_1]; decide
  · rw [mkL_2]; decide
theorem ok_app {a b : Str} (h1 : PyData.strOk a = true) (h2 : PyData.strOk b = true) : PyData.strOk (a ++ b) = true := by
  unfold PyData.strOk at *
  rw [Str.cps_append, Array.all_append, h1, h2]
  rfl
theorem ok_none : PyData.strOk (Str.ofString "") = true := by decide +kernel
theorem ok_sg {c : Nat} (h : c < 1114112) : PyData.strOk (sg c) = true := by
  unfold PyData.strOk
  simp [sg]
  omega
theorem ok_getD {b : Option Str} (h : ∀ x, b = some x → PyData.strOk x = true) : PyData.strOk (b.getD (Str.ofString "")) = true := by
  cases b with
  | none => exact ok_none
  | some x => exact h x rfl
theorem lw_ok : ∀ (t : List Nat) (s : LwS), (∀ c ∈ t, c < 1114112) → StrsOk s.1 → (∀ x, s.2.1 = some x → PyData.strOk x = true) → StrsOk (lwEnd (t.foldl lwStep s))
  | [], (ws, b, pl), _, h1, h2 => by
    cases b with
    | none => exact h1
    | some x =>
      intro y hy
      rcases List.mem_append.mp hy with h | h
      · exact h1 y h
      · rw [List.mem_singleton.mp h]; exact h2 x rfl
  | c :: t, (ws, b, pl), hc, h1, h2 => by
    have hc1 := hc c (.head _)
    have hct : ∀ c ∈ t, c < 1114112 := fun x hx => hc x (.tail _ hx)
    show StrsOk (lwEnd (t.foldl lwStep (lwStep (ws, b, pl) c)))
    have hg := ok_getD (b := b) h2
    cases pl with
    | some q =>
      rw [lw_some]
      split
      · exact lw_ok t _ hct h1 h2
      · exact lw_ok t _ hct h1 fun x hx => by
          injection hx with hx
          subst hx
          exact ok_app hg (ok_sg hc1)
    | none =>
      rw [lw_none]
      split
      · cases b with
        | none => exact lw_ok t _ hct h1 (fun x hx => by cases hx)
        | some y =>
          refine lw_ok t _ hct (fun z hz => ?_) (fun x hx => by cases hx)
          rcases List.mem_append.mp hz with h | h
          · exact h1 z h
          · rw [List.mem_singleton.mp h]; exact h2 y rfl
      · split
        · exact lw_ok t _ hct h1 fun x hx => by
            injection hx with hx
            subst hx
            exact hg
        · exact lw_ok t _ hct h1 fun x hx => by
            injection hx with hx
            subst hx
            exact ok_app hg (ok_sg hc1)
theorem lwF_ok {t : List Nat} (h : ∀ c ∈ t, c < 1114112) : StrsOk (lwF t) := lw_ok t ([], none, none) h (fun _ h => nomatch h) fun _ h => nomatch h
theorem whole_cps (x : Str) (p e : Nat) : (wholeF x p e).cps.toList = mkL p ++ x.cps.toList ++ mkL e := by
  unfold wholeF mkL
  rw [Str.cps_append, Array.toList_append, Str.cps_append, Array.toList_append]
theorem good_whole {t : List Nat} {p e : Nat} (hp : p < 3) (he : e < 3) (ht : ∀ z ∈ t, GoodC z) : ∀ z ∈ mkL p ++ t ++ mkL e, z ≠ 92 ∧ z < 1114112 := fun z hz => by
  rcases List.mem_append.mp hz with h | h
  · rcases List.mem_append.mp h with h | h
    · exact mkL_good hp z h
    · exact ⟨(ht z h).1, (ht z h).2.2.2⟩
  · exact mkL_good he z h
theorem holds_of {x : Str} {mv : List Int} (hx : ∀ z ∈ x.cps.toList, GoodC z) (hm : ∀ p : Nat, p < 3 → mv.getD p 0 = (dS p x.cps.toList : Int)) : HoldsOk x mv := by
  intro p e hp he
  have hg := good_whole (t := x.cps.toList) hp he hx
  rw [len_cps, whole_cps]
  refine ⟨lwF_ok fun c hc => (hg c hc).2, ?_⟩
  rw [words_plain fun c hc => (hg c hc).1, dS_app, dS_app, dS_mk hp, hm p hp]
  have hq := dS_lt x.cps.toList hp
  by_cases h : dS p x.cps.toList = e
  · rw [if_pos ((dS_mk2 hq he).mpr h), if_pos (by rw [h])]
  · rw [if_neg fun h' => h ((dS_mk2 hq he).mp h'), if_neg (by omega)]
/-- a move's fold is the places' walk -/
theorem mv_fold {s1 s2 : List Int} {f : Nat → List Nat} (hf : ∀ c p : Nat, p < 3 → (if c = 39 then s1.getD p 0 else if c = 34 then s2.getD p 0 else (p : Int)) = (dS p (f c) : Int)) :
    ∀ (t : List Nat) (l : List Nat), (∀ p ∈ l, p < 3) → t.foldl (mvStep s1 s2) (l.map fun (p : Nat) => (p : Int)) = l.map fun (p : Nat) => ((dS p (t.flatMap f) : Nat) : Int)
  | [], l, _ => rfl
  | c :: t, l, hl => by
    have h1 : mvStep s1 s2 (l.map fun (p : Nat) => (p : Int)) c = (l.map fun p => dS p (f c)).map fun (p : Nat) => (p : Int) := by
      rw [List.map_map]
      unfold mvStep
      by_cases c1 : c = 39
      · rw [if_pos c1, List.map_map]
        refine List.map_congr_left fun p hp => ?_
        have := hf c p (hl p hp)
        rw [if_pos c1] at this
        exact this
      · rw [if_neg c1]
        by_cases c2 : c = 34
        · rw [if_pos c2, List.map_map]
          refine List.map_congr_left fun p hp => ?_
          have := hf c p (hl p hp)
          rw [if_neg c1, if_pos c2] at this
          exact this
        · rw [if_neg c2]
          refine List.map_congr_left fun p hp => ?_
          have := hf c p (hl p hp)
          rw [if_neg c1, if_neg c2] at this
          exact this
    rw [List.foldl_cons, h1, mv_fold hf t _ (fun q hq => by
      obtain ⟨p, hp, rfl⟩ := List.mem_map.mp hq
      exact dS_lt _ (hl p hp)), List.map_map]
    refine List.map_congr_left fun p _ => ?_
    show ((dS (dS p (f c)) (t.flatMap f) : Nat) : Int) = _
    rw [List.flatMap_cons, dS_app]
theorem mv_base (t : List Nat) : mvF [1, 0, 2] [2, 1, 0] t = [(dS 0 t : Int), (dS 1 t : Int), (dS 2 t : Int)] := by
  have := mv_fold (s1 := [1, 0, 2]) (s2 := [2, 1, 0]) (f := fun c => [c]) (fun c p hp => by
    have h : p = 0 ∨ p = 1 ∨ p = 2 := by omega
    show _ = ((dl p c : Nat) : Int)
    unfold dl
    rcases h with rfl | rfl | rfl <;> (by_cases c1 : c = 39 <;> by_cases c2 : c = 34 <;> simp_all)) t [0, 1, 2] (by decide)
  rw [show t.flatMap (fun c => [c]) = t by simp] at this
  exact this
theorem mv1_at (ns : List Int) {p : Nat} (hp : p < 3) : (mv1F ns).getD p 0 = (dS p (sndF ns).cps.toList : Int) := by
  have h : p = 0 ∨ p = 1 ∨ p = 2 := by omega
  unfold mv1F
  rw [mv_base]
  rcases h with rfl | rfl | rfl <;> rfl
theorem mv2_at (ns : List Int) {p : Nat} (hp : p < 3) : (mv2F ns).getD p 0 = (dS p (trdF ns).cps.toList : Int) := by
  have h : p = 0 ∨ p = 1 ∨ p = 2 := by omega
  unfold mv2F
  rw [mv_base]
  rcases h with rfl | rfl | rfl <;> rfl
theorem mv_all (ns : List Int) : mvFF ns = [(dS 0 (fthF ns).cps.toList : Int), (dS 1 (fthF ns).cps.toList : Int), (dS 2 (fthF ns).cps.toList : Int)] := by
  have := mv_fold (s1 := mv1F ns) (s2 := mv2F ns) (f := putL ns) (fun c p hp => by
    unfold putL
    by_cases c1 : c = 39
    · rw [if_pos c1, if_pos c1, mv1_at ns hp]
    · rw [if_neg c1, if_neg c1]
      by_cases c2 : c = 34
      · rw [if_pos c2, if_pos c2, mv2_at ns hp]
      · rw [if_neg c2, if_neg c2]
        show _ = ((dl p c : Nat) : Int)
        unfold dl
        rw [if_neg c1, if_neg c2]) (fstF ns).cps.toList [0, 1, 2] (by decide)
  rw [← fth_cps] at this
  exact this
theorem mv_at (ns : List Int) {p : Nat} (hp : p < 3) : (mvFF ns).getD p 0 = (dS p (fthF ns).cps.toList : Int) := by
  have h : p = 0 ∨ p = 1 ∨ p = 2 := by omega
  rw [mv_all]
  rcases h with rfl | rfl | rfl <;> rfl
theorem hh1 (ns : List Int) : HoldsOk (sndF ns) (mv1F ns) := holds_of (snd_good ns) fun _ hp => mv1_at ns hp
theorem hh2 (ns : List Int) : HoldsOk (trdF ns) (mv2F ns) := holds_of (trd_good ns) fun _ hp => mv2_at ns hp
theorem hh3 (ns : List Int) : HoldsOk (fthF ns) (mvFF ns) := holds_of (fth_good ns) fun _ hp => mv_at ns hp
theorem hprm (ns : List Int) : ∀ j : Nat, j < 3 → (j : Int) ∈ mvFF ns := fun j hj => by
  have h1 := dS_lt (fthF ns).cps.toList.reverse hj
  have h2 := dS_rev' (fthF ns).cps.toList hj
  have h : dS j (fthF ns).cps.toList.reverse = 0 ∨ dS j (fthF ns).cps.toList.reverse = 1 ∨ dS j (fthF ns).cps.toList.reverse = 2 := by omega
  rw [mv_all]
  rcases h with h | h | h <;> (rw [h] at h2; rw [h2]; simp)
end
section
theorem idx3 : ∀ a b c p q : Fin 3, a ≠ b → a ≠ c → b ≠ c → ([a, b, c].getD q.val 0) = p → ([(a.val : Int), (b.val : Int), (c.val : Int)].idxOf (p.val : Int)) = q.val := by decide +kernel
theorem six3 : ∀ a b c p : Fin 3, a ≠ b → a ≠ c → b ≠ c → (let f := fun x : Fin 3 => [a, b, c].getD x.val 0; f (f (f (f (f (f p))))) = p) := by decide +kernel
theorem dS_inj (t : List Nat) {p q : Nat} (hp : p < 3) (hq : q < 3) (h : dS p t = dS q t) : p = q := by
  rw [← dS_rev t hp, ← dS_rev t hq, h]
noncomputable def fF (t : List Nat) (p : Fin 3) : Fin 3 := ⟨dS p.val t, dS_lt t p.isLt⟩
theorem fF_ne (t : List Nat) {p q : Fin 3} (h : p ≠ q) : fF t p ≠ fF t q := fun e => h (Fin.ext (dS_inj t p.isLt q.isLt (congrArg Fin.val e)))
theorem fF_get (t : List Nat) (p : Fin 3) : [fF t 0, fF t 1, fF t 2].getD p.val 0 = fF t p := by
  have : p = 0 ∨ p = 1 ∨ p = 2 := by
    have := p.isLt
    rcases (show p.val = 0 ∨ p.val = 1 ∨ p.val = 2 by omega) with h | h | h
    · exact .inl (Fin.ext h)
    · exact .inr (.inl (Fin.ext h))
    · exact .inr (.inr (Fin.ext h))
  rcases this with rfl | rfl | rfl <;> rfl
theorem inv_is (ns : List Int) {p : Nat} (hp : p < 3) : (invF (mvFF ns)).getD p 0 = (dS p (fthF ns).cps.toList.reverse : Int) := by
  have h0 : (invF (mvFF ns)).getD p 0 = (((mvFF ns).idxOf (p : Int) : Nat) : Int) := by
    have h : p = 0 ∨ p = 1 ∨ p = 2 := by omega
    rcases h with rfl | rfl | rfl <;> rfl
  rw [h0, mv_all]
  have h1 := dS_lt (fthF ns).cps.toList.reverse hp
  have h2 := dS_rev' (fthF ns).cps.toList hp
  have := idx3 (fF (fthF ns).cps.toList 0) (fF (fthF ns).cps.toList 1) (fF (fthF ns).cps.toList 2) ⟨p, hp⟩ ⟨dS p (fthF ns).cps.toList.reverse, h1⟩ (fF_ne _ (by decide)) (fF_ne _ (by decide)) (fF_ne _ (by decide))
    (by rw [fF_get]; exact Fin.ext h2)
  exact congrArg (fun n : Nat => (n : Int)) this
theorem hh4 (ns : List Int) : HoldsOk (revF (fthF ns)) (invF (mvFF ns)) := by
  refine holds_of (fun z hz => ?_) fun p hp => ?_
  · rw [rev_cps] at hz
    exact fth_good ns z (List.mem_reverse.mp hz)
  · rw [rev_cps]
    exact inv_is ns hp
theorem dS_six (t : List Nat) {p : Nat} (hp : p < 3) : dS p (List.replicate 6 t).flatten = p := by
  have e : (List.replicate 6 t).flatten = t ++ (t ++ (t ++ (t ++ (t ++ t)))) := by simp [List.replicate]
  rw [e]
  simp only [dS_app]
  have := six3 (fF t 0) (fF t 1) (fF t 2) ⟨p, hp⟩ (fF_ne _ (by decide)) (fF_ne _ (by decide)) (fF_ne _ (by decide))
  dsimp only at this
  rw [show [fF t 0, fF t 1, fF t 2].getD p 0 = fF t ⟨p, hp⟩ from fF_get t ⟨p, hp⟩] at this
  simp only [fF_get] at this
  exact congrArg Fin.val this
theorem ar_cps (x : Str) (k : Nat) : (arF x k).cps.toList = mkL k ++ (List.replicate 6 x.cps.toList).flatten ++ mkL k := by
  unfold arF mkL
  rw [Str.cps_append, Array.toList_append, Str.cps_append, Array.toList_append, rep6_cps]
theorem hla (ns : List Int) : ∀ k : Nat, k < 3 → StrsOk (lwF (arF (fthF ns) k).cps.toList) ∧ wordsF true false ((arF (fthF ns) k).length + 2) .sp (arF (fthF ns) k).cps.toList = .ok (lwF (arF (fthF ns) k).cps.toList) := by
  intro k hk
  have hg := good_whole (t := (List.replicate 6 (fthF ns).cps.toList).flatten) hk hk fun z hz => by
    obtain ⟨l, hl, hz⟩ := List.mem_flatten.mp hz
    rw [(List.mem_replicate.mp hl).2] at hz
    exact fth_good ns z hz
  rw [len_cps, ar_cps]
  refine ⟨lwF_ok fun c hc => (hg c hc).2, ?_⟩
  rw [words_plain fun c hc => (hg c hc).1, dS_app, dS_app, dS_mk hk, dS_six _ hk, if_pos ((dS_mk2 hk hk).mpr rfl)]
theorem free_flat {c : Nat} {z : Str} {l : List Nat} (h : c ∉ l) : (l.flatMap fun d => if d = c then z.cps.toList else [d]) = l := by
  induction l with
  | nil => rfl
  | cons a r ih =>
    have h1 : a ≠ c := fun e => h (by rw [e]; exact .head _)
    have h2 := ih fun hm => h (.tail _ hm)
    rw [List.flatMap_cons, h2, if_neg h1]
    rfl
theorem flat_congr {l : List Nat} {f g : Nat → List Nat} (h : ∀ d ∈ l, f d = g d) : l.flatMap f = l.flatMap g := by
  induction l with
  | nil => rfl
  | cons a r ih => rw [List.flatMap_cons, List.flatMap_cons, h a (.head _), ih fun d hd => h d (.tail _ hd)]
/-- one pair of replace, sign by sign -/
theorem join_flat (c : Nat) (z : Str) : ∀ parts : List Str, (∀ p ∈ parts, c ∉ p.cps.toList) → (Str.join z parts).cps.toList = (Str.join ⟨#[c]⟩ parts).cps.toList.flatMap fun d => if d = c then z.cps.toList else [d]
  | [], _ => rfl
  | [x], h => by
    have hx := h x (.head _)
    show x.cps.toList = x.cps.toList.flatMap _
    exact (free_flat hx).symm
  | x :: y :: r, h => by
    have hx := h x (.head _)
    have ih := join_flat c z (y :: r) fun p hp => h p (.tail _ hp)
    show (x ++ z ++ Str.join z (y :: r)).cps.toList = (x ++ ⟨#[c]⟩ ++ Str.join ⟨#[c]⟩ (y :: r)).cps.toList.flatMap _
    rw [Str.cps_append, Array.toList_append, Str.cps_append, Array.toList_append, Str.cps_append, Array.toList_append, Str.cps_append, Array.toList_append, List.flatMap_append, List.flatMap_append, ih, free_flat hx]
    simp
theorem rep_flat (x z : Str) (c : Nat) : (repl1 x (sg c, z)).cps.toList = x.cps.toList.flatMap fun d => if d = c then z.cps.toList else [d] := by
  show (Txt.join z (Txt.split x (sg c))).cps.toList = _
  unfold Txt.join
  rw [StrLaws.glued_eq_join, show sg c = ⟨#[c]⟩ from rfl, join_flat c z _ (StrLaws.split_free x c), StrLaws.join_split]
theorem ofS_0 : Str.ofString "0" = sg 48 := by decide +kernel
theorem ofS_1 : Str.ofString "1" = sg 49 := by decide +kernel
theorem flat_id {l : List Nat} {f : Nat → List Nat} (h : ∀ d ∈ l, f d = [d]) : l.flatMap f = l := by
  induction l with
  | nil => rfl
  | cons a r ih => rw [List.flatMap_cons, h a (.head _), ih fun d hd => h d (.tail _ hd)]; rfl
theorem hrep (ns : List Int) : replF (fstF ns) (repPs ns) = fthF ns := by
  refine Str.ext' (Array.toList_inj.mp ?_)
  unfold repPs
  rw [ofS_sq, ofS_dq, ofS_0, ofS_1]
  show (repl1 (repl1 (repl1 (repl1 (fstF ns) (sg 39, sg 48)) (sg 34, sg 49)) (sg 48, sndF ns)) (sg 49, trdF ns)).cps.toList = _
  rw [rep_flat, rep_flat, rep_flat, rep_flat, fth_cps, List.flatMap_assoc, List.flatMap_assoc, List.flatMap_assoc]
  refine flat_congr fun c hc => ?_
  have hg := fst_good ns c hc
  have hs : ((sndF ns).cps.toList.flatMap fun d => if d = 49 then (trdF ns).cps.toList else [d]) = (sndF ns).cps.toList := flat_id fun d hd => if_neg (snd_good ns d hd).2.2.1
  unfold putL
  by_cases c1 : c = 39
  · subst c1
    simp [sg_cps, hs]
  · by_cases c2 : c = 34
    · subst c2
      simp [sg_cps]
    · simp [c1, c2, hg.2.1, hg.2.2.1]
theorem flat_len {l : List Nat} {f : Nat → List Nat} {k : Nat} (h : ∀ d, (f d).length ≤ k) : (l.flatMap f).length ≤ l.length * k := by
  induction l with
  | nil => simp
  | cons a r ih =>
    have := h a
    rw [List.flatMap_cons, List.length_append, List.length_cons, Nat.add_mul]
    omega
theorem rep_len (x z : Str) (c : Nat) {k : Nat} (hk : 1 ≤ k) (hz : z.length ≤ k) : (repl1 x (sg c, z)).length ≤ x.length * k := by
  rw [len_cps, rep_flat, len_cps x]
  refine flat_len fun d => ?_
  split
  · rw [← len_cps]; exact hz
  · exact hk
theorem hrok (ns : List Int) : RepOk (fstF ns) (repPs ns) := by
  unfold repPs
  rw [ofS_sq, ofS_dq, ofS_0, ofS_1]
  have h0 := fst_len ns
  have hs := snd_len ns
  have ht := trd_len ns
  have h1 := rep_len (fstF ns) (sg 48) 39 (k := 1) (by decide) (by decide)
  have h2 := rep_len (repl1 (fstF ns) (sg 39, sg 48)) (sg 49) 34 (k := 1) (by decide) (by decide)
  have h3 := rep_len (repl1 (repl1 (fstF ns) (sg 39, sg 48)) (sg 34, sg 49)) (sndF ns) 48 (k := 3) (by decide) hs
  have h4 := rep_len (repl1 (repl1 (repl1 (fstF ns) (sg 39, sg 48)) (sg 34, sg 49)) (sg 48, sndF ns)) (trdF ns) 49 (k := 3) (by decide) ht
  refine ⟨by omega, by decide, by decide, by omega, by decide, by decide, by omega, (by decide : 1 ≠ 0), ?_, by omega, (by decide : 1 ≠ 0), ?_, by show _ < _; omega⟩
  · show (sndF ns).length < 8; omega
  · show (trdF ns).length < 8; omega
end
section
local macro_rules | `(tactic| walk_at "exec If") => `(tactic| (k_here; k_fold))
local macro_rules | `(tactic| walk_at "execs cons") => `(tactic| (k_here; k_fold))
local macro_rules | `(tactic| walk_at "CompSrc") => `(tactic| (refine Hold.out ?_))
local macro_rules | `(tactic| walk_at "subscriptTail Name Slice ref ref") => `(tactic| (k_here; (with_reducible show wpAny _ _ (subscriptTail (Expr.Name (Str.ofString "numbers") _) _ (Value.ref _) (Value.ref _)) _ _ _); k_dflt (refine' slice_3 ?F ?N ?hm ?hi ?hz ?_ ?s ?t; (case F | N => k_asm); (case hm => exact List.mem_cons_self); (case hi | hz => assumption); (case s => with_unfolding_all rfl); (case t => exact fun _ => rfl)); intro D' ws' h' F' N' l1 hI'))
local macro_rules | `(tactic| walk_at "compareOp Eq str str") => `(tactic| (k_here; (with_reducible show wpAny _ _ (compareOp _ (Value.str (sg _) _) (Value.str (Str.ofString _) _)) _ _ _); first | refine eq_lit ofS_sq ?_ | refine eq_lit ofS_dq ?_))
local macro_rules | `(tactic| walk_at "call ref") => `(tactic| (k_here; (with_reducible show wpAny _ _ (call (Value.ref 774) _) _ _ _); k_dflt (refine' ctrS_top (holds_i ?hb ?hm ?hi ?hv ?hl) ?k1 ?k2 ?k3 ?k4 ?k5 ?kK ?kd ?ku ?_; (case k1 => assumption); (case k2 | k3 | k4 | k5 => k_asm); (case kK => first | exact rfl | assumption); (case hb => assumption); (case hm => (repeat (first | exact List.mem_cons_self | assumption | apply List.mem_cons_of_mem))); (case hi | hv | hl => assumption); (case kd => ktr_room); (case ku => ktr_units)); (intro v9 h9 tk9 n9 F9 N9 P9; (obtain ⟨e9, s9⟩ := P9); (subst e9); (replace N9 := News.drop9 N9 s9); (clear s9); (try k_fold))))
local macro_rules | `(tactic| walk_at "binaryOp Mult str int") => `(tactic| (k_here; (refine' mul6_C ?ka ?_); (case ka => assumption); intro _ _))
local macro_rules | `(tactic| walk_at "binaryOp Add str str") => `(tactic| (k_here; (refine' PyProof.Rows.add_str ?_ ?ka); (case ka => ((try simp only [len_app]); rw [show sizeLine = 2 ^ 24 from rfl]; omega)); intro _ _))
local macro_rules | `(tactic| walk_at $s:str) => wk "compareOp Eq ref ref;R;holdO|compareOp NotEq str str;R;ne_self|eval ListComp;R;holdO|exec Assign cons ListComp;R;holdO" s
theorem law0 : PySem.Challenge.rw_mj0242_04.Holds := by
  w_on
  refine holds_law said fun said' => ?_
  refine holds_open (q := hd.view_39) (loose := [Str.ofString "UnsupportedOperation", Str.ofString "IOBase", Str.ofString "BufferedIOBase", Str.ofString "TextIOBase", Str.ofString "BytesIO", Str.ofString "StringIO", Str.ofString "shlex", Str.ofString "split"]) (Xt := fun s => xlAt hd.view_39 [] s && recOk (RowW.records (OpenRow.toRowW PySem.Challenge.rw_mj0242_04.row)) s) (XP := XL hd.view_39 []) (Yf := Hook.obs (kHook hd.heap_39 kAs kAs_eq)) (Ya := Hook.val (kHook hd.heap_39 kAs kAs_eq)) (YP := Hook.says (kHook hd.heap_39 kAs kAs_eq)) (N := 10016) left (Hook.of _) (Hook.keeps _) (fun s e => xl_of s (Bool.and_eq_true_iff.mp e).1) XL.keeps (by rfl) (by rfl) (by rfl) (fun s e => recFacts_of (Bool.and_eq_true_iff.mp e).2) (by rfl) said' ok1 ⟨rfl, rfl, rfl, rfl, rfl, whole1⟩ ?hw ?hc
  case hw => w_witness2
  clear said'
  k_go0
  rename_i w s0 s1 mg mb G Y fa o pm doc ho hg KX X V GL T B TE TW w13 w12 M cdv w10 hcd ns hs hlay0 hL1 hr1 hl2 w8 w7 sl vs w4 hL ra w1 r0 hI hr hcond1 hcond K0 hD h1 tk1 F oM oF oT oS cM cF cT cS N0 X0
  have hgood : ∀ (h' : Heap) (tk' : Nat) (m' : Str → Option Value), Fr s1.heap s1.heap.objs.size h' m' → GoodW PySem.Challenge.rw_mj0242_04.row.claim (classAt s0.heap) (ExcName.means s0.heap) [ofPy (PyData.list (List.map PyData.int ns))] s1 (Except.ok (Flow.ret (.bool true))) { heap := h', gens := s1.gens, drawn := s1.drawn, toks := tk', os := s1.os } := by
    intro h' tk' m' F'
    clear F
    k_steps
  obtain ⟨m0, F0, hm0⟩ : ∃ m0, Fr s1.heap s1.heap.objs.size h1 m0 ∧ m0 (Str.ofString "script") = some (.ref sl) := ⟨_, F, rfl⟩
  have dM : oM.data = .cell none := cM
  have dF : oF.data = .cell none := cF
  have dT : oT.data = .cell none := cT
  have dS : oS.data = .cell none := cS
  have K1 : Below callerA s1.heap [] s1.heap := K0
  clear F cM cF cT cS X0 hD hcd G Y ho hg X V GL B TE TW M hs hlay0 hL1 hr1 hl2 ra w1 r0 hr hcond K0
  clear o pm doc w13 w12 w10 w8 w7 w4
  rw [one_m hm0] at F0
  clear hm0
  have hlen : ns.length ≤ 63 := by omega
  have hvl : vs.length ≤ 63 := by rw [hI.length]; exact hlen
  dsimp only
  have hpr := prog_here
  show wpAny (model PG w) _ _ _ _ _
  generalize hLs : s1.heap.objs.size = L at *
  refine cut (Be s1.heap L s1 (P1 L ns)) ?_ ?_
  · k_steps
    · trivial
    · refine be_intro _ (by k_asm) (by k_asm) sub1 ⟨_, _, _, oM, oF, oT, oS, rfl, ?_, rfl, ⟨by omega, by omega, by omega, by omega⟩, dM, dF, dT, dS⟩
      rw [drawn_nil (by assumption)]
      exact .cons _ _ (.cons _ _ (.cons _ _ .nil))
    · trivial
    · refine be_intro _ (by k_asm) (by k_asm) sub1 ⟨_, _, _, oM, oF, oT, oS, rfl, ?_, rfl, ⟨by omega, by omega, by omega, by omega⟩, dM, dF, dT, dS⟩
      rw [drawn_cons (by assumption)]
      assumption
  clear F0 N0 dM dF dT dS hL hI hcond1 hlen hvl
  rintro s' ⟨h2, tk2, m2, led, rfl, F2, N2, D, its, n, oM, oF, oT, oS, hm, hits, rfl, ⟨e1, e2, e3, e4⟩, dM, dF, dT, dS⟩
  rw [one_m hm] at F2
  clear hm
  refine cut (Be s1.heap L s1 (P2 L ns)) ?_ ?_
  · k_steps
    refine Hold.mk ?_
    refine LCg.Assign_ListComp_U F2 rfl (by with_unfolding_all rfl) (by with_unfolding_all rfl) (by decide) (by rfl) (by decide) (by rfl) (by rfl) (by rfl) ?_
    refine nameX_L F2 (by rfl) ?_
    refine LCg.CompSrc.ledger rfl F2 N2 (.head _) (size6 (by have := drawn_len ns; rw [ints_size hits]; omega)) fun g9 => comp_ind (fun i ys nw => nw = _ ∧ IntsAre ys (((drawnF ns).take i).map (Int.fmod · 569376768))) ⟨rfl, .nil⟩ ?_ ?_
    · rintro j ys nw v I9 oI C oC D9 m₉ h9 tk9 E' hj ⟨rfl, hys⟩ hv hC hx F9 N9 off ne
      obtain ⟨y, t9, hyj, rfl⟩ := ints_at hits hv
      k_steps
      refine comp_end (by k_asm) (by k_asm) (.head _) (.tail _ (.head _)) (.tail _ (.tail _ (.head _))) (fun p hp => .tail _ (.tail _ (.tail _ hp))) off (.inr ⟨_, .head _, rfl, _, rfl⟩) ⟨rfl, ?_⟩
      rw [List.take_add_one, hyj, Option.toList_some, List.map_append]
      exact ints_snoc hys
    · rintro ys nw ⟨rfl, hys⟩ D9 h9 tk9 F9 N9 off9
      rw [ints_size hits, List.take_length] at hys
      exact ⟨rfl, be_intro _ F9 N9 sub1 ⟨D9, _, _, oM, oF, oT, oS, rfl, hys, rfl, ⟨Ne.symm off9.2.1, Ne.symm off9.2.2.1, Ne.symm off9.2.2.2.1, Ne.symm off9.2.2.2.2.1⟩, dM, dF, dT, dS⟩⟩
  clear F2 N2 e1 e2 e3 e4 dM dF dT dS hits
  rintro s' ⟨h2, tk2, m2, led, rfl, F2, N2, D, its, n, oM, oF, oT, oS, hm, hits, rfl, ⟨e1, e2, e3, e4⟩, dM, dF, dT, dS⟩
  rw [one_m hm] at F2
  clear hm
  refine cut (Be s1.heap L s1 (P3 L ns)) ?_ ?_
  · k_steps
    refine Hold.mk ?_
    refine LCg.ListComp_U F2 (by with_unfolding_all rfl) (by decide) (by rfl) (by decide) (by rfl) ?_
    refine nameX_L F2 (by rfl) ?_
    refine LCg.CompSrc.ledger rfl F2 N2 (.head _) (size6 (by have := nums_len ns; rw [ints_size hits]; omega)) fun g9 => comp_ind (fun i ys nw => nw = _ ∧ StrsAre ys (((numsF ns).take i).map s1F)) ⟨rfl, .nil⟩ ?_ ?_
    · rintro j ys nw v I9 oI C oC D9 m₉ h9 tk9 E' hj ⟨rfl, hys⟩ hv hC hx F9 N9 off ne
      obtain ⟨y, t9, hyj, rfl⟩ := ints_at hits hv
      have hy := nums_lt (List.mem_of_getElem? hyj)
      k_steps
      refine Hold.mk ?_
      k_dflt (refine' ctr_use (sign_ _ _ _ _ _ _ _ _ _ (fmod_rng (by decide)).1 (fmod_rng (by decide)).2 (code_rng hy).1 (code_rng hy).2) ?k1 ?k2 ?k3 ?k4 ?k5 ?kK ?kd ?ku ?_; (case k1 | k2 | k3 | k4 | k5 => k_asm); (case kK => first | exact rfl | assumption); (case kd => ktr_room); (case ku => ktr_units))
      rintro v8 h8 tk8 n8 F8 N8 ⟨t8, rfl, hs8⟩
      refine comp_end F8 N8 (hs8 _ (.head _)) (hs8 _ (.tail _ (.head _))) (hs8 _ (.tail _ (.tail _ (.head _)))) (fun p hp => hs8 _ (.tail _ (.tail _ (.tail _ hp)))) off (.inr ⟨_, .head _, rfl, _, rfl⟩) ⟨rfl, ?_⟩
      rw [List.take_add_one, hyj, Option.toList_some, List.map_append]
      exact strs_snoc1 hys
    · rintro ys nw ⟨rfl, hys⟩ D9 h9 tk9 F9 N9 off9
      rw [ints_size hits, List.take_length] at hys
      k_steps
      refine join_C N9 hys (by have := nums_len ns; rw [List.length_map]; omega) (map_len fun x => sign_len _ _) fun t8 k8 => ?_
      k_steps
      · trivial
      · exact be_intro _ (by k_asm) (by k_asm) (fun p hp => .tail _ hp) ⟨D, its, n, oM, oF, oT, oS, t8, rfl, rfl, hits, rfl, ⟨e1, e2, e3, e4⟩, dM, dF, dT, dS⟩
  clear F2 N2 e1 e2 e3 e4 dM dF dT dS hits
  rintro s' ⟨h2, tk2, m2, led, rfl, F2, N2, D, its, n, oM, oF, oT, oS, t1, hm, hm', hits, rfl, ⟨e1, e2, e3, e4⟩, dM, dF, dT, dS⟩
  rw [two_m hm hm'] at F2
  clear hm hm'
  have hz6 : (numsF ns).length ≤ 200 := Nat.le_trans (nums_len ns) (by decide)
  refine cut (Be s1.heap L s1 (P4 L ns)) ?_ ?_
  · k_steps
    refine Hold.mk ?_
    refine LCg.ListComp_U F2 (by with_unfolding_all rfl) (by decide) (by rfl) (by decide) (by rfl) ?_
    k_steps
    refine Hold.mk ?_
    rename Fr _ _ _ _ => F3
    rename News _ _ _ _ => N3
    rename IntsAre _ (List.take 3 _) => hit3
    refine LCg.CompSrc.ledger rfl F3 N3 (.head _) (size6 (by have := hit3.length; rw [List.length_take] at this; rw [List.size_toArray]; omega)) fun g9 => comp_ind (fun i ys nw => nw = _ ∧ StrsAre ys ((((numsF ns).take 3).take i).map s2F)) ⟨rfl, .nil⟩ ?_ ?_
    · rintro j ys nw v I9 oI C oC D9 m₉ h9 tk9 E' hj ⟨rfl, hys⟩ hv hC hx F9 N9 off ne
      obtain ⟨y, t9, hyj, rfl⟩ := ints_at hit3 hv
      have hy := nums_lt (List.mem_of_mem_take (List.mem_of_getElem? hyj))
      k_steps
      refine Hold.mk ?_
      k_dflt (refine' ctr_use (sign_ _ _ _ _ _ _ _ _ _ (fmod_rng (by decide)).1 (fmod_rng (by decide)).2 (code_rng hy).1 (code_rng hy).2) ?k1 ?k2 ?k3 ?k4 ?k5 ?kK ?kd ?ku ?_; (case k1 | k2 | k3 | k4 | k5 => k_asm); (case kK => first | exact rfl | assumption); (case kd => ktr_room); (case ku => ktr_units))
      rintro v8 h8 tk8 n8 F8 N8 ⟨t8, rfl, hs8⟩
      refine comp_end F8 N8 (hs8 _ (.head _)) (hs8 _ (.tail _ (.head _))) (hs8 _ (.tail _ (.tail _ (.head _)))) (fun p hp => hs8 _ (.tail _ (.tail _ (.tail _ hp)))) off (.inr ⟨_, .head _, rfl, _, rfl⟩) ⟨rfl, ?_⟩
      rw [List.take_add_one, hyj, Option.toList_some, List.map_append]
      exact strs_snoc1 hys
    · rintro ys nw ⟨rfl, hys⟩ D9 h9 tk9 F9 N9 off9
      rw [show (List.toArray _).size = _ from ints_size hit3, List.take_length] at hys
      k_steps
      refine join_C N9 hys (by have := nums_len ns; rw [List.length_map, List.length_take]; omega) (map_len fun x => sign_len _ _) fun t8 k8 => ?_
      replace N9 := News.drop9 (news := (D, listOf its n) :: cellsL L oM oF oT oS) N9 fun p hp => .tail _ (.tail _ hp)
      dsimp only [cellsL] at N9
      clear off9
      k_steps
      · trivial
      · exact be_intro _ (by k_asm) (by k_asm) (fun p hp => hp) ⟨D, its, n, oM, oF, oT, _, t1, t8, rfl, rfl, hits, rfl, ⟨e1, e2, e3, e4⟩, dM, dF, dT, by assumption⟩
  clear F2 N2 e1 e2 e3 e4 dM dF dT dS hits
  rintro s' ⟨h2, tk2, m2, led, rfl, F2, N2, D, its, n, oM, oF, oT, oS, t1, t2, hm, hm', hits, rfl, ⟨e1, e2, e3, e4⟩, dM, dF, dT, dS⟩
  rw [two_m hm hm'] at F2
  clear hm hm'
  refine cut (Be s1.heap L s1 (P5 L ns)) ?_ ?_
  · k_steps
    refine Hold.mk ?_
    refine LCg.ListComp_U F2 (by with_unfolding_all rfl) (by decide) (by rfl) (by decide) (by rfl) ?_
    k_steps
    refine Hold.mk ?_
    rename Fr _ _ _ _ => F3
    rename News _ _ _ _ => N3
    rename IntsAre _ (List.take 3 _) => hit3
    refine LCg.CompSrc.ledger rfl F3 N3 (.head _) (size6 (by have := hit3.length; rw [List.length_take] at this; rw [List.size_toArray]; omega)) fun g9 => comp_ind (fun i ys nw => nw = _ ∧ StrsAre ys ((((numsF ns).take 3).take i).map s3F)) ⟨rfl, .nil⟩ ?_ ?_
    · rintro j ys nw v I9 oI C oC D9 m₉ h9 tk9 E' hj ⟨rfl, hys⟩ hv hC hx F9 N9 off ne
      obtain ⟨y, t9, hyj, rfl⟩ := ints_at hit3 hv
      have hy := nums_lt (List.mem_of_mem_take (List.mem_of_getElem? hyj))
      k_steps
      refine Hold.mk ?_
      k_dflt (refine' ctr_use (sign_ _ _ _ _ _ _ _ _ _ (fmod_rng (by decide)).1 (fmod_rng (by decide)).2 (code_rng hy).1 (code_rng hy).2) ?k1 ?k2 ?k3 ?k4 ?k5 ?kK ?kd ?ku ?_; (case k1 | k2 | k3 | k4 | k5 => k_asm); (case kK => first | exact rfl | assumption); (case kd => ktr_room); (case ku => ktr_units))
      rintro v8 h8 tk8 n8 F8 N8 ⟨t8, rfl, hs8⟩
      refine comp_end F8 N8 (hs8 _ (.head _)) (hs8 _ (.tail _ (.head _))) (hs8 _ (.tail _ (.tail _ (.head _)))) (fun p hp => hs8 _ (.tail _ (.tail _ (.tail _ hp)))) off (.inr ⟨_, .head _, rfl, _, rfl⟩) ⟨rfl, ?_⟩
      rw [List.take_add_one, hyj, Option.toList_some, List.map_append]
      exact strs_snoc1 hys
    · rintro ys nw ⟨rfl, hys⟩ D9 h9 tk9 F9 N9 off9
      rw [show (List.toArray _).size = _ from ints_size hit3, List.take_length] at hys
      k_steps
      refine join_C N9 hys (by have := nums_len ns; rw [List.length_map, List.length_take]; omega) (map_len fun x => sign_len _ _) fun t8 k8 => ?_
      replace N9 := News.drop9 (news := cellsL L oM oF oT oS) N9 fun p hp => .tail _ (.tail _ (.tail _ hp))
      dsimp only [cellsL] at N9
      clear off9
      k_steps
      · trivial
      · exact be_intro _ (by k_asm) (by k_asm) (fun p hp => hp) ⟨oM, oF, _, oS, t1, t2, t8, rfl, rfl, dM, dF, by assumption, dS⟩
  clear F2 N2 e1 e2 e3 e4 dM dF dT dS hits
  rintro s' ⟨h2, tk2, m2, led, rfl, F2, N2, oM, oF, oT, oS, t1, t2, t3, hm, rfl, dM, dF, dT, dS⟩
  rw [one_m hm] at F2
  clear hm
  dsimp only [cellsL] at N2
  refine cut (Be s1.heap L s1 (P6 L ns)) ?_ ?_
  · k_steps
    refine Hold.mk ?_
    refine ListComp_S F2 (by with_unfolding_all rfl) (by decide) (by rfl) (by decide) (by rfl) ?_
    refine nameX_L F2 (by rfl) ?_
    refine ⟨_, _, _, rfl, rfl, F2, N2, ?_, ?_⟩
    · exact size6 (Nat.le_trans (fst_len ns) (by decide))
    · rintro s9 ⟨g9, rfl⟩
      refine comp_ind (fun i ys nw => nw = _ ∧ StrsAre ys (((fstF ns).cps.toList.take i).map fun c => if c = 39 then sndF ns else if c = 34 then trdF ns else sg c)) ⟨rfl, .nil⟩ ?_ ?_
      · rintro j ys nw v I9 oI C oC D9 m₉ h9 tk9 E' hj ⟨rfl, hys⟩ ⟨c, u, hcj, rfl⟩ hC hx F9 N9 off ne
        replace hx : m₉ _ = some (.str (sg c) u) := hx
        have hcj' : (fstF ns).cps.toList[j]? = some c := by simpa using hcj
        k_steps
        · refine comp_end (by k_asm) (by k_asm) (.head _) (.tail _ (.head _)) (.tail _ (.tail _ (.head _))) (fun p hp => .tail _ (.tail _ (.tail _ hp))) off trivial ⟨rfl, ?_⟩
          rw [List.take_add_one, hcj', Option.toList_some, List.map_append]
          exact put1 (by assumption) hys
        · refine comp_end (by k_asm) (by k_asm) (.head _) (.tail _ (.head _)) (.tail _ (.tail _ (.head _))) (fun p hp => .tail _ (.tail _ (.tail _ hp))) off trivial ⟨rfl, ?_⟩
          rw [List.take_add_one, hcj', Option.toList_some, List.map_append]
          exact put2 (by assumption) (by assumption) hys
        · refine comp_end (by k_asm) (by k_asm) (.head _) (.tail _ (.head _)) (.tail _ (.tail _ (.head _))) (fun p hp => .tail _ (.tail _ (.tail _ hp))) off trivial ⟨rfl, ?_⟩
          rw [List.take_add_one, hcj', Option.toList_some, List.map_append]
          exact put3 (by assumption) (by assumption) hys
      · rintro ys nw ⟨rfl, hys⟩ D9 h9 tk9 F9 N9 off9
        rw [show (fstF ns).cps.size = (fstF ns).cps.toList.length by simp, List.take_length] at hys
        k_steps
        refine join_C N9 hys (by have := fst_len ns; rw [len_cps] at this; rw [List.length_map]; omega) (fun x hx => by obtain ⟨y, _, rfl⟩ := List.mem_map.mp hx; exact Nat.le_trans (put_len ns y) (by decide)) fun t8 k8 => ?_
        replace N9 := News.drop9 (news := cellsL L oM oF oT oS) N9 fun p hp => .tail _ hp
        dsimp only [cellsL] at N9
        clear off9
        k_steps
        · trivial
        · exact be_intro _ (by k_asm) (by k_asm) (fun p hp => hp) ⟨oM, _, oT, oS, t1, t2, t3, t8, rfl, rfl, dM, by assumption, dT, dS⟩
  clear F2 N2 dM dF dT dS
  rintro s' ⟨h2, tk2, m2, led, rfl, F2, N2, oM, oF, oT, oS, t1, t2, t3, t4, hm, rfl, dM, dF, dT, dS⟩
  rw [one_m hm] at F2
  clear hm
  dsimp only [cellsL] at N2
  have hrok : RepOk (fstF ns) (repPs ns) := Mine.hrok ns
  have hrep : replF (fstF ns) (repPs ns) = fthF ns := Mine.hrep ns
  unfold repPs at hrok hrep
  refine cut (Be s1.heap L s1 (P6 L ns)) ?_ ?_
  · k_steps
    refine Hold.mk ?_
    k_dflt (refine' ctr_use (replace_4 _ _ _ _ _ _ _ _ _ _ _ _ _ _ _ _ _ _ _ _ _ _ _ ?hok) ?k1 ?k2 ?k3 ?k4 ?k5 ?kK ?kd ?ku ?_; (case k1 | k2 | k3 | k4 | k5 => k_asm); (case kK => first | exact rfl | assumption); (case hok => assumption); (case kd => ktr_room); (case ku => ktr_units))
    rintro v8 h8 tk8 n8 F8 N8 ⟨t8, rfl, hs8⟩
    replace N8 := News.drop9 N8 hs8
    clear hs8
    rw [hrep]
    k_steps
    exact be_intro _ (by k_asm) (by k_asm) (fun p hp => hp) ⟨oM, oF, oT, oS, t1, t2, t3, t4, rfl, rfl, dM, dF, dT, dS⟩
  clear F2 N2 dM dF dT dS hrok hrep
  rintro s' ⟨h2, tk2, m2, led, rfl, F2, N2, oM, oF, oT, oS, t1, t2, t3, t4, hm, rfl, dM, dF, dT, dS⟩
  rw [one_m hm] at F2
  clear hm
  dsimp only [cellsL] at N2
  refine cut (Be s1.heap L s1 (P8 L ns)) ?_ ?_
  · k_steps
    refine Hold.mk ?_
    refine LCg.Assign_ListComp_U F2 rfl (by with_unfolding_all rfl) (by with_unfolding_all rfl) (by decide) (by rfl) (by decide) (by rfl) (by rfl) (by rfl) ?_
    k_steps
    refine Hold.mk ?_
    rename Fr _ _ _ _ => F3
    rename News _ _ _ _ => N3
    refine LCg.CompSrc.ledger rfl F3 N3 (.head _) (size6 (show (2 : Nat) ≤ 200 by decide)) fun g9 => comp_ind (MvI ns _) (.inl ⟨rfl, rfl, rfl⟩) ?_ ?_
    · rintro j ys nw v I9 oI C oC D9 m₉ h9 tk9 E' hj hI hv hC hx F9 N9 off ne
      rcases hI with ⟨rfl, rfl, rfl⟩ | ⟨rfl, D1, n1, i1, rfl, rfl, hi1, ho1⟩ | ⟨rfl, _⟩
      · obtain rfl : Value.str _ _ = v := Option.some.inj hv
        k_steps
        refine Hold.mk ?_
        k_dflt (refine' ctr_use (move_i ?hb ?m1 ?m2 ?i1 ?i2 mv102 mv210) ?k1 ?k2 ?k3 ?k4 ?k5 ?kK ?kd ?ku ?_; (case k1 | k2 | k3 | k4 | k5 => k_asm); (case kK => first | exact rfl | assumption); (case hb => (have := snd_len ns; omega)); (case m1 => exact .tail _ (.head _)); (case m2 => exact .head _); (case i1 => exact .cons _ _ (.cons _ _ (.cons _ _ .nil))); (case i2 => exact .cons _ _ (.cons _ _ (.cons _ _ .nil))); (case kd => ktr_room); (case ku => ktr_units))
        rintro v8 h8 tk8 n8 F8 N8 ⟨D8, it8, nn8, rfl, hits8, hm8, hs8, ho8⟩
        refine comp_end (news' := (D8, listOf it8 nn8) :: _) F8 N8 (hs8 _ (.tail _ (.tail _ (.head _)))) (hs8 _ (.tail _ (.tail _ (.tail _ (.head _))))) (hs8 _ (.tail _ (.tail _ (.tail _ (.tail _ (.head _)))))) (fun p hp => ?_)
          (off3_cons off (Ne.symm (ho8 _ (.tail _ (.tail _ (.head _))))) (Ne.symm (ho8 _ (.tail _ (.tail _ (.tail _ (.head _)))))) (Ne.symm (ho8 _ (.tail _ (.tail _ (.tail _ (.tail _ (.head _)))))))) (.inr ⟨_, .tail _ (.head _), rfl, _, rfl⟩)
          (.inr (.inl ⟨rfl, D8, nn8, it8, rfl, rfl, hits8, fun p hp => ho8 p (.tail _ (.tail _ (.tail _ (.tail _ (.tail _ hp)))))⟩))
        rcases List.mem_cons.mp hp with rfl | hp
        · exact hm8
        · exact hs8 p (.tail _ (.tail _ (.tail _ (.tail _ (.tail _ hp)))))
      · obtain rfl : Value.str _ _ = v := Option.some.inj hv
        k_steps
        refine Hold.mk ?_
        k_dflt (refine' ctr_use (move_i ?hb ?m1 ?m2 ?i1 ?i2 mv102 mv210) ?k1 ?k2 ?k3 ?k4 ?k5 ?kK ?kd ?ku ?_; (case k1 | k2 | k3 | k4 | k5 => k_asm); (case kK => first | exact rfl | assumption); (case hb => (have := trd_len ns; omega)); (case m1 => exact .tail _ (.head _)); (case m2 => exact .head _); (case i1 => exact .cons _ _ (.cons _ _ (.cons _ _ .nil))); (case i2 => exact .cons _ _ (.cons _ _ (.cons _ _ .nil))); (case kd => ktr_room); (case ku => ktr_units))
        rintro v8 h8 tk8 n8 F8 N8 ⟨D8, it8, nn8, rfl, hits8, hm8, hs8, ho8⟩
        refine comp_end (news' := (D8, listOf it8 nn8) :: _) F8 N8 (hs8 _ (.tail _ (.tail _ (.head _)))) (hs8 _ (.tail _ (.tail _ (.tail _ (.head _))))) (hs8 _ (.tail _ (.tail _ (.tail _ (.tail _ (.head _)))))) (fun p hp => ?_)
          (off3_cons off (Ne.symm (ho8 _ (.tail _ (.tail _ (.head _))))) (Ne.symm (ho8 _ (.tail _ (.tail _ (.tail _ (.head _)))))) (Ne.symm (ho8 _ (.tail _ (.tail _ (.tail _ (.tail _ (.head _)))))))) (.inr ⟨_, .tail _ (.tail _ (.head _)), rfl, _, rfl⟩)
          (.inr (.inr ⟨rfl, D1, n1, i1, D8, nn8, it8, rfl, rfl, hi1, hits8, ho1, fun p hp => ho8 p (.tail _ (.tail _ (.tail _ (.tail _ (.tail _ (.tail _ hp))))))⟩))
        rcases List.mem_cons.mp hp with rfl | hp
        · exact hm8
        · exact hs8 p (.tail _ (.tail _ (.tail _ (.tail _ (.tail _ hp)))))
      · exact absurd (show (2 : Nat) < 2 from hj) (by decide)
    · rintro ys nw hI D9 h9 tk9 F9 N9 off9
      rcases hI with ⟨h, _⟩ | ⟨h, _⟩ | ⟨_, D1, n1, i1, D2, n2, i2, rfl, rfl, hi1, hi2, ho1, ho2⟩
      · exact absurd (show (2 : Nat) = 0 from h) (by decide)
      · exact absurd (show (2 : Nat) = 1 from h) (by decide)
      refine ⟨rfl, be_intro _ F9 N9 (fun p hp => ?_) ⟨oM, oF, oT, oS, t1, t2, t3, t4, D9, D1, D2, i1, i2, 2, n1, n2, rfl, rfl, rfl, ?_, ?_, ?_, hi1, hi2, dM, dF, dT, dS⟩⟩
      · rcases List.mem_cons.mp hp with rfl | hp
        · exact .head _
        rcases List.mem_cons.mp hp with rfl | hp
        · exact .tail _ (.tail _ (.head _))
        rcases List.mem_cons.mp hp with rfl | hp
        · exact .tail _ (.head _)
        · exact .tail _ (.tail _ (.tail _ (.tail _ hp)))
      · exact ⟨Ne.symm off9.2.2.2.1, Ne.symm off9.2.2.2.2.1, Ne.symm off9.2.2.2.2.2.1, Ne.symm off9.2.2.2.2.2.2.1⟩
      · exact ⟨Ne.symm (ho1 _ (.tail _ (.head _))), Ne.symm (ho1 _ (.tail _ (.tail _ (.head _)))), Ne.symm (ho1 _ (.tail _ (.tail _ (.tail _ (.head _))))), Ne.symm (ho1 _ (.tail _ (.tail _ (.tail _ (.tail _ (.head _))))))⟩
      · exact ⟨Ne.symm (ho2 _ (.tail _ (.head _))), Ne.symm (ho2 _ (.tail _ (.tail _ (.head _)))), Ne.symm (ho2 _ (.tail _ (.tail _ (.tail _ (.head _))))), Ne.symm (ho2 _ (.tail _ (.tail _ (.tail _ (.tail _ (.head _))))))⟩
  clear F2 N2 dM dF dT dS
  rintro s' ⟨h2, tk2, m2, led, rfl, F2, N2, oM, oF, oT, oS, t1, t2, t3, t4, Dm, D1, D2, i1, i2, n0, n1, n2, hm, hm', rfl, ⟨a1, a2, a3, a4⟩, ⟨b1, b2, b3, b4⟩, ⟨c1, c2, c3, c4⟩, hi1, hi2, dM, dF, dT, dS⟩
  rw [two_m hm hm'] at F2
  clear hm hm'
  dsimp only [cellsL] at N2
  refine cut (Be s1.heap L s1 (P9 L ns)) ?_ ?_
  · k_steps
    refine Hold.mk ?_
    k_dflt (refine' ctr_use (move_i ?hb ?m1 ?m2 hi1 hi2 (mv1_Mv ns) (mv2_Mv ns)) ?k1 ?k2 ?k3 ?k4 ?k5 ?kK ?kd ?ku ?_; (case k1 | k2 | k3 | k4 | k5 => k_asm); (case kK => first | exact rfl | assumption); (case hb => (have := fst_len ns; omega)); (case m1 => exact .tail _ (.head _)); (case m2 => exact .tail _ (.tail _ (.head _))); (case kd => ktr_room); (case ku => ktr_units))
    rintro v8 h8 tk8 n8 F8 N8 ⟨D8, it8, nn8, rfl, hits8, hm8, hs8, ho8⟩
    replace N8 := news_cons N8 hm8 hs8
    have q1 : L + 1 + 1 + 1 + 1 ≠ D8 := ho8 _ (.tail _ (.tail _ (.tail _ (.head _))))
    clear hm8 hs8 ho8
    k_steps
    · trivial
    · exact be_intro _ (by k_asm) (by k_asm) (fun p hp => hp) ⟨_, oF, oT, oS, t1, t2, t3, t4, Dm, D1, D2, D8, i1, i2, it8, n0, n1, n2, nn8, rfl, rfl, hi1, hi2, hits8, by assumption, dF, dT, dS⟩
  clear F2 N2 dM dF dT dS hi1 hi2 a1 a2 a3 a4 b1 b2 b3 b4 c1 c2 c3 c4
  rintro s' ⟨h2, tk2, m2, led, rfl, F2, N2, oM, oF, oT, oS, t1, t2, t3, t4, Dm, D1, D2, D3, i1, i2, i3, n0, n1, n2, n3, hm, rfl, hi1, hi2, hi3, dM, dF, dT, dS⟩
  rw [one_m hm] at F2
  clear hm
  dsimp only [cellsL] at N2
  have hh1 : HoldsOk (sndF ns) (mv1F ns) := Mine.hh1 ns
  have hh2 : HoldsOk (trdF ns) (mv2F ns) := Mine.hh2 ns
  have hh3 : HoldsOk (fthF ns) (mvFF ns) := Mine.hh3 ns
  have hl1 : (sndF ns).length < 2 ^ 19 := by have := snd_len ns; omega
  have hl2 : (trdF ns).length < 2 ^ 19 := by have := trd_len ns; omega
  have hl3 : (fthF ns).length < 2 ^ 19 := by have := fth_len ns; omega
  have hv1 := mv1_Mv ns
  have hv2 := mv2_Mv ns
  have hv3 := mv_Mv ns
  refine cut (Be s1.heap L s1 (fun _ led => P10 L ns led)) ?_ ?_
  · k_steps
    refine be_intro _ (by k_asm) (by k_asm) (fun p hp => ?_) ⟨oM, oF, oT, oS, t4, D3, i3, n3, rfl, hi3, dM, dF⟩
    rcases List.mem_cons.mp hp with rfl | hp
    · exact .head _
    · exact .tail _ (.tail _ (.tail _ (.tail _ hp)))
  clear F2 N2 dM dF dT dS hi1 hi2 hi3 hh1 hh2 hh3 hl1 hl2 hl3 hv1 hv2 hv3
  rintro s' ⟨h2, tk2, m2, led, rfl, F2, N2, oM, oF, oT, oS, t4, D3, i3, n3, rfl, hi3, dM, dF⟩
  dsimp only [cellsL] at N2
  have hl3 : (fthF ns).length ≤ 18 := fth_len ns
  refine cut (Be s1.heap L s1 (P11 L ns)) ?_ ?_
  · k_steps
    refine Hold.mk ?_
    refine LCg.ListComp_U F2 (by with_unfolding_all rfl) (by decide) (by rfl) (by decide) (by rfl) ?_
    k_steps
    refine Hold.mk ?_
    rename Fr _ _ _ _ => F3
    rename News _ _ _ _ => N3
    rename IsRange _ _ _ _ _ _ _ _ => R3
    refine LCg.CompSrc.range rfl F3 N3 R3 (rng_small (by omega)) (rng_size _) (size6 (by omega)) fun g9 => comp_ind (fun i ys nw => nw = _ ∧ StrsAre ys (((fthF ns).cps.toList.reverse.take i).map sg)) ⟨rfl, .nil⟩ ?_ ?_
    · rintro j ys nw v I9 oI C oC D9 m₉ h9 tk9 E' hj ⟨rfl, hys⟩ ⟨t9, rfl⟩ hC hx F9 N9 off ne
      rw [Int.zero_add] at hx
      k_steps
      obtain ⟨c, hcj, hci⟩ := rev_item hj
      rw [hci]
      refine comp_end (by k_asm) (by k_asm) (.head _) (.tail _ (.head _)) (.tail _ (.tail _ (.head _))) (fun p hp => .tail _ (.tail _ (.tail _ hp))) off trivial ⟨rfl, ?_⟩
      rw [List.take_add_one, hcj, Option.toList_some, List.map_append]
      exact strs_snoc1 hys
    · rintro ys nw ⟨rfl, hys⟩ D9 h9 tk9 F9 N9 off9
      rw [show (fthF ns).length = (fthF ns).cps.toList.reverse.length by rw [len_cps, List.length_reverse], List.take_length] at hys
      k_steps
      refine join_C N9 hys (by rw [len_cps] at hl3; rw [List.length_map, List.length_reverse]; omega) sg_len200 fun t8 k8 => ?_
      replace N9 := News.drop9 (news := (D3, listOf i3 n3) :: cellsL L oM oF oT oS) N9 fun p hp => .tail _ hp
      dsimp only [cellsL] at N9
      clear off9
      k_steps
      · trivial
      · exact be_intro _ (by k_asm) (by k_asm) (fun p hp => hp) ⟨⟨oM, oF, oT, oS, t4, D3, i3, n3, rfl, hi3, dM, dF⟩, t8, rfl⟩
  clear F2 N2 dM dF hi3
  rintro s' ⟨h2, tk2, m2, led, rfl, F2, N2, ⟨oM, oF, oT, oS, t4, D3, i3, n3, rfl, hi3, dM, dF⟩, t5, hm⟩
  dsimp only [cellsL] at N2
  rw [one_m hm] at F2
  clear hm
  have hh4 : HoldsOk (revF (fthF ns)) (invF (mvFF ns)) := Mine.hh4 ns
  have hprm : ∀ j : Nat, j < 3 → (j : Int) ∈ mvFF ns := Mine.hprm ns
  have hv3 := mv_Mv ns
  have hv4 := inv_Mv hv3 hprm
  have hl4 : (revF (fthF ns)).length < 2 ^ 19 := by rw [rev_len]; omega
  refine cut (Be s1.heap L s1 (fun _ led => P10 L ns led)) ?_ ?_
  · k_steps
    refine Hold.mk ?_
    refine LCg.ListComp_U F2 (by with_unfolding_all rfl) (by decide) (by rfl) (by decide) (by rfl) ?_
    k_steps
    refine Hold.mk ?_
    rename Fr _ _ _ _ => F3
    rename News _ _ _ _ => N3
    rename IsRange _ _ _ _ _ _ _ _ => R3
    refine LCg.CompSrc.range (n := 3) rfl F3 N3 R3 (by decide) (by decide) (size6 (by decide)) fun g9 => comp_ind (fun i ys nw => nw = _ ∧ IntsAre ys ((invF (mvFF ns)).take i)) ⟨rfl, .nil⟩ ?_ ?_
    · rintro j ys nw v I9 oI C oC D9 m₉ h9 tk9 E' hj ⟨rfl, hys⟩ ⟨t9, rfl⟩ hC hx F9 N9 off ne
      rw [Int.zero_add] at hx
      k_steps
      refine index_C (by k_asm) (.tail _ (.tail _ (.tail _ (.head _)))) hi3 hv3 (hprm j hj) ?_
      refine comp_end (by k_asm) (by k_asm) (.head _) (.tail _ (.head _)) (.tail _ (.tail _ (.head _))) (fun p hp => .tail _ (.tail _ (.tail _ hp))) off trivial ⟨rfl, ?_⟩
      rw [List.take_add_one, inv_at hj, Option.toList_some]
      exact ints_snoc hys
    · rintro ys nw ⟨rfl, hys⟩ D9 h9 tk9 F9 N9 off9
      replace hys : IntsAre ys.toArray.toList (invF (mvFF ns)) := hys
      k_steps
      exact be_intro _ (by k_asm) (by k_asm) (fun p hp => .tail _ hp) ⟨oM, oF, oT, oS, t4, D3, i3, n3, rfl, hi3, dM, dF⟩
  clear F2 N2 dM dF hi3 hh4 hprm hv3 hv4 hl4
  rintro s' ⟨h2, tk2, m2, led, rfl, F2, N2, oM, oF, oT, oS, t4, D3, i3, n3, rfl, hi3, dM, dF⟩
  dsimp only [cellsL] at N2
  refine cut (Be s1.heap L s1 (P13 L ns (arF (fthF ns)))) ?_ ?_
  · k_steps
    refine Hold.mk ?_
    refine LCg.Assign_ListComp_U F2 rfl (by with_unfolding_all rfl) (by with_unfolding_all rfl) (by decide) (by rfl) (by decide) (by rfl) (by rfl) (by rfl) ?_
    k_steps
    refine Hold.mk ?_
    rename Fr _ _ _ _ => F3
    rename News _ _ _ _ => N3
    have hks := mk_strs
    refine gen_led N3 fun itsK hks N3 => ?_
    refine LCg.CompSrc.ledger rfl F3 N3 (.head _) (size6 (by have := hks.length; rw [Array.length_toList] at this; rw [this]; decide)) fun g9 => comp_ind (fun i ys nw => nw = _ ∧ StrsAre ys (([0, 1, 2].take i).map (arF (fthF ns)))) ⟨rfl, .nil⟩ ?_ ?_
    · rintro j ys nw v I9 oI C oC D9 m₉ h9 tk9 E' hj ⟨rfl, hys⟩ hv hC hx F9 N9 off ne
      obtain ⟨y, t9, hyj, rfl⟩ := strs_at hks hv
      obtain ⟨rfl, hj0⟩ := mk_at hyj
      have hk1 := mk_len j
      have hr6 := rep6_len (fthF ns)
      k_steps
      refine comp_end (by k_asm) (by k_asm) (.head _) (.tail _ (.head _)) (.tail _ (.tail _ (.head _))) (fun p hp => .tail _ (.tail _ (.tail _ hp))) off (.inr ⟨_, .head _, rfl, _, rfl⟩) ⟨rfl, ?_⟩
      rw [List.take_add_one, hj0, Option.toList_some, List.map_append]
      exact strs_snoc1 hys
    · rintro ys nw ⟨rfl, hys⟩ D9 h9 tk9 F9 N9 off9
      have h3 : itsK.size = 3 := by have := hks.length; rw [Array.length_toList] at this; rw [this]; rfl
      rw [h3] at hys
      refine ⟨rfl, be_intro _ F9 N9 (fun p hp => ?_) ⟨oM, oF, oT, oS, D9, ys.toArray, ys.length, rfl, rfl, hys⟩⟩
      rcases List.mem_cons.mp hp with rfl | hp
      · exact .head _
      · exact .tail _ (.tail _ (.tail _ hp))
  clear F2 N2 dM dF hi3
  rintro s' ⟨h2, tk2, m2, led, rfl, F2, N2, oM, oF, oT, oS, Da, ia, na, hm, rfl, hia⟩
  dsimp only [cellsL] at N2
  rw [one_m hm] at F2
  clear hm
  have hla : ∀ k : Nat, k < 3 → StrsOk (lwF (arF (fthF ns) k).cps.toList) ∧ wordsF true false ((arF (fthF ns) k).length + 2) .sp (arF (fthF ns) k).cps.toList = .ok (lwF (arF (fthF ns) k).cps.toList) := Mine.hla ns
  k_steps
  refine Hold.mk ?_
  refine LCg.ListComp_U F2 (by with_unfolding_all rfl) (by decide) (by rfl) (by decide) (by rfl) ?_
  refine nameX_L F2 (by rfl) ?_
  refine LCg.CompSrc.ledger rfl F2 N2 (.head _) (size6 (by have := hia.length; rw [Array.length_toList] at this; rw [this]; exact (by decide : 3 ≤ 200))) fun g9 => comp_ind (RefI (fun k => lwF (arF (fthF ns) k).cps.toList) _) RefI.nil ?_ ?_
  · rintro j ys nw v I9 oI C oC D9 m₉ h9 tk9 E' hj hR hv hC hx F9 N9 off ne
    obtain ⟨y, t9, hyj, rfl⟩ := strs_at hia hv
    obtain ⟨rfl, hj3⟩ := ar_at hyj
    k_steps
    refine Hold.mk ?_
    k_dflt (refine' ctrS_top (told_ _ _ _ _ _ _ _ (ar_len hl3)) ?k1 ?k2 ?k3 ?k4 ?k5 ?kK ?kd ?ku ?_; (case k1 => assumption); (case k2 | k3 | k4 | k5 => k_asm); (case kK => first | exact rfl | assumption); (case kd => ktr_room); (case ku => ktr_units))
    rintro v8 h8 tk8 n8 F8 N8 (⟨D2, its2, ws, c2, rfl, hw, hs2, hm2, hsub, hlt⟩ | ⟨msg, t, rfl, hw, hsub⟩)
    · obtain rfl : ws = _ := by
        have := hw.symm.trans (hla j hj3).2
        injection this
      refine comp_end (news' := (D2, listOf its2 c2) :: nw) F8 N8 (hsub _ (.head _)) (hsub _ (.tail _ (.head _))) (hsub _ (.tail _ (.tail _ (.head _)))) (fun p hp => ?_)
        (off3_cons off (Nat.ne_of_gt (hlt _ (.head _))) (Nat.ne_of_gt (hlt _ (.tail _ (.head _)))) (Nat.ne_of_gt (hlt _ (.tail _ (.tail _ (.head _)))))) (.inr ⟨_, .tail _ (hR.1 _ (.head _)), rfl, _, rfl⟩) (hR.snoc hs2)
      rcases List.mem_cons.mp hp with rfl | hp
      · exact hm2
      · exact hsub p (.tail _ (.tail _ (.tail _ hp)))
    · exact absurd (hw.symm.trans (hla j hj3).2) (by nofun)
  · rintro ys nw hR D9 h9 tk9 F9 N9 off9
    rw [show ia.size = 3 by have := hia.length; rw [Array.length_toList] at this; rw [this]; rfl] at hR
    k_steps
    refine Hold.mk ?_
    refine LCg.ListComp_U F9 (by with_unfolding_all rfl) (by decide) (by rfl) (by decide) (by rfl) ?_
    refine nameX_L F9 (by rfl) ?_
    refine LCg.CompSrc.ledger rfl F9 N9 (.tail _ (hR.1 _ (.head _))) (size6 (by have := hia.length; rw [Array.length_toList] at this; rw [this]; exact (by decide : 3 ≤ 200))) fun g8 => comp_ind (RefI (fun k => lwF (arF (fthF ns) k).cps.toList) _) RefI.nil ?_ ?_
    · rintro j ys2 nw2 v I9 oI C oC D8 m₉ h9 tk9 E' hj hR2 hv hC hx F9 N9 off ne
      obtain ⟨y, t9, hyj, rfl⟩ := strs_at hia hv
      obtain ⟨rfl, hj3⟩ := ar_at hyj
      k_steps
      refine Hold.mk ?_
      k_dflt (refine' ctr_use (words_ _ _ _ _ _ _ _ (ar_len hl3)) ?k1 ?k2 ?k3 ?k4 ?k5 ?kK ?kd ?ku ?_; (case k1 | k2 | k3 | k4 | k5 => k_asm); (case kK => first | exact rfl | assumption); (case kd => ktr_room); (case ku => ktr_units))
      rintro v8 h8 tk8 n8 F8 N8 ⟨D2, its2, c2, rfl, hs2, hm2, hsub, hlt⟩
      refine comp_end (news' := (D2, listOf its2 c2) :: nw2) F8 N8 (hsub _ (.head _)) (hsub _ (.tail _ (.head _))) (hsub _ (.tail _ (.tail _ (.head _)))) (fun p hp => ?_)
        (off3_cons off (Nat.ne_of_gt (hlt _ (.head _))) (Nat.ne_of_gt (hlt _ (.tail _ (.head _)))) (Nat.ne_of_gt (hlt _ (.tail _ (.tail _ (.head _)))))) (.inr ⟨_, .tail _ (hR2.1 _ (.tail _ (hR.1 _ (.head _)))), rfl, _, rfl⟩) (hR2.snoc hs2)
      rcases List.mem_cons.mp hp with rfl | hp
      · exact hm2
      · exact hsub p (.tail _ (.tail _ (.tail _ hp)))
    · rintro ys2 nw2 hR2 D8 h8 tk8 F8 N8 off8
      rw [show ia.size = 3 by have := hia.length; rw [Array.length_toList] at this; rw [this]; rfl] at hR2
      obtain ⟨as1, r1⟩ := ref_reads N8 (.tail _ (hR2.1 _ (.head _))) (fun p hp => .tail _ (hR2.1 _ (.tail _ hp))) hR
      obtain ⟨as2, r2⟩ := ref_reads N8 (.head _) (fun p hp => .tail _ hp) hR2
      have hsh := dat3_shaped (W := fun k => lwF (arF (fthF ns) k).cps.toList) fun k hk => (hla k hk).1
      k_steps
      refine Hold.mk ?_
      refine eq_dataH r1 r2 hsh hsh (by ktr_units) ?_
      rw [PySem.SeqAt.eqv_refl _ (PySem.SeqAt.canLay_of_shaped hsh)]
      exact hgood _ _ _ F8
end
end Mine
theorem PySem.Challenge.cw_mj0242_04_holds : PySem.Challenge.rw_mj0242_04.Holds :=
  Mine.law0
