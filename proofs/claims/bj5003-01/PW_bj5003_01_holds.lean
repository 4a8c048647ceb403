import PyProof.Rows.All
import Wide.All
import OpenK.AllK
import Wide.FinOn
import Lean
import PySem.Challenge.RW_bj5003_01
set_option Elab.async false
set_option linter.all false
section
open PySem PySem.W PyProof.Rows
set_option Elab.async false
set_option maxRecDepth 100000
set_option maxHeartbeats 8000000
namespace Mine
local macro_rules | `(tactic| o_head $_) => `(tactic| assumption)
theorem frag (h : PySem.Challenge.rw_bj5003_01.row.Holds) : PySem.Challenge.rw_bj5003_01.row.Holds := by k_head
end Mine
namespace Mine
def x2 (P : Params) : { o : Obj // (frag.heap_1 P).lookup 2 = some o } := ⟨_, by k_is⟩
def x3 (P : Params) : { o : Obj // (frag.heap_1 P).lookup 3 = some o } := ⟨_, by k_is⟩
def x68 (P : Params) : { o : Obj // (frag.heap_1 P).lookup 68 = some o } := ⟨_, by k_is⟩
def x69 (P : Params) : { o : Obj // (frag.heap_1 P).lookup 69 = some o } := ⟨_, by k_is⟩
def x108 (P : Params) : { o : Obj // (frag.heap_1 P).lookup 108 = some o } := ⟨_, by k_is⟩
def x109 (P : Params) : { o : Obj // (frag.heap_1 P).lookup 109 = some o } := ⟨_, by k_is⟩
def x129 (P : Params) : { o : Obj // (frag.heap_1 P).lookup 129 = some o } := ⟨_, by k_is⟩
def x130 (P : Params) : { o : Obj // (frag.heap_1 P).lookup 130 = some o } := ⟨_, by k_is⟩
def x139 (P : Params) : { o : Obj // (frag.heap_1 P).lookup 139 = some o } := ⟨_, by k_is⟩
def x140 (P : Params) : { o : Obj // (frag.heap_1 P).lookup 140 = some o } := ⟨_, by k_is⟩
def x151 (P : Params) : { o : Obj // (frag.heap_1 P).lookup 151 = some o } := ⟨_, by k_is⟩
def x158 (P : Params) : { o : Obj // (frag.heap_1 P).lookup 158 = some o } := ⟨_, by k_is⟩
def x159 (P : Params) : { o : Obj // (frag.heap_1 P).lookup 159 = some o } := ⟨_, by k_is⟩
def x217 (P : Params) : { o : Obj // (frag.heap_1 P).lookup 217 = some o } := ⟨_, by k_is⟩
def x218 (P : Params) : { o : Obj // (frag.heap_1 P).lookup 218 = some o } := ⟨_, by k_is⟩
def x230 (P : Params) : { o : Obj // (frag.heap_1 P).lookup 230 = some o } := ⟨_, by k_is⟩
def x236 (P : Params) : { o : Obj // (frag.heap_1 P).lookup 236 = some o } := ⟨_, by k_is⟩
def x237 (P : Params) : { o : Obj // (frag.heap_1 P).lookup 237 = some o } := ⟨_, by k_is⟩
def x243 (P : Params) : { o : Obj // (frag.heap_1 P).lookup 243 = some o } := ⟨_, by k_is⟩
def x244 (P : Params) : { o : Obj // (frag.heap_1 P).lookup 244 = some o } := ⟨_, by k_is⟩
def x250 (P : Params) : { o : Obj // (frag.heap_1 P).lookup 250 = some o } := ⟨_, by k_is⟩
def x251 (P : Params) : { o : Obj // (frag.heap_1 P).lookup 251 = some o } := ⟨_, by k_is⟩
def x253 (P : Params) : { o : Obj // (frag.heap_1 P).lookup 253 = some o } := ⟨_, by k_is⟩
def x254 (P : Params) : { o : Obj // (frag.heap_1 P).lookup 254 = some o } := ⟨_, by k_is⟩
def x266 (P : Params) : { o : Obj // (frag.heap_1 P).lookup 266 = some o } := ⟨_, by k_is⟩
def x272 (P : Params) : { o : Obj // (frag.heap_1 P).lookup 272 = some o } := ⟨_, by k_is⟩
def x273 (P : Params) : { o : Obj // (frag.heap_1 P).lookup 273 = some o } := ⟨_, by k_is⟩
def x279 (P : Params) : { o : Obj // (frag.heap_1 P).lookup 279 = some o } := ⟨_, by k_is⟩
def x280 (P : Params) : { o : Obj // (frag.heap_1 P).lookup 280 = some o } := ⟨_, by k_is⟩
def x286 (P : Params) : { o : Obj // (frag.heap_1 P).lookup 286 = some o } := ⟨_, by k_is⟩
def x287 (P : Params) : { o : Obj // (frag.heap_1 P).lookup 287 = some o } := ⟨_, by k_is⟩
def x289 (P : Params) : { o : Obj // (frag.heap_1 P).lookup 289 = some o } := ⟨_, by k_is⟩
def x290 (P : Params) : { o : Obj // (frag.heap_1 P).lookup 290 = some o } := ⟨_, by k_is⟩
def x302 (P : Params) : { o : Obj // (frag.heap_1 P).lookup 302 = some o } := ⟨_, by k_is⟩
def x308 (P : Params) : { o : Obj // (frag.heap_1 P).lookup 308 = some o } := ⟨_, by k_is⟩
def x309 (P : Params) : { o : Obj // (frag.heap_1 P).lookup 309 = some o } := ⟨_, by k_is⟩
def x315 (P : Params) : { o : Obj // (frag.heap_1 P).lookup 315 = some o } := ⟨_, by k_is⟩
def x316 (P : Params) : { o : Obj // (frag.heap_1 P).lookup 316 = some o } := ⟨_, by k_is⟩
def x322 (P : Params) : { o : Obj // (frag.heap_1 P).lookup 322 = some o } := ⟨_, by k_is⟩
def x323 (P : Params) : { o : Obj // (frag.heap_1 P).lookup 323 = some o } := ⟨_, by k_is⟩
def x329 (P : Params) : { o : Obj // (frag.heap_1 P).lookup 329 = some o } := ⟨_, by k_is⟩
def x330 (P : Params) : { o : Obj // (frag.heap_1 P).lookup 330 = some o } := ⟨_, by k_is⟩
def x336 (P : Params) : { o : Obj // (frag.heap_1 P).lookup 336 = some o } := ⟨_, by k_is⟩
def x337 (P : Params) : { o : Obj // (frag.heap_1 P).lookup 337 = some o } := ⟨_, by k_is⟩
def x339 (P : Params) : { o : Obj // (frag.heap_1 P).lookup 339 = some o } := ⟨_, by k_is⟩
def x340 (P : Params) : { o : Obj // (frag.heap_1 P).lookup 340 = some o } := ⟨_, by k_is⟩
def x352 (P : Params) : { o : Obj // (frag.heap_1 P).lookup 352 = some o } := ⟨_, by k_is⟩
def x358 (P : Params) : { o : Obj // (frag.heap_1 P).lookup 358 = some o } := ⟨_, by k_is⟩
def x359 (P : Params) : { o : Obj // (frag.heap_1 P).lookup 359 = some o } := ⟨_, by k_is⟩
def x365 (P : Params) : { o : Obj // (frag.heap_1 P).lookup 365 = some o } := ⟨_, by k_is⟩
def x366 (P : Params) : { o : Obj // (frag.heap_1 P).lookup 366 = some o } := ⟨_, by k_is⟩
def x372 (P : Params) : { o : Obj // (frag.heap_1 P).lookup 372 = some o } := ⟨_, by k_is⟩
def x373 (P : Params) : { o : Obj // (frag.heap_1 P).lookup 373 = some o } := ⟨_, by k_is⟩
def x379 (P : Params) : { o : Obj // (frag.heap_1 P).lookup 379 = some o } := ⟨_, by k_is⟩
def x380 (P : Params) : { o : Obj // (frag.heap_1 P).lookup 380 = some o } := ⟨_, by k_is⟩
def x386 (P : Params) : { o : Obj // (frag.heap_1 P).lookup 386 = some o } := ⟨_, by k_is⟩
def x387 (P : Params) : { o : Obj // (frag.heap_1 P).lookup 387 = some o } := ⟨_, by k_is⟩
def x389 (P : Params) : { o : Obj // (frag.heap_1 P).lookup 389 = some o } := ⟨_, by k_is⟩
def x390 (P : Params) : { o : Obj // (frag.heap_1 P).lookup 390 = some o } := ⟨_, by k_is⟩
def x400 (P : Params) : { o : Obj // (frag.heap_1 P).lookup 400 = some o } := ⟨_, by k_is⟩
def x401 (P : Params) : { o : Obj // (frag.heap_1 P).lookup 401 = some o } := ⟨_, by k_is⟩
def x494 (P : Params) : { o : Obj // (frag.heap_1 P).lookup 494 = some o } := ⟨_, by k_is⟩
def x495 (P : Params) : { o : Obj // (frag.heap_1 P).lookup 495 = some o } := ⟨_, by k_is⟩
def x507 (P : Params) : { o : Obj // (frag.heap_1 P).lookup 507 = some o } := ⟨_, by k_is⟩
def x513 (P : Params) : { o : Obj // (frag.heap_1 P).lookup 513 = some o } := ⟨_, by k_is⟩
def x514 (P : Params) : { o : Obj // (frag.heap_1 P).lookup 514 = some o } := ⟨_, by k_is⟩
def x516 (P : Params) : { o : Obj // (frag.heap_1 P).lookup 516 = some o } := ⟨_, by k_is⟩
def x517 (P : Params) : { o : Obj // (frag.heap_1 P).lookup 517 = some o } := ⟨_, by k_is⟩
def x555 (P : Params) : { o : Obj // (frag.heap_1 P).lookup 555 = some o } := ⟨_, by k_is⟩
def x556 (P : Params) : { o : Obj // (frag.heap_1 P).lookup 556 = some o } := ⟨_, by k_is⟩
def x565 (P : Params) : { o : Obj // (frag.heap_1 P).lookup 565 = some o } := ⟨_, by k_is⟩
def x566 (P : Params) : { o : Obj // (frag.heap_1 P).lookup 566 = some o } := ⟨_, by k_is⟩
def x583 (P : Params) : { o : Obj // (frag.heap_1 P).lookup 583 = some o } := ⟨_, by k_is⟩
def x584 (P : Params) : { o : Obj // (frag.heap_1 P).lookup 584 = some o } := ⟨_, by k_is⟩
def x586 (P : Params) : { o : Obj // (frag.heap_1 P).lookup 586 = some o } := ⟨_, by k_is⟩
def x587 (P : Params) : { o : Obj // (frag.heap_1 P).lookup 587 = some o } := ⟨_, by k_is⟩
def x1113 (P : Params) : { o : Obj // (frag.heap_1 P).lookup 1113 = some o } := ⟨_, by k_is⟩
def x1119 (P : Params) : { o : Obj // (frag.heap_1 P).lookup 1119 = some o } := ⟨_, by k_is⟩
def x1120 (P : Params) : { o : Obj // (frag.heap_1 P).lookup 1120 = some o } := ⟨_, by k_is⟩
def x1126 (P : Params) : { o : Obj // (frag.heap_1 P).lookup 1126 = some o } := ⟨_, by k_is⟩
def x1127 (P : Params) : { o : Obj // (frag.heap_1 P).lookup 1127 = some o } := ⟨_, by k_is⟩
def x1133 (P : Params) : { o : Obj // (frag.heap_1 P).lookup 1133 = some o } := ⟨_, by k_is⟩
def x1134 (P : Params) : { o : Obj // (frag.heap_1 P).lookup 1134 = some o } := ⟨_, by k_is⟩
def x1136 (P : Params) : { o : Obj // (frag.heap_1 P).lookup 1136 = some o } := ⟨_, by k_is⟩
def x1137 (P : Params) : { o : Obj // (frag.heap_1 P).lookup 1137 = some o } := ⟨_, by k_is⟩
def x1147 (P : Params) : { o : Obj // (frag.heap_1 P).lookup 1147 = some o } := ⟨_, by k_is⟩
def x1153 (P : Params) : { o : Obj // (frag.heap_1 P).lookup 1153 = some o } := ⟨_, by k_is⟩
def x1154 (P : Params) : { o : Obj // (frag.heap_1 P).lookup 1154 = some o } := ⟨_, by k_is⟩
def x1170 (P : Params) : { o : Obj // (frag.heap_1 P).lookup 1170 = some o } := ⟨_, by k_is⟩
def x1171 (P : Params) : { o : Obj // (frag.heap_1 P).lookup 1171 = some o } := ⟨_, by k_is⟩
def x1186 (P : Params) : { o : Obj // (frag.heap_1 P).lookup 1186 = some o } := ⟨_, by k_is⟩
def x1187 (P : Params) : { o : Obj // (frag.heap_1 P).lookup 1187 = some o } := ⟨_, by k_is⟩
def x1193 (P : Params) : { o : Obj // (frag.heap_1 P).lookup 1193 = some o } := ⟨_, by k_is⟩
def x1194 (P : Params) : { o : Obj // (frag.heap_1 P).lookup 1194 = some o } := ⟨_, by k_is⟩
def x1200 (P : Params) : { o : Obj // (frag.heap_1 P).lookup 1200 = some o } := ⟨_, by k_is⟩
def x1201 (P : Params) : { o : Obj // (frag.heap_1 P).lookup 1201 = some o } := ⟨_, by k_is⟩
def x1203 (P : Params) : { o : Obj // (frag.heap_1 P).lookup 1203 = some o } := ⟨_, by k_is⟩
def x1204 (P : Params) : { o : Obj // (frag.heap_1 P).lookup 1204 = some o } := ⟨_, by k_is⟩
def x1212 (P : Params) : { o : Obj // (frag.heap_1 P).lookup 1212 = some o } := ⟨_, by k_is⟩
def x1213 (P : Params) : { o : Obj // (frag.heap_1 P).lookup 1213 = some o } := ⟨_, by k_is⟩
def x1219 (P : Params) : { o : Obj // (frag.heap_1 P).lookup 1219 = some o } := ⟨_, by k_is⟩
def x1220 (P : Params) : { o : Obj // (frag.heap_1 P).lookup 1220 = some o } := ⟨_, by k_is⟩
def x1226 (P : Params) : { o : Obj // (frag.heap_1 P).lookup 1226 = some o } := ⟨_, by k_is⟩
def x1227 (P : Params) : { o : Obj // (frag.heap_1 P).lookup 1227 = some o } := ⟨_, by k_is⟩
def x1231 (P : Params) : { o : Obj // (frag.heap_1 P).lookup 1231 = some o } := ⟨_, by k_is⟩
def x1232 (P : Params) : { o : Obj // (frag.heap_1 P).lookup 1232 = some o } := ⟨_, by k_is⟩
def KF : Params → Frag := fun P => (nat_lit 2, (x2 P).1) :: (nat_lit 3, (x3 P).1) :: (nat_lit 68, (x68 P).1) :: (nat_lit 69, (x69 P).1) :: (nat_lit 108, (x108 P).1) :: (nat_lit 109, (x109 P).1) :: (nat_lit 129, (x129 P).1) :: (nat_lit 130, (x130 P).1) :: (nat_lit 139, (x139 P).1) :: (nat_lit 140, (x140 P).1) :: (nat_lit 151, (x151 P).1) :: (nat_lit 158, (x158 P).1) :: (nat_lit 159, (x159 P).1) :: (nat_lit 217, (x217 P).1) :: (nat_lit 218, (x218 P).1) :: (nat_lit 230, (x230 P).1) :: (nat_lit 236, (x236 P).1) :: (nat_lit 237, (x237 P).1) :: (nat_lit 243, (x243 P).1) :: (nat_lit 244, (x244 P).1) :: (nat_lit 250, (x250 P).1) :: (nat_lit 251, (x251 P).1) :: (nat_lit 253, (x253 P).1) :: (nat_lit 254, (x254 P).1) :: (nat_lit 266, (x266 P).1) :: (nat_lit 272, (x272 P).1) :: (nat_lit 273, (x273 P).1) :: (nat_lit 279, (x279 P).1) :: (nat_lit 280, (x280 P).1) :: (nat_lit 286, (x286 P).1) :: (nat_lit 287, (x287 P).1) :: (nat_lit 289, (x289 P).1) :: (nat_lit 290, (x290 P).1) :: (nat_lit 302, (x302 P).1) :: (nat_lit 308, (x308 P).1) :: (nat_lit 309, (x309 P).1) :: (nat_lit 315, (x315 P).1) :: (nat_lit 316, (x316 P).1) :: (nat_lit 322, (x322 P).1) :: (nat_lit 323, (x323 P).1) :: (nat_lit 329, (x329 P).1) :: (nat_lit 330, (x330 P).1) :: (nat_lit 336, (x336 P).1) :: (nat_lit 337, (x337 P).1) :: (nat_lit 339, (x339 P).1) :: (nat_lit 340, (x340 P).1) :: (nat_lit 352, (x352 P).1) :: (nat_lit 358, (x358 P).1) :: (nat_lit 359, (x359 P).1) :: (nat_lit 365, (x365 P).1) :: (nat_lit 366, (x366 P).1) :: (nat_lit 372, (x372 P).1) :: (nat_lit 373, (x373 P).1) :: (nat_lit 379, (x379 P).1) :: (nat_lit 380, (x380 P).1) :: (nat_lit 386, (x386 P).1) :: (nat_lit 387, (x387 P).1) :: (nat_lit 389, (x389 P).1) :: (nat_lit 390, (x390 P).1) :: (nat_lit 400, (x400 P).1) :: (nat_lit 401, (x401 P).1) :: (nat_lit 494, (x494 P).1) :: (nat_lit 495, (x495 P).1) :: (nat_lit 507, (x507 P).1) :: (nat_lit 513, (x513 P).1) :: (nat_lit 514, (x514 P).1) :: (nat_lit 516, (x516 P).1) :: (nat_lit 517, (x517 P).1) :: (nat_lit 555, (x555 P).1) :: (nat_lit 556, (x556 P).1) :: (nat_lit 565, (x565 P).1) :: (nat_lit 566, (x566 P).1) :: (nat_lit 583, (x583 P).1) :: (nat_lit 584, (x584 P).1) :: (nat_lit 586, (x586 P).1) :: (nat_lit 587, (x587 P).1) :: (nat_lit 1113, (x1113 P).1) :: (nat_lit 1119, (x1119 P).1) :: (nat_lit 1120, (x1120 P).1) :: (nat_lit 1126, (x1126 P).1) :: (nat_lit 1127, (x1127 P).1) :: (nat_lit 1133, (x1133 P).1) :: (nat_lit 1134, (x1134 P).1) :: (nat_lit 1136, (x1136 P).1) :: (nat_lit 1137, (x1137 P).1) :: (nat_lit 1147, (x1147 P).1) :: (nat_lit 1153, (x1153 P).1) :: (nat_lit 1154, (x1154 P).1) :: (nat_lit 1170, (x1170 P).1) :: (nat_lit 1171, (x1171 P).1) :: (nat_lit 1186, (x1186 P).1) :: (nat_lit 1187, (x1187 P).1) :: (nat_lit 1193, (x1193 P).1) :: (nat_lit 1194, (x1194 P).1) :: (nat_lit 1200, (x1200 P).1) :: (nat_lit 1201, (x1201 P).1) :: (nat_lit 1203, (x1203 P).1) :: (nat_lit 1204, (x1204 P).1) :: (nat_lit 1212, (x1212 P).1) :: (nat_lit 1213, (x1213 P).1) :: (nat_lit 1219, (x1219 P).1) :: (nat_lit 1220, (x1220 P).1) :: (nat_lit 1226, (x1226 P).1) :: (nat_lit 1227, (x1227 P).1) :: (nat_lit 1231, (x1231 P).1) :: (nat_lit 1232, (x1232 P).1) :: []
def KAS : List Addr := nat_lit 2 :: nat_lit 3 :: nat_lit 68 :: nat_lit 69 :: nat_lit 108 :: nat_lit 109 :: nat_lit 129 :: nat_lit 130 :: nat_lit 139 :: nat_lit 140 :: nat_lit 151 :: nat_lit 158 :: nat_lit 159 :: nat_lit 217 :: nat_lit 218 :: nat_lit 230 :: nat_lit 236 :: nat_lit 237 :: nat_lit 243 :: nat_lit 244 :: nat_lit 250 :: nat_lit 251 :: nat_lit 253 :: nat_lit 254 :: nat_lit 266 :: nat_lit 272 :: nat_lit 273 :: nat_lit 279 :: nat_lit 280 :: nat_lit 286 :: nat_lit 287 :: nat_lit 289 :: nat_lit 290 :: nat_lit 302 :: nat_lit 308 :: nat_lit 309 :: nat_lit 315 :: nat_lit 316 :: nat_lit 322 :: nat_lit 323 :: nat_lit 329 :: nat_lit 330 :: nat_lit 336 :: nat_lit 337 :: nat_lit 339 :: nat_lit 340 :: nat_lit 352 :: nat_lit 358 :: nat_lit 359 :: nat_lit 365 :: nat_lit 366 :: nat_lit 372 :: nat_lit 373 :: nat_lit 379 :: nat_lit 380 :: nat_lit 386 :: nat_lit 387 :: nat_lit 389 :: nat_lit 390 :: nat_lit 400 :: nat_lit 401 :: nat_lit 494 :: nat_lit 495 :: nat_lit 507 :: nat_lit 513 :: nat_lit 514 :: nat_lit 516 :: nat_lit 517 :: nat_lit 555 :: nat_lit 556 :: nat_lit 565 :: nat_lit 566 :: nat_lit 583 :: nat_lit 584 :: nat_lit 586 :: nat_lit 587 :: nat_lit 1113 :: nat_lit 1119 :: nat_lit 1120 :: nat_lit 1126 :: nat_lit 1127 :: nat_lit 1133 :: nat_lit 1134 :: nat_lit 1136 :: nat_lit 1137 :: nat_lit 1147 :: nat_lit 1153 :: nat_lit 1154 :: nat_lit 1170 :: nat_lit 1171 :: nat_lit 1186 :: nat_lit 1187 :: nat_lit 1193 :: nat_lit 1194 :: nat_lit 1200 :: nat_lit 1201 :: nat_lit 1203 :: nat_lit 1204 :: nat_lit 1212 :: nat_lit 1213 :: nat_lit 1219 :: nat_lit 1220 :: nat_lit 1226 :: nat_lit 1227 :: nat_lit 1231 :: nat_lit 1232 :: []
end Mine
end
section
open PySem PySem.W PyProof.Rows
open PySem.Sem (wp)
set_option Elab.async false
set_option maxRecDepth 100000
set_option maxHeartbeats 4000000
namespace Mine
/-- the built-ins that keep a bytearray exported while they run -/
def badCode : Code → Bool
  | .builtin id _ => Builtin.Bytes.decodersThatHold.contains id || (["bytearray.__contains__", "bytearray.__mod__", "bytearray.__rmod__", "_struct.pack_into.held", "bytearray.find.held"] : List String).contains id
  | _ => false
/-- no such built-in runs below -/
def Fair (l : List (Code × Pos)) : Prop := ∀ x ∈ l, badCode x.1 = false
theorem Fair.cons {c : Code} {p : Pos} {l : List (Code × Pos)} (hc : badCode c = false) (h : Fair l) : Fair ((c, p) :: l) := fun x hx => by
  rcases List.mem_cons.mp hx with rfl | hx
  · exact hc
  · exact h x hx

/-- the library's wpAny, over the contexts that are fair -/
def wpN {α : Type} (M : Model) (A : Around) (t : Sem α) (Q : α → Shared → Prop) (E : Value → Shared → Prop) (s : Shared) : Prop :=
  ∀ Γ p, Γ.In A → badCode Γ.code = false → Fair Γ.below → wp M Γ t (fun a _ s' => Q a s') (fun e _ s' => E e s') p s
def codeN (M : Model) (A : Around) (c : Code) (R : Result → Shared → Prop) (s : Shared) : Prop :=
  ∀ Γ p, Γ.code = c → Γ.Below A → Fair Γ.below → wpCode M Γ R p s

section
variable {α β : Type} {M : Model} {A : Around} {E : Value → Shared → Prop} {s : Shared}
theorem wpN_any {t : Sem α} {Q : α → Shared → Prop} (h : wpAny M A t Q E s) : wpN M A t Q E s := fun Γ p hΓ _ _ => h Γ p hΓ
theorem codeN_any {c : Code} {R : Result → Shared → Prop} (h : codeAny M A c R s) : codeN M A c R s := fun Γ p hc hΓ _ => h Γ p hc hΓ
theorem wpN_mono {t : Sem α} {Q Q' : α → Shared → Prop} {E' : Value → Shared → Prop} (h : wpN M A t Q E s) (hQ : ∀ a s, Q a s → Q' a s) (hE : ∀ e s, E e s → E' e s) : wpN M A t Q' E' s :=
  fun Γ p hΓ hb hf => Sem.wp_mono M Γ t (fun a _ s => hQ a s) (fun e _ s => hE e s) p s (h Γ p hΓ hb hf)
theorem wpN_pure {a : α} {Q : α → Shared → Prop} (h : Q a s) : wpN M A (pure a) Q E s := fun _ _ _ _ _ => h
theorem wpN_bind {m : Sem α} {f : α → Sem β} {Q : β → Shared → Prop} (h : wpN M A m (fun a s' => wpN M A (f a) Q E s') E s) : wpN M A (m >>= f) Q E s := fun Γ p hΓ hb hf => by
  rw [Sem.wp_bind']
  exact Sem.wp_mono M Γ m (fun a p' s' h' => h' Γ p' hΓ hb hf) (fun _ _ _ h' => h') p s (h Γ p hΓ hb hf)
/-- first a part that the library's rules walk, then the rest -/
theorem wpN_then {m : Sem α} {f : α → Sem β} {Q : β → Shared → Prop} (h : wpAny M A m (fun a s' => wpN M A (f a) Q E s') E s) : wpN M A (m >>= f) Q E s := wpN_bind (wpN_any h)
theorem wpN_map {m : Sem α} {f : α → β} {Q : β → Shared → Prop} (h : wpN M A m (fun a s' => Q (f a) s') E s) : wpN M A (f <$> m) Q E s := fun Γ p hΓ hb hf => by rw [Sem.wp_map]; exact h Γ p hΓ hb hf
theorem wpN_tryCatch {m : Sem α} {k : Value → Sem α} {Q : α → Shared → Prop} (h : wpN M A m Q (fun e s' => wpN M A (k e) Q E s') s) : wpN M A (tryCatch m k) Q E s := fun Γ p hΓ hb hf => by
  rw [Sem.wp_tryCatch']
  exact Sem.wp_mono M Γ m (fun _ _ _ h' => h') (fun e p' s' h' => h' Γ p' hΓ hb hf) p s (h Γ p hΓ hb hf)
theorem wpN_onRaise {m : Sem α} {k : Value → Sem Unit} {Q : α → Shared → Prop} (h : wpN M A m Q (fun e s' => wpN M A (k e) (fun _ s'' => E e s'') E s') s) : wpN M A (m.onRaise k) Q E s := fun Γ p hΓ hb hf => by
  rw [Sem.wp_onRaise]
  exact Sem.wp_mono M Γ m (fun _ _ _ h' => h') (fun e p' s' h' => h' Γ p' hΓ hb hf) p s (h Γ p hΓ hb hf)
theorem wpN_keep {vs : List Value} {m : Sem α} {Q : α → Shared → Prop} (h : wpN M A m Q E s) : wpN M A (m.keep vs) Q E s := fun Γ p hΓ hb hf => by rw [Sem.wp_keep]; exact h Γ p hΓ hb hf
theorem wpN_holding {vs : List Value} {m : Sem α} {Q : α → Shared → Prop} (h : wpN M A m Q E s) : wpN M A (holding vs m) Q E s := fun Γ p hΓ hb hf => by rw [Sem.wp_holding]; exact h Γ p hΓ hb hf
theorem wpN_operate {vs : List Value} {m : Sem Value} {Q : Value → Shared → Prop} (h : wpN M A m Q E s) : wpN M A (operate vs m) Q E s := fun Γ p hΓ hb hf => by rw [Sem.wp_operate]; exact h Γ p hΓ hb hf
theorem wpN_standAt {pos : Pos} {Q : Unit → Shared → Prop} (h : Q () s) : wpN M A (standAt pos) Q E s := fun _ _ _ _ _ => h
theorem wpN_rule {tag : String} {Q : Unit → Shared → Prop} (h : Q () s) : wpN M A (rule tag) Q E s := fun _ _ _ _ _ => h
theorem wpN_ite {c : Prop} [Decidable c] {a b : Sem α} {Q : α → Shared → Prop} (h : if c then wpN M A a Q E s else wpN M A b Q E s) : wpN M A (if c then a else b) Q E s := by split <;> simp_all
theorem wpN_units_le {t : Sem α} {Q : α → Shared → Prop} {u : Nat} (h : wpN M A t Q E s) (hu : u ≤ A.units) : wpN M { A with units := u } t Q E s :=
  fun Γ p hΓ hb hf => h Γ p (hΓ.units_le hu) hb hf
theorem wpN_of_in1 {t : Sem α} {Q : α → Shared → Prop} (h : wpN M A.in1 t Q E s) : wpN M A t Q E s :=
  fun Γ p hΓ hb hf => h Γ p ⟨hΓ.1, hΓ.2.1, hΓ.2.2.1, hΓ.2.2.2.1, Nat.le_succ_of_le hΓ.2.2.2.2⟩ hb hf

theorem wpN_run {c : Code} {h : Option Value} {Q : Flow → Shared → Prop} (hc : codeN M (A.mark h) c (fun r s' => match r with | .ok f => Q f s' | .error e => E e s') s) (hnb : h ≠ some byPass := by intro x; cases x) :
    wpN M A (run c h) Q E s := fun Γ p hΓ hb hf => by rw [Sem.wp_run]; exact hc _ p rfl (hΓ.enter c h p hnb) (Fair.cons hb hf)
theorem wpN_runValue {c : Code} {Q : Value → Shared → Prop} (hc : codeN M A c (fun r s' => match r with | .ok (.ret v) => Q v s' | .ok _ => False | .error e => E e s') s) : wpN M A (runValue c) Q E s :=
  fun Γ p hΓ hb hf => by rw [Sem.wp_runValue]; exact hc _ p rfl (hΓ.enter c none p (by intro x; cases x)) (Fair.cons hb hf)
theorem wpN_call {f : Value} {pos : List Value} {kw : List (Str × Value)} {Q : Value → Shared → Prop} (hc : codeN M A (.call f ⟨pos, kw⟩) (fun r s' => match r with | .ok (.ret v) => Q v s' | .ok _ => False | .error e => E e s') s) :
    wpN M A (call f pos kw) Q E s := wpN_runValue hc
theorem codeN_mono {c : Code} {R R' : Result → Shared → Prop} (h : codeN M A c R s) (hR : ∀ r s, R r s → R' r s) : codeN M A c R' s := fun Γ p hc hΓ hf => wpCode_mono hR (h Γ p hc hΓ hf)
theorem codeN_of_tree {c : Code} {R : Result → Shared → Prop} (hb : badCode c = false)
    (h : wpN M (A.under c) (M.den c) (fun fin s' => match fin with | .done f => R (.ok f) s' | .again c' => c'.quiet = true ∧ codeN M A c' R s') (fun e s' => R (.error e) s') s) : codeN M A c R s := fun Γ p hc hΓ hf => by
  rw [wpCode_iff_wp, hc]
  refine Sem.wp_mono M Γ _ (fun fin p' s' h' => ?_) (fun _ _ _ h' => h') p s (h Γ p (hc ▸ hΓ.in) (by rw [hc]; exact hb) hf)
  cases fin with
  | done f => exact h'
  | again c' => exact ⟨h'.1, h'.2 (Γ.goto c') p' rfl (hΓ.goto c') hf⟩
/-- the tree of a code, walked by the library's rules up to the code that it hands on to -/
theorem codeN_of_any {c : Code} {R : Result → Shared → Prop} (hb : badCode c = false)
    (h : wpAny M (A.under c) (M.den c) (fun fin s' => match fin with | .done f => R (.ok f) s' | .again c' => c'.quiet = true ∧ codeN M A c' R s') (fun e s' => R (.error e) s') s) : codeN M A c R s :=
  codeN_of_tree hb (wpN_any h)
/-- a code that comes round: turn by turn, then another code or an end -/
theorem codeN_loop {c : Code} {R : Result → Shared → Prop} (hb : badCode c = false) (hq : c.quiet = true) (I : Nat → Shared → Prop)
    (turn : ∀ n s, I n s → wpN M (A.under c) (M.den c) (fun fin s' => match fin with | .done f => R (.ok f) s' | .again c' => (c' = c ∧ ∃ m, m < n ∧ I m s') ∨ (c'.quiet = true ∧ codeN M A c' R s')) (fun e s' => R (.error e) s') s)
    (n : Nat) (h : I n s) : codeN M A c R s := by
  induction n using Nat.strongRecOn generalizing s with
  | ind n ih =>
    refine codeN_of_tree hb (wpN_mono (turn n s h) (fun fin s' hf => ?_) fun _ _ h' => h')
    cases fin with
    | done f => exact hf
    | again c' =>
      rcases hf with ⟨rfl, m, hm, hI⟩ | hf
      · exact ⟨hq, ih m hm hI⟩
      · exact hf

theorem exported_none {l : List (Code × Pos)} (self : Value) (h : Fair l) : (l.any fun
    | (.builtin "bytearray.__contains__" ⟨v :: _, _⟩, _) | (.builtin "bytearray.__mod__" ⟨v :: _, _⟩, _)
    | (.builtin "bytearray.__rmod__" ⟨_ :: v :: _, _⟩, _) | (.builtin "_struct.pack_into.held" ⟨v :: _, _⟩, _) => Builtin.Bytes.sameRef v self
    | (.builtin "bytearray.find.held" ⟨_ :: _ :: held, _⟩, _) => held.any (Builtin.Bytes.sameRef self)
    | (.builtin id ⟨v :: _, _⟩, _) => Builtin.Bytes.sameRef v self && Builtin.Bytes.decodersThatHold.contains id
    | _ => false) = false := by
  rw [List.any_eq_false]
  intro x hx
  have hb := h x hx
  split <;> simp_all [badCode]
theorem wpN_exported {self : Value} {Q : Bool → Shared → Prop} (h : Q false s) : wpN M A (Builtin.Bytes.exported self) Q E s := fun Γ p _ hb hf => by
  have e := exported_none (l := (Γ.code, p) :: Γ.below) self (Fair.cons hb hf)
  exact Eq.mpr (congrArg (fun b => Q b s) e) h
end

section
variable {prog : Program} {w : World} {A : Around} {R : Result → Shared → Prop} {s : Shared}
theorem codeN_builtin {id : String} {args : Args} {b : Builtin} (hbad : badCode (.builtin id args) = false) (hb : entryFor table id = some b)
    (h : wpN (model prog w) (A.under (.builtin id args)) (b args) (fun fin s' => match fin with | .done f => R (.ok f) s' | .again c' => c'.quiet = true ∧ codeN (model prog w) A c' R s') (fun e s' => R (.error e) s') s) :
    codeN (model prog w) A (.builtin id args) R s := by
  refine codeN_of_tree hbad ?_
  show wpN _ _ (match entryFor table id with | some b => b args | none => unsupported ((withoutEnding? id "#data").getD id)) _ _ s
  rw [hb]; exact h
theorem codeN_func {body : List Stmt} {env : Env}
    (h : wpN (model prog w) (A.deeper env) (execs body env) (fun f s' => R (.ok (.ret (match f with | .ret v => v | _ => .none))) s')
      (fun e s' => wpN (model prog w) (A.deeper env) (leaving env e) (fun _ s'' => R (.error e) s'') (fun e' s'' => R (.error e') s'') s') s) : codeN (model prog w) A (.func body env) R s := by
  refine codeN_of_tree rfl ?_
  show wpN _ (A.deeper env) (do point; match ← (execs body env).onRaise (leaving env) with | .ret v => ret v | _ => ret .none) _ _ s
  refine wpN_then (wpAny_point (wpN_bind (wpN_onRaise (wpN_mono h (fun f s' h' => ?_) fun _ _ h' => h'))))
  cases f <;> exact wpN_pure h'
theorem codeN_call_function {a : Addr} {args : Args} {o : Obj} {fd : FuncData} {body : List Stmt} (hroom : A.depth < recursionLimit) (ho : s.heap.get? a = some o)
    (hd' : o.data = .func fd) (hco : fd.scope.isCoroutine = false) (hgen : fd.scope.isGenerator = false) (hbody : fd.body = .stmts body) (hcd : s.heap.CodeRec fd.code fd.qualname)
    (h : wpAny (model prog w) A.in1 (bindArgs fd args) (fun binds s₁ =>
      wpAny (model prog w) A.in1 (newFunctionEnv fd.scope fd.globals fd.closure binds (fd.qualname ++ ".<locals>.") (some a) fd.code none fd.builtins)
        (fun env s₂ => s₂.heap.NoLimit ∧ codeN (model prog w) A (.func body env) R s₂) (fun e s' => R (.error e) s') s₁) (fun e s' => R (.error e) s') s) :
    codeN (model prog w) A (.call (.ref a) args) R s := by
  refine codeN_of_any rfl ?_
  show wpAny _ A.in1 (callAny (.ref a) args) _ _ s
  simp only [callAny]
  refine wpAny_bind (wpAny_load ho ?_)
  obtain ⟨c, oc, vs, tq, hc, hoc, hdc, hq⟩ := hcd
  simp only [hd', callFunction, hco, hgen, hbody, hc]
  rw [hc] at h
  refine wpAny_bind (m := field (.ref c) 1) (wpAny_field hoc hdc hq (wpAny_bind (wpAny_pure ?_)))
  exact wpAny_bind (wpAny_mono h (fun binds s₁ h₁ => wpAny_bind (wpAny_mono h₁ (fun env s₂ h₂ => wpAny_bind (wpAny_enterFrame h₂.1 hroom (wpAny_pure (And.intro rfl h₂.2)))) fun _ _ h' => h')) fun _ _ h' => h')
theorem codeN_call_builtin_code {id : String} {args : Args} (hq : (Code.builtin id args).quiet = true)
    (h : wpAny (model prog w) A.in1 (checkBuiltinCall id args) (fun _ s₁ => codeN (model prog w) A (.builtin id args) R s₁) (fun e s' => R (.error e) s') s) :
    codeN (model prog w) A (.call (.builtin id) args) R s := by
  refine codeN_of_any rfl ?_
  show wpAny _ A.in1 (do checkBuiltinCall id args; again (.builtin id args)) _ _ s
  exact wpAny_bind (wpAny_mono h (fun _ s₁ h₁ => wpAny_pure (And.intro hq h₁)) fun _ _ h' => h')
end
end Mine
end
section
open PySem PySem.W PyProof.Rows PySem.Calls
set_option Elab.async false
set_option maxRecDepth 100000
set_option maxHeartbeats 4000000
namespace Mine
theorem fair_start : badCode (.builtin "claim.caller" {}) = false := by decide +kernel
theorem ends_fair {prog : Program} {w : World} {t : Sem Fin} {s : Shared} {R : Result → Shared → Prop} (hreg : s.asleep)
    (h : wpN (model prog w) callerA t (fun fin s' => ∃ f, fin = .done f ∧ (R (.ok f) s' ∧ leftWithCleanup s'.gens = false)) (fun e s' => R (.error e) s' ∧ leftWithCleanup s'.gens = false) s) :
    ∃ n r s' s'', runN (denote table) prog w n s ⟨t, .builtin "claim.caller" {}, default, []⟩ = .halted (outcomeOf r) s' ∧
      schedN (denote table) prog w n (.single s ⟨t, .builtin "claim.caller" {}, default, []⟩) = .halted (outcomeOf r) s' ∧ s'.forget = s''.forget ∧ R r s'' := by
  obtain ⟨n, r, s₁, s₂, hs, hn, hfo, hR⟩ := wp_halts_full (M := model prog w) (R := R) (p := default) hreg
    (Sem.wp_mono _ _ t (fun fin _ s' ⟨f, e, q⟩ => by subst e; exact q) (fun _ _ _ q => q) default s (h _ default caller_in fair_start fun _ hx => nomatch hx))
  exact ⟨n, r, s₂, s₁, hn, hs, hfo, hR⟩
theorem callFrom_fair {c : ClaimW} {tree : List Value → Sem Fin} {w : World} {s : Shared} {free : Addr → Prop} {gens : Prop} {kept : Heap → Prop} (hz : s.asleep) (hgens : s.gens = #[])
    (hspec : ∀ args, c.pre args = true → WData.layableAll args = true → ∀ ord : List DictEntry → List DictEntry, (∀ l, (ord l).Perm l) →
      ∃ vs s₁, layAllW c.records (classAt s.heap) w.params ord args s = some (vs, s₁) ∧
        wpN (model c.prog w) callerA (tree vs) (fun fin s' => ∃ f, fin = .done f ∧ (c.Ends s args vs s₁ (.ok f) s' ∧ s'.os = s.os ∧ AllBare s'.gens ∧ kept s'.heap))
          (fun e s' => c.Ends s args vs s₁ (.error e) s' ∧ s'.os = s.os ∧ AllBare s'.gens ∧ kept s'.heap) s₁) :
    c.CallFrom (fun vs => ⟨tree vs, .builtin "claim.caller" {}, default, []⟩) w free gens kept s := by
  intro args hpre hlay ord hord
  obtain ⟨vs, s₁, hlaid, hcode⟩ := hspec args hpre hlay ord hord
  have hal := layAllW_rest _ _ _ hlaid
  have hrun := ends_fair (prog := c.prog) (w := w) (t := tree vs) (s := s₁) (R := fun r s' => c.Ends s args vs s₁ r s' ∧ s'.os = s.os ∧ kept s'.heap) (Shared.asleep_of_life hal.2.2.2 hz)
    (wpN_mono hcode (fun fin s' ⟨f, e, h1, h2, h3, h4⟩ => ⟨f, e, ⟨h1, h2, h4⟩, leftWithCleanup_false_of_bare h3⟩) fun e s' ⟨h1, h2, h3, h4⟩ => ⟨⟨h1, h2, h4⟩, leftWithCleanup_false_of_bare h3⟩)
  obtain ⟨k, r, s', s'', hk, hsched, hfo, hcase, hos, hkp⟩ := hrun
  obtain ⟨eh, _, _, eo, _⟩ := Shared.forget_eq hfo
  have hlife : s'.heap.life = s.heap.life := (runN_life _ _ _ hk).trans hal.2.2.2
  refine ⟨vs, s₁, hlaid, k, _, s', hsched, ?_, (fun _ i x hx => by rw [hgens] at hx; simp at hx), (by rw [eh]; exact hkp), by rw [hlife], Shared.rest_eq (eo.trans hos)⟩
  rcases ClaimW.Ends.congr eh hcase with ⟨v, rfl, d1, d2, d3, d4, d5⟩ | ⟨e, ob, cls, rfl, d1, d2, d3, d4, d5⟩
  · exact .inl ⟨v, rfl, d1, d2, d3, fun b o y _ => d4 b o y, d5⟩
  · exact .inr ⟨e, ob, cls, rfl, d1, d2, d3, d4, fun b o y _ => d5 b o y⟩

/-- what is left of a row behind its head, over fair contexts -/
abbrev WalkF (q : Program) (loose : List Str) (XP : (Str → Option Value) → Heap → Prop) (YP : World → Heap → Prop) (r : RowW) (d : DefRec) (kwd : List (Str × Expr)) : Prop :=
  ∀ (w : World) (s₀ s₁ : Shared) (mg mb : Str → Option Value), Ground q loose r.records XP w s₀ mg mb s₁.heap → YP w s₁.heap → ∀ (a : Addr) (o : Obj) (pm cd doc dV kV : Value), s₁.heap.get? a = some o →
    o.data = .func { docDef d.name d.params d.body d.scope pm cd doc with defaults := dV, kwdefaults := kV } → s₁.heap.CodeRec cd d.name → Dflts mg s₁.heap d.params kwd dV kV → mg d.name = some (.ref a) → s₁.gens = #[] →
    ∀ (args : List WData) (vals : List Value) (as : List Addr), r.claim.pre args = true → WData.layableAll args = true → ReadsAllW r.records (classAt s₀.heap) s₁.heap vals args as → WellAll w.params s₁.heap vals args → (∀ a ∈ as, (a == sysModules) = false) →
      wpN (model r.prog w) callerA (PySem.call (.ref a) vals) (fun v s' => GoodWG r.claim (classAt s₀.heap) (ExcName.means s₀.heap) args s₁ (.ok (.ret v)) s')
        (fun e s' => GoodWG r.claim (classAt s₀.heap) (ExcName.means s₀.heap) args s₁ (.error e) s') s₁

end Mine
end
section
open PySem PySem.W PyProof.Rows
set_option Elab.async false
namespace Mine
/-- the statements that the head keeps -/
def V : Program := { PySem.Challenge.rw_bj5003_01.row.prog with main := { PySem.Challenge.rw_bj5003_01.row.prog.main with body := ([0, 1, 2, 4, 5, 9, 11, 12, 13, 14, 15, 16, 17, 18, 20, 21, 23, 24, 25, 26, 27, 28, 29, 30, 31, 32, 33, 34, 36, 37, 38, 39, 40, 41, 42, 43, 44, 45, 46, 47, 48, 49, 51, 52, 54, 56, 57, 58, 59] : List Nat).filterMap (fun i => PySem.Challenge.rw_bj5003_01.row.prog.main.body[i]?) } }
/-- the names that the head leaves loose -/
abbrev LS0 : List Str := ["btox", "xtob", "PCI", "PCI_comm", "PDUData", "ethernet_re", "old_hex_re", "net_old_hex_re", "combined_pattern", "Address", "LocalStation", "LocalBroadcast", "PCI_pdu", "PDU", "BVLCI", "BVLPDU", "Result", "WriteBroadcastDistributionTable", "ReadBroadcastDistributionTableAck", "ForwardedNPDU", "RegisterForeignDevice", "ReadForeignDeviceTable", "ReadForeignDeviceTableAck", "DeleteForeignDeviceTableEntry", "BIPSAP", "BIPSimple", "Recorder"]
/-- and those that the view does not speak of -/
abbrev LS : List Str := ("btox" : Str) :: ("xtob" : Str) :: ("PCI" : Str) :: ("PCI_comm" : Str) :: ("PDUData" : Str) :: ("ethernet_re" : Str) :: ("old_hex_re" : Str) :: ("net_old_hex_re" : Str) :: ("combined_pattern" : Str) :: ("Address" : Str) :: ("LocalStation" : Str) :: ("LocalBroadcast" : Str) :: ("PCI_pdu" : Str) :: ("PDU" : Str) :: ("BVLCI" : Str) :: ("BVLPDU" : Str) :: ("Result" : Str) :: ("WriteBroadcastDistributionTable" : Str) :: ("ReadBroadcastDistributionTableAck" : Str) :: ("ForwardedNPDU" : Str) :: ("RegisterForeignDevice" : Str) :: ("ReadForeignDeviceTable" : Str) :: ("ReadForeignDeviceTableAck" : Str) :: ("DeleteForeignDeviceTableEntry" : Str) :: ("BIPSAP" : Str) :: ("BIPSimple" : Str) :: ("Recorder" : Str) :: ("Client" : Str) :: ("Server" : Str) :: ("ServiceAccessPoint" : Str) :: ("ApplicationServiceElement" : Str) :: ("_sre" : Str) :: ("pack" : Str) :: ("unpack" : Str) :: []
/-- what is to be shown of the law itself -/
def Walked : Prop := ∀ d kwd, defOf V PySem.Challenge.rw_bj5003_01.row.name = some (d, kwd) → WalkF V LS0 (XL V []) (kHook Mine.KF Mine.KAS (fun _ => by kernel_rfl)).says PySem.Challenge.rw_bj5003_01.row.toRowW d kwd
end Mine
end
section
open PySem PySem.W PyProof.Rows PySem.Calls
set_option maxRecDepth 100000
set_option maxHeartbeats 4000000
namespace Mine
theorem te1 : ("TypeError" : Str) ∉ startupNames := by decide +kernel
theorem te2 : ("TypeError" : Str) ∉ LS := by decide +kernel
theorem te3 : ("TypeError" : Str) ∉ (recsOf V).map (·.name) := by decide +kernel
theorem te4 : ("TypeError" : Str) ∉ (litsOf V).map (·.1) := by decide +kernel
theorem te5 : ("TypeError" : Str) ∉ (clssOf V LS).map (·.name) := by decide +kernel
theorem te6 : ("TypeError" : Str) ≠ "__name__" := by decide +kernel
theorem ni1 : ("NotImplementedError" : Str) ∉ startupNames := by decide +kernel
theorem ni2 : ("NotImplementedError" : Str) ∉ LS := by decide +kernel
theorem ni3 : ("NotImplementedError" : Str) ∉ (recsOf V).map (·.name) := by decide +kernel
theorem ni4 : ("NotImplementedError" : Str) ∉ (litsOf V).map (·.1) := by decide +kernel
theorem ni5 : ("NotImplementedError" : Str) ∉ (clssOf V LS).map (·.name) := by decide +kernel
theorem ni6 : ("NotImplementedError" : Str) ≠ "__name__" := by decide +kernel
end Mine
end
section
open PySem PySem.W PyProof.Rows PySem.Calls
open PySem.Sem (wp)
set_option Elab.async false
set_option maxRecDepth 100000
set_option maxHeartbeats 8000000
namespace Mine.PySem.W
open Mine
/-- the library's theorem of the head, over fair contexts; what is to be shown of the law itself is found as a fact at hand -/
theorem holds_open [hW : Nonempty Mine.Walked] {r : OpenRow} {q : Program} {loose : List Str} {Xt : Shared → Bool} {XP : (Str → Option Value) → Heap → Prop} {α : Type} {Yf : Shared → α} {Ya : World → α} {YP : World → Heap → Prop} {d : DefRec} {kwd : List (Str × Expr)} {N : Nat}
    (left : LeftO r.prog q loose Xt Yf Ya N) (hY : ∀ w s, Yf s = Ya w → YP w s.heap) (hYk : ∀ w h h', YP w h → (∀ b o, h.get? b = some o → h'.get? b = some o) → YP w h')
    (hX : ∀ s, Xt s = true → XP (s.heap.nsMap mainGlobals) s.heap) (hXk : ∀ mg h h', XP mg h → (∀ b o, h.get? b = some o → h'.get? b = some o) → XP mg h')
    (hdef : defOf q r.name = some (d, kwd)) (hp : r.prog.theDef r.name = some (d.params, d.body, d.scope)) (hk : kwWritten? d.params.kwonlyargs d.params.kw_defaults = some kwd) (hRf : ∀ s, Xt s = true → RecFacts r.records s.heap) (hwr : (!r.writes || r.records.isEmpty) = true)
    (k1 : r.wellSaid = true) (ok : (chainsOk q && opensWell r.prog && (frees r.toRowW && r.within.isEmpty)) = true) (hb : r.prog.bare) (hw : r.toRowW.promised)
    (call_ : Mine.Walked → WalkF q loose XP YP r.toRowW d kwd) : r.Holds := by
  have call := call_ (hW.elim fun h => h)
  refine ⟨k1, hw, ?_⟩
  obtain ⟨ok, k5⟩ := Bool.and_eq_true_iff.mp ok
  obtain ⟨hch, o1⟩ := Bool.and_eq_true_iff.mp ok
  obtain ⟨k5, k6⟩ := Bool.and_eq_true_iff.mp k5
  obtain ⟨hsame, hu, ha, hap, hm⟩ := frees_parts k5
  have top (w : World) := left.behind (w := w) (XP := fun mg h => XP mg h ∧ RecFacts r.records h) (fun s hs => ⟨hX s hs, hRf s hs⟩) hch
  refine ⟨⟨hb, o1, by show r.toRowW.makers.map _ = []; rw [hm]; rfl⟩, hw.witness, fun w => ⟨(top w).1, fun s' hs' => ?_⟩⟩
  obtain ⟨s₀, hf, hg0, s, hT, hz, hgens, hg, G00, y⟩ := (top w).2 s' hs'
  have G0 : Ground q loose [] XP w s (s.heap.nsMap mainGlobals) (s.heap.nsMap builtinsNs) s.heap := ⟨G00.T, G00.B, G00.D, G00.TE, G00.TD, G00.W, G00.X.1, G00.cls, G00.has, G00.apart, G00.once, G00.K⟩
  have RF := G00.X.2
  refine ⟨s₀, hf, hg0, s, hT, fun n hn => ?_, RF.1, RF.2.1, ?_⟩
  · obtain rfl : n = r.name := by split at hn <;> simp_all
    exact pinned_of_view hg G0 hdef hp hk
  have hgens : s.gens = #[] := Array.eq_empty_of_size_eq_zero (beq_iff_eq.mp hgens)
  have G := RF.ground G0
  refine callFrom_fair (c := r.toRowW.claim) (tree := fun vs => do match ← nsGet mainNs r.name with
      | some f => do ret (← PySem.call f vs)
      | none => unsupported "claim.caller:no-such-global") hz hgens fun args hpre hlay ord hord => ?_
  obtain ⟨⟨vs, s₁⟩, hlaid⟩ := Option.isSome_iff_exists.mp (layAllW_isSome (P := w.params) (ord := ord) G.has args r.args s (pre_splitW hpre).1)
  have keeps := layAllW_keeps _ _ _ hlaid
  have hal := layAllW_rest _ _ _ hlaid
  obtain ⟨as, hrd, hin, hold⟩ := reads_layAllW hord _ _ _ hlaid hlay s₁.heap (fun _ _ e => e)
  have L : Laid r.records w s s₁ args vs as := ⟨⟨ord, hord, hlaid⟩, hrd, hin, hold, keeps, hal.1.trans hgens, hal.2.2.1⟩
  have G₁ := G.keeps hXk keeps
  have hi := ident_freeW hu ha hap
  have hwi : r.toRowW.claim.within = [] := List.isEmpty_iff.mp k6
  obtain ⟨a, o, pm, cd, doc, dV, kV, h1, h2, h3, h4, h5⟩ := G₁.fn hdef
  have h := call w s s₁ _ _ G₁ (hYk _ _ _ (hY w s y) keeps) a o pm cd doc dV kV h2 h3 h4 h5 (defOf_name hdef ▸ h1) L.gens args vs as hpre hlay L.reads L.well (L.low G.low)
  have fin {res : Result} {s' : Shared} (g : GoodWG r.toRowW.claim (classAt s.heap) (ExcName.means s.heap) args s₁ res s') := g.laid (c := r.toRowW.claim) hsame hwi hi L
  have kept {res : Result} {s' : Shared} (g : GoodWG r.toRowW.claim (classAt s.heap) (ExcName.means s.heap) args s₁ res s') := namesKept_of hT hg r.keeps keeps g.2.1.old
  refine ⟨vs, s₁, hlaid, wpN_then (wpAny_nsGet G₁.T.g ?_)⟩
  rw [h1]
  refine wpN_bind (wpN_mono h (fun v s' g => wpN_pure ⟨_, rfl, ?_⟩) fun e s' g => ?_)
  · exact ⟨(fin g).1, (fin g).2.1, (fin g).2.2, fun q => ⟨kept g, noTable hwr q⟩⟩
  · exact ⟨(fin g).1, (fin g).2.1, (fin g).2.2, fun q => ⟨kept g, noTable hwr q⟩⟩
end Mine.PySem.W
end
section
open PySem PySem.W PyProof.Rows
set_option maxRecDepth 100000
set_option maxHeartbeats 8000000
namespace Mine.hdd
def tw10015927219063754530 : Nat := 0
def tw10033798692230455340 : Nat := 0
def tw10075055028300304605 : Nat := 0
def tw10080131643540028386 : Nat := 0
def tw10088752079655645405 : Nat := 0
def tw10099171902531798858 : Nat := 0
def tw1010958056970709379 : Nat := 0
def tw10122311024557552934 : Nat := 0
def tw10125784526813101259 : Nat := 0
def tw10138450656979218587 : Nat := 0
def tw10146902988447842808 : Nat := 0
def tw10167817531765082127 : Nat := 0
def tw10188596437797340703 : Nat := 0
def tw10213870308782985812 : Nat := 0
def tw10236236850728857861 : Nat := 0
def tw1024018944770715491 : Nat := 0
def tw10260203405094647692 : Nat := 0
def tw10270606182190448211 : Nat := 0
def tw10277230230117163607 : Nat := 0
def tw10285405877510959444 : Nat := 0
def tw10292942673676047755 : Nat := 0
def tw10306847931408128753 : Nat := 0
def tw1031867250672612250 : Nat := 0
def tw10360404451454078367 : Nat := 0
def tw10375627026432761514 : Nat := 0
def tw1043240619563380189 : Nat := 0
def tw10440547205557213601 : Nat := 0
def tw10444033984966962564 : Nat := 0
def tw10477051706199467668 : Nat := 0
def tw10478966166286831773 : Nat := 0
def tw10490056359506019661 : Nat := 0
def tw10494129169386304060 : Nat := 0
def tw10516562032535117996 : Nat := 0
def tw10522858698589834676 : Nat := 0
def tw10533343791134660068 : Nat := 0
def tw10538927068672999949 : Nat := 0
def tw10577161940738127627 : Nat := 0
def tw10607119628981660132 : Nat := 0
def tw1061062921563262066 : Nat := 0
def tw10614930574131895100 : Nat := 0
def tw10616188578208885084 : Nat := 0
def tw10630620651061361540 : Nat := 0
def tw10648715986151961213 : Nat := 0
def tw10652305388909471273 : Nat := 0
def tw10662678677540578694 : Nat := 0
def tw10674637087185645860 : Nat := 0
def tw10681689513914162955 : Nat := 0
def tw10691614822686782466 : Nat := 0
def tw10708160139259074259 : Nat := 0
def tw10720670615009633553 : Nat := 0
def tw10732519043341409173 : Nat := 0
def tw10739231807741185843 : Nat := 0
def tw10744262194277527315 : Nat := 0
def tw1074688119222859915 : Nat := 0
def tw10746986791066071720 : Nat := 0
def tw10754858231381994843 : Nat := 0
def tw10757901045505843953 : Nat := 0
def tw10791948428139798206 : Nat := 0
def tw10792087748922534889 : Nat := 0
def tw107942276451001861 : Nat := 0
def tw10796456680299290943 : Nat := 0
def tw10815174640149420070 : Nat := 0
def tw10835250285190484482 : Nat := 0
def tw10838944306257647557 : Nat := 0
def tw10874236293924887635 : Nat := 0
def tw10897374423195890444 : Nat := 0
def tw10898917215664706046 : Nat := 0
def tw10902133970211090658 : Nat := 0
def tw10904772432843155689 : Nat := 0
def tw10914932202422173099 : Nat := 0
def tw10938526810389730091 : Nat := 0
def tw10949938622913446492 : Nat := 0
def tw10970199766706752945 : Nat := 0
def tw11004674644009569787 : Nat := 0
def tw11005287809894724992 : Nat := 0
def tw11035885337008088006 : Nat := 0
def tw11064004943104769622 : Nat := 0
def tw11077138664882720373 : Nat := 0
def tw11080316438271844649 : Nat := 0
def tw11099055914029618865 : Nat := 0
def tw11123311588215367871 : Nat := 0
def tw11148406978374091389 : Nat := 0
def tw1119079563359825065 : Nat := 0
def tw11199004267321483219 : Nat := 0
def tw11208929155834570157 : Nat := 0
def tw11224502993178823362 : Nat := 0
def tw11235017311377768363 : Nat := 0
def tw11237309948737486386 : Nat := 0
def tw11243000996678299714 : Nat := 0
def tw11259932204577892258 : Nat := 0
def tw11267107525845124930 : Nat := 0
def tw11267667796206144836 : Nat := 0
def tw11278830700844274344 : Nat := 0
def tw11307700063670449440 : Nat := 0
def tw11312148940558828535 : Nat := 0
def tw11334202568877980450 : Nat := 0
def tw11355673302698794163 : Nat := 0
def tw11362778341728158590 : Nat := 0
def tw11363509664645718516 : Nat := 0
def tw11376304558714662095 : Nat := 0
def tw11382995560689970455 : Nat := 0
def tw11386024708152476570 : Nat := 0
def tw11386305358876207129 : Nat := 0
def tw11389373481177460137 : Nat := 0
def tw11396193309059776496 : Nat := 0
def tw11418376944824820354 : Nat := 0
def tw11427773555944504607 : Nat := 0
def tw11431907116540426913 : Nat := 0
def tw11474029370639807593 : Nat := 0
def tw11482708167965926179 : Nat := 0
def tw11482842221281818418 : Nat := 0
def tw11497336708140851171 : Nat := 0
def tw11506486023087549659 : Nat := 0
def tw11509289962898817074 : Nat := 0
def tw11532467461864206588 : Nat := 0
def tw11536053335814587831 : Nat := 0
def tw11540779651632833647 : Nat := 0
def tw11551377774499732116 : Nat := 0
def tw11554313053309585292 : Nat := 0
def tw11566342438016716539 : Nat := 0
def tw115707117696701610 : Nat := 0
def tw11571597545904391183 : Nat := 0
def tw11573014161689946209 : Nat := 0
def tw11575848133702082038 : Nat := 0
def tw11579246314248830824 : Nat := 0
def tw11581148573242655312 : Nat := 0
def tw11626108263694878850 : Nat := 0
def tw11630782538665635680 : Nat := 0
def tw11634586998967536263 : Nat := 0
def tw11642129156376056107 : Nat := 0
def tw11647400821895715543 : Nat := 0
def tw11659563826156248295 : Nat := 0
def tw11670610584293034294 : Nat := 0
def tw11689456768387925909 : Nat := 0
def tw11695895721210094434 : Nat := 0
def tw11708997474755387637 : Nat := 0
def tw11709523473697588967 : Nat := 0
def tw1172168724222146146 : Nat := 0
def tw11722839689108939134 : Nat := 0
def tw1173538737887679423 : Nat := 0
def tw11746061759663492766 : Nat := 0
def tw1176453280590697581 : Nat := 0
def tw11768695332376910588 : Nat := 0
def tw11841597841251258880 : Nat := 0
def tw11852674495216409481 : Nat := 0
def tw1189455836540015244 : Nat := 0
def tw11899374659318050540 : Nat := 0
def tw11921857157599033307 : Nat := 0
def tw11988327799175277997 : Nat := 0
def tw11993982791012495027 : Nat := 0
def tw11996483367688154854 : Nat := 0
def tw12012271703871256382 : Nat := 0
def tw12013142993191766462 : Nat := 0
def tw12025478235886653186 : Nat := 0
def tw12031721688209746648 : Nat := 0
def tw12036366586247113592 : Nat := 0
def tw12039278055681162567 : Nat := 0
def tw12053600261865869075 : Nat := 0
def tw12076243047993797705 : Nat := 0
def tw12078913796675691649 : Nat := 0
def tw12130984972015884923 : Nat := 0
def tw12143464593584325971 : Nat := 0
def tw12156070414493157407 : Nat := 0
def tw12175603131067376264 : Nat := 0
def tw12185740399842432644 : Nat := 0
def tw12187054666724065733 : Nat := 0
def tw12190380833545424370 : Nat := 0
def tw12192045084357943578 : Nat := 0
def tw12197572175861423390 : Nat := 0
def tw12200185398163771270 : Nat := 0
def tw12203431049362801403 : Nat := 0
def tw12203922435214505406 : Nat := 0
def tw12216676837092226827 : Nat := 0
def tw12224558021739194327 : Nat := 0
def tw12238255999288666249 : Nat := 0
def tw12254632369204075546 : Nat := 0
def tw12330972205232311594 : Nat := 0
def tw12334525566051916779 : Nat := 0
def tw12345663696677379349 : Nat := 0
def tw12356245124210044752 : Nat := 0
def tw12376022351322189253 : Nat := 0
def tw12385323157823337955 : Nat := 0
def tw12387857005735140522 : Nat := 0
def tw12388870911957822630 : Nat := 0
def tw12389186652761168966 : Nat := 0
def tw12415457175871022192 : Nat := 0
def tw1242134980684800535 : Nat := 0
def tw12423284338025949537 : Nat := 0
def tw12449339200060613457 : Nat := 0
def tw12490620183761021952 : Nat := 0
def tw1249581764914613014 : Nat := 0
def tw12551400848313338819 : Nat := 0
def tw12559232569294528127 : Nat := 0
def tw12560060822804680078 : Nat := 0
def tw1256176502378248128 : Nat := 0
def tw12566266024137528212 : Nat := 0
def tw12589569346607370284 : Nat := 0
def tw12610634993996334265 : Nat := 0
def tw12614074863040314842 : Nat := 0
def tw12638375847517005908 : Nat := 0
def tw1266710029488557961 : Nat := 0
def tw12680959055134102117 : Nat := 0
def tw12699974568416273271 : Nat := 0
def tw12705698310657670003 : Nat := 0
def tw12709817328144539939 : Nat := 0
def tw12716513858967810531 : Nat := 0
def tw12724165613757994631 : Nat := 0
def tw12733108576972751537 : Nat := 0
def tw12746741548290966655 : Nat := 0
def tw12761517181466986469 : Nat := 0
def tw12783134539847175828 : Nat := 0
def tw12807004545857789654 : Nat := 0
def tw12818132704278608210 : Nat := 0
def tw12840508705410795184 : Nat := 0
def tw12866838723501714019 : Nat := 0
def tw1289226819522923672 : Nat := 0
def tw12904758736759411709 : Nat := 0
def tw12915931533628783635 : Nat := 0
def tw12923512013855908938 : Nat := 0
def tw12960819706076581706 : Nat := 0
def tw12984051921036216065 : Nat := 0
def tw12988131978162372774 : Nat := 0
def tw12999916866171702621 : Nat := 0
def tw13020898389225885829 : Nat := 0
def tw13051765989577898623 : Nat := 0
def tw13075946900742467806 : Nat := 0
def tw13078249500618200292 : Nat := 0
def tw1307998527075225620 : Nat := 0
def tw1308587524864827091 : Nat := 0
def tw13124047960163502772 : Nat := 0
def tw13124834332520878237 : Nat := 0
def tw13135453108317669974 : Nat := 0
def tw13136926733060035984 : Nat := 0
def tw13169184636117640200 : Nat := 0
def tw13177600034425000581 : Nat := 0
def tw13182148245930298645 : Nat := 0
def tw13223355270126165750 : Nat := 0
def tw13227209049539128886 : Nat := 0
def tw1324974642433610511 : Nat := 0
def tw13259354474211577806 : Nat := 0
def tw13278602090239634023 : Nat := 0
def tw13294372002851300088 : Nat := 0
def tw13301562690102492802 : Nat := 0
def tw13302120134317286044 : Nat := 0
def tw13314936049149846523 : Nat := 0
def tw13321553134076866999 : Nat := 0
def tw13322978546363068626 : Nat := 0
def tw13324117274751808800 : Nat := 0
def tw13333317185302707140 : Nat := 0
def tw13339911704214716697 : Nat := 0
def tw13354860413853395505 : Nat := 0
def tw13371589372882237204 : Nat := 0
def tw13387304245830286189 : Nat := 0
def tw13390409620632529680 : Nat := 0
def tw13395360204251644592 : Nat := 0
def tw1341505955499161043 : Nat := 0
def tw13439117078636674749 : Nat := 0
def tw13503760738902126162 : Nat := 0
def tw13519493087123735468 : Nat := 0
def tw13535823067903488240 : Nat := 0
def tw1354601959811836383 : Nat := 0
def tw13569627050568048983 : Nat := 0
def tw13584889904196073443 : Nat := 0
def tw13601824067916158606 : Nat := 0
def tw13609494907410921698 : Nat := 0
def tw1361435050266204680 : Nat := 0
def tw13620867371759824951 : Nat := 0
def tw1362908027581947503 : Nat := 0
def tw13637537921448390081 : Nat := 0
def tw13645314915744205489 : Nat := 0
def tw1364677530389564229 : Nat := 0
def tw13653481420149938334 : Nat := 0
def tw13677490414108631590 : Nat := 0
def tw13686784479628962873 : Nat := 0
def tw13716710138344511066 : Nat := 0
def tw13723776044610413797 : Nat := 0
def tw13730299530811297457 : Nat := 0
def tw13738321176150965188 : Nat := 0
def tw13743830333781653870 : Nat := 0
def tw13800911923545350181 : Nat := 0
def tw13848008396633143861 : Nat := 0
def tw13848687114314482913 : Nat := 0
def tw13851061351232056102 : Nat := 0
def tw13853709699172909255 : Nat := 0
def tw13860961305265602492 : Nat := 0
def tw13867390236600373618 : Nat := 0
def tw13898662338790912157 : Nat := 0
def tw13900951950924984387 : Nat := 0
def tw13913571392056291773 : Nat := 0
def tw13977719907325220396 : Nat := 0
def tw13983924174797045200 : Nat := 0
def tw14000131248372524541 : Nat := 0
def tw14006916190269819463 : Nat := 0
def tw14039602642074241885 : Nat := 0
def tw1405715969245020688 : Nat := 0
def tw14059098237140554286 : Nat := 0
def tw14059601679227287287 : Nat := 0
def tw14066135572205506416 : Nat := 0
def tw14080784279137085006 : Nat := 0
def tw14086640803159236837 : Nat := 0
def tw14090367489298091892 : Nat := 0
def tw14091180097649332955 : Nat := 0
def tw14121011388427661204 : Nat := 0
def tw14129419875659549901 : Nat := 0
def tw14177079582074940293 : Nat := 0
def tw14178632862442405448 : Nat := 0
def tw14210290123881262732 : Nat := 0
def tw14219875606376388506 : Nat := 0
def tw14225954547212802369 : Nat := 0
def tw14245186239125747682 : Nat := 0
def tw14245782095532627603 : Nat := 0
def tw1424819480009945424 : Nat := 0
def tw14259420649650328302 : Nat := 0
def tw14262990198802157467 : Nat := 0
def tw14266391600859495229 : Nat := 0
def tw14293684395570581918 : Nat := 0
def tw14295216760587328102 : Nat := 0
def tw1431521201996532446 : Nat := 0
def tw14342808861917476548 : Nat := 0
def tw14345810977313084597 : Nat := 0
def tw14355117136170889698 : Nat := 0
def tw14357551249272643603 : Nat := 0
def tw14366457284848655261 : Nat := 0
def tw14367041014187970879 : Nat := 0
def tw14372902771154435351 : Nat := 0
def tw14373089062105129735 : Nat := 0
def tw14390290941357366744 : Nat := 0
def tw14396242664046366554 : Nat := 0
def tw14433435317779534217 : Nat := 0
def tw14473860476530144457 : Nat := 0
def tw14493258029499231084 : Nat := 0
def tw1455244990618695646 : Nat := 0
def tw14562328898549427184 : Nat := 0
def tw1458577171697732344 : Nat := 0
def tw14612756287945655693 : Nat := 0
def tw14618971186634803626 : Nat := 0
def tw14647340883654302512 : Nat := 0
def tw14678649136577667078 : Nat := 0
def tw14684487985029442175 : Nat := 0
def tw14706768735675329099 : Nat := 0
def tw14750710010315716429 : Nat := 0
def tw14801185175765662622 : Nat := 0
def tw14803607688254249898 : Nat := 0
def tw14812665852355378528 : Nat := 0
def tw14817387077923841210 : Nat := 0
def tw14858357177376438329 : Nat := 0
def tw14861228121443976191 : Nat := 0
def tw1489715813492455258 : Nat := 0
def tw14917140578938228336 : Nat := 0
def tw14935247938936013287 : Nat := 0
def tw14978903071226259406 : Nat := 0
def tw14991953899423680729 : Nat := 0
def tw15000265884433773852 : Nat := 0
def tw15004152629690773440 : Nat := 0
def tw15024999094115179354 : Nat := 0
def tw15030297124150967886 : Nat := 0
def tw15035010189512100719 : Nat := 0
def tw15091286108752641413 : Nat := 0
def tw15101070420631270278 : Nat := 0
def tw15106788124976173580 : Nat := 0
def tw15139803952407080130 : Nat := 0
def tw15141535833246787743 : Nat := 0
def tw15169228606306453654 : Nat := 0
def tw15181610951878787899 : Nat := 0
def tw15190274422826650806 : Nat := 0
def tw1519650290324945171 : Nat := 0
def tw15197236316569554711 : Nat := 0
def tw15199188922143956519 : Nat := 0
def tw15206664075446670439 : Nat := 0
def tw15242502553612482537 : Nat := 0
def tw15254549521899451795 : Nat := 0
def tw15258119165100628005 : Nat := 0
def tw15274767663673394816 : Nat := 0
def tw15293881937806222288 : Nat := 0
def tw15310564701492615508 : Nat := 0
def tw15318817034969843394 : Nat := 0
def tw15375814676888868774 : Nat := 0
def tw15395886613876481503 : Nat := 0
def tw15396242380171547067 : Nat := 0
def tw15398170156670294568 : Nat := 0
def tw1539884339603489161 : Nat := 0
def tw15407083919564342219 : Nat := 0
def tw15409078760057468618 : Nat := 0
def tw15456364853748850972 : Nat := 0
def tw15456791585651947861 : Nat := 0
def tw15510711518686337643 : Nat := 0
def tw15511176181793568028 : Nat := 0
def tw1552015719007335690 : Nat := 0
def tw15528504064869746048 : Nat := 0
def tw15572506769032565531 : Nat := 0
def tw15578834819502236433 : Nat := 0
def tw1561001628262586427 : Nat := 0
def tw15615059237049943228 : Nat := 0
def tw15648152736177674373 : Nat := 0
def tw15689646111076855084 : Nat := 0
def tw15697797157600083755 : Nat := 0
def tw15719502007065913839 : Nat := 0
def tw15756215513587861408 : Nat := 0
def tw15759212871732520606 : Nat := 0
def tw15785873438069465820 : Nat := 0
def tw15819725161368240112 : Nat := 0
def tw15832706304635302065 : Nat := 0
def tw15876169289172281095 : Nat := 0
def tw15908260356892910445 : Nat := 0
def tw15918117706773755744 : Nat := 0
def tw15926468165810892002 : Nat := 0
def tw15944298998864050966 : Nat := 0
def tw15951878277959368107 : Nat := 0
def tw15954893927770027080 : Nat := 0
def tw15958449017140386705 : Nat := 0
def tw15959499956815956578 : Nat := 0
def tw15968958517685364633 : Nat := 0
def tw15980764827115175271 : Nat := 0
def tw15988117776871972660 : Nat := 0
def tw16019944929847986732 : Nat := 0
def tw16046478899383066751 : Nat := 0
def tw16092750214839273483 : Nat := 0
def tw16101938500529580325 : Nat := 0
def tw16114858001093284996 : Nat := 0
def tw16115417359245667184 : Nat := 0
def tw16121875142303388760 : Nat := 0
def tw16127070434444884914 : Nat := 0
def tw1612861472108776193 : Nat := 0
def tw16131234208728952717 : Nat := 0
def tw16133050763927626928 : Nat := 0
def tw16150363420820973300 : Nat := 0
def tw16174581261367254202 : Nat := 0
def tw16204976033861404991 : Nat := 0
def tw16206544261991122214 : Nat := 0
def tw1621254228107221633 : Nat := 0
def tw16244974743675766088 : Nat := 0
def tw16253721817425859233 : Nat := 0
def tw16263114056574687022 : Nat := 0
def tw1628153664039589406 : Nat := 0
def tw16284477988208765375 : Nat := 0
def tw16290117899185899125 : Nat := 0
def tw16304137350473606893 : Nat := 0
def tw16332543487134298326 : Nat := 0
def tw16360013461545130307 : Nat := 0
def tw16444644245685729351 : Nat := 0
def tw16446236221648643403 : Nat := 0
def tw16447662867158181371 : Nat := 0
def tw16462476206481054303 : Nat := 0
def tw1648285525900776765 : Nat := 0
def tw16497394964813749650 : Nat := 0
def tw16505416059967174966 : Nat := 0
def tw16524694127016910378 : Nat := 0
def tw16563763308265262289 : Nat := 0
def tw16565052318890726414 : Nat := 0
def tw16568708761212064794 : Nat := 0
def tw16596069913931051261 : Nat := 0
def tw16602123530198871285 : Nat := 0
def tw16602593709818704830 : Nat := 0
def tw16652840198813814191 : Nat := 0
def tw16663958742257077095 : Nat := 0
def tw16681250908969796414 : Nat := 0
def tw16695737174549844738 : Nat := 0
def tw16700297191270742880 : Nat := 0
def tw16737708356681449071 : Nat := 0
def tw16754601416365328786 : Nat := 0
def tw16757158329653515262 : Nat := 0
def tw16761859562188542956 : Nat := 0
def tw16764088101589939935 : Nat := 0
def tw16780348493813780117 : Nat := 0
def tw16828444822545249994 : Nat := 0
def tw16844848360842322115 : Nat := 0
def tw16889625949241758982 : Nat := 0
def tw16891551921135843227 : Nat := 0
def tw16900423476213034916 : Nat := 0
def tw1690239173013161049 : Nat := 0
def tw16911005105722701728 : Nat := 0
def tw16923733666187900829 : Nat := 0
def tw16934067303917490091 : Nat := 0
def tw16937494235167386323 : Nat := 0
def tw16956099190873255404 : Nat := 0
def tw17001496664814291508 : Nat := 0
def tw17011398521759757541 : Nat := 0
def tw17047575827745181868 : Nat := 0
def tw1706831516347043612 : Nat := 0
def tw17075587959866143202 : Nat := 0
def tw17089192756777990710 : Nat := 0
def tw17097955237931451728 : Nat := 0
def tw17114029454850082750 : Nat := 0
def tw17126504714356872332 : Nat := 0
def tw17154905288011459113 : Nat := 0
def tw17213149287882635071 : Nat := 0
def tw17221314702139505183 : Nat := 0
def tw1727979366468521965 : Nat := 0
def tw17281651324908380812 : Nat := 0
def tw17284518685295997613 : Nat := 0
def tw17302160875986941437 : Nat := 0
def tw17315659034202735663 : Nat := 0
def tw17324257939358729150 : Nat := 0
def tw17335421474213838172 : Nat := 0
def tw1738636606371113009 : Nat := 0
def tw17430199100527079663 : Nat := 0
def tw17431413025924579322 : Nat := 0
def tw17445564035282452718 : Nat := 0
def tw17464152917149651077 : Nat := 0
def tw17471781920595072453 : Nat := 0
def tw17474150406473459949 : Nat := 0
def tw17483336745027749745 : Nat := 0
def tw17526641138318310779 : Nat := 0
def tw17529305554199224864 : Nat := 0
def tw17535066139863625635 : Nat := 0
def tw17542731245064105457 : Nat := 0
def tw17571833025871607425 : Nat := 0
def tw17572073313369557846 : Nat := 0
def tw17589727628269916914 : Nat := 0
def tw17590703858106656731 : Nat := 0
def tw17590761698383157835 : Nat := 0
def tw17591524879993206519 : Nat := 0
def tw17632873688033053633 : Nat := 0
def tw17677649234100339419 : Nat := 0
def tw17681243376202318329 : Nat := 0
def tw17704554606241853201 : Nat := 0
def tw1771335136022682855 : Nat := 0
def tw1772536625462830662 : Nat := 0
def tw17729076619150656374 : Nat := 0
def tw17729213441360514657 : Nat := 0
def tw17735138284786473656 : Nat := 0
def tw17782316389065081783 : Nat := 0
def tw17782341958307918467 : Nat := 0
def tw17816819362357234443 : Nat := 0
def tw17819390580123130595 : Nat := 0
def tw17883120239069851116 : Nat := 0
def tw17904492793189978651 : Nat := 0
def tw17907916049374423466 : Nat := 0
def tw17916484719291435854 : Nat := 0
def tw1793538856058699379 : Nat := 0
def tw17939681287693079641 : Nat := 0
def tw17940535003323681933 : Nat := 0
def tw17946109773658770064 : Nat := 0
def tw17967614941883605711 : Nat := 0
def tw18002230095303403865 : Nat := 0
def tw18013955378368131684 : Nat := 0
def tw18015572625468440239 : Nat := 0
def tw18065707820938355762 : Nat := 0
def tw18083716698543543364 : Nat := 0
def tw18091833050203155007 : Nat := 0
def tw18092553181909574254 : Nat := 0
def tw18113182273216284242 : Nat := 0
def tw18121315369162434422 : Nat := 0
def tw18158549120374446883 : Nat := 0
def tw18168668779375717990 : Nat := 0
def tw1818942543580577572 : Nat := 0
def tw18215597823383833437 : Nat := 0
def tw1822008661091984651 : Nat := 0
def tw1822469940386018155 : Nat := 0
def tw18228320766415939485 : Nat := 0
def tw18242493400478274293 : Nat := 0
def tw18270545967467327549 : Nat := 0
def tw18270884048210894443 : Nat := 0
def tw1827418488177866775 : Nat := 0
def tw18295770150626967526 : Nat := 0
def tw18306886665184560721 : Nat := 0
def tw18310155469433011434 : Nat := 0
def tw18316726029934112558 : Nat := 0
def tw18322568117191022599 : Nat := 0
def tw18323401786287400275 : Nat := 0
def tw18339332140375907052 : Nat := 0
def tw18349841337668798018 : Nat := 0
def tw18366249055479729986 : Nat := 0
def tw1848584125623965186 : Nat := 0
def tw1883265765134513684 : Nat := 0
def tw1883742607092466169 : Nat := 0
def tw1893495025956303678 : Nat := 0
def tw1927229292803932890 : Nat := 0
def tw1952027913343671552 : Nat := 0
def tw1957687237037037791 : Nat := 0
def tw1971378650823180124 : Nat := 0
def tw1983699709088586933 : Nat := 0
def tw1984682393371935749 : Nat := 0
def tw1986563230436498965 : Nat := 0
def tw2037836609906300917 : Nat := 0
def tw2041241115130735874 : Nat := 0
def tw2075908565164901192 : Nat := 0
def tw2136045209988850481 : Nat := 0
def tw2164727579308484664 : Nat := 0
def tw2232842380447575910 : Nat := 0
def tw2236426880294654681 : Nat := 0
def tw2258854533938480841 : Nat := 0
def tw2261898304138574525 : Nat := 0
def tw2270337528253050323 : Nat := 0
def tw2274232308274605581 : Nat := 0
def tw2292135613154679038 : Nat := 0
def tw229747370643902448 : Nat := 0
def tw2302754491789198787 : Nat := 0
def tw2306318741301787560 : Nat := 0
def tw2313581997754996071 : Nat := 0
def tw2319609301002116792 : Nat := 0
def tw2337599262530155695 : Nat := 0
def tw236753257302952400 : Nat := 0
def tw2374369918033021186 : Nat := 0
def tw2387757100162147176 : Nat := 0
def tw2400747374927817666 : Nat := 0
def tw2409437339630532378 : Nat := 0
def tw2423476597290444569 : Nat := 0
def tw2423487252913633417 : Nat := 0
def tw2424515862557272345 : Nat := 0
def tw2436087680600418042 : Nat := 0
def tw2459645821956865778 : Nat := 0
def tw2460250728612993890 : Nat := 0
def tw2475625863106450129 : Nat := 0
def tw247944702099369762 : Nat := 0
def tw2483487527616382506 : Nat := 0
def tw2505152249907753069 : Nat := 0
def tw2514078531993330327 : Nat := 0
def tw253003198504194418 : Nat := 0
def tw2533571073997091298 : Nat := 0
def tw2546659481003965847 : Nat := 0
def tw2573744284967512935 : Nat := 0
def tw2586725717039424509 : Nat := 0
def tw2590534581603232586 : Nat := 0
def tw2592627530832470228 : Nat := 0
def tw2599136972092399156 : Nat := 0
def tw2607141490728350122 : Nat := 0
def tw2623961119669211575 : Nat := 0
def tw2626450718046717268 : Nat := 0
def tw2630896191692550322 : Nat := 0
def tw2641857483723966835 : Nat := 0
def tw2680899414994156239 : Nat := 0
def tw2705027354170988988 : Nat := 0
def tw2742320492829139394 : Nat := 0
def tw2798041405109841611 : Nat := 0
def tw2821153231310464067 : Nat := 0
def tw2833029482527027604 : Nat := 0
def tw2836913089698913868 : Nat := 0
def tw2868950617617006063 : Nat := 0
def tw2890647218769723756 : Nat := 0
def tw2899108413439237631 : Nat := 0
def tw2945897734105166227 : Nat := 0
def tw3028097629196106852 : Nat := 0
def tw3041865372778245748 : Nat := 0
def tw3056697154131453018 : Nat := 0
def tw3066953345835829246 : Nat := 0
def tw3083822998093773601 : Nat := 0
def tw3083825738523666023 : Nat := 0
def tw3106435363482896593 : Nat := 0
def tw312167841857325833 : Nat := 0
def tw3126778265503396282 : Nat := 0
def tw315698083681473001 : Nat := 0
def tw3158493610147931883 : Nat := 0
def tw3161525415610265 : Nat := 0
def tw3161600198332453898 : Nat := 0
def tw3169612578312863991 : Nat := 0
def tw3173132309251888463 : Nat := 0
def tw3175971134066890599 : Nat := 0
def tw3180252615928021943 : Nat := 0
def tw3192601782479996240 : Nat := 0
def tw3219676090298229505 : Nat := 0
def tw3253458490913414272 : Nat := 0
def tw3277999443334103438 : Nat := 0
def tw3311032288416919205 : Nat := 0
def tw3324791669509431275 : Nat := 0
def tw33292459633014484 : Nat := 0
def tw3383653139316059835 : Nat := 0
def tw3402130180541055439 : Nat := 0
def tw3416577474821400911 : Nat := 0
def tw3480025571403465690 : Nat := 0
def tw3493690814357554289 : Nat := 0
def tw3504556334165749533 : Nat := 0
def tw3548877603862006084 : Nat := 0
def tw3551835599649246332 : Nat := 0
def tw355976473693231951 : Nat := 0
def tw3568150176085849558 : Nat := 0
def tw3577034961636670286 : Nat := 0
def tw3591452575269623142 : Nat := 0
def tw3616761955930204108 : Nat := 0
def tw3665899405307758083 : Nat := 0
def tw3674300815253896329 : Nat := 0
def tw3679365799294544109 : Nat := 0
def tw3685961331381165166 : Nat := 0
def tw3697791336819316125 : Nat := 0
def tw3700271003070307996 : Nat := 0
def tw3719406785398982863 : Nat := 0
def tw3743082366980782444 : Nat := 0
def tw3748523647873921838 : Nat := 0
def tw3787651044069270410 : Nat := 0
def tw3794349958726959024 : Nat := 0
def tw3806837332512666867 : Nat := 0
def tw3822416202955546582 : Nat := 0
def tw3858662254753934177 : Nat := 0
def tw388362486032503499 : Nat := 0
def tw3924923783955438195 : Nat := 0
def tw3933924662737893271 : Nat := 0
def tw3977319796875060023 : Nat := 0
def tw3987463459954504660 : Nat := 0
def tw3990448488243865412 : Nat := 0
def tw4033784125077314622 : Nat := 0
def tw4033952207491409288 : Nat := 0
def tw4074569274049081413 : Nat := 0
def tw4081923725188977812 : Nat := 0
def tw4084886620859472717 : Nat := 0
def tw4101813098717344547 : Nat := 0
def tw412404476555304748 : Nat := 0
def tw4125883974920929265 : Nat := 0
def tw4133720259476407853 : Nat := 0
def tw41511755278672101 : Nat := 0
def tw4173505247812191992 : Nat := 0
def tw4194522989995893663 : Nat := 0
def tw4210809028853231810 : Nat := 0
def tw4218909630140038957 : Nat := 0
def tw4234722650395840761 : Nat := 0
def tw4244472909596241954 : Nat := 0
def tw4251032344087802738 : Nat := 0
def tw4258689942359747453 : Nat := 0
def tw4271734199097639336 : Nat := 0
def tw4311038918433923495 : Nat := 0
def tw4317414198716560250 : Nat := 0
def tw4333527913841420880 : Nat := 0
def tw43559679865992224 : Nat := 0
def tw4370104115684236665 : Nat := 0
def tw4373946220827850153 : Nat := 0
def tw4399072551570154257 : Nat := 0
def tw4405538891681637401 : Nat := 0
def tw4413372821674703094 : Nat := 0
def tw4440056956969656937 : Nat := 0
def tw4454162958645690828 : Nat := 0
def tw4463651695732072236 : Nat := 0
def tw4495782600638423434 : Nat := 0
def tw4518924160409509767 : Nat := 0
def tw4529944669170220091 : Nat := 0
def tw4533266296073973373 : Nat := 0
def tw4537518972447342168 : Nat := 0
def tw4539919898155045660 : Nat := 0
def tw4582063194844300052 : Nat := 0
def tw4585695626828391812 : Nat := 0
def tw4586896788209651006 : Nat := 0
def tw4597490619911273551 : Nat := 0
def tw460092250317471430 : Nat := 0
def tw4613920029207104835 : Nat := 0
def tw4616366492414003289 : Nat := 0
def tw4625020774860722719 : Nat := 0
def tw4627549156576824396 : Nat := 0
def tw4632352638819344055 : Nat := 0
def tw4639264615822115102 : Nat := 0
def tw4642137782686414973 : Nat := 0
def tw465853863146812089 : Nat := 0
def tw4660518618050217284 : Nat := 0
def tw4668498311700612649 : Nat := 0
def tw4682542761360954783 : Nat := 0
def tw4688035422557720955 : Nat := 0
def tw4688232235042215262 : Nat := 0
def tw4701513422153650162 : Nat := 0
def tw470554159785367760 : Nat := 0
def tw4734973005668283905 : Nat := 0
def tw4737382126033274152 : Nat := 0
def tw4740250804073116965 : Nat := 0
def tw4749310506499853288 : Nat := 0
def tw4749647681116730499 : Nat := 0
def tw4841121737499856482 : Nat := 0
def tw4855659599014876519 : Nat := 0
def tw4868584498466182966 : Nat := 0
def tw4879757827674976577 : Nat := 0
def tw4908852757642566487 : Nat := 0
def tw4913719997648250233 : Nat := 0
def tw4914720725481312591 : Nat := 0
def tw4958661056097097332 : Nat := 0
def tw4970881543687756126 : Nat := 0
def tw5008485660198947422 : Nat := 0
def tw500959875908710877 : Nat := 0
def tw5050542779188621853 : Nat := 0
def tw5063866080662857498 : Nat := 0
def tw506895156144625725 : Nat := 0
def tw5070100995484720845 : Nat := 0
def tw5072980436130771722 : Nat := 0
def tw5123444336509633110 : Nat := 0
def tw5147962180841322196 : Nat := 0
def tw5173448160156719620 : Nat := 0
def tw5192526381920766797 : Nat := 0
def tw5193469452113674093 : Nat := 0
def tw5206016729758861996 : Nat := 0
def tw5255491779475169164 : Nat := 0
def tw5272313770191307476 : Nat := 0
def tw5298172719768073142 : Nat := 0
def tw5300454087836238132 : Nat := 0
def tw5344306233269485753 : Nat := 0
def tw5344928188455723638 : Nat := 0
def tw5349954274685781243 : Nat := 0
def tw5355707463991584110 : Nat := 0
def tw5377713634363177396 : Nat := 0
def tw5391200172197321236 : Nat := 0
def tw5398087146865085315 : Nat := 0
def tw5398319524807079523 : Nat := 0
def tw5428445294182412589 : Nat := 0
def tw5431325045432756808 : Nat := 0
def tw5434119858363939937 : Nat := 0
def tw543688722947171420 : Nat := 0
def tw5469098415044100171 : Nat := 0
def tw5473811899862954125 : Nat := 0
def tw5477879832727530096 : Nat := 0
def tw5481634293981166545 : Nat := 0
def tw5504733165342265728 : Nat := 0
def tw5505039448501343070 : Nat := 0
def tw5514418398926147387 : Nat := 0
def tw5520868716384788792 : Nat := 0
def tw5531951118306425366 : Nat := 0
def tw5537529426073981184 : Nat := 0
def tw5540984227718599329 : Nat := 0
def tw558273457338705259 : Nat := 0
def tw5607727089749126504 : Nat := 0
def tw5630154815974575888 : Nat := 0
def tw5647616592470190483 : Nat := 0
def tw5650603722177442145 : Nat := 0
def tw5675359996102271490 : Nat := 0
def tw5689649714342773941 : Nat := 0
def tw57080217873805991 : Nat := 0
def tw5713549975459664664 : Nat := 0
def tw5725669816782330461 : Nat := 0
def tw5746890933333604989 : Nat := 0
def tw5754174741122661214 : Nat := 0
def tw5780995651230345507 : Nat := 0
def tw5784015783303100765 : Nat := 0
def tw5804888881501033906 : Nat := 0
def tw5840419298642111950 : Nat := 0
def tw5854420511020418358 : Nat := 0
def tw5871424269948393059 : Nat := 0
def tw5926391125025222835 : Nat := 0
def tw5929116915644924520 : Nat := 0
def tw5930440529144842273 : Nat := 0
def tw597669281881589301 : Nat := 0
def tw6007147357787983919 : Nat := 0
def tw605223903492089605 : Nat := 0
def tw6058218001165264561 : Nat := 0
def tw6059367567202195836 : Nat := 0
def tw6077567020987833169 : Nat := 0
def tw6113281073797376156 : Nat := 0
def tw6154161961267330673 : Nat := 0
def tw6183605830786694799 : Nat := 0
def tw6192802220175073688 : Nat := 0
def tw6198135510910148295 : Nat := 0
def tw6214954406514895540 : Nat := 0
def tw6218585850945821892 : Nat := 0
def tw6233650432216225591 : Nat := 0
def tw6245379318043692454 : Nat := 0
def tw6257717838498423723 : Nat := 0
def tw6264373889501002195 : Nat := 0
def tw6296495089002037786 : Nat := 0
def tw6312507775179126130 : Nat := 0
def tw6318208942168847413 : Nat := 0
def tw6328961895741667348 : Nat := 0
def tw633025030528967962 : Nat := 0
def tw6343917326226492178 : Nat := 0
def tw6348198139698573235 : Nat := 0
def tw6353466207866372242 : Nat := 0
def tw6356176479945029260 : Nat := 0
def tw6359281568539582769 : Nat := 0
def tw6420647839232631549 : Nat := 0
def tw6442373126047191992 : Nat := 0
def tw6451413661567480483 : Nat := 0
def tw6486280376443170363 : Nat := 0
def tw651818893355375159 : Nat := 0
def tw6537201512323072742 : Nat := 0
def tw6578440458467171104 : Nat := 0
def tw6583309557109059641 : Nat := 0
def tw6606503581682104798 : Nat := 0
def tw6634233666368857247 : Nat := 0
def tw6648444126767634270 : Nat := 0
def tw665830694754713585 : Nat := 0
def tw6672279486370281900 : Nat := 0
def tw6684060002764363022 : Nat := 0
def tw6727269245583961365 : Nat := 0
def tw673216646363381457 : Nat := 0
def tw6746598818606459225 : Nat := 0
def tw6754135731849381259 : Nat := 0
def tw679280599066783428 : Nat := 0
def tw6798883843011655761 : Nat := 0
def tw6800493557648935840 : Nat := 0
def tw6809612069717637146 : Nat := 0
def tw6821984476433129770 : Nat := 0
def tw6841379507101536976 : Nat := 0
def tw6841789469519503737 : Nat := 0
def tw6846469191590598528 : Nat := 0
def tw6853146313942575371 : Nat := 0
def tw685701255703791320 : Nat := 0
def tw6865583819471169033 : Nat := 0
def tw6868823835818226866 : Nat := 0
def tw6891452555613491423 : Nat := 0
def tw6907669167953200393 : Nat := 0
def tw6923575910017958388 : Nat := 0
def tw6989669831152850277 : Nat := 0
def tw7027492702670445004 : Nat := 0
def tw7040919860436354070 : Nat := 0
def tw7059002528568877855 : Nat := 0
def tw7067096605509557942 : Nat := 0
def tw7105909074233837021 : Nat := 0
def tw7106117923460106632 : Nat := 0
def tw7108660100071628001 : Nat := 0
def tw7110369622221320408 : Nat := 0
def tw7125336231374034760 : Nat := 0
def tw714609107831237741 : Nat := 0
def tw7163955153787941680 : Nat := 0
def tw7168819815181024255 : Nat := 0
def tw7174315372391233077 : Nat := 0
def tw7175401428802363340 : Nat := 0
def tw7182427321491827412 : Nat := 0
def tw7185195330508523713 : Nat := 0
def tw7192407087105916825 : Nat := 0
def tw7226145771460527512 : Nat := 0
def tw724428157405610814 : Nat := 0
def tw7267609698883670376 : Nat := 0
def tw7298110156422529172 : Nat := 0
def tw7327541930938398722 : Nat := 0
def tw7338887632800818348 : Nat := 0
def tw7360072238270948363 : Nat := 0
def tw7368716911479856295 : Nat := 0
def tw7373045483852170766 : Nat := 0
def tw7376462264930805246 : Nat := 0
def tw7387903068199994572 : Nat := 0
def tw7394992023581550627 : Nat := 0
def tw7399429463346248635 : Nat := 0
def tw7407665082558941705 : Nat := 0
def tw7408452431752297795 : Nat := 0
def tw7443925538516819889 : Nat := 0
def tw7446752306124946731 : Nat := 0
def tw7466260909313782774 : Nat := 0
def tw7470529899245621764 : Nat := 0
def tw7488667997379914261 : Nat := 0
def tw7502505783841502834 : Nat := 0
def tw7503846459762728985 : Nat := 0
def tw7504796122772505185 : Nat := 0
def tw7514693308190400664 : Nat := 0
def tw7517590030152671956 : Nat := 0
def tw7537880023201845756 : Nat := 0
def tw7553082577306375086 : Nat := 0
def tw7557282825918818845 : Nat := 0
def tw7581421746436722429 : Nat := 0
def tw75883625795700005 : Nat := 0
def tw7595334635778386747 : Nat := 0
def tw7612850930363271633 : Nat := 0
def tw7641820073497498108 : Nat := 0
def tw7685302762624565475 : Nat := 0
def tw7702259325339265199 : Nat := 0
def tw7702648601295315905 : Nat := 0
def tw7732647295608527342 : Nat := 0
def tw7754328691341281948 : Nat := 0
def tw7756778571499113893 : Nat := 0
def tw7774251395829237273 : Nat := 0
def tw783288980755474462 : Nat := 0
def tw7842281061813069638 : Nat := 0
def tw7843709385898806859 : Nat := 0
def tw7854098484050263511 : Nat := 0
def tw7854929573243938007 : Nat := 0
def tw7863871960826019590 : Nat := 0
def tw787222406750771160 : Nat := 0
def tw7885633591420318572 : Nat := 0
def tw788585153891703542 : Nat := 0
def tw7887061300758471382 : Nat := 0
def tw7905698769267017152 : Nat := 0
def tw7929053585840277805 : Nat := 0
def tw7930671865134536122 : Nat := 0
def tw7932619863870300163 : Nat := 0
def tw8038838533702455708 : Nat := 0
def tw8040019810485939793 : Nat := 0
def tw8063176204635909688 : Nat := 0
def tw8064713694702912204 : Nat := 0
def tw8092999256762281546 : Nat := 0
def tw8104803396493913718 : Nat := 0
def tw8166549223280086067 : Nat := 0
def tw8191891011211989017 : Nat := 0
def tw8192153157493451367 : Nat := 0
def tw8195878125221898942 : Nat := 0
def tw8205699318387416643 : Nat := 0
def tw8210299261675615633 : Nat := 0
def tw8218867885659775650 : Nat := 0
def tw823385287207041684 : Nat := 0
def tw8247411432822563022 : Nat := 0
def tw82493505906765423 : Nat := 0
def tw8255676838144344685 : Nat := 0
def tw8260340184198618527 : Nat := 0
def tw8269052880504872169 : Nat := 0
def tw8272700852130141210 : Nat := 0
def tw8283783249299852622 : Nat := 0
def tw8292207648117899478 : Nat := 0
def tw8323769300811888110 : Nat := 0
def tw8327118536322651052 : Nat := 0
def tw834689456243317587 : Nat := 0
def tw8365503251483704755 : Nat := 0
def tw8366692331165902958 : Nat := 0
def tw8366906682562270618 : Nat := 0
def tw8407946023496584027 : Nat := 0
def tw8447114494849348227 : Nat := 0
def tw8450967084994668846 : Nat := 0
def tw8494237702777091024 : Nat := 0
def tw8497849411959202173 : Nat := 0
def tw8504160439233423995 : Nat := 0
def tw8513737406199664243 : Nat := 0
def tw8514397356151303062 : Nat := 0
def tw8528967411163719249 : Nat := 0
def tw852982951953211126 : Nat := 0
def tw8555329122945252106 : Nat := 0
def tw8555634360236466349 : Nat := 0
def tw8588126944976777775 : Nat := 0
def tw8592509335631227692 : Nat := 0
def tw860796758683030625 : Nat := 0
def tw8611303765313361919 : Nat := 0
def tw8614912374226609926 : Nat := 0
def tw8635761111716135044 : Nat := 0
def tw8701775015405857745 : Nat := 0
def tw8711098837757694048 : Nat := 0
def tw8764222798954874954 : Nat := 0
def tw8772715803384511463 : Nat := 0
def tw8775777773685279145 : Nat := 0
def tw8806313926308437799 : Nat := 0
def tw8849508440123484582 : Nat := 0
def tw885413390907949684 : Nat := 0
def tw8857536339148188133 : Nat := 0
def tw8868059877706102715 : Nat := 0
def tw889873161409689262 : Nat := 0
def tw8910770867625871400 : Nat := 0
def tw8925003960430224839 : Nat := 0
def tw8927272762377776595 : Nat := 0
def tw8944434595209734298 : Nat := 0
def tw8945858280234974831 : Nat := 0
def tw8957270567597942597 : Nat := 0
def tw8980547201873151472 : Nat := 0
def tw8990526754515417978 : Nat := 0
def tw8995097930273362352 : Nat := 0
def tw9002474516002330808 : Nat := 0
def tw9004295327380995688 : Nat := 0
def tw9017773512651766473 : Nat := 0
def tw9028426702070082789 : Nat := 0
def tw9032347947899929440 : Nat := 0
def tw9042076964270545042 : Nat := 0
def tw9049637778831875286 : Nat := 0
def tw9079964974305603743 : Nat := 0
def tw9083379351338314882 : Nat := 0
def tw9089570805015730890 : Nat := 0
def tw9145877301417450751 : Nat := 0
def tw9151195925610884255 : Nat := 0
def tw9174794778706258369 : Nat := 0
def tw9178804310203160819 : Nat := 0
def tw9190722269667115582 : Nat := 0
def tw9205553071489977536 : Nat := 0
def tw9206088264392304074 : Nat := 0
def tw9218904473777743233 : Nat := 0
def tw9224840433352832678 : Nat := 0
def tw9232528113248179426 : Nat := 0
def tw9259313105156231402 : Nat := 0
def tw9270450477585757449 : Nat := 0
def tw9291702272388360756 : Nat := 0
def tw9298407550000441317 : Nat := 0
def tw930191432148513845 : Nat := 0
def tw9311555439989324377 : Nat := 0
def tw931837428210746790 : Nat := 0
def tw932400915235775462 : Nat := 0
def tw9395789002553565532 : Nat := 0
def tw9402836252477103657 : Nat := 0
def tw9407116574326179951 : Nat := 0
def tw9412280690569251662 : Nat := 0
def tw9426356176820139605 : Nat := 0
def tw944015228722725499 : Nat := 0
def tw946314506128184851 : Nat := 0
def tw9528957585432162603 : Nat := 0
def tw9552856485375661391 : Nat := 0
def tw9566233037129879060 : Nat := 0
def tw9570672956874764382 : Nat := 0
def tw9592923724590704536 : Nat := 0
def tw9630455847102268889 : Nat := 0
def tw9649076787190464761 : Nat := 0
def tw9649636573940191874 : Nat := 0
def tw9669643333842406275 : Nat := 0
def tw9677627071388791078 : Nat := 0
def tw9678549967898201583 : Nat := 0
def tw9690490442466055508 : Nat := 0
def tw9691069066375988962 : Nat := 0
def tw9723472348582621295 : Nat := 0
def tw973367097519977695 : Nat := 0
def tw9761870083775560911 : Nat := 0
def tw9772664141753553786 : Nat := 0
def tw9819740247974913284 : Nat := 0
def tw9826701146624387250 : Nat := 0
def tw9829512368677954763 : Nat := 0
def tw9834121739645186195 : Nat := 0
def tw9834235841644343745 : Nat := 0
def tw984427452490691834 : Nat := 0
def tw9860566854760765567 : Nat := 0
def tw9861061851429232125 : Nat := 0
def tw9877635140640451608 : Nat := 0
def tw9886552119823643329 : Nat := 0
def tw9888164323307317514 : Nat := 0
def tw9920044042834727442 : Nat := 0
def tw9944675132036421291 : Nat := 0
def tw9969510603834641585 : Nat := 0
def tw9976808492658602132 : Nat := 0
def tw9986387587220765692 : Nat := 0
def tw15068483726869450994 : Nat := 0
end Mine.hdd
namespace Mine
set_option Elab.async true in
theorem hdd [Nonempty Walked] : PySem.Challenge.rw_bj5003_01.Holds := by
  w_on
  o_law
  o_head (kHook Mine.KF Mine.KAS (fun _ => by kernel_rfl))
  (case hw => w_witness2)
  exact fun h => h _ _ rfl
end Mine
#print axioms Mine.hdd
end
open PySem PySem.W PyProof.Rows PySem.Calls
local macro_rules | `(tactic| walk_at "subscriptTail") => `(tactic| (k_here; (with_reducible show wpAny _ _ (subscriptTail _ _ (Value.ref _) (Value.str _ _)) _ _ _); k_dflt (refine' topItem_K ?F ?X ?l ?k ?e ?_; (case F => k_asm); (case X => k_asm); (case l => k_is); (case k => k_keys); (case e => k_is))))
local macro_rules | `(tactic| walk_at "UnrEndW") => `(tactic| k_dflt ktu_end)
local macro_rules | `(tactic| k_mem) => `(tactic| (with_reducible (repeat (first | exact List.mem_cons_self | refine List.mem_cons_of_mem _ ?_)); done))
local macro_rules | `(tactic| k_in) => `(tactic| first | with_reducible assumption | exact Frag.In.keeps (by with_reducible assumption) (Fr.keep (by with_reducible assumption)))
local macro_rules | `(tactic| walk_at "exec If") => `(tactic| refine wpAny_If ?_)
local macro_rules | `(tactic| walk_at "ite") => `(tactic| (k_closed; first | with_reducible refine ite_tt ?_ | with_reducible refine ite_ff ?_ | k_dflt (first | refine ite_pos (by decide +kernel) ?_ | refine ite_neg (by decide +kernel) ?_)))
local macro_rules | `(tactic| walk_at "exec Raise some none") => `(tactic| first
  | ((with_reducible show wpAny _ _ (exec (Stmt.Raise (some (Expr.Call (Expr.Name ("TypeError" : Str) _) (_ :: _) [] _)) none _) _) _ _ _); with_unfolding_all refine Raise_madeB PySem.F.excCall_TypeError PySem.F.excRaise_TypeError rfl (tp_builtin (v := .type "TypeError") (by k_asm) (by k_asm) PyProof.Rows.Boot.TypeError ⟨rfl, ?_⟩ Mine.te1 Mine.te2 Mine.te3 Mine.te4 Mine.te5 Mine.te6))
  | ((with_reducible show wpAny _ _ (exec (Stmt.Raise (some (Expr.Call (Expr.Name ("NotImplementedError" : Str) _) (_ :: _) [] _)) none _) _) _ _ _); with_unfolding_all refine Raise_madeB PySem.F.excCall_NotImplementedError PySem.F.excRaise_NotImplementedError rfl (tp_builtin (v := .type "NotImplementedError") (by k_asm) (by k_asm) PyProof.Rows.Boot.NotImplementedError ⟨rfl, ?_⟩ Mine.ni1 Mine.ni2 Mine.ni3 Mine.ni4 Mine.ni5 Mine.ni6)))
local macro_rules | `(tactic| walk_at "call builtin:isinstance") => `(tactic| (k_here; first
  | (k_dflt (refine' isi_call ?k1 ?k2 ?k3 ?k4 ?_; (case k1 => k_in); (case k2 => k_types); (case k3 => k_is); (case k4 => intro e; cases e); k_whole))
  | ((with_reducible show wpAny _ _ (call _ [Value.ref _, Value.ref _]) _ _ _); k_dflt (refine' kin_callC ?k1 ?k2 ?k3 ?k4 ?k5 ?k6 ?k7 ?k8 ?k9 ?_; (case k1 => k_in); (case k2 => k_inst); (case k3 => kin_no); (case k4 => k_is); (case k5 => k_is); (case k6 => k_is); (case k7 => k_is); (case k8 => k_is); (case k9 => k_is); k_whole))
  | ((with_reducible show wpAny _ _ (call _ [Value.int _ _, Value.ref _]) _ _ _); k_dflt (refine' isn_call (P := fun _ => True) ?k1 ?k2 ?k3 ?k4 ?k5 int_cls ?_; (case k1 => k_in); (case k2 => (intro M; exact Looks.of_pure rfl)); (case k3 => k_not); (case k4 => intro e; cases e); (case k5 => trivial); k_whole))))
local macro_rules | `(tactic| walk_at "pyIter ref") => `(tactic| ((with_reducible show wpAny _ _ (pyIter (Value.ref _)) (fun it s₂ => LoopAtV _ _ _ _ _ _ _ _ _ it s₂) _ _); l_hasStore; k_rangeUnr))
local macro_rules | `(tactic| walk_at "exec For Name Call cons nil") => `(tactic| (k_here; (rename Fr _ _ _ _ => lF'); (with_unfolding_all refine' For_invVF lF' ?k1 ?k2 ?_; (case k1 => exact rfl); (case k2 => exact rfl); k_whole); l_hasStore))
local macro_rules | `(tactic| walk_at "subscriptTail Name Constant ref int") => `(tactic| (k_here; k_dflt (first
  | (refine' item_tupleT ?t ?a ?b ?c ?d ?_; (case t => exact News.isTup (by k_asm) (by k_mem)); (case a => decide); (case b => decide); (case c => rfl); (case d => rfl); k_whole)
  | (refine' topTup_K ?F ?X ?l ?a ?b ?c ?d ?_; (case F => k_asm); (case X => k_asm); (case l => k_is); (case a => decide); (case b => decide); (case c => rfl); (case d => rfl)))))
local macro_rules | `(tactic| walk_at "subscriptTail Name Name ref int") => `(tactic| (k_here; k_dflt (first
  | (refine' item_tupleT ?t ?a ?b ?c ?d ?_; (case t => exact News.isTup (by k_asm) (by k_mem)); (case a => decide); (case b => decide); (case c => rfl); (case d => rfl); k_whole)
  | kim_at)))
local macro_rules | `(tactic| walk_at "subscriptTail Name BinOp ref int") => `(tactic| (k_here; k_dflt (first
  | (refine' item_tupleT ?t ?a ?b ?c ?d ?_; (case t => exact News.isTup (by k_asm) (by k_mem)); (case a => decide); (case b => decide); (case c => rfl); (case d => rfl); k_whole)
  | kim_at)))
local macro_rules | `(tactic| walk_at "eval Name") => `(tactic| (k_here; k_dflt (first
  | (refine' nameX_L ?F ?v ?_ ?a ?b ?d; (case F => k_asm); (case a => kernel_rfl!); (case b => kernel_rfl!); (case d => kernel_rfl!); (case v => rfl); k_whole)
  | (refine' nameX_K ?F ?X ?T ?e ?_ ?a ?b ?d; (case F => k_asm); (case X => k_asm); (case T => k_asm); (case a => kernel_rfl!); (case b => kernel_rfl!); (case d => kernel_rfl!); (case e => k_is); k_whole)
  | (refine' nameX_B ?F ?X ?T ?e ?v ?n ?_ ?a ?b ?d; (case F => k_asm); (case X => k_asm); (case T => k_asm); (case a => kernel_rfl!); (case b => kernel_rfl!); (case d => kernel_rfl!); (case e => k_is); (case v => first | boot_by_name | boot_fast | kernel_rfl); (case n => decide); k_whole))))
section
open PySem PySem.W PyProof.Rows PySem.Calls
open PySem.Sem (wp)
set_option Elab.async false
set_option maxRecDepth 100000
set_option maxHeartbeats 4000000
namespace Mine
section
variable {M : Model} {A : Around} {E : Value → Shared → Prop} {s : Shared} {env : Env}
theorem nExecs_cons {st : Stmt} {rest : List Stmt} {Q : Flow → Shared → Prop} (h : wpN M A (exec st env) (fun f s' => match f with | .next => wpN M A (execs rest env) Q E s' | f => Q f s') E s) : wpN M A (execs (st :: rest) env) Q E s := by
  rw [execs_cons]
  refine wpN_bind (wpN_mono h (fun f s' h' => ?_) fun _ _ x => x)
  cases f <;> first | exact h' | exact wpN_pure h'
/-- a statement that the library's rules walk; none of these raises or leaves -/
theorem nExecs_leaf {st : Stmt} {rest : List Stmt} {Q : Flow → Shared → Prop} (h : wpAny M A (exec st env) (fun f s' => f = .next ∧ wpN M A (execs rest env) Q E s') E s) : wpN M A (execs (st :: rest) env) Q E s :=
  nExecs_cons (wpN_any (wpAny_mono h (fun f s' h' => by obtain ⟨rfl, h'⟩ := h'; exact h') fun _ _ x => x))
theorem nExecs_nil {Q : Flow → Shared → Prop} (h : Q .next s) : wpN M A (execs [] env) Q E s := fun _ _ _ _ _ => h
theorem nExpr {e : Expr} {pos : Pos} {Q : Flow → Shared → Prop} (h : wpN M A (eval e env) (fun v s' => v = .none ∧ Q .next s') E s)
    (hi : interactive env = false := by rfl) (hs : swapsWith e none pos.line env = pure false := by rfl) : wpN M A (exec (.Expr e pos) env) Q E s := by
  rw [exec_Expr env e pos hi hs]
  refine wpN_bind (wpN_standAt (wpN_bind (wpN_mono h (fun v s' h' => ?_) fun _ _ x => x)))
  obtain ⟨rfl, h'⟩ := h'
  rw [dropValue_plain (fun a => by intro x; cases x)]
  exact wpN_pure h'
theorem nAssign_Name {x : Str} {pos' pos : Pos} {value : Expr} {Q : Flow → Shared → Prop} (h : wpN M A (eval value env) (fun v s₁ => wpAny M A (storeName env x v) (fun _ => Q .next) E s₁) E s)
    (hs : swapsWith value (some (.Name x pos')) pos.line env = pure false := by rfl) : wpN M A (exec (.Assign [.Name x pos'] value pos) env) Q E s := fun Γ p hΓ hb hf => by
  simp only [exec_Assign_Name env x pos' value pos hs, Sem.wp_bind', Sem.wp_cmd_standAt, Sem.wp_bindName, Sem.wp_pure']
  exact Sem.wp_mono M Γ _ (fun v _ s₁ h₁ => h₁ Γ _ hΓ) (fun _ _ _ h' => h') _ _ (h Γ _ hΓ hb hf)
theorem nAssign_Attr {o : Expr} {attr : Str} {pos' pos : Pos} {value : Expr} {Q : Flow → Shared → Prop}
    (h : wpN M A (eval value env) (fun v s₁ => wpAny M A (eval o env) (fun ov s₂ => wpAny M A (setAttr ov attr v) (fun _ => Q .next) E s₂) E s₁) E s)
    (hs : swapsWith value (some (.Attribute o attr pos')) pos.line env = pure false := by rfl) : wpN M A (exec (.Assign [.Attribute o attr pos'] value pos) env) Q E s := fun Γ p hΓ hb hf => by
  simp only [plainObj_exec_Assign_Attribute o attr pos' value pos hs, assign_Attribute, Sem.wp_bind', Sem.wp_holding, Sem.wp_cmd_standAt, Sem.wp_release, Sem.wp_pure']
  exact Sem.wp_mono M Γ _ (fun v p₁ s₁ h₁ => Sem.wp_mono M Γ _ (fun ov _ s₂ h₂ => h₂ Γ _ hΓ) (fun _ _ _ h' => h') _ _ (h₁ Γ p₁ hΓ)) (fun _ _ _ h' => h') _ _ (h Γ _ hΓ hb hf)
theorem nIf {test : Expr} {body orelse : List Stmt} {pos : Pos} {Q : Flow → Shared → Prop}
    (h : wpAny M A (isTrue test env (eval test env)) (fun b s₂ => if b then wpN M A (execs body env) Q E s₂ else wpN M A (execs orelse env) Q E s₂) E s) : wpN M A (exec (.If test body orelse pos) env) Q E s := fun Γ p hΓ hb hf => by
  simp only [exec_If, Sem.wp_bind', Sem.wp_cmd_standAt]
  refine Sem.wp_mono M Γ _ (fun b p₂ s₂ h₂ => ?_) (fun _ _ _ h' => h') _ _ (h Γ _ hΓ)
  cases b <;> exact h₂ Γ p₂ hΓ hb hf
theorem nCallWith {pos : Pos} {f : Value} {first : List Value} {P : Heap → Prop} {Q : Value → Shared → Prop} {args : List (Bool × Sem Value)} {keywords : List (Option Str × Sem Value)}
    (hk : ∀ h, P h → ∃ k, (k = Keeper.frame ∨ k = Keeper.machine ∨ k = Keeper.boundFrame) ∧ Looks M h (keeperOf f) k)
    (h : wpAny M A (evalArgs f true args keywords) (fun a s₁ => P s₁.heap ∧ wpN M A (call f (first ++ a.pos) a.kw) Q E s₁) E s) : wpN M A (callWith pos f first args keywords) Q E s := by
  unfold callWith
  refine wpN_bind (wpN_holding (wpN_any (wpAny_mono h (fun a s₁ h₁ => wpN_bind (wpN_standAt ?_)) fun _ _ x => x)))
  obtain ⟨k, hk', L⟩ := hk _ h₁.1
  refine wpN_then (L.here ?_)
  have tail : ∀ {t : Sem Value}, wpN M A t Q E s₁ → wpN M A (t >>= fun r => holding [r] point >>= fun _ => pure r) Q E s₁ :=
    fun ht => wpN_bind (wpN_mono ht (fun r s₂ hr => wpN_then (wpAny_holding (wpAny_point (wpN_pure hr)))) fun _ _ x => x)
  have marked (mk : Value) : wpN M A (callMarked mk f (first ++ a.pos) a.kw) Q E s₁ := by unfold callMarked; exact wpN_keep h₁.2
  cases (args.any (·.1) || keywords.any (·.1.isNone)) <;> rcases hk' with rfl | rfl | rfl <;> dsimp only <;>
    first | exact tail h₁.2 | exact tail (marked _) | exact tail (wpN_operate h₁.2) | (split <;> first | exact tail h₁.2 | exact tail (marked _))
theorem nCall {func : Expr} {args : List Expr} {kws : List Keyword} {pos : Pos} {Q : Value → Shared → Prop}
    (h : wpAny M A (eval func env) (fun f s₁ => wpN M A (callWith pos f [] (backTo pos (starEach args env)) (backToKw pos (keywordEach kws env))) Q E s₁) E s)
    (he : eval (.Call func args kws pos) env = (do callWith pos (← eval func env) [] (backTo pos (starEach args env)) (backToKw pos (keywordEach kws env))) := by rfl) :
    wpN M A (eval (.Call func args kws pos) env) Q E s := by
  rw [he]
  exact wpN_then h
theorem nMethodStar {o : Expr} {name : Str} {apos pos : Pos} {args : List Expr} {kws : List Keyword} {Q : Value → Shared → Prop}
    (h : wpAny M A (eval o env) (fun ov s₁ => wpAny M A (getAttr ov name true) (fun f s₂ => wpN M A (callWith pos f [] (backTo pos (starEach args env)) (backToKw pos (keywordEach kws env))) Q E s₂) E s₁) E s)
    (he : eval (.Call (.Attribute o name apos) args kws pos) env = (do
      let ov ← eval o env
      standAt apos.atName
      let (f, first) ← holding [ov] (do pure (← getAttr ov name true, []))
      callWith pos f first (backTo pos (starEach args env)) (backToKw pos (keywordEach kws env))) := by rfl) :
    wpN M A (eval (.Call (.Attribute o name apos) args kws pos) env) Q E s := by
  rw [he]
  refine wpN_then (wpAny_mono h (fun ov s₁ h₁ => wpN_bind (wpN_standAt (wpN_then (wpAny_holding (wpAny_bind (wpAny_mono h₁ (fun f s₂ h₂ => wpAny_pure h₂) fun _ _ x => x)))))) fun _ _ x => x)
theorem mMethodStar {o : Expr} {name : Str} {apos pos : Pos} {args : List Expr} {kws : List Keyword} {Q : Value → Shared → Prop}
    (h : wpAny M A (eval o env) (fun ov s₁ => wpAny M A (getAttr ov name true) (fun f s₂ => wpAny M A (callWith pos f [] (backTo pos (starEach args env)) (backToKw pos (keywordEach kws env))) Q E s₂) E s₁) E s)
    (he : eval (.Call (.Attribute o name apos) args kws pos) env = (do
      let ov ← eval o env
      standAt apos.atName
      let (f, first) ← holding [ov] (do pure (← getAttr ov name true, []))
      callWith pos f first (backTo pos (starEach args env)) (backToKw pos (keywordEach kws env))) := by rfl) :
    wpAny M A (eval (.Call (.Attribute o name apos) args kws pos) env) Q E s := by
  rw [he]
  exact wpAny_bind (wpAny_mono h (fun ov s₁ h₁ => wpAny_bind (wpAny_standAt (wpAny_bind (wpAny_holding (wpAny_bind (wpAny_mono h₁ (fun f s₂ h₂ => wpAny_pure h₂) fun _ _ x => x)))))) fun _ _ x => x)
end
end Mine
end
section
open PySem PySem.W PyProof.Rows PySem.Calls
open PySem.Sem (wp)
set_option Elab.async false
set_option maxRecDepth 100000
set_option maxHeartbeats 4000000
namespace Mine
section
variable {prog : Program} {w : World} {A : Around} {E : Value → Shared → Prop}
theorem dict_sub : isSubtype (.type "dict") (.type "dict") = pure true := PySem.isSubtype_dict_dict
theorem merge0 {h : Heap} {g : Array GenState} {dr : Drawn} {t : Nat} {os : OsState} {d kd : Addr} {ep : Nat} {Q : Unit → Shared → Prop}
    (hd : h.get? d = some (dictOf [] 0)) (hkd : h.get? kd = some (dictOf [] ep)) (lo : (kd == sysModules) = false) (hq : Q () ⟨h, g, dr, t, os⟩) :
    wpAny (model prog w) A (mergeMapping d (.ref kd) true) Q E ⟨h, g, dr, t, os⟩ := by
  have hT : (⟨h, g, dr, t, os⟩ : Shared).TypeIs (.ref kd) "dict" := ⟨_, hkd, rfl⟩
  have hsub := dict_sub
  have hlk := PySem.F.slot_dict_iter.lookup
  unfold mergeMapping
  repeat (first
    | exact hq
    | ((with_reducible show wpAny _ _ (dictEntries _) _ _ _); first | (with_reducible refine wpAny_dictEntries hd rfl ?_) | (with_reducible refine wpAny_dictEntries hkd rfl ?_))
    | ((with_reducible show wpAny _ _ (dictEpoch _) _ _ _); (with_reducible refine wpAny_dictEpoch hkd rfl ?_))
    | wp_step | (simp only [lo, Bool.false_eq_true, if_false]) | dsimp only)
theorem keysOf_nil : PySem.KeysOf (strKind prog w) #[] := fun e he => by simp at he
theorem dictFind_nil {s : Shared} {d : Addr} {x : Str} {u : Tok} {Q : Option Nat → Shared → Prop} (hd : s.heap.get? d = some (dictOf [] 0)) (h : Q none s) : wpAny (model prog w) A (dictFind d (.str x u) ((strKind prog w).hash x)) Q E s :=
  wpAny_dictFind_of (knd := strKind prog w) (k := x) (strKind_is prog w x u) hd rfl keysOf_nil (by simpa using h)
theorem merge1 {h : Heap} {g : Array GenState} {dr : Drawn} {t : Nat} {os : OsState} {d kd : Addr} {ep : Nat} {x : Str} {u : Tok} {v : Value} {Q : Unit → Shared → Prop}
    (hd : h.get? d = some (dictOf [] 0)) (hkd : h.get? kd = some (dictOf [⟨(strKind prog w).hash x, .str x u, v⟩] ep)) (lo : (kd == sysModules) = false) (hne : kd ≠ d)
    (hq : ∀ h', Heap.SameBut d h h' → h'.get? d = some (dictOf [⟨(strKind prog w).hash x, .str x u, v⟩] 1) → Q () ⟨h', g, dr, t, os⟩) :
    wpAny (model prog w) A (mergeMapping d (.ref kd) true) Q E ⟨h, g, dr, t, os⟩ := by
  have hT : (⟨h, g, dr, t, os⟩ : Shared).TypeIs (.ref kd) "dict" := ⟨_, hkd, rfl⟩
  have hsub := dict_sub
  have hlk := PySem.F.slot_dict_iter.lookup
  have hs : Heap.SameBut d h (h.update d (Obj.mapDictKeys fun es => es.push ⟨(strKind prog w).hash x, .str x u, v⟩)) := Heap.SameBut.update ..
  have hd' : (h.update d (Obj.mapDictKeys fun es => es.push ⟨(strKind prog w).hash x, .str x u, v⟩)).get? d = some (dictOf [⟨(strKind prog w).hash x, .str x u, v⟩] 1) := Heap.get?_update_self _ hd rfl
  have hkd' := (hs.2 kd hne).trans hkd
  unfold mergeMapping
  repeat (first
    | exact hq _ hs hd'
    | ((with_reducible show wpAny _ _ (dictEntries _) _ _ _); first | (with_reducible refine wpAny_dictEntries hd rfl ?_) | (with_reducible refine wpAny_dictEntries hkd rfl ?_))
    | ((with_reducible show wpAny _ _ (dictEpoch _) _ _ _); first | (with_reducible refine wpAny_dictEpoch hkd rfl ?_) | (with_reducible refine wpAny_dictEpoch hkd' rfl ?_))
    | ((with_reducible show wpAny _ _ (dictFind _ _ _) _ _ _); refine dictFind_nil hd ?_)
    | ((with_reducible show wpAny _ _ (updateDictKeys _ _) _ _ _); refine wpAny_updateDictKeys hd rfl ?_ (Nat.zero_le _) (Nat.le_refl _))
    | (with_reducible show wpAny _ _ (dictPut _ _ _ _) _ _ _; unfold dictPut)
    | wp_step | (simp only [lo, Bool.false_eq_true, if_false]) | dsimp only)
end
end Mine
end
section
open PySem PySem.W PyProof.Rows PySem.Calls
open PySem.Sem (wp)
set_option Elab.async false
set_option maxRecDepth 100000
set_option maxHeartbeats 4000000
namespace Mine
section
variable {prog : Program} {w : World} {A : Around} {E : Value → Shared → Prop}
/-- a dict of at most one str key, as ** hands it on -/
inductive OneKw (prog : Program) (w : World) : List DictEntry → List (Str × Value) → Prop
  | nil : OneKw prog w [] []
  | one (x : Str) (u : Tok) (v : Value) : OneKw prog w [⟨(strKind prog w).hash x, .str x u, v⟩] [(x, v)]
theorem mergeKw {h : Heap} {g : Array GenState} {dr : Drawn} {t : Nat} {os : OsState} {d kd : Addr} {es : List DictEntry} {kw : List (Str × Value)} {ep : Nat} {Q : Unit → Shared → Prop}
    (ho : OneKw prog w es kw) (hd : h.get? d = some (dictOf [] 0)) (hkd : h.get? kd = some (dictOf es ep)) (lo : (kd == sysModules) = false) (hne : kd ≠ d)
    (hq : ∀ h' n, Heap.SameBut d h h' → h'.get? d = some (dictOf es n) → Q () ⟨h', g, dr, t, os⟩) :
    wpAny (model prog w) A (mergeMapping d (.ref kd) true) Q E ⟨h, g, dr, t, os⟩ := by
  cases ho with
  | nil => exact merge0 hd hkd lo (hq _ _ (Heap.SameBut.refl _ _) hd)
  | one x u v => exact merge1 hd hkd lo hne fun h' s e => hq _ _ s e
theorem keywordsIn_one {h : Heap} {g : Array GenState} {dr : Drawn} {t : Nat} {os : OsState} {f : Value} {d : Addr} {es : List DictEntry} {kw : List (Str × Value)} {n : Nat} {Q : List (Str × Value) → Shared → Prop}
    (ho : OneKw prog w es kw) (hd : h.get? d = some (dictOf es n)) (hq : Q kw ⟨h, g, dr, t, os⟩) : wpAny (model prog w) A (keywordsIn f d) Q E ⟨h, g, dr, t, os⟩ := by
  unfold keywordsIn
  refine wpAny_bind (wpAny_dictEntries hd rfl ?_)
  cases ho with
  | nil => exact wpAny_bind (wpAny_pure (wpAny_pure hq))
  | one x u v => exact wpAny_bind (wpAny_pure (wpAny_pure hq))
theorem fr_same {h₀ h h' : Heap} {L d : Addr} {m : Str → Option Value} {o o' : Obj} {news : List (Addr × Obj)} (F : Fr h₀ L h m) (N : News h₀ L h ((d, o) :: news)) (hs : Heap.SameBut d h h') (hd : h'.get? d = some o') (l : ∀ p ∈ news, p.1 < d) :
    Fr h₀ L h' m ∧ News h₀ L h' ((d, o') :: news) := by
  have D := N (d, o) (.head _)
  obtain ⟨oL, es, ep, hL, r⟩ := F.ns
  refine ⟨⟨⟨oL, es, ep, (hs.2 L (Ne.symm D.2.1)).trans hL, r⟩, fun b x q => (hs.2 b fun z => ?_).trans (F.keep b x q), F.above⟩, fun p hp => ?_⟩
  · have := D.2.2; rw [← z, q] at this; cases this
  · rcases List.mem_cons.mp hp with rfl | q
    · exact ⟨hd, D.2⟩
    · have P := N p (.tail _ q); exact ⟨(hs.2 p.1 (Nat.ne_of_lt (l p q))).trans P.1, P.2⟩
theorem merged_one {s : Shared} {h₀ : Heap} {L : Addr} {m : Str → Option Value} {news : List (Addr × Obj)} {f : Value} {y : Sem Value} {kd : Addr} {es : List DictEntry} {kw : List (Str × Value)} {ep : Nat} {Q : Addr → Shared → Prop}
    (F : Fr h₀ L s.heap m) (N : News h₀ L s.heap news) (hkd : (kd, dictOf es ep) ∈ news) (lo : (kd == sysModules) = false) (ho : OneKw prog w es kw)
    (hy : ∀ h' (Q' : Value → Shared → Prop), Fr h₀ L h' m → Q' (.ref kd) { s with heap := h' } → wpAny (model prog w) A y Q' E { s with heap := h' })
    (hq : ∀ d h' n, Fr h₀ L h' m → News h₀ L h' ((d, dictOf es n) :: news) → (∀ p ∈ news, p.1 < d) → Q d { s with heap := h' }) :
    wpAny (model prog w) A (mergedKeywords f [(none, y)]) Q E s := by
  obtain ⟨h, g, dr, t, os⟩ := s
  have F' := F.push emptyDict
  have N' := N.push F emptyDict
  have l : ∀ p ∈ news, p.1 < h.objs.size := fun p hp => Heap.lt_size (N p hp).1
  have hd : (h.push emptyDict).get? h.objs.size = some (dictOf [] 0) := Heap.get?_push_size _ rfl
  have hkd' : (h.push emptyDict).get? kd = some (dictOf es ep) := Heap.get?_push_of_some _ (N _ hkd).1
  have hne : kd ≠ h.objs.size := Nat.ne_of_lt (l _ hkd)
  unfold mergedKeywords
  refine wpAny_bind (wpAny_alloc (wpAny_bind (wpAny_holding ?_)))
  dsimp only
  refine wpAny_bind ?_
  rw [List.forIn_cons]
  refine wpAny_bind (wpAny_bind (wpAny_pure (wpAny_bind (hy _ _ F' ?_))))
  refine wpAny_bind (wpAny_onRaise (wpAny_holding (wpAny_tryCatch (wpAny_onRaise (mergeKw ho hd hkd' lo hne fun h' n hs hd' => ?_)))))
  obtain ⟨F'', N''⟩ := fr_same F' N' hs hd' l
  refine wpAny_pure ?_
  dsimp only
  rw [List.forIn_nil]
  exact wpAny_pure (wpAny_pure (wpAny_pure (hq _ _ _ F'' N'' l)))
/-- f(*t, **d) -/
theorem starkw {s : Shared} {h₀ : Heap} {L : Addr} {m : Str → Option Value} {news : List (Addr × Obj)} {f : Value} {x y : Sem Value} {kd c : Addr} {es : List DictEntry} {kw : List (Str × Value)} {ep : Nat} {vs : List Value} {Q : Args → Shared → Prop}
    (F : Fr h₀ L s.heap m) (N : News h₀ L s.heap news) (hkd : (kd, dictOf es ep) ∈ news) (lo : (kd == sysModules) = false) (ho : OneKw prog w es kw) (hc : (c, ({ cls := .type "tuple", data := .seq vs.toArray } : Obj)) ∈ news) (hz : vs.length ≤ sizeLine)
    (hx : ∀ h' (Q' : Value → Shared → Prop), Fr h₀ L h' m → Q' (.ref c) { s with heap := h' } → wpAny (model prog w) A x Q' E { s with heap := h' })
    (hy : ∀ h' (Q' : Value → Shared → Prop), Fr h₀ L h' m → Q' (.ref kd) { s with heap := h' } → wpAny (model prog w) A y Q' E { s with heap := h' })
    (hq : ∀ d h' n, Fr h₀ L h' m → News h₀ L h' ((d, dictOf es n) :: news) → (∀ p ∈ news, p.1 < d) → Q ⟨vs, kw⟩ { s with heap := h' }) :
    wpAny (model prog w) A (evalArgs f true [(true, x)] [(none, y)]) Q E s := by
  unfold evalArgs
  refine wpAny_bind (hx _ _ F (wpAny_bind (wpAny_pure ?_)))
  refine wpAny_holding ?_
  dsimp only
  refine wpAny_bind (merged_one F N hkd lo ho hy fun d h' n F' N' l => ?_)
  have S := star_seq (prog := prog) (w := w) (A := A) (E := E) (s := { s with heap := h' }) (Q := fun v s' => wpAny (model prog w) A (do pure ⟨v, ← holding (.ref d :: v) (keywordsIn f d)⟩) Q E s') F' N' (.tail _ hc) rfl rfl (.inr rfl) rfl (by simpa using hz) fun h'' F'' N'' => ?_
  · unfold StarOf at S
    refine wpAny_bind (wpAny_bind (wpAny_mono S (fun b s₂ h₂ => ?_) fun _ _ x => x))
    obtain ⟨rfl, h₂⟩ := h₂
    simp only [Bool.false_eq_true, if_false]
    exact wpAny_holding h₂
  · obtain ⟨h'', g, dr, t, os⟩ := s
    exact wpAny_bind (wpAny_holding (keywordsIn_one ho (N'' _ (.head _)).1 (wpAny_pure (hq d _ n F'' N'' l))))
end
end Mine
end
section
open PySem PySem.W PyProof.Rows PySem.Calls Builtin
open PySem.Sem (wp)
set_option Elab.async false
set_option maxRecDepth 100000
set_option maxHeartbeats 4000000
namespace Mine
section
variable {prog : Program} {w : World} {A A₀ : Around} {E : Value → Shared → Prop} {s : Shared} {K : Frag} {L : Addr} {h₀ base : Heap} {m mg mb : Str → Option Value} {news : List (Addr × Obj)} {p : Program} {loose : List Str} {mean : ExcName → Option Value}
theorem oneKw_of {o : Obj} {kvs : List (Str × Value)} (hd : o.IsDictOf (strKind prog w) kvs) (hl : kvs.length ≤ 1) : ∃ es ep, o = dictOf es ep ∧ OneKw prog w es kvs := by
  obtain ⟨es, ep, ⟨x1, x2, x3⟩, hdat, hk, hp, _⟩ := hd
  obtain ⟨oc, od, dat, sl⟩ := o
  obtain ⟨l⟩ := es
  dsimp only at x1 x2 x3 hdat hp
  subst x1; subst x2; subst x3; subst hdat
  refine ⟨l, ep, rfl, ?_⟩
  cases hp with
  | nil => exact .nil
  | @cons e kv es' kvs' h1 h2 h3 =>
    cases h3 with
    | cons _ _ _ => simp at hl
    | nil =>
      obtain ⟨k', hk', hh⟩ := hk e (by simp)
      obtain ⟨hs, key, val⟩ := e
      obtain ⟨x, v⟩ := kv
      have := (strKind prog w).inj _ _ _ hk' h1
      subst this
      obtain ⟨u, rfl⟩ := Value.isStrOf_shape h1
      dsimp only at h2 hh
      subst h2; subst hh
      exact .one _ _ _
/-- f(*t, **d), in the frame's words -/
theorem starkwD {f : Value} {x y : Sem Value} {kd c : Addr} {ko : Obj} {kw : List (Str × Value)} {vs : List Value} {Q : Args → Shared → Prop}
    (F : Fr h₀ L s.heap m) (N : News h₀ L s.heap news) (hkd : (kd, ko) ∈ news) (lo : (kd == sysModules) = false) (ho : ko.IsDictOf (strKind prog w) kw) (hl : kw.length ≤ 1) (hc : (c, ({ cls := .type "tuple", data := .seq vs.toArray } : Obj)) ∈ news) (hz : vs.length ≤ sizeLine)
    (hx : ∀ h' (Q' : Value → Shared → Prop), Fr h₀ L h' m → Q' (.ref c) { s with heap := h' } → wpAny (model prog w) A x Q' E { s with heap := h' })
    (hy : ∀ h' (Q' : Value → Shared → Prop), Fr h₀ L h' m → Q' (.ref kd) { s with heap := h' } → wpAny (model prog w) A y Q' E { s with heap := h' })
    (hq : ∀ h', Fr h₀ L h' m → News h₀ L h' news → Q ⟨vs, kw⟩ { s with heap := h' }) :
    wpAny (model prog w) A (evalArgs f true [(true, x)] [(none, y)]) Q E s := by
  obtain ⟨es, ep, rfl, hone⟩ := oneKw_of ho hl
  exact starkw F N hkd lo hone hc hz hx hy fun d h' n F' N' l => hq h' F' fun p hp => N' p (.tail _ hp)

theorem kpN_frame {env : Env} {outer : List Env} {R : Result → Shared → Prop} {qual : Str} {body : List Stmt} {scope : Scope} {cl : List (Str × Addr)} {cdv : Value} {f : Addr} {binds : List (Str × Value)}
    (B : Below A₀ base outer h₀) (F : Fr h₀ L s.heap m) (N : News h₀ L s.heap news) (hlim : h₀.NoLimit) (hA : A.frames = some (env :: outer)) (hf : env.frame = some L) (hke : env.scope.kind = .function)
    (hloc : ∀ y ∈ binds, scope.names.lookup y.1 = some .local)
    (h : ∀ g L' h₁, (∀ b o, s.heap.get? b = some o → b ∉ news.map (·.1) → g.get? b = some o) → Fr h₀ L g m → Fr g L' h₁ (fun y => binds.reverse.lookup y) → News g L' h₁ news → Below A base (env :: outer) g → h₀.StaysIn g →
      wpN (model prog w) (A.deeper (envX qual scope L' f cdv cl)) (execs body (envX qual scope L' f cdv cl))
        (fun fl s' => LeaveK h₀ L m g R (match fl with | .ret v => v | _ => .none) s')
        (fun e s' => wpN (model prog w) (A.deeper (envX qual scope L' f cdv cl)) (leaving (envX qual scope L' f cdv cl) e) (fun _ s'' => R (.error e) s'') (fun e' s'' => R (.error e') s'') s')
        { s with heap := h₁, toks := s.toks + binds.length })
    (hcell : ∀ x ∈ scope.names, x.2 ≠ .cell) (hk : scope.kind = .function) :
    wpAny (model prog w) A.in1 (newFunctionEnv scope mainGlobals cl binds (qual ++ ".<locals>.") (some f) cdv none builtinsNs) (fun env' s₂ => s₂.heap.NoLimit ∧ codeN (model prog w) A (.func body env') R s₂) E s := by
  obtain ⟨FG, BG, st, lv⟩ := groundX (R := R) B F N hA hf hke
  refine wpAny_newFunctionEnv hcell hloc (fun h₁ hns hsb => ⟨(hlim.keeps F.keep).fresh _ hsb, codeN_func ?_⟩) hk
  have hk₁ : ∀ b o, s.heap.get? b = some o → h₁.get? b = some o := fun b o e => hsb.extBut b o (Nat.ne_of_lt (Heap.lt_size e)) (Heap.get?_push_of_some _ e)
  show wpN (model prog w) (A.deeper (envX qual scope s.heap.objs.size f cdv cl)) (execs body (envX qual scope s.heap.objs.size f cdv cl)) _ _ _
  exact wpN_mono (h _ s.heap.objs.size h₁ (fun b o e n => hideAll_get _ e n) FG ⟨hns, fun b o e => hk₁ b o (of_hideAll _ e), Nat.le_of_eq (hideAll_size _ _)⟩
    (fun p hp => ⟨hk₁ _ _ (N p hp).1, Nat.ne_of_lt (Heap.lt_size (N p hp).1), hideAll_none _ (List.mem_map_of_mem hp)⟩) BG st) (fun fl s' hl => lv _ _ hl) fun _ _ y => y

theorem peekA_go {α : Type} {K : Frag} {M : Model} {A : Around} {E : Value → Shared → Prop} {Q : α → Shared → Prop} {s : Shared} {o : Obj} (X : K.In s.heap) :
    ∀ (t : Sem α) (g : Addr → Sem α), peekA K ⟨M.prog, M.w.params⟩ t = some (o, g) → wpAny M A (g s.heap.objs.size) Q E { s with heap := s.heap.push o } → wpAny M A t Q E s := by
  intro t
  induction t with
  | rule _ k ih => intro g e q Γ p hΓ; exact ih () g e q Γ p hΓ
  | point _ k ih => intro g e q Γ p hΓ; exact ih () g e q Γ p hΓ
  | ask k ih => intro g e q Γ p hΓ; exact ih _ g e q Γ p hΓ
  | load a _ k ih =>
    intro g e q Γ p hΓ
    simp only [peekA] at e
    split at e
    · rename_i ob ho; exact ⟨ob, X _ _ ho, ih ob g e q Γ p hΓ⟩
    · cases e
  | alloc ob k _ =>
    intro g e q
    have e : some (ob, k) = some (o, g) := e
    obtain ⟨e1, e2⟩ := Prod.mk.inj (Option.some.inj e)
    subst e1
    subst e2
    exact wpAny_alloc (Q := fun a s' => wpAny M A (k a) Q E s') q |> wpAny_bind
  | _ => intro g e; cases e
theorem nsSet_fresh {s : Shared} {d : Addr} {k : Str} {v : Value} {Q : Unit → Shared → Prop} (hd : s.heap.get? d = some (dictOf [] 0))
    (h : ∀ h', Heap.SameBut d s.heap h' → h'.get? d = some (dictOf [⟨PyData.keyHash w.params k, .str k s.toks, v⟩] 1) → Q () { s with heap := h', toks := s.toks + 1 }) : wpAny (model prog w) A (nsSet d k v) Q E s := by
  unfold nsSet
  refine wpAny_bind (wpAny_bind (wpAny_askSetting (wpAny_pure (wpAny_bind (wpAny_mkText (wpAny_bind (wpAny_loadPart hd ?_)))))))
  dsimp only
  have c : aRefKeyMayBeTheName k #[] = false := by rw [aRefKeyMayBeTheName_at]; simp
  rw [show ([] : List DictEntry).toArray = #[] from rfl, c]
  have e : Obj.putName k (PyData.keyHash w.params k) (.str k s.toks) v (dictOf [] 0) = dictOf [⟨PyData.keyHash w.params k, .str k s.toks, v⟩] 1 := putName_dict ..
  exact wpAny_updatePart hd (h _ (Heap.SameBut.update ..) ((Heap.get?_update_self _ hd (by show (Obj.putName k (PyData.keyHash w.params k) (.str k s.toks) v (dictOf [] 0)).isFreed = false; rw [e]; rfl)).trans (congrArg some e)))
theorem fillOne {s : Shared} {d : Addr} {ex : List (Str × Value)} {Q : PUnit → Shared → Prop} (hl : ex.length ≤ 1) (hd : s.heap.get? d = some (dictOf [] 0))
    (h : ∀ h' n, Heap.SameBut d s.heap h' → h'.get? d = some (dictOf (kwEs w.params s.toks ex) n) → Q ⟨⟩ { s with heap := h', toks := s.toks + ex.length }) :
    wpAny (model prog w) A (forIn ex PUnit.unit fun x _ => (nsSet d x.1 x.2 >>= fun _ => pure (ForInStep.yield PUnit.unit))) Q E s := by
  match ex, hl with
  | [], _ => rw [List.forIn_nil]; exact wpAny_pure (h s.heap 0 (Heap.SameBut.refl _ _) hd)
  | [x], _ =>
    rw [List.forIn_cons]
    refine wpAny_bind (wpAny_bind (nsSet_fresh hd fun h' hs hd' => wpAny_pure ?_))
    dsimp only
    rw [List.forIn_nil]
    exact wpAny_pure (h h' 1 hs hd')
/-- a def with *args and **kwargs, over fair contexts -/
theorem bothN {env : Env} {outer : List Env} {R : Result → Shared → Prop} {name qual : Str} {params : Arguments} {body : List Stmt} {scope : Scope} {cl : List (Str × Addr)} {dV kV doc pm cdv ct oc : Value} {an od : Option Addr} {osl : Array (Option Value)} {f : Addr} {args : Args} {vs : List Value} {nm nr : Str} {ex front : List (Str × Value)} {g₁ : Addr → Sem (List (Str × Value))} {g₂ : Addr → Addr → Sem (List (Str × Value))}
    (B : Below A₀ base outer h₀) (F : Fr h₀ L s.heap m) (X₀ : K.In h₀) (N : News h₀ L s.heap news) (T : Top p loose mean mg mb h₀) (hA : A.frames = some (env :: outer)) (hf : env.frame = some L) (hke : env.scope.kind = .function)
    (ho : K.lookup f = some ⟨oc, od, .func (fnX name qual params body scope cl dV kV doc pm an cdv ct), osl⟩) (hcd : codeIn K cdv qual = true) (hroom : A.depth < recursionLimit)
    (_hv : args.pos.drop (params.posonlyargs.length + params.args.length) = vs) (_hx : args.kw.filter (fun x => !ownKw params x.1) = ex) (_hnr : params.vararg.map (·.arg) = some nr) (_hnm : params.kwarg.map (·.arg) = some nm)
    (_hfr : peek K ⟨prog, w.params⟩ (bindArgs (fnCut (fnX name qual params body scope cl dV kV doc pm an cdv ct)) (argsCut params args)) = some front)
    (hn : ex.length ≤ 1)
    (hp : peekA K ⟨prog, w.params⟩ (bindArgs (fnX name qual params body scope cl dV kV doc pm an cdv ct) args) = some (({ cls := .type "tuple", data := .seq vs.toArray } : Obj), g₁))
    (hp₂ : ∀ D, peekA K ⟨prog, w.params⟩ (g₁ D) = some (dictOf [] 0, g₂ D))
    (hk₂ : ∀ C D, g₂ C D = (forIn ex PUnit.unit (fun x _ => (nsSet D x.1 x.2 >>= fun _ => pure (ForInStep.yield PUnit.unit))) >>= fun _ => pure (front ++ [(nr, Value.ref C)] ++ [(nm, Value.ref D)])))
    (hloc : ∀ C D, ∀ y ∈ front ++ [(nr, Value.ref C)] ++ [(nm, Value.ref D)], scope.names.lookup y.1 = some .local)
    (h : ∀ C D o g L' h₁ tk, (∀ p ∈ news, p.1 < C) → C < D → (D == sysModules) = false → o.IsDictOf (strKind prog w) ex → (∀ b o, s.heap.get? b = some o → b ∉ news.map (·.1) → g.get? b = some o) → Fr h₀ L g m → Fr g L' h₁ (fun y => (front ++ [(nr, Value.ref C)] ++ [(nm, Value.ref D)]).reverse.lookup y) →
      News g L' h₁ ((D, o) :: (C, ({ cls := .type "tuple", data := .seq vs.toArray } : Obj)) :: news) → Below A base (env :: outer) g → K.In g → Top p loose mean mg mb g →
      wpN (model prog w) (A.deeper (envX qual scope L' f cdv cl)) (execs body (envX qual scope L' f cdv cl))
        (fun fl s' => LeaveK h₀ L m g R (match fl with | .ret v => v | _ => .none) s')
        (fun e s' => wpN (model prog w) (A.deeper (envX qual scope L' f cdv cl)) (leaving (envX qual scope L' f cdv cl) e) (fun _ s'' => R (.error e) s'') (fun e' s'' => R (.error e') s'') s')
        { s with heap := h₁, toks := tk })
    (hco : scope.isCoroutine = false) (hgen : scope.isGenerator = false) (hk : scope.kind = .function)
    (hcell : ∀ x ∈ scope.names, x.2 ≠ .cell) : codeN (model prog w) A (.call (.ref f) args) R s := by
  have hn' : (ex.map (·.1)).Nodup := by
    match ex, hn with
    | [], _ => exact List.nodup_nil
    | [x], _ => simp
  refine codeN_call_function (fd := fnX name qual params body scope cl dV kV doc pm an cdv ct) (body := body) hroom ((X₀.keeps F.keep) _ _ ho) rfl hco hgen rfl (codeRec_of (X₀.keeps F.keep) hcd) ?_
  refine peekA_go (X₀.keeps F.keep) _ g₁ hp ?_
  have F' := F.push ({ cls := .type "tuple", data := .seq vs.toArray } : Obj)
  have N' := N.push F ({ cls := .type "tuple", data := .seq vs.toArray } : Obj)
  refine peekA_go (s := { s with heap := _ }) (X₀.keeps F'.keep) _ (g₂ s.heap.objs.size) (hp₂ _) ?_
  have F'' := F'.push (dictOf [] 0)
  have N'' := N'.push F' (dictOf [] 0)
  have l : ∀ p ∈ news, p.1 < s.heap.objs.size := fun p hp => Heap.lt_size (N p hp).1
  have hD : ((s.heap.push ({ cls := .type "tuple", data := .seq vs.toArray } : Obj)).push (dictOf [] 0)).get? (s.heap.push ({ cls := .type "tuple", data := .seq vs.toArray } : Obj)).objs.size = some (dictOf [] 0) := Heap.get?_push_size _ rfl
  have l' : ∀ p ∈ (s.heap.objs.size, ({ cls := .type "tuple", data := .seq vs.toArray } : Obj)) :: news, p.1 < (s.heap.push ({ cls := .type "tuple", data := .seq vs.toArray } : Obj)).objs.size := fun p hp => Heap.lt_size (N' p hp).1
  rw [hk₂]
  refine wpAny_bind (fillOne hn hD fun h₃ n hs hD' => wpAny_pure ?_)
  obtain ⟨F₃, N₃⟩ := fr_same F'' N'' hs hD' l'
  refine kpN_frame (cl := cl) (s := { s with heap := h₃, toks := s.toks + ex.length }) B F₃ N₃ T.nolimit hA hf hke (hloc _ _)
    (fun g L' h₁ kp FG FL NG BG st => h _ _ _ g L' h₁ _ l (l' _ (.head _)) (F'.notModules (modules_low T.nolimit)) (kp_isDict s.toks n hn') (fun b o e hb => ?_) FG FL NG BG (X₀.keeps st) (T.keeps st)) hcell hk
  have e1 := Heap.get?_push_of_some (dictOf [] 0) (Heap.get?_push_of_some ({ cls := .type "tuple", data := .seq vs.toArray } : Obj) e)
  have b1 : b < s.heap.objs.size := Heap.lt_size e
  have b2 : b < (s.heap.push ({ cls := .type "tuple", data := .seq vs.toArray } : Obj)).objs.size := Nat.lt_trans b1 (l' _ (.head _))
  refine kp b o ((hs.2 b (Nat.ne_of_lt b2)).trans e1) fun hm => ?_
  rcases List.mem_cons.mp hm with q | hm
  · exact absurd q (Nat.ne_of_lt b2)
  rcases List.mem_cons.mp hm with q | hm
  · exact absurd q (Nat.ne_of_lt b1)
  · exact hb hm

theorem methodN {a : Addr} {f self : Value} {pos : List Value} {kw : List (Str × Value)} {R : Result → Shared → Prop} (ho : s.heap.get? a = some (methodObj f self))
    (h : codeN (model prog w) A (.call f ⟨self :: pos, kw⟩) R s) : codeN (model prog w) A (.call (.ref a) ⟨pos, kw⟩) R s := by
  obtain ⟨hh, g, dr, t, os⟩ := s
  refine codeN_of_any rfl ?_
  show wpAny _ _ (callAny (.ref a) _) _ _ _
  dsimp only at ho
  refine nd_load ho ?_
  cases f <;> exact wpAny_pure ⟨rfl, h⟩
end
section
variable {prog : Program} {w : World} {A : Around} {K : Frag} {C : Addr} {R : Result → Shared → Prop} {h : Heap} {g : Array GenState} {d : Drawn} {t : Nat} {os : OsState}
theorem bad_tc (args : Args) : badCode (.builtin "type.__call__" args) = false := (by decide +kernel : badCode (.builtin "type.__call__" {}) = false)
theorem make_coreN {rest : List Value} {kw : List (Str × Value)} {init : Value} (Y : Makes (model prog w) h C) (hi : Looks (model prog w) h (typeLookup (.ref C) "__init__") (some init))
    (hb : ∀ self, Looks (model prog w) h (bindSpecial init self) (init, [self])) (hne : (some init != some (Value.builtin "object.__init__")) = true ∨ (rest = [] ∧ kw = []))
    (hq : codeN (model prog w) (A.under (.builtin "type.__call__" ⟨.ref C :: rest, kw⟩)) (.call init ⟨.ref (h.objs.size + 1) :: rest, kw⟩) (InitBack (h.objs.size + 1) R) ⟨(h.push emptyDict).push (instObj C h.objs.size), g, d, t, os⟩) :
    codeN (model prog w) A (.call (.ref C) ⟨rest, kw⟩) R ⟨h, g, d, t, os⟩ := by
  have Y' := Y
  obtain ⟨⟨oc, od, cd, sl, hC, e1, e2, e4⟩, made, base, self, top, call, typ⟩ := Y
  refine codeN_of_any rfl ?_
  show wpAny _ _ (callAny (.ref C) _) _ _ _
  refine nd_load hC ?_
  show wpAny _ _ (callAny.viaDunder (.ref C) _) _ _ _
  unfold callAny.viaDunder
  refine wpAny_bind (call.at ?_)
  dsimp only
  rw [tc_bind]
  refine wpAny_bind (wpAny_pure (wpAny_bind (wpAny_pure ?_)))
  refine wpAny_pure (a := Fin.again (.call (.builtin "type.__call__") ⟨.ref C :: rest, kw⟩)) (And.intro rfl ?_)
  refine codeN_call_builtin_code (Code.quiet_builtin _ (by decide +kernel)) (check_slot tc_kind tc_split typ (tc_args _ _ _) ?_)
  refine codeN_builtin (bad_tc _) entry_typeCall ?_
  unfold Builtin.«type.__call__»
  have hm : Looks (model prog w) h (mroOf (.ref C)) cd.mro := ((Looks.ld (part := none) hC).andThen .now).andThen .now
  have k : ∀ b o, h.get? b = some o → ((h.push emptyDict).push (instObj C h.objs.size)).get? b = some o := fun b o e => Heap.get?_push_of_some _ (Heap.get?_push_of_some _ e)
  have hx : ((h.push emptyDict).push (instObj C h.objs.size)).get? (h.objs.size + 1) = some (instObj C h.objs.size) := by heap_get
  have t1 : Looks (model prog w) ((h.push emptyDict).push (instObj C h.objs.size)) (typeOf (.ref (h.objs.size + 1))) (.ref C) := (Looks.ld hx).andThen .now
  have s1 := self.keeps k
  have i1 := hi.keeps k
  have b1 := (hb (.ref (h.objs.size + 1))).keeps k
  show wpN _ _ (mroOf (.ref C) >>= _) _ _ _
  refine wpN_then (hm.at ?_)
  dsimp only
  simp only [e4, Bool.false_eq_true, if_false]
  refine wpN_then (made.at ?_)
  refine wpN_then (wpAny_pure ?_)
  refine wpN_then (wpAny_holding (wpAny_call ?_))
  refine new_K Y' hi hne ?_
  refine wpN_then (m := isInstance _ _) ?_
  · unfold isInstance
    repeat lk
    simp only [Bool.not_true, Bool.false_eq_true, if_false]
    refine wpN_bind (wpN_holding ?_)
    unfold callSpecial? specialOf
    refine wpN_then ?_
    repeat lk
    refine wpN_holding (wpN_then ?_)
    repeat lk
    refine wpN_bind (wpN_call ?_)
    refine codeN_mono hq fun r s' z => ?_
    rcases r with e | (v | _ | _ | _) <;> first | exact z | exact z.elim | skip
    obtain ⟨rfl, z⟩ := z
    exact wpN_pure (wpN_pure z)
theorem make_KN {s : Shared} {h₀ : Heap} {L : Addr} {m : Str → Option Value} {news : List (Addr × Obj)} {rest : List Value} {kw : List (Str × Value)} {fI : Addr} (F : Fr h₀ L s.heap m) (N : News h₀ L s.heap news) (X : K.In s.heap) (hm : makesIn K C = true)
    (hi : findIn K (.ref C) "__init__" = some (some (.ref fI))) (hf : typeIn K (.ref fI) = some (.type "function"))
    (h : ∀ x dx h', (∀ b o, s.heap.get? b = some o → h'.get? b = some o ∧ b < dx) → Fr h₀ L h' m → News h₀ L h' ((x, instObj C dx) :: (dx, emptyDict) :: news) → (∀ p ∈ news, p.1 < dx) → dx < x →
      codeN (model prog w) (A.under (.builtin "type.__call__" ⟨.ref C :: rest, kw⟩)) (.call (.ref fI) ⟨.ref x :: rest, kw⟩) (InitBack x R) { s with heap := h' }) :
    codeN (model prog w) A (.call (.ref C) ⟨rest, kw⟩) R s := by
  obtain ⟨hh, g, d, t, os⟩ := s
  refine make_coreN (makes_of X hm) (looks_findIn X hi) (fun self => bind_fn X self hf) (.inl rfl) (h _ hh.objs.size _ (fun b o e => ⟨Heap.get?_push_of_some _ (Heap.get?_push_of_some _ e), Heap.lt_size e⟩) ((F.push _).push _) ?_ (fun p hp => Heap.lt_size (N p hp).1) (Nat.lt_succ_self _))
  have := (N.push F emptyDict).push (F.push _) (instObj C hh.objs.size)
  rwa [Heap.size_push] at this
end
end Mine
end
section
open PySem PySem.W PyProof.Rows PySem.Calls Builtin
open PySem.Sem (wp)
set_option Elab.async false
set_option maxRecDepth 100000
set_option maxHeartbeats 4000000
namespace Mine
theorem slot_wd_get : Slot "wrapper_descriptor" "__get__" "wrapper_descriptor.__get__" := .of (owner := "wrapper_descriptor") (n := "__get__") (by rw [typeLookup_type, builtinLookup_eq_fast]; kernel_rfl) (by decide +kernel) (by decide +kernel) (by decide +kernel)
  (by first | exact .inl (by decide +kernel) | exact .inr (by decide +kernel)) (by rw [isSubtype_type]; kernel_rfl)
theorem entry_wd_get : entryFor table "wrapper_descriptor.__get__" = some Builtin.«wrapper_descriptor.__get__» := entryFor_of_tree (by kernel_rfl)
theorem args_wd_get (a b c : Value) : argsOk "wrapper_descriptor.__get__" ⟨[a, b, c], []⟩ := by unfold argsOk; kernel_rfl
theorem type_oi : typeOf (.builtin "object.__init__") = pure (.type "wrapper_descriptor") := by kernel_rfl
section
variable {prog : Program} {w : World} {A : Around} {E : Value → Shared → Prop} {h : Heap} {g : Array GenState} {d : Drawn} {t : Nat} {os : OsState}
theorem ga_super_of {so D x C v : Addr} {name : Str} {o : Obj} {Q : Value → Shared → Prop} (hso : h.get? so = some { cls := .type "super", dict := none, data := .fields #[.ref D, .ref x, .ref C], slots := #[] })
    (hb : ∀ A', wpAny (model prog w) A' (Builtin.«super.__getattribute__» ⟨[.ref so, .str name t], []⟩)
      (fun fin s' => fin = .done (.ret (.ref v)) ∧ s' = ⟨h.push o, g, d, t + 1, os⟩) (fun _ _ => False) ⟨h, g, d, t + 1, os⟩)
    (hq : Q (.ref v) ⟨h.push o, g, d, t + 1, os⟩) :
    wpAny (model prog w) A (getAttr (.ref so) name true) Q E ⟨h, g, d, t, os⟩ := by
  have hlk := PySem.F.ks_slot_super_ga.lookup
  have hT : ∀ t', (⟨h, g, d, t', os⟩ : Shared).TypeIs (.ref so) "super" := fun _ => ⟨_, hso, rfl⟩
  unfold getAttr getAttrBy
  refine wpAny_bind (wpAny_mkText (wpAny_holding (wpAny_bind (wpAny_typeOf (hT _) (wpAny_bind (wpAny_of_eq hlk ?_))))))
  show wpAny _ _ (getAttrByItsOwn (.ref so) (.str name t) (.type "super") (.builtin "super.__getattribute__") true true) _ _ _
  unfold getAttrByItsOwn hookBefore callGetattribute boundAndCalled
  refine wpAny_bind (wpAny_of_eq (show (if onTheHeap (.type "super") then typeLookup (.type "super") "__getattr__" else pure none) = pure none from rfl) ?_)
  refine wpAny_bind (wpAny_attempt (wpAny_holding ?_))
  show wpAny _ _ (bindSpecial (.builtin "super.__getattribute__") (.ref so) >>= _) _ _ _
  refine wpAny_bind (wpAny_of_eq (PySem.F.ks_slot_super_ga.bind _) ?_)
  refine wpAny_mono (Q := fun v' s' => v' = .ref v ∧ s' = ⟨h.push o, g, d, t + 1, os⟩) (E := fun _ _ => False)
    (wpAny_call_entry PySem.F.ks_slot_super_ga (hT _) PySem.F.ks_entry_super_ga (wpAny_mono (hb _) (fun fin s' z => ?_) fun _ _ z => z) (PySem.F.ks_gaArgs_super _ _)) (fun v s' hv => ?_) fun _ _ z => z.elim
  · obtain ⟨rfl, rfl⟩ := z
    exact ⟨_, rfl, rfl, rfl⟩
  · obtain ⟨rfl, rfl⟩ := hv
    exact wpAny_pure hq
theorem ga_super {so D x C f : Addr} {of : Obj} {l₀ l : List Value} {K : Frag} {name : Str} {Q : Value → Shared → Prop}
    (hso : h.get? so = some { cls := .type "super", dict := none, data := .fields #[.ref D, .ref x, .ref C], slots := #[] }) (hno : Looks (model prog w) h (opaqueClassAbove (.ref C)) none)
    (hC : Looks (model prog w) h (mroOf (.ref C)) l₀) (hl : (l₀.dropWhile (· != .ref D)).drop 1 = l) (X : K.In h)
    (hf : alongIn K name l = some (some (.ref f))) (hfo : h.get? f = some of) (hfc : of.cls = .type "function") (hxC : x ≠ C) (hn : (name == ("__class__" : Str)) = false)
    (hq : Q (.ref h.objs.size) ⟨h.push { cls := .type "method", data := .fields #[.ref f, .ref x] }, g, d, t + 1, os⟩) :
    wpAny (model prog w) A (getAttr (.ref so) name true) Q E ⟨h, g, d, t, os⟩ :=
  ga_super_of hso (fun _ => ks_wpAny_super_ga hso hno hC hl X hf hfo hfc hxC hn ⟨rfl, rfl⟩) hq

theorem superOI_ga {so D x C : Addr} {l₀ l : List Value} {K : Frag} {tk : Tok} {Q : Fin → Shared → Prop}
    (hso : h.get? so = some { cls := .type "super", dict := none, data := .fields #[.ref D, .ref x, .ref C], slots := #[] }) (hno : Looks (model prog w) h (opaqueClassAbove (.ref C)) none)
    (hC : Looks (model prog w) h (mroOf (.ref C)) l₀) (hl : (l₀.dropWhile (· != .ref D)).drop 1 = l) (X : K.In h)
    (hf : alongIn K "__init__" l = some (some (.builtin "object.__init__"))) (hxC : x ≠ C) {ox : Obj} (hx : h.get? x = some ox) (hxc : ox.cls = .ref C) (hi : Looks (model prog w) h (isSubtype (.ref C) (.type "object")) true)
    (hq : Q (.done (.ret (.ref h.objs.size))) ⟨h.push { cls := .type "method-wrapper", data := .fields #[.builtin "object.__init__", .ref x] }, g, d, t, os⟩) :
    wpAny (model prog w) A (Builtin.«super.__getattribute__» ⟨[.ref so, .str "__init__" tk], []⟩) Q E ⟨h, g, d, t, os⟩ := by
  have hlk := slot_wd_get.lookup
  have hne : (Value.ref x == Value.ref C) = false := by simp [hxC]
  have hTf : (⟨h, g, d, t, os⟩ : Shared).TypeIs (.builtin "object.__init__") "wrapper_descriptor" := type_oi
  have hdt : ({ cls := .type "super", dict := none, data := .fields #[.ref D, .ref x, .ref C], slots := #[] } : Obj).data = .fields #[.ref D, .ref x, .ref C] := rfl
  have f0 : (#[.ref D, .ref x, .ref C] : Array Value)[0]? = some (.ref D) := rfl
  have f1 : (#[.ref D, .ref x, .ref C] : Array Value)[1]? = some (.ref x) := rfl
  have f2 : (#[.ref D, .ref x, .ref C] : Array Value)[2]? = some (.ref C) := rfl
  have hn : (("__init__" : Str) == ("__class__" : Str)) = false := by decide +kernel
  have hcut : (".".intercalate ("object.__init__".cutAt '.').dropLast) = "object" := by decide +kernel
  unfold Builtin.«super.__getattribute__»
  repeat (first
    | (with_reducible (first | refine wpAny_pure ?_ | refine wpAny_bind ?_))
    | ((with_reducible show wpAny _ _ (field _ _) _ _ _); with_reducible (first | refine wpAny_field hso hdt f0 ?_ | refine wpAny_field hso hdt f1 ?_ | refine wpAny_field hso hdt f2 ?_))
    | (with_reducible refine ks_wpAny_notOpaque hno ?_)
    | (with_reducible refine Looks.at hC ?_; rw [hl])
    | (refine ks_forIn_along X (fun _ _ => rfl) rfl ?_ hf)
    | (with_reducible refine wpAny_typeOf hTf ?_)
    | (with_reducible refine wpAny_call_entry slot_wd_get hTf entry_wd_get ?_ (args_wd_get _ _ _))
    | (with_reducible refine wpAny_loadPart_at hx ?_; rw [hxc])
    | (with_reducible refine Looks.at hi ?_)
    | (simp only [hcut])
    | (with_reducible refine ⟨_, rfl, ?_⟩)
    | (simp only [hn, hne, Bool.or_false, Bool.false_eq_true, if_false])
    | wp_step
    | dsimp only)
  all_goals exact hq
end
end Mine
end
section
open PySem PySem.W PyProof.Rows PySem.Calls Builtin
open PySem.Sem (wp)
set_option Elab.async false
set_option maxRecDepth 100000
set_option maxHeartbeats 4000000
namespace Mine
abbrev wrapObj (x : Addr) : Obj := { cls := .type "method-wrapper", data := .fields #[.builtin "object.__init__", .ref x] }
section
variable {prog : Program} {w : World} {A : Around} {E : Value → Shared → Prop} {s : Shared} {h₀ : Heap} {L : Addr} {m mg mb : Str → Option Value} {news : List (Addr × Obj)} {K : Frag} {p : Program} {loose : List Str} {mean : ExcName → Option Value} {x C D f f2 cc cda so q : Addr} {ox : Obj} {odx : Option Obj}
theorem super_call {cdD : ClassData} {Q : Value → Shared → Prop} (F : Fr h₀ L s.heap m) (X₀ : K.In h₀) (N : News h₀ L s.heap news) (hD : clsIn K D = some cdD) (I : InstAt s.heap x ox C odx) (hsub : mroIn K C (.ref D) = some true)
    (h : ∀ so h', Fr h₀ L h' m → News h₀ L h' ((so, ks_superObj D x C) :: news) → (∀ p ∈ news, p.1 < so) → Q (.ref so) { s with heap := h' }) : wpAny (model prog w) A (call (.type "super") [.ref D, .ref x]) Q E s := by
  have X : K.In s.heap := X₀.keeps F.keep
  obtain ⟨hh, g, d, t, os⟩ := s
  obtain ⟨oD, hD1, hD2⟩ : ∃ oD, hh.get? D = some oD ∧ oD.data = .cls cdD := by
    unfold clsIn at hD
    split at hD
    · rename_i c d cd' sl ho
      cases hD
      exact ⟨_, X _ _ ho, rfl⟩
    · cases hD
  refine ks_wpAny_call_super hD1 hD2 I.at_ I.cls (fun c e => ?_) (looks_mroIn X hsub) (fun h' e k => ?_)
  · have := I.no
    unfold notCls at this
    rw [e] at this
    exact Bool.noConfusion this
  · obtain ⟨F', N', l'⟩ := ks_newsPush (s := ⟨hh, g, d, t, os⟩) F N rfl e k
    exact h _ _ F' N' l'
theorem super_get {name : Str} {Q : Value → Shared → Prop} (F : Fr h₀ L s.heap m) (X₀ : K.In h₀) (N : News h₀ L s.heap news) (hso : (so, ks_superObj D x C) ∈ news) (I : InstAt s.heap x ox C odx) (ho : nsIn K cStatics "thirdparty.any" = some none)
    (hm : ks_superIn K C D name = some (some (.ref f2))) (ht : typeIn K (.ref f2) = some (.type "function")) (hn : (name == ("__class__" : Str)) = false)
    (h : ∀ q h', Fr h₀ L h' m → News h₀ L h' ((q, methodObj (.ref f2) (.ref x)) :: news) → (∀ p ∈ news, p.1 < q) → Q (.ref q) { s with heap := h', toks := s.toks + 1 }) : wpAny (model prog w) A (getAttr (.ref so) name true) Q E s := by
  have X : K.In s.heap := X₀.keeps F.keep
  obtain ⟨hh, g, d, t, os⟩ := s
  cases hc : clsIn K C with
  | none => unfold ks_superIn at hm; rw [hc] at hm; cases hm
  | some cd =>
    unfold ks_superIn at hm
    rw [hc] at hm
    obtain ⟨of, hof, hofc⟩ : ∃ of, hh.get? f2 = some of ∧ of.cls = .type "function" := by
      have ht' : (K.lookup f2).map (·.cls) = some (.type "function") := ht
      cases z : K.lookup f2 with
      | none => rw [z] at ht'; cases ht'
      | some of => rw [z] at ht'; exact ⟨of, X _ _ z, Option.some.inj ht'⟩
    refine ga_super (N _ hso).1 (looks_opaque X ho) (l₀ := cd.mro) ?_ rfl X hm hof hofc (ks_ne X I hc) hn ?_
    · exact fun A Q E s k q => wpAny_bind ((looks_clsIn X hc) A _ E s k (wpAny_pure q))
    · obtain ⟨F', N', l'⟩ := ks_newsPush (s := ⟨hh, g, d, t, os⟩) (o := methodObj (.ref f2) (.ref x)) F N rfl (Heap.get?_push_at rfl rfl) (fun b o e => Heap.get?_push_of_some _ e)
      exact h _ _ F' N' l'
theorem super_getOI {Q : Value → Shared → Prop} (F : Fr h₀ L s.heap m) (X₀ : K.In h₀) (N : News h₀ L s.heap news) (hso : (so, ks_superObj D x C) ∈ news) (I : InstAt s.heap x ox C odx) (ho : nsIn K cStatics "thirdparty.any" = some none)
    (hm : ks_superIn K C D "__init__" = some (some (.builtin "object.__init__"))) (hsub : mroIn K C (.type "object") = some true)
    (h : ∀ q h', Fr h₀ L h' m → News h₀ L h' ((q, wrapObj x) :: news) → (∀ p ∈ news, p.1 < q) → Q (.ref q) { s with heap := h', toks := s.toks + 1 }) : wpAny (model prog w) A (getAttr (.ref so) "__init__" true) Q E s := by
  have X : K.In s.heap := X₀.keeps F.keep
  obtain ⟨hh, g, d, t, os⟩ := s
  cases hc : clsIn K C with
  | none => unfold ks_superIn at hm; rw [hc] at hm; cases hm
  | some cd =>
    unfold ks_superIn at hm
    rw [hc] at hm
    refine ga_super_of (N _ hso).1 (fun _ => superOI_ga (N _ hso).1 (looks_opaque X ho) (l₀ := cd.mro) ?_ rfl X hm (ks_ne X I hc) I.at_ I.cls (looks_mroIn X hsub) ⟨rfl, rfl⟩) ?_
    · exact fun A Q E s k q => wpAny_bind ((looks_clsIn X hc) A _ E s k (wpAny_pure q))
    · obtain ⟨F', N', l'⟩ := ks_newsPush (s := ⟨hh, g, d, t, os⟩) (o := wrapObj x) F N rfl (Heap.get?_push_at rfl rfl) (fun b o e => Heap.get?_push_of_some _ e)
      exact h _ _ F' N' l'
theorem keeps_OI {M : Model} (h : Heap) (e : h.get? q = some (wrapObj x)) : ∃ k, (k = Keeper.frame ∨ k = Keeper.machine ∨ k = Keeper.boundFrame) ∧ Looks M h (keeperOf (.ref q)) k :=
  ⟨.machine, .inr (.inl rfl), (Looks.ld (part := none) e).andThen .now⟩
theorem bound_oi (x : Addr) : checkBoundCall "object.__init__" ⟨[.ref x], []⟩ = pure () := by kernel_rfl
theorem call_OI {Q : Value → Shared → Prop} (e : s.heap.get? q = some (wrapObj x)) (h : Q .none s) : wpAny (model prog w) A (call (.ref q) [] []) Q E s := by
  refine wpAny_call (codeAny_of_tree ?_)
  show wpAny _ _ (callAny (.ref q) _) _ _ _
  unfold callAny
  refine wpAny_bind (wpAny_load e ?_)
  show wpAny _ _ (checkBoundCall "object.__init__" ⟨[.ref x], []⟩ >>= fun _ => again (.builtin "object.__init__" ⟨[.ref x], []⟩)) _ _ _
  refine wpAny_bind (wpAny_of_eq (bound_oi x) (wpAny_pure ⟨Code.quiet_builtin _ (by decide +kernel), codeAny_builtin entry_oi ?_⟩))
  rw [oi_run]
  exact wpAny_pure h
end
end Mine
end
section
open PySem PySem.W PyProof.Rows PySem.Calls Builtin
open PySem.Sem (wp)
set_option Elab.async false
set_option maxRecDepth 1000000
set_option maxHeartbeats 4000000
namespace Mine
theorem mro_ba : mroOf (.type "bytearray") = pure [.type "bytearray", .type "object"] := by rw [mroOf_type]; kernel_rfl
theorem lookup_ba_new : typeLookup (.type "bytearray") "__new__" = pure (some (.builtin "bytearray.__new__")) := by rw [typeLookup_type, builtinLookup_eq_fast]; kernel_rfl
theorem slot_ba_init : Slot "bytearray" "__init__" "bytearray.__init__" := .of (owner := "bytearray") (n := "__init__") (by rw [typeLookup_type, builtinLookup_eq_fast]; kernel_rfl) (by decide +kernel) (by decide +kernel) (by decide +kernel)
  (by first | exact .inl (by decide +kernel) | exact .inr (by decide +kernel)) (by rw [isSubtype_type]; kernel_rfl)
theorem called_ba : TypeCalled "bytearray" "bytearray.__new__" "bytearray.__init__" :=
  ⟨by decide +kernel, by decide +kernel, ⟨_, _, mro_ba⟩, madeBy_type mro_ba lookup_ba_new (by decide +kernel), by decide +kernel, by rw [isSubtype_type]; kernel_rfl, slot_ba_init⟩
theorem tcall_ba (a : Value) : checkTypeCall "bytearray" ⟨[a], []⟩ = pure () := by kernel_rfl
theorem ncall_ba (a : Value) : checkBuiltinCall "bytearray.__new__" ⟨[.type "bytearray", a], []⟩ = pure () := by kernel_rfl
theorem entry_ba_new : entryFor table "bytearray.__new__" = some Builtin.«list.__new__» :=
  entryFor_alias (id' := "list.__new__") (by kernel_rfl) (by decide +kernel) (by decide +kernel) (by kernel_rfl)
theorem entry_ba_init : entryFor table "bytearray.__init__" = some Builtin.«bytearray.__init__» := entryFor_of_tree (by kernel_rfl)
theorem args_ba_init (o a : Value) : argsOk "bytearray.__init__" ⟨[o, a], []⟩ := by unfold argsOk; kernel_rfl
theorem owner_ba_new : ("bytearray.__new__".splitOn ".__new__").headD "" = "bytearray" := by simp +decide [String.splitOn, String.splitOnAux]
theorem sub_ba_self : isSubtype (.type "bytearray") (.type "bytearray") = pure true := PySem.F.sub_bytearray_bytearray
section
variable {prog : Program} {w : World} {A : Around} {E : Value → Shared → Prop} {s : Shared}
theorem code_ba_new (a : Value) {Q₁ : Value → Shared → Prop}
    (h : Q₁ (.ref s.heap.objs.size) { s with heap := s.heap.push { cls := .type "bytearray", data := .bytearray #[] } }) :
    codeAny (model prog w) A (.call (.builtin "bytearray.__new__") ⟨[.type "bytearray", a], []⟩) (wants Q₁ E) s := by
  refine codeAny_of_tree ?_
  show wpAny _ A.in1 (do checkBuiltinCall "bytearray.__new__" ⟨[.type "bytearray", a], []⟩; again (.builtin "bytearray.__new__" ⟨[.type "bytearray", a], []⟩)) _ _ s
  refine wpAny_bind (wpAny_of_eq (ncall_ba a) (wpAny_pure ⟨plainId_quiet called_ba.plain _, codeAny_builtin_stack entry_ba_new rfl fun p st => ?_⟩))
  rw [Around.under_plainId called_ba.plain _]
  have hsub := sub_ba_self
  have hown := owner_ba_new
  obtain ⟨hp, g, d, tk, os⟩ := s
  simp only [hown]
  wp_walk
  exact h
theorem bo_ba (b : Value) : Bytes.bindOptional "bytearray.__init__" "bytearray" ["source", "encoding", "errors"] [b] [] = pure [some b, none, none] := by kernel_rfl
theorem slot_ba_rel : typeLookup (.type "bytearray") "__release_buffer__" = pure (some (.builtin "bytearray.__release_buffer__")) := by rw [typeLookup_type, builtinLookup_eq_fast]; kernel_rfl
theorem slot_bytes_buf : typeLookup (.type "bytes") "__buffer__" = pure (some (.builtin "bytes.__buffer__")) := PySem.W.KBy.look_buffer
theorem slot_bytes_rel : typeLookup (.type "bytes") "__release_buffer__" = pure none := PySem.W.KBy.look_release
theorem slot_bytes_index : typeLookup (.type "bytes") "__index__" = pure none := by rw [typeLookup_type, builtinLookup_eq_fast]; kernel_rfl
theorem sub_bytes_self : isSubtype (.type "bytes") (.type "bytes") = pure true := PySem.F.isi_self_bytes
theorem endsRel : "bytearray.__release_buffer__".endsWith ("." ++ "__release_buffer__") = true := by decide +kernel
theorem dropRel : "bytearray.__release_buffer__".dropRight ("__release_buffer__".length + 1) = "bytearray" := by decide +kernel
theorem endsBuf : "bytes.__buffer__".endsWith ("." ++ "__buffer__") = true := by decide +kernel
theorem dropBuf : "bytes.__buffer__".dropRight ("__buffer__".length + 1) = "bytes" := by decide +kernel
theorem wpAny_slotIsOwn {v : Value} {T n id : String} {Q : Bool → Shared → Prop} (hT : s.TypeIs v T) (hl : typeLookup (.type T) n = pure (some (.builtin id))) (he : id.endsWith ("." ++ n) = true) (hd : id.dropRight (n.length + 1) = T)
    (hs : isSubtype (.type T) (.type T) = pure true) (hq : Q true s) : wpAny (model prog w) A (Bytes.slotIsOwn v n) Q E s := by
  unfold Bytes.slotIsOwn
  refine wpAny_bind (wpAny_specialOf hT hl ?_)
  dsimp only
  simp only [he, hd, Bool.not_true, Bool.false_eq_true, if_false]
  exact wpAny_isInstance hT hs hq
theorem wpAny_slotIsOwn0 {v : Value} {T n : String} {Q : Bool → Shared → Prop} (hT : s.TypeIs v T) (hl : typeLookup (.type T) n = pure none) (hq : Q true s) : wpAny (model prog w) A (Bytes.slotIsOwn v n) Q E s := by
  unfold Bytes.slotIsOwn
  exact wpAny_bind (wpAny_specialOf hT hl (wpAny_pure hq))
theorem wpAny_writeBA {S : Addr} {x : Array UInt8} {b : Array UInt8} {h : Heap} {g : Array GenState} {d : Drawn} {t : Nat} {os : OsState} {Q : Unit → Shared → Prop} (hS : h.get? S = some { cls := .type "bytearray", data := .bytearray x }) (hz : b.size ≤ sizeLine)
    (hq : ∀ h', Heap.SameBut S h h' → h'.get? S = some { cls := .type "bytearray", data := .bytearray b } → Q () ⟨h', g, d, t, os⟩) :
    wpAny (model prog w) A (Bytes.write (.ref S) fun _ => b) Q E ⟨h, g, d, t, os⟩ := by
  show wpAny _ _ (updateBytearray S (fun _ => b)) _ _ _
  unfold updateBytearray
  refine wpAny_bind (wpAny_load hS ?_)
  show wpAny _ _ (update S (Obj.mapBytearray (fun _ => b)) >>= fun _ => lookBehind S) _ _ _
  refine wpAny_bind (wpAny_update hS ?_)
  have hS₂ : (h.update S (Obj.mapBytearray (fun _ => b))).get? S = some { cls := .type "bytearray", data := .bytearray b } := Heap.get?_update_self (Obj.mapBytearray (fun _ => b)) hS rfl
  refine wpAny_lookBehind hS₂ ?_ (hq _ (Heap.SameBut.update ..) hS₂)
  show (if b.size > sizeLine then some "bytearray:memory" else none) = none
  rw [if_neg]; omega
theorem ba_init {S : Addr} {b : Array UInt8} {tk : Tok} {h : Heap} {g : Array GenState} {d : Drawn} {t : Nat} {os : OsState} {Q : Fin → Shared → Prop} (hS : h.get? S = some { cls := .type "bytearray", data := .bytearray #[] }) (hz : b.size ≤ sizeLine)
    (hq : ∀ h', Heap.SameBut S h h' → h'.get? S = some { cls := .type "bytearray", data := .bytearray b } → Q (.done (.ret .none)) ⟨h', g, d, t, os⟩) :
    wpN (model prog w) A (Builtin.«bytearray.__init__» ⟨[.ref S, .bytes b tk], []⟩) Q E ⟨h, g, d, t, os⟩ := by
  have hT : (⟨h, g, d, t, os⟩ : Shared).TypeIs (.ref S) "bytearray" := ⟨_, hS, rfl⟩
  have hB : ∀ s : Shared, s.TypeIs (.bytes b tk) "bytes" := fun _ => rfl
  unfold Builtin.«bytearray.__init__»
  show wpN _ _ (Bytes.ownRelease (.ref S) >>= _) _ _ _
  unfold Bytes.ownRelease
  refine wpN_then (wpAny_bind (wpAny_slotIsOwn hT slot_ba_rel endsRel dropRel sub_ba_self (wpAny_pure ?_)))
  show wpN _ _ (Bytes.bindOptional "bytearray.__init__" "bytearray" ["source", "encoding", "errors"] [.bytes b tk] [] >>= _) _ _ _
  refine wpN_then (wpAny_of_eq (bo_ba _) ?_)
  show wpN _ _ (Bytes.checkCodecArg "bytearray.__init__" "bytearray" "encoding" none >>= _) _ _ _
  refine wpN_then (wpAny_of_eq (rfl : _ = pure ()) ?_)
  refine wpN_then (wpAny_of_eq (rfl : Bytes.checkCodecArg "bytearray.__init__" "bytearray" "errors" none = pure ()) ?_)
  refine wpN_bind (wpN_bind (wpN_exported ?_))
  refine wpN_any (wpAny_bind ?_)
  unfold Bytes.exportsOf
  refine wpAny_bind (wpAny_load hS (wpAny_pure (wpAny_pure ?_)))
  show wpN _ _ (Bytes.write (.ref S) (fun _ => #[]) >>= _) _ _ _
  refine wpN_then (wpAny_writeBA hS (by decide +kernel) fun h' s1 e1 => ?_)
  refine wpN_any ?_
  show wpAny _ _ (asStr? (.bytes b tk) >>= _) _ _ _
  refine wpAny_bind (wpAny_of_eq (rfl : asStr? (.bytes b tk) = pure none) ?_)
  show wpAny _ _ ((pure () : Sem Unit) >>= fun _ => specialOf (.bytes b tk) "__index__" >>= _) _ _ _
  refine wpAny_bind (wpAny_pure (wpAny_bind (wpAny_specialOf (hB _) slot_bytes_index ?_)))
  show wpAny _ _ (Bytes.buffer? "bytearray.__init__" (.bytes b tk) true >>= _) _ _ _
  unfold Bytes.buffer?
  refine wpAny_bind (wpAny_bind (wpAny_specialOf (hB _) slot_bytes_buf ?_))
  dsimp only
  refine wpAny_bind (wpAny_slotIsOwn (hB _) slot_bytes_buf endsBuf dropBuf sub_bytes_self ?_)
  show wpAny _ _ (specialOf (.bytes b tk) "__buffer__" >>= _) _ _ _
  refine wpAny_bind (wpAny_specialOf (hB _) slot_bytes_buf ?_)
  show wpAny _ _ (Bytes.ownRelease (.bytes b tk) >>= _) _ _ _
  unfold Bytes.ownRelease
  refine wpAny_bind (wpAny_bind (wpAny_slotIsOwn0 (hB _) slot_bytes_rel (wpAny_pure ?_)))
  show wpAny _ _ (Bytes.payload (.bytes b tk) >>= _) _ _ _
  refine wpAny_bind (wpAny_of_eq (rfl : Bytes.payload (.bytes b tk) = pure b) (wpAny_pure ?_))
  show wpAny _ _ (rule "bytearray.__init__.bytes-like" >>= fun _ => Bytes.write (.ref S) (fun _ => b) >>= fun _ => ret .none) _ _ _
  refine wpAny_bind (wpAny_rule (wpAny_bind (wpAny_writeBA e1 hz fun h'' s2 e2 => wpAny_pure (hq _ (s1.trans s2) e2))))
theorem bad_ba (args : Args) : badCode (.builtin "bytearray.__init__" args) = false := (by decide +kernel : badCode (.builtin "bytearray.__init__" {}) = false)
/-- bytearray(b), over fair contexts -/
theorem bytearrayN {b : Array UInt8} {tk : Tok} {R : Result → Shared → Prop} (hz : b.size ≤ sizeLine)
    (hq : ∀ h', (∀ a o, s.heap.get? a = some o → h'.get? a = some o) → h'.get? s.heap.objs.size = some { cls := .type "bytearray", data := .bytearray b } → R (.ok (.ret (.ref s.heap.objs.size))) { s with heap := h' }) :
    codeN (model prog w) A (.call (.type "bytearray") ⟨[.bytes b tk], []⟩) R s := by
  have ft := called_ba
  obtain ⟨c, tl, hmro⟩ := ft.mro
  have hmade := ft.made
  have hsub := ft.sub
  have h1 := ft.notType
  have h2 := ft.canCreate
  refine codeN_of_any rfl ?_
  show wpAny _ _ (callAny (.type "bytearray") _) _ _ _
  refine wpAny_pure ⟨Code.quiet_builtin _ (by decide +kernel), codeN_builtin (bad_tc _) PySem.F.entry_type_call ?_⟩
  rw [Around.under_plain (weight_type_call_type "bytearray" [.bytes b tk] []) rfl]
  unfold Builtin.«type.__call__»
  show wpN _ _ (if (Value.type "bytearray" == Value.type "type") = true then _ else _) _ _ _
  rw [h1, if_neg Bool.false_ne_true]
  show wpN _ _ (if (((Manifest.find? "bytearray").bind fun x => List.findSome? (fun t => (Manifest.find? t).bind fun b => if b.noNew = true then some true else if (b.attrs.any fun x => x.fst == "__new__") = true then some false else none) x.mro).getD false) = true then _ else _) _ _ _
  rw [h2, if_neg Bool.false_ne_true]
  show wpN _ _ (checkTypeCall "bytearray" ⟨[.bytes b tk], []⟩ >>= _) _ _ _
  refine wpN_then (wpAny_of_eq (tcall_ba _) ?_)
  show wpN _ _ (mroOf (.type "bytearray") >>= _) _ _ _
  refine wpN_then (wpAny_of_eq mro_ba ?_)
  show wpN _ _ (Bind.madeBy (.type "bytearray") >>= _) _ _ _
  refine wpN_then (wpAny_of_eq hmade ?_)
  show wpN _ _ (pure (Value.builtin "bytearray.__new__") >>= _) _ _ _
  refine wpN_then (wpAny_pure (wpN_then (wpAny_holding (wpAny_call ?_))))
  refine codeAny_mono (code_ba_new (Q₁ := fun v s' => v = .ref s.heap.objs.size ∧ s' = { s with heap := s.heap.push { cls := .type "bytearray", data := .bytearray #[] } }) (E := fun _ _ => False) (.bytes b tk) ⟨rfl, rfl⟩) fun r s₁ hr => ?_
  rcases r with e | (v | _ | _ | _) <;> first | exact hr.elim | skip
  obtain ⟨rfl, rfl⟩ := hr
  obtain ⟨h, g, d, t, os⟩ := s
  have hS : (h.push { cls := .type "bytearray", data := .bytearray #[] }).get? h.objs.size = some { cls := .type "bytearray", data := .bytearray #[] } := Heap.get?_push_size _ rfl
  have hT : (⟨h.push { cls := .type "bytearray", data := .bytearray #[] }, g, d, t, os⟩ : Shared).TypeIs (.ref h.objs.size) "bytearray" := ⟨_, hS, rfl⟩
  refine wpN_then (wpAny_isInstance hT hsub ?_)
  simp only [Bool.not_true, Bool.false_eq_true, if_false]
  refine wpN_bind (wpN_holding ?_)
  unfold callSpecial?
  refine wpN_then (wpAny_specialOf hT slot_ba_init.lookup ?_)
  refine wpN_holding (wpN_then (wpAny_of_eq (slot_ba_init.bind _) ?_))
  refine wpN_bind (wpN_call (codeN_call_builtin_code (plainId_quiet slot_ba_init.plain _) (slot_ba_init.check _ _ _ _ _ _ _ _ hT (args_ba_init _ _) (codeN_builtin (bad_ba _) entry_ba_init ?_))))
  refine ba_init hS hz fun h' s1 e1 => ?_
  exact wpN_pure (wpN_pure (hq h' (fun a o e => s1.extBut a o (Nat.ne_of_lt (Heap.lt_size e)) (Heap.get?_push_of_some _ e)) e1))
end
end Mine
end
section
open PySem PySem.W PyProof.Rows PySem.Calls Builtin
open PySem.Sem (wp)
set_option Elab.async false
set_option maxRecDepth 100000
set_option maxHeartbeats 4000000
namespace Mine
/-- a statement that the library's rules walk; it neither raises nor leaves -/
theorem nExecs_leaf0 {M : Model} {A : Around} {E : Value → Shared → Prop} {s : Shared} {env : Env} {st : Stmt} {rest : List Stmt} {Q : Flow → Shared → Prop} (h : wpAny M A (exec st env) (fun f s' => f = .next ∧ wpN M A (execs rest env) Q E s') (fun _ _ => False) s) : wpN M A (execs (st :: rest) env) Q E s :=
  nExecs_leaf (wpAny_mono h (fun _ _ x => x) fun _ _ x => x.elim)
section
variable {prog : Program} {w : World} {A : Around} {E : Value → Shared → Prop} {s : Shared} {h₀ : Heap} {L : Addr} {m : Str → Option Value} {news : List (Addr × Obj)} {K : Frag} {x f2 q c kd : Addr} {ko : Obj} {kw : List (Str × Value)} {vs : List Value}
  {cn : Str} {cs : Scope} {fa : Addr} {ccd : Value} {cl : List (Str × Addr)} {an ak : Str} {pos p1 p2 p3 p4 : Pos}
theorem evalStar {f : Value} {Q : Args → Shared → Prop} (F : Fr h₀ L s.heap m) (N : News h₀ L s.heap news) (hma : m an = some (.ref c)) (hmk : m ak = some (.ref kd)) (hkd : (kd, ko) ∈ news) (lo : (kd == sysModules) = false) (ho : ko.IsDictOf (strKind prog w) kw) (hl : kw.length ≤ 1)
    (hc : (c, ({ cls := .type "tuple", data := .seq vs.toArray } : Obj)) ∈ news) (hz : vs.length ≤ sizeLine)
    (hq : ∀ h', Fr h₀ L h' m → News h₀ L h' news → Q ⟨vs, kw⟩ { s with heap := h' })
    (hk : cs.kind = .function := by rfl) (hx1 : (envX cn cs L fa ccd cl).kindOf an = some .local := by rfl) (hd1 : (an == ("__debug__" : Str)) = false := by decide)
    (hx2 : (envX cn cs L fa ccd cl).kindOf ak = some .local := by rfl) (hd2 : (ak == ("__debug__" : Str)) = false := by decide) :
    wpAny (model prog w) A (evalArgs f true (backTo pos (starEach [.Starred (.Name an p1) p2] (envX cn cs L fa ccd cl))) (backToKw pos (keywordEach [⟨none, .Name ak p3, p4⟩] (envX cn cs L fa ccd cl)))) Q E s := by
  have e1 : backTo pos (starEach [.Starred (.Name an p1) p2] (envX cn cs L fa ccd cl)) = [(true, (do let v ← eval (.Name an p1) (envX cn cs L fa ccd cl); standAt pos; pure v))] := rfl
  have e2 : backToKw pos (keywordEach [⟨none, .Name ak p3, p4⟩] (envX cn cs L fa ccd cl)) = [(none, (do let v ← eval (.Name ak p3) (envX cn cs L fa ccd cl); standAt pos; pure v))] := rfl
  rw [e1, e2]
  refine starkwD F N hkd lo ho hl hc hz (fun h' Q' F' q => ?_) (fun h' Q' F' q => ?_) hq
  · exact wpAny_bind (nameX_L (s := { s with heap := h' }) F' hma (wpAny_bind (wpAny_standAt (wpAny_pure q))) hk hx1 hd1)
  · exact wpAny_bind (nameX_L (s := { s with heap := h' }) F' hmk (wpAny_bind (wpAny_standAt (wpAny_pure q))) hk hx2 hd2)
theorem callStarN {Q : Value → Shared → Prop} (F : Fr h₀ L s.heap m) (X₀ : K.In h₀) (N : News h₀ L s.heap news) (hq : (q, methodObj (.ref f2) (.ref x)) ∈ news) (hf : fnIn K f2 = true) (hma : m an = some (.ref c)) (hmk : m ak = some (.ref kd)) (hkd : (kd, ko) ∈ news) (lo : (kd == sysModules) = false) (ho : ko.IsDictOf (strKind prog w) kw) (hl : kw.length ≤ 1)
    (hc : (c, ({ cls := .type "tuple", data := .seq vs.toArray } : Obj)) ∈ news) (hz : vs.length ≤ sizeLine)
    (h : ∀ h', Fr h₀ L h' m → News h₀ L h' news → codeN (model prog w) A (.call (.ref f2) ⟨.ref x :: vs, kw⟩) (fun r s' => match r with | .ok (.ret v) => Q v s' | .ok _ => False | .error e => E e s') { s with heap := h' })
    (hk : cs.kind = .function := by rfl) (hx1 : (envX cn cs L fa ccd cl).kindOf an = some .local := by rfl) (hd1 : (an == ("__debug__" : Str)) = false := by decide)
    (hx2 : (envX cn cs L fa ccd cl).kindOf ak = some .local := by rfl) (hd2 : (ak == ("__debug__" : Str)) = false := by decide) :
    wpN (model prog w) A (callWith pos (.ref q) [] (backTo pos (starEach [.Starred (.Name an p1) p2] (envX cn cs L fa ccd cl))) (backToKw pos (keywordEach [⟨none, .Name ak p3, p4⟩] (envX cn cs L fa ccd cl)))) Q E s :=
  nCallWith (P := MethP K q f2 (.ref x)) (keeps_M hf) (evalStar F N hma hmk hkd lo ho hl hc hz (fun h' F' N' => ⟨⟨(N' _ hq).1, X₀.keeps F'.keep⟩, wpN_call (methodN (N' _ hq).1 (h h' F' N'))⟩) hk hx1 hd1 hx2 hd2)
theorem callStarOI {Q : Value → Shared → Prop} (F : Fr h₀ L s.heap m) (N : News h₀ L s.heap news) (hq : (q, wrapObj x) ∈ news) (hma : m an = some (.ref c)) (hmk : m ak = some (.ref kd)) (hkd : (kd, ko) ∈ news) (lo : (kd == sysModules) = false) (ho : ko.IsDictOf (strKind prog w) [])
    (hc : (c, ({ cls := .type "tuple", data := .seq #[] } : Obj)) ∈ news)
    (h : ∀ h', Fr h₀ L h' m → News h₀ L h' news → Q .none { s with heap := h' })
    (hk : cs.kind = .function := by rfl) (hx1 : (envX cn cs L fa ccd cl).kindOf an = some .local := by rfl) (hd1 : (an == ("__debug__" : Str)) = false := by decide)
    (hx2 : (envX cn cs L fa ccd cl).kindOf ak = some .local := by rfl) (hd2 : (ak == ("__debug__" : Str)) = false := by decide) :
    wpN (model prog w) A (callWith pos (.ref q) [] (backTo pos (starEach [.Starred (.Name an p1) p2] (envX cn cs L fa ccd cl))) (backToKw pos (keywordEach [⟨none, .Name ak p3, p4⟩] (envX cn cs L fa ccd cl)))) Q E s :=
  nCallWith (P := fun h => h.get? q = some (wrapObj x)) (fun h e => keeps_OI h e) (evalStar (vs := []) F N hma hmk hkd lo ho (Nat.zero_le _) hc (Nat.zero_le _) (fun h' F' N' => ⟨(N' _ hq).1, wpN_any (call_OI (N' _ hq).1 (h h' F' N'))⟩) hk hx1 hd1 hx2 hd2)
end
end Mine
end
section
open PySem PySem.W PyProof.Rows PySem.Calls
set_option Elab.async false
set_option maxRecDepth 100000
set_option maxHeartbeats 4000000
namespace Mine
section
variable {prog : Program} {w : World} {A : Around} {E : Value → Shared → Prop} {s : Shared} {h₀ : Heap} {env : Env} {target : Expr} {body : List Stmt} {Q : Flow → Shared → Prop}
/-- `for k in d` over a dict of str keys, whatever its values -/
theorem keysR {d : Addr} {od : Obj} {xs : List Itm} {m₀ : Str → Option Value} {news : List (Addr × Obj)} {kvs : List (Str × Value)}
    (hh : A.handled = none) (F : Fr h₀ env.locals s.heap m₀) (N : News h₀ env.locals s.heap news) (lo : (d == sysModules) = false) (hd : od.IsDictOf (strKind prog w) kvs) (hm : (d, od) ∈ news)
    (hx : kvs.map (fun p => Itm.tok (fun t => .str p.1 t)) = xs)
    (rest₀ : ∀ I : Addr, (∀ p ∈ news, p.1 < I) → ItemsRest prog w A E h₀ env target body Q s [(I, "dict_keyiterator")] [(d, od)] xs m₀ news) :
    wpAny (model prog w) A (pyIter (.ref d)) (fun it s₂ => TurnsAt prog w A h₀ env target body Q E it s₂) E s := by
  subst hx
  have hax := N _ hm
  have hdo := kda_dict N hm hd
  obtain ⟨ep, hat⟩ := hdo.dictAt
  have hne : d ≠ s.heap.objs.size := Nat.ne_of_lt hat.lt_size
  refine wpAny_pyIter_dict lo hat ?_
  refine ktu_core (tk0 := s.toks) (keep := [(d, od)]) (KTurns.ofWalks (Walks.dictKeys (knd := strKind prog w) hh s.heap.objs.size d hne kvs ep) fun i v s Q E st q => letGo_keyiter st.1 q) (by rw [List.length_map]) ?_ ?_ ?_ ?_ ?_ ?_ ?_ ?_ (F.push _) (fun p hp => ⟨Heap.get?_push_of_some _ (N p hp).1, (N p hp).2⟩) (And.intro hm trivial) (rest₀ _ fun p hp => Heap.lt_size (N p hp).1)
  · rintro i v h ⟨k, x, hx, hk⟩
    exact ⟨.tok (fun t => .str k t), by rw [List.getElem?_map, hx]; rfl, Value.isStrOf_shape hk⟩
  · rintro i h ⟨⟨oi, g, c, _⟩, _⟩
    exact ⟨[(s.heap.objs.size, oi)], ⟨⟨rfl, c⟩, trivial⟩, fun p hp => by rw [List.mem_singleton.mp hp]; exact g⟩
  · intro b hb
    have hb' : b = s.heap.objs.size := by simpa using hb
    rw [hb']
    exact ⟨List.mem_cons_self .., next_is_new F⟩
  · intro b hb
    simpa using hb
  · intro b hb
    have hb' : b = s.heap.objs.size ∨ b = d := by simpa using hb
    rcases hb' with e | e
    · exact .inl (by simp [e])
    · exact .inr ⟨od, by simp [e]⟩
  · intro hI
    have hb' : env.locals = s.heap.objs.size ∨ env.locals = d := by simpa using hI
    rcases hb' with e | e
    · exact absurd F.ns.lt (e ▸ Nat.lt_irrefl _)
    · exact hax.2.1 e.symm
  · intro p hp hI
    exact absurd (Heap.lt_size (N p hp).1) ((List.mem_singleton.mp hI) ▸ Nat.lt_irrefl _)
  · exact ⟨⟨_, Heap.get?_push_size _ rfl, rfl, rfl⟩, hat.push _⟩
end
end Mine
end
section
open PySem PySem.W PyProof.Rows PySem.Calls
set_option Elab.async false
set_option maxRecDepth 100000
set_option maxHeartbeats 4000000
namespace Mine
section
variable {prog : Program} {w : World} {A : Around} {E : Value → Shared → Prop} {s : Shared} {h₀ : Heap} {L : Addr} {m : Str → Option Value} {news : List (Addr × Obj)}
  {cn : Str} {cs : Scope} {fa : Addr} {ccd : Value} {cl : List (Str × Addr)} {an : Str} {pos p1 : Pos} {b : Array UInt8} {tk : Tok}
theorem callBA {Q : Value → Shared → Prop} (F : Fr h₀ L s.heap m) (N : News h₀ L s.heap news) (hm : m an = some (.bytes b tk)) (hz : b.size ≤ sizeLine)
    (h : ∀ S h', Fr h₀ L h' m → News h₀ L h' ((S, ({ cls := .type "bytearray", data := .bytearray b } : Obj)) :: news) → (∀ p ∈ news, p.1 < S) → Q (.ref S) { s with heap := h' })
    (hk : cs.kind = .function := by rfl) (hx1 : (envX cn cs L fa ccd cl).kindOf an = some .local := by rfl) (hd1 : (an == ("__debug__" : Str)) = false := by decide) :
    wpN (model prog w) A (callWith pos (.type "bytearray") [] (backTo pos (starEach [.Name an p1] (envX cn cs L fa ccd cl))) (backToKw pos (keywordEach [] (envX cn cs L fa ccd cl)))) Q E s := by
  have e1 : backTo pos (starEach [.Name an p1] (envX cn cs L fa ccd cl)) = [(false, eval (.Name an p1) (envX cn cs L fa ccd cl))] := rfl
  have e2 : backToKw pos (keywordEach [] (envX cn cs L fa ccd cl)) = [] := rfl
  rw [e1, e2]
  refine nCallWith (P := fun _ => True) (fun _ _ => ⟨.machine, .inr (.inl rfl), Looks.of_pure rfl⟩) ?_
  refine evalArgs_plain (spliced_cons (nameX_L F hm (spliced_nil ⟨trivial, ?_⟩) hk hx1 hd1))
  refine wpN_call (bytearrayN hz fun h' kp e => ?_)
  obtain ⟨F', N', l'⟩ := ks_newsPush F N rfl e kp
  exact h _ _ F' N' l'
end
end Mine
end
section
open PySem PySem.W PyProof.Rows PySem.Calls
set_option Elab.async false
set_option maxRecDepth 100000
set_option maxHeartbeats 4000000
namespace Mine
section
variable {prog : Program} {w : World} {A A₀ : Around} {E : Value → Shared → Prop} {s : Shared} {K : Frag} {L : Addr} {h₀ base : Heap} {m mg mb : Str → Option Value} {news : List (Addr × Obj)} {p : Program} {loose : List Str} {mean : ExcName → Option Value}
theorem aCallWith {M : Model} {pos : Pos} {f : Value} {first : List Value} {P : Heap → Prop} {Q : Value → Shared → Prop} {args : List (Bool × Sem Value)} {keywords : List (Option Str × Sem Value)}
    (hk : ∀ h, P h → ∃ k, (k = Keeper.frame ∨ k = Keeper.machine ∨ k = Keeper.boundFrame) ∧ Looks M h (keeperOf f) k)
    (h : wpAny M A (evalArgs f true args keywords) (fun a s₁ => P s₁.heap ∧ wpAny M A (call f (first ++ a.pos) a.kw) Q E s₁) E s) : wpAny M A (callWith pos f first args keywords) Q E s := by
  unfold callWith
  refine wpAny_bind (wpAny_holding (wpAny_mono h (fun a s₁ h₁ => wpAny_bind (wpAny_standAt ?_)) fun _ _ x => x))
  obtain ⟨k, hk', L⟩ := hk _ h₁.1
  refine wpAny_bind (L.here ?_)
  have tail : ∀ {t : Sem Value}, wpAny M A t Q E s₁ → wpAny M A (t >>= fun r => holding [r] point >>= fun _ => pure r) Q E s₁ :=
    fun ht => wpAny_bind (wpAny_mono ht (fun r s₂ hr => wpAny_bind (wpAny_holding (wpAny_point (wpAny_pure hr)))) fun _ _ x => x)
  have marked (mk : Value) : wpAny M A (callMarked mk f (first ++ a.pos) a.kw) Q E s₁ := by unfold callMarked; exact Calls.wpAny_keep h₁.2
  cases (args.any (·.1) || keywords.any (·.1.isNone)) <;> rcases hk' with rfl | rfl | rfl <;> dsimp only <;>
    first | exact tail h₁.2 | exact tail (marked _) | exact tail (wpAny_operating h₁.2) | (split <;> first | exact tail h₁.2 | exact tail (marked _))
theorem kpA_frame {env : Env} {outer : List Env} {R : Result → Shared → Prop} {qual : Str} {body : List Stmt} {scope : Scope} {cl : List (Str × Addr)} {cdv : Value} {f : Addr} {binds : List (Str × Value)}
    (B : Below A₀ base outer h₀) (F : Fr h₀ L s.heap m) (N : News h₀ L s.heap news) (hlim : h₀.NoLimit) (hA : A.frames = some (env :: outer)) (hf : env.frame = some L) (hke : env.scope.kind = .function)
    (hloc : ∀ y ∈ binds, scope.names.lookup y.1 = some .local)
    (h : ∀ g L' h₁, (∀ b o, s.heap.get? b = some o → b ∉ news.map (·.1) → g.get? b = some o) → Fr h₀ L g m → Fr g L' h₁ (fun y => binds.reverse.lookup y) → News g L' h₁ news → Below A base (env :: outer) g → h₀.StaysIn g →
      wpAny (model prog w) (A.deeper (envX qual scope L' f cdv cl)) (execs body (envX qual scope L' f cdv cl))
        (fun fl s' => LeaveK h₀ L m g R (match fl with | .ret v => v | _ => .none) s')
        (fun e s' => wpAny (model prog w) (A.deeper (envX qual scope L' f cdv cl)) (leaving (envX qual scope L' f cdv cl) e) (fun _ s'' => R (.error e) s'') (fun e' s'' => R (.error e') s'') s')
        { s with heap := h₁, toks := s.toks + binds.length })
    (hcell : ∀ x ∈ scope.names, x.2 ≠ .cell) (hk : scope.kind = .function) :
    wpAny (model prog w) A.in1 (newFunctionEnv scope mainGlobals cl binds (qual ++ ".<locals>.") (some f) cdv none builtinsNs) (fun env' s₂ => s₂.heap.NoLimit ∧ codeAny (model prog w) A (.func body env') R s₂) E s := by
  obtain ⟨FG, BG, st, lv⟩ := groundX (R := R) B F N hA hf hke
  refine wpAny_newFunctionEnv hcell hloc (fun h₁ hns hsb => ⟨(hlim.keeps F.keep).fresh _ hsb, codeAny_func ?_⟩) hk
  have hk₁ : ∀ b o, s.heap.get? b = some o → h₁.get? b = some o := fun b o e => hsb.extBut b o (Nat.ne_of_lt (Heap.lt_size e)) (Heap.get?_push_of_some _ e)
  show wpAny (model prog w) (A.deeper (envX qual scope s.heap.objs.size f cdv cl)) (execs body (envX qual scope s.heap.objs.size f cdv cl)) _ _ _
  exact wpAny_mono (h _ s.heap.objs.size h₁ (fun b o e n => hideAll_get _ e n) FG ⟨hns, fun b o e => hk₁ b o (of_hideAll _ e), Nat.le_of_eq (hideAll_size _ _)⟩
    (fun p hp => ⟨hk₁ _ _ (N p hp).1, Nat.ne_of_lt (Heap.lt_size (N p hp).1), hideAll_none _ (List.mem_map_of_mem hp)⟩) BG st) (fun fl s' hl => lv _ _ hl) fun _ _ y => y

/-- a def with *args and **kwargs, with what is kept -/
theorem bothA {env : Env} {outer : List Env} {R : Result → Shared → Prop} {name qual : Str} {params : Arguments} {body : List Stmt} {scope : Scope} {cl : List (Str × Addr)} {dV kV doc pm cdv ct oc : Value} {an od : Option Addr} {osl : Array (Option Value)} {f : Addr} {args : Args} {vs : List Value} {nm nr : Str} {ex front : List (Str × Value)} {g₁ : Addr → Sem (List (Str × Value))} {g₂ : Addr → Addr → Sem (List (Str × Value))}
    (B : Below A₀ base outer h₀) (F : Fr h₀ L s.heap m) (X₀ : K.In h₀) (N : News h₀ L s.heap news) (T : Top p loose mean mg mb h₀) (hA : A.frames = some (env :: outer)) (hf : env.frame = some L) (hke : env.scope.kind = .function)
    (ho : K.lookup f = some ⟨oc, od, .func (fnX name qual params body scope cl dV kV doc pm an cdv ct), osl⟩) (hcd : codeIn K cdv qual = true) (hroom : A.depth < recursionLimit)
    (_hv : args.pos.drop (params.posonlyargs.length + params.args.length) = vs) (_hx : args.kw.filter (fun x => !ownKw params x.1) = ex) (_hnr : params.vararg.map (·.arg) = some nr) (_hnm : params.kwarg.map (·.arg) = some nm)
    (_hfr : peek K ⟨prog, w.params⟩ (bindArgs (fnCut (fnX name qual params body scope cl dV kV doc pm an cdv ct)) (argsCut params args)) = some front)
    (hn : ex.length ≤ 1)
    (hp : peekA K ⟨prog, w.params⟩ (bindArgs (fnX name qual params body scope cl dV kV doc pm an cdv ct) args) = some (({ cls := .type "tuple", data := .seq vs.toArray } : Obj), g₁))
    (hp₂ : ∀ D, peekA K ⟨prog, w.params⟩ (g₁ D) = some (dictOf [] 0, g₂ D))
    (hk₂ : ∀ C D, g₂ C D = (forIn ex PUnit.unit (fun x _ => (nsSet D x.1 x.2 >>= fun _ => pure (ForInStep.yield PUnit.unit))) >>= fun _ => pure (front ++ [(nr, Value.ref C)] ++ [(nm, Value.ref D)])))
    (hloc : ∀ C D, ∀ y ∈ front ++ [(nr, Value.ref C)] ++ [(nm, Value.ref D)], scope.names.lookup y.1 = some .local)
    (h : ∀ C D o g L' h₁ tk, (∀ p ∈ news, p.1 < C) → C < D → (D == sysModules) = false → o.IsDictOf (strKind prog w) ex → (∀ b o, s.heap.get? b = some o → b ∉ news.map (·.1) → g.get? b = some o) → Fr h₀ L g m → Fr g L' h₁ (fun y => (front ++ [(nr, Value.ref C)] ++ [(nm, Value.ref D)]).reverse.lookup y) →
      News g L' h₁ ((D, o) :: (C, ({ cls := .type "tuple", data := .seq vs.toArray } : Obj)) :: news) → Below A base (env :: outer) g → K.In g → Top p loose mean mg mb g →
      wpAny (model prog w) (A.deeper (envX qual scope L' f cdv cl)) (execs body (envX qual scope L' f cdv cl))
        (fun fl s' => LeaveK h₀ L m g R (match fl with | .ret v => v | _ => .none) s')
        (fun e s' => wpAny (model prog w) (A.deeper (envX qual scope L' f cdv cl)) (leaving (envX qual scope L' f cdv cl) e) (fun _ s'' => R (.error e) s'') (fun e' s'' => R (.error e') s'') s')
        { s with heap := h₁, toks := tk })
    (hco : scope.isCoroutine = false) (hgen : scope.isGenerator = false) (hk : scope.kind = .function)
    (hcell : ∀ x ∈ scope.names, x.2 ≠ .cell) : codeAny (model prog w) A (.call (.ref f) args) R s := by
  have hn' : (ex.map (·.1)).Nodup := by
    match ex, hn with
    | [], _ => exact List.nodup_nil
    | [x], _ => simp
  refine codeAny_call_function (fd := fnX name qual params body scope cl dV kV doc pm an cdv ct) (body := body) hroom ((X₀.keeps F.keep) _ _ ho) rfl hco hgen rfl (codeRec_of (X₀.keeps F.keep) hcd) ?_
  refine peekA_go (X₀.keeps F.keep) _ g₁ hp ?_
  have F' := F.push ({ cls := .type "tuple", data := .seq vs.toArray } : Obj)
  have N' := N.push F ({ cls := .type "tuple", data := .seq vs.toArray } : Obj)
  refine peekA_go (s := { s with heap := _ }) (X₀.keeps F'.keep) _ (g₂ s.heap.objs.size) (hp₂ _) ?_
  have F'' := F'.push (dictOf [] 0)
  have N'' := N'.push F' (dictOf [] 0)
  have l : ∀ p ∈ news, p.1 < s.heap.objs.size := fun p hp => Heap.lt_size (N p hp).1
  have hD : ((s.heap.push ({ cls := .type "tuple", data := .seq vs.toArray } : Obj)).push (dictOf [] 0)).get? (s.heap.push ({ cls := .type "tuple", data := .seq vs.toArray } : Obj)).objs.size = some (dictOf [] 0) := Heap.get?_push_size _ rfl
  have l' : ∀ p ∈ (s.heap.objs.size, ({ cls := .type "tuple", data := .seq vs.toArray } : Obj)) :: news, p.1 < (s.heap.push ({ cls := .type "tuple", data := .seq vs.toArray } : Obj)).objs.size := fun p hp => Heap.lt_size (N' p hp).1
  rw [hk₂]
  refine wpAny_bind (fillOne hn hD fun h₃ n hs hD' => wpAny_pure ?_)
  obtain ⟨F₃, N₃⟩ := fr_same F'' N'' hs hD' l'
  refine kpA_frame (cl := cl) (s := { s with heap := h₃, toks := s.toks + ex.length }) B F₃ N₃ T.nolimit hA hf hke (hloc _ _)
    (fun g L' h₁ kp FG FL NG BG st => h _ _ _ g L' h₁ _ l (l' _ (.head _)) (F'.notModules (modules_low T.nolimit)) (kp_isDict s.toks n hn') (fun b o e hb => ?_) FG FL NG BG (X₀.keeps st) (T.keeps st)) hcell hk
  have e1 := Heap.get?_push_of_some (dictOf [] 0) (Heap.get?_push_of_some ({ cls := .type "tuple", data := .seq vs.toArray } : Obj) e)
  have b1 : b < s.heap.objs.size := Heap.lt_size e
  have b2 : b < (s.heap.push ({ cls := .type "tuple", data := .seq vs.toArray } : Obj)).objs.size := Nat.lt_trans b1 (l' _ (.head _))
  refine kp b o ((hs.2 b (Nat.ne_of_lt b2)).trans e1) fun hm => ?_
  rcases List.mem_cons.mp hm with q | hm
  · exact absurd q (Nat.ne_of_lt b2)
  rcases List.mem_cons.mp hm with q | hm
  · exact absurd q (Nat.ne_of_lt b1)
  · exact hb hm


/-- a def with *args, with what is kept -/
theorem restA {env : Env} {outer : List Env} {R : Result → Shared → Prop} {name qual : Str} {params : Arguments} {body : List Stmt} {scope : Scope} {cl : List (Str × Addr)} {dV kV doc pm cdv ct oc : Value} {an od : Option Addr} {osl : Array (Option Value)} {f : Addr} {args : Args} {vs : List Value} {g₁ : Addr → Sem (List (Str × Value))} {binds : Addr → List (Str × Value)}
    (B : Below A₀ base outer h₀) (F : Fr h₀ L s.heap m) (X₀ : K.In h₀) (N : News h₀ L s.heap news) (T : Top p loose mean mg mb h₀) (hA : A.frames = some (env :: outer)) (hf : env.frame = some L) (hke : env.scope.kind = .function)
    (ho : K.lookup f = some ⟨oc, od, .func (fnX name qual params body scope cl dV kV doc pm an cdv ct), osl⟩) (hcd : codeIn K cdv qual = true) (hroom : A.depth < recursionLimit)
    (_hv : args.pos.drop (params.posonlyargs.length + params.args.length) = vs)
    (hp : peekA K ⟨prog, w.params⟩ (bindArgs (fnX name qual params body scope cl dV kV doc pm an cdv ct) args) = some (({ cls := .type "tuple", data := .seq vs.toArray } : Obj), g₁))
    (hg : ∀ D, peek K ⟨prog, w.params⟩ (g₁ D) = some (binds D)) (hloc : ∀ D, ∀ y ∈ binds D, scope.names.lookup y.1 = some .local)
    (h : ∀ D g L' h₁, (∀ p ∈ news, p.1 < D) → (∀ b o, s.heap.get? b = some o → b ∉ news.map (·.1) → g.get? b = some o) → Fr h₀ L g m → Fr g L' h₁ (fun y => (binds D).reverse.lookup y) → News g L' h₁ ((D, ({ cls := .type "tuple", data := .seq vs.toArray } : Obj)) :: news) → Below A base (env :: outer) g → K.In g → Top p loose mean mg mb g →
      wpAny (model prog w) (A.deeper (envX qual scope L' f cdv cl)) (execs body (envX qual scope L' f cdv cl))
        (fun fl s' => LeaveK h₀ L m g R (match fl with | .ret v => v | _ => .none) s')
        (fun e s' => wpAny (model prog w) (A.deeper (envX qual scope L' f cdv cl)) (leaving (envX qual scope L' f cdv cl) e) (fun _ s'' => R (.error e) s'') (fun e' s'' => R (.error e') s'') s')
        { s with heap := h₁, toks := s.toks + (binds D).length })
    (hco : scope.isCoroutine = false) (hgen : scope.isGenerator = false) (hk : scope.kind = .function)
    (hcell : ∀ x ∈ scope.names, x.2 ≠ .cell) : codeAny (model prog w) A (.call (.ref f) args) R s := by
  refine codeAny_call_function (fd := fnX name qual params body scope cl dV kV doc pm an cdv ct) (body := body) hroom ((X₀.keeps F.keep) _ _ ho) rfl hco hgen rfl (codeRec_of (X₀.keeps F.keep) hcd) ?_
  refine peekA_go (X₀.keeps F.keep) _ g₁ hp ?_
  have F' := F.push ({ cls := .type "tuple", data := .seq vs.toArray } : Obj)
  have N' := N.push F ({ cls := .type "tuple", data := .seq vs.toArray } : Obj)
  have l : ∀ p ∈ news, p.1 < s.heap.objs.size := fun p hp => Heap.lt_size (N p hp).1
  refine (Looks.of_peek (M := model prog w) (X₀.keeps F'.keep) (hg s.heap.objs.size)).here (s := { s with heap := _ }) ?_
  refine kpA_frame (cl := cl) (s := { s with heap := _ }) B F' N' T.nolimit hA hf hke (hloc _)
    (fun g L' h₁ kp FG FL NG BG st => h _ g L' h₁ l (fun b o e hb => ?_) FG FL NG BG (X₀.keeps st) (T.keeps st)) hcell hk
  refine kp b o (Heap.get?_push_of_some _ e) fun hm => ?_
  rcases List.mem_cons.mp hm with q | hm
  · exact absurd q (Nat.ne_of_lt (Heap.lt_size e))
  · exact hb hm
theorem callStarA {x f2 q c kd : Addr} {ko : Obj} {kw : List (Str × Value)} {vs : List Value} {cn : Str} {cs : Scope} {fa : Addr} {ccd : Value} {cl : List (Str × Addr)} {an ak : Str} {pos p1 p2 p3 p4 : Pos} {Q : Value → Shared → Prop} (F : Fr h₀ L s.heap m) (X₀ : K.In h₀) (N : News h₀ L s.heap news) (hq : (q, methodObj (.ref f2) (.ref x)) ∈ news) (hf : fnIn K f2 = true) (hma : m an = some (.ref c)) (hmk : m ak = some (.ref kd)) (hkd : (kd, ko) ∈ news) (lo : (kd == sysModules) = false) (ho : ko.IsDictOf (strKind prog w) kw) (hl : kw.length ≤ 1)
    (hc : (c, ({ cls := .type "tuple", data := .seq vs.toArray } : Obj)) ∈ news) (hz : vs.length ≤ sizeLine)
    (h : ∀ h', Fr h₀ L h' m → News h₀ L h' news → wpAny (model prog w) A (call (.ref q) vs kw) Q E { s with heap := h' })
    (hk : cs.kind = .function := by rfl) (hx1 : (envX cn cs L fa ccd cl).kindOf an = some .local := by rfl) (hd1 : (an == ("__debug__" : Str)) = false := by decide)
    (hx2 : (envX cn cs L fa ccd cl).kindOf ak = some .local := by rfl) (hd2 : (ak == ("__debug__" : Str)) = false := by decide) :
    wpAny (model prog w) A (callWith pos (.ref q) [] (backTo pos (starEach [.Starred (.Name an p1) p2] (envX cn cs L fa ccd cl))) (backToKw pos (keywordEach [⟨none, .Name ak p3, p4⟩] (envX cn cs L fa ccd cl)))) Q E s :=
  aCallWith (P := MethP K q f2 (.ref x)) (keeps_M hf) (evalStar F N hma hmk hkd lo ho hl hc hz (fun h' F' N' => ⟨⟨(N' _ hq).1, X₀.keeps F'.keep⟩, h h' F' N'⟩) hk hx1 hd1 hx2 hd2)
end
end Mine
namespace Mine
section
variable {prog : Program} {w : World} {A A₀ : Around} {E : Value → Shared → Prop} {s : Shared} {K : Frag} {L : Addr} {h₀ base : Heap} {m mg mb : Str → Option Value} {news : List (Addr × Obj)} {p : Program} {loose : List Str} {mean : ExcName → Option Value}
theorem restO {env : Env} {outer : List Env} {R : Result → Shared → Prop} {name qual : Str} {params : Arguments} {body : List Stmt} {scope : Scope} {dV kV doc pm cdv ct oc : Value} {an od : Option Addr} {osl : Array (Option Value)} {f : Addr} {args : Args} {vs : List Value} {g₁ : Addr → Sem (List (Str × Value))} {binds : Addr → List (Str × Value)}
    (B : Below A₀ base outer h₀) (F : Fr h₀ L s.heap m) (X₀ : K.In h₀) (N : News h₀ L s.heap news) (T : Top p loose mean mg mb h₀) (hA : A.frames = some (env :: outer)) (hf : env.frame = some L) (hke : env.scope.kind = .function)
    (ho : K.lookup f = some ⟨oc, od, .func (fnOf name qual params body scope dV kV doc pm an cdv ct), osl⟩) (hcd : codeIn K cdv qual = true) (hroom : A.depth < recursionLimit)
    (hv : args.pos.drop (params.posonlyargs.length + params.args.length) = vs)
    (hp : peekA K ⟨prog, w.params⟩ (bindArgs (fnOf name qual params body scope dV kV doc pm an cdv ct) args) = some (({ cls := .type "tuple", data := .seq vs.toArray } : Obj), g₁))
    (hg : ∀ D, peek K ⟨prog, w.params⟩ (g₁ D) = some (binds D)) (hloc : ∀ D, ∀ y ∈ binds D, scope.names.lookup y.1 = some .local)
    (h : ∀ D g L' h₁, (∀ p ∈ news, p.1 < D) → (∀ b o, s.heap.get? b = some o → b ∉ news.map (·.1) → g.get? b = some o) → Fr h₀ L g m → Fr g L' h₁ (fun y => (binds D).reverse.lookup y) → News g L' h₁ ((D, ({ cls := .type "tuple", data := .seq vs.toArray } : Obj)) :: news) → Below A base (env :: outer) g → K.In g → Top p loose mean mg mb g →
      wpAny (model prog w) (A.deeper (envOf qual scope L' f cdv)) (execs body (envOf qual scope L' f cdv))
        (fun fl s' => LeaveK h₀ L m g R (match fl with | .ret v => v | _ => .none) s')
        (fun e s' => wpAny (model prog w) (A.deeper (envOf qual scope L' f cdv)) (leaving (envOf qual scope L' f cdv) e) (fun _ s'' => R (.error e) s'') (fun e' s'' => R (.error e') s'') s')
        { s with heap := h₁, toks := s.toks + (binds D).length })
    (hco : scope.isCoroutine = false) (hgen : scope.isGenerator = false) (hk : scope.kind = .function)
    (hcell : ∀ x ∈ scope.names, x.2 ≠ .cell) : codeAny (model prog w) A (.call (.ref f) args) R s :=
  restA (cl := []) B F X₀ N T hA hf hke ho hcd hroom hv hp hg hloc h hco hgen hk hcell
theorem bothO {env : Env} {outer : List Env} {R : Result → Shared → Prop} {name qual : Str} {params : Arguments} {body : List Stmt} {scope : Scope} {dV kV doc pm cdv ct oc : Value} {an od : Option Addr} {osl : Array (Option Value)} {f : Addr} {args : Args} {vs : List Value} {nm nr : Str} {ex front : List (Str × Value)} {g₁ : Addr → Sem (List (Str × Value))} {g₂ : Addr → Addr → Sem (List (Str × Value))}
    (B : Below A₀ base outer h₀) (F : Fr h₀ L s.heap m) (X₀ : K.In h₀) (N : News h₀ L s.heap news) (T : Top p loose mean mg mb h₀) (hA : A.frames = some (env :: outer)) (hf : env.frame = some L) (hke : env.scope.kind = .function)
    (ho : K.lookup f = some ⟨oc, od, .func (fnOf name qual params body scope dV kV doc pm an cdv ct), osl⟩) (hcd : codeIn K cdv qual = true) (hroom : A.depth < recursionLimit)
    (hv : args.pos.drop (params.posonlyargs.length + params.args.length) = vs) (hx : args.kw.filter (fun x => !ownKw params x.1) = ex) (hnr : params.vararg.map (·.arg) = some nr) (hnm : params.kwarg.map (·.arg) = some nm)
    (hfr : peek K ⟨prog, w.params⟩ (bindArgs (fnCut (fnOf name qual params body scope dV kV doc pm an cdv ct)) (argsCut params args)) = some front)
    (hn : ex.length ≤ 1)
    (hp : peekA K ⟨prog, w.params⟩ (bindArgs (fnOf name qual params body scope dV kV doc pm an cdv ct) args) = some (({ cls := .type "tuple", data := .seq vs.toArray } : Obj), g₁))
    (hp₂ : ∀ D, peekA K ⟨prog, w.params⟩ (g₁ D) = some (dictOf [] 0, g₂ D))
    (hk₂ : ∀ C D, g₂ C D = (forIn ex PUnit.unit (fun x _ => (nsSet D x.1 x.2 >>= fun _ => pure (ForInStep.yield PUnit.unit))) >>= fun _ => pure (front ++ [(nr, Value.ref C)] ++ [(nm, Value.ref D)])))
    (hloc : ∀ C D, ∀ y ∈ front ++ [(nr, Value.ref C)] ++ [(nm, Value.ref D)], scope.names.lookup y.1 = some .local)
    (h : ∀ C D o g L' h₁ tk, (∀ p ∈ news, p.1 < C) → C < D → (D == sysModules) = false → o.IsDictOf (strKind prog w) ex → (∀ b o, s.heap.get? b = some o → b ∉ news.map (·.1) → g.get? b = some o) → Fr h₀ L g m → Fr g L' h₁ (fun y => (front ++ [(nr, Value.ref C)] ++ [(nm, Value.ref D)]).reverse.lookup y) →
      News g L' h₁ ((D, o) :: (C, ({ cls := .type "tuple", data := .seq vs.toArray } : Obj)) :: news) → Below A base (env :: outer) g → K.In g → Top p loose mean mg mb g →
      wpAny (model prog w) (A.deeper (envOf qual scope L' f cdv)) (execs body (envOf qual scope L' f cdv))
        (fun fl s' => LeaveK h₀ L m g R (match fl with | .ret v => v | _ => .none) s')
        (fun e s' => wpAny (model prog w) (A.deeper (envOf qual scope L' f cdv)) (leaving (envOf qual scope L' f cdv) e) (fun _ s'' => R (.error e) s'') (fun e' s'' => R (.error e') s'') s')
        { s with heap := h₁, toks := tk })
    (hco : scope.isCoroutine = false) (hgen : scope.isGenerator = false) (hk : scope.kind = .function)
    (hcell : ∀ x ∈ scope.names, x.2 ≠ .cell) : codeAny (model prog w) A (.call (.ref f) args) R s :=
  bothA (cl := []) B F X₀ N T hA hf hke ho hcd hroom hv hx hnr hnm hfr hn hp hp₂ hk₂ hloc h hco hgen hk hcell
end
end Mine
namespace Mine
section
variable {prog : Program} {w : World} {A A₀ : Around} {E : Value → Shared → Prop} {s : Shared} {K : Frag} {L : Addr} {h₀ base : Heap} {m mg mb : Str → Option Value} {news : List (Addr × Obj)} {p : Program} {loose : List Str} {mean : ExcName → Option Value}
/-- a plain def, with what is kept -/
theorem defO {env : Env} {outer : List Env} {R : Result → Shared → Prop} {name qual : Str} {params : Arguments} {body : List Stmt} {scope : Scope} {dV kV doc pm cdv ct oc : Value} {an od : Option Addr} {osl : Array (Option Value)} {f : Addr} {args : Args} {binds : List (Str × Value)}
    (B : Below A₀ base outer h₀) (F : Fr h₀ L s.heap m) (X₀ : K.In h₀) (N : News h₀ L s.heap news) (T : Top p loose mean mg mb h₀) (hA : A.frames = some (env :: outer)) (hf : env.frame = some L) (hke : env.scope.kind = .function)
    (ho : K.lookup f = some ⟨oc, od, .func (fnOf name qual params body scope dV kV doc pm an cdv ct), osl⟩) (hcd : codeIn K cdv qual = true) (hroom : A.depth < recursionLimit)
    (hbind : BindsTo s (fnOf name qual params body scope dV kV doc pm an cdv ct) args binds) (hloc : ∀ y ∈ binds, scope.names.lookup y.1 = some .local)
    (h : ∀ g L' h₁, (∀ b o, s.heap.get? b = some o → b ∉ news.map (·.1) → g.get? b = some o) → Fr h₀ L g m → Fr g L' h₁ (fun y => binds.reverse.lookup y) → News g L' h₁ news → Below A base (env :: outer) g → K.In g → Top p loose mean mg mb g →
      wpAny (model prog w) (A.deeper (envOf qual scope L' f cdv)) (execs body (envOf qual scope L' f cdv))
        (fun fl s' => LeaveK h₀ L m g R (match fl with | .ret v => v | _ => .none) s')
        (fun e s' => wpAny (model prog w) (A.deeper (envOf qual scope L' f cdv)) (leaving (envOf qual scope L' f cdv) e) (fun _ s'' => R (.error e) s'') (fun e' s'' => R (.error e') s'') s')
        { s with heap := h₁, toks := s.toks + binds.length })
    (hco : scope.isCoroutine = false) (hgen : scope.isGenerator = false) (hk : scope.kind = .function)
    (hcell : ∀ x ∈ scope.names, x.2 ≠ .cell) : codeAny (model prog w) A (.call (.ref f) args) R s := by
  refine codeAny_call_function (fd := fnOf name qual params body scope dV kV doc pm an cdv ct) (body := body) hroom ((X₀.keeps F.keep) _ _ ho) rfl hco hgen rfl (codeRec_of (X₀.keeps F.keep) hcd) (hbind _ _ _ _ ?_)
  exact kpA_frame (cl := []) B F N T.nolimit hA hf hke hloc (fun g L' h₁ kp FG FL NG BG st => h g L' h₁ kp FG FL NG BG (X₀.keeps st) (T.keeps st)) hcell hk
end
end Mine
end
section
open PySem PySem.W PyProof.Rows PySem.Calls
open PySem.Sem (wp)
set_option Elab.async false
set_option maxRecDepth 100000
set_option maxHeartbeats 4000000
namespace Mine
section
variable {prog : Program} {w : World} {A : Around} {E : Value → Shared → Prop} {s : Shared} {env : Env}
/-- a loop none of whose turns raises -/
theorem nFor {target iter : Expr} {body : List Stmt} {pos : Pos} {Q : Flow → Shared → Prop}
    (h : wpAny (model prog w) A (eval iter env) (fun x s₁ => wpAny (model prog w) A (pyIter x) (fun it s₂ =>
      codeN (model prog w) A (.forLoop target it body [] env) (fun r s' => match r with | .ok f => Q f s' | .error _ => False) s₂) E s₁) E s)
    (hs : ∀ x, foldedSetIterable iter env x = pure x := by intro _; rfl) :
    wpN (model prog w) A (exec (.For target iter body [] pos) env) Q E s := by
  rw [exec_For]
  refine wpN_then (wpAny_standAt (wpN_then (wpAny_mono h (fun x s₁ h₁ => wpN_then (wpAny_of_eq (hs x) (wpN_then (wpAny_standAt (wpN_then (wpAny_holding (wpAny_mono h₁ (fun it s₂ h₂ => ?_) fun _ _ x => x))))))) fun _ _ x => x)))
  unfold runOwn
  refine wpN_onRaise (wpN_run ?_)
  refine codeN_mono h₂ fun r s' hr => ?_
  cases r with
  | ok f => exact hr
  | error e => exact hr.elim
theorem codeN_for {R : Result → Shared → Prop} {target : Expr} {it : Value} {body : List Stmt} (I : Nat → Shared → Prop)
    (turn : ∀ n s, I n s → wpAny (model prog w) A (pyNext it) (fun r s₁ => match r with
      | none => R (.ok .next) s₁
      | some v => wpAny (model prog w) A (letOwnedTupleGo target it v) (fun _ s₁' =>
          wpAny (model prog w) A (assign target env v) (fun _ s₂ => wpN (model prog w) A (execs body env) (fun f s₃ => match f with
            | .next => ∃ m, m < n ∧ I m s₃
            | .ret v => R (.ok (.ret v)) s₃
            | _ => False) (fun _ _ => False) s₂) (fun _ _ => False) s₁') (fun _ _ => False) s₁) (fun _ _ => False) s)
    (n : Nat) (h : I n s) : codeN (model prog w) A (.forLoop target it body [] env) R s := by
  refine codeN_loop rfl rfl I (fun n s hI => ?_) n h
  show wpN _ A ((forTurn target it body [] env).onRaise (fun x => do noteFrame x env; theTreesLotGoes x)) _ _ s
  refine wpN_onRaise (wpN_mono (Q := fun fin s' => match fin with | .done f => R (.ok f) s' | .again c' => (c' = Code.forLoop target it body [] env ∧ ∃ m, m < n ∧ I m s') ∨ (c'.quiet = true ∧ codeN (model prog w) A c' R s')) (E := fun _ _ => False) ?_ (fun fin s' hh => hh) fun _ _ hf => hf.elim)
  simp only [forTurn]
  refine wpN_then (wpAny_standAt (wpN_then (wpAny_onRaise (wpAny_mono (turn n s hI) (fun r s₁ h₁ => ?_) fun _ _ h' => h'.elim))))
  cases r with
  | none => exact wpN_pure (.inr ⟨rfl, codeN_any (codeAny_block (wpAny_execs_nil h₁))⟩)
  | some v =>
    refine wpN_then (wpAny_mono h₁ (fun _ s₁' h₁' => ?_) fun _ _ h' => h')
    refine wpN_then (wpAny_mono h₁' (fun _ s₂ h₂ => wpN_bind (wpN_mono h₂ (fun f s₃ h₃ => ?_) fun _ _ h' => h')) fun _ _ h' => h')
    cases f with
    | next => exact wpN_pure (.inl ⟨rfl, h₃⟩)
    | cont => exact h₃.elim
    | brk => exact h₃.elim
    | ret v => exact wpN_pure h₃
/-- over a list: `P i h` says how the heap stands before the turn i, apart from the iterator -/
theorem codeN_forList {R : Result → Shared → Prop} {x : Str} {xp : Pos} {body : List Stmt} {I l : Addr} {vs : Array Value} (hh : A.handled = none) (P : Nat → Heap → Prop)
    (hit : s.heap.IsListIter I l 0) (hl : s.heap.IsList l vs) (h0 : P 0 s.heap) (hI : I ≠ l)
    (hP : ∀ i h h', P i h → Heap.ExtBut I h h' → P i h')
    (step : ∀ i v h tk, vs[i]? = some v → P i h → h.IsListIter I l (i + 1) → h.IsList l vs →
      wpAny (model prog w) A (storeName env x v) (fun _ s₂ => wpN (model prog w) A (execs body env) (fun f s₃ => match f with
        | .next => (∃ h' tk', s₃ = { s with heap := h', toks := tk' } ∧ P (i + 1) h' ∧ h'.IsListIter I l (i + 1) ∧ h'.IsList l vs)
        | .ret v => R (.ok (.ret v)) s₃
        | _ => False) (fun _ _ => False) s₂) (fun _ _ => False) { s with heap := h, toks := tk })
    (hR : ∀ h tk, P vs.size h → R (.ok .next) { s with heap := h, toks := tk }) :
    codeN (model prog w) A (.forLoop (.Name x xp) (.ref I) body [] env) R s := by
  refine codeN_for (fun k s' => ∃ i h tk, s' = { s with heap := h, toks := tk } ∧ P i h ∧ h.IsListIter I l i ∧ h.IsList l vs ∧ i ≤ vs.size ∧ k = vs.size + 1 - i) ?_ (vs.size + 1) ⟨0, s.heap, s.toks, rfl, h0, hit, hl, Nat.zero_le _, rfl⟩
  rintro k s' ⟨i, h, tk, rfl, hp, hit', hl', hi, rfl⟩
  by_cases hlt : i < vs.size
  · have hx : vs[i]? = some vs[i] := Array.getElem?_eq_getElem hlt
    refine wpAny_pyNext_list_item (s := { s with heap := h, toks := tk }) hit' hl' hx fun h' hit₂ hs => ?_
    have hl₂ : h'.IsList l vs := hl'.extBut hs.extBut (Ne.symm hI)
    show wpAny _ _ (letOwnedTupleGo (.Name x xp) (.ref I) vs[i]) _ _ _
    unfold letOwnedTupleGo
    refine wpAny_pure ?_
    refine wpAny_assign_Name (wpAny_mono (step i _ h' tk hx (hP _ _ _ hp hs.extBut) hit₂ hl₂) (fun _ s₂ h₂ => wpN_mono h₂ (fun f s₃ h₃ => ?_) fun _ _ x => x) fun _ _ x => x)
    cases f with
    | next =>
      obtain ⟨h'', tk', rfl, hp', hit₃, hl₃⟩ := h₃
      exact ⟨vs.size + 1 - (i + 1), by omega, i + 1, h'', tk', rfl, hp', hit₃, hl₃, hlt, rfl⟩
    | ret v => exact h₃
    | brk => exact h₃
    | cont => exact h₃
  · have hin : i = vs.size := by omega
    subst hin
    exact wpAny_pyNext_list_end (s := { s with heap := h, toks := tk }) hh hit' hl' (Array.getElem?_eq_none (Nat.le_refl _)) fun h' hs => hR h' tk (hP _ _ _ hp hs)
end
end Mine
end
section
open PySem PySem.W PyProof.Rows PySem.Calls
set_option Elab.async false
set_option maxRecDepth 100000
set_option maxHeartbeats 4000000
namespace Mine
local macro_rules | `(tactic| k_room) => `(tactic| ktr_room)
local macro_rules | `(tactic| tb_start) => `(tactic| (refine' bothN (front := [("self", .ref _)]) ?k1 ?k2 ?k3 ?k4 ?k5 ?kA ?kF ?kK ?k6 ?k7 ?k8 ?kV ?kX ?kQ ?kM ?kR ?kN ?kP ?kS ?kT ?kB ?_ ?c2 ?c3 ?c4 ?c5; (case kA => exact rfl); (case kF => exact rfl); (case kK => first | assumption | exact rfl); (case k1 => k_asm); (case k2 => k_asm); (case k3 => k_asm); (case k4 => k_asm); (case k5 => k_asm); (case k6 => k_is); (case k7 => k_is); (case k8 => k_room); (case kV => kp_lit); (case kX => kp_lit); (case kQ => exact rfl); (case kM => exact rfl); (case kR => exact rfl); (case kN => exact Nat.le_of_ble_eq_true rfl); (case kP => exact rfl); (case kS => exact fun _ => rfl); (case kT => exact fun _ _ => rfl); (case kB => exact fun _ _ => locs rfl); (case c5 => decide); (case c2 => exact rfl); (case c3 => exact rfl); (case c4 => exact rfl); k_whole; intro C' D' o' g' L' h' tk' l1 l2 lo' hs' kp' FG' F' N' B' X' T'; (try k_lt l1); (try k_lt2 l2); (try dsimp only); (try k_lift B')))
local macro_rules | `(tactic| tb_rel) => `(tactic| (refine' bothN (front := [("self", .ref _), ("data", _)]) ?k1 ?k2 ?k3 ?k4 ?k5 ?kA ?kF ?kK ?k6 ?k7 ?k8 ?kV ?kX ?kQ ?kM ?kR ?kN ?kP ?kS ?kT ?kB ?_ ?c2 ?c3 ?c4 ?c5; (case kA => exact rfl); (case kF => exact rfl); (case kK => first | assumption | exact rfl); (case k1 => k_asm); (case k2 => k_asm); (case k3 => k_asm); (case k4 => k_asm); (case k5 => k_asm); (case k6 => k_is); (case k7 => k_is); (case k8 => k_room); (case kV => kp_lit); (case kX => kp_lit); (case kQ => exact rfl); (case kM => exact rfl); (case kR => exact rfl); (case kN => exact Nat.le_of_ble_eq_true rfl); (case kP => exact rfl); (case kS => exact fun _ => rfl); (case kT => exact fun _ _ => rfl); (case kB => exact fun _ _ => locs rfl); (case c5 => decide); (case c2 => exact rfl); (case c3 => exact rfl); (case c4 => exact rfl); k_whole; intro C' D' o' g' L' h' tk' l1 l2 lo' hs' kp' FG' F' N' B' X' T'; (try k_lt l1); (try k_lt2 l2); (try dsimp only); (try k_lift B')))
local macro_rules | `(tactic| walk_at "callWith type:super") => `(tactic| (k_here; with_unfolding_all refine Pv.callWith_type1 ?_))
local macro_rules | `(tactic| walk_at "call type:super") => `(tactic| (k_here; k_dflt (refine' super_call ?k1 ?k2 ?k3 ?k4 ?k5 ?k6 ?_; (case k1 => k_asm); (case k2 => k_asm); (case k3 => k_asm); (case k4 => k_is); (case k5 => k_inst); (case k6 => k_is); k_whole; intro so' h' F' N' l1; (try k_lt l1); (try k_sweep))))
local macro_rules | `(tactic| walk_at "getAttr ref") => `(tactic| (k_here; k_dflt (first
  | (refine' super_get ?k1 ?k2 ?k3 ?k4 ?k5 ?k6 ?k7 ?k8 ?k9 ?_; (case k1 => k_asm); (case k2 => k_asm); (case k3 => k_asm); (case k4 => k_mem); (case k5 => k_inst); (case k6 => k_is); (case k7 => ks_is); (case k8 => k_is); (case k9 => decide); k_whole; intro q' h' F' N' l1; (try k_lt l1); (try k_sweep))
  | (refine' super_getOI ?k1 ?k2 ?k3 ?k4 ?k5 ?k6 ?k7 ?k8 ?_; (case k1 => k_asm); (case k2 => k_asm); (case k3 => k_asm); (case k4 => k_mem); (case k5 => k_inst); (case k6 => k_is); (case k7 => ks_is); (case k8 => k_is); k_whole; intro q' h' F' N' l1; (try k_lt l1); (try k_sweep)))))
local macro_rules | `(tactic| ktr_rel) => `(tactic| (k_dflt (refine' callStarN ?k1 ?k2 ?k3 ?k4 ?k5 ?k6 ?k7 ?k8 ?k9 ?kA ?kB ?kC ?kD ?_ ?c1 ?c2 ?c3 ?c4 ?c5; (case c1 => exact rfl); (case c2 => exact rfl); (case c3 => decide); (case c4 => exact rfl); (case c5 => decide); (case k1 => k_asm); (case k2 => k_asm); (case k3 => k_asm); (case k4 => k_mem); (case k5 => k_is); (case k6 => exact rfl); (case k7 => exact rfl); (case k8 => k_mem); (case k9 => k_asm); (case kA => k_asm); (case kB => exact Nat.le_of_ble_eq_true rfl); (case kC => k_mem); (case kD => exact Nat.le_of_ble_eq_true rfl); k_whole; intro h' F' N'; (try k_sweep))))
local macro_rules | `(tactic| walk_at "wpN") => `(tactic| (k_here; first
  | ((with_reducible show wpN _ _ (execs [] _) _ _ _); k_dflt (refine nExecs_nil ?_))
  | ((with_reducible show wpN _ _ (execs (Stmt.Expr (Expr.Call (Expr.Attribute _ _ _) [Expr.Starred _ _] [_] _) _ :: _) _) _ _ _); k_dflt (refine nExecs_cons (nExpr (nMethodStar ?_))))
  | ((with_reducible show wpN _ _ (execs (Stmt.If _ _ _ _ :: _) _) _ _ _); k_dflt (refine nExecs_cons (nIf ?_)))
  | ((with_reducible show wpN _ _ (execs (Stmt.Assign [Expr.Attribute _ _ _] (Expr.Call (Expr.Name _ _) _ _ _) _ :: _) _) _ _ _); k_dflt (refine nExecs_cons (nAssign_Attr (nCall ?_))))
  | ((with_reducible show wpN _ _ (execs (_ :: _) _) _ _ _); k_dflt (refine nExecs_leaf0 ?_))
  | ktr_rel
  | (k_dflt (refine' callBA ?k1 ?k2 ?k3 ?k4 ?_ ?c1 ?c2 ?c3; (case c1 => exact rfl); (case c2 => exact rfl); (case c3 => decide); (case k1 => k_asm); (case k2 => k_asm); (case k3 => exact rfl); (case k4 => assumption); k_whole; intro S' h' F' N' l1; (try k_lt l1); (try k_sweep)))
  | (k_dflt (refine' callStarOI ?k1 ?k2 ?k3 ?k4 ?k5 ?k6 ?k7 ?k8 ?k9 ?_ ?c1 ?c2 ?c3 ?c4 ?c5; (case c1 => exact rfl); (case c2 => exact rfl); (case c3 => decide); (case c4 => exact rfl); (case c5 => decide); (case k1 => k_asm); (case k2 => k_asm); (case k3 => k_mem); (case k4 => exact rfl); (case k5 => exact rfl); (case k6 => k_mem); (case k7 => k_asm); (case k8 => k_asm); (case k9 => k_mem); k_whole; intro h' F' N'; (try k_sweep)))))
local macro_rules | `(tactic| walk_at "codeN") => `(tactic| (k_here; first | tb_start | tb_rel))
local macro_rules | `(tactic| walk_at "exec For Name Name cons nil") => `(tactic| (k_here; (rename Fr _ _ _ _ => lF'); (rename News _ _ _ _ => lN'); (with_unfolding_all refine' For_turns lF' ?_); k_whole; k_dflt (refine nameX_L lF' (by rfl) ?_); k_dflt (first
  | (refine' keysR (xs := [Itm.tok (fun t => .str "destination" t)]) ?hh lF' lN' ?lo ?hd ?hm ?hx ?_; (case hm => k_mem); (case hd => k_asm); (case hx => exact rfl); (case hh => exact rfl); (case lo => k_asm))
  | (refine' keysR (xs := []) ?hh lF' lN' ?lo ?hd ?hm ?hx ?_; (case hm => k_mem); (case hd => k_asm); (case hx => exact rfl); (case hh => exact rfl); (case lo => k_asm))); clear lF' lN'; intro i' l1; (try k_lt l1)))
theorem pduN {p : Program} {loose : List Str} {mean : ExcName → Option Value} {mg mb : Str → Option Value} {w : World} {dp un : Nat} {gd : Option (List Code)} {cn : Str} {cs : Scope} {ac : Addr} {ccd : Value} {cl : List (Str × Addr)} {outer : List Env}
    {A₀ : Around} {base h₀ : Heap} {L : Addr} {m : Str → Option Value} {s : Shared} {R : Result → Shared → Prop} {b : Array UInt8} {tk : Tok} {v : Addr}
    (B : Below A₀ base outer h₀) (F : Fr h₀ L s.heap m) (X : (KF w.params).In h₀) (T : Top p loose mean mg mb h₀) (hk : cs.kind = .function)
    (hdp : dp + 20 < recursionLimit) (hun : un + 200 < cLine) (hz : b.size ≤ sizeLine)
    (hret : ∀ x dx h' tk' es n, Fr h₀ L h' m → (∀ b o, s.heap.get? b = some o → h'.get? b = some o) → News h₀ L h' [(x, instObj 587 dx), (dx, dictOf es n)] → getL "pduDestination" es = some (some (.ref v)) →
      R (.ok (.ret (.ref x))) { s with heap := h', toks := tk' }) :
    codeN (model PySem.Challenge.rw_bj5003_01.row.prog w) (ktrTop dp un gd cn cs L ac ccd cl outer) (.call (.ref 587) ⟨[.bytes b tk], [("destination", .ref v)]⟩) R s := by
  first
  | (
      revert X; k_fill; intro X
      refine' make_KN F News.nil (X.keeps F.keep) ?k1 ?k2 ?k3 ?_
      case k1 => k_is
      case k2 => k_is
      case k3 => k_is
      intro x dx h' kc F' N' l1 l2
      have N' : News h₀ L h' [(x, instObj 587 dx), (dx, dictOf [] 0)] := N'
      clear l1
      replace l2 := ltN l2
      w_on
      k_steps
      rename (∀ (b : Addr) (o : Obj), Heap.get? h' b = some o → ¬ b ∈ _ → Heap.get? _ b = some o) => kp
      rename News h₀ L _ _ => NF
      refine hret x dx _ _ _ _ (by k_asm) (fun b o e => Fr.keep (by k_asm) b o (kp b o (kc b o e).1 ?_)) (List.forall_mem_cons.mpr ⟨NF (x, instObj 587 dx) (by k_mem), List.forall_mem_cons.mpr ⟨NF (dx, _) (by k_mem), List.forall_mem_nil _⟩⟩) (by rfl)
      have := (kc b o e).2
      intro hm
      rcases List.mem_cons.mp hm with q | hm
      · exact absurd (Nat.lt_trans this l2) (by rw [show b = x from q]; exact Nat.lt_irrefl _)
      · rcases List.mem_cons.mp hm with q | hm
        · exact absurd this (by rw [show b = dx from q]; exact Nat.lt_irrefl _)
        · cases hm
    )
end Mine
end
section
open PySem PySem.W PyProof.Rows PySem.Calls
set_option Elab.async false
set_option maxRecDepth 100000
set_option maxHeartbeats 4000000
namespace Mine
theorem putL_len (name : Str) (hsh : Int) (key v : Value) : ∀ es : List DictEntry, (putL name hsh key v es).length ≤ es.length + 1
  | [] => Nat.le_refl _
  | e :: r => by
    unfold putL
    split
    · simp
    · simp only [List.length_cons]; have := putL_len name hsh key v r; omega
local macro_rules | `(tactic| k_room) => `(tactic| ktr_room)
local macro_rules | `(tactic| k_enter) => `(tactic| (kp_kind "rest"; (refine' restO ?k1 ?k2 ?k3 ?k4 ?k5 ?kA ?kF ?kK ?k6 ?k7 ?k8 ?kV ?kP ?kG ?kB ?_ ?c2 ?c3 ?c4 ?c5; (case kA => exact rfl); (case kF => exact rfl); (case kK => first | assumption | exact rfl); (case k1 => k_asm); (case k2 => k_asm); (case k3 => k_asm); (case k4 => k_asm); (case k5 => k_asm); (case k6 => k_is); (case k7 => k_is); (case k8 => k_room); (case kV => kp_lit); (case kP => exact rfl); (case kG => exact fun _ => rfl); (case kB => exact fun _ => locs rfl); (case c5 => decide); (case c2 => exact rfl); (case c3 => exact rfl); (case c4 => exact rfl); k_whole; intro D' g' L' h' l1 kp' FG' F' N' B' X' T'; (try k_lt l1); (try dsimp only); (try k_lift B'); (try k_fold))))
local macro_rules | `(tactic| k_enter) => `(tactic| (kp_kind "both"; (refine' bothO ?k1 ?k2 ?k3 ?k4 ?k5 ?kA ?kF ?kK ?k6 ?k7 ?k8 ?kV ?kX ?kQ ?kM ?kR ?kN ?kP ?kS ?kT ?kB ?_ ?c2 ?c3 ?c4 ?c5; (case kA => exact rfl); (case kF => exact rfl); (case kK => first | assumption | exact rfl); (case k1 => k_asm); (case k2 => k_asm); (case k3 => k_asm); (case k4 => k_asm); (case k5 => k_asm); (case k6 => k_is); (case k7 => k_is); (case k8 => k_room); (case kV => kp_lit); (case kX => kp_lit); (case kQ => exact rfl); (case kM => exact rfl); (case kR => exact rfl); (case kN => exact Nat.le_of_ble_eq_true rfl); (case kP => exact rfl); (case kS => exact fun _ => rfl); (case kT => exact fun _ _ => rfl); (case kB => exact fun _ _ => locs rfl); (case c5 => decide); (case c2 => exact rfl); (case c3 => exact rfl); (case c4 => exact rfl); k_whole; intro C' D' o' g' L' h' tk' l1 l2 lo' hs' kp' FG' F' N' B' X' T'; (try k_lt l1); (try k_lt2 l2); (try dsimp only); (try k_lift B'); (try k_fold))))
local macro_rules | `(tactic| walk_at "setAttr ref") => `(tactic| (k_here; k_dflt
  (refine' set_dict ?k1 ?k2 ?k3 ?k4 ?k5 ?k6 ?k7 ?k8 ?k9 ?k10 rfl ?k12 ?k13 ?_; (case k1 => k_asm); (case k2 => k_asm); (case k3 => k_asm); (case k4 => k_inst); (case k5 => exact rfl); (case k6 => k_is); (case k7 => k_is); (case k8 => k_is); (case k9 => k_is); (case k10 => with_reducible assumption); (case k12 => k_upd); (case k13 => exact Nat.le_trans (Mine.putL_len _ _ _ _ _) (by omega)); k_whole; intro h' F' N'; (try k_sweep))))

theorem eqN {a b : Nat} (h : a = b) : a = b := h
theorem fresh_of {g h : Heap} {L z : Addr} {news : List (Addr × Obj)} {o oz : Obj} (N : News g L h news) (hp : (z, o) ∈ news) (e : g.get? z = some oz) : False := by rw [(N _ hp).2.2] at e; cases e
theorem newsAt {h₀ h : Heap} {L : Addr} {news : List (Addr × Obj)} (N : News h₀ L h news) {p : Addr × Obj} (hp : p ∈ news) : h.get? p.1 = some p.2 ∧ p.1 ≠ L ∧ h₀.get? p.1 = none := N p hp
local macro_rules | `(tactic| tb_start) => `(tactic| first | exact List.forall_mem_nil _ | (refine' List.forall_mem_cons.mpr ⟨newsAt (by k_asm) (by k_mem), ?_⟩; tb_start))
theorem bind2 {p : Program} {loose : List Str} {mean : ExcName → Option Value} {mg mb : Str → Option Value} {w : World} {dp un : Nat} {gd : Option (List Code)} {cn : Str} {cs : Scope} {ac : Addr} {ccd : Value} {cl : List (Str × Addr)} {outer : List Env}
    {A₀ : Around} {base h₀ : Heap} {L : Addr} {m : Str → Option Value} {s : Shared} {Q : Value → Shared → Prop} {E : Value → Shared → Prop}
    {a da b db : Addr} {ea eb : List DictEntry} {na nb : Nat}
    (B : Below A₀ base outer h₀) (F : Fr h₀ L s.heap m) (X : (KF w.params).In h₀) (T : Top p loose mean mg mb h₀) (hk : cs.kind = .function)
    (hdp : dp + 10 < recursionLimit) (hun : un + 80 < cLine)
    (N : News h₀ L s.heap [(a, instObj 1204 da), (da, dictOf ea na), (b, instObj 1204 db), (db, dictOf eb nb)])
    (n1 : @Ne Nat a da) (n2 : @Ne Nat a b) (n3 : @Ne Nat a db) (n4 : @Ne Nat da b) (n5 : @Ne Nat da db) (n6 : @Ne Nat b db)
    (hga : (getL "clientPeer" ea).isSome = true) (hgb : (getL "serverPeer" eb).isSome = true) (hla : ea.length ≤ 900) (hlb : eb.length ≤ 900)
    (hret : ∀ t t' h' tk', Fr h₀ L h' m → (∀ c o, s.heap.get? c = some o → c ∉ [a, da, b, db] → h'.get? c = some o) →
      News h₀ L h' [(a, instObj 1204 da), (da, dictOf (putL "clientPeer" (PyData.keyHash w.params "clientPeer") (.str "clientPeer" t) (.ref b) ea) (putN "clientPeer" ea na)), (b, instObj 1204 db), (db, dictOf (putL "serverPeer" (PyData.keyHash w.params "serverPeer") (.str "serverPeer" t') (.ref a) eb) (putN "serverPeer" eb nb))] →
      Q .none { s with heap := h', toks := tk' }) :
    wpAny (model PySem.Challenge.rw_bj5003_01.row.prog w) (ktrTop dp un gd cn cs L ac ccd cl outer) (call (.ref 401) [.ref a, .ref b]) Q E s := by
  first
  | (
      revert X; k_fill; intro X
      refine wpAny_call ?_
      w_on
      k_dflt k_enter
      k_steps
      rename (∀ (b : Addr) (o : Obj), Heap.get? _ b = some o → ¬ b ∈ _ → Heap.get? _ b = some o) => kp
      refine' hret _ _ _ _ ?ka ?kb ?kc
      case kc => tb_start
      case ka => k_asm
      case kb => exact fun c o e n => Fr.keep (by k_asm) c o (kp c o e n)
    )
end Mine
end
section
open PySem PySem.W PyProof.Rows PySem.Calls
set_option Elab.async false
set_option maxRecDepth 100000
set_option maxHeartbeats 4000000
namespace Mine
/-- no key that is an object -/
def NoRef (es : List DictEntry) : Prop := es.any (·.refKey) = false
theorem isStr_str {x y : Str} {t : Tok} : (Value.str y t).isStr x = (y == x) := rfl
theorem noRef_put {y : Str} {hs : Int} {t : Tok} {v : Value} : ∀ {es : List DictEntry}, NoRef es → NoRef (putL y hs (.str y t) v es)
  | [], _ => rfl
  | e :: r, h => by
    have h' : e.refKey = false ∧ NoRef r := by simpa [NoRef] using h
    unfold putL
    split
    · have e1 : DictEntry.refKey ⟨e.hash, e.key, v⟩ = e.refKey := rfl
      unfold NoRef
      rw [List.any_cons, e1, h'.1]
      exact h'.2
    · show ((e :: putL y hs (.str y t) v r).any (·.refKey)) = false
      simp only [List.any_cons, h'.1, Bool.false_or]
      exact noRef_put h'.2
theorem getL_isSome {x : Str} {es : List DictEntry} (h : NoRef es) : (getL x es).isSome = true := by
  unfold getL
  split
  · rfl
  · rw [if_neg (by rw [h]; decide)]; rfl
theorem find_put_same {x : Str} {hs : Int} {t : Tok} {v : Value} : ∀ es : List DictEntry, ∃ e, (putL x hs (.str x t) v es).find? (·.key.isStr x) = some e ∧ e.val = v
  | [] => ⟨⟨hs, .str x t, v⟩, by simp [putL, isStr_str], rfl⟩
  | e :: r => by
    unfold putL
    split
    · rename_i q
      exact ⟨⟨e.hash, e.key, v⟩, by simp [q], rfl⟩
    · rename_i q
      obtain ⟨e', h1, h2⟩ := find_put_same (x := x) (hs := hs) (t := t) (v := v) r
      exact ⟨e', by rw [List.find?_cons_of_neg (by simpa using q)]; exact h1, h2⟩
theorem getL_put_same {x : Str} {hs : Int} {t : Tok} {v : Value} {es : List DictEntry} : getL x (putL x hs (.str x t) v es) = some (some v) := by
  obtain ⟨e, h1, h2⟩ := find_put_same (x := x) (hs := hs) (t := t) (v := v) es
  unfold getL
  rw [h1, ← h2]
theorem isStr_eq {k : Value} {x y : Str} (h1 : k.isStr x = true) (h2 : k.isStr y = true) : x = y := by
  cases k with
  | str z t => exact (beq_iff_eq.mp (show (z == x) = true from h1)).symm.trans (beq_iff_eq.mp (show (z == y) = true from h2))
  | _ => cases h1
theorem find_put_ne {x y : Str} {hs : Int} {t : Tok} {v : Value} (hn : y ≠ x) : ∀ es : List DictEntry, ((putL y hs (.str y t) v es).find? (·.key.isStr x)).map (·.val) = (es.find? (·.key.isStr x)).map (·.val)
  | [] => by
    have : (Value.str y t).isStr x = false := by rw [isStr_str]; exact beq_eq_false_iff_ne.mpr hn
    simp [putL, this]
  | e :: r => by
    unfold putL
    split
    · rename_i q
      have : e.key.isStr x = false := by
        cases z : e.key.isStr x with
        | false => rfl
        | true => exact absurd (isStr_eq q z) hn
      simp [this]
    · rename_i q
      by_cases z : e.key.isStr x = true
      · simp [z]
      · rw [List.find?_cons_of_neg (by simpa using z), List.find?_cons_of_neg (by simpa using z)]
        exact find_put_ne hn r
theorem getL_of {x : Str} {es : List DictEntry} (h : NoRef es) : getL x es = some ((es.find? (·.key.isStr x)).map (·.val)) := by
  unfold getL
  split
  · rename_i e q; rw [q]; rfl
  · rename_i q; rw [if_neg (by rw [h]; decide), q]; rfl
theorem getL_put_ne {x y : Str} {hs : Int} {t : Tok} {v : Value} {es : List DictEntry} (h : NoRef es) (hn : y ≠ x) : getL x (putL y hs (.str y t) v es) = getL x es := by
  rw [getL_of (noRef_put h), getL_of h, find_put_ne hn]
end Mine
end
section
open PySem PySem.W PyProof.Rows PySem.Calls
set_option Elab.async false
set_option maxRecDepth 100000
set_option maxHeartbeats 4000000
namespace Mine
local macro_rules | `(tactic| k_room) => `(tactic| ktr_room)
local macro_rules | `(tactic| k_enter) => `(tactic| (kp_kind "rest"; (refine' restO ?k1 ?k2 ?k3 ?k4 ?k5 ?kA ?kF ?kK ?k6 ?k7 ?k8 ?kV ?kP ?kG ?kB ?_ ?c2 ?c3 ?c4 ?c5; (case kA => exact rfl); (case kF => exact rfl); (case kK => first | assumption | exact rfl); (case k1 => k_asm); (case k2 => k_asm); (case k3 => k_asm); (case k4 => k_asm); (case k5 => k_asm); (case k6 => k_is); (case k7 => k_is); (case k8 => k_room); (case kV => kp_lit); (case kP => exact rfl); (case kG => exact fun _ => rfl); (case kB => exact fun _ => locs rfl); (case c5 => decide); (case c2 => exact rfl); (case c3 => exact rfl); (case c4 => exact rfl); k_whole; intro D' g' L' h' l1 kp' FG' F' N' B' X' T'; (try k_lt l1); (try dsimp only); (try k_lift B'); (try k_fold))))
local macro_rules | `(tactic| k_enter) => `(tactic| (kp_kind "both"; (refine' bothO ?k1 ?k2 ?k3 ?k4 ?k5 ?kA ?kF ?kK ?k6 ?k7 ?k8 ?kV ?kX ?kQ ?kM ?kR ?kN ?kP ?kS ?kT ?kB ?_ ?c2 ?c3 ?c4 ?c5; (case kA => exact rfl); (case kF => exact rfl); (case kK => first | assumption | exact rfl); (case k1 => k_asm); (case k2 => k_asm); (case k3 => k_asm); (case k4 => k_asm); (case k5 => k_asm); (case k6 => k_is); (case k7 => k_is); (case k8 => k_room); (case kV => kp_lit); (case kX => kp_lit); (case kQ => exact rfl); (case kM => exact rfl); (case kR => exact rfl); (case kN => exact Nat.le_of_ble_eq_true rfl); (case kP => exact rfl); (case kS => exact fun _ => rfl); (case kT => exact fun _ _ => rfl); (case kB => exact fun _ _ => locs rfl); (case c5 => decide); (case c2 => exact rfl); (case c3 => exact rfl); (case c4 => exact rfl); k_whole; intro C' D' o' g' L' h' tk' l1 l2 lo' hs' kp' FG' F' N' B' X' T'; (try k_lt l1); (try k_lt2 l2); (try dsimp only); (try k_lift B'); (try k_fold))))
local macro_rules | `(tactic| k_enter) => `(tactic| (kp_kind "?"; (refine' defO ?k1 ?k2 ?k3 ?k4 ?k5 ?kA ?kF ?kK ?k6 ?k7 ?k8 ?k9 ?kB ?_ ?c2 ?c3 ?c4 ?c5; (case kA => exact rfl); (case kF => exact rfl); (case kK => first | assumption | exact rfl); (case k1 => k_asm); (case k2 => k_asm); (case k3 => k_asm); (case k4 => k_asm); (case k5 => k_asm); (case k6 => k_is); (case k7 => k_is); (case k8 => k_room); (case k9 => first | exact BindsTo.of_eq rfl | exact binds_K (by k_in) rfl (by k_is) rfl rfl rfl); (case kB => exact locs rfl); (case c5 => decide); (case c2 => exact rfl); (case c3 => exact rfl); (case c4 => exact rfl); k_whole; intro g' L' h' kp' FG' F' N' B' X' T'; (try dsimp only); (try k_lift B'); (try k_fold))))
local macro_rules | `(tactic| walk_at "setAttr ref") => `(tactic| (k_here; k_dflt
  (refine' set_dict ?k1 ?k2 ?k3 ?k4 ?k5 ?k6 ?k7 ?k8 ?k9 ?k10 rfl ?k12 ?k13 ?_; (case k1 => k_asm); (case k2 => k_asm); (case k3 => k_asm); (case k4 => k_inst); (case k5 => exact rfl); (case k6 => k_is); (case k7 => k_is); (case k8 => k_is); (case k9 => k_is); (case k10 => with_reducible assumption); (case k12 => k_upd); (case k13 => exact Nat.le_trans (Mine.putL_len _ _ _ _ _) (by omega)); k_whole; intro h' F' N'; (try k_sweep))))
local macro_rules | `(tactic| tb_start) => `(tactic| first | exact List.forall_mem_nil _ | (refine' List.forall_mem_cons.mpr ⟨newsAt (by k_asm) (by k_mem), ?_⟩; tb_start))
local macro_rules | `(tactic| k_get) => `(tactic| with_reducible assumption)
local macro_rules | `(tactic| walk_at "eval Call Attribute") => `(tactic| (k_here; (with_reducible show wpAny _ _ (eval (Expr.Call (Expr.Attribute _ _ _) [Expr.Starred _ _] [_] _) _) _ _ _); k_dflt (refine mMethodStar ?_)))
local macro_rules | `(tactic| walk_at "callWith ref") => `(tactic| (k_here; k_dflt (refine' callStarA ?k1 ?k2 ?k3 ?k4 ?k5 ?k6 ?k7 ?k8 ?k9 ?kA ?kB ?kC ?kD ?_ ?c1 ?c2 ?c3 ?c4 ?c5; (case c1 => exact rfl); (case c2 => exact rfl); (case c3 => decide); (case c4 => exact rfl); (case c5 => decide); (case k1 => k_asm); (case k2 => k_asm); (case k3 => k_asm); (case k4 => k_mem); (case k5 => k_is); (case k6 => exact rfl); (case k7 => exact rfl); (case k8 => k_mem); (case k9 => k_asm); (case kA => k_asm); (case kB => exact Nat.le_of_ble_eq_true rfl); (case kC => k_mem); (case kD => exact Nat.le_of_ble_eq_true rfl); k_whole; intro h' F' N'; (try k_sweep))))
local macro_rules | `(tactic| walk_at "call builtin:list.append") => `(tactic| (k_here; k_dflt (refine' append_K ?k1 ?k2 ?k3 ?_ ?z; (case k1 => k_asm); (case k2 => k_asm); (case k3 => k_upd); (case z => size_fits); k_whole); intro h' F' N'; (try k_sweep)))
local macro_rules | `(tactic| walk_at "noteFrame ref") => `(tactic| (k_here; (rename RaisedN _ _ _ _ _ _ => rkX); k_dflt (refine caught_N0 (T' := "TypeError") (by assumption) (by assumption) (by assumption) (by assumption) (by k_asm) PyProof.Rows.Boot.«TypeError» PySem.F.isExc_TypeError PySem.F.notTuple_TypeError (by rw [isSubtype_type]; kernel_rfl) ?_ (h2 := by assumption) (h3 := by assumption) (h4 := by assumption) (h4c := by assumption)); intro h' F' N'; (try k_sweep)))
section

theorem req2 {p : Program} {loose : List Str} {mean : ExcName → Option Value} {mg mb : Str → Option Value} {w : World} {dp un : Nat} {gd : Option (List Code)} {cn : Str} {cs : Scope} {ac : Addr} {ccd : Value} {cl : List (Str × Addr)} {outer : List Env}
    {A₀ : Around} {base h₀ : Heap} {L : Addr} {m : Str → Option Value} {s : Shared} {Q : Value → Shared → Prop} {E : Value → Shared → Prop}
    {a da b db t dt la : Addr} {ea eb et : List DictEntry} {na nb nt cla : Nat} {items : Array Value} {v : Addr}
    (B : Below A₀ base outer h₀) (F : Fr h₀ L s.heap m) (X : (KF w.params).In h₀) (T : Top p loose mean mg mb h₀) (hk : cs.kind = .function)
    (hdp : dp + 20 < recursionLimit) (hun : un + 200 < cLine)
    (N : News h₀ L s.heap [(a, instObj 1204 da), (da, dictOf ea na), (b, instObj 1204 db), (db, dictOf eb nb), (t, instObj 587 dt), (dt, dictOf et nt), (la, listOf items cla)])
    (q0 : @Ne Nat la a) (q1 : @Ne Nat la da) (q2 : @Ne Nat la b) (q3 : @Ne Nat la db) (q4 : @Ne Nat la t) (q5 : @Ne Nat la dt)
    (hpeer : getL "clientPeer" ea = some (some (.ref b))) (hmeth : getL "indication" eb = some none) (hlst : getL "asked" eb = some (some (.ref la))) (hdest : getL "pduDestination" et = some (some (.ref v))) (hsz : items.size ≤ sizeLine) 
    (hret : ∀ tp h' tk', Fr h₀ L h' m → (∀ z oz, s.heap.get? z = some oz → z ∉ [a, da, b, db, t, dt, la] → h'.get? z = some oz) → (∀ z oz, s.heap.get? z = some oz → z ≠ tp) → News h₀ L h' [(tp, ({ cls := .type "tuple", data := .seq #[.ref v, .ref t] } : Obj)), (a, instObj 1204 da), (da, dictOf ea na), (b, instObj 1204 db), (db, dictOf eb nb), (t, instObj 587 dt), (dt, dictOf et nt), (la, listOf (items.push (.ref tp)) (cla + 1))] → Q .none { s with heap := h', toks := tk' }) :
    wpAny (model PySem.Challenge.rw_bj5003_01.row.prog w) (ktrTop dp un gd cn cs L ac ccd cl outer) (call (.ref 244) [.ref a, .ref t]) Q E s := by
  first
  | (
      revert X; k_fill; intro X
      refine wpAny_call ?_
      k_dflt k_enter
      k_steps
      rename (∀ (b : Addr) (o : Obj), Heap.get? s.heap b = some o → ¬ b ∈ _ → Heap.get? _ b = some o) => kp
      refine' hret _ _ _ ?ka ?kb ?kd ?kc
      case kc => tb_start
      case ka => k_asm
      case kb => exact fun c o e n => Fr.keep (by k_asm) c o (kp c o e n)
      case kd =>
        intro z oz e q
        subst q
        by_cases hz : z ∈ [a, da, b, db, t, dt, la]
        · simp only [List.mem_cons, List.not_mem_nil, or_false] at hz
          rcases hz with q | q | q | q | q | q | q <;> (replace q := eqN q; omega)
        · exact fresh_of (by k_asm) (by k_mem) (kp z oz e hz)
    )
theorem resp2 {p : Program} {loose : List Str} {mean : ExcName → Option Value} {mg mb : Str → Option Value} {w : World} {dp un : Nat} {gd : Option (List Code)} {cn : Str} {cs : Scope} {ac : Addr} {ccd : Value} {cl : List (Str × Addr)} {outer : List Env}
    {A₀ : Around} {base h₀ : Heap} {L : Addr} {m : Str → Option Value} {s : Shared} {Q : Value → Shared → Prop} {E : Value → Shared → Prop}
    {a da b db la : Addr} {ea eb : List DictEntry} {na nb cla : Nat} {items : Array Value} {t : Addr}
    (B : Below A₀ base outer h₀) (F : Fr h₀ L s.heap m) (X : (KF w.params).In h₀) (T : Top p loose mean mg mb h₀) (hk : cs.kind = .function)
    (hdp : dp + 20 < recursionLimit) (hun : un + 200 < cLine)
    (N : News h₀ L s.heap [(a, instObj 1204 da), (da, dictOf ea na), (b, instObj 1204 db), (db, dictOf eb nb), (la, listOf items cla)])
    (q0 : @Ne Nat la a) (q1 : @Ne Nat la da) (q2 : @Ne Nat la b) (q3 : @Ne Nat la db)
    (hpeer : getL "serverPeer" ea = some (some (.ref b))) (hmeth : getL "confirmation" eb = some none) (hlst : getL "told" eb = some (some (.ref la))) (hsz : items.size ≤ sizeLine) 
    (hret : ∀ h' tk', Fr h₀ L h' m → (∀ z oz, s.heap.get? z = some oz → z ∉ [a, da, b, db, la] → h'.get? z = some oz) → News h₀ L h' [(a, instObj 1204 da), (da, dictOf ea na), (b, instObj 1204 db), (db, dictOf eb nb), (la, listOf (items.push (.ref t)) (cla + 1))] → Q .none { s with heap := h', toks := tk' }) :
    wpAny (model PySem.Challenge.rw_bj5003_01.row.prog w) (ktrTop dp un gd cn cs L ac ccd cl outer) (call (.ref 287) [.ref a, .ref t]) Q E s := by
  first
  | (
      revert X; k_fill; intro X
      refine wpAny_call ?_
      k_dflt k_enter
      k_steps
      rename (∀ (b : Addr) (o : Obj), Heap.get? s.heap b = some o → ¬ b ∈ _ → Heap.get? _ b = some o) => kp
      refine' hret _ _ ?ka ?kb ?kc
      case kc => tb_start
      case ka => k_asm
      case kb => exact fun c o e n => Fr.keep (by k_asm) c o (kp c o e n)
    )
end
section

theorem bindES {p : Program} {loose : List Str} {mean : ExcName → Option Value} {mg mb : Str → Option Value} {w : World} {dp un : Nat} {gd : Option (List Code)} {cn : Str} {cs : Scope} {ac : Addr} {ccd : Value} {cl : List (Str × Addr)} {outer : List Env}
    {A₀ : Around} {base h₀ : Heap} {L : Addr} {m : Str → Option Value} {s : Shared} {Q : Value → Shared → Prop} {E : Value → Shared → Prop}
    {a da b db : Addr} {ea eb : List DictEntry} {na nb : Nat} 
    (B : Below A₀ base outer h₀) (F : Fr h₀ L s.heap m) (X : (KF w.params).In h₀) (T : Top p loose mean mg mb h₀) (hk : cs.kind = .function)
    (hdp : dp + 20 < recursionLimit) (hun : un + 200 < cLine)
    (N : News h₀ L s.heap [(a, instObj 390 da), (da, dictOf ea na), (b, instObj 1171 db), (db, dictOf eb nb)])
    (q0 : @Ne Nat a da) (q1 : @Ne Nat a b) (q2 : @Ne Nat a db) (q3 : @Ne Nat da b) (q4 : @Ne Nat da db) (q5 : @Ne Nat b db)
    (hga : (getL "elementService" ea).isSome = true) (hgb : (getL "serviceElement" eb).isSome = true) (hla : ea.length ≤ 900) (hlb : eb.length ≤ 900) 
    (hret : ∀ t t' h' tk', Fr h₀ L h' m → (∀ z oz, s.heap.get? z = some oz → z ∉ [a, da, b, db] → h'.get? z = some oz) → News h₀ L h' [(a, instObj 390 da), (da, dictOf (putL "elementService" (PyData.keyHash w.params "elementService") (.str "elementService" t) (.ref b) ea) (putN "elementService" ea na)), (b, instObj 1171 db), (db, dictOf (putL "serviceElement" (PyData.keyHash w.params "serviceElement") (.str "serviceElement" t') (.ref a) eb) (putN "serviceElement" eb nb))] → Q .none { s with heap := h', toks := tk' }) :
    wpAny (model PySem.Challenge.rw_bj5003_01.row.prog w) (ktrTop dp un gd cn cs L ac ccd cl outer) (call (.ref 401) [.ref a, .ref b]) Q E s := by
  first
  | (
      revert X; k_fill; intro X
      refine wpAny_call ?_
      k_dflt k_enter
      k_steps
      rename (∀ (b : Addr) (o : Obj), Heap.get? s.heap b = some o → ¬ b ∈ _ → Heap.get? _ b = some o) => kp
      refine' hret _ _ _ _ ?ka ?kb ?kc
      case kc => tb_start
      case ka => k_asm
      case kb => exact fun c o e n => Fr.keep (by k_asm) c o (kp c o e n)
    )
theorem bindLB {p : Program} {loose : List Str} {mean : ExcName → Option Value} {mg mb : Str → Option Value} {w : World} {dp un : Nat} {gd : Option (List Code)} {cn : Str} {cs : Scope} {ac : Addr} {ccd : Value} {cl : List (Str × Addr)} {outer : List Env}
    {A₀ : Around} {base h₀ : Heap} {L : Addr} {m : Str → Option Value} {s : Shared} {Q : Value → Shared → Prop} {E : Value → Shared → Prop}
    {a da b db : Addr} {ea eb : List DictEntry} {na nb : Nat} 
    (B : Below A₀ base outer h₀) (F : Fr h₀ L s.heap m) (X : (KF w.params).In h₀) (T : Top p loose mean mg mb h₀) (hk : cs.kind = .function)
    (hdp : dp + 20 < recursionLimit) (hun : un + 200 < cLine)
    (N : News h₀ L s.heap [(a, instObj 1171 da), (da, dictOf ea na), (b, instObj 1204 db), (db, dictOf eb nb)])
    (q0 : @Ne Nat a da) (q1 : @Ne Nat a b) (q2 : @Ne Nat a db) (q3 : @Ne Nat da b) (q4 : @Ne Nat da db) (q5 : @Ne Nat b db)
    (hga : (getL "clientPeer" ea).isSome = true) (hgb : (getL "serverPeer" eb).isSome = true) (hla : ea.length ≤ 900) (hlb : eb.length ≤ 900) 
    (hret : ∀ t t' h' tk', Fr h₀ L h' m → (∀ z oz, s.heap.get? z = some oz → z ∉ [a, da, b, db] → h'.get? z = some oz) → News h₀ L h' [(a, instObj 1171 da), (da, dictOf (putL "clientPeer" (PyData.keyHash w.params "clientPeer") (.str "clientPeer" t) (.ref b) ea) (putN "clientPeer" ea na)), (b, instObj 1204 db), (db, dictOf (putL "serverPeer" (PyData.keyHash w.params "serverPeer") (.str "serverPeer" t') (.ref a) eb) (putN "serverPeer" eb nb))] → Q .none { s with heap := h', toks := tk' }) :
    wpAny (model PySem.Challenge.rw_bj5003_01.row.prog w) (ktrTop dp un gd cn cs L ac ccd cl outer) (call (.ref 401) [.ref a, .ref b]) Q E s := by
  first
  | (
      revert X; k_fill; intro X
      refine wpAny_call ?_
      k_dflt k_enter
      k_steps
      rename (∀ (b : Addr) (o : Obj), Heap.get? s.heap b = some o → ¬ b ∈ _ → Heap.get? _ b = some o) => kp
      refine' hret _ _ _ _ ?ka ?kb ?kc
      case kc => tb_start
      case ka => k_asm
      case kb => exact fun c o e n => Fr.keep (by k_asm) c o (kp c o e n)
    )
theorem bindOI {p : Program} {loose : List Str} {mean : ExcName → Option Value} {mg mb : Str → Option Value} {w : World} {dp un : Nat} {gd : Option (List Code)} {cn : Str} {cs : Scope} {ac : Addr} {ccd : Value} {cl : List (Str × Addr)} {outer : List Env}
    {A₀ : Around} {base h₀ : Heap} {L : Addr} {m : Str → Option Value} {s : Shared} {Q : Value → Shared → Prop} {E : Value → Shared → Prop}
    {a da b db : Addr} {ea eb : List DictEntry} {na nb : Nat} 
    (B : Below A₀ base outer h₀) (F : Fr h₀ L s.heap m) (X : (KF w.params).In h₀) (T : Top p loose mean mg mb h₀) (hk : cs.kind = .function)
    (hdp : dp + 20 < recursionLimit) (hun : un + 200 < cLine)
    (N : News h₀ L s.heap [(a, instObj 1204 da), (da, dictOf ea na), (b, instObj 340 db), (db, dictOf eb nb)])
    (q0 : @Ne Nat a da) (q1 : @Ne Nat a b) (q2 : @Ne Nat a db) (q3 : @Ne Nat da b) (q4 : @Ne Nat da db) (q5 : @Ne Nat b db)
    (hga : (getL "elementService" ea).isSome = true) (hgb : (getL "serviceElement" eb).isSome = true) (hla : ea.length ≤ 900) (hlb : eb.length ≤ 900) 
    (hret : ∀ t t' h' tk', Fr h₀ L h' m → (∀ z oz, s.heap.get? z = some oz → z ∉ [a, da, b, db] → h'.get? z = some oz) → News h₀ L h' [(a, instObj 1204 da), (da, dictOf (putL "elementService" (PyData.keyHash w.params "elementService") (.str "elementService" t) (.ref b) ea) (putN "elementService" ea na)), (b, instObj 340 db), (db, dictOf (putL "serviceElement" (PyData.keyHash w.params "serviceElement") (.str "serviceElement" t') (.ref a) eb) (putN "serviceElement" eb nb))] → Q .none { s with heap := h', toks := tk' }) :
    wpAny (model PySem.Challenge.rw_bj5003_01.row.prog w) (ktrTop dp un gd cn cs L ac ccd cl outer) (call (.ref 401) [.ref a, .ref b]) Q E s := by
  first
  | (
      revert X; k_fill; intro X
      refine wpAny_call ?_
      k_dflt k_enter
      k_steps
      rename (∀ (b : Addr) (o : Obj), Heap.get? s.heap b = some o → ¬ b ∈ _ → Heap.get? _ b = some o) => kp
      refine' hret _ _ _ _ ?ka ?kb ?kc
      case kc => tb_start
      case ka => k_asm
      case kb => exact fun c o e n => Fr.keep (by k_asm) c o (kp c o e n)
    )
end
section

theorem topReq {p : Program} {loose : List Str} {mean : ExcName → Option Value} {mg mb : Str → Option Value} {w : World} {dp un : Nat} {gd : Option (List Code)} {cn : Str} {cs : Scope} {ac : Addr} {ccd : Value} {cl : List (Str × Addr)} {outer : List Env}
    {A₀ : Around} {base h₀ : Heap} {L : Addr} {m : Str → Option Value} {s : Shared} {Q : Value → Shared → Prop} {E : Value → Shared → Prop}
    {a da b db u du t dt la : Addr} {ea eb eu et : List DictEntry} {na nb nu nt cla : Nat} {items : Array Value} {v : Addr}
    (B : Below A₀ base outer h₀) (F : Fr h₀ L s.heap m) (X : (KF w.params).In h₀) (T : Top p loose mean mg mb h₀) (hk : cs.kind = .function)
    (hdp : dp + 20 < recursionLimit) (hun : un + 200 < cLine)
    (N : News h₀ L s.heap [(a, instObj 390 da), (da, dictOf ea na), (b, instObj 1171 db), (db, dictOf eb nb), (u, instObj 1204 du), (du, dictOf eu nu), (t, instObj 587 dt), (dt, dictOf et nt), (la, listOf items cla)])
    (q0 : @Ne Nat la a) (q1 : @Ne Nat la da) (q2 : @Ne Nat la b) (q3 : @Ne Nat la db) (q4 : @Ne Nat la u) (q5 : @Ne Nat la du) (q6 : @Ne Nat la t) (q7 : @Ne Nat la dt)
    (f1 : getL "elementService" ea = some (some (.ref b))) (f2 : getL "sap_indication" eb = some none) (f3 : getL "clientPeer" eb = some (some (.ref u))) (f4 : getL "request" eb = some none) (f5 : getL "indication" eu = some none) (f6 : getL "asked" eu = some (some (.ref la))) (f7 : getL "pduDestination" et = some (some (.ref v))) (hsz : items.size ≤ sizeLine) 
    (hret : ∀ tp h' tk', Fr h₀ L h' m → (∀ z oz, s.heap.get? z = some oz → z ∉ [a, da, b, db, u, du, t, dt, la] → h'.get? z = some oz) → (∀ z oz, s.heap.get? z = some oz → z ≠ tp) → News h₀ L h' [(tp, ({ cls := .type "tuple", data := .seq #[.ref v, .ref t] } : Obj)), (a, instObj 390 da), (da, dictOf ea na), (b, instObj 1171 db), (db, dictOf eb nb), (u, instObj 1204 du), (du, dictOf eu nu), (t, instObj 587 dt), (dt, dictOf et nt), (la, listOf (items.push (.ref tp)) (cla + 1))] → Q .none { s with heap := h', toks := tk' }) :
    wpAny (model PySem.Challenge.rw_bj5003_01.row.prog w) (ktrTop dp un gd cn cs L ac ccd cl outer) (call (.ref 366) [.ref a, .ref t]) Q E s := by
  first
  | (
      revert X; k_fill; intro X
      refine wpAny_call ?_
      k_dflt k_enter
      k_steps
      rename (∀ (b : Addr) (o : Obj), Heap.get? s.heap b = some o → ¬ b ∈ _ → Heap.get? _ b = some o) => kp
      refine' hret _ _ _ ?ka ?kb ?kd ?kc
      case kc => tb_start
      case ka => k_asm
      case kb => exact fun c o e n => Fr.keep (by k_asm) c o (kp c o e n)
      case kd =>
        intro z oz e q
        subst q
        by_cases hz : z ∈ [a, da, b, db, u, du, t, dt, la]
        · simp only [List.mem_cons, List.not_mem_nil, or_false] at hz
          rcases hz with q | q | q | q | q | q | q | q | q <;> (replace q := eqN q; omega)
        · exact fresh_of (by k_asm) (by k_mem) (kp z oz e hz)
    )
theorem topResp {p : Program} {loose : List Str} {mean : ExcName → Option Value} {mg mb : Str → Option Value} {w : World} {dp un : Nat} {gd : Option (List Code)} {cn : Str} {cs : Scope} {ac : Addr} {ccd : Value} {cl : List (Str × Addr)} {outer : List Env}
    {A₀ : Around} {base h₀ : Heap} {L : Addr} {m : Str → Option Value} {s : Shared} {Q : Value → Shared → Prop} {E : Value → Shared → Prop}
    {a da b db u du t dt la : Addr} {ea eb eu et : List DictEntry} {na nb nu nt cla : Nat} {items : Array Value} {v : Addr}
    (B : Below A₀ base outer h₀) (F : Fr h₀ L s.heap m) (X : (KF w.params).In h₀) (T : Top p loose mean mg mb h₀) (hk : cs.kind = .function)
    (hdp : dp + 20 < recursionLimit) (hun : un + 200 < cLine)
    (N : News h₀ L s.heap [(a, instObj 390 da), (da, dictOf ea na), (b, instObj 1171 db), (db, dictOf eb nb), (u, instObj 1204 du), (du, dictOf eu nu), (t, instObj 587 dt), (dt, dictOf et nt), (la, listOf items cla)])
    (q0 : @Ne Nat la a) (q1 : @Ne Nat la da) (q2 : @Ne Nat la b) (q3 : @Ne Nat la db) (q4 : @Ne Nat la u) (q5 : @Ne Nat la du) (q6 : @Ne Nat la t) (q7 : @Ne Nat la dt)
    (f1 : getL "elementService" ea = some (some (.ref b))) (f2 : getL "sap_confirmation" eb = some none) (f3 : getL "clientPeer" eb = some (some (.ref u))) (f4 : getL "request" eb = some none) (f5 : getL "indication" eu = some none) (f6 : getL "asked" eu = some (some (.ref la))) (f7 : getL "pduDestination" et = some (some (.ref v))) (hsz : items.size ≤ sizeLine) 
    (hret : ∀ tp h' tk', Fr h₀ L h' m → (∀ z oz, s.heap.get? z = some oz → z ∉ [a, da, b, db, u, du, t, dt, la] → h'.get? z = some oz) → (∀ z oz, s.heap.get? z = some oz → z ≠ tp) → News h₀ L h' [(tp, ({ cls := .type "tuple", data := .seq #[.ref v, .ref t] } : Obj)), (a, instObj 390 da), (da, dictOf ea na), (b, instObj 1171 db), (db, dictOf eb nb), (u, instObj 1204 du), (du, dictOf eu nu), (t, instObj 587 dt), (dt, dictOf et nt), (la, listOf (items.push (.ref tp)) (cla + 1))] → Q .none { s with heap := h', toks := tk' }) :
    wpAny (model PySem.Challenge.rw_bj5003_01.row.prog w) (ktrTop dp un gd cn cs L ac ccd cl outer) (call (.ref 380) [.ref a, .ref t]) Q E s := by
  first
  | (
      revert X; k_fill; intro X
      refine wpAny_call ?_
      k_dflt k_enter
      k_steps
      rename (∀ (b : Addr) (o : Obj), Heap.get? s.heap b = some o → ¬ b ∈ _ → Heap.get? _ b = some o) => kp
      refine' hret _ _ _ ?ka ?kb ?kd ?kc
      case kc => tb_start
      case ka => k_asm
      case kb => exact fun c o e n => Fr.keep (by k_asm) c o (kp c o e n)
      case kd =>
        intro z oz e q
        subst q
        by_cases hz : z ∈ [a, da, b, db, u, du, t, dt, la]
        · simp only [List.mem_cons, List.not_mem_nil, or_false] at hz
          rcases hz with q | q | q | q | q | q | q | q | q <;> (replace q := eqN q; omega)
        · exact fresh_of (by k_asm) (by k_mem) (kp z oz e hz)
    )
theorem innReq {p : Program} {loose : List Str} {mean : ExcName → Option Value} {mg mb : Str → Option Value} {w : World} {dp un : Nat} {gd : Option (List Code)} {cn : Str} {cs : Scope} {ac : Addr} {ccd : Value} {cl : List (Str × Addr)} {outer : List Env}
    {A₀ : Around} {base h₀ : Heap} {L : Addr} {m : Str → Option Value} {s : Shared} {Q : Value → Shared → Prop} {E : Value → Shared → Prop}
    {a da u du t dt la : Addr} {ea eu et : List DictEntry} {na nu nt cla : Nat} {items : Array Value} {v : Addr}
    (B : Below A₀ base outer h₀) (F : Fr h₀ L s.heap m) (X : (KF w.params).In h₀) (T : Top p loose mean mg mb h₀) (hk : cs.kind = .function)
    (hdp : dp + 20 < recursionLimit) (hun : un + 200 < cLine)
    (N : News h₀ L s.heap [(a, instObj 340 da), (da, dictOf ea na), (u, instObj 1204 du), (du, dictOf eu nu), (t, instObj 587 dt), (dt, dictOf et nt), (la, listOf items cla)])
    (q0 : @Ne Nat la a) (q1 : @Ne Nat la da) (q2 : @Ne Nat la u) (q3 : @Ne Nat la du) (q4 : @Ne Nat la t) (q5 : @Ne Nat la dt)
    (f1 : getL "serviceElement" ea = some (some (.ref u))) (f5 : getL "indication" eu = some none) (f6 : getL "asked" eu = some (some (.ref la))) (f7 : getL "pduDestination" et = some (some (.ref v))) (hsz : items.size ≤ sizeLine) 
    (hret : ∀ tp h' tk', Fr h₀ L h' m → (∀ z oz, s.heap.get? z = some oz → z ∉ [a, da, u, du, t, dt, la] → h'.get? z = some oz) → (∀ z oz, s.heap.get? z = some oz → z ≠ tp) → News h₀ L h' [(tp, ({ cls := .type "tuple", data := .seq #[.ref v, .ref t] } : Obj)), (a, instObj 340 da), (da, dictOf ea na), (u, instObj 1204 du), (du, dictOf eu nu), (t, instObj 587 dt), (dt, dictOf et nt), (la, listOf (items.push (.ref tp)) (cla + 1))] → Q .none { s with heap := h', toks := tk' }) :
    wpAny (model PySem.Challenge.rw_bj5003_01.row.prog w) (ktrTop dp un gd cn cs L ac ccd cl outer) (call (.ref 316) [.ref a, .ref t]) Q E s := by
  first
  | (
      revert X; k_fill; intro X
      refine wpAny_call ?_
      k_dflt k_enter
      k_steps
      rename (∀ (b : Addr) (o : Obj), Heap.get? s.heap b = some o → ¬ b ∈ _ → Heap.get? _ b = some o) => kp
      refine' hret _ _ _ ?ka ?kb ?kd ?kc
      case kc => tb_start
      case ka => k_asm
      case kb => exact fun c o e n => Fr.keep (by k_asm) c o (kp c o e n)
      case kd =>
        intro z oz e q
        subst q
        by_cases hz : z ∈ [a, da, u, du, t, dt, la]
        · simp only [List.mem_cons, List.not_mem_nil, or_false] at hz
          rcases hz with q | q | q | q | q | q | q <;> (replace q := eqN q; omega)
        · exact fresh_of (by k_asm) (by k_mem) (kp z oz e hz)
    )
theorem innResp {p : Program} {loose : List Str} {mean : ExcName → Option Value} {mg mb : Str → Option Value} {w : World} {dp un : Nat} {gd : Option (List Code)} {cn : Str} {cs : Scope} {ac : Addr} {ccd : Value} {cl : List (Str × Addr)} {outer : List Env}
    {A₀ : Around} {base h₀ : Heap} {L : Addr} {m : Str → Option Value} {s : Shared} {Q : Value → Shared → Prop} {E : Value → Shared → Prop}
    {a da u du la : Addr} {ea eu : List DictEntry} {na nu cla : Nat} {items : Array Value} {t : Addr}
    (B : Below A₀ base outer h₀) (F : Fr h₀ L s.heap m) (X : (KF w.params).In h₀) (T : Top p loose mean mg mb h₀) (hk : cs.kind = .function)
    (hdp : dp + 20 < recursionLimit) (hun : un + 200 < cLine)
    (N : News h₀ L s.heap [(a, instObj 340 da), (da, dictOf ea na), (u, instObj 1204 du), (du, dictOf eu nu), (la, listOf items cla)])
    (q0 : @Ne Nat la a) (q1 : @Ne Nat la da) (q2 : @Ne Nat la u) (q3 : @Ne Nat la du)
    (f1 : getL "serviceElement" ea = some (some (.ref u))) (f5 : getL "confirmation" eu = some none) (f6 : getL "told" eu = some (some (.ref la))) (hsz : items.size ≤ sizeLine) 
    (hret : ∀ h' tk', Fr h₀ L h' m → (∀ z oz, s.heap.get? z = some oz → z ∉ [a, da, u, du, la] → h'.get? z = some oz) → News h₀ L h' [(a, instObj 340 da), (da, dictOf ea na), (u, instObj 1204 du), (du, dictOf eu nu), (la, listOf (items.push (.ref t)) (cla + 1))] → Q .none { s with heap := h', toks := tk' }) :
    wpAny (model PySem.Challenge.rw_bj5003_01.row.prog w) (ktrTop dp un gd cn cs L ac ccd cl outer) (call (.ref 330) [.ref a, .ref t]) Q E s := by
  first
  | (
      revert X; k_fill; intro X
      refine wpAny_call ?_
      k_dflt k_enter
      k_steps
      rename (∀ (b : Addr) (o : Obj), Heap.get? s.heap b = some o → ¬ b ∈ _ → Heap.get? _ b = some o) => kp
      refine' hret _ _ ?ka ?kb ?kc
      case kc => tb_start
      case ka => k_asm
      case kb => exact fun c o e n => Fr.keep (by k_asm) c o (kp c o e n)
    )
end
section

local macro_rules | `(tactic| walk_at "setAttr ref") => `(tactic| (k_here; k_dflt
  (refine' set_dict ?k1 ?k2 ?k3 ?k4 ?k5 ?k6 ?k7 ?k8 ?k9 ?k10 rfl ?k12 ?k13 ?_; (case k1 => k_asm); (case k2 => k_asm); (case k3 => k_asm); (case k4 => k_inst); (case k5 => exact rfl); (case k6 => k_is); (case k7 => k_is); (case k8 => k_is); (case k9 => k_is); (case k10 => first | exact getL_isSome (by assumption) | exact getL_isSome (noRef_put (by assumption)) | exact getL_isSome (noRef_put (noRef_put (by assumption)))); (case k12 => k_upd); (case k13 => first | exact Nat.le_trans (Mine.putL_len _ _ _ _ _) (by omega) | exact Nat.le_trans (Mine.putL_len _ _ _ _ _) (Nat.le_trans (Nat.succ_le_succ (Mine.putL_len _ _ _ _ _)) (by omega))); k_whole; intro h' F' N'; (try k_sweep))))
theorem bind3 {p : Program} {loose : List Str} {mean : ExcName → Option Value} {mg mb : Str → Option Value} {w : World} {dp un : Nat} {gd : Option (List Code)} {cn : Str} {cs : Scope} {ac : Addr} {ccd : Value} {cl : List (Str × Addr)} {outer : List Env}
    {A₀ : Around} {base h₀ : Heap} {L : Addr} {m : Str → Option Value} {s : Shared} {Q : Value → Shared → Prop} {E : Value → Shared → Prop}
    {a da b db c dc : Addr} {ea eb ec : List DictEntry} {na nb nc : Nat} 
    (B : Below A₀ base outer h₀) (F : Fr h₀ L s.heap m) (X : (KF w.params).In h₀) (T : Top p loose mean mg mb h₀) (hk : cs.kind = .function)
    (hdp : dp + 20 < recursionLimit) (hun : un + 200 < cLine)
    (N : News h₀ L s.heap [(a, instObj 1204 da), (da, dictOf ea na), (b, instObj 1204 db), (db, dictOf eb nb), (c, instObj 1204 dc), (dc, dictOf ec nc)])
    (q0 : @Ne Nat a da) (q1 : @Ne Nat a b) (q2 : @Ne Nat a db) (q3 : @Ne Nat da b) (q4 : @Ne Nat da db) (q5 : @Ne Nat b db) (q6 : @Ne Nat c dc) (q7 : @Ne Nat c a) (q8 : @Ne Nat c b) (q9 : @Ne Nat c da) (q10 : @Ne Nat c db) (q11 : @Ne Nat dc a) (q12 : @Ne Nat dc b) (q13 : @Ne Nat dc da) (q14 : @Ne Nat dc db)
    (ra : NoRef ea) (rb : NoRef eb) (hla : ea.length ≤ 900) (hlb : eb.length ≤ 900) (rc : NoRef ec) (hlc : ec.length ≤ 900) 
    (hret : ∀ t1 t2 t3 t4 h' tk', Fr h₀ L h' m → (∀ z oz, s.heap.get? z = some oz → z ∉ [a, da, b, db, c, dc] → h'.get? z = some oz) → News h₀ L h' [(a, instObj 1204 da), (da, dictOf (putL "clientPeer" (PyData.keyHash w.params "clientPeer") (.str "clientPeer" t1) (.ref b) ea) (putN "clientPeer" ea na)), (b, instObj 1204 db), (db, dictOf (putL "clientPeer" (PyData.keyHash w.params "clientPeer") (.str "clientPeer" t3) (.ref c) (putL "serverPeer" (PyData.keyHash w.params "serverPeer") (.str "serverPeer" t2) (.ref a) eb)) (putN "clientPeer" (putL "serverPeer" (PyData.keyHash w.params "serverPeer") (.str "serverPeer" t2) (.ref a) eb) (putN "serverPeer" eb nb))), (c, instObj 1204 dc), (dc, dictOf (putL "serverPeer" (PyData.keyHash w.params "serverPeer") (.str "serverPeer" t4) (.ref b) ec) (putN "serverPeer" ec nc))] → Q .none { s with heap := h', toks := tk' }) :
    wpAny (model PySem.Challenge.rw_bj5003_01.row.prog w) (ktrTop dp un gd cn cs L ac ccd cl outer) (call (.ref 401) [.ref a, .ref b, .ref c]) Q E s := by
  first
  | (
      revert X; k_fill; intro X
      refine wpAny_call ?_
      k_dflt k_enter
      k_steps
      rename (∀ (b : Addr) (o : Obj), Heap.get? s.heap b = some o → ¬ b ∈ _ → Heap.get? _ b = some o) => kp
      refine' hret _ _ _ _ _ _ ?ka ?kb ?kc
      case kc => tb_start
      case ka => k_asm
      case kb => exact fun c o e n => Fr.keep (by k_asm) c o (kp c o e n)
    )
theorem bind3b {p : Program} {loose : List Str} {mean : ExcName → Option Value} {mg mb : Str → Option Value} {w : World} {dp un : Nat} {gd : Option (List Code)} {cn : Str} {cs : Scope} {ac : Addr} {ccd : Value} {cl : List (Str × Addr)} {outer : List Env}
    {A₀ : Around} {base h₀ : Heap} {L : Addr} {m : Str → Option Value} {s : Shared} {Q : Value → Shared → Prop} {E : Value → Shared → Prop}
    {a da b db : Addr} {ea eb : List DictEntry} {na nb : Nat} 
    (B : Below A₀ base outer h₀) (F : Fr h₀ L s.heap m) (X : (KF w.params).In h₀) (T : Top p loose mean mg mb h₀) (hk : cs.kind = .function)
    (hdp : dp + 20 < recursionLimit) (hun : un + 200 < cLine)
    (N : News h₀ L s.heap [(a, instObj 1204 da), (da, dictOf ea na), (b, instObj 1204 db), (db, dictOf eb nb)])
    (q0 : @Ne Nat a da) (q1 : @Ne Nat a b) (q2 : @Ne Nat a db) (q3 : @Ne Nat da b) (q4 : @Ne Nat da db) (q5 : @Ne Nat b db)
    (ra : NoRef ea) (rb : NoRef eb) (hla : ea.length ≤ 900) (hlb : eb.length ≤ 900) 
    (hret : ∀ t1 t2 t3 t4 h' tk', Fr h₀ L h' m → (∀ z oz, s.heap.get? z = some oz → z ∉ [a, da, b, db] → h'.get? z = some oz) → News h₀ L h' [(a, instObj 1204 da), (da, dictOf (putL "serverPeer" (PyData.keyHash w.params "serverPeer") (.str "serverPeer" t4) (.ref b) (putL "clientPeer" (PyData.keyHash w.params "clientPeer") (.str "clientPeer" t1) (.ref b) ea)) (putN "serverPeer" (putL "clientPeer" (PyData.keyHash w.params "clientPeer") (.str "clientPeer" t1) (.ref b) ea) (putN "clientPeer" ea na))), (b, instObj 1204 db), (db, dictOf (putL "clientPeer" (PyData.keyHash w.params "clientPeer") (.str "clientPeer" t3) (.ref a) (putL "serverPeer" (PyData.keyHash w.params "serverPeer") (.str "serverPeer" t2) (.ref a) eb)) (putN "clientPeer" (putL "serverPeer" (PyData.keyHash w.params "serverPeer") (.str "serverPeer" t2) (.ref a) eb) (putN "serverPeer" eb nb)))] → Q .none { s with heap := h', toks := tk' }) :
    wpAny (model PySem.Challenge.rw_bj5003_01.row.prog w) (ktrTop dp un gd cn cs L ac ccd cl outer) (call (.ref 401) [.ref a, .ref b, .ref a]) Q E s := by
  first
  | (
      revert X; k_fill; intro X
      refine wpAny_call ?_
      k_dflt k_enter
      k_steps
      rename (∀ (b : Addr) (o : Obj), Heap.get? s.heap b = some o → ¬ b ∈ _ → Heap.get? _ b = some o) => kp
      refine' hret _ _ _ _ _ _ ?ka ?kb ?kc
      case kc => tb_start
      case ka => k_asm
      case kb => exact fun c o e n => Fr.keep (by k_asm) c o (kp c o e n)
    )
end
end Mine
end
section
open PySem PySem.W PyProof.Rows PySem.Calls
set_option Elab.async false
set_option maxRecDepth 100000
set_option maxHeartbeats 4000000
namespace Mine
section
variable {prog : Program} {w : World} {A : Around} {E : Value → Shared → Prop} {s : Shared} {h₀ : Heap} {L D : Addr} {m : Str → Option Value} {news news' : List (Addr × Obj)} {its : Array Value} {c k : Nat} {t u : Tok} {v : Value}
theorem nat_fit (h : k < 2 ^ 62) : (k : Int) < 2 ^ 63 := by omega
theorem nat_get {Q : Value → Shared → Prop} (N : News h₀ L s.heap news) (hm : (D, listOf its c) ∈ news) (hx : its[k]? = some v) (hf : k < 2 ^ 62) (h : Q v s) : wpAny (model prog w) A (getItem (.ref D) (.int (k : Int) u)) Q E s :=
  wpAny_getItem_list (PySem.IsL.isList (n := c) (N _ hm).1) (Int.natCast_nonneg k) (nat_fit hf) (by simpa using hx) h
theorem nat_sub {value slice : PySem.Expr} {Q : Value → Shared → Prop} (N : News h₀ L s.heap news) (hm : (D, listOf its c) ∈ news) (hx : its[k]? = some v) (hf : k < 2 ^ 62) (h : Q v s)
    (hs : subscripted slice false (.ref D) (.int (k : Int) u) = operate [.ref D, .int (k : Int) u] (getItem (.ref D) (.int (k : Int) u)) := by with_unfolding_all rfl) :
    wpAny (model prog w) A (subscriptTail value slice (.ref D) (.int (k : Int) u)) Q E s :=
  tail_any (PySem.IsL.isList (n := c) (N _ hm).1).typeIs slot_list_getitem.lookup (nat_get N hm hx hf h) hs
theorem nat_set {Q : Unit → Shared → Prop} (F : Fr h₀ L s.heap m) (N : News h₀ L s.heap news) (U : Upd D (listOf its c) (listOf (its.setIfInBounds k v) c) news news') (hn : k < its.size) (hf : k < 2 ^ 62)
    (h : ∀ h', Fr h₀ L h' m → News h₀ L h' news' → Q () { s with heap := h' }) : wpAny (model prog w) A (setItem (.ref D) (.int (k : Int) t) v) Q E s := by
  obtain ⟨pre, post, rfl, rfl, a, b⟩ := U.split
  have z := N (D, listOf its c) (List.mem_append.mpr (.inr (.head _)))
  refine ki_setAt z.1 (Int.natCast_nonneg k) (nat_fit hf) (by omega) (h _ (F.change (Heap.SameBut.update ..) z.2.1 z.2.2) (ki_turn _ N a b ?_ ?_))
  · simp
  · simp
end
/-- the ledger's opaque end lies elsewhere -/
def Off (tail : List (Addr × Obj)) (d : Addr) : Prop := ∀ p ∈ tail, p.1 ≠ d
/-- all that is new in h -/
def allNews (h₀ : Heap) (L : Addr) (h : Heap) : List (Addr × Obj) :=
  (List.range h.objs.size).filterMap fun b => if b = L then none else match h₀.get? b with | some _ => none | none => (h.get? b).map fun o => (b, o)
theorem mem_allNews {h₀ h : Heap} {L : Addr} {p : Addr × Obj} : p ∈ allNews h₀ L h ↔ h.get? p.1 = some p.2 ∧ p.1 ≠ L ∧ h₀.get? p.1 = none := by
  obtain ⟨b, o⟩ := p
  unfold allNews
  rw [List.mem_filterMap]
  constructor
  · rintro ⟨a, ha, e⟩
    split at e
    · cases e
    · rename_i hL
      split at e
      · cases e
      · rename_i hn
        cases q : h.get? a with
        | none => rw [q] at e; cases e
        | some o' =>
          rw [q] at e
          cases e
          exact ⟨q, hL, hn⟩
  · rintro ⟨e, hL, hn⟩
    refine ⟨b, List.mem_range.mpr (Heap.lt_size e), ?_⟩
    dsimp only at e hL hn ⊢
    rw [if_neg hL, hn, e]
    rfl
/-- all that is new in h, but for some -/
def restOf (h₀ : Heap) (L : Addr) (h : Heap) (as : List Addr) : List (Addr × Obj) := (allNews h₀ L h).filter fun p => !as.contains p.1
theorem mem_restOf {h₀ h : Heap} {L : Addr} {as : List Addr} {p : Addr × Obj} : p ∈ restOf h₀ L h as ↔ (h.get? p.1 = some p.2 ∧ p.1 ≠ L ∧ h₀.get? p.1 = none) ∧ p.1 ∉ as := by
  unfold restOf
  rw [List.mem_filter, mem_allNews]
  simp
theorem off_restOf {h₀ h : Heap} {L : Addr} {as : List Addr} {d : Addr} (hd : d ∈ as) : Off (restOf h₀ L h as) d := fun p hp e => (mem_restOf.mp hp).2 (e ▸ hd)
theorem news_restOf {h₀ h : Heap} {L : Addr} {as : List Addr} {ex : List (Addr × Obj)} (N : News h₀ L h ex) : News h₀ L h (ex ++ restOf h₀ L h as) := fun p hp => by
  rcases List.mem_append.mp hp with hp | hp
  · exact N p hp
  · exact (mem_restOf.mp hp).1
/-- what the opaque end keeps -/
theorem kept_restOf {h₀ h h' : Heap} {L : Addr} {m : Str → Option Value} {as : List Addr} {ex : List (Addr × Obj)} (F : Fr h₀ L h m) (F' : Fr h₀ L h' m') (N' : News h₀ L h' (ex ++ restOf h₀ L h as)) :
    ∀ b o, h.get? b = some o → b ≠ L → b ∉ as → h'.get? b = some o := fun b o e hL hb => by
  cases q : h₀.get? b with
  | some o₀ =>
    have := F.keep b o₀ q
    rw [e] at this
    cases this
    exact F'.keep b o q
  | none => exact (N' (b, o) (List.mem_append_right _ (mem_restOf.mpr ⟨⟨e, hL, q⟩, hb⟩))).1
end Mine
end
section
open PySem PySem.W PyProof.Rows PySem.Calls
set_option Elab.async false
set_option maxRecDepth 100000
set_option maxHeartbeats 4000000
namespace Mine
def lawBody? (P : Params) : Option (List Stmt) := match (x1232 P).1.data with | .func fd => (match fd.body with | .stmts b => some b | _ => none) | _ => none
def lawScope? (P : Params) : Option Scope := match (x1232 P).1.data with | .func fd => some fd.scope | _ => none
def lawStmt? (P : Params) (k : Nat) : Option Stmt := match lawBody? P with | some b => b[k]? | none => none
def loopStmt? (P : Params) (k : Nat) : Option Stmt := match lawStmt? P 15 with | some (.For _ _ body _ _) => body[k]? | _ => none
/-- names that are bound -/
def Has (m : Str → Option Value) (l : List (Str × Value)) : Prop := ∀ p ∈ l, m p.1 = some p.2
def wr : List (Str × Value) → (Str → Option Value) → Str → Option Value
  | [], m => m
  | p :: r, m => fun y => if y = p.1 then some p.2 else wr r m y
theorem wr_eq {m : Str → Option Value} : ∀ {l : List (Str × Value)}, Has m l → wr l m = m
  | [], _ => rfl
  | p :: r, h => by
    funext y
    show (if y = p.1 then some p.2 else wr r m y) = m y
    rw [wr_eq fun q hq => h q (.tail _ hq)]
    by_cases e : y = p.1
    · rw [if_pos e, e, h p (.head _)]
    · rw [if_neg e]
theorem fr_names {h₀ h : Heap} {L : Addr} {m : Str → Option Value} {l : List (Str × Value)} (F : Fr h₀ L h m) (e : Has m l) : Fr h₀ L h (wr l m) := by rw [wr_eq e]; exact F
local macro_rules | `(tactic| k_room) => `(tactic| ktr_room)
local macro_rules | `(tactic| walk_at "subscriptTail") => `(tactic| (k_here; (with_reducible show wpAny _ _ (subscriptTail _ _ (Value.ref _) (Value.int _ _)) _ _ _); k_dflt (refine' nat_sub ?k1 ?k2 ?k3 ?k4 ?_ ?k5; (case k5 => with_unfolding_all rfl); (case k1 => k_asm); (case k2 => k_mem); (case k3 => assumption); (case k4 => omega); k_whole)))
theorem s5 {p : Program} {loose : List Str} {mean : ExcName → Option Value} {mg mb : Str → Option Value} {w : World} {st : Stmt} {cs : Scope} {nm : Str} {fa : Addr} {cd : Value}
    {h₀ : Heap} {L : Addr} {m : Str → Option Value} {s : Shared} {tail : List (Addr × Obj)} {Q : Flow → Shared → Prop} {E : Value → Shared → Prop} {la X : Addr} {I c : Nat} {its : Array Value} {ti : Tok}
    (hst : loopStmt? w.params 4 = some st) (hcs : lawScope? w.params = some cs)
    (B : Below callerA h₀ [] h₀) (F : Fr h₀ L s.heap m) (K : (KF w.params).In h₀) (T : Top p loose mean mg mb h₀)
    (hm : Has m [("layers", .ref la), ("i", .int (I : Int) ti)]) (hI : I < 4) (hx : its[I]? = some (.ref X))
    (N : News h₀ L s.heap ((la, listOf its c) :: tail))
    (hq : ∀ h' tk', Fr h₀ L h' (wr [("one", .ref X), ("layers", .ref la), ("i", .int (I : Int) ti)] m) → News h₀ L h' ((la, listOf its c) :: tail) → Q .next { s with heap := h', toks := tk' }) :
    wpAny (model PySem.Challenge.rw_bj5003_01.row.prog w) (callerA.deeper (envOf nm cs L fa cd)) (exec st (envOf nm cs L fa cd)) Q E s := by
  first
  | (
      injection hst with hst
      subst hst
      injection hcs with hcs
      subst hcs
      dsimp only
      replace F := fr_names F hm
      dsimp only [wr] at F
      revert K; k_fill; intro K
      w_on
      k_steps
      exact hq _ _ (by k_asm) (by k_asm)
    )
end Mine
end
section
open PySem PySem.W PyProof.Rows PySem.Calls
set_option Elab.async false
set_option maxRecDepth 100000
set_option maxHeartbeats 4000000
namespace Mine
section
variable {h₀ h h' : Heap} {L d1 d2 : Addr} {news : List (Addr × Obj)} {o1 o2 o1' o2' : Obj} {as : List Addr}
theorem after0 (N : News h₀ L h news) (kept : ∀ c o, h.get? c = some o → c ∉ as → h'.get? c = some o) (same : ∀ c ∈ as, ∀ o, h.get? c = some o → h'.get? c = some o) : News h₀ L h' news := fun p hp => by
  refine ⟨?_, (N p hp).2⟩
  by_cases q : p.1 ∈ as
  · exact same _ q _ (N p hp).1
  · exact kept _ _ (N p hp).1 q
theorem after1 {g1 : Obj → List (Addr × Obj)} (N : News h₀ L h news) (U1 : UpdF d1 o1 news g1) (kept : ∀ c o, h.get? c = some o → c ∉ as → h'.get? c = some o)
    (same : ∀ c ∈ as, c ≠ d1 → ∀ o, h.get? c = some o → h'.get? c = some o) (n1 : h'.get? d1 = some o1') : News h₀ L h' (g1 o1') := by
  obtain ⟨pre, post, e, eg, a, b⟩ := U1.split
  have D := N (d1, o1) (by rw [e]; simp)
  have go : ∀ p ∈ news, p.1 ≠ d1 → h'.get? p.1 = some p.2 ∧ p.1 ≠ L ∧ h₀.get? p.1 = none := fun p hp hd => by
    refine ⟨?_, (N p hp).2⟩
    by_cases q : p.1 ∈ as
    · exact same _ q hd _ (N p hp).1
    · exact kept _ _ (N p hp).1 q
  intro p hp
  rw [eg] at hp
  rcases List.mem_append.mp hp with hp | hp
  · exact go p (by rw [e]; exact List.mem_append_left _ hp) (a p hp)
  · rcases List.mem_cons.mp hp with rfl | hp
    · exact ⟨n1, D.2⟩
    · exact go p (by rw [e]; exact List.mem_append_right _ (.tail _ hp)) (b p hp)
theorem after2 {g1 : Obj → List (Addr × Obj)} {g2 : Obj → Obj → List (Addr × Obj)} (N : News h₀ L h news) (U1 : UpdF d1 o1 news g1) (U2 : ∀ o, UpdF d2 o2 (g1 o) (g2 o)) (kept : ∀ c o, h.get? c = some o → c ∉ as → h'.get? c = some o)
    (same : ∀ c ∈ as, c ≠ d1 → c ≠ d2 → ∀ o, h.get? c = some o → h'.get? c = some o) (n1 : h'.get? d1 = some o1') (n2 : h'.get? d2 = some o2') : News h₀ L h' (g2 o1' o2') := by
  obtain ⟨pre, post, e, eg, a, b⟩ := U1.split
  obtain ⟨pre2, post2, e2, eg2, a2, b2⟩ := (U2 o1').split
  obtain ⟨pre3, post3, e3, eg3, a3, b3⟩ := (U2 o1).split
  have D := N (d1, o1) (by rw [e]; simp)
  have D2 : d2 ≠ L ∧ h₀.get? d2 = none := by
    have : (d2, o2) ∈ g1 o1 := by rw [e3]; simp
    rw [eg, ← e] at this
    exact (N _ this).2
  have go : ∀ p ∈ news, p.1 ≠ d1 → p.1 ≠ d2 → h'.get? p.1 = some p.2 ∧ p.1 ≠ L ∧ h₀.get? p.1 = none := fun p hp hd hd2 => by
    refine ⟨?_, (N p hp).2⟩
    by_cases q : p.1 ∈ as
    · exact same _ q hd hd2 _ (N p hp).1
    · exact kept _ _ (N p hp).1 q
  have go1 : ∀ p ∈ g1 o1', p.1 ≠ d2 → h'.get? p.1 = some p.2 ∧ p.1 ≠ L ∧ h₀.get? p.1 = none := fun p hp hd2 => by
    rw [eg] at hp
    rcases List.mem_append.mp hp with hp | hp
    · exact go p (by rw [e]; exact List.mem_append_left _ hp) (a p hp) hd2
    · rcases List.mem_cons.mp hp with rfl | hp
      · exact ⟨n1, D.2⟩
      · exact go p (by rw [e]; exact List.mem_append_right _ (.tail _ hp)) (b p hp) hd2
  intro p hp
  rw [eg2] at hp
  rcases List.mem_append.mp hp with hp | hp
  · exact go1 p (by rw [e2]; exact List.mem_append_left _ hp) (a2 p hp)
  · rcases List.mem_cons.mp hp with rfl | hp
    · exact ⟨n2, D2⟩
    · exact go1 p (by rw [e2]; exact List.mem_append_right _ (.tail _ hp)) (b2 p hp)
end
section
variable {p : Program} {loose : List Str} {mean : ExcName → Option Value} {mg mb : Str → Option Value} {w : World} {cs : Scope} {nm : Str} {fa : Addr} {cd : Value}
    {h₀ : Heap} {L : Addr} {m : Str → Option Value} {s : Shared} {news : List (Addr × Obj)} {Q : Value → Shared → Prop} {E : Value → Shared → Prop}
theorem room1 : callerA.depth + 1 + 100 < recursionLimit := by decide +kernel
theorem room2 : callerA.units + 3 + 300 < cLine := by decide +kernel
theorem bind2U {a da b db : Addr} {ea eb : List DictEntry} {na nb : Nat} {g1 : Obj → List (Addr × Obj)} {g2 : Obj → Obj → List (Addr × Obj)}
    (B : Below callerA h₀ [] h₀) (F : Fr h₀ L s.heap m) (X : (KF w.params).In h₀) (T : Top p loose mean mg mb h₀) (hk : cs.kind = .function)
    (N : News h₀ L s.heap news) (ma : (a, instObj 1204 da) ∈ news) (mb : (b, instObj 1204 db) ∈ news) (U1 : UpdF da (dictOf ea na) news g1) (U2 : ∀ o, UpdF db (dictOf eb nb) (g1 o) (g2 o))
    (n2 : @Ne Nat a b) (n5 : @Ne Nat da db)
    (hga : (getL "clientPeer" ea).isSome = true) (hgb : (getL "serverPeer" eb).isSome = true) (hla : ea.length ≤ 900) (hlb : eb.length ≤ 900)
    (hret : ∀ t t' h' tk', Fr h₀ L h' m → News h₀ L h' (g2 (dictOf (putL "clientPeer" (PyData.keyHash w.params "clientPeer") (.str "clientPeer" t) (.ref b) ea) (putN "clientPeer" ea na)) (dictOf (putL "serverPeer" (PyData.keyHash w.params "serverPeer") (.str "serverPeer" t') (.ref a) eb) (putN "serverPeer" eb nb))) →
      Q .none { s with heap := h', toks := tk' }) :
    wpAny (model PySem.Challenge.rw_bj5003_01.row.prog w) (callerA.deeper (envOf nm cs L fa cd)) (call (.ref 401) [.ref a, .ref b]) Q E s := by
  obtain ⟨pre, post, e, eg, a1, b1⟩ := U1.split
  obtain ⟨pre3, post3, e3, eg3, a3, b3⟩ := (U2 (dictOf ea na)).split
  have mda : (da, dictOf ea na) ∈ news := by rw [e]; simp
  have mdb : (db, dictOf eb nb) ∈ news := by
    have : (db, dictOf eb nb) ∈ g1 (dictOf ea na) := by rw [e3]; simp
    rwa [eg, ← e] at this
  have ne : ∀ {x y : Addr} {ox oy : Obj}, (x, ox) ∈ news → (y, oy) ∈ news → ox ≠ oy → x ≠ y := fun hx hy hn q => by
    subst q
    exact hn (Option.some.inj ((N _ hx).1.symm.trans (N _ hy).1))
  have N4 : News h₀ L s.heap [(a, instObj 1204 da), (da, dictOf ea na), (b, instObj 1204 db), (db, dictOf eb nb)] :=
    List.forall_mem_cons.mpr ⟨N _ ma, List.forall_mem_cons.mpr ⟨N _ mda, List.forall_mem_cons.mpr ⟨N _ mb, List.forall_mem_cons.mpr ⟨N _ mdb, List.forall_mem_nil _⟩⟩⟩⟩
  refine bind2 (A₀ := callerA) (base := h₀) (outer := []) B F X T hk (Nat.lt_of_le_of_lt (by omega) room1) (Nat.lt_of_le_of_lt (by omega) room2) N4 (ne ma mda (by intro q; cases q)) n2 (ne ma mdb (by intro q; cases q)) (ne mda mb (by intro q; cases q)) n5 (ne mb mdb (by intro q; cases q)) hga hgb hla hlb
    fun t t' h' tk' F' kept N' => hret t t' h' tk' F' ?_
  refine after2 N U1 U2 kept (fun c hc h1 h2 o ho => ?_) (N' _ (.tail _ (.head _))).1 (N' _ (.tail _ (.tail _ (.tail _ (.head _))))).1
  simp only [List.mem_cons, List.not_mem_nil, or_false] at hc
  rcases hc with rfl | rfl | rfl | rfl
  · rw [(N _ ma).1] at ho; cases ho; exact (N' _ (.head _)).1
  · exact absurd rfl h1
  · rw [(N _ mb).1] at ho; cases ho; exact (N' _ (.tail _ (.tail _ (.head _)))).1
  · exact absurd rfl h2
end
end Mine
end
section
open PySem PySem.W PyProof.Rows PySem.Calls
set_option Elab.async false
set_option maxRecDepth 100000
set_option maxHeartbeats 4000000
namespace Mine
/-- apart (kept out of omega's sight) -/
def Dis (a b : Nat) : Prop := a ≠ b
theorem Dis.ne {a b : Nat} (h : Dis a b) : a ≠ b := h
theorem Dis.en {a b : Nat} (h : Dis a b) : b ≠ a := fun q => h q.symm
theorem list_ne_dict {a : Array Value} {b d : Nat} {c : List DictEntry} : listOf a b ≠ dictOf c d := fun q => by
  have h : (Value.type "list") = Value.type "dict" := congrArg Obj.cls q
  injection h with h
  exact absurd h (by decide)
theorem UpdF.mem {d : Addr} {o : Obj} {l : List (Addr × Obj)} {g : Obj → List (Addr × Obj)} (U : UpdF d o l g) : (d, o) ∈ l := by
  obtain ⟨pre, post, e, _, _, _⟩ := U.split
  rw [e]; simp
theorem newsNe {h₀ h : Heap} {L : Addr} {news : List (Addr × Obj)} (N : News h₀ L h news) {x y : Addr} {ox oy : Obj} (hx : (x, ox) ∈ news) (hy : (y, oy) ∈ news) (hn : ox ≠ oy) : @Ne Nat x y := fun q => by
  have q : x = y := q
  subst q
  exact hn (Option.some.inj ((N _ hx).1.symm.trans (N _ hy).1))
/-- three updates -/
theorem after3 {h₀ h h' : Heap} {L d1 d2 d3 : Addr} {news : List (Addr × Obj)} {o1 o2 o3 o1' o2' o3' : Obj} {as : List Addr} {g1 : Obj → List (Addr × Obj)} {g2 : Obj → Obj → List (Addr × Obj)} {g3 : Obj → Obj → Obj → List (Addr × Obj)}
    (N : News h₀ L h news) (U1 : UpdF d1 o1 news g1) (U2 : ∀ o, UpdF d2 o2 (g1 o) (g2 o)) (U3 : ∀ o o', UpdF d3 o3 (g2 o o') (g3 o o'))
    (new3 : d3 ≠ L ∧ h₀.get? d3 = none) (kept : ∀ c o, h.get? c = some o → c ∉ as → h'.get? c = some o)
    (same : ∀ c ∈ as, c ≠ d1 → c ≠ d2 → c ≠ d3 → ∀ o, h.get? c = some o → h'.get? c = some o) (n1 : h'.get? d1 = some o1') (n2 : h'.get? d2 = some o2') (n3 : h'.get? d3 = some o3') : News h₀ L h' (g3 o1' o2' o3') := by
  obtain ⟨pre, post, e, eg, a, b⟩ := (U3 o1' o2').split
  obtain ⟨pre2, post2, e2, eg2, a2, b2⟩ := (U2 o1').split
  obtain ⟨pre1, post1, e1, eg1, a1, b1⟩ := U1.split
  obtain ⟨pre4, post4, e4, eg4, a4, b4⟩ := (U2 o1).split
  have D := N (d1, o1) (by rw [e1]; simp)
  have D2 : d2 ≠ L ∧ h₀.get? d2 = none := by
    have : (d2, o2) ∈ g1 o1 := by rw [e4]; simp
    rw [eg1, ← e1] at this
    exact (N _ this).2
  have go : ∀ p ∈ news, p.1 ≠ d1 → p.1 ≠ d2 → p.1 ≠ d3 → h'.get? p.1 = some p.2 ∧ p.1 ≠ L ∧ h₀.get? p.1 = none := fun p hp hd hd2 hd3 => by
    refine ⟨?_, (N p hp).2⟩
    by_cases q : p.1 ∈ as
    · exact same _ q hd hd2 hd3 _ (N p hp).1
    · exact kept _ _ (N p hp).1 q
  have go1 : ∀ p ∈ g1 o1', p.1 ≠ d2 → p.1 ≠ d3 → h'.get? p.1 = some p.2 ∧ p.1 ≠ L ∧ h₀.get? p.1 = none := fun p hp hd2 hd3 => by
    rw [eg1] at hp
    rcases List.mem_append.mp hp with hp | hp
    · exact go p (by rw [e1]; exact List.mem_append_left _ hp) (a1 p hp) hd2 hd3
    · rcases List.mem_cons.mp hp with rfl | hp
      · exact ⟨n1, D.2⟩
      · exact go p (by rw [e1]; exact List.mem_append_right _ (.tail _ hp)) (b1 p hp) hd2 hd3
  have go2 : ∀ p ∈ g2 o1' o2', p.1 ≠ d3 → h'.get? p.1 = some p.2 ∧ p.1 ≠ L ∧ h₀.get? p.1 = none := fun p hp hd3 => by
    rw [eg2] at hp
    rcases List.mem_append.mp hp with hp | hp
    · exact go1 p (by rw [e2]; exact List.mem_append_left _ hp) (a2 p hp) hd3
    · rcases List.mem_cons.mp hp with rfl | hp
      · exact ⟨n2, D2⟩
      · exact go1 p (by rw [e2]; exact List.mem_append_right _ (.tail _ hp)) (b2 p hp) hd3
  intro p hp
  rw [eg] at hp
  rcases List.mem_append.mp hp with hp | hp
  · exact go2 p (by rw [e]; exact List.mem_append_left _ hp) (a p hp)
  · rcases List.mem_cons.mp hp with rfl | hp
    · exact ⟨n3, new3⟩
    · exact go2 p (by rw [e]; exact List.mem_append_right _ (.tail _ hp)) (b p hp)
section
variable {p : Program} {loose : List Str} {mean : ExcName → Option Value} {mg mb : Str → Option Value} {w : World} {cs : Scope} {nm : Str} {fa : Addr} {cd : Value}
    {h₀ : Heap} {L : Addr} {m : Str → Option Value} {s : Shared} {news : List (Addr × Obj)} {Q : Value → Shared → Prop} {E : Value → Shared → Prop}
def AllNe (d : Addr) : List (Addr × Obj) → Prop
  | [] => True
  | p :: r => Dis p.1 d ∧ AllNe d r
theorem allNe_of {d : Addr} : ∀ {l : List (Addr × Obj)}, (∀ p ∈ l, p.1 ≠ d) → AllNe d l
  | [], _ => trivial
  | p :: _, h => ⟨h p (.head _), allNe_of fun q hq => h q (.tail _ hq)⟩
theorem req2U {a da b db la t dt v : Addr} {ea eb et : List DictEntry} {na nb nt c : Nat} {items : Array Value} {g1 : Obj → List (Addr × Obj)}
    (B : Below callerA h₀ [] h₀) (F : Fr h₀ L s.heap m) (X : (KF w.params).In h₀) (T : Top p loose mean mg mb h₀) (hk : cs.kind = .function)
    (N : News h₀ L s.heap news) (ma : (a, instObj 1204 da) ∈ news) (mda : (da, dictOf ea na) ∈ news) (mb : (b, instObj 1204 db) ∈ news) (mdb : (db, dictOf eb nb) ∈ news) (mt : (t, instObj 587 dt) ∈ news) (mdt : (dt, dictOf et nt) ∈ news)
    (U1 : UpdF la (listOf items c) news g1)
    (hpeer : getL "clientPeer" ea = some (some (.ref b))) (hmeth : getL "indication" eb = some none) (hlst : getL "asked" eb = some (some (.ref la))) (hdest : getL "pduDestination" et = some (some (.ref v))) (hsz : items.size ≤ sizeLine)
    (hret : ∀ tp h' tk', (∀ p ∈ news, p.1 ≠ tp) → Fr h₀ L h' m → News h₀ L h' ((tp, ({ cls := .type "tuple", data := .seq #[.ref v, .ref t] } : Obj)) :: g1 (listOf (items.push (.ref tp)) (c + 1))) → Q .none { s with heap := h', toks := tk' }) :
    wpAny (model PySem.Challenge.rw_bj5003_01.row.prog w) (callerA.deeper (envOf nm cs L fa cd)) (call (.ref 244) [.ref a, .ref t]) Q E s := by
  have ml := UpdF.mem U1
  have N4 : News h₀ L s.heap [(a, instObj 1204 da), (da, dictOf ea na), (b, instObj 1204 db), (db, dictOf eb nb), (t, instObj 587 dt), (dt, dictOf et nt), (la, listOf items c)] :=
    List.forall_mem_cons.mpr ⟨N _ ma, List.forall_mem_cons.mpr ⟨N _ mda, List.forall_mem_cons.mpr ⟨N _ mb, List.forall_mem_cons.mpr ⟨N _ mdb, List.forall_mem_cons.mpr ⟨N _ mt, List.forall_mem_cons.mpr ⟨N _ mdt, List.forall_mem_cons.mpr ⟨N _ ml, List.forall_mem_nil _⟩⟩⟩⟩⟩⟩⟩
  refine req2 (A₀ := callerA) (base := h₀) (outer := []) B F X T hk (Nat.lt_of_le_of_lt (by omega) room1) (Nat.lt_of_le_of_lt (by omega) room2) N4
    (newsNe N ml ma (by intro q; cases q)) (newsNe N ml mda list_ne_dict) (newsNe N ml mb (by intro q; cases q)) (newsNe N ml mdb list_ne_dict) (newsNe N ml mt (by intro q; cases q)) (newsNe N ml mdt list_ne_dict) hpeer hmeth hlst hdest hsz
    fun tp h' tk' F' kept fr N' => hret tp h' tk' (fun p hp => fr _ _ (N p hp).1) F' ?_
  refine List.forall_mem_cons.mpr ⟨N' _ (.head _), after1 N U1 kept (fun c hc h1 o ho => ?_) (N' _ (.tail _ (.tail _ (.tail _ (.tail _ (.tail _ (.tail _ (.tail _ (.head _))))))))).1⟩
  simp only [List.mem_cons, List.not_mem_nil, or_false] at hc
  rcases hc with rfl | rfl | rfl | rfl | rfl | rfl | rfl
  · rw [(N _ ma).1] at ho; cases ho; exact (N' _ (.tail _ (.head _))).1
  · rw [(N _ mda).1] at ho; cases ho; exact (N' _ (.tail _ (.tail _ (.head _)))).1
  · rw [(N _ mb).1] at ho; cases ho; exact (N' _ (.tail _ (.tail _ (.tail _ (.head _))))).1
  · rw [(N _ mdb).1] at ho; cases ho; exact (N' _ (.tail _ (.tail _ (.tail _ (.tail _ (.head _)))))).1
  · rw [(N _ mt).1] at ho; cases ho; exact (N' _ (.tail _ (.tail _ (.tail _ (.tail _ (.tail _ (.head _))))))).1
  · rw [(N _ mdt).1] at ho; cases ho; exact (N' _ (.tail _ (.tail _ (.tail _ (.tail _ (.tail _ (.tail _ (.head _)))))))).1
  · exact absurd rfl h1
theorem resp2U {a da b db la t : Addr} {ea eb : List DictEntry} {na nb c : Nat} {items : Array Value} {g1 : Obj → List (Addr × Obj)}
    (B : Below callerA h₀ [] h₀) (F : Fr h₀ L s.heap m) (X : (KF w.params).In h₀) (T : Top p loose mean mg mb h₀) (hk : cs.kind = .function)
    (N : News h₀ L s.heap news) (ma : (a, instObj 1204 da) ∈ news) (mda : (da, dictOf ea na) ∈ news) (mb : (b, instObj 1204 db) ∈ news) (mdb : (db, dictOf eb nb) ∈ news)
    (U1 : UpdF la (listOf items c) news g1)
    (hpeer : getL "serverPeer" ea = some (some (.ref b))) (hmeth : getL "confirmation" eb = some none) (hlst : getL "told" eb = some (some (.ref la))) (hsz : items.size ≤ sizeLine)
    (hret : ∀ h' tk', Fr h₀ L h' m → News h₀ L h' (g1 (listOf (items.push (.ref t)) (c + 1))) → Q .none { s with heap := h', toks := tk' }) :
    wpAny (model PySem.Challenge.rw_bj5003_01.row.prog w) (callerA.deeper (envOf nm cs L fa cd)) (call (.ref 287) [.ref a, .ref t]) Q E s := by
  have ml := UpdF.mem U1
  have N4 : News h₀ L s.heap [(a, instObj 1204 da), (da, dictOf ea na), (b, instObj 1204 db), (db, dictOf eb nb), (la, listOf items c)] :=
    List.forall_mem_cons.mpr ⟨N _ ma, List.forall_mem_cons.mpr ⟨N _ mda, List.forall_mem_cons.mpr ⟨N _ mb, List.forall_mem_cons.mpr ⟨N _ mdb, List.forall_mem_cons.mpr ⟨N _ ml, List.forall_mem_nil _⟩⟩⟩⟩⟩
  refine resp2 (A₀ := callerA) (base := h₀) (outer := []) B F X T hk (Nat.lt_of_le_of_lt (by omega) room1) (Nat.lt_of_le_of_lt (by omega) room2) N4
    (newsNe N ml ma (by intro q; cases q)) (newsNe N ml mda list_ne_dict) (newsNe N ml mb (by intro q; cases q)) (newsNe N ml mdb list_ne_dict) hpeer hmeth hlst hsz
    fun h' tk' F' kept N' => hret h' tk' F' ?_
  refine after1 N U1 kept (fun c hc h1 o ho => ?_) (N' _ (.tail _ (.tail _ (.tail _ (.tail _ (.head _)))))).1
  simp only [List.mem_cons, List.not_mem_nil, or_false] at hc
  rcases hc with rfl | rfl | rfl | rfl | rfl
  · rw [(N _ ma).1] at ho; cases ho; exact (N' _ (.head _)).1
  · rw [(N _ mda).1] at ho; cases ho; exact (N' _ (.tail _ (.head _))).1
  · rw [(N _ mb).1] at ho; cases ho; exact (N' _ (.tail _ (.tail _ (.head _)))).1
  · rw [(N _ mdb).1] at ho; cases ho; exact (N' _ (.tail _ (.tail _ (.tail _ (.head _))))).1
  · exact absurd rfl h1
end
end Mine
end
section
open PySem PySem.W PyProof.Rows PySem.Calls
set_option Elab.async false
set_option maxRecDepth 100000
set_option maxHeartbeats 4000000
namespace Mine
theorem allLt_ne {d : Addr} (l : List (Addr × Obj)) (h : AllLt d l) (q : Addr × Obj) (hq : q ∈ l) : q.1 ≠ d := by
  induction l with
  | nil => cases hq
  | cons p r ih =>
    have h' : @LT.lt Nat _ p.1 d ∧ AllLt d r := h
    cases hq with
    | head => exact Nat.ne_of_lt h'.1
    | tail _ hq => exact ih h'.2 hq
theorem unrEnd_tail {h₀ : Heap} {L I : Addr} {it : Obj} {rest : (Str → Option Value) → List (Addr × Obj) → Prop} {s₁ : Shared} {h' : Heap} {tk : Nat} {m' : Str → Option Value} {news' : List (Addr × Obj)} (F : Fr h₀ L h' m') (N : News h₀ L h' ((I, it) :: news'))
    (l : AllLt I news') (r : rest m' news') : UnrEnd h₀ L s₁ I it rest { s₁ with heap := h', toks := tk } := UnrEnd.intro F N news' (fun _ hp => hp) (fun q hq => allLt_ne news' l q hq) r
section
variable {p : Program} {loose : List Str} {mean : ExcName → Option Value} {mg mb : Str → Option Value} {w : World} {cs : Scope} {nm : Str} {fa : Addr} {cd : Value}
    {h₀ : Heap} {L : Addr} {m : Str → Option Value} {s : Shared} {news : List (Addr × Obj)} {Q : Value → Shared → Prop} {E : Value → Shared → Prop}
abbrev dCP (w : World) (t : Tok) (v : Addr) (e : List DictEntry) : List DictEntry := putL "clientPeer" (PyData.keyHash w.params "clientPeer") (.str "clientPeer" t) (.ref v) e
abbrev dSP (w : World) (t : Tok) (v : Addr) (e : List DictEntry) : List DictEntry := putL "serverPeer" (PyData.keyHash w.params "serverPeer") (.str "serverPeer" t) (.ref v) e
theorem bind3U {a da b db c dc : Addr} {ea eb ec : List DictEntry} {na nb nc : Nat} {g1 : Obj → List (Addr × Obj)} {g2 : Obj → Obj → List (Addr × Obj)} {g3 : Obj → Obj → Obj → List (Addr × Obj)}
    (B : Below callerA h₀ [] h₀) (F : Fr h₀ L s.heap m) (X : (KF w.params).In h₀) (T : Top p loose mean mg mb h₀) (hk : cs.kind = .function)
    (N : News h₀ L s.heap news) (ma : (a, instObj 1204 da) ∈ news) (mb : (b, instObj 1204 db) ∈ news) (mc : (c, instObj 1204 dc) ∈ news) (mdb : (db, dictOf eb nb) ∈ news) (mdc : (dc, dictOf ec nc) ∈ news)
    (U1 : UpdF da (dictOf ea na) news g1) (U2 : ∀ o, UpdF db (dictOf eb nb) (g1 o) (g2 o)) (U3 : ∀ o o', UpdF dc (dictOf ec nc) (g2 o o') (g3 o o'))
    (n1 : Dis a b) (n2 : Dis da db) (n3 : Dis c a) (n4 : Dis c b) (n5 : Dis dc da) (n6 : Dis dc db)
    (ra : NoRef ea) (rb : NoRef eb) (rc : NoRef ec) (hla : ea.length ≤ 900) (hlb : eb.length ≤ 900) (hlc : ec.length ≤ 900)
    (hret : ∀ t1 t2 t3 t4 h' tk', Fr h₀ L h' m → News h₀ L h' (g3 (dictOf (dCP w t1 b ea) (putN "clientPeer" ea na)) (dictOf (dCP w t3 c (dSP w t2 a eb)) (putN "clientPeer" (dSP w t2 a eb) (putN "serverPeer" eb nb))) (dictOf (dSP w t4 b ec) (putN "serverPeer" ec nc))) →
      Q .none { s with heap := h', toks := tk' }) :
    wpAny (model PySem.Challenge.rw_bj5003_01.row.prog w) (callerA.deeper (envOf nm cs L fa cd)) (call (.ref 401) [.ref a, .ref b, .ref c]) Q E s := by
  have mda := UpdF.mem U1
  have N4 : News h₀ L s.heap [(a, instObj 1204 da), (da, dictOf ea na), (b, instObj 1204 db), (db, dictOf eb nb), (c, instObj 1204 dc), (dc, dictOf ec nc)] :=
    List.forall_mem_cons.mpr ⟨N _ ma, List.forall_mem_cons.mpr ⟨N _ mda, List.forall_mem_cons.mpr ⟨N _ mb, List.forall_mem_cons.mpr ⟨N _ mdb, List.forall_mem_cons.mpr ⟨N _ mc, List.forall_mem_cons.mpr ⟨N _ mdc, List.forall_mem_nil _⟩⟩⟩⟩⟩⟩
  have id : ∀ {x d y : Addr} {e : List DictEntry} {n : Nat}, (x, instObj 1204 d) ∈ news → (y, dictOf e n) ∈ news → @Ne Nat x y := fun h1 h2 => newsNe N h1 h2 (by intro q; cases q)
  refine bind3 (A₀ := callerA) (base := h₀) (outer := []) B F X T hk (Nat.lt_of_le_of_lt (by omega) room1) (Nat.lt_of_le_of_lt (by omega) room2) N4
    (id ma mda) n1 (id ma mdb) (id mb mda).symm n2 (id mb mdb) (id mc mdc) n3 n4 (id mc mda) (id mc mdb) (id ma mdc).symm (id mb mdc).symm n5 n6 ra rb hla hlb rc hlc
    fun t1 t2 t3 t4 h' tk' F' kept N' => hret t1 t2 t3 t4 h' tk' F' ?_
  refine after3 N U1 U2 U3 (N _ mdc).2 kept (fun z hc h1 h2 h3 o ho => ?_) (N' _ (.tail _ (.head _))).1 (N' _ (.tail _ (.tail _ (.tail _ (.head _))))).1 (N' _ (.tail _ (.tail _ (.tail _ (.tail _ (.tail _ (.head _))))))).1
  simp only [List.mem_cons, List.not_mem_nil, or_false] at hc
  rcases hc with rfl | rfl | rfl | rfl | rfl | rfl
  · rw [(N _ ma).1] at ho; cases ho; exact (N' _ (.head _)).1
  · exact absurd rfl h1
  · rw [(N _ mb).1] at ho; cases ho; exact (N' _ (.tail _ (.tail _ (.head _)))).1
  · exact absurd rfl h2
  · rw [(N _ mc).1] at ho; cases ho; exact (N' _ (.tail _ (.tail _ (.tail _ (.tail _ (.head _)))))).1
  · exact absurd rfl h3
theorem bind3bU {a da b db : Addr} {ea eb : List DictEntry} {na nb : Nat} {g1 : Obj → List (Addr × Obj)} {g2 : Obj → Obj → List (Addr × Obj)}
    (B : Below callerA h₀ [] h₀) (F : Fr h₀ L s.heap m) (X : (KF w.params).In h₀) (T : Top p loose mean mg mb h₀) (hk : cs.kind = .function)
    (N : News h₀ L s.heap news) (ma : (a, instObj 1204 da) ∈ news) (mb : (b, instObj 1204 db) ∈ news) (mdb : (db, dictOf eb nb) ∈ news)
    (U1 : UpdF da (dictOf ea na) news g1) (U2 : ∀ o, UpdF db (dictOf eb nb) (g1 o) (g2 o))
    (n1 : Dis a b) (n2 : Dis da db)
    (ra : NoRef ea) (rb : NoRef eb) (hla : ea.length ≤ 900) (hlb : eb.length ≤ 900)
    (hret : ∀ t1 t2 t3 t4 h' tk', Fr h₀ L h' m → News h₀ L h' (g2 (dictOf (dSP w t4 b (dCP w t1 b ea)) (putN "serverPeer" (dCP w t1 b ea) (putN "clientPeer" ea na))) (dictOf (dCP w t3 a (dSP w t2 a eb)) (putN "clientPeer" (dSP w t2 a eb) (putN "serverPeer" eb nb)))) →
      Q .none { s with heap := h', toks := tk' }) :
    wpAny (model PySem.Challenge.rw_bj5003_01.row.prog w) (callerA.deeper (envOf nm cs L fa cd)) (call (.ref 401) [.ref a, .ref b, .ref a]) Q E s := by
  have mda := UpdF.mem U1
  have N4 : News h₀ L s.heap [(a, instObj 1204 da), (da, dictOf ea na), (b, instObj 1204 db), (db, dictOf eb nb)] :=
    List.forall_mem_cons.mpr ⟨N _ ma, List.forall_mem_cons.mpr ⟨N _ mda, List.forall_mem_cons.mpr ⟨N _ mb, List.forall_mem_cons.mpr ⟨N _ mdb, List.forall_mem_nil _⟩⟩⟩⟩
  have id : ∀ {x d y : Addr} {e : List DictEntry} {n : Nat}, (x, instObj 1204 d) ∈ news → (y, dictOf e n) ∈ news → @Ne Nat x y := fun h1 h2 => newsNe N h1 h2 (by intro q; cases q)
  refine bind3b (A₀ := callerA) (base := h₀) (outer := []) B F X T hk (Nat.lt_of_le_of_lt (by omega) room1) (Nat.lt_of_le_of_lt (by omega) room2) N4
    (id ma mda) n1 (id ma mdb) (id mb mda).symm n2 (id mb mdb) ra rb hla hlb
    fun t1 t2 t3 t4 h' tk' F' kept N' => hret t1 t2 t3 t4 h' tk' F' ?_
  refine after2 N U1 U2 kept (fun z hc h1 h2 o ho => ?_) (N' _ (.tail _ (.head _))).1 (N' _ (.tail _ (.tail _ (.tail _ (.head _))))).1
  simp only [List.mem_cons, List.not_mem_nil, or_false] at hc
  rcases hc with rfl | rfl | rfl | rfl
  · rw [(N _ ma).1] at ho; cases ho; exact (N' _ (.head _)).1
  · exact absurd rfl h1
  · rw [(N _ mb).1] at ho; cases ho; exact (N' _ (.tail _ (.tail _ (.head _)))).1
  · exact absurd rfl h2
end
end Mine
end
section
open PySem PySem.W PyProof.Rows PySem.Calls
set_option Elab.async false
set_option maxRecDepth 100000
set_option maxHeartbeats 4000000
namespace Mine
section
variable {p : Program} {loose : List Str} {mean : ExcName → Option Value} {mg mb : Str → Option Value} {w : World} {cs : Scope} {nm : Str} {fa : Addr} {cd : Value}
    {h₀ : Heap} {L : Addr} {m : Str → Option Value} {s : Shared} {news : List (Addr × Obj)} {Q : Value → Shared → Prop} {E : Value → Shared → Prop}
theorem bindESU {a da b db : Addr} {ea eb : List DictEntry} {na nb : Nat} {g1 : Obj → List (Addr × Obj)} {g2 : Obj → Obj → List (Addr × Obj)}
    (B : Below callerA h₀ [] h₀) (F : Fr h₀ L s.heap m) (X : (KF w.params).In h₀) (T : Top p loose mean mg mb h₀) (hk : cs.kind = .function)
    (N : News h₀ L s.heap news) (ma : (a, instObj 390 da) ∈ news) (mb : (b, instObj 1171 db) ∈ news) (U1 : UpdF da (dictOf ea na) news g1) (U2 : ∀ o, UpdF db (dictOf eb nb) (g1 o) (g2 o))
    (n2 : @Ne Nat a b) (n5 : @Ne Nat da db)
    (hga : (getL "elementService" ea).isSome = true) (hgb : (getL "serviceElement" eb).isSome = true) (hla : ea.length ≤ 900) (hlb : eb.length ≤ 900)
    (hret : ∀ t t' h' tk', Fr h₀ L h' m → News h₀ L h' (g2 (dictOf (putL "elementService" (PyData.keyHash w.params "elementService") (.str "elementService" t) (.ref b) ea) (putN "elementService" ea na)) (dictOf (putL "serviceElement" (PyData.keyHash w.params "serviceElement") (.str "serviceElement" t') (.ref a) eb) (putN "serviceElement" eb nb))) →
      Q .none { s with heap := h', toks := tk' }) :
    wpAny (model PySem.Challenge.rw_bj5003_01.row.prog w) (callerA.deeper (envOf nm cs L fa cd)) (call (.ref 401) [.ref a, .ref b]) Q E s := by
  obtain ⟨pre, post, e, eg, a1, b1⟩ := U1.split
  obtain ⟨pre3, post3, e3, eg3, a3, b3⟩ := (U2 (dictOf ea na)).split
  have mda : (da, dictOf ea na) ∈ news := by rw [e]; simp
  have mdb : (db, dictOf eb nb) ∈ news := by
    have : (db, dictOf eb nb) ∈ g1 (dictOf ea na) := by rw [e3]; simp
    rwa [eg, ← e] at this
  have ne : ∀ {x y : Addr} {ox oy : Obj}, (x, ox) ∈ news → (y, oy) ∈ news → ox ≠ oy → x ≠ y := fun hx hy hn q => by
    subst q
    exact hn (Option.some.inj ((N _ hx).1.symm.trans (N _ hy).1))
  have N4 : News h₀ L s.heap [(a, instObj 390 da), (da, dictOf ea na), (b, instObj 1171 db), (db, dictOf eb nb)] :=
    List.forall_mem_cons.mpr ⟨N _ ma, List.forall_mem_cons.mpr ⟨N _ mda, List.forall_mem_cons.mpr ⟨N _ mb, List.forall_mem_cons.mpr ⟨N _ mdb, List.forall_mem_nil _⟩⟩⟩⟩
  refine bindES (A₀ := callerA) (base := h₀) (outer := []) B F X T hk (Nat.lt_of_le_of_lt (by omega) room1) (Nat.lt_of_le_of_lt (by omega) room2) N4 (ne ma mda (by intro q; cases q)) n2 (ne ma mdb (by intro q; cases q)) (ne mda mb (by intro q; cases q)) n5 (ne mb mdb (by intro q; cases q)) hga hgb hla hlb
    fun t t' h' tk' F' kept N' => hret t t' h' tk' F' ?_
  refine after2 N U1 U2 kept (fun c hc h1 h2 o ho => ?_) (N' _ (.tail _ (.head _))).1 (N' _ (.tail _ (.tail _ (.tail _ (.head _))))).1
  simp only [List.mem_cons, List.not_mem_nil, or_false] at hc
  rcases hc with rfl | rfl | rfl | rfl
  · rw [(N _ ma).1] at ho; cases ho; exact (N' _ (.head _)).1
  · exact absurd rfl h1
  · rw [(N _ mb).1] at ho; cases ho; exact (N' _ (.tail _ (.tail _ (.head _)))).1
  · exact absurd rfl h2
theorem bindLBU {a da b db : Addr} {ea eb : List DictEntry} {na nb : Nat} {g1 : Obj → List (Addr × Obj)} {g2 : Obj → Obj → List (Addr × Obj)}
    (B : Below callerA h₀ [] h₀) (F : Fr h₀ L s.heap m) (X : (KF w.params).In h₀) (T : Top p loose mean mg mb h₀) (hk : cs.kind = .function)
    (N : News h₀ L s.heap news) (ma : (a, instObj 1171 da) ∈ news) (mb : (b, instObj 1204 db) ∈ news) (U1 : UpdF da (dictOf ea na) news g1) (U2 : ∀ o, UpdF db (dictOf eb nb) (g1 o) (g2 o))
    (n2 : @Ne Nat a b) (n5 : @Ne Nat da db)
    (hga : (getL "clientPeer" ea).isSome = true) (hgb : (getL "serverPeer" eb).isSome = true) (hla : ea.length ≤ 900) (hlb : eb.length ≤ 900)
    (hret : ∀ t t' h' tk', Fr h₀ L h' m → News h₀ L h' (g2 (dictOf (putL "clientPeer" (PyData.keyHash w.params "clientPeer") (.str "clientPeer" t) (.ref b) ea) (putN "clientPeer" ea na)) (dictOf (putL "serverPeer" (PyData.keyHash w.params "serverPeer") (.str "serverPeer" t') (.ref a) eb) (putN "serverPeer" eb nb))) →
      Q .none { s with heap := h', toks := tk' }) :
    wpAny (model PySem.Challenge.rw_bj5003_01.row.prog w) (callerA.deeper (envOf nm cs L fa cd)) (call (.ref 401) [.ref a, .ref b]) Q E s := by
  obtain ⟨pre, post, e, eg, a1, b1⟩ := U1.split
  obtain ⟨pre3, post3, e3, eg3, a3, b3⟩ := (U2 (dictOf ea na)).split
  have mda : (da, dictOf ea na) ∈ news := by rw [e]; simp
  have mdb : (db, dictOf eb nb) ∈ news := by
    have : (db, dictOf eb nb) ∈ g1 (dictOf ea na) := by rw [e3]; simp
    rwa [eg, ← e] at this
  have ne : ∀ {x y : Addr} {ox oy : Obj}, (x, ox) ∈ news → (y, oy) ∈ news → ox ≠ oy → x ≠ y := fun hx hy hn q => by
    subst q
    exact hn (Option.some.inj ((N _ hx).1.symm.trans (N _ hy).1))
  have N4 : News h₀ L s.heap [(a, instObj 1171 da), (da, dictOf ea na), (b, instObj 1204 db), (db, dictOf eb nb)] :=
    List.forall_mem_cons.mpr ⟨N _ ma, List.forall_mem_cons.mpr ⟨N _ mda, List.forall_mem_cons.mpr ⟨N _ mb, List.forall_mem_cons.mpr ⟨N _ mdb, List.forall_mem_nil _⟩⟩⟩⟩
  refine bindLB (A₀ := callerA) (base := h₀) (outer := []) B F X T hk (Nat.lt_of_le_of_lt (by omega) room1) (Nat.lt_of_le_of_lt (by omega) room2) N4 (ne ma mda (by intro q; cases q)) n2 (ne ma mdb (by intro q; cases q)) (ne mda mb (by intro q; cases q)) n5 (ne mb mdb (by intro q; cases q)) hga hgb hla hlb
    fun t t' h' tk' F' kept N' => hret t t' h' tk' F' ?_
  refine after2 N U1 U2 kept (fun c hc h1 h2 o ho => ?_) (N' _ (.tail _ (.head _))).1 (N' _ (.tail _ (.tail _ (.tail _ (.head _))))).1
  simp only [List.mem_cons, List.not_mem_nil, or_false] at hc
  rcases hc with rfl | rfl | rfl | rfl
  · rw [(N _ ma).1] at ho; cases ho; exact (N' _ (.head _)).1
  · exact absurd rfl h1
  · rw [(N _ mb).1] at ho; cases ho; exact (N' _ (.tail _ (.tail _ (.head _)))).1
  · exact absurd rfl h2
theorem bindOIU {a da b db : Addr} {ea eb : List DictEntry} {na nb : Nat} {g1 : Obj → List (Addr × Obj)} {g2 : Obj → Obj → List (Addr × Obj)}
    (B : Below callerA h₀ [] h₀) (F : Fr h₀ L s.heap m) (X : (KF w.params).In h₀) (T : Top p loose mean mg mb h₀) (hk : cs.kind = .function)
    (N : News h₀ L s.heap news) (ma : (a, instObj 1204 da) ∈ news) (mb : (b, instObj 340 db) ∈ news) (U1 : UpdF da (dictOf ea na) news g1) (U2 : ∀ o, UpdF db (dictOf eb nb) (g1 o) (g2 o))
    (n2 : @Ne Nat a b) (n5 : @Ne Nat da db)
    (hga : (getL "elementService" ea).isSome = true) (hgb : (getL "serviceElement" eb).isSome = true) (hla : ea.length ≤ 900) (hlb : eb.length ≤ 900)
    (hret : ∀ t t' h' tk', Fr h₀ L h' m → News h₀ L h' (g2 (dictOf (putL "elementService" (PyData.keyHash w.params "elementService") (.str "elementService" t) (.ref b) ea) (putN "elementService" ea na)) (dictOf (putL "serviceElement" (PyData.keyHash w.params "serviceElement") (.str "serviceElement" t') (.ref a) eb) (putN "serviceElement" eb nb))) →
      Q .none { s with heap := h', toks := tk' }) :
    wpAny (model PySem.Challenge.rw_bj5003_01.row.prog w) (callerA.deeper (envOf nm cs L fa cd)) (call (.ref 401) [.ref a, .ref b]) Q E s := by
  obtain ⟨pre, post, e, eg, a1, b1⟩ := U1.split
  obtain ⟨pre3, post3, e3, eg3, a3, b3⟩ := (U2 (dictOf ea na)).split
  have mda : (da, dictOf ea na) ∈ news := by rw [e]; simp
  have mdb : (db, dictOf eb nb) ∈ news := by
    have : (db, dictOf eb nb) ∈ g1 (dictOf ea na) := by rw [e3]; simp
    rwa [eg, ← e] at this
  have ne : ∀ {x y : Addr} {ox oy : Obj}, (x, ox) ∈ news → (y, oy) ∈ news → ox ≠ oy → x ≠ y := fun hx hy hn q => by
    subst q
    exact hn (Option.some.inj ((N _ hx).1.symm.trans (N _ hy).1))
  have N4 : News h₀ L s.heap [(a, instObj 1204 da), (da, dictOf ea na), (b, instObj 340 db), (db, dictOf eb nb)] :=
    List.forall_mem_cons.mpr ⟨N _ ma, List.forall_mem_cons.mpr ⟨N _ mda, List.forall_mem_cons.mpr ⟨N _ mb, List.forall_mem_cons.mpr ⟨N _ mdb, List.forall_mem_nil _⟩⟩⟩⟩
  refine bindOI (A₀ := callerA) (base := h₀) (outer := []) B F X T hk (Nat.lt_of_le_of_lt (by omega) room1) (Nat.lt_of_le_of_lt (by omega) room2) N4 (ne ma mda (by intro q; cases q)) n2 (ne ma mdb (by intro q; cases q)) (ne mda mb (by intro q; cases q)) n5 (ne mb mdb (by intro q; cases q)) hga hgb hla hlb
    fun t t' h' tk' F' kept N' => hret t t' h' tk' F' ?_
  refine after2 N U1 U2 kept (fun c hc h1 h2 o ho => ?_) (N' _ (.tail _ (.head _))).1 (N' _ (.tail _ (.tail _ (.tail _ (.head _))))).1
  simp only [List.mem_cons, List.not_mem_nil, or_false] at hc
  rcases hc with rfl | rfl | rfl | rfl
  · rw [(N _ ma).1] at ho; cases ho; exact (N' _ (.head _)).1
  · exact absurd rfl h1
  · rw [(N _ mb).1] at ho; cases ho; exact (N' _ (.tail _ (.tail _ (.head _)))).1
  · exact absurd rfl h2
theorem topReqU {a da b db u du t dt la v : Addr} {ea eb eu et : List DictEntry} {na nb nu nt c : Nat} {items : Array Value} {g1 : Obj → List (Addr × Obj)}
    (B : Below callerA h₀ [] h₀) (F : Fr h₀ L s.heap m) (X : (KF w.params).In h₀) (T : Top p loose mean mg mb h₀) (hk : cs.kind = .function)
    (N : News h₀ L s.heap news) (m0 : (a, instObj 390 da) ∈ news) (m1 : (da, dictOf ea na) ∈ news) (m2 : (b, instObj 1171 db) ∈ news) (m3 : (db, dictOf eb nb) ∈ news) (m4 : (u, instObj 1204 du) ∈ news) (m5 : (du, dictOf eu nu) ∈ news) (m6 : (t, instObj 587 dt) ∈ news) (m7 : (dt, dictOf et nt) ∈ news) (U1 : UpdF la (listOf items c) news g1)
    (f1 : getL "elementService" ea = some (some (.ref b))) (f2 : getL "sap_indication" eb = some none) (f3 : getL "clientPeer" eb = some (some (.ref u))) (f4 : getL "request" eb = some none) (f5 : getL "indication" eu = some none) (f6 : getL "asked" eu = some (some (.ref la))) (f7 : getL "pduDestination" et = some (some (.ref v))) (hsz : items.size ≤ sizeLine)
    (hret : ∀ tp h' tk', (∀ p ∈ news, p.1 ≠ tp) → Fr h₀ L h' m → News h₀ L h' ((tp, ({ cls := .type "tuple", data := .seq #[.ref v, .ref t] } : Obj)) :: g1 (listOf (items.push (.ref tp)) (c + 1))) → Q .none { s with heap := h', toks := tk' }) :
    wpAny (model PySem.Challenge.rw_bj5003_01.row.prog w) (callerA.deeper (envOf nm cs L fa cd)) (call (.ref 366) [.ref a, .ref t]) Q E s := by
  have ml := UpdF.mem U1
  have N4 : News h₀ L s.heap [(a, instObj 390 da), (da, dictOf ea na), (b, instObj 1171 db), (db, dictOf eb nb), (u, instObj 1204 du), (du, dictOf eu nu), (t, instObj 587 dt), (dt, dictOf et nt), (la, listOf items c)] := List.forall_mem_cons.mpr ⟨N _ m0, List.forall_mem_cons.mpr ⟨N _ m1, List.forall_mem_cons.mpr ⟨N _ m2, List.forall_mem_cons.mpr ⟨N _ m3, List.forall_mem_cons.mpr ⟨N _ m4, List.forall_mem_cons.mpr ⟨N _ m5, List.forall_mem_cons.mpr ⟨N _ m6, List.forall_mem_cons.mpr ⟨N _ m7, List.forall_mem_cons.mpr ⟨N _ ml, List.forall_mem_nil _⟩⟩⟩⟩⟩⟩⟩⟩⟩
  refine topReq (A₀ := callerA) (base := h₀) (outer := []) B F X T hk (Nat.lt_of_le_of_lt (by omega) room1) (Nat.lt_of_le_of_lt (by omega) room2) N4 (newsNe N ml m0 (by intro q; cases q)) (newsNe N ml m1 list_ne_dict) (newsNe N ml m2 (by intro q; cases q)) (newsNe N ml m3 list_ne_dict) (newsNe N ml m4 (by intro q; cases q)) (newsNe N ml m5 list_ne_dict) (newsNe N ml m6 (by intro q; cases q)) (newsNe N ml m7 list_ne_dict) f1 f2 f3 f4 f5 f6 f7 hsz
    fun tp h' tk' F' kept fr N' => hret tp h' tk' (fun p hp => fr _ _ (N p hp).1) F' ?_
  refine List.forall_mem_cons.mpr ⟨N' _ (.head _), ?_⟩
  refine after1 N U1 kept (fun z hc h1 o ho => ?_) (N' _ (.tail _ (.tail _ (.tail _ (.tail _ (.tail _ (.tail _ (.tail _ (.tail _ (.tail _ (.head _))))))))))).1
  simp only [List.mem_cons, List.not_mem_nil, or_false] at hc
  rcases hc with rfl | rfl | rfl | rfl | rfl | rfl | rfl | rfl | rfl
  · rw [(N _ m0).1] at ho; cases ho; exact (N' _ (.tail _ (.head _))).1
  · rw [(N _ m1).1] at ho; cases ho; exact (N' _ (.tail _ (.tail _ (.head _)))).1
  · rw [(N _ m2).1] at ho; cases ho; exact (N' _ (.tail _ (.tail _ (.tail _ (.head _))))).1
  · rw [(N _ m3).1] at ho; cases ho; exact (N' _ (.tail _ (.tail _ (.tail _ (.tail _ (.head _)))))).1
  · rw [(N _ m4).1] at ho; cases ho; exact (N' _ (.tail _ (.tail _ (.tail _ (.tail _ (.tail _ (.head _))))))).1
  · rw [(N _ m5).1] at ho; cases ho; exact (N' _ (.tail _ (.tail _ (.tail _ (.tail _ (.tail _ (.tail _ (.head _)))))))).1
  · rw [(N _ m6).1] at ho; cases ho; exact (N' _ (.tail _ (.tail _ (.tail _ (.tail _ (.tail _ (.tail _ (.tail _ (.head _))))))))).1
  · rw [(N _ m7).1] at ho; cases ho; exact (N' _ (.tail _ (.tail _ (.tail _ (.tail _ (.tail _ (.tail _ (.tail _ (.tail _ (.head _)))))))))).1
  · exact absurd rfl h1
theorem topRespU {a da b db u du t dt la v : Addr} {ea eb eu et : List DictEntry} {na nb nu nt c : Nat} {items : Array Value} {g1 : Obj → List (Addr × Obj)}
    (B : Below callerA h₀ [] h₀) (F : Fr h₀ L s.heap m) (X : (KF w.params).In h₀) (T : Top p loose mean mg mb h₀) (hk : cs.kind = .function)
    (N : News h₀ L s.heap news) (m0 : (a, instObj 390 da) ∈ news) (m1 : (da, dictOf ea na) ∈ news) (m2 : (b, instObj 1171 db) ∈ news) (m3 : (db, dictOf eb nb) ∈ news) (m4 : (u, instObj 1204 du) ∈ news) (m5 : (du, dictOf eu nu) ∈ news) (m6 : (t, instObj 587 dt) ∈ news) (m7 : (dt, dictOf et nt) ∈ news) (U1 : UpdF la (listOf items c) news g1)
    (f1 : getL "elementService" ea = some (some (.ref b))) (f2 : getL "sap_confirmation" eb = some none) (f3 : getL "clientPeer" eb = some (some (.ref u))) (f4 : getL "request" eb = some none) (f5 : getL "indication" eu = some none) (f6 : getL "asked" eu = some (some (.ref la))) (f7 : getL "pduDestination" et = some (some (.ref v))) (hsz : items.size ≤ sizeLine)
    (hret : ∀ tp h' tk', (∀ p ∈ news, p.1 ≠ tp) → Fr h₀ L h' m → News h₀ L h' ((tp, ({ cls := .type "tuple", data := .seq #[.ref v, .ref t] } : Obj)) :: g1 (listOf (items.push (.ref tp)) (c + 1))) → Q .none { s with heap := h', toks := tk' }) :
    wpAny (model PySem.Challenge.rw_bj5003_01.row.prog w) (callerA.deeper (envOf nm cs L fa cd)) (call (.ref 380) [.ref a, .ref t]) Q E s := by
  have ml := UpdF.mem U1
  have N4 : News h₀ L s.heap [(a, instObj 390 da), (da, dictOf ea na), (b, instObj 1171 db), (db, dictOf eb nb), (u, instObj 1204 du), (du, dictOf eu nu), (t, instObj 587 dt), (dt, dictOf et nt), (la, listOf items c)] := List.forall_mem_cons.mpr ⟨N _ m0, List.forall_mem_cons.mpr ⟨N _ m1, List.forall_mem_cons.mpr ⟨N _ m2, List.forall_mem_cons.mpr ⟨N _ m3, List.forall_mem_cons.mpr ⟨N _ m4, List.forall_mem_cons.mpr ⟨N _ m5, List.forall_mem_cons.mpr ⟨N _ m6, List.forall_mem_cons.mpr ⟨N _ m7, List.forall_mem_cons.mpr ⟨N _ ml, List.forall_mem_nil _⟩⟩⟩⟩⟩⟩⟩⟩⟩
  refine topResp (A₀ := callerA) (base := h₀) (outer := []) B F X T hk (Nat.lt_of_le_of_lt (by omega) room1) (Nat.lt_of_le_of_lt (by omega) room2) N4 (newsNe N ml m0 (by intro q; cases q)) (newsNe N ml m1 list_ne_dict) (newsNe N ml m2 (by intro q; cases q)) (newsNe N ml m3 list_ne_dict) (newsNe N ml m4 (by intro q; cases q)) (newsNe N ml m5 list_ne_dict) (newsNe N ml m6 (by intro q; cases q)) (newsNe N ml m7 list_ne_dict) f1 f2 f3 f4 f5 f6 f7 hsz
    fun tp h' tk' F' kept fr N' => hret tp h' tk' (fun p hp => fr _ _ (N p hp).1) F' ?_
  refine List.forall_mem_cons.mpr ⟨N' _ (.head _), ?_⟩
  refine after1 N U1 kept (fun z hc h1 o ho => ?_) (N' _ (.tail _ (.tail _ (.tail _ (.tail _ (.tail _ (.tail _ (.tail _ (.tail _ (.tail _ (.head _))))))))))).1
  simp only [List.mem_cons, List.not_mem_nil, or_false] at hc
  rcases hc with rfl | rfl | rfl | rfl | rfl | rfl | rfl | rfl | rfl
  · rw [(N _ m0).1] at ho; cases ho; exact (N' _ (.tail _ (.head _))).1
  · rw [(N _ m1).1] at ho; cases ho; exact (N' _ (.tail _ (.tail _ (.head _)))).1
  · rw [(N _ m2).1] at ho; cases ho; exact (N' _ (.tail _ (.tail _ (.tail _ (.head _))))).1
  · rw [(N _ m3).1] at ho; cases ho; exact (N' _ (.tail _ (.tail _ (.tail _ (.tail _ (.head _)))))).1
  · rw [(N _ m4).1] at ho; cases ho; exact (N' _ (.tail _ (.tail _ (.tail _ (.tail _ (.tail _ (.head _))))))).1
  · rw [(N _ m5).1] at ho; cases ho; exact (N' _ (.tail _ (.tail _ (.tail _ (.tail _ (.tail _ (.tail _ (.head _)))))))).1
  · rw [(N _ m6).1] at ho; cases ho; exact (N' _ (.tail _ (.tail _ (.tail _ (.tail _ (.tail _ (.tail _ (.tail _ (.head _))))))))).1
  · rw [(N _ m7).1] at ho; cases ho; exact (N' _ (.tail _ (.tail _ (.tail _ (.tail _ (.tail _ (.tail _ (.tail _ (.tail _ (.head _)))))))))).1
  · exact absurd rfl h1
theorem innReqU {a da u du t dt la v : Addr} {ea eu et : List DictEntry} {na nu nt c : Nat} {items : Array Value} {g1 : Obj → List (Addr × Obj)}
    (B : Below callerA h₀ [] h₀) (F : Fr h₀ L s.heap m) (X : (KF w.params).In h₀) (T : Top p loose mean mg mb h₀) (hk : cs.kind = .function)
    (N : News h₀ L s.heap news) (m0 : (a, instObj 340 da) ∈ news) (m1 : (da, dictOf ea na) ∈ news) (m2 : (u, instObj 1204 du) ∈ news) (m3 : (du, dictOf eu nu) ∈ news) (m4 : (t, instObj 587 dt) ∈ news) (m5 : (dt, dictOf et nt) ∈ news) (U1 : UpdF la (listOf items c) news g1)
    (f1 : getL "serviceElement" ea = some (some (.ref u))) (f5 : getL "indication" eu = some none) (f6 : getL "asked" eu = some (some (.ref la))) (f7 : getL "pduDestination" et = some (some (.ref v))) (hsz : items.size ≤ sizeLine)
    (hret : ∀ tp h' tk', (∀ p ∈ news, p.1 ≠ tp) → Fr h₀ L h' m → News h₀ L h' ((tp, ({ cls := .type "tuple", data := .seq #[.ref v, .ref t] } : Obj)) :: g1 (listOf (items.push (.ref tp)) (c + 1))) → Q .none { s with heap := h', toks := tk' }) :
    wpAny (model PySem.Challenge.rw_bj5003_01.row.prog w) (callerA.deeper (envOf nm cs L fa cd)) (call (.ref 316) [.ref a, .ref t]) Q E s := by
  have ml := UpdF.mem U1
  have N4 : News h₀ L s.heap [(a, instObj 340 da), (da, dictOf ea na), (u, instObj 1204 du), (du, dictOf eu nu), (t, instObj 587 dt), (dt, dictOf et nt), (la, listOf items c)] := List.forall_mem_cons.mpr ⟨N _ m0, List.forall_mem_cons.mpr ⟨N _ m1, List.forall_mem_cons.mpr ⟨N _ m2, List.forall_mem_cons.mpr ⟨N _ m3, List.forall_mem_cons.mpr ⟨N _ m4, List.forall_mem_cons.mpr ⟨N _ m5, List.forall_mem_cons.mpr ⟨N _ ml, List.forall_mem_nil _⟩⟩⟩⟩⟩⟩⟩
  refine innReq (A₀ := callerA) (base := h₀) (outer := []) B F X T hk (Nat.lt_of_le_of_lt (by omega) room1) (Nat.lt_of_le_of_lt (by omega) room2) N4 (newsNe N ml m0 (by intro q; cases q)) (newsNe N ml m1 list_ne_dict) (newsNe N ml m2 (by intro q; cases q)) (newsNe N ml m3 list_ne_dict) (newsNe N ml m4 (by intro q; cases q)) (newsNe N ml m5 list_ne_dict) f1 f5 f6 f7 hsz
    fun tp h' tk' F' kept fr N' => hret tp h' tk' (fun p hp => fr _ _ (N p hp).1) F' ?_
  refine List.forall_mem_cons.mpr ⟨N' _ (.head _), ?_⟩
  refine after1 N U1 kept (fun z hc h1 o ho => ?_) (N' _ (.tail _ (.tail _ (.tail _ (.tail _ (.tail _ (.tail _ (.tail _ (.head _))))))))).1
  simp only [List.mem_cons, List.not_mem_nil, or_false] at hc
  rcases hc with rfl | rfl | rfl | rfl | rfl | rfl | rfl
  · rw [(N _ m0).1] at ho; cases ho; exact (N' _ (.tail _ (.head _))).1
  · rw [(N _ m1).1] at ho; cases ho; exact (N' _ (.tail _ (.tail _ (.head _)))).1
  · rw [(N _ m2).1] at ho; cases ho; exact (N' _ (.tail _ (.tail _ (.tail _ (.head _))))).1
  · rw [(N _ m3).1] at ho; cases ho; exact (N' _ (.tail _ (.tail _ (.tail _ (.tail _ (.head _)))))).1
  · rw [(N _ m4).1] at ho; cases ho; exact (N' _ (.tail _ (.tail _ (.tail _ (.tail _ (.tail _ (.head _))))))).1
  · rw [(N _ m5).1] at ho; cases ho; exact (N' _ (.tail _ (.tail _ (.tail _ (.tail _ (.tail _ (.tail _ (.head _)))))))).1
  · exact absurd rfl h1
theorem innRespU {a da u du la t : Addr} {ea eu : List DictEntry} {na nu c : Nat} {items : Array Value} {g1 : Obj → List (Addr × Obj)}
    (B : Below callerA h₀ [] h₀) (F : Fr h₀ L s.heap m) (X : (KF w.params).In h₀) (T : Top p loose mean mg mb h₀) (hk : cs.kind = .function)
    (N : News h₀ L s.heap news) (m0 : (a, instObj 340 da) ∈ news) (m1 : (da, dictOf ea na) ∈ news) (m2 : (u, instObj 1204 du) ∈ news) (m3 : (du, dictOf eu nu) ∈ news) (U1 : UpdF la (listOf items c) news g1)
    (f1 : getL "serviceElement" ea = some (some (.ref u))) (f5 : getL "confirmation" eu = some none) (f6 : getL "told" eu = some (some (.ref la))) (hsz : items.size ≤ sizeLine)
    (hret : ∀ h' tk', Fr h₀ L h' m → News h₀ L h' (g1 (listOf (items.push (.ref t)) (c + 1))) → Q .none { s with heap := h', toks := tk' }) :
    wpAny (model PySem.Challenge.rw_bj5003_01.row.prog w) (callerA.deeper (envOf nm cs L fa cd)) (call (.ref 330) [.ref a, .ref t]) Q E s := by
  have ml := UpdF.mem U1
  have N4 : News h₀ L s.heap [(a, instObj 340 da), (da, dictOf ea na), (u, instObj 1204 du), (du, dictOf eu nu), (la, listOf items c)] := List.forall_mem_cons.mpr ⟨N _ m0, List.forall_mem_cons.mpr ⟨N _ m1, List.forall_mem_cons.mpr ⟨N _ m2, List.forall_mem_cons.mpr ⟨N _ m3, List.forall_mem_cons.mpr ⟨N _ ml, List.forall_mem_nil _⟩⟩⟩⟩⟩
  refine innResp (A₀ := callerA) (base := h₀) (outer := []) B F X T hk (Nat.lt_of_le_of_lt (by omega) room1) (Nat.lt_of_le_of_lt (by omega) room2) N4 (newsNe N ml m0 (by intro q; cases q)) (newsNe N ml m1 list_ne_dict) (newsNe N ml m2 (by intro q; cases q)) (newsNe N ml m3 list_ne_dict) f1 f5 f6 hsz
    fun h' tk' F' kept N' => hret h' tk' F' ?_
  skip
  refine after1 N U1 kept (fun z hc h1 o ho => ?_) (N' _ (.tail _ (.tail _ (.tail _ (.tail _ (.head _)))))).1
  simp only [List.mem_cons, List.not_mem_nil, or_false] at hc
  rcases hc with rfl | rfl | rfl | rfl | rfl
  · rw [(N _ m0).1] at ho; cases ho; exact (N' _ (.head _)).1
  · rw [(N _ m1).1] at ho; cases ho; exact (N' _ (.tail _ (.head _))).1
  · rw [(N _ m2).1] at ho; cases ho; exact (N' _ (.tail _ (.tail _ (.head _)))).1
  · rw [(N _ m3).1] at ho; cases ho; exact (N' _ (.tail _ (.tail _ (.tail _ (.head _))))).1
  · exact absurd rfl h1
end
end Mine
end
section
open PySem PySem.W PyProof.Rows PySem.Calls
set_option Elab.async false
set_option maxRecDepth 100000
set_option maxHeartbeats 4000000
namespace Mine
abbrev tup (v t : Addr) : Obj := { cls := .type "tuple", data := .seq #[.ref v, .ref t] }
section
variable {prog : Program} {w : World} {A : Around} {E : Value → Shared → Prop} {s : Shared} {h₀ : Heap} {L : Addr} {m : Str → Option Value} {env : Env} {news news' : List (Addr × Obj)}
/-- two lists of the same things -/
theorem ne_same {a b : Addr} {its : Array Value} {j k : Nat} {Q : Value → Shared → Prop} (N : News h₀ L s.heap news) (ma : (a, listOf its j) ∈ news) (mb : (b, listOf its k) ∈ news) (hu : A.units < cLine) (h : Q (.bool false) s) :
    wpAny (model prog w) A (compareOp .NotEq (.ref a) (.ref b)) Q E s := by
  refine EqBoolInt.of_rcne (SeqAt.RcNeAt.lists (e := fun _ => true) ⟨_, (N _ ma).1, rfl, _, rfl⟩ ⟨_, (N _ mb).1, rfl, _, rfl⟩ rfl hu (fun j h1 h2 => SeqAt.EqAt.same _)) ?_
  have : (List.range its.size).all (fun _ => true) = true := by simp
  rw [this]
  exact h
/-- a list of pairs, by their seconds -/
def Rows (news : List (Addr × Obj)) (items : Array Value) (ts : List Value) : Prop :=
  items.size = ts.length ∧ ∀ (i : Nat) (x : Value), items[i]? = some x → ∃ tp v t, x = .ref tp ∧ (tp, tup v t) ∈ news ∧ ts[i]? = some (.ref t)
theorem Rows.cons {p : Addr × Obj} {items : Array Value} {ts : List Value} (h : Rows news items ts) : Rows (p :: news) items ts := ⟨h.1, fun i x e => let ⟨tp, v, t, a, b, c⟩ := h.2 i x e; ⟨tp, v, t, a, .tail _ b, c⟩⟩
def RowEnd (h₀ : Heap) (L : Addr) (m : Str → Option Value) (s₃ : Shared) (news : List (Addr × Obj)) (t : Addr) (y : Value) (s₂ : Shared) : Prop := ∃ h' tk', s₂ = { s₃ with heap := h', toks := tk' } ∧ Fr h₀ L h' m ∧ News h₀ L h' news ∧ y = .ref t
theorem RowEnd.intro {h₀ h' : Heap} {L t : Addr} {m : Str → Option Value} {s₃ : Shared} {news : List (Addr × Obj)} {tk' : Nat} (F : Fr h₀ L h' m) (N : News h₀ L h' news) : RowEnd h₀ L m s₃ news t (.ref t) { s₃ with heap := h', toks := tk' } := ⟨_, _, rfl, F, N, rfl⟩
def RowSrc (h₀ : Heap) (L : Addr) (m : Str → Option Value) (A : Around) (Q : Value → Shared → Prop) (xv : Value) (s₁ : Shared) : Prop :=
  ∃ ax items k news ts, xv = .ref ax ∧ A.handled = none ∧ Fr h₀ L s₁.heap m ∧ News h₀ L s₁.heap news ∧ (ax, listOf items k) ∈ news ∧ items.size ≤ sizeLine ∧ Rows news items ts ∧
    ∀ D h tk n, Fr h₀ L h m → News h₀ L h ((D, listOf ts.toArray n) :: news) → Q (.ref D) { s₁ with heap := h, toks := tk }
theorem compRow {elt iter : Expr} {x : Str} {px : Pos} {scope : Scope} {cl : List (Str × Addr)} {pos : Pos} {Q : Value → Shared → Prop} (F₀ : Fr h₀ L s.heap m)
    (hclos : closureFor scope env = pure cl) (hcell : ∀ y ∈ scope.names, y.2 ≠ .cell) (hkind : scope.kind = .function)
    (hnames : ∀ y ∈ scope.names, y.2 = .local → scope.names.lookup y.1 = some .local) (hx : scope.names.lookup x = some .local)
    (turn : ∀ (tp v t I C D : Addr) (oI oC : Obj) (m₂ : Str → Option Value) (ys : List Value) (s₃ : Shared) (news : List (Addr × Obj)) (E' : Value → Shared → Prop), LCg.NsObj oC m₂ → m₂ x = some (.ref tp) → Fr h₀ L s₃.heap m →
      News h₀ L s₃.heap ((tp, tup v t) :: (I, oI) :: (C, oC) :: (D, LCg.lst ys) :: news) →
      wpAny (model prog w) A (eval elt (compEnvC scope cl C env)) (RowEnd h₀ L m s₃ ((tp, tup v t) :: (I, oI) :: (C, oC) :: (D, LCg.lst ys) :: news) t) E' s₃)
    (h : wpAny (model prog w) A (eval iter env) (RowSrc h₀ L m A Q) E s)
    (hs : ∀ x, foldedSetIterable iter env x = pure x := by intro _; rfl) :
    wpAny (model prog w) A (eval (.ListComp elt [⟨.Name x px, iter, [], 0⟩] scope pos) env) Q E s := by
  refine LCg.ListComp_U F₀ hclos hcell hkind hnames hx (wpAny_mono h (fun xv s₁ h₁ => ?_) fun _ _ e => e) hs
  obtain ⟨ax, items, k, news, ts, rfl, hh, F, N, hm, hsz, ⟨hlen, rows⟩, fin⟩ := h₁
  refine LCg.CompSrc.ledger hh F N hm hsz fun g => ?_
  have key : ∀ (j i : Nat), i + j = items.size → LCg.CompRest prog w A h₀ L m env elt x scope cl { s₁ with heap := g } (LCg.SrcAt h₀ ax items) (fun i v => items[i]? = some v) (LCg.FinE h₀ L m { s₁ with heap := g } Q) j i (ts.take i) news := by
    intro j
    induction j with
    | zero =>
      intro i hi
      have e : i = ts.length := by omega
      subst e
      rw [List.take_length]
      refine LCg.CompRest.zero fun D h tk F' N' _ => fin D h tk _ F' N'
    | succ j ih =>
      intro i hi
      refine LCg.CompRest.succ fun v I oI C oC D m₂ h tk E' hv hC hx' F' N' off ne => ?_
      obtain ⟨tp, v', t, rfl, mt, ht⟩ := rows i v hv
      refine wpAny_mono (turn tp v' t I C D oI oC m₂ (ts.take i) { s₁ with heap := h, toks := tk } news E' hC hx' F' (List.forall_mem_cons.mpr ⟨N' _ (.tail _ (.tail _ (.tail _ mt))), N'⟩)) (fun y s₂ hq => ?_) fun _ _ e => e
      obtain ⟨h', tk', rfl, F₂, N₂, rfl⟩ := hq
      refine ⟨h', tk', news, rfl, F₂, fun p hp => N₂ p (.tail _ hp), off, .inr ⟨_, hm, rfl, _, rfl⟩, ?_⟩
      have e : ts.take i ++ [.ref t] = ts.take (i + 1) := by rw [List.take_add_one, ht]; rfl
      dsimp only
      rw [e]
      exact ih (i + 1) (by omega)
  simpa using key items.size 0 (by omega)
end
def body14? (P : Params) : Option (List Stmt) := match loopStmt? P 13 with | some (.For _ _ body _ _) => some body | _ => none
end Mine
end
section
open PySem PySem.W PyProof.Rows PySem.Calls Builtin
set_option Elab.async false
set_option maxRecDepth 100000
set_option maxHeartbeats 4000000
namespace Mine
theorem entry_pack : entryFor table "_struct.pack" = some Builtin.«_struct.pack» := entryFor_of_tree (by kernel_rfl)
theorem plain_pack : plainId "_struct.pack" = true := by decide +kernel
theorem check_pack (a b : Value) : checkBuiltinCall "_struct.pack" ⟨[a, b], []⟩ = pure () := by kernel_rfl
def fmtB : Struct.Format := match Struct.parse #[66] with | .pure f => f | _ => ⟨false, false, [], 0, 0⟩
theorem parse_B : Struct.parse (Array.map (fun x => x.toUInt8) (Str.ofString "B").cps) = pure fmtB := by kernel_rfl
theorem any_B : ((Str.ofString "B").cps.any fun x => decide (x ≥ 128)) = false := by decide +kernel
theorem packB1 {prog : Program} {w : World} {A : Around} {E : Value → Shared → Prop} {tk t : Tok} {h : Heap} {g : Array GenState} {d : Drawn} {tks : Nat} {os : OsState} {Q : Value → Shared → Prop}
    (hq : ∀ b t' tk', Q (.bytes b t') ⟨h, g, d, tk', os⟩) : wpAny (model prog w) A (call (.builtin "_struct.pack") [.str "B" tk, .int 1 t]) Q E ⟨h, g, d, tks, os⟩ := by
  refine wpAny_call (codeAny_call_builtin plain_pack entry_pack (wpAny_of_eq (check_pack _ _) ?_))
  unfold Builtin.«_struct.pack»
  repeat lk
  rw [any_B, if_neg Bool.false_ne_true]
  refine wpAny_pure (wpAny_of_eq parse_B ?_)
  unfold Struct.packed
  have e1 : ([Value.int 1 t].length != fmtB.items) = false := by show ((1 : Nat) != fmtB.items) = false; decide +kernel
  have e2 : Bytes.tooLong fmtB.size = false := by decide +kernel
  simp only [e1, e2, Bool.false_eq_true, if_false]
  refine wpAny_bind (wpAny_of_eq (a := #[1]) (by kernel_rfl) ?_)
  refine wpAny_bind (wpAny_mkBytes ?_ (by decide +kernel))
  exact wpAny_pure (hq _ _ _)
theorem packB2 {prog : Program} {w : World} {A : Around} {E : Value → Shared → Prop} {tk t : Tok} {h : Heap} {g : Array GenState} {d : Drawn} {tks : Nat} {os : OsState} {Q : Value → Shared → Prop}
    (hq : ∀ b t' tk', Q (.bytes b t') ⟨h, g, d, tk', os⟩) : wpAny (model prog w) A (call (.builtin "_struct.pack") [.str "B" tk, .int 2 t]) Q E ⟨h, g, d, tks, os⟩ := by
  refine wpAny_call (codeAny_call_builtin plain_pack entry_pack (wpAny_of_eq (check_pack _ _) ?_))
  unfold Builtin.«_struct.pack»
  repeat lk
  rw [any_B, if_neg Bool.false_ne_true]
  refine wpAny_pure (wpAny_of_eq parse_B ?_)
  unfold Struct.packed
  have e1 : ([Value.int 2 t].length != fmtB.items) = false := by show ((1 : Nat) != fmtB.items) = false; decide +kernel
  have e2 : Bytes.tooLong fmtB.size = false := by decide +kernel
  simp only [e1, e2, Bool.false_eq_true, if_false]
  refine wpAny_bind (wpAny_of_eq (a := #[2]) (by kernel_rfl) ?_)
  refine wpAny_bind (wpAny_mkBytes ?_ (by decide +kernel))
  exact wpAny_pure (hq _ _ _)
theorem packB3 {prog : Program} {w : World} {A : Around} {E : Value → Shared → Prop} {tk t : Tok} {h : Heap} {g : Array GenState} {d : Drawn} {tks : Nat} {os : OsState} {Q : Value → Shared → Prop}
    (hq : ∀ b t' tk', Q (.bytes b t') ⟨h, g, d, tk', os⟩) : wpAny (model prog w) A (call (.builtin "_struct.pack") [.str "B" tk, .int 3 t]) Q E ⟨h, g, d, tks, os⟩ := by
  refine wpAny_call (codeAny_call_builtin plain_pack entry_pack (wpAny_of_eq (check_pack _ _) ?_))
  unfold Builtin.«_struct.pack»
  repeat lk
  rw [any_B, if_neg Bool.false_ne_true]
  refine wpAny_pure (wpAny_of_eq parse_B ?_)
  unfold Struct.packed
  have e1 : ([Value.int 3 t].length != fmtB.items) = false := by show ((1 : Nat) != fmtB.items) = false; decide +kernel
  have e2 : Bytes.tooLong fmtB.size = false := by decide +kernel
  simp only [e1, e2, Bool.false_eq_true, if_false]
  refine wpAny_bind (wpAny_of_eq (a := #[3]) (by kernel_rfl) ?_)
  refine wpAny_bind (wpAny_mkBytes ?_ (by decide +kernel))
  exact wpAny_pure (hq _ _ _)
theorem packB4 {prog : Program} {w : World} {A : Around} {E : Value → Shared → Prop} {tk t : Tok} {h : Heap} {g : Array GenState} {d : Drawn} {tks : Nat} {os : OsState} {Q : Value → Shared → Prop}
    (hq : ∀ b t' tk', Q (.bytes b t') ⟨h, g, d, tk', os⟩) : wpAny (model prog w) A (call (.builtin "_struct.pack") [.str "B" tk, .int 4 t]) Q E ⟨h, g, d, tks, os⟩ := by
  refine wpAny_call (codeAny_call_builtin plain_pack entry_pack (wpAny_of_eq (check_pack _ _) ?_))
  unfold Builtin.«_struct.pack»
  repeat lk
  rw [any_B, if_neg Bool.false_ne_true]
  refine wpAny_pure (wpAny_of_eq parse_B ?_)
  unfold Struct.packed
  have e1 : ([Value.int 4 t].length != fmtB.items) = false := by show ((1 : Nat) != fmtB.items) = false; decide +kernel
  have e2 : Bytes.tooLong fmtB.size = false := by decide +kernel
  simp only [e1, e2, Bool.false_eq_true, if_false]
  refine wpAny_bind (wpAny_of_eq (a := #[4]) (by kernel_rfl) ?_)
  refine wpAny_bind (wpAny_mkBytes ?_ (by decide +kernel))
  exact wpAny_pure (hq _ _ _)
theorem packB {prog : Program} {w : World} {A : Around} {E : Value → Shared → Prop} {tk t : Tok} {s : Shared} {n : Int} {Q : Value → Shared → Prop} (hn : n = 1 ∨ n = 2 ∨ n = 3 ∨ n = 4)
    (hq : ∀ b t' tk', Q (.bytes b t') { s with toks := tk' }) : wpAny (model prog w) A (call (.builtin "_struct.pack") [.str "B" tk, .int n t]) Q E s := by
  obtain ⟨h, g, d, tks, os⟩ := s
  rcases hn with rfl | rfl | rfl | rfl
  · exact packB1 hq
  · exact packB2 hq
  · exact packB3 hq
  · exact packB4 hq
end Mine
end
section
open PySem PySem.W PyProof.Rows PySem.Calls
set_option Elab.async false
set_option maxRecDepth 100000
set_option maxHeartbeats 4000000
namespace Mine
local macro_rules | `(tactic| k_room) => `(tactic| ktr_room)
local macro_rules | `(tactic| walk_at "subscriptTail") => `(tactic| (k_here; (with_reducible show wpAny _ _ (subscriptTail _ _ (Value.ref _) (Value.int _ _)) _ _ _); k_dflt (refine' nat_sub ?k1 ?k2 ?k3 ?k4 ?_ ?k5; (case k5 => with_unfolding_all rfl); (case k1 => k_asm); (case k2 => k_mem); (case k3 => assumption); (case k4 => omega); k_whole)))
local macro_rules | `(tactic| k_ne) => `(tactic| (refine neN ?_; (try dsimp only); first | (refine Dis.ne ?_; with_reducible assumption) | (refine Dis.en ?_; with_reducible assumption) | omega))
local macro_rules | `(tactic| k_all) => `(tactic| with_reducible assumption)
local macro_rules | `(tactic| walk_at "call ref") => `(tactic| (k_here; k_dflt (refine' bind2U ?k1 ?k2 ?k3 ?k4 ?k5 ?k6 ?k7 ?k8 ?k9 ?kA ?kB ?kC ?kD ?kE ?kF ?kG ?_; (case k5 => exact rfl); (case k1 => k_asm); (case k2 => k_asm); (case k3 => k_asm); (case k4 => k_asm); (case k6 => k_asm); (case k7 => k_mem); (case k8 => k_mem); (case k9 => k_updF); (case kA => intro o'; k_updF); (case kB => first | assumption | exact Dis.ne (by assumption)); (case kC => first | assumption | exact Dis.ne (by assumption)); (case kD => first | assumption | exact getL_isSome (by assumption)); (case kE => first | assumption | exact getL_isSome (by assumption)); (case kF => assumption); (case kG => assumption); intro t' t'' h' tk' F' N'; (try dsimp only at N'); (try k_sweep))))
local macro_rules | `(tactic| walk_at "setItem ref int") => `(tactic| (k_here; k_dflt (refine' nat_set ?k1 ?k2 ?k3 ?k4 ?k5 ?_; (case k1 => k_asm); (case k2 => k_asm); (case k3 => k_upd); (case k4 => first | omega | (simp only [Array.size_setIfInBounds]; omega)); (case k5 => omega); k_whole; intro h' F' N'; (try k_sweep))))
local macro_rules | `(tactic| k_get) => `(tactic| with_reducible assumption)
local macro_rules | `(tactic| walk_at "call builtin:list.append") => `(tactic| (k_here; k_dflt (refine' append_K ?k1 ?k2 ?k3 ?_ ?z; (case k1 => k_asm); (case k2 => k_asm); (case k3 => k_upd); (case z => size_fits); k_whole); intro h' F' N'; (try k_sweep)))
local macro_rules | `(tactic| walk_at "call ref") => `(tactic| (k_here; k_dflt (refine' req2U ?k1 ?k2 ?k3 ?k4 ?k5 ?k6 ?k7 ?k8 ?k9 ?kA ?kB ?kC ?kD ?kE ?kF ?kG ?kH ?kI ?_; (case k5 => exact rfl); (case k1 => k_asm); (case k2 => k_asm); (case k3 => k_asm); (case k4 => k_asm); (case k6 => k_asm); (case k7 => k_mem); (case k8 => k_mem); (case kE => assumption); (case k9 => k_mem); (case kA => k_mem); (case kF => assumption); (case kG => assumption); (case kB => k_mem); (case kC => k_mem); (case kH => assumption); (case kD => k_updF); (case kI => assumption); intro tp' h' tk' fr' F' N'; (replace fr' := allNe_of fr'; simp only [AllNe] at fr'; (repeat (obtain ⟨hz', fr'⟩ := fr'))); (try dsimp only at N'); (try k_sweep))))
local macro_rules | `(tactic| walk_at "call ref") => `(tactic| (k_here; k_dflt (refine' resp2U ?k1 ?k2 ?k3 ?k4 ?k5 ?k6 ?k7 ?k8 ?k9 ?kA ?kB ?kC ?kD ?kE ?kF ?_; (case k5 => exact rfl); (case k1 => k_asm); (case k2 => k_asm); (case k3 => k_asm); (case k4 => k_asm); (case k6 => k_asm); (case k7 => k_mem); (case k8 => k_mem); (case kC => assumption); (case k9 => k_mem); (case kA => k_mem); (case kD => assumption); (case kE => assumption); (case kB => k_updF); (case kF => assumption); intro h' tk' F' N'; (try dsimp only at N'); (try k_sweep))))
local macro_rules | `(tactic| walk_at "call ref") => `(tactic| (k_here; k_dflt (refine' bind3U ?k1 ?k2 ?k3 ?k4 ?k5 ?k6 ?k7 ?k8 ?k9 ?kA ?kB ?kC ?kD ?kE ?n1 ?n2 ?n3 ?n4 ?n5 ?n6 ?ra ?rb ?rc ?la ?lb ?lc ?_; (case k5 => exact rfl); (case k1 => k_asm); (case k2 => k_asm); (case k3 => k_asm); (case k4 => k_asm); (case k6 => k_asm); (case k7 => k_mem); (case k8 => k_mem); (case k9 => k_mem); (case kA => k_mem); (case kB => k_mem); (case n3 => assumption); (case n4 => assumption); (case kC => k_updF); (case kD => intro o'; k_updF); (case kE => intro o' o''; k_updF); (case n1 => assumption); (case n2 => assumption); (case n5 => assumption); (case n6 => assumption); (case ra => assumption); (case rb => assumption); (case rc => assumption); (case la => assumption); (case lb => assumption); (case lc => assumption); intro t1' t2' t3' t4' h' tk' F' N'; (try dsimp only at N'); (try k_sweep))))
local macro_rules | `(tactic| walk_at "call ref") => `(tactic| (k_here; k_dflt (refine' bind3bU ?k1 ?k2 ?k3 ?k4 ?k5 ?k6 ?k7 ?k8 ?k9 ?kA ?kB ?n1 ?n2 ?ra ?rb ?la ?lb ?_; (case k5 => exact rfl); (case k1 => k_asm); (case k2 => k_asm); (case k3 => k_asm); (case k4 => k_asm); (case k6 => k_asm); (case k7 => k_mem); (case k8 => k_mem); (case k9 => k_mem); (case kA => k_updF); (case kB => intro o'; k_updF); (case n1 => assumption); (case n2 => assumption); (case ra => assumption); (case rb => assumption); (case la => assumption); (case lb => assumption); intro t1' t2' t3' t4' h' tk' F' N'; (try dsimp only at N'); (try k_sweep))))
local macro_rules | `(tactic| walk_at "setAttr ref") => `(tactic| (k_here; k_dflt
  (refine' set_dict ?k1 ?k2 ?k3 ?k4 ?k5 ?k6 ?k7 ?k8 ?k9 ?k10 rfl ?k12 ?k13 ?_; (case k1 => k_asm); (case k2 => k_asm); (case k3 => k_asm); (case k4 => k_inst); (case k5 => exact rfl); (case k6 => k_is); (case k7 => k_is); (case k8 => k_is); (case k9 => k_is); (case k10 => first | exact getL_isSome (by assumption) | exact getL_isSome (noRef_put (by assumption))); (case k12 => k_upd); (case k13 => first | exact Nat.le_trans (Mine.putL_len _ _ _ _ _) (by omega) | exact Nat.le_trans (Mine.putL_len _ _ _ _ _) (Nat.le_trans (Nat.succ_le_succ (Mine.putL_len _ _ _ _ _)) (by omega))); k_whole; intro h' F' N'; (try k_sweep))))
local macro_rules | `(tactic| walk_at "UnrEnd") => `(tactic| (k_dflt (refine' unrEnd_tail ?kF ?kN ?kL ?_; (case kN => k_asm); (case kF => k_asm); (case kL => (simp only [AllLt, and_true]; assumption)))))
local macro_rules | `(tactic| tb_rel) => `(tactic| first | assumption | (intro p hp; exact newsAt (by k_asm) (.tail _ hp)) | (intro p hp; exact newsAt (by k_asm) (.tail _ (.tail _ hp))))
local macro_rules | `(tactic| walk_at "subscriptTail Name Name ref int") => `(tactic| (k_here; (with_reducible show wpAny _ _ (subscriptTail _ _ (Value.ref _) (Value.int _ _)) _ _ _); k_dflt (refine' nat_sub ?k1 ?k2 ?k3 ?k4 ?_ ?k5; (case k5 => with_unfolding_all rfl); (case k1 => k_asm); (case k2 => k_mem); (case k3 => assumption); (case k4 => omega); k_whole)))
local macro_rules | `(tactic| walk_at "subscriptTail Name Subscript ref int") => `(tactic| (k_here; (with_reducible show wpAny _ _ (subscriptTail _ _ (Value.ref _) (Value.int _ _)) _ _ _); k_dflt (refine' nat_sub ?k1 ?k2 ?k3 ?k4 ?_ ?k5; (case k5 => with_unfolding_all rfl); (case k1 => k_asm); (case k2 => k_mem); (case k3 => assumption); (case k4 => omega); k_whole)))
section
theorem s1 {mean : ExcName → Option Value} {mg mb : Str → Option Value} {w : World} {st : Stmt} {cs : Scope} {nm : Str} {fa : Addr} {cd : Value}
    {h₀ : Heap} {L : Addr} {m : Str → Option Value} {s : Shared} {tail : List (Addr × Obj)} {Q : Flow → Shared → Prop}
    {n : Int} {tn ti tj : Tok} {I J : Int}
    (hst : loopStmt? w.params 0 = some st) (hcs : lawScope? w.params = some cs)
    (B : Below callerA h₀ [] h₀) (F : Fr h₀ L s.heap m) (K : (KF w.params).In h₀) (T : Top Mine.V LS mean mg mb h₀)
    (hm : Has m [("n", .int n tn)])
    (N : News h₀ L s.heap (tail))
     
    
    (hq : ∀ t h' tk', Fr h₀ L h' (wr [("pick", .int (n.fmod 8) t), ("n", .int n tn)] m) → News h₀ L h' tail → Q .next { s with heap := h', toks := tk' }) :
    wpAny (model PySem.Challenge.rw_bj5003_01.row.prog w) (callerA.deeper (envOf nm cs L fa cd)) (exec st (envOf nm cs L fa cd)) Q (fun _ _ => False) s := by
  first
  | (
      injection hst with hst
      subst hst
      injection hcs with hcs
      subst hcs
      dsimp only
      replace F := fr_names F hm
      dsimp only [wr] at F
      revert K; k_fill; intro K
      k_steps
      exact hq _ _ _ (by k_asm) (by k_asm)
    )
theorem s2 {mean : ExcName → Option Value} {mg mb : Str → Option Value} {w : World} {st : Stmt} {cs : Scope} {nm : Str} {fa : Addr} {cd : Value}
    {h₀ : Heap} {L : Addr} {m : Str → Option Value} {s : Shared} {tail : List (Addr × Obj)} {Q : Flow → Shared → Prop}
    {n : Int} {tn ti tj : Tok} {I J : Int}
    (hst : loopStmt? w.params 1 = some st) (hcs : lawScope? w.params = some cs)
    (B : Below callerA h₀ [] h₀) (F : Fr h₀ L s.heap m) (K : (KF w.params).In h₀) (T : Top Mine.V LS mean mg mb h₀)
    (hm : Has m [("n", .int n tn)])
    (N : News h₀ L s.heap (tail))
     
    
    (hq : ∀ t h' tk', Fr h₀ L h' (wr [("i", .int ((n.fdiv 8).fmod 4) t), ("n", .int n tn)] m) → News h₀ L h' tail → Q .next { s with heap := h', toks := tk' }) :
    wpAny (model PySem.Challenge.rw_bj5003_01.row.prog w) (callerA.deeper (envOf nm cs L fa cd)) (exec st (envOf nm cs L fa cd)) Q (fun _ _ => False) s := by
  first
  | (
      injection hst with hst
      subst hst
      injection hcs with hcs
      subst hcs
      dsimp only
      replace F := fr_names F hm
      dsimp only [wr] at F
      revert K; k_fill; intro K
      k_steps
      exact hq _ _ _ (by k_asm) (by k_asm)
    )
theorem s3 {mean : ExcName → Option Value} {mg mb : Str → Option Value} {w : World} {st : Stmt} {cs : Scope} {nm : Str} {fa : Addr} {cd : Value}
    {h₀ : Heap} {L : Addr} {m : Str → Option Value} {s : Shared} {tail : List (Addr × Obj)} {Q : Flow → Shared → Prop}
    {n : Int} {tn ti tj : Tok} {I J : Int}
    (hst : loopStmt? w.params 2 = some st) (hcs : lawScope? w.params = some cs)
    (B : Below callerA h₀ [] h₀) (F : Fr h₀ L s.heap m) (K : (KF w.params).In h₀) (T : Top Mine.V LS mean mg mb h₀)
    (hm : Has m [("n", .int n tn), ("i", .int I ti)])
    (N : News h₀ L s.heap (tail))
     
    
    (hq : ∀ t h' tk', Fr h₀ L h' (wr [("j", .int ((I + 1 + (n.fdiv 32).fmod 3).fmod 4) t), ("n", .int n tn), ("i", .int I ti)] m) → News h₀ L h' tail → Q .next { s with heap := h', toks := tk' }) :
    wpAny (model PySem.Challenge.rw_bj5003_01.row.prog w) (callerA.deeper (envOf nm cs L fa cd)) (exec st (envOf nm cs L fa cd)) Q (fun _ _ => False) s := by
  first
  | (
      injection hst with hst
      subst hst
      injection hcs with hcs
      subst hcs
      dsimp only
      replace F := fr_names F hm
      dsimp only [wr] at F
      revert K; k_fill; intro K
      k_steps
      exact hq _ _ _ (by k_asm) (by k_asm)
    )
theorem s4 {mean : ExcName → Option Value} {mg mb : Str → Option Value} {w : World} {st : Stmt} {cs : Scope} {nm : Str} {fa : Addr} {cd : Value}
    {h₀ : Heap} {L : Addr} {m : Str → Option Value} {s : Shared} {tail : List (Addr × Obj)} {Q : Flow → Shared → Prop}
    {n : Int} {tn ti tj : Tok} {I J : Int}
    (hst : loopStmt? w.params 3 = some st) (hcs : lawScope? w.params = some cs)
    (B : Below callerA h₀ [] h₀) (F : Fr h₀ L s.heap m) (K : (KF w.params).In h₀) (T : Top Mine.V LS mean mg mb h₀)
    (hm : Has m [("n", .int n tn), ("j", .int J tj)])
    (N : News h₀ L s.heap (tail))
     
    
    (hq : ∀ t h' tk', Fr h₀ L h' (wr [("k", .int ((J + 1 + (n.fdiv 96).fmod 3).fmod 4) t), ("n", .int n tn), ("j", .int J tj)] m) → News h₀ L h' tail → Q .next { s with heap := h', toks := tk' }) :
    wpAny (model PySem.Challenge.rw_bj5003_01.row.prog w) (callerA.deeper (envOf nm cs L fa cd)) (exec st (envOf nm cs L fa cd)) Q (fun _ _ => False) s := by
  first
  | (
      injection hst with hst
      subst hst
      injection hcs with hcs
      subst hcs
      dsimp only
      replace F := fr_names F hm
      dsimp only [wr] at F
      revert K; k_fill; intro K
      k_steps
      exact hq _ _ _ (by k_asm) (by k_asm)
    )
end
section
theorem s7 {mean : ExcName → Option Value} {mg mb : Str → Option Value} {w : World} {st : Stmt} {cs : Scope} {nm : Str} {fa : Addr} {cd : Value}
    {h₀ : Heap} {L : Addr} {m : Str → Option Value} {s : Shared} {tail : List (Addr × Obj)} {Q : Flow → Shared → Prop}
    {P : Int} {tp ti tj : Tok} {I J : Nat} {a da b db la dl ul : Addr} {ea eb : List DictEntry} {na nb lc dc uc : Nat} {lits dits uits : Array Value}
    (hst : loopStmt? w.params 6 = some st) (hcs : lawScope? w.params = some cs)
    (B : Below callerA h₀ [] h₀) (F : Fr h₀ L s.heap m) (K : (KF w.params).In h₀) (T : Top Mine.V LS mean mg mb h₀)
    (hm : Has m [("pick", .int P tp), ("one", .ref a), ("layers", .ref la), ("i", .int (I : Int) ti), ("j", .int (J : Int) tj), ("down", .ref dl), ("up", .ref ul)])
    (N : News h₀ L s.heap ((a, instObj 1204 da) :: (da, dictOf ea na) :: (b, instObj 1204 db) :: (db, dictOf eb nb) :: (la, listOf lits lc) :: (dl, listOf dits dc) :: (ul, listOf uits uc) :: tail))
    (q0 : Dis da a) (q1 : Dis da b) (q2 : Dis da db) (q3 : Dis da la) (q4 : Dis da dl) (q5 : Dis da ul) (q6 : Dis db a) (q7 : Dis db b) (q8 : Dis db la) (q9 : Dis db dl) (q10 : Dis db ul) (q11 : Dis dl a) (q12 : Dis dl b) (q13 : Dis dl la) (q14 : Dis dl ul) (q15 : Dis ul a) (q16 : Dis ul b) (q17 : Dis ul la) (of0 : ∀ p ∈ tail, p.1 ≠ da) (of1 : ∀ p ∈ tail, p.1 ≠ db) (of2 : ∀ p ∈ tail, p.1 ≠ dl) (of3 : ∀ p ∈ tail, p.1 ≠ ul)
    (hI : I < 4) (hJ : J < 4) (hx : lits[J]? = some (.ref b)) (hd : dits.size = 4) (hu : uits.size = 4) (n2 : @Ne Nat a b) (n5 : @Ne Nat da db)
    (hga : (getL "clientPeer" ea).isSome = true) (hgb : (getL "serverPeer" eb).isSome = true) (hla : ea.length ≤ 900) (hlb : eb.length ≤ 900)
    (hq0 : P ≠ 0 ∧ P ≠ 1 → ∀  h' tk', Fr h₀ L h' (wr [("pick", .int P tp), ("one", .ref a), ("layers", .ref la), ("i", .int (I : Int) ti), ("j", .int (J : Int) tj), ("down", .ref dl), ("up", .ref ul)] m) → News h₀ L h' ((a, instObj 1204 da) :: (da, dictOf ea na) :: (b, instObj 1204 db) :: (db, dictOf eb nb) :: (la, listOf lits lc) :: (dl, listOf dits dc) :: (ul, listOf uits uc) :: tail) → Q .next { s with heap := h', toks := tk' })
    (hq1 : P = 0 ∨ P = 1 → ∀ t t'  h' tk', Fr h₀ L h' (wr [("pick", .int P tp), ("one", .ref a), ("layers", .ref la), ("i", .int (I : Int) ti), ("j", .int (J : Int) tj), ("down", .ref dl), ("up", .ref ul)] m) → News h₀ L h' ((a, instObj 1204 da) :: (da, dictOf (putL "clientPeer" (PyData.keyHash w.params "clientPeer") (.str "clientPeer" t) (.ref b) ea) (putN "clientPeer" ea na)) :: (b, instObj 1204 db) :: (db, dictOf (putL "serverPeer" (PyData.keyHash w.params "serverPeer") (.str "serverPeer" t') (.ref a) eb) (putN "serverPeer" eb nb)) :: (la, listOf lits lc) :: (dl, listOf (dits.setIfInBounds I (.int (J : Int) tj)) dc) :: (ul, listOf (uits.setIfInBounds J (.int (I : Int) ti)) uc) :: tail) → Q .next { s with heap := h', toks := tk' }) :
    wpAny (model PySem.Challenge.rw_bj5003_01.row.prog w) (callerA.deeper (envOf nm cs L fa cd)) (exec st (envOf nm cs L fa cd)) Q (fun _ _ => False) s := by
  first
  | (
      injection hst with hst
      subst hst
      injection hcs with hcs
      subst hcs
      dsimp only
      replace F := fr_names F hm
      dsimp only [wr] at F
      revert K; k_fill; intro K
      k_steps
      all_goals try (first | (refine' hq0 (by first | trivial | omega)  _ _ ?kf ?kn; (case kn => tb_rel); (case kf => k_asm)) | skip)
      all_goals try (first | (refine' hq1 (by first | trivial | omega) _ _ _ _ ?kf ?kn; (case kn => tb_rel); (case kf => k_asm)) | skip)
    )
end
section
theorem s8n {mean : ExcName → Option Value} {mg mb : Str → Option Value} {w : World} {st : Stmt} {cs : Scope} {nm : Str} {fa : Addr} {cd : Value}
    {h₀ : Heap} {L : Addr} {m : Str → Option Value} {s : Shared} {tail : List (Addr × Obj)} {Q : Flow → Shared → Prop}
    {P : Int} {tp ti : Tok} {I : Nat} {dl : Addr} {dc : Nat} {dits : Array Value}
    (hst : loopStmt? w.params 7 = some st) (hcs : lawScope? w.params = some cs)
    (B : Below callerA h₀ [] h₀) (F : Fr h₀ L s.heap m) (K : (KF w.params).In h₀) (T : Top Mine.V LS mean mg mb h₀)
    (hm : Has m [("pick", .int P tp), ("i", .int (I : Int) ti), ("down", .ref dl)])
    (N : News h₀ L s.heap ((dl, listOf dits dc) :: tail))
     
    (hI : I < 4) (hx : dits[I]? = some .none)
    (hq0 : True → ∀  h' tk', Fr h₀ L h' (wr [("pick", .int P tp), ("i", .int (I : Int) ti), ("down", .ref dl)] m) → News h₀ L h' ((dl, listOf dits dc) :: tail) → Q .next { s with heap := h', toks := tk' }) :
    wpAny (model PySem.Challenge.rw_bj5003_01.row.prog w) (callerA.deeper (envOf nm cs L fa cd)) (exec st (envOf nm cs L fa cd)) Q (fun _ _ => False) s := by
  first
  | (
      injection hst with hst
      subst hst
      injection hcs with hcs
      subst hcs
      dsimp only
      replace F := fr_names F hm
      dsimp only [wr] at F
      revert K; k_fill; intro K
      k_steps
      all_goals try (first | (refine' hq0 (by first | trivial | omega)  _ _ ?kf ?kn; (case kn => tb_rel); (case kf => k_asm)) | skip)
    )
theorem s8 {mean : ExcName → Option Value} {mg mb : Str → Option Value} {w : World} {st : Stmt} {cs : Scope} {nm : Str} {fa : Addr} {cd : Value}
    {h₀ : Heap} {L : Addr} {m : Str → Option Value} {s : Shared} {tail : List (Addr × Obj)} {Q : Flow → Shared → Prop}
    {P : Int} {tp ti tj : Tok} {I J : Nat} {a da b db t la dl ao ib dt v : Addr} {ea eb et : List DictEntry} {na nb c dc acc bc nt : Nat} {items dits aits bits : Array Value}
    (hst : loopStmt? w.params 7 = some st) (hcs : lawScope? w.params = some cs)
    (B : Below callerA h₀ [] h₀) (F : Fr h₀ L s.heap m) (K : (KF w.params).In h₀) (T : Top Mine.V LS mean mg mb h₀)
    (hm : Has m [("pick", .int P tp), ("one", .ref a), ("thing", .ref t), ("i", .int (I : Int) ti), ("down", .ref dl), ("asked", .ref ao)])
    (N : News h₀ L s.heap ((a, instObj 1204 da) :: (da, dictOf ea na) :: (b, instObj 1204 db) :: (db, dictOf eb nb) :: (t, instObj 587 dt) :: (dt, dictOf et nt) :: (la, listOf items c) :: (dl, listOf dits dc) :: (ao, listOf aits acc) :: (ib, listOf bits bc) :: tail))
    (q0 : Dis la a) (q1 : Dis la da) (q2 : Dis la b) (q3 : Dis la db) (q4 : Dis la t) (q5 : Dis la dt) (q6 : Dis la dl) (q7 : Dis la ao) (q8 : Dis la ib) (q9 : Dis ib a) (q10 : Dis ib da) (q11 : Dis ib b) (q12 : Dis ib db) (q13 : Dis ib t) (q14 : Dis ib dt) (q15 : Dis ib dl) (q16 : Dis ib ao) (of0 : ∀ p ∈ tail, p.1 ≠ la) (of1 : ∀ p ∈ tail, p.1 ≠ ib)
    (hI : I < 4) (hJ : J < 4) (hx : dits[I]? = some (.int (J : Int) tj)) (hy : aits[J]? = some (.ref ib)) (hr : getL "request" ea = some none)
    (hpeer : getL "clientPeer" ea = some (some (.ref b))) (hmeth : getL "indication" eb = some none) (hlst : getL "asked" eb = some (some (.ref la))) (hdest : getL "pduDestination" et = some (some (.ref v))) (hsz : items.size ≤ sizeLine) (hsz2 : bits.size ≤ sizeLine)
    (hq0 : P ≠ 2 → ∀  h' tk', Fr h₀ L h' (wr [("pick", .int P tp), ("one", .ref a), ("thing", .ref t), ("i", .int (I : Int) ti), ("down", .ref dl), ("asked", .ref ao)] m) → News h₀ L h' ((a, instObj 1204 da) :: (da, dictOf ea na) :: (b, instObj 1204 db) :: (db, dictOf eb nb) :: (t, instObj 587 dt) :: (dt, dictOf et nt) :: (la, listOf items c) :: (dl, listOf dits dc) :: (ao, listOf aits acc) :: (ib, listOf bits bc) :: tail) → Q .next { s with heap := h', toks := tk' })
    (hq1 : P = 2 → ∀ u  h' tk', Fr h₀ L h' (wr [("pick", .int P tp), ("one", .ref a), ("thing", .ref t), ("i", .int (I : Int) ti), ("down", .ref dl), ("asked", .ref ao)] m) → News h₀ L h' ((u, ({ cls := .type "tuple", data := .seq #[.ref v, .ref t] } : Obj)) :: (a, instObj 1204 da) :: (da, dictOf ea na) :: (b, instObj 1204 db) :: (db, dictOf eb nb) :: (t, instObj 587 dt) :: (dt, dictOf et nt) :: (la, listOf (items.push (.ref u)) (c + 1)) :: (dl, listOf dits dc) :: (ao, listOf aits acc) :: (ib, listOf (bits.push (.ref t)) (bc + 1)) :: tail) → Q .next { s with heap := h', toks := tk' }) :
    wpAny (model PySem.Challenge.rw_bj5003_01.row.prog w) (callerA.deeper (envOf nm cs L fa cd)) (exec st (envOf nm cs L fa cd)) Q (fun _ _ => False) s := by
  first
  | (
      injection hst with hst
      subst hst
      injection hcs with hcs
      subst hcs
      dsimp only
      replace F := fr_names F hm
      dsimp only [wr] at F
      revert K; k_fill; intro K
      k_steps
      all_goals try (first | (refine' hq0 (by first | trivial | omega)  _ _ ?kf ?kn; (case kn => tb_rel); (case kf => k_asm)) | skip)
      all_goals try (first | (refine' hq1 (by first | trivial | omega) _ _ _ ?kf ?kn; (case kn => tb_rel); (case kf => k_asm)) | skip)
    )
end
section
theorem s9n {mean : ExcName → Option Value} {mg mb : Str → Option Value} {w : World} {st : Stmt} {cs : Scope} {nm : Str} {fa : Addr} {cd : Value}
    {h₀ : Heap} {L : Addr} {m : Str → Option Value} {s : Shared} {tail : List (Addr × Obj)} {Q : Flow → Shared → Prop}
    {P : Int} {tp ti : Tok} {I : Nat} {dl : Addr} {dc : Nat} {dits : Array Value}
    (hst : loopStmt? w.params 8 = some st) (hcs : lawScope? w.params = some cs)
    (B : Below callerA h₀ [] h₀) (F : Fr h₀ L s.heap m) (K : (KF w.params).In h₀) (T : Top Mine.V LS mean mg mb h₀)
    (hm : Has m [("pick", .int P tp), ("i", .int (I : Int) ti), ("up", .ref dl)])
    (N : News h₀ L s.heap ((dl, listOf dits dc) :: tail))
     
    (hI : I < 4) (hx : dits[I]? = some .none)
    (hq0 : True → ∀  h' tk', Fr h₀ L h' (wr [("pick", .int P tp), ("i", .int (I : Int) ti), ("up", .ref dl)] m) → News h₀ L h' ((dl, listOf dits dc) :: tail) → Q .next { s with heap := h', toks := tk' }) :
    wpAny (model PySem.Challenge.rw_bj5003_01.row.prog w) (callerA.deeper (envOf nm cs L fa cd)) (exec st (envOf nm cs L fa cd)) Q (fun _ _ => False) s := by
  first
  | (
      injection hst with hst
      subst hst
      injection hcs with hcs
      subst hcs
      dsimp only
      replace F := fr_names F hm
      dsimp only [wr] at F
      revert K; k_fill; intro K
      k_steps
      all_goals try (first | (refine' hq0 (by first | trivial | omega)  _ _ ?kf ?kn; (case kn => tb_rel); (case kf => k_asm)) | skip)
    )
theorem s9 {mean : ExcName → Option Value} {mg mb : Str → Option Value} {w : World} {st : Stmt} {cs : Scope} {nm : Str} {fa : Addr} {cd : Value}
    {h₀ : Heap} {L : Addr} {m : Str → Option Value} {s : Shared} {tail : List (Addr × Obj)} {Q : Flow → Shared → Prop}
    {P : Int} {tp ti tj : Tok} {I J : Nat} {a da b db t la dl ao ib : Addr} {ea eb : List DictEntry} {na nb c dc acc bc : Nat} {items dits aits bits : Array Value}
    (hst : loopStmt? w.params 8 = some st) (hcs : lawScope? w.params = some cs)
    (B : Below callerA h₀ [] h₀) (F : Fr h₀ L s.heap m) (K : (KF w.params).In h₀) (T : Top Mine.V LS mean mg mb h₀)
    (hm : Has m [("pick", .int P tp), ("one", .ref a), ("thing", .ref t), ("i", .int (I : Int) ti), ("up", .ref dl), ("told", .ref ao)])
    (N : News h₀ L s.heap ((a, instObj 1204 da) :: (da, dictOf ea na) :: (b, instObj 1204 db) :: (db, dictOf eb nb) :: (la, listOf items c) :: (dl, listOf dits dc) :: (ao, listOf aits acc) :: (ib, listOf bits bc) :: tail))
    (q0 : Dis la a) (q1 : Dis la da) (q2 : Dis la b) (q3 : Dis la db) (q4 : Dis la dl) (q5 : Dis la ao) (q6 : Dis la ib) (q7 : Dis ib a) (q8 : Dis ib da) (q9 : Dis ib b) (q10 : Dis ib db) (q11 : Dis ib dl) (q12 : Dis ib ao) (of0 : ∀ p ∈ tail, p.1 ≠ la) (of1 : ∀ p ∈ tail, p.1 ≠ ib)
    (hI : I < 4) (hJ : J < 4) (hx : dits[I]? = some (.int (J : Int) tj)) (hy : aits[J]? = some (.ref ib)) (hr : getL "response" ea = some none)
    (hpeer : getL "serverPeer" ea = some (some (.ref b))) (hmeth : getL "confirmation" eb = some none) (hlst : getL "told" eb = some (some (.ref la))) (hsz : items.size ≤ sizeLine) (hsz2 : bits.size ≤ sizeLine)
    (hq0 : P ≠ 3 → ∀  h' tk', Fr h₀ L h' (wr [("pick", .int P tp), ("one", .ref a), ("thing", .ref t), ("i", .int (I : Int) ti), ("up", .ref dl), ("told", .ref ao)] m) → News h₀ L h' ((a, instObj 1204 da) :: (da, dictOf ea na) :: (b, instObj 1204 db) :: (db, dictOf eb nb) :: (la, listOf items c) :: (dl, listOf dits dc) :: (ao, listOf aits acc) :: (ib, listOf bits bc) :: tail) → Q .next { s with heap := h', toks := tk' })
    (hq1 : P = 3 → ∀  h' tk', Fr h₀ L h' (wr [("pick", .int P tp), ("one", .ref a), ("thing", .ref t), ("i", .int (I : Int) ti), ("up", .ref dl), ("told", .ref ao)] m) → News h₀ L h' ((a, instObj 1204 da) :: (da, dictOf ea na) :: (b, instObj 1204 db) :: (db, dictOf eb nb) :: (la, listOf (items.push (.ref t)) (c + 1)) :: (dl, listOf dits dc) :: (ao, listOf aits acc) :: (ib, listOf (bits.push (.ref t)) (bc + 1)) :: tail) → Q .next { s with heap := h', toks := tk' }) :
    wpAny (model PySem.Challenge.rw_bj5003_01.row.prog w) (callerA.deeper (envOf nm cs L fa cd)) (exec st (envOf nm cs L fa cd)) Q (fun _ _ => False) s := by
  first
  | (
      injection hst with hst
      subst hst
      injection hcs with hcs
      subst hcs
      dsimp only
      replace F := fr_names F hm
      dsimp only [wr] at F
      revert K; k_fill; intro K
      k_steps
      all_goals try (first | (refine' hq0 (by first | trivial | omega)  _ _ ?kf ?kn; (case kn => tb_rel); (case kf => k_asm)) | skip)
      all_goals try (first | (refine' hq1 (by first | trivial | omega)  _ _ ?kf ?kn; (case kn => tb_rel); (case kf => k_asm)) | skip)
    )
end
section
theorem s10 {mean : ExcName → Option Value} {mg mb : Str → Option Value} {w : World} {st : Stmt} {cs : Scope} {nm : Str} {fa : Addr} {cd : Value}
    {h₀ : Heap} {L : Addr} {m : Str → Option Value} {s : Shared} {tail : List (Addr × Obj)} {Q : Flow → Shared → Prop}
    {P : Int} {tp ti tj th : Tok} {I J H : Nat} {a da b db c dc la dl ul : Addr} {ea eb ec : List DictEntry} {na nb nc lc dlc uc : Nat} {lits dits uits : Array Value}
    (hst : loopStmt? w.params 9 = some st) (hcs : lawScope? w.params = some cs)
    (B : Below callerA h₀ [] h₀) (F : Fr h₀ L s.heap m) (K : (KF w.params).In h₀) (T : Top Mine.V LS mean mg mb h₀)
    (hm : Has m [("pick", .int P tp), ("one", .ref a), ("layers", .ref la), ("i", .int (I : Int) ti), ("j", .int (J : Int) tj), ("k", .int (H : Int) th), ("down", .ref dl), ("up", .ref ul)])
    (N : News h₀ L s.heap ((a, instObj 1204 da) :: (da, dictOf ea na) :: (b, instObj 1204 db) :: (db, dictOf eb nb) :: (c, instObj 1204 dc) :: (dc, dictOf ec nc) :: (la, listOf lits lc) :: (dl, listOf dits dlc) :: (ul, listOf uits uc) :: tail))
    (q0 : Dis da a) (q1 : Dis da b) (q2 : Dis da db) (q3 : Dis da c) (q4 : Dis da dc) (q5 : Dis da la) (q6 : Dis da dl) (q7 : Dis da ul) (q8 : Dis db a) (q9 : Dis db b) (q10 : Dis db c) (q11 : Dis db dc) (q12 : Dis db la) (q13 : Dis db dl) (q14 : Dis db ul) (q15 : Dis dc a) (q16 : Dis dc b) (q17 : Dis dc c) (q18 : Dis dc la) (q19 : Dis dc dl) (q20 : Dis dc ul) (q21 : Dis dl a) (q22 : Dis dl b) (q23 : Dis dl c) (q24 : Dis dl la) (q25 : Dis dl ul) (q26 : Dis ul a) (q27 : Dis ul b) (q28 : Dis ul c) (q29 : Dis ul la) (of0 : ∀ p ∈ tail, p.1 ≠ da) (of1 : ∀ p ∈ tail, p.1 ≠ db) (of2 : ∀ p ∈ tail, p.1 ≠ dc) (of3 : ∀ p ∈ tail, p.1 ≠ dl) (of4 : ∀ p ∈ tail, p.1 ≠ ul)
    (hI : I < 4) (hJ : J < 4) (hH : H < 4) (hx : lits[J]? = some (.ref b)) (hz : lits[H]? = some (.ref c)) (hd : dits.size = 4) (hu : uits.size = 4) (ra : NoRef ea) (rb : NoRef eb) (hla : ea.length ≤ 900) (hlb : eb.length ≤ 900) (rc : NoRef ec) (hlc : ec.length ≤ 900) (n1 : Dis a b) (n3 : Dis c a) (n4 : Dis c b) (n5 : Dis dc da) (n6 : Dis dc db)
    (hq0 : P ≠ 4 → ∀  h' tk', Fr h₀ L h' (wr [("pick", .int P tp), ("one", .ref a), ("layers", .ref la), ("i", .int (I : Int) ti), ("j", .int (J : Int) tj), ("k", .int (H : Int) th), ("down", .ref dl), ("up", .ref ul)] m) → News h₀ L h' ((a, instObj 1204 da) :: (da, dictOf ea na) :: (b, instObj 1204 db) :: (db, dictOf eb nb) :: (c, instObj 1204 dc) :: (dc, dictOf ec nc) :: (la, listOf lits lc) :: (dl, listOf dits dlc) :: (ul, listOf uits uc) :: tail) → Q .next { s with heap := h', toks := tk' })
    (hq1 : P = 4 → ∀ t1 t2 t3 t4  h' tk', Fr h₀ L h' (wr [("pick", .int P tp), ("one", .ref a), ("layers", .ref la), ("i", .int (I : Int) ti), ("j", .int (J : Int) tj), ("k", .int (H : Int) th), ("down", .ref dl), ("up", .ref ul)] m) → News h₀ L h' ((a, instObj 1204 da) :: (da, dictOf (dCP w t1 b ea) (putN "clientPeer" ea na)) :: (b, instObj 1204 db) :: (db, dictOf (dCP w t3 c (dSP w t2 a eb)) (putN "clientPeer" (dSP w t2 a eb) (putN "serverPeer" eb nb))) :: (c, instObj 1204 dc) :: (dc, dictOf (dSP w t4 b ec) (putN "serverPeer" ec nc)) :: (la, listOf lits lc) :: (dl, listOf ((dits.setIfInBounds I (.int (J : Int) tj)).setIfInBounds J (.int (H : Int) th)) dlc) :: (ul, listOf ((uits.setIfInBounds J (.int (I : Int) ti)).setIfInBounds H (.int (J : Int) tj)) uc) :: tail) → Q .next { s with heap := h', toks := tk' }) :
    wpAny (model PySem.Challenge.rw_bj5003_01.row.prog w) (callerA.deeper (envOf nm cs L fa cd)) (exec st (envOf nm cs L fa cd)) Q (fun _ _ => False) s := by
  first
  | (
      injection hst with hst
      subst hst
      injection hcs with hcs
      subst hcs
      dsimp only
      replace F := fr_names F hm
      dsimp only [wr] at F
      revert K; k_fill; intro K
      k_steps
      all_goals try (first | (refine' hq0 (by first | trivial | omega)  _ _ ?kf ?kn; (case kn => tb_rel); (case kf => k_asm)) | skip)
      all_goals try (first | (refine' hq1 (by first | trivial | omega) _ _ _ _ _ _ ?kf ?kn; (case kn => tb_rel); (case kf => k_asm)) | skip)
    )
theorem s10b {mean : ExcName → Option Value} {mg mb : Str → Option Value} {w : World} {st : Stmt} {cs : Scope} {nm : Str} {fa : Addr} {cd : Value}
    {h₀ : Heap} {L : Addr} {m : Str → Option Value} {s : Shared} {tail : List (Addr × Obj)} {Q : Flow → Shared → Prop}
    {P : Int} {tp ti tj th : Tok} {I J H : Nat} {a da b db la dl ul : Addr} {ea eb : List DictEntry} {na nb lc dlc uc : Nat} {lits dits uits : Array Value}
    (hst : loopStmt? w.params 9 = some st) (hcs : lawScope? w.params = some cs)
    (B : Below callerA h₀ [] h₀) (F : Fr h₀ L s.heap m) (K : (KF w.params).In h₀) (T : Top Mine.V LS mean mg mb h₀)
    (hm : Has m [("pick", .int P tp), ("one", .ref a), ("layers", .ref la), ("i", .int (I : Int) ti), ("j", .int (J : Int) tj), ("k", .int (H : Int) th), ("down", .ref dl), ("up", .ref ul)])
    (N : News h₀ L s.heap ((a, instObj 1204 da) :: (da, dictOf ea na) :: (b, instObj 1204 db) :: (db, dictOf eb nb) :: (la, listOf lits lc) :: (dl, listOf dits dlc) :: (ul, listOf uits uc) :: tail))
    (q0 : Dis da a) (q1 : Dis da b) (q2 : Dis da db) (q3 : Dis da la) (q4 : Dis da dl) (q5 : Dis da ul) (q6 : Dis db a) (q7 : Dis db b) (q8 : Dis db la) (q9 : Dis db dl) (q10 : Dis db ul) (q11 : Dis dl a) (q12 : Dis dl b) (q13 : Dis dl la) (q14 : Dis dl ul) (q15 : Dis ul a) (q16 : Dis ul b) (q17 : Dis ul la) (of0 : ∀ p ∈ tail, p.1 ≠ da) (of1 : ∀ p ∈ tail, p.1 ≠ db) (of2 : ∀ p ∈ tail, p.1 ≠ dl) (of3 : ∀ p ∈ tail, p.1 ≠ ul)
    (hI : I < 4) (hJ : J < 4) (hH : H < 4) (hx : lits[J]? = some (.ref b)) (hz : lits[H]? = some (.ref a)) (hd : dits.size = 4) (hu : uits.size = 4) (ra : NoRef ea) (rb : NoRef eb) (hla : ea.length ≤ 900) (hlb : eb.length ≤ 900) (n1 : Dis a b)
    (hq0 : P ≠ 4 → ∀  h' tk', Fr h₀ L h' (wr [("pick", .int P tp), ("one", .ref a), ("layers", .ref la), ("i", .int (I : Int) ti), ("j", .int (J : Int) tj), ("k", .int (H : Int) th), ("down", .ref dl), ("up", .ref ul)] m) → News h₀ L h' ((a, instObj 1204 da) :: (da, dictOf ea na) :: (b, instObj 1204 db) :: (db, dictOf eb nb) :: (la, listOf lits lc) :: (dl, listOf dits dlc) :: (ul, listOf uits uc) :: tail) → Q .next { s with heap := h', toks := tk' })
    (hq1 : P = 4 → ∀ t1 t2 t3 t4  h' tk', Fr h₀ L h' (wr [("pick", .int P tp), ("one", .ref a), ("layers", .ref la), ("i", .int (I : Int) ti), ("j", .int (J : Int) tj), ("k", .int (H : Int) th), ("down", .ref dl), ("up", .ref ul)] m) → News h₀ L h' ((a, instObj 1204 da) :: (da, dictOf (dSP w t4 b (dCP w t1 b ea)) (putN "serverPeer" (dCP w t1 b ea) (putN "clientPeer" ea na))) :: (b, instObj 1204 db) :: (db, dictOf (dCP w t3 a (dSP w t2 a eb)) (putN "clientPeer" (dSP w t2 a eb) (putN "serverPeer" eb nb))) :: (la, listOf lits lc) :: (dl, listOf ((dits.setIfInBounds I (.int (J : Int) tj)).setIfInBounds J (.int (H : Int) th)) dlc) :: (ul, listOf ((uits.setIfInBounds J (.int (I : Int) ti)).setIfInBounds H (.int (J : Int) tj)) uc) :: tail) → Q .next { s with heap := h', toks := tk' }) :
    wpAny (model PySem.Challenge.rw_bj5003_01.row.prog w) (callerA.deeper (envOf nm cs L fa cd)) (exec st (envOf nm cs L fa cd)) Q (fun _ _ => False) s := by
  first
  | (
      injection hst with hst
      subst hst
      injection hcs with hcs
      subst hcs
      dsimp only
      replace F := fr_names F hm
      dsimp only [wr] at F
      revert K; k_fill; intro K
      k_steps
      all_goals try (first | (refine' hq0 (by first | trivial | omega)  _ _ ?kf ?kn; (case kn => tb_rel); (case kf => k_asm)) | skip)
      all_goals try (first | (refine' hq1 (by first | trivial | omega) _ _ _ _ _ _ ?kf ?kn; (case kn => tb_rel); (case kf => k_asm)) | skip)
    )
end
section
theorem s11 {mean : ExcName → Option Value} {mg mb : Str → Option Value} {w : World} {st : Stmt} {cs : Scope} {nm : Str} {fa : Addr} {cd : Value}
    {h₀ : Heap} {L : Addr} {m : Str → Option Value} {s : Shared} {tail : List (Addr × Obj)} {Q : Flow → Shared → Prop}
    {P : Int} {tp : Tok} {a da : Addr} {ea : List DictEntry} {na : Nat}
    (hst : loopStmt? w.params 10 = some st) (hcs : lawScope? w.params = some cs)
    (B : Below callerA h₀ [] h₀) (F : Fr h₀ L s.heap m) (K : (KF w.params).In h₀) (T : Top Mine.V LS mean mg mb h₀)
    (hm : Has m [("pick", .int P tp), ("one", .ref a)])
    (N : News h₀ L s.heap ((a, instObj 1204 da) :: (da, dictOf ea na) :: tail))
     
    
    (hq0 : True → ∀  h' tk', Fr h₀ L h' (wr [("pick", .int P tp), ("one", .ref a)] m) → News h₀ L h' ((a, instObj 1204 da) :: (da, dictOf ea na) :: tail) → Q .next { s with heap := h', toks := tk' }) :
    wpAny (model PySem.Challenge.rw_bj5003_01.row.prog w) (callerA.deeper (envOf nm cs L fa cd)) (exec st (envOf nm cs L fa cd)) Q (fun _ _ => False) s := by
  first
  | (
      injection hst with hst
      subst hst
      injection hcs with hcs
      subst hcs
      dsimp only
      replace F := fr_names F hm
      dsimp only [wr] at F
      revert K; k_fill; intro K
      k_steps
      all_goals try (first | (refine' hq0 (by first | trivial | omega)  _ _ ?kf ?kn; (case kn => tb_rel); (case kf => k_asm)) | skip)
    )
end
section
local macro_rules | `(tactic| walk_at "noteFrame ref") => `(tactic| (k_here; (rename RaisedK _ _ _ _ _ _ _ _ => rkX); k_dflt k_caught0; intro h' n₂ F' N₂ G' N'; (try k_sweep)))
theorem s12 {mean : ExcName → Option Value} {mg mb : Str → Option Value} {w : World} {st : Stmt} {cs : Scope} {nm : Str} {fa : Addr} {cd : Value}
    {h₀ : Heap} {L : Addr} {m : Str → Option Value} {s : Shared} {tail : List (Addr × Obj)} {Q : Flow → Shared → Prop}
    {P : Int} {tp ti tj th : Tok} {I J H : Nat} {a da b db c la dl ul : Addr} {ea eb : List DictEntry} {na nb lc dlc uc : Nat} {lits dits uits : Array Value}
    (hst : loopStmt? w.params 11 = some st) (hcs : lawScope? w.params = some cs)
    (B : Below callerA h₀ [] h₀) (F : Fr h₀ L s.heap m) (K : (KF w.params).In h₀) (T : Top Mine.V LS mean mg mb h₀)
    (hm : Has m [("pick", .int P tp), ("one", .ref a), ("layers", .ref la), ("i", .int (I : Int) ti), ("j", .int (J : Int) tj), ("k", .int (H : Int) th), ("down", .ref dl), ("up", .ref ul)])
    (N : News h₀ L s.heap ((a, instObj 1204 da) :: (da, dictOf ea na) :: (b, instObj 1204 db) :: (db, dictOf eb nb) :: (la, listOf lits lc) :: (dl, listOf dits dlc) :: (ul, listOf uits uc) :: tail))
    (q0 : Dis da a) (q1 : Dis da b) (q2 : Dis da db) (q3 : Dis da la) (q4 : Dis da dl) (q5 : Dis da ul) (q6 : Dis db a) (q7 : Dis db b) (q8 : Dis db la) (q9 : Dis db dl) (q10 : Dis db ul) (q11 : Dis dl a) (q12 : Dis dl b) (q13 : Dis dl la) (q14 : Dis dl ul) (q15 : Dis ul a) (q16 : Dis ul b) (q17 : Dis ul la) (of0 : ∀ p ∈ tail, p.1 ≠ da) (of1 : ∀ p ∈ tail, p.1 ≠ db) (of2 : ∀ p ∈ tail, p.1 ≠ dl) (of3 : ∀ p ∈ tail, p.1 ≠ ul)
    (hI : I < 4) (hJ : J < 4) (hH : H < 4) (hx : lits[J]? = some (.ref b)) (hz : lits[H]? = some (.ref c)) (hd : dits.size = 4) (hu : uits.size = 4) (ra : NoRef ea) (rb : NoRef eb) (hla : ea.length ≤ 900) (hlb : eb.length ≤ 900) (n1 : Dis a b)
    (hq0 : P ≠ 6 → ∀  h' tk', Fr h₀ L h' (wr [("pick", .int P tp), ("one", .ref a), ("layers", .ref la), ("i", .int (I : Int) ti), ("j", .int (J : Int) tj), ("k", .int (H : Int) th), ("down", .ref dl), ("up", .ref ul)] m) → News h₀ L h' ((a, instObj 1204 da) :: (da, dictOf ea na) :: (b, instObj 1204 db) :: (db, dictOf eb nb) :: (la, listOf lits lc) :: (dl, listOf dits dlc) :: (ul, listOf uits uc) :: tail) → Q .next { s with heap := h', toks := tk' })
    (hq1 : P = 6 → ∀ t1 t2  h' tk', Fr h₀ L h' (wr [("refused", .bool true), ("refused", .bool false), ("pick", .int P tp), ("one", .ref a), ("layers", .ref la), ("i", .int (I : Int) ti), ("j", .int (J : Int) tj), ("k", .int (H : Int) th), ("down", .ref dl), ("up", .ref ul)] m) → News h₀ L h' ((a, instObj 1204 da) :: (da, dictOf (dCP w t1 b ea) (putN "clientPeer" ea na)) :: (b, instObj 1204 db) :: (db, dictOf (dSP w t2 a eb) (putN "serverPeer" eb nb)) :: (la, listOf lits lc) :: (dl, listOf (dits.setIfInBounds I (.int (J : Int) tj)) dlc) :: (ul, listOf (uits.setIfInBounds J (.int (I : Int) ti)) uc) :: tail) → Q .next { s with heap := h', toks := tk' }) :
    wpAny (model PySem.Challenge.rw_bj5003_01.row.prog w) (callerA.deeper (envOf nm cs L fa cd)) (exec st (envOf nm cs L fa cd)) Q (fun _ _ => False) s := by
  first
  | (
      injection hst with hst
      subst hst
      injection hcs with hcs
      subst hcs
      dsimp only
      replace F := fr_names F hm
      dsimp only [wr] at F
      revert K; k_fill; intro K
      k_steps
      all_goals try (first | (refine' hq0 (by first | trivial | omega)  _ _ ?kf ?kn; (case kn => tb_rel); (case kf => k_asm)) | skip)
      all_goals try (first | (refine' hq1 (by first | trivial | omega) _ _ _ _ ?kf ?kn; (case kn => tb_rel); (case kf => k_asm)) | skip)
    )
end
section

local macro_rules | `(tactic| walk_at "call builtin:_struct.pack") => `(tactic| (k_here; k_dflt (refine packB (by omega) ?_); intro b' t' tk'))
theorem s6 {mean : ExcName → Option Value} {mg mb : Str → Option Value} {w : World} {st : Stmt} {cs : Scope} {nm : Str} {fa : Addr} {cd : Value}
    {h₀ : Heap} {L : Addr} {m : Str → Option Value} {s : Shared} {tail : List (Addr × Obj)} {Q : Flow → Shared → Prop} {n : Int} {tn ti : Tok} {I : Nat}
    (hst : loopStmt? w.params 5 = some st) (hcs : lawScope? w.params = some cs)
    (B : Below callerA h₀ [] h₀) (F : Fr h₀ L s.heap m) (K : (KF w.params).In h₀) (T : Top Mine.V LS mean mg mb h₀)
    (hm : Has m [("n", .int n tn), ("i", .int (I : Int) ti)]) (hI : I < 4)
    (N : News h₀ L s.heap tail)
    (hq : ∀ t dt v es k h' tk', Fr h₀ L h' (wr [("thing", .ref t), ("n", .int n tn), ("i", .int (I : Int) ti)] m) → News h₀ L h' ((t, instObj 587 dt) :: (dt, dictOf es k) :: tail) → getL "pduDestination" es = some (some (.ref v)) → Q .next { s with heap := h', toks := tk' }) :
    wpN (model PySem.Challenge.rw_bj5003_01.row.prog w) (callerA.deeper (envOf nm cs L fa cd)) (exec st (envOf nm cs L fa cd)) Q (fun _ _ => False) s := by
  first
  | (
      injection hst with hst
      subst hst
      injection hcs with hcs
      subst hcs
      dsimp only
      replace F := fr_names F hm
      dsimp only [wr] at F
      revert K; k_fill; intro K
      have Nold : ∀ p ∈ tail, p.1 ≠ L ∧ h₀.get? p.1 = none := fun p hp => (N p hp).2
      refine nAssign_Name (nCall ?_)
      k_steps
      refine nCallWith (P := fun h => (KF w.params).In h) (keeps_K (by k_is)) (evalArgs_kw2 rfl ?_)
      k_steps
      refine wpN_call (pduN (A₀ := callerA) (base := h₀) (outer := []) (by assumption) (by k_asm) (by assumption) (by assumption) rfl (Nat.lt_of_le_of_lt (by omega) room1) (Nat.lt_of_le_of_lt (by omega) room2) ?kz fun x dx h' tk' es k F' kept N' hd => ?_)
      case kz => show (1 : Nat) ≤ sizeLine; decide +kernel
      dsimp only
      have Nt : News h₀ L h' tail := by
        intro p hp
        refine ⟨kept _ _ (newsAt (h₀ := h₀) (L := L) (p := p) (by k_asm) ?_).1, Nold p hp⟩
        repeat (first | exact hp | refine List.Mem.tail _ ?_)
      have Np : News h₀ L h' ((x, instObj 587 dx) :: (dx, dictOf es k) :: tail) := List.forall_mem_cons.mpr ⟨N' _ (.head _), List.forall_mem_cons.mpr ⟨N' _ (.tail _ (.head _)), Nt⟩⟩
      clear Nt N' kept
      k_steps
      exact hq _ _ _ _ _ _ _ (by k_asm) (by k_asm) hd
    )
end
section

theorem sz0 : (#[] : Array Value).size ≤ sizeLine := Nat.zero_le _
theorem sz1 {x : Value} : ((#[] : Array Value).push x).size ≤ sizeLine := by
  rw [Array.size_push]
  show (0 + 1 : Nat) ≤ sizeLine
  decide +kernel
theorem sz2 {x y : Value} : (((#[] : Array Value).push x).push y).size ≤ sizeLine := by
  rw [Array.size_push, Array.size_push]
  show (0 + 1 + 1 : Nat) ≤ sizeLine
  decide +kernel
local macro_rules | `(tactic| walk_at "call ref") => `(tactic| (k_here; k_dflt (refine' bindESU ?k1 ?k2 ?k3 ?k4 ?k5 ?k6 ?k7 ?k8 ?k9 ?kA ?kB ?kC ?kD ?kE ?kF ?kG ?_; (case k1 => k_asm); (case k2 => k_asm); (case k3 => k_asm); (case k4 => k_asm); (case k5 => exact rfl); (case k6 => k_asm); (case k7 => k_mem); (case k8 => k_mem); (case k9 => k_updF); (case kA => (intro o'; k_updF)); (case kB => k_ne); (case kC => k_ne); (case kD => first | assumption | exact rfl | exact getL_isSome (by assumption)); (case kE => first | assumption | exact rfl | exact getL_isSome (by assumption)); (case kF => first | assumption | exact Nat.le_of_ble_eq_true rfl); (case kG => first | assumption | exact Nat.le_of_ble_eq_true rfl); k_whole; intro t' t'' h' tk' F' N'; (try dsimp only at N'); (try k_sweep))))
local macro_rules | `(tactic| walk_at "call ref") => `(tactic| (k_here; k_dflt (refine' bindLBU ?k1 ?k2 ?k3 ?k4 ?k5 ?k6 ?k7 ?k8 ?k9 ?kA ?kB ?kC ?kD ?kE ?kF ?kG ?_; (case k1 => k_asm); (case k2 => k_asm); (case k3 => k_asm); (case k4 => k_asm); (case k5 => exact rfl); (case k6 => k_asm); (case k7 => k_mem); (case k8 => k_mem); (case k9 => k_updF); (case kA => (intro o'; k_updF)); (case kB => k_ne); (case kC => k_ne); (case kD => first | assumption | exact rfl | exact getL_isSome (by assumption)); (case kE => first | assumption | exact rfl | exact getL_isSome (by assumption)); (case kF => first | assumption | exact Nat.le_of_ble_eq_true rfl); (case kG => first | assumption | exact Nat.le_of_ble_eq_true rfl); k_whole; intro t' t'' h' tk' F' N'; (try dsimp only at N'); (try k_sweep))))
local macro_rules | `(tactic| walk_at "call ref") => `(tactic| (k_here; k_dflt (refine' bindOIU ?k1 ?k2 ?k3 ?k4 ?k5 ?k6 ?k7 ?k8 ?k9 ?kA ?kB ?kC ?kD ?kE ?kF ?kG ?_; (case k1 => k_asm); (case k2 => k_asm); (case k3 => k_asm); (case k4 => k_asm); (case k5 => exact rfl); (case k6 => k_asm); (case k7 => k_mem); (case k8 => k_mem); (case k9 => k_updF); (case kA => (intro o'; k_updF)); (case kB => k_ne); (case kC => k_ne); (case kD => first | assumption | exact rfl | exact getL_isSome (by assumption)); (case kE => first | assumption | exact rfl | exact getL_isSome (by assumption)); (case kF => first | assumption | exact Nat.le_of_ble_eq_true rfl); (case kG => first | assumption | exact Nat.le_of_ble_eq_true rfl); k_whole; intro t' t'' h' tk' F' N'; (try dsimp only at N'); (try k_sweep))))
local macro_rules | `(tactic| walk_at "call ref") => `(tactic| (k_here; k_dflt (refine' topReqU ?k1 ?k2 ?k3 ?k4 ?k5 ?k6 ?m0 ?m1 ?m2 ?m3 ?m4 ?m5 ?m6 ?m7 ?U1 ?f1 ?f2 ?f3 ?f4 ?f5 ?f6 ?f7 ?sz ?_; (case k5 => exact rfl); (case k1 => k_asm); (case k2 => k_asm); (case k3 => k_asm); (case k4 => k_asm); (case k6 => k_asm); (case m0 => k_mem); (case m1 => k_mem); (case f1 => first | with_reducible assumption | exact rfl | exact (getL_put_ne (by with_reducible assumption) (by decide)).trans (by with_reducible assumption)); (case m2 => k_mem); (case m3 => k_mem); (case f3 => first | with_reducible assumption | exact rfl | exact (getL_put_ne (by with_reducible assumption) (by decide)).trans (by with_reducible assumption)); (case m4 => k_mem); (case m5 => k_mem); (case f6 => first | with_reducible assumption | exact rfl | exact (getL_put_ne (by with_reducible assumption) (by decide)).trans (by with_reducible assumption)); (case m6 => k_mem); (case m7 => k_mem); (case f7 => first | with_reducible assumption | exact rfl | exact (getL_put_ne (by with_reducible assumption) (by decide)).trans (by with_reducible assumption)); (case f2 => first | with_reducible assumption | exact rfl | exact (getL_put_ne (by with_reducible assumption) (by decide)).trans (by with_reducible assumption)); (case f4 => first | with_reducible assumption | exact rfl | exact (getL_put_ne (by with_reducible assumption) (by decide)).trans (by with_reducible assumption)); (case f5 => first | with_reducible assumption | exact rfl | exact (getL_put_ne (by with_reducible assumption) (by decide)).trans (by with_reducible assumption)); (case U1 => k_updF); (case sz => first | assumption | exact sz0 | exact sz1); k_whole; intro tp' h' tk' fr' F' N'; (replace fr' := allNe_of fr'; simp only [AllNe] at fr'; (repeat (obtain ⟨hz', fr'⟩ := fr'))); (try dsimp only at N'); (try k_sweep))))
local macro_rules | `(tactic| walk_at "call ref") => `(tactic| (k_here; k_dflt (refine' topRespU ?k1 ?k2 ?k3 ?k4 ?k5 ?k6 ?m0 ?m1 ?m2 ?m3 ?m4 ?m5 ?m6 ?m7 ?U1 ?f1 ?f2 ?f3 ?f4 ?f5 ?f6 ?f7 ?sz ?_; (case k5 => exact rfl); (case k1 => k_asm); (case k2 => k_asm); (case k3 => k_asm); (case k4 => k_asm); (case k6 => k_asm); (case m0 => k_mem); (case m1 => k_mem); (case f1 => first | with_reducible assumption | exact rfl | exact (getL_put_ne (by with_reducible assumption) (by decide)).trans (by with_reducible assumption)); (case m2 => k_mem); (case m3 => k_mem); (case f3 => first | with_reducible assumption | exact rfl | exact (getL_put_ne (by with_reducible assumption) (by decide)).trans (by with_reducible assumption)); (case m4 => k_mem); (case m5 => k_mem); (case f6 => first | with_reducible assumption | exact rfl | exact (getL_put_ne (by with_reducible assumption) (by decide)).trans (by with_reducible assumption)); (case m6 => k_mem); (case m7 => k_mem); (case f7 => first | with_reducible assumption | exact rfl | exact (getL_put_ne (by with_reducible assumption) (by decide)).trans (by with_reducible assumption)); (case f2 => first | with_reducible assumption | exact rfl | exact (getL_put_ne (by with_reducible assumption) (by decide)).trans (by with_reducible assumption)); (case f4 => first | with_reducible assumption | exact rfl | exact (getL_put_ne (by with_reducible assumption) (by decide)).trans (by with_reducible assumption)); (case f5 => first | with_reducible assumption | exact rfl | exact (getL_put_ne (by with_reducible assumption) (by decide)).trans (by with_reducible assumption)); (case U1 => k_updF); (case sz => first | assumption | exact sz0 | exact sz1); k_whole; intro tp' h' tk' fr' F' N'; (replace fr' := allNe_of fr'; simp only [AllNe] at fr'; (repeat (obtain ⟨hz', fr'⟩ := fr'))); (try dsimp only at N'); (try k_sweep))))
local macro_rules | `(tactic| walk_at "call ref") => `(tactic| (k_here; k_dflt (refine' innReqU ?k1 ?k2 ?k3 ?k4 ?k5 ?k6 ?m0 ?m1 ?m2 ?m3 ?m4 ?m5 ?U1 ?f1 ?f5 ?f6 ?f7 ?sz ?_; (case k5 => exact rfl); (case k1 => k_asm); (case k2 => k_asm); (case k3 => k_asm); (case k4 => k_asm); (case k6 => k_asm); (case m0 => k_mem); (case m1 => k_mem); (case f1 => first | with_reducible assumption | exact rfl | exact (getL_put_ne (by with_reducible assumption) (by decide)).trans (by with_reducible assumption)); (case m2 => k_mem); (case m3 => k_mem); (case f6 => first | with_reducible assumption | exact rfl | exact (getL_put_ne (by with_reducible assumption) (by decide)).trans (by with_reducible assumption)); (case m4 => k_mem); (case m5 => k_mem); (case f7 => first | with_reducible assumption | exact rfl | exact (getL_put_ne (by with_reducible assumption) (by decide)).trans (by with_reducible assumption)); (case f5 => first | with_reducible assumption | exact rfl | exact (getL_put_ne (by with_reducible assumption) (by decide)).trans (by with_reducible assumption)); (case U1 => k_updF); (case sz => first | assumption | exact sz0 | exact sz1); k_whole; intro tp' h' tk' fr' F' N'; (replace fr' := allNe_of fr'; simp only [AllNe] at fr'; (repeat (obtain ⟨hz', fr'⟩ := fr'))); (try dsimp only at N'); (try k_sweep))))
local macro_rules | `(tactic| walk_at "call ref") => `(tactic| (k_here; k_dflt (refine' innRespU ?k1 ?k2 ?k3 ?k4 ?k5 ?k6 ?m0 ?m1 ?m2 ?m3 ?U1 ?f1 ?f5 ?f6 ?sz ?_; (case k5 => exact rfl); (case k1 => k_asm); (case k2 => k_asm); (case k3 => k_asm); (case k4 => k_asm); (case k6 => k_asm); (case m0 => k_mem); (case m1 => k_mem); (case f1 => first | with_reducible assumption | exact rfl | exact (getL_put_ne (by with_reducible assumption) (by decide)).trans (by with_reducible assumption)); (case m2 => k_mem); (case m3 => k_mem); (case f6 => first | with_reducible assumption | exact rfl | exact (getL_put_ne (by with_reducible assumption) (by decide)).trans (by with_reducible assumption)); (case f5 => first | with_reducible assumption | exact rfl | exact (getL_put_ne (by with_reducible assumption) (by decide)).trans (by with_reducible assumption)); (case U1 => k_updF); (case sz => first | assumption | exact sz0 | exact sz1); k_whole; intro h' tk' F' N'; (try dsimp only at N'); (try k_sweep))))

theorem rows2 {news : List (Addr × Obj)} {p1 p2 v1 v2 t1 t2 : Addr} (h1 : (p1, tup v1 t1) ∈ news) (h2 : (p2, tup v2 t2) ∈ news) : Rows news (((#[] : Array Value).push (.ref p1)).push (.ref p2)) [.ref t1, .ref t2] := by
  refine ⟨rfl, fun i x e => ?_⟩
  match i, e with
  | 0, e => cases e; exact ⟨_, _, _, rfl, h1, rfl⟩
  | 1, e => cases e; exact ⟨_, _, _, rfl, h2, rfl⟩
  | n + 2, e => simp at e
local macro_rules | `(tactic| walk_at "eval ListComp") => `(tactic| (k_here; k_dflt (refine' compRow ?kF ?k1 ?k2 ?k3 ?k4 ?k5 ?kT ?_ ?kS; (case kF => k_asm); (case k1 => rfl); (case k2 => decide); (case k3 => rfl); (case k4 => decide); (case k5 => rfl); (case kS => intro _; rfl); (case kT => (intro tp' v' t' I' C' D' oI' oC' m' ys' s' news' E' hC' hx' F' N'; k_steps; exact RowEnd.intro (by k_asm) (by k_asm))); k_whole)))
local macro_rules | `(tactic| walk_at "RowSrc") => `(tactic| (k_dflt (refine' ⟨_, _, _, _, _, rfl, rfl, ?kF, ?kN, ?kM, ?kZ, ?kR, ?_⟩; (case kF => k_asm); (case kN => k_asm); (case kM => k_mem); (case kZ => exact sz2); (case kR => (refine' rows2 ?h1 ?h2; (case h1 => k_mem); (case h2 => k_mem))); k_whole; intro D' h' tk' n' F' N'; (try dsimp only))))
local macro_rules | `(tactic| walk_at "compareOp NotEq ref ref") => `(tactic| (k_here; k_dflt (refine' ne_same ?k1 ?k2 ?k3 ?k4 ?_; (case k1 => k_asm); (case k2 => k_mem); (case k3 => k_mem); (case k4 => ke_room); k_whole)))

local macro_rules | `(tactic| ktr_rel) => `(tactic| first | (refine' List.forall_mem_cons.mpr ⟨newsAt (by k_asm) (by k_mem), ?_⟩; ktr_rel) | (intro p hp; refine newsAt (by k_asm) ?_; repeat (first | exact hp | refine List.Mem.tail _ ?_)))
theorem execs_append (xs ys : List Stmt) (env : Env) : execs (xs ++ ys) env = (do match ← execs xs env with | .next => execs ys env | f => pure f) := by
  induction xs with
  | nil => rw [List.nil_append, execs_nil, pure_bind]
  | cons x r ih =>
    rw [List.cons_append, execs_cons, execs_cons, bind_assoc]
    refine bind_congr fun f => ?_
    cases f
    case next => exact ih
    all_goals rw [pure_bind]
theorem execs_app {M : Model} {A : Around} {E : Value → Shared → Prop} {s : Shared} {env : Env} {xs ys : List Stmt} {Q : Flow → Shared → Prop} (h : wpAny M A (execs xs env) (fun f s' => f = .next ∧ wpAny M A (execs ys env) Q E s') E s) : wpAny M A (execs (xs ++ ys) env) Q E s := by
  rw [execs_append]
  refine wpAny_bind (wpAny_mono h (fun f s' hh => ?_) fun _ _ e => e)
  obtain ⟨rfl, h'⟩ := hh
  exact h'
def body13? (P : Params) : Option (List Stmt) := match loopStmt? P 12 with | some (.If _ b _ _) => some b | _ => none
def part13a? (P : Params) : Option (List Stmt) := match body13? P with | some (a :: b :: c :: d :: e :: f :: g :: h :: _) => some [a, b, c, d, e, f, g, h] | _ => none
def part13b? (P : Params) : Option (List Stmt) := match body13? P with | some (_ :: _ :: _ :: _ :: _ :: _ :: _ :: _ :: r) => some r | _ => none
def if13? (P : Params) (body : List Stmt) : Option Stmt := match loopStmt? P 12 with | some (.If t _ e p) => some (.If t body e p) | _ => none

theorem s13a {mean : ExcName → Option Value} {mg mb : Str → Option Value} {w : World} {cs : Scope} {nm : Str} {fa : Addr} {cd : Value}
    {h₀ : Heap} {L : Addr} {m : Str → Option Value} {s : Shared} {tail : List (Addr × Obj)} {Q : Flow → Shared → Prop} {body : List Stmt} {t dt v : Addr} {et : List DictEntry} {nt : Nat}
    (hb : part13a? w.params = some body) (hcs : lawScope? w.params = some cs)
    (B : Below callerA h₀ [] h₀) (F : Fr h₀ L s.heap m) (K : (KF w.params).In h₀) (T : Top Mine.V LS mean mg mb h₀)
    (hm : Has m [("thing", .ref t)]) (N : News h₀ L s.heap ((t, instObj 587 dt) :: (dt, dictOf et nt) :: tail)) (f5 : getL "pduDestination" et = some (some (.ref v)))
    (hq : ∀ h' tk' m', (∀ y : Str, y ≠ "link" → y ≠ "bottom" → y ≠ "top" → m' y = m y) → Fr h₀ L h' m' → News h₀ L h' ((t, instObj 587 dt) :: (dt, dictOf et nt) :: tail) → Q .next { s with heap := h', toks := tk' }) :
    wpAny (model PySem.Challenge.rw_bj5003_01.row.prog w) (callerA.deeper (envOf nm cs L fa cd)) (execs body (envOf nm cs L fa cd)) Q (fun _ _ => False) s := by
  first
  | (
      injection hb with hb
      subst hb
      injection hcs with hcs
      subst hcs
      dsimp only
      replace F := fr_names F hm
      dsimp only [wr] at F
      revert K; k_fill; intro K
      k_steps
      refine hq _ _ _ ?_ (by k_asm) ?_
      · intro y y1 y2 y3
        simp only [y1, y2, y3, if_false]
        split <;> first | (subst_vars; exact (hm _ (.head _)).symm) | rfl
      · intro p hp
        refine newsAt (by k_asm) ?_
        repeat (first | exact hp | refine List.Mem.tail _ ?_)
    )
theorem s13b {mean : ExcName → Option Value} {mg mb : Str → Option Value} {w : World} {cs : Scope} {nm : Str} {fa : Addr} {cd : Value}
    {h₀ : Heap} {L : Addr} {m : Str → Option Value} {s : Shared} {tail : List (Addr × Obj)} {Q : Flow → Shared → Prop} {body : List Stmt} {ti : Tok} {I : Nat} {a da t dt al tl ao ia tq it v : Addr} {ea et : List DictEntry} {na nt c1 c2 c3 c4 c5 c6 : Nat} {items us aits ts tits us2 : Array Value}
    (hb : part13b? w.params = some body) (hcs : lawScope? w.params = some cs)
    (B : Below callerA h₀ [] h₀) (F : Fr h₀ L s.heap m) (K : (KF w.params).In h₀) (T : Top Mine.V LS mean mg mb h₀)
    (hm : Has m [("one", .ref a), ("thing", .ref t), ("i", .int (I : Int) ti), ("asked", .ref ao), ("told", .ref tq)])
    (N : News h₀ L s.heap ((a, instObj 1204 da) :: (da, dictOf ea na) :: (t, instObj 587 dt) :: (dt, dictOf et nt) :: (al, listOf items c1) :: (tl, listOf us c2) :: (ao, listOf aits c3) :: (ia, listOf ts c4) :: (tq, listOf tits c5) :: (it, listOf us2 c6) :: tail))
    (q0 : Dis da a) (q1 : Dis da t) (q2 : Dis da dt) (q3 : Dis da al) (q4 : Dis da tl) (q5 : Dis da ao) (q6 : Dis da ia) (q7 : Dis da tq) (q8 : Dis da it) (q9 : Dis al a) (q10 : Dis al t) (q11 : Dis al dt) (q12 : Dis al tl) (q13 : Dis al ao) (q14 : Dis al ia) (q15 : Dis al tq) (q16 : Dis al it) (q17 : Dis tl a) (q18 : Dis tl t) (q19 : Dis tl dt) (q20 : Dis tl ao) (q21 : Dis tl ia) (q22 : Dis tl tq) (q23 : Dis tl it) (q24 : Dis ia a) (q25 : Dis ia t) (q26 : Dis ia dt) (q27 : Dis ia ao) (q28 : Dis ia tq) (q29 : Dis ia it) (q30 : Dis it a) (q31 : Dis it t) (q32 : Dis it dt) (q33 : Dis it ao) (q34 : Dis it tq) (of0 : ∀ p ∈ tail, p.1 ≠ da) (of1 : ∀ p ∈ tail, p.1 ≠ al) (of2 : ∀ p ∈ tail, p.1 ≠ tl) (of3 : ∀ p ∈ tail, p.1 ≠ ia) (of4 : ∀ p ∈ tail, p.1 ≠ it)
    (hI : I < 4) (hx : aits[I]? = some (.ref ia)) (hy : tits[I]? = some (.ref it)) (f1 : getL "asked" ea = some (some (.ref al))) (f2 : getL "told" ea = some (some (.ref tl))) (f3 : getL "indication" ea = some none) (f4 : getL "confirmation" ea = some none) (f5 : getL "pduDestination" et = some (some (.ref v)))
    (ra : NoRef ea) (hla : ea.length ≤ 900) (z1 : items.size ≤ sizeLine) (z2 : us.size ≤ sizeLine) (z3 : ts.size ≤ sizeLine) (z4 : us2.size ≤ sizeLine)
    (hq : ∀ tp t1 iv h' tk' m', (∀ y : Str, y ≠ "inner" → m' y = m y) → Fr h₀ L h' m' → News h₀ L h' ((tp, tup v t) :: (a, instObj 1204 da) :: (da, dictOf (putL "elementService" (PyData.keyHash w.params "elementService") (.str "elementService" t1) (.ref iv) ea) (putN "elementService" ea na)) :: (t, instObj 587 dt) :: (dt, dictOf et nt) :: (al, listOf (items.push (.ref tp)) (c1 + 1)) :: (tl, listOf (us.push (.ref t)) (c2 + 1)) :: (ao, listOf aits c3) :: (ia, listOf (ts.push (.ref t)) (c4 + 1)) :: (tq, listOf tits c5) :: (it, listOf (us2.push (.ref t)) (c6 + 1)) :: tail) → Q .next { s with heap := h', toks := tk' }) :
    wpAny (model PySem.Challenge.rw_bj5003_01.row.prog w) (callerA.deeper (envOf nm cs L fa cd)) (execs body (envOf nm cs L fa cd)) Q (fun _ _ => False) s := by
  first
  | (
      injection hb with hb
      subst hb
      injection hcs with hcs
      subst hcs
      dsimp only
      replace F := fr_names F hm
      dsimp only [wr] at F
      revert K; k_fill; intro K
      k_steps
      refine' hq _ _ _ _ _ _ ?ha ?hf ?hn
      case hf => k_asm
      case hn => ktr_rel
      case ha =>
        intro y y1
        simp only [y1, if_false]
        split
        · rename_i e; rw [e]; exact (hm _ (.head _)).symm
        split
        · rename_i e; rw [e]; exact (hm _ (.tail _ (.head _))).symm
        split
        · rename_i e; rw [e]; exact (hm _ (.tail _ (.tail _ (.head _)))).symm
        split
        · rename_i e; rw [e]; exact (hm _ (.tail _ (.tail _ (.tail _ (.head _))))).symm
        split
        · rename_i e; rw [e]; exact (hm _ (.tail _ (.tail _ (.tail _ (.tail _ (.head _)))))).symm
        rfl
    )
theorem s13c {mean : ExcName → Option Value} {mg mb : Str → Option Value} {w : World} {cs : Scope} {nm : Str} {fa : Addr} {cd : Value}
    {h₀ : Heap} {L : Addr} {m : Str → Option Value} {s : Shared} {tail : List (Addr × Obj)} {Q : Flow → Shared → Prop} {st : Stmt} {body : List Stmt} {P : Int} {tk : Tok}
    (hst : if13? w.params body = some st) (hcs : lawScope? w.params = some cs)
    (B : Below callerA h₀ [] h₀) (F : Fr h₀ L s.heap m) (K : (KF w.params).In h₀) (T : Top Mine.V LS mean mg mb h₀)
    (hm : Has m [("pick", .int P tk)]) (N : News h₀ L s.heap tail)
    (hq0 : P ≠ 7 → ∀ h' tk', Fr h₀ L h' (wr [("pick", .int P tk)] m) → News h₀ L h' tail → Q .next { s with heap := h', toks := tk' })
    (hq1 : P = 7 → ∀ h' tk', Fr h₀ L h' (wr [("pick", .int P tk)] m) → News h₀ L h' tail → wpAny (model PySem.Challenge.rw_bj5003_01.row.prog w) (callerA.deeper (envOf nm cs L fa cd)) (execs body (envOf nm cs L fa cd)) Q (fun _ _ => False) { s with heap := h', toks := tk' }) :
    wpAny (model PySem.Challenge.rw_bj5003_01.row.prog w) (callerA.deeper (envOf nm cs L fa cd)) (exec st (envOf nm cs L fa cd)) Q (fun _ _ => False) s := by
  first
  | (
      injection hst with hst
      subst hst
      injection hcs with hcs
      subst hcs
      dsimp only
      replace F := fr_names F hm
      dsimp only [wr] at F
      revert K; k_fill; intro K
      k_steps
      · exact hq1 (by omega) _ _ (by k_asm) (by k_asm)
      · exact hq0 (by omega) _ _ (by k_asm) (by k_asm)
    )
theorem s13 {mean : ExcName → Option Value} {mg mb : Str → Option Value} {w : World} {cs : Scope} {nm : Str} {fa : Addr} {cd : Value}
    {h₀ : Heap} {L : Addr} {m : Str → Option Value} {s : Shared} {tail : List (Addr × Obj)} {Q : Flow → Shared → Prop} {st : Stmt} {P : Int} {tk : Tok} {ti : Tok} {I : Nat} {a da t dt al tl ao ia tq it v : Addr} {ea et : List DictEntry} {na nt c1 c2 c3 c4 c5 c6 : Nat} {items us aits ts tits us2 : Array Value}
    (hst : loopStmt? w.params 12 = some st) (hcs : lawScope? w.params = some cs)
    (B : Below callerA h₀ [] h₀) (F : Fr h₀ L s.heap m) (K : (KF w.params).In h₀) (T : Top Mine.V LS mean mg mb h₀)
    (hm : Has m [("pick", .int P tk), ("one", .ref a), ("thing", .ref t), ("i", .int (I : Int) ti), ("asked", .ref ao), ("told", .ref tq)])
    (N : News h₀ L s.heap ((a, instObj 1204 da) :: (da, dictOf ea na) :: (t, instObj 587 dt) :: (dt, dictOf et nt) :: (al, listOf items c1) :: (tl, listOf us c2) :: (ao, listOf aits c3) :: (ia, listOf ts c4) :: (tq, listOf tits c5) :: (it, listOf us2 c6) :: tail))
    (q0 : Dis da a) (q1 : Dis da t) (q2 : Dis da dt) (q3 : Dis da al) (q4 : Dis da tl) (q5 : Dis da ao) (q6 : Dis da ia) (q7 : Dis da tq) (q8 : Dis da it) (q9 : Dis al a) (q10 : Dis al t) (q11 : Dis al dt) (q12 : Dis al tl) (q13 : Dis al ao) (q14 : Dis al ia) (q15 : Dis al tq) (q16 : Dis al it) (q17 : Dis tl a) (q18 : Dis tl t) (q19 : Dis tl dt) (q20 : Dis tl ao) (q21 : Dis tl ia) (q22 : Dis tl tq) (q23 : Dis tl it) (q24 : Dis ia a) (q25 : Dis ia t) (q26 : Dis ia dt) (q27 : Dis ia ao) (q28 : Dis ia tq) (q29 : Dis ia it) (q30 : Dis it a) (q31 : Dis it t) (q32 : Dis it dt) (q33 : Dis it ao) (q34 : Dis it tq) (of0 : ∀ p ∈ tail, p.1 ≠ da) (of1 : ∀ p ∈ tail, p.1 ≠ al) (of2 : ∀ p ∈ tail, p.1 ≠ tl) (of3 : ∀ p ∈ tail, p.1 ≠ ia) (of4 : ∀ p ∈ tail, p.1 ≠ it)
    (hI : I < 4) (hx : aits[I]? = some (.ref ia)) (hy : tits[I]? = some (.ref it)) (f1 : getL "asked" ea = some (some (.ref al))) (f2 : getL "told" ea = some (some (.ref tl))) (f3 : getL "indication" ea = some none) (f4 : getL "confirmation" ea = some none) (f5 : getL "pduDestination" et = some (some (.ref v)))
    (ra : NoRef ea) (hla : ea.length ≤ 900) (z1 : items.size ≤ sizeLine) (z2 : us.size ≤ sizeLine) (z3 : ts.size ≤ sizeLine) (z4 : us2.size ≤ sizeLine)
    (hq0 : P ≠ 7 → ∀ h' tk', Fr h₀ L h' m → News h₀ L h' ((a, instObj 1204 da) :: (da, dictOf ea na) :: (t, instObj 587 dt) :: (dt, dictOf et nt) :: (al, listOf items c1) :: (tl, listOf us c2) :: (ao, listOf aits c3) :: (ia, listOf ts c4) :: (tq, listOf tits c5) :: (it, listOf us2 c6) :: tail) → Q .next { s with heap := h', toks := tk' })
    (hq1 : P = 7 → ∀ tp t1 iv h' tk' m', (∀ y : Str, y ≠ "link" → y ≠ "bottom" → y ≠ "top" → y ≠ "inner" → m' y = m y) → Fr h₀ L h' m' → News h₀ L h' ((tp, tup v t) :: (a, instObj 1204 da) :: (da, dictOf (putL "elementService" (PyData.keyHash w.params "elementService") (.str "elementService" t1) (.ref iv) ea) (putN "elementService" ea na)) :: (t, instObj 587 dt) :: (dt, dictOf et nt) :: (al, listOf (items.push (.ref tp)) (c1 + 1)) :: (tl, listOf (us.push (.ref t)) (c2 + 1)) :: (ao, listOf aits c3) :: (ia, listOf (ts.push (.ref t)) (c4 + 1)) :: (tq, listOf tits c5) :: (it, listOf (us2.push (.ref t)) (c6 + 1)) :: tail) → Q .next { s with heap := h', toks := tk' }) :
    wpAny (model PySem.Challenge.rw_bj5003_01.row.prog w) (callerA.deeper (envOf nm cs L fa cd)) (exec st (envOf nm cs L fa cd)) Q (fun _ _ => False) s := by
  obtain ⟨xs, hxs⟩ : ∃ xs, part13a? w.params = some xs := ⟨_, rfl⟩
  obtain ⟨ys, hys⟩ : ∃ ys, part13b? w.params = some ys := ⟨_, rfl⟩
  have hst' : if13? w.params (xs ++ ys) = some st := by
    injection hst with hst
    subst hst
    injection hxs with hxs
    subst hxs
    injection hys with hys
    subst hys
    rfl
  have hm1 : Has m [("pick", .int P tk)] := fun p hp => hm p (by rcases List.mem_cons.mp hp with rfl | hp; exact .head _; cases hp)
  refine s13c hst' hcs B F K T hm1 N (fun hp h' tk' F' N' => hq0 hp h' tk' (by rw [wr_eq hm1] at F'; exact F') N') fun hp h' tk' F' N' => ?_
  rw [wr_eq hm1] at F'
  have hm2 : Has m [("thing", .ref t)] := fun p hp => hm p (by rcases List.mem_cons.mp hp with rfl | hp; exact .tail _ (.tail _ (.head _)); cases hp)
  refine execs_app (s13a (s := { s with heap := h', toks := tk' }) hxs hcs B F' K T hm2 (List.forall_mem_cons.mpr ⟨N' _ (.tail _ (.tail _ (.head _))), List.forall_mem_cons.mpr ⟨N' _ (.tail _ (.tail _ (.tail _ (.head _)))), N'⟩⟩) f5 fun h₂ tk₂ m₂ a₂ F₂ N₂ => ⟨rfl, ?_⟩)
  have nn : ∀ z ∈ [("one" : Str), "thing", "i", "asked", "told"], z ≠ "link" ∧ z ≠ "bottom" ∧ z ≠ "top" := by decide
  have hm3 : Has m₂ [("one", .ref a), ("thing", .ref t), ("i", .int (I : Int) ti), ("asked", .ref ao), ("told", .ref tq)] := fun p hp => by
    have e := nn p.1 (by simp only [List.mem_cons, List.not_mem_nil, or_false] at hp ⊢; rcases hp with rfl | rfl | rfl | rfl | rfl <;> simp)
    rw [a₂ p.1 e.1 e.2.1 e.2.2]
    exact hm p (.tail _ hp)
  refine s13b (s := { s with heap := h₂, toks := tk₂ }) hys hcs B F₂ K T hm3 (fun p hp => N₂ p (.tail _ (.tail _ hp))) q0 q1 q2 q3 q4 q5 q6 q7 q8 q9 q10 q11 q12 q13 q14 q15 q16 q17 q18 q19 q20 q21 q22 q23 q24 q25 q26 q27 q28 q29 q30 q31 q32 q33 q34 of0 of1 of2 of3 of4 hI hx hy f1 f2 f3 f4 f5 ra hla z1 z2 z3 z4 fun tp t1 iv h₃ tk₃ m₃ a₃ F₃ N₃ => ?_
  exact hq1 hp tp t1 iv h₃ tk₃ m₃ (fun y y1 y2 y3 y4 => (a₃ y y4).trans (a₂ y y1 y2 y3)) F₃ N₃
end
section

local macro_rules | `(tactic| walk_at "eval ListComp") => `(tactic| (k_here; k_dflt (refine' compRow ?kF ?k1 ?k2 ?k3 ?k4 ?k5 ?kT ?_ ?kS; (case kF => k_asm); (case k1 => rfl); (case k2 => decide); (case k3 => rfl); (case k4 => decide); (case k5 => rfl); (case kS => intro _; rfl); (case kT => (intro tp' v' t' I' C' D' oI' oC' m' ys' s' news' E' hC' hx' F' N'; k_steps; exact RowEnd.intro (by k_asm) (by k_asm))); k_whole)))
local macro_rules | `(tactic| walk_at "RowSrc") => `(tactic| (k_dflt (refine' ⟨_, _, _, _, _, rfl, rfl, ?kF, ?kN, ?kM, ?kZ, ?kR, ?_⟩; (case kF => k_asm); (case kN => k_asm); (case kM => k_mem); (case kZ => assumption); (case kR => repeat (first | with_reducible assumption | with_reducible refine Rows.cons ?_)); k_whole; intro D' h' tk' n' F' N'; (try dsimp only))))
local macro_rules | `(tactic| walk_at "compareOp NotEq ref ref") => `(tactic| (k_here; k_dflt (refine' ne_same ?k1 ?k2 ?k3 ?k4 ?_; (case k1 => k_asm); (case k2 => k_mem); (case k3 => k_mem); (case k4 => ke_room); k_whole)))
theorem turn14 {p : Program} {loose : List Str} {mean : ExcName → Option Value} {mg mb : Str → Option Value} {w : World} {body : List Stmt} {cs : Scope} {nm : Str} {fa : Addr} {cd : Value}
    {h₀ : Heap} {L : Addr} {m : Str → Option Value} {s : Shared} {tail : List (Addr × Obj)} {Q : Flow → Shared → Prop} {E : Value → Shared → Prop} {la ao tq a da al tl ia it : Addr} {ea : List DictEntry} {na lc c1 c2 c3 c4 c5 c6 : Nat} {M : Nat} {tm : Tok} {lits aits tits items : Array Value} {ts us : List Value}
    (hb : body14? w.params = some body) (hcs : lawScope? w.params = some cs)
    (B : Below callerA h₀ [] h₀) (F : Fr h₀ L s.heap m) (K : (KF w.params).In h₀) (T : Top p loose mean mg mb h₀)
    (hm : Has m [("m", .int (M : Int) tm), ("layers", .ref la), ("asked", .ref ao), ("told", .ref tq)]) (hM : M < 4)
    (N : News h₀ L s.heap ((la, listOf lits lc) :: (a, instObj 1204 da) :: (da, dictOf ea na) :: (al, listOf items c1) :: (tl, listOf us.toArray c2) :: (ao, listOf aits c3) :: (ia, listOf ts.toArray c4) :: (tq, listOf tits c5) :: (it, listOf us.toArray c6) :: tail))
    (hx : lits[M]? = some (.ref a)) (hk : getL "asked" ea = some (some (.ref al))) (hk2 : getL "told" ea = some (some (.ref tl))) (hy : aits[M]? = some (.ref ia)) (hz : tits[M]? = some (.ref it))
    (hsz : items.size ≤ sizeLine) (hr : Rows tail items ts)
    (hq : ∀ h' tk', Fr h₀ L h' (wr [("layer", .ref a), ("m", .int (M : Int) tm), ("layers", .ref la), ("asked", .ref ao), ("told", .ref tq)] m) → News h₀ L h' tail → Q .next { s with heap := h', toks := tk' }) :
    wpAny (model PySem.Challenge.rw_bj5003_01.row.prog w) (callerA.deeper (envOf nm cs L fa cd)) (execs body (envOf nm cs L fa cd)) Q E s := by
  first
  | (
      injection hb with hb
      subst hb
      injection hcs with hcs
      subst hcs
      dsimp only
      replace F := fr_names F hm
      dsimp only [wr] at F
      revert K; k_fill; intro K
      w_on
      k_steps
      refine hq _ _ (by k_asm) ?_
      intro p hp
      refine newsAt (by k_asm) ?_
      repeat (first | exact hp | refine List.Mem.tail _ ?_)
    )
/-- what the check reads of one layer -/
def Chk (news : List (Addr × Obj)) (lits aits tits : Array Value) (M : Nat) : Prop :=
  ∃ a da ea na al items c1 tl us c2 ia ts c4 it c6, lits[M]? = some (.ref a) ∧ aits[M]? = some (.ref ia) ∧ tits[M]? = some (.ref it) ∧ (a, instObj 1204 da) ∈ news ∧ (da, dictOf ea na) ∈ news ∧ (al, listOf items c1) ∈ news ∧
    (tl, listOf (List.toArray us) c2) ∈ news ∧ (ia, listOf (List.toArray ts) c4) ∈ news ∧ (it, listOf (List.toArray us) c6) ∈ news ∧ getL "asked" ea = some (some (.ref al)) ∧ getL "told" ea = some (some (.ref tl)) ∧ items.size ≤ sizeLine ∧ Rows news items ts
def Agree (m m' : Str → Option Value) : Prop := ∀ y : Str, y ≠ "m" → y ≠ "layer" → m' y = m y
theorem rest14 {p : Program} {loose : List Str} {mean : ExcName → Option Value} {mg mb : Str → Option Value} {w : World} {body : List Stmt} {cs : Scope} {nm : Str} {fa : Addr} {cd : Value}
    {h₀ : Heap} {L : Addr} {m₀ : Str → Option Value} {s : Shared} {news : List (Addr × Obj)} {Q : Flow → Shared → Prop} {E : Value → Shared → Prop} {la ao tq I : Addr} {lc c3 c5 : Nat} {lits aits tits : Array Value}
    (hb : body14? w.params = some body) (hcs : lawScope? w.params = some cs)
    (B : Below callerA h₀ [] h₀) (K : (KF w.params).In h₀) (T : Top p loose mean mg mb h₀)
    (hm : Has m₀ [("layers", .ref la), ("asked", .ref ao), ("told", .ref tq)]) (ml : (la, listOf lits lc) ∈ news) (mo : (ao, listOf aits c3) ∈ news) (mt : (tq, listOf tits c5) ∈ news)
    (hall : ∀ M, M < 4 → Chk news lits aits tits M) (hI : ∀ p ∈ news, p.1 < I)
    (hq : ∀ m' h' tk', Agree m₀ m' → Fr h₀ L h' m' → News h₀ L h' news → Q .next { s with heap := h', toks := tk' }) :
    ∀ (k i : Nat) (m : Str → Option Value), k + i = 4 → Agree m₀ m → RangeRest PySem.Challenge.rw_bj5003_01.row.prog w (callerA.deeper (envOf nm cs L fa cd)) E h₀ (envOf nm cs L fa cd) "m" body Q s I 0 4 k i m news := by
  intro k
  induction k with
  | zero => intro i m _ hA; exact RangeRest.zero fun h tk F N => hq m h tk hA F N
  | succ k ih =>
    intro i m hi hA
    refine RangeRest.succ fun t h tk F N => ?_
    obtain ⟨a, da, ea, na, al, items, c1, tl, us, c2, ia, ts, c4, it, c6, x1, x2, x3, m1, m2, m3, m4, m5, m6, g1, g2, hz, hr⟩ := hall i (by omega)
    have hi0 : (0 : Int) + (i : Int) = (i : Int) := Int.zero_add _
    rw [hi0] at F
    have lo : ∀ {q : Addr × Obj}, q ∈ news → h.get? q.1 = some q.2 ∧ q.1 ≠ L ∧ h₀.get? q.1 = none := fun hp => N _ (.tail _ hp)
    have hm' : Has (fun y => if y = "m" then some (Value.int (i : Int) t) else m y) [("m", .int (i : Int) t), ("layers", .ref la), ("asked", .ref ao), ("told", .ref tq)] := by
      intro q hq'
      simp only [List.mem_cons, List.not_mem_nil, or_false] at hq'
      have n1 : ("layers" : Str) ≠ "m" ∧ ("layers" : Str) ≠ "layer" := by decide
      have n2 : ("asked" : Str) ≠ "m" ∧ ("asked" : Str) ≠ "layer" := by decide
      have n3 : ("told" : Str) ≠ "m" ∧ ("told" : Str) ≠ "layer" := by decide
      rcases hq' with rfl | rfl | rfl | rfl
      · exact if_pos rfl
      · exact (if_neg n1.1).trans ((hA _ n1.1 n1.2).trans (hm _ (.head _)))
      · exact (if_neg n2.1).trans ((hA _ n2.1 n2.2).trans (hm _ (.tail _ (.head _))))
      · exact (if_neg n3.1).trans ((hA _ n3.1 n3.2).trans (hm _ (.tail _ (.tail _ (.head _)))))
    refine turn14 hb hcs B F K T hm' (by omega) (tail := (I, _) :: news) (items := items) (ts := ts)
      (List.forall_mem_cons.mpr ⟨lo ml, List.forall_mem_cons.mpr ⟨lo m1, List.forall_mem_cons.mpr ⟨lo m2, List.forall_mem_cons.mpr ⟨lo m3, List.forall_mem_cons.mpr ⟨lo m4, List.forall_mem_cons.mpr ⟨lo mo, List.forall_mem_cons.mpr ⟨lo m5, List.forall_mem_cons.mpr ⟨lo mt, List.forall_mem_cons.mpr ⟨lo m6, N⟩⟩⟩⟩⟩⟩⟩⟩⟩)
      x1 g1 g2 x2 x3 hz (Rows.cons hr) fun h' tk' F' N' => ?_
    refine ⟨h', tk', _, news, rfl, F', N', fun p hp => Nat.ne_of_lt (hI p hp), ih (i + 1) _ (by omega) fun y y1 y2 => ?_⟩
    dsimp only [wr]
    rw [if_neg y2, if_neg y1]
    by_cases e1 : y = "layers"
    · rw [if_pos e1, e1]; exact (hm _ (.head _)).symm
    · by_cases e2 : y = "asked"
      · rw [if_neg e1, if_pos e2, e2]; exact (hm _ (.tail _ (.head _))).symm
      · by_cases e3 : y = "told"
        · rw [if_neg e1, if_neg e2, if_pos e3, e3]; exact (hm _ (.tail _ (.tail _ (.head _)))).symm
        · rw [if_neg e1, if_neg e2, if_neg e3, if_neg y1]; exact hA y y1 y2
local macro_rules | `(tactic| walk_at "RangeRest") => `(tactic| (k_dflt (refine' rest14 ?a1 ?a2 ?a3 ?a4 ?a5 ?a6 ?a7 ?a8 ?a9 ?b1 ?b2 ?_ _ _ _ rfl ?b4; (case a1 => assumption); (case a2 => assumption); (case a3 => assumption); (case a4 => assumption); (case a5 => assumption); (case a6 => assumption); (case a7 => assumption); (case a8 => assumption); (case a9 => assumption); (case b1 => assumption); (case b2 => assumption); (case b4 => exact fun _ _ _ => rfl); k_whole; intro m' h' tk' hA' F' N')))
local macro_rules | `(tactic| walk_at "pyIter ref") => `(tactic| (k_here; k_dflt (refine' iter_rangeUnr (n := 4) rfl ?kr ?ks ?kn ?kF ?kN ?_; (case kr => assumption); (case ks => decide); (case kn => rfl); (case kF => k_asm); (case kN => k_asm); k_whole; intro I' hI')))
theorem s14 {p : Program} {loose : List Str} {mean : ExcName → Option Value} {mg mb : Str → Option Value} {w : World} {st : Stmt} {cs : Scope} {nm : Str} {fa : Addr} {cd : Value}
    {h₀ : Heap} {L : Addr} {m : Str → Option Value} {s : Shared} {news : List (Addr × Obj)} {Q : Flow → Shared → Prop} {la ao tq : Addr} {lc c3 c5 : Nat} {lits aits tits : Array Value}
    (hst : loopStmt? w.params 13 = some st) (hcs : lawScope? w.params = some cs)
    (B : Below callerA h₀ [] h₀) (F : Fr h₀ L s.heap m) (K : (KF w.params).In h₀) (T : Top p loose mean mg mb h₀)
    (hm : Has m [("layers", .ref la), ("asked", .ref ao), ("told", .ref tq)]) (N : News h₀ L s.heap news) (ml : (la, listOf lits lc) ∈ news) (mo : (ao, listOf aits c3) ∈ news) (mt : (tq, listOf tits c5) ∈ news)
    (hall : ∀ M, M < 4 → Chk news lits aits tits M)
    (hq : ∀ m' h' tk', Agree m m' → Fr h₀ L h' m' → News h₀ L h' news → Q .next { s with heap := h', toks := tk' }) :
    wpAny (model PySem.Challenge.rw_bj5003_01.row.prog w) (callerA.deeper (envOf nm cs L fa cd)) (exec st (envOf nm cs L fa cd)) Q (fun _ _ => False) s := by
  first
  | (
      injection hst with hst
      have hb : body14? w.params = some (match st with | .For _ _ body _ _ => body | _ => []) := by subst hst; rfl
      subst hst
      dsimp only at hb ⊢
      have hcs' := hcs
      injection hcs with hcs
      subst hcs
      dsimp only at hcs' ⊢
      revert K; k_fill; intro K
      w_on
      k_steps
      exact hq _ _ _ (by assumption) (by assumption) (by assumption)
    )
end
end Mine
end
section
open PySem PySem.W PyProof.Rows PySem.Calls
set_option Elab.async false
set_option maxRecDepth 100000
set_option maxHeartbeats 4000000
namespace Mine
section
variable {h₀ h h' : Heap} {L a : Addr} {o : Obj} {as : List Addr} {ad : Nat → Addr} {m m' : Str → Option Value}
/-- new in h, o stands there -/
def New (h₀ : Heap) (L : Addr) (h : Heap) (a : Addr) (o : Obj) : Prop := h.get? a = some o ∧ a ≠ L ∧ h₀.get? a = none
def Kp (L : Addr) (as : List Addr) (h h' : Heap) : Prop := ∀ b o, h.get? b = some o → b ≠ L → b ∉ as → h'.get? b = some o
theorem New.keep (n : New h₀ L h a o) (k : Kp L as h h') (q : a ∉ as) : New h₀ L h' a o := ⟨k _ _ n.1 n.2.1 q, n.2⟩
theorem kp_rest {l : List (Addr × Obj)} (F : Fr h₀ L h m) (F' : Fr h₀ L h' m') (N' : News h₀ L h' l) (hs : ∀ p ∈ restOf h₀ L h as, p ∈ l) : Kp L as h h' := fun b o e hL hb => by
  cases q : h₀.get? b with
  | some o₀ =>
    have := F.keep b o₀ q
    rw [e] at this
    cases this
    exact F'.keep b o q
  | none => exact (N' (b, o) (hs _ (mem_restOf.mpr ⟨⟨e, hL, q⟩, hb⟩))).1
theorem kp_same {l : List (Addr × Obj)} (k : Kp L as h h') (N : News h₀ L h l) (N' : News h₀ L h' l) (hs : ∀ b ∈ as, ∃ o, (b, o) ∈ l) : Kp L [] h h' := fun b o e hL _ => by
  by_cases hb : b ∈ as
  · obtain ⟨o', ho⟩ := hs b hb
    have := (N _ ho).1
    rw [e] at this
    cases this
    exact (N' _ ho).1
  · exact k b o e hL hb
def Inj (ad : Nat → Addr) : Prop := ∀ x y, x < 29 → y < 29 → ad x = ad y → x = y
theorem dis (hj : Inj ad) {x y : Nat} (hx : x < 29) (hy : y < 29) (hn : x ≠ y) : Dis (ad x) (ad y) := fun e => hn (hj x y hx hy e)
theorem nin (hj : Inj ad) {x : Nat} {cs : List Nat} (hx : x < 29) (hc : ∀ y ∈ cs, y < 29) (hn : x ∉ cs) : ad x ∉ cs.map ad := fun hm => by
  obtain ⟨y, hy, e⟩ := List.mem_map.mp hm
  exact hn (hj _ _ (hc y hy) hx e ▸ hy)
def RowsH (h₀ : Heap) (L : Addr) (h : Heap) (tps ts : Array Value) : Prop :=
  tps.size = ts.size ∧ ∀ (i : Nat) (x : Value), tps[i]? = some x → ∃ tp v t, x = .ref tp ∧ New h₀ L h tp (tup v t) ∧ ts[i]? = some (.ref t)
theorem RowsH.push {tps ts : Array Value} {tp v t : Addr} (r : RowsH h₀ L h tps ts) (n : New h₀ L h tp (tup v t)) : RowsH h₀ L h (tps.push (.ref tp)) (ts.push (.ref t)) := by
  refine ⟨by rw [Array.size_push, Array.size_push, r.1], fun i x e => ?_⟩
  by_cases hi : i = tps.size
  · subst hi
    rw [Array.getElem?_push_size] at e
    cases e
    exact ⟨tp, v, t, rfl, n, by rw [r.1, Array.getElem?_push_size]⟩
  · rw [Array.getElem?_push, if_neg hi] at e
    obtain ⟨tp', v', t', h1, h2, h3⟩ := r.2 i x e
    exact ⟨tp', v', t', h1, h2, by rw [Array.getElem?_push, if_neg (by rw [← r.1]; exact hi)]; exact h3⟩
theorem RowsH.keep {tps ts : Array Value} (r : RowsH h₀ L h tps ts) (k : ∀ tp v t, New h₀ L h tp (tup v t) → New h₀ L h' tp (tup v t)) : RowsH h₀ L h' tps ts :=
  ⟨r.1, fun i x e => let ⟨tp, v, t, h1, h2, h3⟩ := r.2 i x e; ⟨tp, v, t, h1, k _ _ _ h2, h3⟩⟩
def Quiet (es : List DictEntry) : Prop := ∀ x ∈ [("request" : Str), "response", "indication", "confirmation", "pduDestination"], getL x es = some none
structure EsOk (ad : Nat → Addr) (c k : Nat) (es : List DictEntry) : Prop where
  nr : NoRef es
  ln : es.length ≤ c
  ga : getL "asked" es = some (some (.ref (ad (8 + k))))
  gt : getL "told" es = some (some (.ref (ad (12 + k))))
  gq : Quiet es
theorem EsOk.up {c c' k : Nat} {es : List DictEntry} (e : EsOk ad c k es) (hc : c ≤ c') : EsOk ad c' k es := ⟨e.nr, Nat.le_trans e.ln hc, e.ga, e.gt, e.gq⟩
theorem EsOk.put {c k : Nat} {es : List DictEntry} {y : Str} {hs : Int} {t : Tok} {v : Value} (e : EsOk ad c k es) (hy : y ∈ [("clientPeer" : Str), "serverPeer", "elementService"]) : EsOk ad (c + 1) k (putL y hs (.str y t) v es) := by
  have d : ∀ y ∈ [("clientPeer" : Str), "serverPeer", "elementService"], ∀ x ∈ [("asked" : Str), "told", "request", "response", "indication", "confirmation", "pduDestination"], y ≠ x := by decide
  refine ⟨noRef_put e.nr, Nat.le_trans (putL_len _ _ _ _ _) (Nat.succ_le_succ e.ln), ?_, ?_, fun x hx => ?_⟩
  · rw [getL_put_ne e.nr (d y hy _ (.head _))]; exact e.ga
  · rw [getL_put_ne e.nr (d y hy _ (.tail _ (.head _)))]; exact e.gt
  · rw [getL_put_ne e.nr (d y hy _ (.tail _ (.tail _ hx)))]; exact e.gq x hx
def Lk (ad : Nat → Addr) (x : Str) (ls : Array Value) (k : Nat) (es : List DictEntry) : Prop := ls[k]? = some .none ∨ ∃ J t, J < 4 ∧ ls[k]? = some (.int ((J : Nat) : Int) t) ∧ getL x es = some (some (.ref (ad J)))
theorem Lk.put_ne {x y : Str} {ls : Array Value} {k : Nat} {es : List DictEntry} {hs : Int} {t : Tok} {v : Value} (l : Lk ad x ls k es) (nr : NoRef es) (hn : y ≠ x) : Lk ad x ls k (putL y hs (.str y t) v es) := by
  rcases l with l | ⟨J, t', hJ, l, g⟩
  · exact .inl l
  · exact .inr ⟨J, t', hJ, l, by rw [getL_put_ne nr hn]; exact g⟩
theorem Lk.put {x : Str} {ls : Array Value} {k J : Nat} {es : List DictEntry} {hs : Int} {t tj : Tok} (hJ : J < 4) (hk : k < ls.size) : Lk ad x (ls.setIfInBounds k (.int (J : Int) tj)) k (putL x hs (.str x t) (.ref (ad J)) es) :=
  .inr ⟨J, tj, hJ, by simp [hk], getL_put_same⟩
theorem Lk.set_ne {x : Str} {ls : Array Value} {k j : Nat} {v : Value} {es : List DictEntry} (l : Lk ad x ls k es) (hn : j ≠ k) : Lk ad x (ls.setIfInBounds j v) k es := by
  unfold Lk at l ⊢
  rw [Array.getElem?_setIfInBounds_ne hn]
  exact l
structure LyD (h₀ : Heap) (L : Addr) (ad : Nat → Addr) (c : Nat) (dn up : Array Value) (h : Heap) (k : Nat) (es : List DictEntry) (n : Nat) (tps us ts : Array Value) (c1 c2 c3 c4 : Nat) : Prop where
  i : New h₀ L h (ad k) (instObj 1204 (ad (4 + k)))
  d : New h₀ L h (ad (4 + k)) (dictOf es n)
  al : New h₀ L h (ad (8 + k)) (listOf tps c1)
  tl : New h₀ L h (ad (12 + k)) (listOf us c2)
  ai : New h₀ L h (ad (16 + k)) (listOf ts c3)
  ti : New h₀ L h (ad (20 + k)) (listOf us c4)
  ok : EsOk ad c k es
  s1 : tps.size ≤ c
  s2 : us.size ≤ c
  rows : RowsH h₀ L h tps ts
  dl : Lk ad "clientPeer" dn k es
  ul : Lk ad "serverPeer" up k es
def Ly (h₀ : Heap) (L : Addr) (ad : Nat → Addr) (c : Nat) (dn up : Array Value) (h : Heap) (k : Nat) : Prop := ∃ es n tps us ts c1 c2 c3 c4, LyD h₀ L ad c dn up h k es n tps us ts c1 c2 c3 c4
abbrev four (ad : Nat → Addr) (b : Nat) : Array Value := #[.ref (ad b), .ref (ad (b + 1)), .ref (ad (b + 2)), .ref (ad (b + 3))]
theorem four_at {b k : Nat} (hk : k < 4) : (four ad b)[k]? = some (.ref (ad (b + k))) := by
  match k, hk with
  | 0, _ => rfl
  | 1, _ => rfl
  | 2, _ => rfl
  | 3, _ => rfl
structure SSD (h₀ : Heap) (L : Addr) (ad : Nat → Addr) (c : Nat) (h : Heap) (dn up : Array Value) (c24 c25 c26 c27 c28 : Nat) : Prop where
  la : New h₀ L h (ad 24) (listOf (four ad 0) c24)
  dl : New h₀ L h (ad 25) (listOf dn c25)
  ul : New h₀ L h (ad 26) (listOf up c26)
  ao : New h₀ L h (ad 27) (listOf (four ad 16) c27)
  tq : New h₀ L h (ad 28) (listOf (four ad 20) c28)
  ds : dn.size = 4
  us : up.size = 4
  ly : ∀ k, k < 4 → Ly h₀ L ad c dn up h k
def SS (h₀ : Heap) (L : Addr) (ad : Nat → Addr) (c : Nat) (h : Heap) : Prop := ∃ dn up c24 c25 c26 c27 c28, SSD h₀ L ad c h dn up c24 c25 c26 c27 c28
/-- what the tracked places are not -/
def Trk (ad : Nat → Addr) (h : Heap) : Prop := ∀ x, x < 29 → (∀ v t, h.get? (ad x) ≠ some (tup v t)) ∧ (∀ d, h.get? (ad x) ≠ some (instObj 587 d)) ∧ ∀ et nt v, getL "pduDestination" et = some (some v) → h.get? (ad x) ≠ some (dictOf et nt)
theorem trk_list {x : Nat} {its : Array Value} {c : Nat} (n : New h₀ L h (ad x) (listOf its c)) : (∀ v t, h.get? (ad x) ≠ some (tup v t)) ∧ (∀ d, h.get? (ad x) ≠ some (instObj 587 d)) ∧ ∀ et nt v, getL "pduDestination" et = some (some v) → h.get? (ad x) ≠ some (dictOf et nt) := by
  rw [n.1]
  have e1 : (Value.type "list") ≠ .type "tuple" := by intro q; injection q with q; exact absurd q (by decide)
  exact ⟨fun v t q => e1 (congrArg Obj.cls (Option.some.inj q)), fun d q => (nomatch (congrArg Obj.cls (Option.some.inj q))), fun et nt v _ q => (nomatch (congrArg Obj.data (Option.some.inj q)))⟩
theorem SS.trk {c : Nat} (S : SS h₀ L ad c h) : Trk ad h := by
  obtain ⟨dn, up, c24, c25, c26, c27, c28, G⟩ := S
  intro x hx
  have hk : ∀ k, k < 4 → ∀ y, (y = k ∨ y = 4 + k ∨ y = 8 + k ∨ y = 12 + k ∨ y = 16 + k ∨ y = 20 + k) → x = y → (∀ v t, h.get? (ad x) ≠ some (tup v t)) ∧ (∀ d, h.get? (ad x) ≠ some (instObj 587 d)) ∧ ∀ et nt v, getL "pduDestination" et = some (some v) → h.get? (ad x) ≠ some (dictOf et nt) := by
    intro k hk y hy e
    obtain ⟨es, n, tps, us, ts, c1, c2, c3, c4, l⟩ := G.ly k hk
    subst e
    rcases hy with rfl | rfl | rfl | rfl | rfl | rfl
    · rw [l.i.1]
      refine ⟨fun v t q => (nomatch (congrArg Obj.cls (Option.some.inj q))), fun d q => ?_, fun et nt v _ q => (nomatch (congrArg Obj.data (Option.some.inj q)))⟩
      have q' : (Value.ref 1204) = .ref 587 := congrArg Obj.cls (Option.some.inj q)
      injection q' with q'
      exact absurd q' (by decide)
    · rw [l.d.1]
      refine ⟨fun v t q => (nomatch (congrArg Obj.data (Option.some.inj q))), fun d q => (nomatch (congrArg Obj.data (Option.some.inj q))), fun et nt v g q => ?_⟩
      have q' : Data.dict es.toArray n = Data.dict et.toArray nt := congrArg Obj.data (Option.some.inj q)
      injection q' with q' _
      have e : es = et := by injection q'
      have g' := l.ok.gq "pduDestination" (.tail _ (.tail _ (.tail _ (.tail _ (.head _)))))
      rw [e, g] at g'
      cases g'
    · exact trk_list l.al
    · exact trk_list l.tl
    · exact trk_list l.ai
    · exact trk_list l.ti
  by_cases h24 : x < 24
  · exact hk (x % 4) (Nat.mod_lt _ (by decide)) x (by omega) rfl
  · rcases (show x = 24 ∨ x = 25 ∨ x = 26 ∨ x = 27 ∨ x = 28 by omega) with rfl | rfl | rfl | rfl | rfl
    · exact trk_list G.la
    · exact trk_list G.dl
    · exact trk_list G.ul
    · exact trk_list G.ao
    · exact trk_list G.tq
theorem Trk.tup {cs : List Nat} {tp v t : Addr} (T : Trk ad h) (hc : ∀ y ∈ cs, y < 29) (k : Kp L (cs.map ad) h h') (n : New h₀ L h tp (tup v t)) : New h₀ L h' tp (tup v t) := n.keep k fun hm => by
  obtain ⟨y, hy, e⟩ := List.mem_map.mp hm
  exact (T y (hc y hy)).1 v t (e ▸ n.1)
/-- the thing of this turn -/
def Th (h₀ : Heap) (L : Addr) (h : Heap) (t : Addr) : Prop := ∃ dt et nt v, New h₀ L h t (instObj 587 dt) ∧ New h₀ L h dt (dictOf et nt) ∧ getL "pduDestination" et = some (some (.ref v))
theorem Th.keep {cs : List Nat} {t : Addr} (x : Th h₀ L h t) (T : Trk ad h) (hc : ∀ y ∈ cs, y < 29) (k : Kp L (cs.map ad) h h') : Th h₀ L h' t := by
  obtain ⟨dt, et, nt, v, n1, n2, g⟩ := x
  refine ⟨dt, et, nt, v, n1.keep k fun hm => ?_, n2.keep k fun hm => ?_, g⟩
  · obtain ⟨y, hy, e⟩ := List.mem_map.mp hm
    exact (T y (hc y hy)).2.1 dt (e ▸ n1.1)
  · obtain ⟨y, hy, e⟩ := List.mem_map.mp hm
    exact (T y (hc y hy)).2.2 et nt _ g (e ▸ n2.1)
theorem LyD.step {cs : List Nat} {c c' k n n' : Nat} {dn up dn' up' : Array Value} {es es' : List DictEntry} {tps us ts : Array Value} {c1 c2 c3 c4 : Nat} (hj : Inj ad) (T : Trk ad h) (l : LyD h₀ L ad c dn up h k es n tps us ts c1 c2 c3 c4) (hk : k < 4) (hc : ∀ y ∈ cs, y < 29)
    (kp : Kp L (cs.map ad) h h') (off : k ∉ cs ∧ 8 + k ∉ cs ∧ 12 + k ∉ cs ∧ 16 + k ∉ cs ∧ 20 + k ∉ cs) (d : New h₀ L h' (ad (4 + k)) (dictOf es' n')) (ok : EsOk ad c' k es') (hcc : c ≤ c') (hd : Lk ad "clientPeer" dn' k es') (hu : Lk ad "serverPeer" up' k es') :
    LyD h₀ L ad c' dn' up' h' k es' n' tps us ts c1 c2 c3 c4 :=
  ⟨l.i.keep kp (nin hj (by omega) hc off.1), d, l.al.keep kp (nin hj (by omega) hc off.2.1), l.tl.keep kp (nin hj (by omega) hc off.2.2.1), l.ai.keep kp (nin hj (by omega) hc off.2.2.2.1), l.ti.keep kp (nin hj (by omega) hc off.2.2.2.2),
    ok, Nat.le_trans l.s1 hcc, Nat.le_trans l.s2 hcc, l.rows.keep fun _ _ _ n => T.tup hc kp n, hd, hu⟩
theorem Ly.keep {cs : List Nat} {c c' k : Nat} {dn up dn' up' : Array Value} (hj : Inj ad) (T : Trk ad h) (l : Ly h₀ L ad c dn up h k) (hk : k < 4) (hc : ∀ y ∈ cs, y < 29)
    (kp : Kp L (cs.map ad) h h') (off : k ∉ cs ∧ 4 + k ∉ cs ∧ 8 + k ∉ cs ∧ 12 + k ∉ cs ∧ 16 + k ∉ cs ∧ 20 + k ∉ cs) (hcc : c ≤ c') (hd : dn'[k]? = dn[k]?) (hu : up'[k]? = up[k]?) : Ly h₀ L ad c' dn' up' h' k := by
  obtain ⟨es, n, tps, us, ts, c1, c2, c3, c4, l⟩ := l
  refine ⟨es, n, tps, us, ts, c1, c2, c3, c4, l.step hj T hk hc kp ⟨off.1, off.2.2.1, off.2.2.2.1, off.2.2.2.2.1, off.2.2.2.2.2⟩ (l.d.keep kp (nin hj (by omega) hc off.2.1)) (l.ok.up hcc) hcc ?_ ?_⟩
  · have := l.dl; unfold Lk at this ⊢; rw [hd]; exact this
  · have := l.ul; unfold Lk at this ⊢; rw [hu]; exact this
theorem SS.same {c c' : Nat} (hj : Inj ad) (S : SS h₀ L ad c h) (kp : Kp L [] h h') (hcc : c ≤ c') : SS h₀ L ad c' h' := by
  have T := S.trk
  obtain ⟨dn, up, c24, c25, c26, c27, c28, G⟩ := S
  have z : ∀ y ∈ ([] : List Nat), y < 29 := fun _ h => (nomatch h)
  exact ⟨dn, up, c24, c25, c26, c27, c28, G.la.keep kp (fun h => (nomatch h)), G.dl.keep kp (fun h => (nomatch h)), G.ul.keep kp (fun h => (nomatch h)), G.ao.keep kp (fun h => (nomatch h)), G.tq.keep kp (fun h => (nomatch h)), G.ds, G.us,
    fun k hk => (G.ly k hk).keep (cs := []) hj T hk z kp ⟨fun h => (nomatch h), fun h => (nomatch h), fun h => (nomatch h), fun h => (nomatch h), fun h => (nomatch h), fun h => (nomatch h)⟩ hcc rfl rfl⟩
/-- what is not tracked is kept -/
def KeepU (h₀ : Heap) (L : Addr) (ad : Nat → Addr) (h h' : Heap) : Prop := ∀ b o, New h₀ L h b o → (∀ x, x < 29 → ad x ≠ b) → New h₀ L h' b o
theorem keepU {cs : List Nat} (hc : ∀ y ∈ cs, y < 29) (k : Kp L (cs.map ad) h h') : KeepU h₀ L ad h h' := fun _ _ n hb => n.keep k fun hm => by
  obtain ⟨y, hy, e⟩ := List.mem_map.mp hm
  exact hb y (hc y hy) e
theorem LyD.but {c k : Nat} {dn up : Array Value} {es : List DictEntry} {n : Nat} {tps us ts : Array Value} {c1 c2 c3 c4 : Nat} (l : LyD h₀ L ad c dn up h k es n tps us ts c1 c2 c3 c4) (hk : k < 4) (kp : Kp L as h h') (ha : ∀ x, x < 29 → ad x ∉ as)
    (ht : ∀ tp v t, New h₀ L h tp (tup v t) → tp ∉ as) : LyD h₀ L ad c dn up h' k es n tps us ts c1 c2 c3 c4 :=
  ⟨l.i.keep kp (ha _ (by omega)), l.d.keep kp (ha _ (by omega)), l.al.keep kp (ha _ (by omega)), l.tl.keep kp (ha _ (by omega)), l.ai.keep kp (ha _ (by omega)), l.ti.keep kp (ha _ (by omega)), l.ok, l.s1, l.s2, l.rows.keep fun _ _ _ n => n.keep kp (ht _ _ _ n), l.dl, l.ul⟩
theorem SS.but {c : Nat} (S : SS h₀ L ad c h) (kp : Kp L as h h') (ha : ∀ x, x < 29 → ad x ∉ as) (ht : ∀ tp v t, New h₀ L h tp (tup v t) → tp ∉ as) : SS h₀ L ad c h' := by
  obtain ⟨dn, up, c24, c25, c26, c27, c28, G⟩ := S
  refine ⟨dn, up, c24, c25, c26, c27, c28, G.la.keep kp (ha _ (by decide)), G.dl.keep kp (ha _ (by decide)), G.ul.keep kp (ha _ (by decide)), G.ao.keep kp (ha _ (by decide)), G.tq.keep kp (ha _ (by decide)), G.ds, G.us, fun k hk => ?_⟩
  obtain ⟨es, n, tps, us, ts, c1, c2, c3, c4, l⟩ := G.ly k hk
  exact ⟨es, n, tps, us, ts, c1, c2, c3, c4, l.but hk kp ha ht⟩
/-- the names of a turn -/
def bn (ad : Nat → Addr) (P : Int) (I J H : Nat) (t : Addr) (tp ti tj th : Tok) : List (Str × Value) :=
  [("pick", .int P tp), ("one", .ref (ad I)), ("thing", .ref t), ("i", .int (I : Int) ti), ("j", .int (J : Int) tj), ("k", .int (H : Int) th), ("layers", .ref (ad 24)), ("down", .ref (ad 25)), ("up", .ref (ad 26)), ("asked", .ref (ad 27)), ("told", .ref (ad 28))]
theorem Has.agree {l : List (Str × Value)} {xs : List Str} (b : Has m l) (ha : ∀ y, y ∉ xs → m' y = m y) (hd : ∀ x ∈ l.map (·.1), x ∉ xs) : Has m' l := fun p hp => by
  rw [ha p.1 (hd p.1 (List.mem_map_of_mem hp))]
  exact b p hp
theorem Has.sub {l l' : List (Str × Value)} (b : Has m l) (hs : ∀ p ∈ l', p ∈ l) : Has m l' := fun p hp => b p (hs p hp)
theorem wr_sub {l l' : List (Str × Value)} (b : Has m l) (hs : ∀ p ∈ l', p ∈ l) : wr l' m = m := wr_eq (b.sub hs)
end
/-- the end of a statement of the turn -/
def Nx (h₀ : Heap) (L : Addr) (ad : Nat → Addr) (c : Nat) (l : List (Str × Value)) (t : Addr) (s s' : Shared) : Prop := ∃ h' tk' m', s' = { s with heap := h', toks := tk' } ∧ Fr h₀ L h' m' ∧ Has m' l ∧ SS h₀ L ad c h' ∧ Th h₀ L h' t ∧ KeepU h₀ L ad s.heap h'
end Mine
end
section
open PySem PySem.W PyProof.Rows PySem.Calls
set_option Elab.async false
set_option linter.unusedVariables false
set_option maxRecDepth 100000
set_option maxHeartbeats 4000000
namespace Mine
section
variable {mean : ExcName → Option Value} {mg mb : Str → Option Value} {w : World} {st : Stmt} {cs : Scope} {nm : Str} {fa : Addr} {cd : Value} {h₀ : Heap} {L : Addr} {m : Str → Option Value} {s : Shared} {ad : Nat → Addr} {c : Nat} {P : Int} {I J H : Nat} {t : Addr} {tp ti tj th : Tok}
theorem le900 {c n : Nat} (h : n ≤ c) (hc : c ≤ 800) : n ≤ 900 := by omega
theorem leSize {c n : Nat} (h : n ≤ c) (hc : c ≤ 800) : n ≤ sizeLine := by rw [sizeLine_eq]; omega
theorem newsCons {h : Heap} {a : Addr} {o : Obj} {l : List (Addr × Obj)} (n : New h₀ L h a o) (N : News h₀ L h l) : News h₀ L h ((a, o) :: l) := List.forall_mem_cons.mpr ⟨n, N⟩
theorem newsRest {h : Heap} {as : List Addr} : News h₀ L h (restOf h₀ L h as) := news_restOf (ex := []) (fun _ h => (nomatch h))
theorem Trk.ne1 {h : Heap} {x : Nat} {dt : Addr} (T : Trk ad h) (hx : x < 29) (n : New h₀ L h t (instObj 587 dt)) : Dis (ad x) t := fun e => (T x hx).2.1 dt (by rw [e]; exact n.1)
theorem Trk.ne2 {h : Heap} {x : Nat} {dt v : Addr} {et : List DictEntry} {nt : Nat} (T : Trk ad h) (hx : x < 29) (n : New h₀ L h dt (dictOf et nt)) (g : getL "pduDestination" et = some (some (.ref v))) : Dis (ad x) dt := fun e => (T x hx).2.2 et nt _ g (by rw [e]; exact n.1)
theorem putGet {x : Str} {hs : Int} {t : Tok} {v : Value} {es : List DictEntry} : getL x (putL x hs (.str x t) v es) = some (some v) := getL_put_same
theorem t7 (hst : loopStmt? w.params 6 = some st) (hcs : lawScope? w.params = some cs)
    (B : Below callerA h₀ [] h₀) (F : Fr h₀ L s.heap m) (K : (KF w.params).In h₀) (T : Top Mine.V LS mean mg mb h₀)
    (hj : Inj ad) (bm : Has m (bn ad P I J H t tp ti tj th)) (S : SS h₀ L ad c s.heap) (X : Th h₀ L s.heap t) (hc : c ≤ 800) (hI : I < 4) (hJ : J < 4) (hH : H < 4) (hIJ : I ≠ J) (hJH : J ≠ H) :
    wpAny (model PySem.Challenge.rw_bj5003_01.row.prog w) (callerA.deeper (envOf nm cs L fa cd)) (exec st (envOf nm cs L fa cd)) (fun f s' => f = .next ∧ Nx h₀ L ad (c + 2) (bn ad P I J H t tp ti tj th) t s s') (fun _ _ => False) s := by
  have Tk := S.trk
  obtain ⟨dn, up, c24, c25, c26, c27, c28, G⟩ := id S
  obtain ⟨eI, nI, pI, uI, tI, aI1, aI2, aI3, aI4, lI⟩ := G.ly I (by omega)
  obtain ⟨eJ, nJ, pJ, uJ, tJ, aJ1, aJ2, aJ3, aJ4, lJ⟩ := G.ly J (by omega)
  have hb : ∀ x ∈ [4 + I, 4 + J, 25, 26], x < 29 := List.forall_mem_cons.mpr ⟨(by omega), List.forall_mem_cons.mpr ⟨(by omega), List.forall_mem_cons.mpr ⟨(by omega), List.forall_mem_cons.mpr ⟨(by omega), List.forall_mem_nil _⟩⟩⟩⟩
  have Nl := newsCons lI.i (newsCons lI.d (newsCons lJ.i (newsCons lJ.d (newsCons G.la (newsCons G.dl (newsCons G.ul (newsRest (as := List.map ad [4 + I, 4 + J, 25, 26]))))))))
  have hsub : ∀ p ∈ [(("pick" : Str), Value.int P tp), (("one" : Str), Value.ref (ad I)), (("layers" : Str), Value.ref (ad 24)), (("i" : Str), Value.int (I : Int) ti), (("j" : Str), Value.int (J : Int) tj), (("down" : Str), Value.ref (ad 25)), (("up" : Str), Value.ref (ad 26))], p ∈ bn ad P I J H t tp ti tj th := List.forall_mem_cons.mpr ⟨.head _, List.forall_mem_cons.mpr ⟨.tail _ (.head _), List.forall_mem_cons.mpr ⟨.tail _ (.tail _ (.tail _ (.tail _ (.tail _ (.tail _ (.head _)))))), List.forall_mem_cons.mpr ⟨.tail _ (.tail _ (.tail _ (.head _))), List.forall_mem_cons.mpr ⟨.tail _ (.tail _ (.tail _ (.tail _ (.head _)))), List.forall_mem_cons.mpr ⟨.tail _ (.tail _ (.tail _ (.tail _ (.tail _ (.tail _ (.tail _ (.head _))))))), List.forall_mem_cons.mpr ⟨.tail _ (.tail _ (.tail _ (.tail _ (.tail _ (.tail _ (.tail _ (.tail _ (.head _)))))))), List.forall_mem_nil _⟩⟩⟩⟩⟩⟩⟩
  refine s7 (tail := restOf h₀ L s.heap (List.map ad [4 + I, 4 + J, 25, 26])) hst hcs B F K T (bm.sub hsub) Nl (dis hj (by omega) (by omega) (by omega)) (dis hj (by omega) (by omega) (by omega)) (dis hj (by omega) (by omega) (by omega)) (dis hj (by omega) (by omega) (by omega)) (dis hj (by omega) (by omega) (by omega)) (dis hj (by omega) (by omega) (by omega)) (dis hj (by omega) (by omega) (by omega)) (dis hj (by omega) (by omega) (by omega)) (dis hj (by omega) (by omega) (by omega)) (dis hj (by omega) (by omega) (by omega)) (dis hj (by omega) (by omega) (by omega)) (dis hj (by omega) (by omega) (by omega)) (dis hj (by omega) (by omega) (by omega)) (dis hj (by omega) (by omega) (by omega)) (dis hj (by omega) (by omega) (by omega)) (dis hj (by omega) (by omega) (by omega)) (dis hj (by omega) (by omega) (by omega)) (dis hj (by omega) (by omega) (by omega)) (off_restOf (.head _)) (off_restOf (.tail _ (.head _))) (off_restOf (.tail _ (.tail _ (.head _)))) (off_restOf (.tail _ (.tail _ (.tail _ (.head _))))) hI hJ (by rw [four_at hJ, Nat.zero_add]) G.ds G.us (dis hj (by omega) (by omega) hIJ) (dis hj (by omega) (by omega) (by omega)) (getL_isSome lI.ok.nr) (getL_isSome lJ.ok.nr) (le900 lI.ok.ln hc) (le900 lJ.ok.ln hc) ?_ ?_
  · intro _ h' tk' F' N'
    rw [wr_sub bm hsub] at F'
    have kp := kp_same (kp_rest (as := List.map ad [4 + I, 4 + J, 25, 26]) F F' N' (fun _ hp => .tail _ (.tail _ (.tail _ (.tail _ (.tail _ (.tail _ (.tail _ hp)))))))) Nl N' (List.forall_mem_cons.mpr ⟨⟨_, .tail _ (.head _)⟩, List.forall_mem_cons.mpr ⟨⟨_, .tail _ (.tail _ (.tail _ (.head _)))⟩, List.forall_mem_cons.mpr ⟨⟨_, .tail _ (.tail _ (.tail _ (.tail _ (.tail _ (.head _)))))⟩, List.forall_mem_cons.mpr ⟨⟨_, .tail _ (.tail _ (.tail _ (.tail _ (.tail _ (.tail _ (.head _))))))⟩, List.forall_mem_nil _⟩⟩⟩⟩)
    exact ⟨rfl, h', tk', m, rfl, F', bm, S.same hj kp (by omega), X.keep (cs := []) Tk (fun _ h => (nomatch h)) kp, keepU (cs := []) (fun _ h => (nomatch h)) kp⟩
  · intro _ t1 t2 h' tk' F' N'
    rw [wr_sub bm hsub] at F'
    have kp : Kp L (List.map ad [4 + I, 4 + J, 25, 26]) s.heap h' := kp_rest F (by first | exact F' | exact fr0 F') N' (fun _ hp => .tail _ (.tail _ (.tail _ (.tail _ (.tail _ (.tail _ (.tail _ hp)))))))
    refine ⟨rfl, h', tk', _, rfl, F', bm, ⟨_, _, _, _, _, _, _, (G.la.keep kp (nin hj (by decide) hb (by simp only [List.mem_cons, List.not_mem_nil, or_false]; omega))), (N' _ (.tail _ (.tail _ (.tail _ (.tail _ (.tail _ (.head _))))))), (N' _ (.tail _ (.tail _ (.tail _ (.tail _ (.tail _ (.tail _ (.head _)))))))), (G.ao.keep kp (nin hj (by decide) hb (by simp only [List.mem_cons, List.not_mem_nil, or_false]; omega))), (G.tq.keep kp (nin hj (by decide) hb (by simp only [List.mem_cons, List.not_mem_nil, or_false]; omega))), (by rw [Array.size_setIfInBounds]; exact G.ds), (by rw [Array.size_setIfInBounds]; exact G.us), fun k hk => ?_⟩, X.keep Tk hb kp, keepU hb kp⟩
    by_cases z0 : k = I
    · rw [z0]
      exact ⟨_, _, _, _, _, _, _, _, _, lI.step hj Tk hI hb kp ⟨(by simp only [List.mem_cons, List.not_mem_nil, or_false]; omega), (by simp only [List.mem_cons, List.not_mem_nil, or_false]; omega), (by simp only [List.mem_cons, List.not_mem_nil, or_false]; omega), (by simp only [List.mem_cons, List.not_mem_nil, or_false]; omega), (by simp only [List.mem_cons, List.not_mem_nil, or_false]; omega)⟩ (N' _ (.tail _ (.head _))) ((lI.ok.put (by decide : ("clientPeer" : Str) ∈ [("clientPeer" : Str), "serverPeer", "elementService"])).up (by omega)) (by omega) (Lk.put hJ (by rw [G.ds]; exact hI)) ((lI.ul.put_ne lI.ok.nr (by decide)).set_ne (by omega))⟩
    by_cases z1 : k = J
    · rw [z1]
      exact ⟨_, _, _, _, _, _, _, _, _, lJ.step hj Tk hJ hb kp ⟨(by simp only [List.mem_cons, List.not_mem_nil, or_false]; omega), (by simp only [List.mem_cons, List.not_mem_nil, or_false]; omega), (by simp only [List.mem_cons, List.not_mem_nil, or_false]; omega), (by simp only [List.mem_cons, List.not_mem_nil, or_false]; omega), (by simp only [List.mem_cons, List.not_mem_nil, or_false]; omega)⟩ (N' _ (.tail _ (.tail _ (.tail _ (.head _))))) ((lJ.ok.put (by decide : ("serverPeer" : Str) ∈ [("clientPeer" : Str), "serverPeer", "elementService"])).up (by omega)) (by omega) ((lJ.dl.put_ne lJ.ok.nr (by decide)).set_ne (by omega)) (Lk.put hI (by rw [G.us]; exact hJ))⟩
    exact (G.ly k hk).keep hj Tk hk hb kp ⟨(by simp only [List.mem_cons, List.not_mem_nil, or_false]; omega), (by simp only [List.mem_cons, List.not_mem_nil, or_false]; omega), (by simp only [List.mem_cons, List.not_mem_nil, or_false]; omega), (by simp only [List.mem_cons, List.not_mem_nil, or_false]; omega), (by simp only [List.mem_cons, List.not_mem_nil, or_false]; omega), (by simp only [List.mem_cons, List.not_mem_nil, or_false]; omega)⟩ (by omega) (by rw [Array.getElem?_setIfInBounds_ne (by omega)]) (by rw [Array.getElem?_setIfInBounds_ne (by omega)])
theorem t8n (hst : loopStmt? w.params 7 = some st) (hcs : lawScope? w.params = some cs)
    (B : Below callerA h₀ [] h₀) (F : Fr h₀ L s.heap m) (K : (KF w.params).In h₀) (T : Top Mine.V LS mean mg mb h₀)
    (hj : Inj ad) (bm : Has m (bn ad P I J H t tp ti tj th)) (S : SS h₀ L ad c s.heap) (X : Th h₀ L s.heap t) (hc : c ≤ 800) (hI : I < 4) (hJ : J < 4) (hH : H < 4) (hIJ : I ≠ J) (hJH : J ≠ H) {dn up : Array Value} {c24 c25 c26 c27 c28 : Nat} (G : SSD h₀ L ad c s.heap dn up c24 c25 c26 c27 c28) {eI : List DictEntry} {nI : Nat} {pI uI tI : Array Value} {aI1 aI2 aI3 aI4 : Nat} (lI : LyD h₀ L ad c dn up s.heap I eI nI pI uI tI aI1 aI2 aI3 aI4) (hn : dn[I]? = some Value.none) :
    wpAny (model PySem.Challenge.rw_bj5003_01.row.prog w) (callerA.deeper (envOf nm cs L fa cd)) (exec st (envOf nm cs L fa cd)) (fun f s' => f = .next ∧ Nx h₀ L ad (c + 2) (bn ad P I J H t tp ti tj th) t s s') (fun _ _ => False) s := by
  have Tk := S.trk
  have hsub : ∀ p ∈ [(("pick" : Str), Value.int P tp), (("i" : Str), Value.int (I : Int) ti), (("down" : Str), Value.ref (ad 25))], p ∈ bn ad P I J H t tp ti tj th := List.forall_mem_cons.mpr ⟨.head _, List.forall_mem_cons.mpr ⟨.tail _ (.tail _ (.tail _ (.head _))), List.forall_mem_cons.mpr ⟨.tail _ (.tail _ (.tail _ (.tail _ (.tail _ (.tail _ (.tail _ (.head _))))))), List.forall_mem_nil _⟩⟩⟩
  refine s8n (tail := restOf h₀ L s.heap []) hst hcs B F K T (bm.sub hsub) (newsCons G.dl (newsRest (as := []))) hI hn fun _ h' tk' F' N' => ?_
  rw [wr_sub bm hsub] at F'
  have kp : Kp L [] s.heap h' := kp_rest F F' N' (fun _ hp => .tail _ hp)
  exact ⟨rfl, h', tk', m, rfl, F', bm, S.same hj kp (by omega), X.keep (cs := []) Tk (fun _ h => (nomatch h)) kp, keepU (cs := []) (fun _ h => (nomatch h)) kp⟩
theorem t8y (hst : loopStmt? w.params 7 = some st) (hcs : lawScope? w.params = some cs)
    (B : Below callerA h₀ [] h₀) (F : Fr h₀ L s.heap m) (K : (KF w.params).In h₀) (T : Top Mine.V LS mean mg mb h₀)
    (hj : Inj ad) (bm : Has m (bn ad P I J H t tp ti tj th)) (S : SS h₀ L ad c s.heap) (X : Th h₀ L s.heap t) (hc : c ≤ 800) (hI : I < 4) (hJ : J < 4) (hH : H < 4) (hIJ : I ≠ J) (hJH : J ≠ H) {dn up : Array Value} {c24 c25 c26 c27 c28 : Nat} (G : SSD h₀ L ad c s.heap dn up c24 c25 c26 c27 c28) {eI : List DictEntry} {nI : Nat} {pI uI tI : Array Value} {aI1 aI2 aI3 aI4 : Nat} (lI : LyD h₀ L ad c dn up s.heap I eI nI pI uI tI aI1 aI2 aI3 aI4) {R : Nat} {tr : Tok} (hR : R < 4) (hx : dn[I]? = some (.int (R : Int) tr)) (hp : getL "clientPeer" eI = some (some (.ref (ad R)))) :
    wpAny (model PySem.Challenge.rw_bj5003_01.row.prog w) (callerA.deeper (envOf nm cs L fa cd)) (exec st (envOf nm cs L fa cd)) (fun f s' => f = .next ∧ Nx h₀ L ad (c + 2) (bn ad P I J H t tp ti tj th) t s s') (fun _ _ => False) s := by
  have Tk := S.trk
  obtain ⟨eR, nR, pR, uR, tR, aR1, aR2, aR3, aR4, lR⟩ := G.ly R hR
  obtain ⟨dt, et, nt, v, x1, x2, gv⟩ := id X
  have hb : ∀ x ∈ [8 + R, 16 + R], x < 29 := List.forall_mem_cons.mpr ⟨(by omega), List.forall_mem_cons.mpr ⟨(by omega), List.forall_mem_nil _⟩⟩
  have Nl := newsCons lI.i (newsCons lI.d (newsCons lR.i (newsCons lR.d (newsCons x1 (newsCons x2 (newsCons lR.al (newsCons G.dl (newsCons G.ao (newsCons lR.ai (newsRest (as := List.map ad [8 + R, 16 + R])))))))))))
  have hsub : ∀ p ∈ [(("pick" : Str), Value.int P tp), (("one" : Str), Value.ref (ad I)), (("thing" : Str), Value.ref t), (("i" : Str), Value.int (I : Int) ti), (("down" : Str), Value.ref (ad 25)), (("asked" : Str), Value.ref (ad 27))], p ∈ bn ad P I J H t tp ti tj th := List.forall_mem_cons.mpr ⟨.head _, List.forall_mem_cons.mpr ⟨.tail _ (.head _), List.forall_mem_cons.mpr ⟨.tail _ (.tail _ (.head _)), List.forall_mem_cons.mpr ⟨.tail _ (.tail _ (.tail _ (.head _))), List.forall_mem_cons.mpr ⟨.tail _ (.tail _ (.tail _ (.tail _ (.tail _ (.tail _ (.tail _ (.head _))))))), List.forall_mem_cons.mpr ⟨.tail _ (.tail _ (.tail _ (.tail _ (.tail _ (.tail _ (.tail _ (.tail _ (.tail _ (.head _))))))))), List.forall_mem_nil _⟩⟩⟩⟩⟩⟩
  refine s8 (tail := restOf h₀ L s.heap (List.map ad [8 + R, 16 + R])) hst hcs B F K T (bm.sub hsub) Nl (dis hj (by omega) (by omega) (by omega)) (dis hj (by omega) (by omega) (by omega)) (dis hj (by omega) (by omega) (by omega)) (dis hj (by omega) (by omega) (by omega)) (Tk.ne1 (by omega) x1) (Tk.ne2 (by omega) x2 gv) (dis hj (by omega) (by omega) (by omega)) (dis hj (by omega) (by omega) (by omega)) (dis hj (by omega) (by omega) (by omega)) (dis hj (by omega) (by omega) (by omega)) (dis hj (by omega) (by omega) (by omega)) (dis hj (by omega) (by omega) (by omega)) (dis hj (by omega) (by omega) (by omega)) (Tk.ne1 (by omega) x1) (Tk.ne2 (by omega) x2 gv) (dis hj (by omega) (by omega) (by omega)) (dis hj (by omega) (by omega) (by omega)) (off_restOf (.head _)) (off_restOf (.tail _ (.head _))) hI hR hx (four_at hR) (lI.ok.gq "request" (.head _)) hp (lR.ok.gq "indication" (.tail _ (.tail _ (.head _)))) lR.ok.ga gv (leSize lR.s1 hc) (by rw [← lR.rows.1]; exact leSize lR.s1 hc) ?_ ?_
  · intro _ h' tk' F' N'
    rw [wr_sub bm hsub] at F'
    have kp := kp_same (kp_rest (as := List.map ad [8 + R, 16 + R]) F F' N' (fun _ hp => .tail _ (.tail _ (.tail _ (.tail _ (.tail _ (.tail _ (.tail _ (.tail _ (.tail _ (.tail _ hp))))))))))) Nl N' (List.forall_mem_cons.mpr ⟨⟨_, .tail _ (.tail _ (.tail _ (.tail _ (.tail _ (.tail _ (.head _))))))⟩, List.forall_mem_cons.mpr ⟨⟨_, .tail _ (.tail _ (.tail _ (.tail _ (.tail _ (.tail _ (.tail _ (.tail _ (.tail _ (.head _)))))))))⟩, List.forall_mem_nil _⟩⟩)
    exact ⟨rfl, h', tk', m, rfl, F', bm, S.same hj kp (by omega), X.keep (cs := []) Tk (fun _ h => (nomatch h)) kp, keepU (cs := []) (fun _ h => (nomatch h)) kp⟩
  · intro _ u h' tk' F' N'
    rw [wr_sub bm hsub] at F'
    have kp : Kp L (List.map ad [8 + R, 16 + R]) s.heap h' := kp_rest F (by first | exact F' | exact fr0 F') N' (fun _ hp => .tail _ (.tail _ (.tail _ (.tail _ (.tail _ (.tail _ (.tail _ (.tail _ (.tail _ (.tail _ (.tail _ hp)))))))))))
    refine ⟨rfl, h', tk', _, rfl, F', bm, ⟨_, _, _, _, _, _, _, (G.la.keep kp (nin hj (by decide) hb (by simp only [List.mem_cons, List.not_mem_nil, or_false]; omega))), (G.dl.keep kp (nin hj (by decide) hb (by simp only [List.mem_cons, List.not_mem_nil, or_false]; omega))), (G.ul.keep kp (nin hj (by decide) hb (by simp only [List.mem_cons, List.not_mem_nil, or_false]; omega))), (G.ao.keep kp (nin hj (by decide) hb (by simp only [List.mem_cons, List.not_mem_nil, or_false]; omega))), (G.tq.keep kp (nin hj (by decide) hb (by simp only [List.mem_cons, List.not_mem_nil, or_false]; omega))), G.ds, G.us, fun k hk => ?_⟩, X.keep Tk hb kp, keepU hb kp⟩
    by_cases z0 : k = R
    · rw [z0]
      exact ⟨_, _, _, _, _, _, _, _, _, (lR.i.keep kp (nin hj (by omega) hb (by simp only [List.mem_cons, List.not_mem_nil, or_false]; omega))), (lR.d.keep kp (nin hj (by omega) hb (by simp only [List.mem_cons, List.not_mem_nil, or_false]; omega))), (N' _ (.tail _ (.tail _ (.tail _ (.tail _ (.tail _ (.tail _ (.tail _ (.head _))))))))), (lR.tl.keep kp (nin hj (by omega) hb (by simp only [List.mem_cons, List.not_mem_nil, or_false]; omega))), (N' _ (.tail _ (.tail _ (.tail _ (.tail _ (.tail _ (.tail _ (.tail _ (.tail _ (.tail _ (.tail _ (.head _)))))))))))), (lR.ti.keep kp (nin hj (by omega) hb (by simp only [List.mem_cons, List.not_mem_nil, or_false]; omega))), (lR.ok.up (by omega)), (by rw [Array.size_push]; have := lR.s1; omega), (Nat.le_trans lR.s2 (by omega)), ((lR.rows.keep fun _ _ _ n => Tk.tup hb kp n).push (N' _ (.head _))), lR.dl, lR.ul⟩
    exact (G.ly k hk).keep hj Tk hk hb kp ⟨(by simp only [List.mem_cons, List.not_mem_nil, or_false]; omega), (by simp only [List.mem_cons, List.not_mem_nil, or_false]; omega), (by simp only [List.mem_cons, List.not_mem_nil, or_false]; omega), (by simp only [List.mem_cons, List.not_mem_nil, or_false]; omega), (by simp only [List.mem_cons, List.not_mem_nil, or_false]; omega), (by simp only [List.mem_cons, List.not_mem_nil, or_false]; omega)⟩ (by omega) rfl rfl
theorem t8 (hst : loopStmt? w.params 7 = some st) (hcs : lawScope? w.params = some cs)
    (B : Below callerA h₀ [] h₀) (F : Fr h₀ L s.heap m) (K : (KF w.params).In h₀) (T : Top Mine.V LS mean mg mb h₀)
    (hj : Inj ad) (bm : Has m (bn ad P I J H t tp ti tj th)) (S : SS h₀ L ad c s.heap) (X : Th h₀ L s.heap t) (hc : c ≤ 800) (hI : I < 4) (hJ : J < 4) (hH : H < 4) (hIJ : I ≠ J) (hJH : J ≠ H) :
    wpAny (model PySem.Challenge.rw_bj5003_01.row.prog w) (callerA.deeper (envOf nm cs L fa cd)) (exec st (envOf nm cs L fa cd)) (fun f s' => f = .next ∧ Nx h₀ L ad (c + 2) (bn ad P I J H t tp ti tj th) t s s') (fun _ _ => False) s := by
  obtain ⟨dn, up, c24, c25, c26, c27, c28, G⟩ := id S
  obtain ⟨eI, nI, pI, uI, tI, aI1, aI2, aI3, aI4, lI⟩ := G.ly I (by omega)
  rcases lI.dl with hn | ⟨R, tr, hR, hx, hp⟩
  · exact t8n hst hcs B F K T hj bm S X hc hI hJ hH hIJ hJH G lI hn
  · exact t8y hst hcs B F K T hj bm S X hc hI hJ hH hIJ hJH G lI hR hx hp
theorem t9n (hst : loopStmt? w.params 8 = some st) (hcs : lawScope? w.params = some cs)
    (B : Below callerA h₀ [] h₀) (F : Fr h₀ L s.heap m) (K : (KF w.params).In h₀) (T : Top Mine.V LS mean mg mb h₀)
    (hj : Inj ad) (bm : Has m (bn ad P I J H t tp ti tj th)) (S : SS h₀ L ad c s.heap) (X : Th h₀ L s.heap t) (hc : c ≤ 800) (hI : I < 4) (hJ : J < 4) (hH : H < 4) (hIJ : I ≠ J) (hJH : J ≠ H) {dn up : Array Value} {c24 c25 c26 c27 c28 : Nat} (G : SSD h₀ L ad c s.heap dn up c24 c25 c26 c27 c28) {eI : List DictEntry} {nI : Nat} {pI uI tI : Array Value} {aI1 aI2 aI3 aI4 : Nat} (lI : LyD h₀ L ad c dn up s.heap I eI nI pI uI tI aI1 aI2 aI3 aI4) (hn : up[I]? = some Value.none) :
    wpAny (model PySem.Challenge.rw_bj5003_01.row.prog w) (callerA.deeper (envOf nm cs L fa cd)) (exec st (envOf nm cs L fa cd)) (fun f s' => f = .next ∧ Nx h₀ L ad (c + 2) (bn ad P I J H t tp ti tj th) t s s') (fun _ _ => False) s := by
  have Tk := S.trk
  have hsub : ∀ p ∈ [(("pick" : Str), Value.int P tp), (("i" : Str), Value.int (I : Int) ti), (("up" : Str), Value.ref (ad 26))], p ∈ bn ad P I J H t tp ti tj th := List.forall_mem_cons.mpr ⟨.head _, List.forall_mem_cons.mpr ⟨.tail _ (.tail _ (.tail _ (.head _))), List.forall_mem_cons.mpr ⟨.tail _ (.tail _ (.tail _ (.tail _ (.tail _ (.tail _ (.tail _ (.tail _ (.head _)))))))), List.forall_mem_nil _⟩⟩⟩
  refine s9n (tail := restOf h₀ L s.heap []) hst hcs B F K T (bm.sub hsub) (newsCons G.ul (newsRest (as := []))) hI hn fun _ h' tk' F' N' => ?_
  rw [wr_sub bm hsub] at F'
  have kp : Kp L [] s.heap h' := kp_rest F F' N' (fun _ hp => .tail _ hp)
  exact ⟨rfl, h', tk', m, rfl, F', bm, S.same hj kp (by omega), X.keep (cs := []) Tk (fun _ h => (nomatch h)) kp, keepU (cs := []) (fun _ h => (nomatch h)) kp⟩
theorem t9y (hst : loopStmt? w.params 8 = some st) (hcs : lawScope? w.params = some cs)
    (B : Below callerA h₀ [] h₀) (F : Fr h₀ L s.heap m) (K : (KF w.params).In h₀) (T : Top Mine.V LS mean mg mb h₀)
    (hj : Inj ad) (bm : Has m (bn ad P I J H t tp ti tj th)) (S : SS h₀ L ad c s.heap) (X : Th h₀ L s.heap t) (hc : c ≤ 800) (hI : I < 4) (hJ : J < 4) (hH : H < 4) (hIJ : I ≠ J) (hJH : J ≠ H) {dn up : Array Value} {c24 c25 c26 c27 c28 : Nat} (G : SSD h₀ L ad c s.heap dn up c24 c25 c26 c27 c28) {eI : List DictEntry} {nI : Nat} {pI uI tI : Array Value} {aI1 aI2 aI3 aI4 : Nat} (lI : LyD h₀ L ad c dn up s.heap I eI nI pI uI tI aI1 aI2 aI3 aI4) {R : Nat} {tr : Tok} (hR : R < 4) (hx : up[I]? = some (.int (R : Int) tr)) (hp : getL "serverPeer" eI = some (some (.ref (ad R)))) :
    wpAny (model PySem.Challenge.rw_bj5003_01.row.prog w) (callerA.deeper (envOf nm cs L fa cd)) (exec st (envOf nm cs L fa cd)) (fun f s' => f = .next ∧ Nx h₀ L ad (c + 2) (bn ad P I J H t tp ti tj th) t s s') (fun _ _ => False) s := by
  have Tk := S.trk
  obtain ⟨eR, nR, pR, uR, tR, aR1, aR2, aR3, aR4, lR⟩ := G.ly R hR
  obtain ⟨dt, et, nt, v, x1, x2, gv⟩ := id X
  have hb : ∀ x ∈ [12 + R, 20 + R], x < 29 := List.forall_mem_cons.mpr ⟨(by omega), List.forall_mem_cons.mpr ⟨(by omega), List.forall_mem_nil _⟩⟩
  have Nl := newsCons lI.i (newsCons lI.d (newsCons lR.i (newsCons lR.d (newsCons lR.tl (newsCons G.ul (newsCons G.tq (newsCons lR.ti (newsRest (as := List.map ad [12 + R, 20 + R])))))))))
  have hsub : ∀ p ∈ [(("pick" : Str), Value.int P tp), (("one" : Str), Value.ref (ad I)), (("thing" : Str), Value.ref t), (("i" : Str), Value.int (I : Int) ti), (("up" : Str), Value.ref (ad 26)), (("told" : Str), Value.ref (ad 28))], p ∈ bn ad P I J H t tp ti tj th := List.forall_mem_cons.mpr ⟨.head _, List.forall_mem_cons.mpr ⟨.tail _ (.head _), List.forall_mem_cons.mpr ⟨.tail _ (.tail _ (.head _)), List.forall_mem_cons.mpr ⟨.tail _ (.tail _ (.tail _ (.head _))), List.forall_mem_cons.mpr ⟨.tail _ (.tail _ (.tail _ (.tail _ (.tail _ (.tail _ (.tail _ (.tail _ (.head _)))))))), List.forall_mem_cons.mpr ⟨.tail _ (.tail _ (.tail _ (.tail _ (.tail _ (.tail _ (.tail _ (.tail _ (.tail _ (.tail _ (.head _)))))))))), List.forall_mem_nil _⟩⟩⟩⟩⟩⟩
  refine s9 (tail := restOf h₀ L s.heap (List.map ad [12 + R, 20 + R])) hst hcs B F K T (bm.sub hsub) Nl (dis hj (by omega) (by omega) (by omega)) (dis hj (by omega) (by omega) (by omega)) (dis hj (by omega) (by omega) (by omega)) (dis hj (by omega) (by omega) (by omega)) (dis hj (by omega) (by omega) (by omega)) (dis hj (by omega) (by omega) (by omega)) (dis hj (by omega) (by omega) (by omega)) (dis hj (by omega) (by omega) (by omega)) (dis hj (by omega) (by omega) (by omega)) (dis hj (by omega) (by omega) (by omega)) (dis hj (by omega) (by omega) (by omega)) (dis hj (by omega) (by omega) (by omega)) (dis hj (by omega) (by omega) (by omega)) (off_restOf (.head _)) (off_restOf (.tail _ (.head _))) hI hR hx (four_at hR) (lI.ok.gq "response" (.tail _ (.head _))) hp (lR.ok.gq "confirmation" (.tail _ (.tail _ (.tail _ (.head _))))) lR.ok.gt (leSize lR.s2 hc) (leSize lR.s2 hc) ?_ ?_
  · intro _ h' tk' F' N'
    rw [wr_sub bm hsub] at F'
    have kp := kp_same (kp_rest (as := List.map ad [12 + R, 20 + R]) F F' N' (fun _ hp => .tail _ (.tail _ (.tail _ (.tail _ (.tail _ (.tail _ (.tail _ (.tail _ hp))))))))) Nl N' (List.forall_mem_cons.mpr ⟨⟨_, .tail _ (.tail _ (.tail _ (.tail _ (.head _))))⟩, List.forall_mem_cons.mpr ⟨⟨_, .tail _ (.tail _ (.tail _ (.tail _ (.tail _ (.tail _ (.tail _ (.head _)))))))⟩, List.forall_mem_nil _⟩⟩)
    exact ⟨rfl, h', tk', m, rfl, F', bm, S.same hj kp (by omega), X.keep (cs := []) Tk (fun _ h => (nomatch h)) kp, keepU (cs := []) (fun _ h => (nomatch h)) kp⟩
  · intro _  h' tk' F' N'
    rw [wr_sub bm hsub] at F'
    have kp : Kp L (List.map ad [12 + R, 20 + R]) s.heap h' := kp_rest F (by first | exact F' | exact fr0 F') N' (fun _ hp => .tail _ (.tail _ (.tail _ (.tail _ (.tail _ (.tail _ (.tail _ (.tail _ hp))))))))
    refine ⟨rfl, h', tk', _, rfl, F', bm, ⟨_, _, _, _, _, _, _, (G.la.keep kp (nin hj (by decide) hb (by simp only [List.mem_cons, List.not_mem_nil, or_false]; omega))), (G.dl.keep kp (nin hj (by decide) hb (by simp only [List.mem_cons, List.not_mem_nil, or_false]; omega))), (G.ul.keep kp (nin hj (by decide) hb (by simp only [List.mem_cons, List.not_mem_nil, or_false]; omega))), (G.ao.keep kp (nin hj (by decide) hb (by simp only [List.mem_cons, List.not_mem_nil, or_false]; omega))), (G.tq.keep kp (nin hj (by decide) hb (by simp only [List.mem_cons, List.not_mem_nil, or_false]; omega))), G.ds, G.us, fun k hk => ?_⟩, X.keep Tk hb kp, keepU hb kp⟩
    by_cases z0 : k = R
    · rw [z0]
      exact ⟨_, _, _, _, _, _, _, _, _, (lR.i.keep kp (nin hj (by omega) hb (by simp only [List.mem_cons, List.not_mem_nil, or_false]; omega))), (lR.d.keep kp (nin hj (by omega) hb (by simp only [List.mem_cons, List.not_mem_nil, or_false]; omega))), (lR.al.keep kp (nin hj (by omega) hb (by simp only [List.mem_cons, List.not_mem_nil, or_false]; omega))), (N' _ (.tail _ (.tail _ (.tail _ (.tail _ (.head _)))))), (lR.ai.keep kp (nin hj (by omega) hb (by simp only [List.mem_cons, List.not_mem_nil, or_false]; omega))), (N' _ (.tail _ (.tail _ (.tail _ (.tail _ (.tail _ (.tail _ (.tail _ (.head _))))))))), (lR.ok.up (by omega)), (Nat.le_trans lR.s1 (by omega)), (by rw [Array.size_push]; have := lR.s2; omega), (lR.rows.keep fun _ _ _ n => Tk.tup hb kp n), lR.dl, lR.ul⟩
    exact (G.ly k hk).keep hj Tk hk hb kp ⟨(by simp only [List.mem_cons, List.not_mem_nil, or_false]; omega), (by simp only [List.mem_cons, List.not_mem_nil, or_false]; omega), (by simp only [List.mem_cons, List.not_mem_nil, or_false]; omega), (by simp only [List.mem_cons, List.not_mem_nil, or_false]; omega), (by simp only [List.mem_cons, List.not_mem_nil, or_false]; omega), (by simp only [List.mem_cons, List.not_mem_nil, or_false]; omega)⟩ (by omega) rfl rfl
theorem t9 (hst : loopStmt? w.params 8 = some st) (hcs : lawScope? w.params = some cs)
    (B : Below callerA h₀ [] h₀) (F : Fr h₀ L s.heap m) (K : (KF w.params).In h₀) (T : Top Mine.V LS mean mg mb h₀)
    (hj : Inj ad) (bm : Has m (bn ad P I J H t tp ti tj th)) (S : SS h₀ L ad c s.heap) (X : Th h₀ L s.heap t) (hc : c ≤ 800) (hI : I < 4) (hJ : J < 4) (hH : H < 4) (hIJ : I ≠ J) (hJH : J ≠ H) :
    wpAny (model PySem.Challenge.rw_bj5003_01.row.prog w) (callerA.deeper (envOf nm cs L fa cd)) (exec st (envOf nm cs L fa cd)) (fun f s' => f = .next ∧ Nx h₀ L ad (c + 2) (bn ad P I J H t tp ti tj th) t s s') (fun _ _ => False) s := by
  obtain ⟨dn, up, c24, c25, c26, c27, c28, G⟩ := id S
  obtain ⟨eI, nI, pI, uI, tI, aI1, aI2, aI3, aI4, lI⟩ := G.ly I (by omega)
  rcases lI.ul with hn | ⟨R, tr, hR, hx, hp⟩
  · exact t9n hst hcs B F K T hj bm S X hc hI hJ hH hIJ hJH G lI hn
  · exact t9y hst hcs B F K T hj bm S X hc hI hJ hH hIJ hJH G lI hR hx hp
theorem t11 (hst : loopStmt? w.params 10 = some st) (hcs : lawScope? w.params = some cs)
    (B : Below callerA h₀ [] h₀) (F : Fr h₀ L s.heap m) (K : (KF w.params).In h₀) (T : Top Mine.V LS mean mg mb h₀)
    (hj : Inj ad) (bm : Has m (bn ad P I J H t tp ti tj th)) (S : SS h₀ L ad c s.heap) (X : Th h₀ L s.heap t) (hc : c ≤ 800) (hI : I < 4) (hJ : J < 4) (hH : H < 4) (hIJ : I ≠ J) (hJH : J ≠ H) :
    wpAny (model PySem.Challenge.rw_bj5003_01.row.prog w) (callerA.deeper (envOf nm cs L fa cd)) (exec st (envOf nm cs L fa cd)) (fun f s' => f = .next ∧ Nx h₀ L ad (c + 2) (bn ad P I J H t tp ti tj th) t s s') (fun _ _ => False) s := by
  have Tk := S.trk
  obtain ⟨dn, up, c24, c25, c26, c27, c28, G⟩ := id S
  obtain ⟨eI, nI, pI, uI, tI, aI1, aI2, aI3, aI4, lI⟩ := G.ly I (by omega)
  have hsub : ∀ p ∈ [(("pick" : Str), Value.int P tp), (("one" : Str), Value.ref (ad I))], p ∈ bn ad P I J H t tp ti tj th := List.forall_mem_cons.mpr ⟨.head _, List.forall_mem_cons.mpr ⟨.tail _ (.head _), List.forall_mem_nil _⟩⟩
  refine s11 (tail := restOf h₀ L s.heap []) hst hcs B F K T (bm.sub hsub) (newsCons lI.i (newsCons lI.d (newsRest (as := []))))  fun _ h' tk' F' N' => ?_
  rw [wr_sub bm hsub] at F'
  have kp : Kp L [] s.heap h' := kp_rest F F' N' (fun _ hp => .tail _ (.tail _ hp))
  exact ⟨rfl, h', tk', m, rfl, F', bm, S.same hj kp (by omega), X.keep (cs := []) Tk (fun _ h => (nomatch h)) kp, keepU (cs := []) (fun _ h => (nomatch h)) kp⟩
theorem t10a (hst : loopStmt? w.params 9 = some st) (hcs : lawScope? w.params = some cs)
    (B : Below callerA h₀ [] h₀) (F : Fr h₀ L s.heap m) (K : (KF w.params).In h₀) (T : Top Mine.V LS mean mg mb h₀)
    (hj : Inj ad) (bm : Has m (bn ad P I J H t tp ti tj th)) (S : SS h₀ L ad c s.heap) (X : Th h₀ L s.heap t) (hc : c ≤ 800) (hI : I < 4) (hJ : J < 4) (hH : H < 4) (hIJ : I ≠ J) (hJH : J ≠ H) (hIH : I ≠ H) :
    wpAny (model PySem.Challenge.rw_bj5003_01.row.prog w) (callerA.deeper (envOf nm cs L fa cd)) (exec st (envOf nm cs L fa cd)) (fun f s' => f = .next ∧ Nx h₀ L ad (c + 2) (bn ad P I J H t tp ti tj th) t s s') (fun _ _ => False) s := by
  have Tk := S.trk
  obtain ⟨dn, up, c24, c25, c26, c27, c28, G⟩ := id S
  obtain ⟨eI, nI, pI, uI, tI, aI1, aI2, aI3, aI4, lI⟩ := G.ly I (by omega)
  obtain ⟨eJ, nJ, pJ, uJ, tJ, aJ1, aJ2, aJ3, aJ4, lJ⟩ := G.ly J (by omega)
  obtain ⟨eH, nH, pH, uH, tH, aH1, aH2, aH3, aH4, lH⟩ := G.ly H (by omega)
  have hb : ∀ x ∈ [4 + I, 4 + J, 4 + H, 25, 26], x < 29 := List.forall_mem_cons.mpr ⟨(by omega), List.forall_mem_cons.mpr ⟨(by omega), List.forall_mem_cons.mpr ⟨(by omega), List.forall_mem_cons.mpr ⟨(by omega), List.forall_mem_cons.mpr ⟨(by omega), List.forall_mem_nil _⟩⟩⟩⟩⟩
  have Nl := newsCons lI.i (newsCons lI.d (newsCons lJ.i (newsCons lJ.d (newsCons lH.i (newsCons lH.d (newsCons G.la (newsCons G.dl (newsCons G.ul (newsRest (as := List.map ad [4 + I, 4 + J, 4 + H, 25, 26]))))))))))
  have hsub : ∀ p ∈ [(("pick" : Str), Value.int P tp), (("one" : Str), Value.ref (ad I)), (("layers" : Str), Value.ref (ad 24)), (("i" : Str), Value.int (I : Int) ti), (("j" : Str), Value.int (J : Int) tj), (("k" : Str), Value.int (H : Int) th), (("down" : Str), Value.ref (ad 25)), (("up" : Str), Value.ref (ad 26))], p ∈ bn ad P I J H t tp ti tj th := List.forall_mem_cons.mpr ⟨.head _, List.forall_mem_cons.mpr ⟨.tail _ (.head _), List.forall_mem_cons.mpr ⟨.tail _ (.tail _ (.tail _ (.tail _ (.tail _ (.tail _ (.head _)))))), List.forall_mem_cons.mpr ⟨.tail _ (.tail _ (.tail _ (.head _))), List.forall_mem_cons.mpr ⟨.tail _ (.tail _ (.tail _ (.tail _ (.head _)))), List.forall_mem_cons.mpr ⟨.tail _ (.tail _ (.tail _ (.tail _ (.tail _ (.head _))))), List.forall_mem_cons.mpr ⟨.tail _ (.tail _ (.tail _ (.tail _ (.tail _ (.tail _ (.tail _ (.head _))))))), List.forall_mem_cons.mpr ⟨.tail _ (.tail _ (.tail _ (.tail _ (.tail _ (.tail _ (.tail _ (.tail _ (.head _)))))))), List.forall_mem_nil _⟩⟩⟩⟩⟩⟩⟩⟩
  refine s10 (tail := restOf h₀ L s.heap (List.map ad [4 + I, 4 + J, 4 + H, 25, 26])) hst hcs B F K T (bm.sub hsub) Nl (dis hj (by omega) (by omega) (by omega)) (dis hj (by omega) (by omega) (by omega)) (dis hj (by omega) (by omega) (by omega)) (dis hj (by omega) (by omega) (by omega)) (dis hj (by omega) (by omega) (by omega)) (dis hj (by omega) (by omega) (by omega)) (dis hj (by omega) (by omega) (by omega)) (dis hj (by omega) (by omega) (by omega)) (dis hj (by omega) (by omega) (by omega)) (dis hj (by omega) (by omega) (by omega)) (dis hj (by omega) (by omega) (by omega)) (dis hj (by omega) (by omega) (by omega)) (dis hj (by omega) (by omega) (by omega)) (dis hj (by omega) (by omega) (by omega)) (dis hj (by omega) (by omega) (by omega)) (dis hj (by omega) (by omega) (by omega)) (dis hj (by omega) (by omega) (by omega)) (dis hj (by omega) (by omega) (by omega)) (dis hj (by omega) (by omega) (by omega)) (dis hj (by omega) (by omega) (by omega)) (dis hj (by omega) (by omega) (by omega)) (dis hj (by omega) (by omega) (by omega)) (dis hj (by omega) (by omega) (by omega)) (dis hj (by omega) (by omega) (by omega)) (dis hj (by omega) (by omega) (by omega)) (dis hj (by omega) (by omega) (by omega)) (dis hj (by omega) (by omega) (by omega)) (dis hj (by omega) (by omega) (by omega)) (dis hj (by omega) (by omega) (by omega)) (dis hj (by omega) (by omega) (by omega)) (off_restOf (.head _)) (off_restOf (.tail _ (.head _))) (off_restOf (.tail _ (.tail _ (.head _)))) (off_restOf (.tail _ (.tail _ (.tail _ (.head _))))) (off_restOf (.tail _ (.tail _ (.tail _ (.tail _ (.head _)))))) hI hJ hH (by rw [four_at hJ, Nat.zero_add]) (by rw [four_at hH, Nat.zero_add]) G.ds G.us lI.ok.nr lJ.ok.nr (le900 lI.ok.ln hc) (le900 lJ.ok.ln hc) lH.ok.nr (le900 lH.ok.ln hc) (dis hj (by omega) (by omega) hIJ) (dis hj (by omega) (by omega) (by omega)) (dis hj (by omega) (by omega) (by omega)) (dis hj (by omega) (by omega) (by omega)) (dis hj (by omega) (by omega) (by omega)) ?_ ?_
  · intro _ h' tk' F' N'
    rw [wr_sub bm hsub] at F'
    have kp := kp_same (kp_rest (as := List.map ad [4 + I, 4 + J, 4 + H, 25, 26]) F F' N' (fun _ hp => .tail _ (.tail _ (.tail _ (.tail _ (.tail _ (.tail _ (.tail _ (.tail _ (.tail _ hp)))))))))) Nl N' (List.forall_mem_cons.mpr ⟨⟨_, .tail _ (.head _)⟩, List.forall_mem_cons.mpr ⟨⟨_, .tail _ (.tail _ (.tail _ (.head _)))⟩, List.forall_mem_cons.mpr ⟨⟨_, .tail _ (.tail _ (.tail _ (.tail _ (.tail _ (.head _)))))⟩, List.forall_mem_cons.mpr ⟨⟨_, .tail _ (.tail _ (.tail _ (.tail _ (.tail _ (.tail _ (.tail _ (.head _)))))))⟩, List.forall_mem_cons.mpr ⟨⟨_, .tail _ (.tail _ (.tail _ (.tail _ (.tail _ (.tail _ (.tail _ (.tail _ (.head _))))))))⟩, List.forall_mem_nil _⟩⟩⟩⟩⟩)
    exact ⟨rfl, h', tk', m, rfl, F', bm, S.same hj kp (by omega), X.keep (cs := []) Tk (fun _ h => (nomatch h)) kp, keepU (cs := []) (fun _ h => (nomatch h)) kp⟩
  · intro _ t1 t2 t3 t4 h' tk' F' N'
    rw [wr_sub bm hsub] at F'
    have kp : Kp L (List.map ad [4 + I, 4 + J, 4 + H, 25, 26]) s.heap h' := kp_rest F (by first | exact F' | exact fr0 F') N' (fun _ hp => .tail _ (.tail _ (.tail _ (.tail _ (.tail _ (.tail _ (.tail _ (.tail _ (.tail _ hp)))))))))
    refine ⟨rfl, h', tk', _, rfl, F', bm, ⟨_, _, _, _, _, _, _, (G.la.keep kp (nin hj (by decide) hb (by simp only [List.mem_cons, List.not_mem_nil, or_false]; omega))), (N' _ (.tail _ (.tail _ (.tail _ (.tail _ (.tail _ (.tail _ (.tail _ (.head _))))))))), (N' _ (.tail _ (.tail _ (.tail _ (.tail _ (.tail _ (.tail _ (.tail _ (.tail _ (.head _)))))))))), (G.ao.keep kp (nin hj (by decide) hb (by simp only [List.mem_cons, List.not_mem_nil, or_false]; omega))), (G.tq.keep kp (nin hj (by decide) hb (by simp only [List.mem_cons, List.not_mem_nil, or_false]; omega))), (by rw [Array.size_setIfInBounds]; rw [Array.size_setIfInBounds]; exact G.ds), (by rw [Array.size_setIfInBounds]; rw [Array.size_setIfInBounds]; exact G.us), fun k hk => ?_⟩, X.keep Tk hb kp, keepU hb kp⟩
    by_cases z0 : k = I
    · rw [z0]
      exact ⟨_, _, _, _, _, _, _, _, _, lI.step hj Tk hI hb kp ⟨(by simp only [List.mem_cons, List.not_mem_nil, or_false]; omega), (by simp only [List.mem_cons, List.not_mem_nil, or_false]; omega), (by simp only [List.mem_cons, List.not_mem_nil, or_false]; omega), (by simp only [List.mem_cons, List.not_mem_nil, or_false]; omega), (by simp only [List.mem_cons, List.not_mem_nil, or_false]; omega)⟩ (N' _ (.tail _ (.head _))) ((lI.ok.put (by decide : ("clientPeer" : Str) ∈ [("clientPeer" : Str), "serverPeer", "elementService"])).up (by omega)) (by omega) ((Lk.put hJ (by rw [G.ds]; exact hI)).set_ne (by omega)) (((lI.ul.put_ne lI.ok.nr (by decide)).set_ne (by omega)).set_ne (by omega))⟩
    by_cases z1 : k = J
    · rw [z1]
      exact ⟨_, _, _, _, _, _, _, _, _, lJ.step hj Tk hJ hb kp ⟨(by simp only [List.mem_cons, List.not_mem_nil, or_false]; omega), (by simp only [List.mem_cons, List.not_mem_nil, or_false]; omega), (by simp only [List.mem_cons, List.not_mem_nil, or_false]; omega), (by simp only [List.mem_cons, List.not_mem_nil, or_false]; omega), (by simp only [List.mem_cons, List.not_mem_nil, or_false]; omega)⟩ (N' _ (.tail _ (.tail _ (.tail _ (.head _))))) (((lJ.ok.put (by decide : ("serverPeer" : Str) ∈ [("clientPeer" : Str), "serverPeer", "elementService"])).put (by decide : ("clientPeer" : Str) ∈ [("clientPeer" : Str), "serverPeer", "elementService"])).up (by omega)) (by omega) (Lk.put hH (by rw [Array.size_setIfInBounds]; rw [G.ds]; exact hJ)) (((Lk.put hI (by rw [G.us]; exact hJ)).put_ne (noRef_put lJ.ok.nr) (by decide)).set_ne (by omega))⟩
    by_cases z2 : k = H
    · rw [z2]
      exact ⟨_, _, _, _, _, _, _, _, _, lH.step hj Tk hH hb kp ⟨(by simp only [List.mem_cons, List.not_mem_nil, or_false]; omega), (by simp only [List.mem_cons, List.not_mem_nil, or_false]; omega), (by simp only [List.mem_cons, List.not_mem_nil, or_false]; omega), (by simp only [List.mem_cons, List.not_mem_nil, or_false]; omega), (by simp only [List.mem_cons, List.not_mem_nil, or_false]; omega)⟩ (N' _ (.tail _ (.tail _ (.tail _ (.tail _ (.tail _ (.head _))))))) ((lH.ok.put (by decide : ("serverPeer" : Str) ∈ [("clientPeer" : Str), "serverPeer", "elementService"])).up (by omega)) (by omega) (((lH.dl.put_ne lH.ok.nr (by decide)).set_ne (by omega)).set_ne (by omega)) (Lk.put hJ (by rw [Array.size_setIfInBounds]; rw [G.us]; exact hH))⟩
    exact (G.ly k hk).keep hj Tk hk hb kp ⟨(by simp only [List.mem_cons, List.not_mem_nil, or_false]; omega), (by simp only [List.mem_cons, List.not_mem_nil, or_false]; omega), (by simp only [List.mem_cons, List.not_mem_nil, or_false]; omega), (by simp only [List.mem_cons, List.not_mem_nil, or_false]; omega), (by simp only [List.mem_cons, List.not_mem_nil, or_false]; omega), (by simp only [List.mem_cons, List.not_mem_nil, or_false]; omega)⟩ (by omega) (by rw [Array.getElem?_setIfInBounds_ne (by omega)]; rw [Array.getElem?_setIfInBounds_ne (by omega)]) (by rw [Array.getElem?_setIfInBounds_ne (by omega)]; rw [Array.getElem?_setIfInBounds_ne (by omega)])
theorem t10b (hst : loopStmt? w.params 9 = some st) (hcs : lawScope? w.params = some cs)
    (B : Below callerA h₀ [] h₀) (F : Fr h₀ L s.heap m) (K : (KF w.params).In h₀) (T : Top Mine.V LS mean mg mb h₀)
    (hj : Inj ad) (bm : Has m (bn ad P I J H t tp ti tj th)) (S : SS h₀ L ad c s.heap) (X : Th h₀ L s.heap t) (hc : c ≤ 800) (hI : I < 4) (hJ : J < 4) (hH : H < 4) (hIJ : I ≠ J) (hJH : J ≠ H) (hHI : H = I) :
    wpAny (model PySem.Challenge.rw_bj5003_01.row.prog w) (callerA.deeper (envOf nm cs L fa cd)) (exec st (envOf nm cs L fa cd)) (fun f s' => f = .next ∧ Nx h₀ L ad (c + 2) (bn ad P I J H t tp ti tj th) t s s') (fun _ _ => False) s := by
  have Tk := S.trk
  obtain ⟨dn, up, c24, c25, c26, c27, c28, G⟩ := id S
  obtain ⟨eI, nI, pI, uI, tI, aI1, aI2, aI3, aI4, lI⟩ := G.ly I (by omega)
  obtain ⟨eJ, nJ, pJ, uJ, tJ, aJ1, aJ2, aJ3, aJ4, lJ⟩ := G.ly J (by omega)
  have hb : ∀ x ∈ [4 + I, 4 + J, 25, 26], x < 29 := List.forall_mem_cons.mpr ⟨(by omega), List.forall_mem_cons.mpr ⟨(by omega), List.forall_mem_cons.mpr ⟨(by omega), List.forall_mem_cons.mpr ⟨(by omega), List.forall_mem_nil _⟩⟩⟩⟩
  have Nl := newsCons lI.i (newsCons lI.d (newsCons lJ.i (newsCons lJ.d (newsCons G.la (newsCons G.dl (newsCons G.ul (newsRest (as := List.map ad [4 + I, 4 + J, 25, 26]))))))))
  have hsub : ∀ p ∈ [(("pick" : Str), Value.int P tp), (("one" : Str), Value.ref (ad I)), (("layers" : Str), Value.ref (ad 24)), (("i" : Str), Value.int (I : Int) ti), (("j" : Str), Value.int (J : Int) tj), (("k" : Str), Value.int (H : Int) th), (("down" : Str), Value.ref (ad 25)), (("up" : Str), Value.ref (ad 26))], p ∈ bn ad P I J H t tp ti tj th := List.forall_mem_cons.mpr ⟨.head _, List.forall_mem_cons.mpr ⟨.tail _ (.head _), List.forall_mem_cons.mpr ⟨.tail _ (.tail _ (.tail _ (.tail _ (.tail _ (.tail _ (.head _)))))), List.forall_mem_cons.mpr ⟨.tail _ (.tail _ (.tail _ (.head _))), List.forall_mem_cons.mpr ⟨.tail _ (.tail _ (.tail _ (.tail _ (.head _)))), List.forall_mem_cons.mpr ⟨.tail _ (.tail _ (.tail _ (.tail _ (.tail _ (.head _))))), List.forall_mem_cons.mpr ⟨.tail _ (.tail _ (.tail _ (.tail _ (.tail _ (.tail _ (.tail _ (.head _))))))), List.forall_mem_cons.mpr ⟨.tail _ (.tail _ (.tail _ (.tail _ (.tail _ (.tail _ (.tail _ (.tail _ (.head _)))))))), List.forall_mem_nil _⟩⟩⟩⟩⟩⟩⟩⟩
  refine s10b (tail := restOf h₀ L s.heap (List.map ad [4 + I, 4 + J, 25, 26])) hst hcs B F K T (bm.sub hsub) Nl (dis hj (by omega) (by omega) (by omega)) (dis hj (by omega) (by omega) (by omega)) (dis hj (by omega) (by omega) (by omega)) (dis hj (by omega) (by omega) (by omega)) (dis hj (by omega) (by omega) (by omega)) (dis hj (by omega) (by omega) (by omega)) (dis hj (by omega) (by omega) (by omega)) (dis hj (by omega) (by omega) (by omega)) (dis hj (by omega) (by omega) (by omega)) (dis hj (by omega) (by omega) (by omega)) (dis hj (by omega) (by omega) (by omega)) (dis hj (by omega) (by omega) (by omega)) (dis hj (by omega) (by omega) (by omega)) (dis hj (by omega) (by omega) (by omega)) (dis hj (by omega) (by omega) (by omega)) (dis hj (by omega) (by omega) (by omega)) (dis hj (by omega) (by omega) (by omega)) (dis hj (by omega) (by omega) (by omega)) (off_restOf (.head _)) (off_restOf (.tail _ (.head _))) (off_restOf (.tail _ (.tail _ (.head _)))) (off_restOf (.tail _ (.tail _ (.tail _ (.head _))))) hI hJ hH (by rw [four_at hJ, Nat.zero_add]) (by rw [four_at hH, Nat.zero_add, hHI]) G.ds G.us lI.ok.nr lJ.ok.nr (le900 lI.ok.ln hc) (le900 lJ.ok.ln hc) (dis hj (by omega) (by omega) hIJ) ?_ ?_
  · intro _ h' tk' F' N'
    rw [wr_sub bm hsub] at F'
    have kp := kp_same (kp_rest (as := List.map ad [4 + I, 4 + J, 25, 26]) F F' N' (fun _ hp => .tail _ (.tail _ (.tail _ (.tail _ (.tail _ (.tail _ (.tail _ hp)))))))) Nl N' (List.forall_mem_cons.mpr ⟨⟨_, .tail _ (.head _)⟩, List.forall_mem_cons.mpr ⟨⟨_, .tail _ (.tail _ (.tail _ (.head _)))⟩, List.forall_mem_cons.mpr ⟨⟨_, .tail _ (.tail _ (.tail _ (.tail _ (.tail _ (.head _)))))⟩, List.forall_mem_cons.mpr ⟨⟨_, .tail _ (.tail _ (.tail _ (.tail _ (.tail _ (.tail _ (.head _))))))⟩, List.forall_mem_nil _⟩⟩⟩⟩)
    exact ⟨rfl, h', tk', m, rfl, F', bm, S.same hj kp (by omega), X.keep (cs := []) Tk (fun _ h => (nomatch h)) kp, keepU (cs := []) (fun _ h => (nomatch h)) kp⟩
  · intro _ t1 t2 t3 t4 h' tk' F' N'
    rw [hHI] at N'
    rw [wr_sub bm hsub] at F'
    have kp : Kp L (List.map ad [4 + I, 4 + J, 25, 26]) s.heap h' := kp_rest F (by first | exact F' | exact fr0 F') N' (fun _ hp => .tail _ (.tail _ (.tail _ (.tail _ (.tail _ (.tail _ (.tail _ hp)))))))
    refine ⟨rfl, h', tk', _, rfl, F', bm, ⟨_, _, _, _, _, _, _, (G.la.keep kp (nin hj (by decide) hb (by simp only [List.mem_cons, List.not_mem_nil, or_false]; omega))), (N' _ (.tail _ (.tail _ (.tail _ (.tail _ (.tail _ (.head _))))))), (N' _ (.tail _ (.tail _ (.tail _ (.tail _ (.tail _ (.tail _ (.head _)))))))), (G.ao.keep kp (nin hj (by decide) hb (by simp only [List.mem_cons, List.not_mem_nil, or_false]; omega))), (G.tq.keep kp (nin hj (by decide) hb (by simp only [List.mem_cons, List.not_mem_nil, or_false]; omega))), (by rw [Array.size_setIfInBounds]; rw [Array.size_setIfInBounds]; exact G.ds), (by rw [Array.size_setIfInBounds]; rw [Array.size_setIfInBounds]; exact G.us), fun k hk => ?_⟩, X.keep Tk hb kp, keepU hb kp⟩
    by_cases z0 : k = I
    · rw [z0]
      skip
      exact ⟨_, _, _, _, _, _, _, _, _, lI.step hj Tk hI hb kp ⟨(by simp only [List.mem_cons, List.not_mem_nil, or_false]; omega), (by simp only [List.mem_cons, List.not_mem_nil, or_false]; omega), (by simp only [List.mem_cons, List.not_mem_nil, or_false]; omega), (by simp only [List.mem_cons, List.not_mem_nil, or_false]; omega), (by simp only [List.mem_cons, List.not_mem_nil, or_false]; omega)⟩ (N' _ (.tail _ (.head _))) (((lI.ok.put (by decide : ("clientPeer" : Str) ∈ [("clientPeer" : Str), "serverPeer", "elementService"])).put (by decide : ("serverPeer" : Str) ∈ [("clientPeer" : Str), "serverPeer", "elementService"])).up (by omega)) (by omega) (((Lk.put hJ (by rw [G.ds]; exact hI)).put_ne (noRef_put lI.ok.nr) (by decide)).set_ne (by omega)) (Lk.put hJ (by rw [Array.size_setIfInBounds]; rw [G.us]; exact hI))⟩
    by_cases z1 : k = J
    · rw [z1]
      skip
      exact ⟨_, _, _, _, _, _, _, _, _, lJ.step hj Tk hJ hb kp ⟨(by simp only [List.mem_cons, List.not_mem_nil, or_false]; omega), (by simp only [List.mem_cons, List.not_mem_nil, or_false]; omega), (by simp only [List.mem_cons, List.not_mem_nil, or_false]; omega), (by simp only [List.mem_cons, List.not_mem_nil, or_false]; omega), (by simp only [List.mem_cons, List.not_mem_nil, or_false]; omega)⟩ (N' _ (.tail _ (.tail _ (.tail _ (.head _))))) (((lJ.ok.put (by decide : ("serverPeer" : Str) ∈ [("clientPeer" : Str), "serverPeer", "elementService"])).put (by decide : ("clientPeer" : Str) ∈ [("clientPeer" : Str), "serverPeer", "elementService"])).up (by omega)) (by omega) (Lk.put hI (by rw [Array.size_setIfInBounds]; rw [G.ds]; exact hJ)) (((Lk.put hI (by rw [G.us]; exact hJ)).put_ne (noRef_put lJ.ok.nr) (by decide)).set_ne (by omega))⟩
    exact (G.ly k hk).keep hj Tk hk hb kp ⟨(by simp only [List.mem_cons, List.not_mem_nil, or_false]; omega), (by simp only [List.mem_cons, List.not_mem_nil, or_false]; omega), (by simp only [List.mem_cons, List.not_mem_nil, or_false]; omega), (by simp only [List.mem_cons, List.not_mem_nil, or_false]; omega), (by simp only [List.mem_cons, List.not_mem_nil, or_false]; omega), (by simp only [List.mem_cons, List.not_mem_nil, or_false]; omega)⟩ (by omega) (by rw [Array.getElem?_setIfInBounds_ne (by omega)]; rw [Array.getElem?_setIfInBounds_ne (by omega)]) (by rw [Array.getElem?_setIfInBounds_ne (by omega)]; rw [Array.getElem?_setIfInBounds_ne (by omega)])
theorem t10 (hst : loopStmt? w.params 9 = some st) (hcs : lawScope? w.params = some cs)
    (B : Below callerA h₀ [] h₀) (F : Fr h₀ L s.heap m) (K : (KF w.params).In h₀) (T : Top Mine.V LS mean mg mb h₀)
    (hj : Inj ad) (bm : Has m (bn ad P I J H t tp ti tj th)) (S : SS h₀ L ad c s.heap) (X : Th h₀ L s.heap t) (hc : c ≤ 800) (hI : I < 4) (hJ : J < 4) (hH : H < 4) (hIJ : I ≠ J) (hJH : J ≠ H) :
    wpAny (model PySem.Challenge.rw_bj5003_01.row.prog w) (callerA.deeper (envOf nm cs L fa cd)) (exec st (envOf nm cs L fa cd)) (fun f s' => f = .next ∧ Nx h₀ L ad (c + 2) (bn ad P I J H t tp ti tj th) t s s') (fun _ _ => False) s := by
  by_cases hHI : H = I
  · exact t10b hst hcs B F K T hj bm S X hc hI hJ hH hIJ hJH hHI
  · exact t10a hst hcs B F K T hj bm S X hc hI hJ hH hIJ hJH (Ne.symm hHI)
theorem wr_two {x y : Str} {v v' : Value} {l : List (Str × Value)} (hy : y ≠ x) (h : Has m l) : wr ((x, v) :: (x, v') :: l) m y = m y := by
  show (if y = x then some v else if y = x then some v' else wr l m y) = m y
  rw [if_neg hy, if_neg hy, wr_eq h]
theorem t12 (hst : loopStmt? w.params 11 = some st) (hcs : lawScope? w.params = some cs)
    (B : Below callerA h₀ [] h₀) (F : Fr h₀ L s.heap m) (K : (KF w.params).In h₀) (T : Top Mine.V LS mean mg mb h₀)
    (hj : Inj ad) (bm : Has m (bn ad P I J H t tp ti tj th)) (S : SS h₀ L ad c s.heap) (X : Th h₀ L s.heap t) (hc : c ≤ 800) (hI : I < 4) (hJ : J < 4) (hH : H < 4) (hIJ : I ≠ J) (hJH : J ≠ H) :
    wpAny (model PySem.Challenge.rw_bj5003_01.row.prog w) (callerA.deeper (envOf nm cs L fa cd)) (exec st (envOf nm cs L fa cd)) (fun f s' => f = .next ∧ Nx h₀ L ad (c + 2) (bn ad P I J H t tp ti tj th) t s s') (fun _ _ => False) s := by
  have Tk := S.trk
  obtain ⟨dn, up, c24, c25, c26, c27, c28, G⟩ := id S
  obtain ⟨eI, nI, pI, uI, tI, aI1, aI2, aI3, aI4, lI⟩ := G.ly I (by omega)
  obtain ⟨eJ, nJ, pJ, uJ, tJ, aJ1, aJ2, aJ3, aJ4, lJ⟩ := G.ly J (by omega)
  have hb : ∀ x ∈ [4 + I, 4 + J, 25, 26], x < 29 := List.forall_mem_cons.mpr ⟨(by omega), List.forall_mem_cons.mpr ⟨(by omega), List.forall_mem_cons.mpr ⟨(by omega), List.forall_mem_cons.mpr ⟨(by omega), List.forall_mem_nil _⟩⟩⟩⟩
  have Nl := newsCons lI.i (newsCons lI.d (newsCons lJ.i (newsCons lJ.d (newsCons G.la (newsCons G.dl (newsCons G.ul (newsRest (as := List.map ad [4 + I, 4 + J, 25, 26]))))))))
  have hsub : ∀ p ∈ [(("pick" : Str), Value.int P tp), (("one" : Str), Value.ref (ad I)), (("layers" : Str), Value.ref (ad 24)), (("i" : Str), Value.int (I : Int) ti), (("j" : Str), Value.int (J : Int) tj), (("k" : Str), Value.int (H : Int) th), (("down" : Str), Value.ref (ad 25)), (("up" : Str), Value.ref (ad 26))], p ∈ bn ad P I J H t tp ti tj th := List.forall_mem_cons.mpr ⟨.head _, List.forall_mem_cons.mpr ⟨.tail _ (.head _), List.forall_mem_cons.mpr ⟨.tail _ (.tail _ (.tail _ (.tail _ (.tail _ (.tail _ (.head _)))))), List.forall_mem_cons.mpr ⟨.tail _ (.tail _ (.tail _ (.head _))), List.forall_mem_cons.mpr ⟨.tail _ (.tail _ (.tail _ (.tail _ (.head _)))), List.forall_mem_cons.mpr ⟨.tail _ (.tail _ (.tail _ (.tail _ (.tail _ (.head _))))), List.forall_mem_cons.mpr ⟨.tail _ (.tail _ (.tail _ (.tail _ (.tail _ (.tail _ (.tail _ (.head _))))))), List.forall_mem_cons.mpr ⟨.tail _ (.tail _ (.tail _ (.tail _ (.tail _ (.tail _ (.tail _ (.tail _ (.head _)))))))), List.forall_mem_nil _⟩⟩⟩⟩⟩⟩⟩⟩
  refine s12 (tail := restOf h₀ L s.heap (List.map ad [4 + I, 4 + J, 25, 26])) hst hcs B F K T (bm.sub hsub) Nl (dis hj (by omega) (by omega) (by omega)) (dis hj (by omega) (by omega) (by omega)) (dis hj (by omega) (by omega) (by omega)) (dis hj (by omega) (by omega) (by omega)) (dis hj (by omega) (by omega) (by omega)) (dis hj (by omega) (by omega) (by omega)) (dis hj (by omega) (by omega) (by omega)) (dis hj (by omega) (by omega) (by omega)) (dis hj (by omega) (by omega) (by omega)) (dis hj (by omega) (by omega) (by omega)) (dis hj (by omega) (by omega) (by omega)) (dis hj (by omega) (by omega) (by omega)) (dis hj (by omega) (by omega) (by omega)) (dis hj (by omega) (by omega) (by omega)) (dis hj (by omega) (by omega) (by omega)) (dis hj (by omega) (by omega) (by omega)) (dis hj (by omega) (by omega) (by omega)) (dis hj (by omega) (by omega) (by omega)) (off_restOf (.head _)) (off_restOf (.tail _ (.head _))) (off_restOf (.tail _ (.tail _ (.head _)))) (off_restOf (.tail _ (.tail _ (.tail _ (.head _))))) hI hJ hH (by rw [four_at hJ, Nat.zero_add]) (by rw [four_at hH, Nat.zero_add]) G.ds G.us lI.ok.nr lJ.ok.nr (le900 lI.ok.ln hc) (le900 lJ.ok.ln hc) (dis hj (by omega) (by omega) hIJ) ?_ ?_
  · intro _ h' tk' F' N'
    rw [wr_sub bm hsub] at F'
    have kp := kp_same (kp_rest (as := List.map ad [4 + I, 4 + J, 25, 26]) F F' N' (fun _ hp => .tail _ (.tail _ (.tail _ (.tail _ (.tail _ (.tail _ (.tail _ hp)))))))) Nl N' (List.forall_mem_cons.mpr ⟨⟨_, .tail _ (.head _)⟩, List.forall_mem_cons.mpr ⟨⟨_, .tail _ (.tail _ (.tail _ (.head _)))⟩, List.forall_mem_cons.mpr ⟨⟨_, .tail _ (.tail _ (.tail _ (.tail _ (.tail _ (.head _)))))⟩, List.forall_mem_cons.mpr ⟨⟨_, .tail _ (.tail _ (.tail _ (.tail _ (.tail _ (.tail _ (.head _))))))⟩, List.forall_mem_nil _⟩⟩⟩⟩)
    exact ⟨rfl, h', tk', m, rfl, F', bm, S.same hj kp (by omega), X.keep (cs := []) Tk (fun _ h => (nomatch h)) kp, keepU (cs := []) (fun _ h => (nomatch h)) kp⟩
  · intro _ t1 t2 h' tk' F' N'
    have kp : Kp L (List.map ad [4 + I, 4 + J, 25, 26]) s.heap h' := kp_rest F F' N' (fun _ hp => .tail _ (.tail _ (.tail _ (.tail _ (.tail _ (.tail _ (.tail _ hp)))))))
    refine ⟨rfl, h', tk', _, rfl, F', (bm.agree (xs := ["refused"]) (fun y hy => wr_two (by simpa using hy) (bm.sub hsub)) (by show ∀ x ∈ [("pick" : Str), "one", "thing", "i", "j", "k", "layers", "down", "up", "asked", "told"], x ∉ [("refused" : Str)]; decide)), ⟨_, _, _, _, _, _, _, (G.la.keep kp (nin hj (by decide) hb (by simp only [List.mem_cons, List.not_mem_nil, or_false]; omega))), (N' _ (.tail _ (.tail _ (.tail _ (.tail _ (.tail _ (.head _))))))), (N' _ (.tail _ (.tail _ (.tail _ (.tail _ (.tail _ (.tail _ (.head _)))))))), (G.ao.keep kp (nin hj (by decide) hb (by simp only [List.mem_cons, List.not_mem_nil, or_false]; omega))), (G.tq.keep kp (nin hj (by decide) hb (by simp only [List.mem_cons, List.not_mem_nil, or_false]; omega))), (by rw [Array.size_setIfInBounds]; exact G.ds), (by rw [Array.size_setIfInBounds]; exact G.us), fun k hk => ?_⟩, X.keep Tk hb kp, keepU hb kp⟩
    by_cases z0 : k = I
    · rw [z0]
      exact ⟨_, _, _, _, _, _, _, _, _, lI.step hj Tk hI hb kp ⟨(by simp only [List.mem_cons, List.not_mem_nil, or_false]; omega), (by simp only [List.mem_cons, List.not_mem_nil, or_false]; omega), (by simp only [List.mem_cons, List.not_mem_nil, or_false]; omega), (by simp only [List.mem_cons, List.not_mem_nil, or_false]; omega), (by simp only [List.mem_cons, List.not_mem_nil, or_false]; omega)⟩ (N' _ (.tail _ (.head _))) ((lI.ok.put (by decide : ("clientPeer" : Str) ∈ [("clientPeer" : Str), "serverPeer", "elementService"])).up (by omega)) (by omega) (Lk.put hJ (by rw [G.ds]; exact hI)) ((lI.ul.put_ne lI.ok.nr (by decide)).set_ne (by omega))⟩
    by_cases z1 : k = J
    · rw [z1]
      exact ⟨_, _, _, _, _, _, _, _, _, lJ.step hj Tk hJ hb kp ⟨(by simp only [List.mem_cons, List.not_mem_nil, or_false]; omega), (by simp only [List.mem_cons, List.not_mem_nil, or_false]; omega), (by simp only [List.mem_cons, List.not_mem_nil, or_false]; omega), (by simp only [List.mem_cons, List.not_mem_nil, or_false]; omega), (by simp only [List.mem_cons, List.not_mem_nil, or_false]; omega)⟩ (N' _ (.tail _ (.tail _ (.tail _ (.head _))))) ((lJ.ok.put (by decide : ("serverPeer" : Str) ∈ [("clientPeer" : Str), "serverPeer", "elementService"])).up (by omega)) (by omega) ((lJ.dl.put_ne lJ.ok.nr (by decide)).set_ne (by omega)) (Lk.put hI (by rw [G.us]; exact hJ))⟩
    exact (G.ly k hk).keep hj Tk hk hb kp ⟨(by simp only [List.mem_cons, List.not_mem_nil, or_false]; omega), (by simp only [List.mem_cons, List.not_mem_nil, or_false]; omega), (by simp only [List.mem_cons, List.not_mem_nil, or_false]; omega), (by simp only [List.mem_cons, List.not_mem_nil, or_false]; omega), (by simp only [List.mem_cons, List.not_mem_nil, or_false]; omega), (by simp only [List.mem_cons, List.not_mem_nil, or_false]; omega)⟩ (by omega) (by rw [Array.getElem?_setIfInBounds_ne (by omega)]) (by rw [Array.getElem?_setIfInBounds_ne (by omega)])
theorem t13 (hst : loopStmt? w.params 12 = some st) (hcs : lawScope? w.params = some cs)
    (B : Below callerA h₀ [] h₀) (F : Fr h₀ L s.heap m) (K : (KF w.params).In h₀) (T : Top Mine.V LS mean mg mb h₀)
    (hj : Inj ad) (bm : Has m (bn ad P I J H t tp ti tj th)) (S : SS h₀ L ad c s.heap) (X : Th h₀ L s.heap t) (hc : c ≤ 800) (hI : I < 4) (hJ : J < 4) (hH : H < 4) (hIJ : I ≠ J) (hJH : J ≠ H) :
    wpAny (model PySem.Challenge.rw_bj5003_01.row.prog w) (callerA.deeper (envOf nm cs L fa cd)) (exec st (envOf nm cs L fa cd)) (fun f s' => f = .next ∧ Nx h₀ L ad (c + 2) (bn ad P I J H t tp ti tj th) t s s') (fun _ _ => False) s := by
  have Tk := S.trk
  obtain ⟨dn, up, c24, c25, c26, c27, c28, G⟩ := id S
  obtain ⟨eI, nI, pI, uI, tI, aI1, aI2, aI3, aI4, lI⟩ := G.ly I (by omega)
  obtain ⟨dt, et, nt, v, x1, x2, gv⟩ := id X
  have hb : ∀ x ∈ [4 + I, 8 + I, 12 + I, 16 + I, 20 + I], x < 29 := List.forall_mem_cons.mpr ⟨(by omega), List.forall_mem_cons.mpr ⟨(by omega), List.forall_mem_cons.mpr ⟨(by omega), List.forall_mem_cons.mpr ⟨(by omega), List.forall_mem_cons.mpr ⟨(by omega), List.forall_mem_nil _⟩⟩⟩⟩⟩
  have Nl := newsCons lI.i (newsCons lI.d (newsCons x1 (newsCons x2 (newsCons lI.al (newsCons lI.tl (newsCons G.ao (newsCons lI.ai (newsCons G.tq (newsCons lI.ti (newsRest (as := List.map ad [4 + I, 8 + I, 12 + I, 16 + I, 20 + I])))))))))))
  have hsub : ∀ p ∈ [(("pick" : Str), Value.int P tp), (("one" : Str), Value.ref (ad I)), (("thing" : Str), Value.ref t), (("i" : Str), Value.int (I : Int) ti), (("asked" : Str), Value.ref (ad 27)), (("told" : Str), Value.ref (ad 28))], p ∈ bn ad P I J H t tp ti tj th := List.forall_mem_cons.mpr ⟨.head _, List.forall_mem_cons.mpr ⟨.tail _ (.head _), List.forall_mem_cons.mpr ⟨.tail _ (.tail _ (.head _)), List.forall_mem_cons.mpr ⟨.tail _ (.tail _ (.tail _ (.head _))), List.forall_mem_cons.mpr ⟨.tail _ (.tail _ (.tail _ (.tail _ (.tail _ (.tail _ (.tail _ (.tail _ (.tail _ (.head _))))))))), List.forall_mem_cons.mpr ⟨.tail _ (.tail _ (.tail _ (.tail _ (.tail _ (.tail _ (.tail _ (.tail _ (.tail _ (.tail _ (.head _)))))))))), List.forall_mem_nil _⟩⟩⟩⟩⟩⟩
  refine s13 (tail := restOf h₀ L s.heap (List.map ad [4 + I, 8 + I, 12 + I, 16 + I, 20 + I])) hst hcs B F K T (bm.sub hsub) Nl (dis hj (by omega) (by omega) (by omega)) (Tk.ne1 (by omega) x1) (Tk.ne2 (by omega) x2 gv) (dis hj (by omega) (by omega) (by omega)) (dis hj (by omega) (by omega) (by omega)) (dis hj (by omega) (by omega) (by omega)) (dis hj (by omega) (by omega) (by omega)) (dis hj (by omega) (by omega) (by omega)) (dis hj (by omega) (by omega) (by omega)) (dis hj (by omega) (by omega) (by omega)) (Tk.ne1 (by omega) x1) (Tk.ne2 (by omega) x2 gv) (dis hj (by omega) (by omega) (by omega)) (dis hj (by omega) (by omega) (by omega)) (dis hj (by omega) (by omega) (by omega)) (dis hj (by omega) (by omega) (by omega)) (dis hj (by omega) (by omega) (by omega)) (dis hj (by omega) (by omega) (by omega)) (Tk.ne1 (by omega) x1) (Tk.ne2 (by omega) x2 gv) (dis hj (by omega) (by omega) (by omega)) (dis hj (by omega) (by omega) (by omega)) (dis hj (by omega) (by omega) (by omega)) (dis hj (by omega) (by omega) (by omega)) (dis hj (by omega) (by omega) (by omega)) (Tk.ne1 (by omega) x1) (Tk.ne2 (by omega) x2 gv) (dis hj (by omega) (by omega) (by omega)) (dis hj (by omega) (by omega) (by omega)) (dis hj (by omega) (by omega) (by omega)) (dis hj (by omega) (by omega) (by omega)) (Tk.ne1 (by omega) x1) (Tk.ne2 (by omega) x2 gv) (dis hj (by omega) (by omega) (by omega)) (dis hj (by omega) (by omega) (by omega)) (off_restOf (.head _)) (off_restOf (.tail _ (.head _))) (off_restOf (.tail _ (.tail _ (.head _)))) (off_restOf (.tail _ (.tail _ (.tail _ (.head _))))) (off_restOf (.tail _ (.tail _ (.tail _ (.tail _ (.head _)))))) hI (four_at hI) (four_at hI) lI.ok.ga lI.ok.gt (lI.ok.gq _ (.tail _ (.tail _ (.head _)))) (lI.ok.gq _ (.tail _ (.tail _ (.tail _ (.head _))))) gv lI.ok.nr (le900 lI.ok.ln hc) (leSize lI.s1 hc) (leSize lI.s2 hc) (by rw [← lI.rows.1]; exact leSize lI.s1 hc) (leSize lI.s2 hc) ?_ ?_
  · intro _ h' tk' F' N'
    have kp := kp_same (kp_rest (as := List.map ad [4 + I, 8 + I, 12 + I, 16 + I, 20 + I]) F F' N' (fun _ hp => .tail _ (.tail _ (.tail _ (.tail _ (.tail _ (.tail _ (.tail _ (.tail _ (.tail _ (.tail _ hp))))))))))) Nl N' (List.forall_mem_cons.mpr ⟨⟨_, .tail _ (.head _)⟩, List.forall_mem_cons.mpr ⟨⟨_, .tail _ (.tail _ (.tail _ (.tail _ (.head _))))⟩, List.forall_mem_cons.mpr ⟨⟨_, .tail _ (.tail _ (.tail _ (.tail _ (.tail _ (.head _)))))⟩, List.forall_mem_cons.mpr ⟨⟨_, .tail _ (.tail _ (.tail _ (.tail _ (.tail _ (.tail _ (.tail _ (.head _)))))))⟩, List.forall_mem_cons.mpr ⟨⟨_, .tail _ (.tail _ (.tail _ (.tail _ (.tail _ (.tail _ (.tail _ (.tail _ (.tail _ (.head _)))))))))⟩, List.forall_mem_nil _⟩⟩⟩⟩⟩)
    exact ⟨rfl, h', tk', m, rfl, F', bm, S.same hj kp (by omega), X.keep (cs := []) Tk (fun _ h => (nomatch h)) kp, keepU (cs := []) (fun _ h => (nomatch h)) kp⟩
  · intro _ u t1 iv h' tk' m' ha F' N'
    have kp : Kp L (List.map ad [4 + I, 8 + I, 12 + I, 16 + I, 20 + I]) s.heap h' := kp_rest F F' N' (fun _ hp => .tail _ (.tail _ (.tail _ (.tail _ (.tail _ (.tail _ (.tail _ (.tail _ (.tail _ (.tail _ (.tail _ hp)))))))))))
    refine ⟨rfl, h', tk', _, rfl, F', (bm.agree (xs := ["link", "bottom", "top", "inner"]) (fun y hy => by simp only [List.mem_cons, List.not_mem_nil, or_false, not_or] at hy; exact ha y hy.1 hy.2.1 hy.2.2.1 hy.2.2.2) (by show ∀ x ∈ [("pick" : Str), "one", "thing", "i", "j", "k", "layers", "down", "up", "asked", "told"], x ∉ [("link" : Str), "bottom", "top", "inner"]; decide)), ⟨_, _, _, _, _, _, _, (G.la.keep kp (nin hj (by decide) hb (by simp only [List.mem_cons, List.not_mem_nil, or_false]; omega))), (G.dl.keep kp (nin hj (by decide) hb (by simp only [List.mem_cons, List.not_mem_nil, or_false]; omega))), (G.ul.keep kp (nin hj (by decide) hb (by simp only [List.mem_cons, List.not_mem_nil, or_false]; omega))), (G.ao.keep kp (nin hj (by decide) hb (by simp only [List.mem_cons, List.not_mem_nil, or_false]; omega))), (G.tq.keep kp (nin hj (by decide) hb (by simp only [List.mem_cons, List.not_mem_nil, or_false]; omega))), G.ds, G.us, fun k hk => ?_⟩, X.keep Tk hb kp, keepU hb kp⟩
    by_cases z0 : k = I
    · rw [z0]
      exact ⟨_, _, _, _, _, _, _, _, _, (lI.i.keep kp (nin hj (by omega) hb (by simp only [List.mem_cons, List.not_mem_nil, or_false]; omega))), (N' _ (.tail _ (.tail _ (.head _)))), (N' _ (.tail _ (.tail _ (.tail _ (.tail _ (.tail _ (.head _))))))), (N' _ (.tail _ (.tail _ (.tail _ (.tail _ (.tail _ (.tail _ (.head _)))))))), (N' _ (.tail _ (.tail _ (.tail _ (.tail _ (.tail _ (.tail _ (.tail _ (.tail _ (.head _)))))))))), (N' _ (.tail _ (.tail _ (.tail _ (.tail _ (.tail _ (.tail _ (.tail _ (.tail _ (.tail _ (.tail _ (.head _)))))))))))), ((lI.ok.put (by decide : ("elementService" : Str) ∈ [("clientPeer" : Str), "serverPeer", "elementService"])).up (by omega)), (by rw [Array.size_push]; have := lI.s1; omega), (by rw [Array.size_push]; have := lI.s2; omega), ((lI.rows.keep fun _ _ _ n => Tk.tup hb kp n).push (N' _ (.head _))), (lI.dl.put_ne lI.ok.nr (by decide)), (lI.ul.put_ne lI.ok.nr (by decide))⟩
    exact (G.ly k hk).keep hj Tk hk hb kp ⟨(by simp only [List.mem_cons, List.not_mem_nil, or_false]; omega), (by simp only [List.mem_cons, List.not_mem_nil, or_false]; omega), (by simp only [List.mem_cons, List.not_mem_nil, or_false]; omega), (by simp only [List.mem_cons, List.not_mem_nil, or_false]; omega), (by simp only [List.mem_cons, List.not_mem_nil, or_false]; omega), (by simp only [List.mem_cons, List.not_mem_nil, or_false]; omega)⟩ (by omega) rfl rfl
theorem t14 (hst : loopStmt? w.params 13 = some st) (hcs : lawScope? w.params = some cs)
    (B : Below callerA h₀ [] h₀) (F : Fr h₀ L s.heap m) (K : (KF w.params).In h₀) (T : Top Mine.V LS mean mg mb h₀)
    (hj : Inj ad) (bm : Has m (bn ad P I J H t tp ti tj th)) (S : SS h₀ L ad c s.heap) (X : Th h₀ L s.heap t) (hc : c ≤ 800) (hI : I < 4) (hJ : J < 4) (hH : H < 4) (hIJ : I ≠ J) (hJH : J ≠ H) :
    wpAny (model PySem.Challenge.rw_bj5003_01.row.prog w) (callerA.deeper (envOf nm cs L fa cd)) (exec st (envOf nm cs L fa cd)) (fun f s' => f = .next ∧ Nx h₀ L ad (c + 2) (bn ad P I J H t tp ti tj th) t s s') (fun _ _ => False) s := by
  have Tk := S.trk
  obtain ⟨dn, up, c24, c25, c26, c27, c28, G⟩ := id S
  have hsub : ∀ p ∈ [(("layers" : Str), Value.ref (ad 24)), (("asked" : Str), Value.ref (ad 27)), (("told" : Str), Value.ref (ad 28))], p ∈ bn ad P I J H t tp ti tj th := List.forall_mem_cons.mpr ⟨.tail _ (.tail _ (.tail _ (.tail _ (.tail _ (.tail _ (.head _)))))), List.forall_mem_cons.mpr ⟨.tail _ (.tail _ (.tail _ (.tail _ (.tail _ (.tail _ (.tail _ (.tail _ (.tail _ (.head _))))))))), List.forall_mem_cons.mpr ⟨.tail _ (.tail _ (.tail _ (.tail _ (.tail _ (.tail _ (.tail _ (.tail _ (.tail _ (.tail _ (.head _)))))))))), List.forall_mem_nil _⟩⟩⟩
  have N : News h₀ L s.heap (restOf h₀ L s.heap []) := newsRest
  have hm : ∀ {a : Addr} {o : Obj}, New h₀ L s.heap a o → (a, o) ∈ restOf h₀ L s.heap [] := fun n => mem_restOf.mpr ⟨n, fun h => (nomatch h)⟩
  refine s14 hst hcs B F K T (bm.sub hsub) N (hm G.la) (hm G.ao) (hm G.tq) (fun M hM => ?_) fun m' h' tk' ha F' N' => ?_
  · obtain ⟨e, n, p, u, ts, a1, a2, a3, a4, l⟩ := G.ly M hM
    refine ⟨ad M, ad (4 + M), e, n, ad (8 + M), p, a1, ad (12 + M), u.toList, a2, ad (16 + M), ts.toList, a3, ad (20 + M), a4, (by rw [four_at hM, Nat.zero_add]), four_at hM, four_at hM, hm l.i, hm l.d, hm l.al, by rw [Array.toArray_toList]; exact hm l.tl, by rw [Array.toArray_toList]; exact hm l.ai, by rw [Array.toArray_toList]; exact hm l.ti, l.ok.ga, l.ok.gt, leSize l.s1 hc, by rw [Array.length_toList]; exact l.rows.1, fun i x e => ?_⟩
    obtain ⟨tp, v, t, h1, h2, h3⟩ := l.rows.2 i x e
    exact ⟨tp, v, t, h1, hm h2, by rw [Array.getElem?_toList]; exact h3⟩
  · have kp : Kp L [] s.heap h' := kp_rest F F' N' (fun _ h => h)
    exact ⟨rfl, h', tk', m', rfl, F', bm.agree (xs := ["m", "layer"]) (fun y hy => by simp only [List.mem_cons, List.not_mem_nil, or_false, not_or] at hy; exact ha y hy.1 hy.2) (by show ∀ x ∈ [("pick" : Str), "one", "thing", "i", "j", "k", "layers", "down", "up", "asked", "told"], x ∉ [("m" : Str), "layer"]; decide), S.same hj kp (by omega), X.keep (cs := []) Tk (fun _ h => (nomatch h)) kp, keepU (cs := []) (fun _ h => (nomatch h)) kp⟩
end
end Mine
end
section
open PySem PySem.W PyProof.Rows PySem.Calls
open PySem.Sem (wp)
set_option Elab.async false
set_option linter.unusedVariables false
set_option maxRecDepth 100000
set_option maxHeartbeats 4000000
namespace Mine
section
variable {prog : Program} {w : World} {A : Around} {E : Value → Shared → Prop} {s : Shared} {env : Env}
/-- over a list: `P i h` says how the heap stands before the turn i, apart from the iterator -/
theorem codeN_overList {R : Result → Shared → Prop} {x : Str} {xp : Pos} {body : List Stmt} {I l : Addr} {vs : Array Value} (hh : A.handled = none) (P : Nat → Heap → Prop)
    (hit : s.heap.IsListIter I l 0) (hl : s.heap.IsList l vs) (h0 : P 0 s.heap) (hI : I ≠ l)
    (hP : ∀ i h h', P i h → h.IsListIter I l i → Heap.ExtBut I h h' → P i h')
    (step : ∀ i v h tk, vs[i]? = some v → P i h → h.IsListIter I l (i + 1) → h.IsList l vs →
      wpAny (model prog w) A (storeName env x v) (fun _ s₂ => wpN (model prog w) A (execs body env) (fun f s₃ => match f with
        | .next => (∃ h' tk', s₃ = { s with heap := h', toks := tk' } ∧ P (i + 1) h' ∧ h'.IsListIter I l (i + 1) ∧ h'.IsList l vs)
        | .ret v => R (.ok (.ret v)) s₃
        | _ => False) (fun _ _ => False) s₂) (fun _ _ => False) { s with heap := h, toks := tk })
    (hR : ∀ h tk, P vs.size h → R (.ok .next) { s with heap := h, toks := tk }) :
    codeN (model prog w) A (.forLoop (.Name x xp) (.ref I) body [] env) R s := by
  refine codeN_for (fun k s' => ∃ i h tk, s' = { s with heap := h, toks := tk } ∧ P i h ∧ h.IsListIter I l i ∧ h.IsList l vs ∧ i ≤ vs.size ∧ k = vs.size + 1 - i) ?_ (vs.size + 1) ⟨0, s.heap, s.toks, rfl, h0, hit, hl, Nat.zero_le _, rfl⟩
  rintro k s' ⟨i, h, tk, rfl, hp, hit', hl', hi, rfl⟩
  by_cases hlt : i < vs.size
  · have hx : vs[i]? = some vs[i] := Array.getElem?_eq_getElem hlt
    refine wpAny_pyNext_list_item (s := { s with heap := h, toks := tk }) hit' hl' hx fun h' hit₂ hs => ?_
    have hl₂ : h'.IsList l vs := hl'.extBut hs.extBut (Ne.symm hI)
    show wpAny _ _ (letOwnedTupleGo (.Name x xp) (.ref I) vs[i]) _ _ _
    unfold letOwnedTupleGo
    refine wpAny_pure ?_
    refine wpAny_assign_Name (wpAny_mono (step i _ h' tk hx (hP _ _ _ hp hit' hs.extBut) hit₂ hl₂) (fun _ s₂ h₂ => wpN_mono h₂ (fun f s₃ h₃ => ?_) fun _ _ x => x) fun _ _ x => x)
    cases f with
    | next =>
      obtain ⟨h'', tk', rfl, hp', hit₃, hl₃⟩ := h₃
      exact ⟨vs.size + 1 - (i + 1), by omega, i + 1, h'', tk', rfl, hp', hit₃, hl₃, hlt, rfl⟩
    | ret v => exact h₃
    | brk => exact h₃
    | cont => exact h₃
  · have hin : i = vs.size := by omega
    subst hin
    exact wpAny_pyNext_list_end (s := { s with heap := h, toks := tk }) hh hit' hl' (Array.getElem?_eq_none (Nat.le_refl _)) fun h' hs => hR h' tk (hP _ _ _ hp hit' hs)
end
def loopBody? (P : Params) : Option (List Stmt) := match lawStmt? P 15 with | some (.For _ _ body _ _) => some body | _ => none
theorem body_parts {P : Params} {body : List Stmt} (hb : loopBody? P = some body) : ∃ a0 a1 a2 a3 a4 a5 a6 a7 a8 a9 a10 a11 a12 a13, body = [a0, a1, a2, a3, a4, a5, a6, a7, a8, a9, a10, a11, a12, a13] ∧
    loopStmt? P 0 = some a0 ∧ loopStmt? P 1 = some a1 ∧ loopStmt? P 2 = some a2 ∧ loopStmt? P 3 = some a3 ∧ loopStmt? P 4 = some a4 ∧ loopStmt? P 5 = some a5 ∧ loopStmt? P 6 = some a6 ∧ loopStmt? P 7 = some a7 ∧ loopStmt? P 8 = some a8 ∧ loopStmt? P 9 = some a9 ∧ loopStmt? P 10 = some a10 ∧ loopStmt? P 11 = some a11 ∧ loopStmt? P 12 = some a12 ∧ loopStmt? P 13 = some a13 := by
  injection hb with hb
  subst hb
  exact ⟨_, _, _, _, _, _, _, _, _, _, _, _, _, _, rfl, rfl, rfl, rfl, rfl, rfl, rfl, rfl, rfl, rfl, rfl, rfl, rfl, rfl, rfl⟩
theorem Has.push {m : Str → Option Value} {l : List (Str × Value)} {x : Str} {v : Value} (b : Has m l) (hx : ∀ y ∈ l.map (·.1), y ≠ x) : Has (wr [(x, v)] m) ((x, v) :: l) := fun p hp => by
  show (if p.1 = x then some v else m p.1) = some p.2
  rcases List.mem_cons.mp hp with rfl | hp
  · exact if_pos rfl
  · rw [if_neg (hx _ (List.mem_map_of_mem hp))]; exact b p hp
theorem wr_push {m : Str → Option Value} {l l' : List (Str × Value)} {p : Str × Value} (b : Has m l) (hs : ∀ q ∈ l', q ∈ l) : wr (p :: l') m = wr [p] m := by
  funext y
  show (if y = p.1 then some p.2 else wr l' m y) = (if y = p.1 then some p.2 else m y)
  rw [wr_sub b hs]
theorem fmod4 (a : Int) : ∃ I : Nat, a.fmod 4 = (I : Int) ∧ I < 4 := by
  have h1 := Int.fmod_nonneg_of_pos a (show (0 : Int) < 4 by decide)
  have h2 := Int.fmod_lt_of_pos a (show (0 : Int) < 4 by decide)
  exact ⟨(a.fmod 4).toNat, by omega, by omega⟩
theorem fmod_next (I : Nat) (hI : I < 4) (a : Int) : ∃ J : Nat, ((I : Int) + 1 + a.fmod 3).fmod 4 = (J : Int) ∧ J < 4 ∧ I ≠ J := by
  have h1 := Int.fmod_nonneg_of_pos a (show (0 : Int) < 3 by decide)
  have h2 := Int.fmod_lt_of_pos a (show (0 : Int) < 3 by decide)
  obtain ⟨J, e, hJ⟩ := fmod4 ((I : Int) + 1 + a.fmod 3)
  refine ⟨J, e, hJ, fun q => ?_⟩
  subst q
  generalize a.fmod 3 = b at *
  rw [Int.fmod_eq_emod_of_nonneg _ (by decide)] at e
  omega
section
variable {mean : ExcName → Option Value} {mg mb : Str → Option Value} {w : World} {cs : Scope} {nm : Str} {fa : Addr} {cd : Value} {h₀ : Heap} {L : Addr} {m : Str → Option Value} {s : Shared} {ad : Nat → Addr} {c : Nat}
def bas (ad : Nat → Addr) : List (Str × Value) := [("layers", .ref (ad 24)), ("down", .ref (ad 25)), ("up", .ref (ad 26)), ("asked", .ref (ad 27)), ("told", .ref (ad 28))]
/-- what a turn comes to -/
def Nt (h₀ : Heap) (L : Addr) (ad : Nat → Addr) (c : Nat) (h : Heap) (s' : Shared) (s : Shared) : Prop := ∃ h' tk' m', s' = { s with heap := h', toks := tk' } ∧ Fr h₀ L h' m' ∧ Has m' (bas ad) ∧ SS h₀ L ad c h' ∧ KeepU h₀ L ad h h'
theorem KeepU.trans {h h' h'' : Heap} (a : KeepU h₀ L ad h h') (b : KeepU h₀ L ad h' h'') : KeepU h₀ L ad h h'' := fun x o n hx => b x o (a x o n hx) hx
theorem KeepU.ofKp {h h' : Heap} (k : Kp L [] h h') : KeepU h₀ L ad h h' := keepU (cs := []) (fun _ h => (nomatch h)) k
theorem Th.keep0 {h h' : Heap} {t : Addr} (x : Th h₀ L h t) (k : Kp L [] h h') : Th h₀ L h' t := by
  obtain ⟨dt, et, nt, v, n1, n2, g⟩ := x
  exact ⟨dt, et, nt, v, n1.keep k fun h => (nomatch h), n2.keep k fun h => (nomatch h), g⟩
theorem turn {body : List Stmt} {n : Int} {tn : Tok} (hb : loopBody? w.params = some body) (hcs : lawScope? w.params = some cs)
    (B : Below callerA h₀ [] h₀) (F : Fr h₀ L s.heap m) (K : (KF w.params).In h₀) (T : Top Mine.V LS mean mg mb h₀)
    (hj : Inj ad) (hm : Has m (("n", .int n tn) :: bas ad)) (S : SS h₀ L ad c s.heap) (hc : c ≤ 700) :
    wpN (model PySem.Challenge.rw_bj5003_01.row.prog w) (callerA.deeper (envOf nm cs L fa cd)) (execs body (envOf nm cs L fa cd)) (fun f s' => f = .next ∧ Nt h₀ L ad (c + 16) s.heap s' s) (fun _ _ => False) s := by
  obtain ⟨a0, a1, a2, a3, a4, a5, a6, a7, a8, a9, a10, a11, a12, a13, rfl, b0, b1, b2, b3, b4, b5, b6, b7, b8, b9, b10, b11, b12, b13⟩ := body_parts hb
  obtain ⟨I, eI, hI⟩ := fmod4 (n.fdiv 8)
  obtain ⟨J, eJ, hJ, hIJ⟩ := fmod_next I hI (n.fdiv 32)
  obtain ⟨H, eH, hH, hJH⟩ := fmod_next J hJ (n.fdiv 96)
  have one : ∀ {l : List (Str × Value)} {p : Str × Value}, p ∈ l → ∀ q ∈ [p], q ∈ l := fun hp q hq => by rw [List.mem_singleton.mp hq]; exact hp
  have two : ∀ {l : List (Str × Value)} {p p' : Str × Value}, p ∈ l → p' ∈ l → ∀ q ∈ [p, p'], q ∈ l := fun hp hp' q hq => by
    rcases List.mem_cons.mp hq with rfl | hq
    · exact hp
    · rw [List.mem_singleton.mp hq]; exact hp'
  -- pick
  refine nExecs_leaf0 (s1 (ti := 0) (tj := 0) (I := 0) (J := 0) b0 hcs B F K T (hm.sub (one (.head _))) (newsRest (as := [])) fun tp h1 k1 F1 N1 => ⟨rfl, ?_⟩)
  rw [wr_push hm (one (.head _))] at F1
  have kp1 : Kp L [] s.heap h1 := kp_rest F F1 N1 (fun _ h => h)
  have m1 := hm.push (x := "pick") (v := .int (n.fmod 8) tp) (by show ∀ y ∈ [("n" : Str), "layers", "down", "up", "asked", "told"], y ≠ "pick"; decide)
  have S1 := S.same hj kp1 (Nat.le_refl _)
  -- i
  refine nExecs_leaf0 (s2 (ti := 0) (tj := 0) (I := 0) (J := 0) (s := { s with heap := h1, toks := k1 }) b1 hcs B F1 K T (m1.sub (one (.tail _ (.head _)))) (newsRest (as := [])) fun ti h2 k2 F2 N2 => ⟨rfl, ?_⟩)
  rw [wr_push m1 (one (.tail _ (.head _))), eI] at F2
  have kp2 : Kp L [] h1 h2 := kp_rest F1 F2 N2 (fun _ h => h)
  have m2 := m1.push (x := "i") (v := .int (I : Int) ti) (by show ∀ y ∈ [("pick" : Str), "n", "layers", "down", "up", "asked", "told"], y ≠ "i"; decide)
  have S2 := S1.same hj kp2 (Nat.le_refl _)
  -- j
  refine nExecs_leaf0 (s3 (tj := 0) (J := 0) (s := { s with heap := h2, toks := k2 }) b2 hcs B F2 K T (m2.sub (two (.tail _ (.tail _ (.head _))) (.head _))) (newsRest (as := [])) fun tj h3 k3 F3 N3 => ⟨rfl, ?_⟩)
  rw [wr_push m2 (two (.tail _ (.tail _ (.head _))) (.head _)), eJ] at F3
  have kp3 : Kp L [] h2 h3 := kp_rest F2 F3 N3 (fun _ h => h)
  have m3 := m2.push (x := "j") (v := .int (J : Int) tj) (by show ∀ y ∈ [("i" : Str), "pick", "n", "layers", "down", "up", "asked", "told"], y ≠ "j"; decide)
  have S3 := S2.same hj kp3 (Nat.le_refl _)
  -- k
  refine nExecs_leaf0 (s4 (ti := 0) (I := 0) (s := { s with heap := h3, toks := k3 }) b3 hcs B F3 K T (m3.sub (two (.tail _ (.tail _ (.tail _ (.head _)))) (.head _))) (newsRest (as := [])) fun th h4 k4 F4 N4 => ⟨rfl, ?_⟩)
  rw [wr_push m3 (two (.tail _ (.tail _ (.tail _ (.head _)))) (.head _)), eH] at F4
  have kp4 : Kp L [] h3 h4 := kp_rest F3 F4 N4 (fun _ h => h)
  have m4 := m3.push (x := "k") (v := .int (H : Int) th) (by show ∀ y ∈ [("j" : Str), "i", "pick", "n", "layers", "down", "up", "asked", "told"], y ≠ "k"; decide)
  have S4 := S3.same hj kp4 (Nat.le_refl _)
  -- one
  obtain ⟨dn, up, c24, c25, c26, c27, c28, G⟩ := id S4
  refine nExecs_leaf0 (s5 (s := { s with heap := h4, toks := k4 }) b4 hcs B F4 K T (m4.sub (two (.tail _ (.tail _ (.tail _ (.tail _ (.tail _ (.head _)))))) (.tail _ (.tail _ (.head _))))) hI (by rw [four_at hI, Nat.zero_add]) (newsCons G.la (newsRest (as := []))) fun h5 k5 F5 N5 => ⟨rfl, ?_⟩)
  rw [wr_push m4 (two (.tail _ (.tail _ (.tail _ (.tail _ (.tail _ (.head _)))))) (.tail _ (.tail _ (.head _))))] at F5
  have kp5 : Kp L [] h4 h5 := kp_rest F4 F5 N5 (fun _ h => .tail _ h)
  have m5 := m4.push (x := "one") (v := .ref (ad I)) (by show ∀ y ∈ [("k" : Str), "j", "i", "pick", "n", "layers", "down", "up", "asked", "told"], y ≠ "one"; decide)
  have S5 := S4.same hj kp5 (Nat.le_refl _)
  -- thing
  refine nExecs_cons (s6 (s := { s with heap := h5, toks := k5 }) b5 hcs B F5 K T (m5.sub (two (.tail _ (.tail _ (.tail _ (.tail _ (.tail _ (.head _)))))) (.tail _ (.tail _ (.tail _ (.head _)))))) hI (newsRest (as := [])) fun t dt v es k h6 k6 F6 N6 g6 => ?_)
  rw [wr_push m5 (two (.tail _ (.tail _ (.tail _ (.tail _ (.tail _ (.head _)))))) (.tail _ (.tail _ (.tail _ (.head _)))))] at F6
  have kp6 : Kp L [] h5 h6 := kp_rest F5 F6 N6 (fun _ h => .tail _ (.tail _ h))
  have m6 := m5.push (x := "thing") (v := .ref t) (by show ∀ y ∈ [("one" : Str), "k", "j", "i", "pick", "n", "layers", "down", "up", "asked", "told"], y ≠ "thing"; decide)
  have S6 := S5.same hj kp6 (Nat.le_refl _)
  have X6 : Th h₀ L h6 t := ⟨dt, es, k, v, N6 _ (.head _), N6 _ (.tail _ (.head _)), g6⟩
  have U6 : KeepU h₀ L ad s.heap h6 := ((((KeepU.ofKp kp1).trans (KeepU.ofKp kp2)).trans (KeepU.ofKp kp3)).trans (KeepU.ofKp kp4)).trans ((KeepU.ofKp kp5).trans (KeepU.ofKp kp6))
  have bm : Has (wr [("thing", .ref t)] (wr [("one", .ref (ad I))] (wr [("k", .int (H : Int) th)] (wr [("j", .int (J : Int) tj)] (wr [("i", .int (I : Int) ti)] (wr [("pick", .int (n.fmod 8) tp)] m)))))) (bn ad (n.fmod 8) I J H t tp ti tj th) :=
    m6.sub (List.forall_mem_cons.mpr ⟨.tail _ (.tail _ (.tail _ (.tail _ (.tail _ (.head _))))), List.forall_mem_cons.mpr ⟨.tail _ (.head _), List.forall_mem_cons.mpr ⟨.head _, List.forall_mem_cons.mpr ⟨.tail _ (.tail _ (.tail _ (.tail _ (.head _)))), List.forall_mem_cons.mpr ⟨.tail _ (.tail _ (.tail _ (.head _))), List.forall_mem_cons.mpr ⟨.tail _ (.tail _ (.head _)),
      fun p hp => .tail _ (.tail _ (.tail _ (.tail _ (.tail _ (.tail _ (.tail _ hp))))))⟩⟩⟩⟩⟩⟩)
  clear m1 m2 m3 m4 m5 m6 S1 S2 S3 S4 S5 G
  -- the picks and the check
  refine nExecs_leaf0 (wpAny_mono (t7 (s := { s with heap := h6, toks := k6 }) b6 hcs B F6 K T hj bm S6 X6 (by omega) hI hJ hH hIJ hJH) (fun f s7 h => ?_) fun _ _ x => x)
  obtain ⟨rfl, h7, k7, m7, rfl, F7, bm7, S7, X7, U7⟩ := h
  refine ⟨rfl, nExecs_leaf0 (wpAny_mono (t8 (s := { s with heap := h7, toks := k7 }) b7 hcs B F7 K T hj bm7 S7 X7 (by omega) hI hJ hH hIJ hJH) (fun f s8 h => ?_) fun _ _ x => x)⟩
  obtain ⟨rfl, h8, k8, m8, rfl, F8, bm8, S8, X8, U8⟩ := h
  refine ⟨rfl, nExecs_leaf0 (wpAny_mono (t9 (s := { s with heap := h8, toks := k8 }) b8 hcs B F8 K T hj bm8 S8 X8 (by omega) hI hJ hH hIJ hJH) (fun f s9 h => ?_) fun _ _ x => x)⟩
  obtain ⟨rfl, h9, k9, m9, rfl, F9, bm9, S9, X9, U9⟩ := h
  refine ⟨rfl, nExecs_leaf0 (wpAny_mono (t10 (s := { s with heap := h9, toks := k9 }) b9 hcs B F9 K T hj bm9 S9 X9 (by omega) hI hJ hH hIJ hJH) (fun f s10 h => ?_) fun _ _ x => x)⟩
  obtain ⟨rfl, hA, kA, mA, rfl, FA, bmA, SA, XA, UA⟩ := h
  refine ⟨rfl, nExecs_leaf0 (wpAny_mono (t11 (s := { s with heap := hA, toks := kA }) b10 hcs B FA K T hj bmA SA XA (by omega) hI hJ hH hIJ hJH) (fun f s11 h => ?_) fun _ _ x => x)⟩
  obtain ⟨rfl, hB, kB, mB, rfl, FB, bmB, SB, XB, UB⟩ := h
  refine ⟨rfl, nExecs_leaf0 (wpAny_mono (t12 (s := { s with heap := hB, toks := kB }) b11 hcs B FB K T hj bmB SB XB (by omega) hI hJ hH hIJ hJH) (fun f s12 h => ?_) fun _ _ x => x)⟩
  obtain ⟨rfl, hC, kC, mC, rfl, FC, bmC, SC, XC, UC⟩ := h
  refine ⟨rfl, nExecs_leaf0 (wpAny_mono (t13 (s := { s with heap := hC, toks := kC }) b12 hcs B FC K T hj bmC SC XC (by omega) hI hJ hH hIJ hJH) (fun f s13 h => ?_) fun _ _ x => x)⟩
  obtain ⟨rfl, hD, kD, mD, rfl, FD, bmD, SD, XD, UD⟩ := h
  refine ⟨rfl, nExecs_leaf0 (wpAny_mono (t14 (s := { s with heap := hD, toks := kD }) b13 hcs B FD K T hj bmD SD XD (by omega) hI hJ hH hIJ hJH) (fun f s14 h => ?_) fun _ _ x => x)⟩
  obtain ⟨rfl, hE, kE, mE, rfl, FE, bmE, SE, XE, UE⟩ := h
  refine ⟨rfl, nExecs_nil ⟨rfl, hE, kE, mE, rfl, FE, bmE.sub fun p hp => .tail _ (.tail _ (.tail _ (.tail _ (.tail _ (.tail _ hp))))), SE, ?_⟩⟩
  exact U6.trans (U7.trans (U8.trans (U9.trans (UA.trans (UB.trans (UC.trans (UD.trans UE)))))))
end
end Mine
end
section
open PySem PySem.W PyProof.Rows PySem.Calls
set_option Elab.async false
set_option maxRecDepth 100000
set_option maxHeartbeats 4000000
namespace Mine
def segA? (P : Params) : Option (List Stmt) := match lawBody? P with | some (a :: b :: c :: d :: e :: _) => some [a, b, c, d, e] | _ => none
def segB? (P : Params) : Option (List Stmt) := match lawBody? P with | some (_ :: _ :: _ :: _ :: _ :: a :: b :: _) => some [a, b] | _ => none
def segC? (P : Params) : Option (List Stmt) := match lawBody? P with | some (_ :: _ :: _ :: _ :: _ :: _ :: _ :: a :: _) => some [a] | _ => none
def segD? (P : Params) : Option (List Stmt) := match lawBody? P with | some (_ :: _ :: _ :: _ :: _ :: _ :: _ :: _ :: a :: b :: _) => some [a, b] | _ => none
def segE? (P : Params) : Option (List Stmt) := match lawBody? P with | some (_ :: _ :: _ :: _ :: _ :: _ :: _ :: _ :: _ :: _ :: a :: b :: c :: d :: e :: _) => some [a, b, c, d, e] | _ => none
def segF? (P : Params) : Option (List Stmt) := match lawBody? P with | some (_ :: _ :: _ :: _ :: _ :: _ :: _ :: _ :: _ :: _ :: _ :: _ :: _ :: _ :: _ :: a :: b :: _) => some [a, b] | _ => none
end Mine
end
section
open PySem PySem.W PyProof.Rows PySem.Calls
namespace Mine
def bodyB? (P : Params) : Option (List Stmt) := match lawStmt? P 6 with | some (.For _ _ body _ _) => some body | _ => none
end Mine
end
section
open PySem PySem.W PyProof.Rows PySem.Calls
set_option Elab.async false
set_option linter.unusedVariables false
set_option maxRecDepth 100000
set_option maxHeartbeats 4000000
namespace Mine
local macro_rules | `(tactic| ktr_rel) => `(tactic| first | exact List.forall_mem_nil _ | (refine' List.forall_mem_cons.mpr ⟨newsAt (by k_asm) (by k_mem), ?_⟩; ktr_rel))
theorem gA {mean : ExcName → Option Value} {mg mb : Str → Option Value} {w : World} {cs : Scope} {nm : Str} {fa : Addr} {cd : Value}
    {h₀ : Heap} {L : Addr} {m : Str → Option Value} {s : Shared} {Q : Flow → Shared → Prop} {xs : List Stmt}
    (hb : segA? w.params = some xs) (hcs : lawScope? w.params = some cs)
    (B : Below callerA h₀ [] h₀) (F : Fr h₀ L s.heap m) (K : (KF w.params).In h₀) (T : Top Mine.V LS mean mg mb h₀)
    (N : News h₀ L s.heap [])
    (hq : ∀ (c dc v dv p dp e de : Addr) (v1 v2 v3 v4 tc1 tc2 tv1 tv2 tp1 tp2 te1 te2 : Tok) h' tk', Fr h₀ L h' (wr [("element", .ref e), ("point", .ref p), ("server", .ref v), ("client", .ref c)] m) → News h₀ L h' [(c, instObj 254 dc), (dc, dictOf [⟨PyData.keyHash w.params "clientID", .str "clientID" tc1, .int 7 v1⟩, ⟨PyData.keyHash w.params "clientPeer", .str "clientPeer" tc2, .none⟩] 2), (v, instObj 290 dv), (dv, dictOf [⟨PyData.keyHash w.params "serverID", .str "serverID" tv1, .int 8 v2⟩, ⟨PyData.keyHash w.params "serverPeer", .str "serverPeer" tv2, .none⟩] 2), (p, instObj 340 dp), (dp, dictOf [⟨PyData.keyHash w.params "serviceID", .str "serviceID" tp1, .int 9 v3⟩, ⟨PyData.keyHash w.params "serviceElement", .str "serviceElement" tp2, .none⟩] 2), (e, instObj 390 de), (de, dictOf [⟨PyData.keyHash w.params "elementID", .str "elementID" te1, .int 10 v4⟩, ⟨PyData.keyHash w.params "elementService", .str "elementService" te2, .none⟩] 2)] → Q .next { s with heap := h', toks := tk' }) :
    wpAny (model PySem.Challenge.rw_bj5003_01.row.prog w) (callerA.deeper (envOf nm cs L fa cd)) (execs xs (envOf nm cs L fa cd)) Q (fun _ _ => False) s := by
  first
  | (
      injection hb with hb
      subst hb
      injection hcs with hcs
      subst hcs
      dsimp only
      revert K; k_fill; intro K
      w_on
      k_steps
      refine' hq _ _ _ _ _ _ _ _ _ _ _ _ _ _ _ _ _ _ _ _ _ _ ?kF ?kN
      case kF => k_asm
      case kN => ktr_rel
    )
end Mine
end
section
open PySem PySem.W PyProof.Rows PySem.Calls
set_option Elab.async false
set_option linter.unusedVariables false
set_option maxRecDepth 100000
set_option maxHeartbeats 4000000
namespace Mine
local macro_rules | `(tactic| k_room) => `(tactic| ktr_room)
local macro_rules | `(tactic| k_get) => `(tactic| with_reducible assumption)

theorem fault0 {mean : ExcName → Option Value} {mg mb : Str → Option Value} {w : World} {cs : Scope} {nm : Str} {fa : Addr} {cd : Value}
    {h₀ : Heap} {L : Addr} {m : Str → Option Value} {s : Shared} {tail : List (Addr × Obj)} {Q : Flow → Shared → Prop} {body : List Stmt} {r x dx : Addr} {ex : List DictEntry} {nx : Nat} {td tr : Tok}
    (hb : bodyB? w.params = some body) (hcs : lawScope? w.params = some cs)
    (B : Below callerA h₀ [] h₀) (F : Fr h₀ L s.heap m) (K : (KF w.params).In h₀) (T : Top Mine.V LS mean mg mb h₀)
    (hm : Has m [("row", .ref r)])
    (N : News h₀ L s.heap ((r, ({ cls := .type "tuple", data := .seq #[.ref x, .int 0 td, .int 1 tr] } : Obj)) :: (x, instObj 254 dx) :: (dx, dictOf ex nx) :: tail)) (g1 : getL "request" ex = some none) (g2 : getL "clientPeer" ex = some (some .none))
    (hq : ∀ h' tk', Fr h₀ L h' (wr [("row", .ref r)] m) → News h₀ L h' tail → Q .next { s with heap := h', toks := tk' }) :
    wpAny (model PySem.Challenge.rw_bj5003_01.row.prog w) (callerA.deeper (envOf nm cs L fa cd)) (execs body (envOf nm cs L fa cd)) Q (fun _ _ => False) s := by
  first
  | (
      injection hb with hb
      subst hb
      injection hcs with hcs
      subst hcs
      dsimp only
      replace F := fr_names F hm
      dsimp only [wr] at F
      revert K; k_fill; intro K
      w_on
      k_steps
      refine hq _ _ (by k_asm) ?_
      intro p hp
      refine newsAt (by k_asm) ?_
      repeat (first | exact hp | refine List.Mem.tail _ ?_)
    )
theorem fault1 {mean : ExcName → Option Value} {mg mb : Str → Option Value} {w : World} {cs : Scope} {nm : Str} {fa : Addr} {cd : Value}
    {h₀ : Heap} {L : Addr} {m : Str → Option Value} {s : Shared} {tail : List (Addr × Obj)} {Q : Flow → Shared → Prop} {body : List Stmt} {r x dx : Addr} {ex : List DictEntry} {nx : Nat} {td tr : Tok}
    (hb : bodyB? w.params = some body) (hcs : lawScope? w.params = some cs)
    (B : Below callerA h₀ [] h₀) (F : Fr h₀ L s.heap m) (K : (KF w.params).In h₀) (T : Top Mine.V LS mean mg mb h₀)
    (hm : Has m [("row", .ref r)])
    (N : News h₀ L s.heap ((r, ({ cls := .type "tuple", data := .seq #[.ref x, .int 1 td, .int 1 tr] } : Obj)) :: (x, instObj 290 dx) :: (dx, dictOf ex nx) :: tail)) (g1 : getL "response" ex = some none) (g2 : getL "serverPeer" ex = some (some .none))
    (hq : ∀ h' tk', Fr h₀ L h' (wr [("row", .ref r)] m) → News h₀ L h' tail → Q .next { s with heap := h', toks := tk' }) :
    wpAny (model PySem.Challenge.rw_bj5003_01.row.prog w) (callerA.deeper (envOf nm cs L fa cd)) (execs body (envOf nm cs L fa cd)) Q (fun _ _ => False) s := by
  first
  | (
      injection hb with hb
      subst hb
      injection hcs with hcs
      subst hcs
      dsimp only
      replace F := fr_names F hm
      dsimp only [wr] at F
      revert K; k_fill; intro K
      w_on
      k_steps
      refine hq _ _ (by k_asm) ?_
      intro p hp
      refine newsAt (by k_asm) ?_
      repeat (first | exact hp | refine List.Mem.tail _ ?_)
    )
theorem fault2 {mean : ExcName → Option Value} {mg mb : Str → Option Value} {w : World} {cs : Scope} {nm : Str} {fa : Addr} {cd : Value}
    {h₀ : Heap} {L : Addr} {m : Str → Option Value} {s : Shared} {tail : List (Addr × Obj)} {Q : Flow → Shared → Prop} {body : List Stmt} {r x dx : Addr} {ex : List DictEntry} {nx : Nat} {td tr : Tok}
    (hb : bodyB? w.params = some body) (hcs : lawScope? w.params = some cs)
    (B : Below callerA h₀ [] h₀) (F : Fr h₀ L s.heap m) (K : (KF w.params).In h₀) (T : Top Mine.V LS mean mg mb h₀)
    (hm : Has m [("row", .ref r)])
    (N : News h₀ L s.heap ((r, ({ cls := .type "tuple", data := .seq #[.ref x, .int 2 td, .int 1 tr] } : Obj)) :: (x, instObj 340 dx) :: (dx, dictOf ex nx) :: tail)) (g1 : getL "sap_request" ex = some none) (g2 : getL "serviceElement" ex = some (some .none))
    (hq : ∀ h' tk', Fr h₀ L h' (wr [("row", .ref r)] m) → News h₀ L h' tail → Q .next { s with heap := h', toks := tk' }) :
    wpAny (model PySem.Challenge.rw_bj5003_01.row.prog w) (callerA.deeper (envOf nm cs L fa cd)) (execs body (envOf nm cs L fa cd)) Q (fun _ _ => False) s := by
  first
  | (
      injection hb with hb
      subst hb
      injection hcs with hcs
      subst hcs
      dsimp only
      replace F := fr_names F hm
      dsimp only [wr] at F
      revert K; k_fill; intro K
      w_on
      k_steps
      refine hq _ _ (by k_asm) ?_
      intro p hp
      refine newsAt (by k_asm) ?_
      repeat (first | exact hp | refine List.Mem.tail _ ?_)
    )
end Mine
end
section
open PySem PySem.W PyProof.Rows PySem.Calls
set_option Elab.async false
set_option linter.unusedVariables false
set_option maxRecDepth 100000
set_option maxHeartbeats 4000000
namespace Mine
local macro_rules | `(tactic| k_room) => `(tactic| ktr_room)
local macro_rules | `(tactic| k_get) => `(tactic| with_reducible assumption)

theorem fault3 {mean : ExcName → Option Value} {mg mb : Str → Option Value} {w : World} {cs : Scope} {nm : Str} {fa : Addr} {cd : Value}
    {h₀ : Heap} {L : Addr} {m : Str → Option Value} {s : Shared} {tail : List (Addr × Obj)} {Q : Flow → Shared → Prop} {body : List Stmt} {r x dx : Addr} {ex : List DictEntry} {nx : Nat} {td tr : Tok}
    (hb : bodyB? w.params = some body) (hcs : lawScope? w.params = some cs)
    (B : Below callerA h₀ [] h₀) (F : Fr h₀ L s.heap m) (K : (KF w.params).In h₀) (T : Top Mine.V LS mean mg mb h₀)
    (hm : Has m [("row", .ref r)])
    (N : News h₀ L s.heap ((r, ({ cls := .type "tuple", data := .seq #[.ref x, .int 3 td, .int 1 tr] } : Obj)) :: (x, instObj 340 dx) :: (dx, dictOf ex nx) :: tail)) (g1 : getL "sap_response" ex = some none) (g2 : getL "serviceElement" ex = some (some .none))
    (hq : ∀ h' tk', Fr h₀ L h' (wr [("row", .ref r)] m) → News h₀ L h' tail → Q .next { s with heap := h', toks := tk' }) :
    wpAny (model PySem.Challenge.rw_bj5003_01.row.prog w) (callerA.deeper (envOf nm cs L fa cd)) (execs body (envOf nm cs L fa cd)) Q (fun _ _ => False) s := by
  first
  | (
      injection hb with hb
      subst hb
      injection hcs with hcs
      subst hcs
      dsimp only
      replace F := fr_names F hm
      dsimp only [wr] at F
      revert K; k_fill; intro K
      w_on
      k_steps
      refine hq _ _ (by k_asm) ?_
      intro p hp
      refine newsAt (by k_asm) ?_
      repeat (first | exact hp | refine List.Mem.tail _ ?_)
    )
theorem fault4 {mean : ExcName → Option Value} {mg mb : Str → Option Value} {w : World} {cs : Scope} {nm : Str} {fa : Addr} {cd : Value}
    {h₀ : Heap} {L : Addr} {m : Str → Option Value} {s : Shared} {tail : List (Addr × Obj)} {Q : Flow → Shared → Prop} {body : List Stmt} {r x dx : Addr} {ex : List DictEntry} {nx : Nat} {td tr : Tok}
    (hb : bodyB? w.params = some body) (hcs : lawScope? w.params = some cs)
    (B : Below callerA h₀ [] h₀) (F : Fr h₀ L s.heap m) (K : (KF w.params).In h₀) (T : Top Mine.V LS mean mg mb h₀)
    (hm : Has m [("row", .ref r)])
    (N : News h₀ L s.heap ((r, ({ cls := .type "tuple", data := .seq #[.ref x, .int 0 td, .int 1 tr] } : Obj)) :: (x, instObj 390 dx) :: (dx, dictOf ex nx) :: tail)) (g1 : getL "request" ex = some none) (g2 : getL "elementService" ex = some (some .none))
    (hq : ∀ h' tk', Fr h₀ L h' (wr [("row", .ref r)] m) → News h₀ L h' tail → Q .next { s with heap := h', toks := tk' }) :
    wpAny (model PySem.Challenge.rw_bj5003_01.row.prog w) (callerA.deeper (envOf nm cs L fa cd)) (execs body (envOf nm cs L fa cd)) Q (fun _ _ => False) s := by
  first
  | (
      injection hb with hb
      subst hb
      injection hcs with hcs
      subst hcs
      dsimp only
      replace F := fr_names F hm
      dsimp only [wr] at F
      revert K; k_fill; intro K
      w_on
      k_steps
      refine hq _ _ (by k_asm) ?_
      intro p hp
      refine newsAt (by k_asm) ?_
      repeat (first | exact hp | refine List.Mem.tail _ ?_)
    )
theorem fault5 {mean : ExcName → Option Value} {mg mb : Str → Option Value} {w : World} {cs : Scope} {nm : Str} {fa : Addr} {cd : Value}
    {h₀ : Heap} {L : Addr} {m : Str → Option Value} {s : Shared} {tail : List (Addr × Obj)} {Q : Flow → Shared → Prop} {body : List Stmt} {r x dx : Addr} {ex : List DictEntry} {nx : Nat} {td tr : Tok}
    (hb : bodyB? w.params = some body) (hcs : lawScope? w.params = some cs)
    (B : Below callerA h₀ [] h₀) (F : Fr h₀ L s.heap m) (K : (KF w.params).In h₀) (T : Top Mine.V LS mean mg mb h₀)
    (hm : Has m [("row", .ref r)])
    (N : News h₀ L s.heap ((r, ({ cls := .type "tuple", data := .seq #[.ref x, .int 1 td, .int 1 tr] } : Obj)) :: (x, instObj 390 dx) :: (dx, dictOf ex nx) :: tail)) (g1 : getL "response" ex = some none) (g2 : getL "elementService" ex = some (some .none))
    (hq : ∀ h' tk', Fr h₀ L h' (wr [("row", .ref r)] m) → News h₀ L h' tail → Q .next { s with heap := h', toks := tk' }) :
    wpAny (model PySem.Challenge.rw_bj5003_01.row.prog w) (callerA.deeper (envOf nm cs L fa cd)) (execs body (envOf nm cs L fa cd)) Q (fun _ _ => False) s := by
  first
  | (
      injection hb with hb
      subst hb
      injection hcs with hcs
      subst hcs
      dsimp only
      replace F := fr_names F hm
      dsimp only [wr] at F
      revert K; k_fill; intro K
      w_on
      k_steps
      refine hq _ _ (by k_asm) ?_
      intro p hp
      refine newsAt (by k_asm) ?_
      repeat (first | exact hp | refine List.Mem.tail _ ?_)
    )
end Mine
end
section
open PySem PySem.W PyProof.Rows PySem.Calls
set_option Elab.async false
set_option linter.unusedVariables false
set_option maxRecDepth 100000
set_option maxHeartbeats 4000000
namespace Mine
local macro_rules | `(tactic| k_room) => `(tactic| ktr_room)
local macro_rules | `(tactic| k_get) => `(tactic| with_reducible assumption)

theorem fault6 {mean : ExcName → Option Value} {mg mb : Str → Option Value} {w : World} {cs : Scope} {nm : Str} {fa : Addr} {cd : Value}
    {h₀ : Heap} {L : Addr} {m : Str → Option Value} {s : Shared} {tail : List (Addr × Obj)} {Q : Flow → Shared → Prop} {body : List Stmt} {r x dx : Addr} {ex : List DictEntry} {nx : Nat} {td tr : Tok}
    (hb : bodyB? w.params = some body) (hcs : lawScope? w.params = some cs)
    (B : Below callerA h₀ [] h₀) (F : Fr h₀ L s.heap m) (K : (KF w.params).In h₀) (T : Top Mine.V LS mean mg mb h₀)
    (hm : Has m [("row", .ref r)])
    (N : News h₀ L s.heap ((r, ({ cls := .type "tuple", data := .seq #[.ref x, .int 4 td, .int 2 tr] } : Obj)) :: (x, instObj 254 dx) :: (dx, dictOf ex nx) :: tail)) (g1 : getL "confirmation" ex = some none)
    (hq : ∀ h' tk', Fr h₀ L h' (wr [("row", .ref r)] m) → News h₀ L h' tail → Q .next { s with heap := h', toks := tk' }) :
    wpAny (model PySem.Challenge.rw_bj5003_01.row.prog w) (callerA.deeper (envOf nm cs L fa cd)) (execs body (envOf nm cs L fa cd)) Q (fun _ _ => False) s := by
  first
  | (
      injection hb with hb
      subst hb
      injection hcs with hcs
      subst hcs
      dsimp only
      replace F := fr_names F hm
      dsimp only [wr] at F
      revert K; k_fill; intro K
      w_on
      k_steps
      refine hq _ _ (by k_asm) ?_
      intro p hp
      refine newsAt (by k_asm) ?_
      repeat (first | exact hp | refine List.Mem.tail _ ?_)
    )
theorem fault7 {mean : ExcName → Option Value} {mg mb : Str → Option Value} {w : World} {cs : Scope} {nm : Str} {fa : Addr} {cd : Value}
    {h₀ : Heap} {L : Addr} {m : Str → Option Value} {s : Shared} {tail : List (Addr × Obj)} {Q : Flow → Shared → Prop} {body : List Stmt} {r x dx : Addr} {ex : List DictEntry} {nx : Nat} {td tr : Tok}
    (hb : bodyB? w.params = some body) (hcs : lawScope? w.params = some cs)
    (B : Below callerA h₀ [] h₀) (F : Fr h₀ L s.heap m) (K : (KF w.params).In h₀) (T : Top Mine.V LS mean mg mb h₀)
    (hm : Has m [("row", .ref r)])
    (N : News h₀ L s.heap ((r, ({ cls := .type "tuple", data := .seq #[.ref x, .int 5 td, .int 2 tr] } : Obj)) :: (x, instObj 290 dx) :: (dx, dictOf ex nx) :: tail)) (g1 : getL "indication" ex = some none)
    (hq : ∀ h' tk', Fr h₀ L h' (wr [("row", .ref r)] m) → News h₀ L h' tail → Q .next { s with heap := h', toks := tk' }) :
    wpAny (model PySem.Challenge.rw_bj5003_01.row.prog w) (callerA.deeper (envOf nm cs L fa cd)) (execs body (envOf nm cs L fa cd)) Q (fun _ _ => False) s := by
  first
  | (
      injection hb with hb
      subst hb
      injection hcs with hcs
      subst hcs
      dsimp only
      replace F := fr_names F hm
      dsimp only [wr] at F
      revert K; k_fill; intro K
      w_on
      k_steps
      refine hq _ _ (by k_asm) ?_
      intro p hp
      refine newsAt (by k_asm) ?_
      repeat (first | exact hp | refine List.Mem.tail _ ?_)
    )
theorem fault8 {mean : ExcName → Option Value} {mg mb : Str → Option Value} {w : World} {cs : Scope} {nm : Str} {fa : Addr} {cd : Value}
    {h₀ : Heap} {L : Addr} {m : Str → Option Value} {s : Shared} {tail : List (Addr × Obj)} {Q : Flow → Shared → Prop} {body : List Stmt} {r x dx : Addr} {ex : List DictEntry} {nx : Nat} {td tr : Tok}
    (hb : bodyB? w.params = some body) (hcs : lawScope? w.params = some cs)
    (B : Below callerA h₀ [] h₀) (F : Fr h₀ L s.heap m) (K : (KF w.params).In h₀) (T : Top Mine.V LS mean mg mb h₀)
    (hm : Has m [("row", .ref r)])
    (N : News h₀ L s.heap ((r, ({ cls := .type "tuple", data := .seq #[.ref x, .int 6 td, .int 2 tr] } : Obj)) :: (x, instObj 340 dx) :: (dx, dictOf ex nx) :: tail)) (g1 : getL "sap_indication" ex = some none)
    (hq : ∀ h' tk', Fr h₀ L h' (wr [("row", .ref r)] m) → News h₀ L h' tail → Q .next { s with heap := h', toks := tk' }) :
    wpAny (model PySem.Challenge.rw_bj5003_01.row.prog w) (callerA.deeper (envOf nm cs L fa cd)) (execs body (envOf nm cs L fa cd)) Q (fun _ _ => False) s := by
  first
  | (
      injection hb with hb
      subst hb
      injection hcs with hcs
      subst hcs
      dsimp only
      replace F := fr_names F hm
      dsimp only [wr] at F
      revert K; k_fill; intro K
      w_on
      k_steps
      refine hq _ _ (by k_asm) ?_
      intro p hp
      refine newsAt (by k_asm) ?_
      repeat (first | exact hp | refine List.Mem.tail _ ?_)
    )
end Mine
end
section
open PySem PySem.W PyProof.Rows PySem.Calls
set_option Elab.async false
set_option linter.unusedVariables false
set_option maxRecDepth 100000
set_option maxHeartbeats 4000000
namespace Mine
local macro_rules | `(tactic| k_room) => `(tactic| ktr_room)
local macro_rules | `(tactic| k_get) => `(tactic| with_reducible assumption)

theorem fault9 {mean : ExcName → Option Value} {mg mb : Str → Option Value} {w : World} {cs : Scope} {nm : Str} {fa : Addr} {cd : Value}
    {h₀ : Heap} {L : Addr} {m : Str → Option Value} {s : Shared} {tail : List (Addr × Obj)} {Q : Flow → Shared → Prop} {body : List Stmt} {r x dx : Addr} {ex : List DictEntry} {nx : Nat} {td tr : Tok}
    (hb : bodyB? w.params = some body) (hcs : lawScope? w.params = some cs)
    (B : Below callerA h₀ [] h₀) (F : Fr h₀ L s.heap m) (K : (KF w.params).In h₀) (T : Top Mine.V LS mean mg mb h₀)
    (hm : Has m [("row", .ref r)])
    (N : News h₀ L s.heap ((r, ({ cls := .type "tuple", data := .seq #[.ref x, .int 7 td, .int 2 tr] } : Obj)) :: (x, instObj 340 dx) :: (dx, dictOf ex nx) :: tail)) (g1 : getL "sap_confirmation" ex = some none)
    (hq : ∀ h' tk', Fr h₀ L h' (wr [("row", .ref r)] m) → News h₀ L h' tail → Q .next { s with heap := h', toks := tk' }) :
    wpAny (model PySem.Challenge.rw_bj5003_01.row.prog w) (callerA.deeper (envOf nm cs L fa cd)) (execs body (envOf nm cs L fa cd)) Q (fun _ _ => False) s := by
  first
  | (
      injection hb with hb
      subst hb
      injection hcs with hcs
      subst hcs
      dsimp only
      replace F := fr_names F hm
      dsimp only [wr] at F
      revert K; k_fill; intro K
      w_on
      k_steps
      refine hq _ _ (by k_asm) ?_
      intro p hp
      refine newsAt (by k_asm) ?_
      repeat (first | exact hp | refine List.Mem.tail _ ?_)
    )
theorem fault10 {mean : ExcName → Option Value} {mg mb : Str → Option Value} {w : World} {cs : Scope} {nm : Str} {fa : Addr} {cd : Value}
    {h₀ : Heap} {L : Addr} {m : Str → Option Value} {s : Shared} {tail : List (Addr × Obj)} {Q : Flow → Shared → Prop} {body : List Stmt} {r x dx : Addr} {ex : List DictEntry} {nx : Nat} {td tr : Tok}
    (hb : bodyB? w.params = some body) (hcs : lawScope? w.params = some cs)
    (B : Below callerA h₀ [] h₀) (F : Fr h₀ L s.heap m) (K : (KF w.params).In h₀) (T : Top Mine.V LS mean mg mb h₀)
    (hm : Has m [("row", .ref r)])
    (N : News h₀ L s.heap ((r, ({ cls := .type "tuple", data := .seq #[.ref x, .int 5 td, .int 2 tr] } : Obj)) :: (x, instObj 390 dx) :: (dx, dictOf ex nx) :: tail)) (g1 : getL "indication" ex = some none)
    (hq : ∀ h' tk', Fr h₀ L h' (wr [("row", .ref r)] m) → News h₀ L h' tail → Q .next { s with heap := h', toks := tk' }) :
    wpAny (model PySem.Challenge.rw_bj5003_01.row.prog w) (callerA.deeper (envOf nm cs L fa cd)) (execs body (envOf nm cs L fa cd)) Q (fun _ _ => False) s := by
  first
  | (
      injection hb with hb
      subst hb
      injection hcs with hcs
      subst hcs
      dsimp only
      replace F := fr_names F hm
      dsimp only [wr] at F
      revert K; k_fill; intro K
      w_on
      k_steps
      refine hq _ _ (by k_asm) ?_
      intro p hp
      refine newsAt (by k_asm) ?_
      repeat (first | exact hp | refine List.Mem.tail _ ?_)
    )
theorem fault11 {mean : ExcName → Option Value} {mg mb : Str → Option Value} {w : World} {cs : Scope} {nm : Str} {fa : Addr} {cd : Value}
    {h₀ : Heap} {L : Addr} {m : Str → Option Value} {s : Shared} {tail : List (Addr × Obj)} {Q : Flow → Shared → Prop} {body : List Stmt} {r x dx : Addr} {ex : List DictEntry} {nx : Nat} {td tr : Tok}
    (hb : bodyB? w.params = some body) (hcs : lawScope? w.params = some cs)
    (B : Below callerA h₀ [] h₀) (F : Fr h₀ L s.heap m) (K : (KF w.params).In h₀) (T : Top Mine.V LS mean mg mb h₀)
    (hm : Has m [("row", .ref r)])
    (N : News h₀ L s.heap ((r, ({ cls := .type "tuple", data := .seq #[.ref x, .int 4 td, .int 2 tr] } : Obj)) :: (x, instObj 390 dx) :: (dx, dictOf ex nx) :: tail)) (g1 : getL "confirmation" ex = some none)
    (hq : ∀ h' tk', Fr h₀ L h' (wr [("row", .ref r)] m) → News h₀ L h' tail → Q .next { s with heap := h', toks := tk' }) :
    wpAny (model PySem.Challenge.rw_bj5003_01.row.prog w) (callerA.deeper (envOf nm cs L fa cd)) (execs body (envOf nm cs L fa cd)) Q (fun _ _ => False) s := by
  first
  | (
      injection hb with hb
      subst hb
      injection hcs with hcs
      subst hcs
      dsimp only
      replace F := fr_names F hm
      dsimp only [wr] at F
      revert K; k_fill; intro K
      w_on
      k_steps
      refine hq _ _ (by k_asm) ?_
      intro p hp
      refine newsAt (by k_asm) ?_
      repeat (first | exact hp | refine List.Mem.tail _ ?_)
    )
end Mine
end
section
open PySem PySem.W PyProof.Rows PySem.Calls
set_option Elab.async false
set_option linter.unusedVariables false
set_option maxRecDepth 100000
set_option maxHeartbeats 4000000
namespace Mine
local macro_rules | `(tactic| k_room) => `(tactic| ktr_room)

local macro_rules | `(tactic| ktr_rel) => `(tactic| first | (refine' List.forall_mem_cons.mpr ⟨newsAt (by k_asm) (by k_mem), ?_⟩; ktr_rel) | (intro p hp; refine newsAt (by k_asm) ?_; repeat (first | exact hp | refine List.Mem.tail _ ?_)))
/-- a row that does as it says -/
def Good (w : World) (cs : Scope) (nm : Str) (fa : Addr) (cd : Value) (h₀ : Heap) (L : Addr) (body : List Stmt) (news : List (Addr × Obj)) (v : Value) : Prop :=
  ∀ (m : Str → Option Value) (s : Shared) (tail : List (Addr × Obj)) (Q : Flow → Shared → Prop), m "row" = some v → Fr h₀ L s.heap m → News h₀ L s.heap tail → (∀ p ∈ news, p ∈ tail) →
    (∀ h' tk', Fr h₀ L h' m → News h₀ L h' tail → Q .next { s with heap := h', toks := tk' }) →
    wpAny (model PySem.Challenge.rw_bj5003_01.row.prog w) (callerA.deeper (envOf nm cs L fa cd)) (execs body (envOf nm cs L fa cd)) Q (fun _ _ => False) s
section
variable {mean : ExcName → Option Value} {mg mb : Str → Option Value} {w : World} {cs : Scope} {nm : Str} {fa : Addr} {cd : Value} {h₀ : Heap} {L : Addr} {news : List (Addr × Obj)} {body : List Stmt}
theorem has1 {m : Str → Option Value} {v : Value} (h : m "row" = some v) : Has m [("row", v)] := fun p hp => by rw [List.mem_singleton.mp hp]; exact h
theorem good0 {r x dx : Addr} {ex : List DictEntry} {nx : Nat} {td tr : Tok} (hb : bodyB? w.params = some body) (hcs : lawScope? w.params = some cs) (B : Below callerA h₀ [] h₀) (K : (KF w.params).In h₀) (T : Top Mine.V LS mean mg mb h₀)
    (m1 : (r, ({ cls := .type "tuple", data := .seq #[.ref x, .int 0 td, .int 1 tr] } : Obj)) ∈ news) (m2 : (x, instObj 254 dx) ∈ news) (m3 : (dx, dictOf ex nx) ∈ news) (g1 : getL "request" ex = some none) (g2 : getL "clientPeer" ex = some (some .none)) : Good w cs nm fa cd h₀ L body news (.ref r) := fun m s tail Q hr F N hs hq =>
  fault0 hb hcs B F K T (has1 hr) (List.forall_mem_cons.mpr ⟨N _ (hs _ m1), List.forall_mem_cons.mpr ⟨N _ (hs _ m2), List.forall_mem_cons.mpr ⟨N _ (hs _ m3), N⟩⟩⟩) g1 g2 fun h' tk' F' N' => hq h' tk' (by rw [wr_eq (has1 hr)] at F'; exact F') N'
theorem good1 {r x dx : Addr} {ex : List DictEntry} {nx : Nat} {td tr : Tok} (hb : bodyB? w.params = some body) (hcs : lawScope? w.params = some cs) (B : Below callerA h₀ [] h₀) (K : (KF w.params).In h₀) (T : Top Mine.V LS mean mg mb h₀)
    (m1 : (r, ({ cls := .type "tuple", data := .seq #[.ref x, .int 1 td, .int 1 tr] } : Obj)) ∈ news) (m2 : (x, instObj 290 dx) ∈ news) (m3 : (dx, dictOf ex nx) ∈ news) (g1 : getL "response" ex = some none) (g2 : getL "serverPeer" ex = some (some .none)) : Good w cs nm fa cd h₀ L body news (.ref r) := fun m s tail Q hr F N hs hq =>
  fault1 hb hcs B F K T (has1 hr) (List.forall_mem_cons.mpr ⟨N _ (hs _ m1), List.forall_mem_cons.mpr ⟨N _ (hs _ m2), List.forall_mem_cons.mpr ⟨N _ (hs _ m3), N⟩⟩⟩) g1 g2 fun h' tk' F' N' => hq h' tk' (by rw [wr_eq (has1 hr)] at F'; exact F') N'
theorem good2 {r x dx : Addr} {ex : List DictEntry} {nx : Nat} {td tr : Tok} (hb : bodyB? w.params = some body) (hcs : lawScope? w.params = some cs) (B : Below callerA h₀ [] h₀) (K : (KF w.params).In h₀) (T : Top Mine.V LS mean mg mb h₀)
    (m1 : (r, ({ cls := .type "tuple", data := .seq #[.ref x, .int 2 td, .int 1 tr] } : Obj)) ∈ news) (m2 : (x, instObj 340 dx) ∈ news) (m3 : (dx, dictOf ex nx) ∈ news) (g1 : getL "sap_request" ex = some none) (g2 : getL "serviceElement" ex = some (some .none)) : Good w cs nm fa cd h₀ L body news (.ref r) := fun m s tail Q hr F N hs hq =>
  fault2 hb hcs B F K T (has1 hr) (List.forall_mem_cons.mpr ⟨N _ (hs _ m1), List.forall_mem_cons.mpr ⟨N _ (hs _ m2), List.forall_mem_cons.mpr ⟨N _ (hs _ m3), N⟩⟩⟩) g1 g2 fun h' tk' F' N' => hq h' tk' (by rw [wr_eq (has1 hr)] at F'; exact F') N'
theorem good3 {r x dx : Addr} {ex : List DictEntry} {nx : Nat} {td tr : Tok} (hb : bodyB? w.params = some body) (hcs : lawScope? w.params = some cs) (B : Below callerA h₀ [] h₀) (K : (KF w.params).In h₀) (T : Top Mine.V LS mean mg mb h₀)
    (m1 : (r, ({ cls := .type "tuple", data := .seq #[.ref x, .int 3 td, .int 1 tr] } : Obj)) ∈ news) (m2 : (x, instObj 340 dx) ∈ news) (m3 : (dx, dictOf ex nx) ∈ news) (g1 : getL "sap_response" ex = some none) (g2 : getL "serviceElement" ex = some (some .none)) : Good w cs nm fa cd h₀ L body news (.ref r) := fun m s tail Q hr F N hs hq =>
  fault3 hb hcs B F K T (has1 hr) (List.forall_mem_cons.mpr ⟨N _ (hs _ m1), List.forall_mem_cons.mpr ⟨N _ (hs _ m2), List.forall_mem_cons.mpr ⟨N _ (hs _ m3), N⟩⟩⟩) g1 g2 fun h' tk' F' N' => hq h' tk' (by rw [wr_eq (has1 hr)] at F'; exact F') N'
theorem good4 {r x dx : Addr} {ex : List DictEntry} {nx : Nat} {td tr : Tok} (hb : bodyB? w.params = some body) (hcs : lawScope? w.params = some cs) (B : Below callerA h₀ [] h₀) (K : (KF w.params).In h₀) (T : Top Mine.V LS mean mg mb h₀)
    (m1 : (r, ({ cls := .type "tuple", data := .seq #[.ref x, .int 0 td, .int 1 tr] } : Obj)) ∈ news) (m2 : (x, instObj 390 dx) ∈ news) (m3 : (dx, dictOf ex nx) ∈ news) (g1 : getL "request" ex = some none) (g2 : getL "elementService" ex = some (some .none)) : Good w cs nm fa cd h₀ L body news (.ref r) := fun m s tail Q hr F N hs hq =>
  fault4 hb hcs B F K T (has1 hr) (List.forall_mem_cons.mpr ⟨N _ (hs _ m1), List.forall_mem_cons.mpr ⟨N _ (hs _ m2), List.forall_mem_cons.mpr ⟨N _ (hs _ m3), N⟩⟩⟩) g1 g2 fun h' tk' F' N' => hq h' tk' (by rw [wr_eq (has1 hr)] at F'; exact F') N'
theorem good5 {r x dx : Addr} {ex : List DictEntry} {nx : Nat} {td tr : Tok} (hb : bodyB? w.params = some body) (hcs : lawScope? w.params = some cs) (B : Below callerA h₀ [] h₀) (K : (KF w.params).In h₀) (T : Top Mine.V LS mean mg mb h₀)
    (m1 : (r, ({ cls := .type "tuple", data := .seq #[.ref x, .int 1 td, .int 1 tr] } : Obj)) ∈ news) (m2 : (x, instObj 390 dx) ∈ news) (m3 : (dx, dictOf ex nx) ∈ news) (g1 : getL "response" ex = some none) (g2 : getL "elementService" ex = some (some .none)) : Good w cs nm fa cd h₀ L body news (.ref r) := fun m s tail Q hr F N hs hq =>
  fault5 hb hcs B F K T (has1 hr) (List.forall_mem_cons.mpr ⟨N _ (hs _ m1), List.forall_mem_cons.mpr ⟨N _ (hs _ m2), List.forall_mem_cons.mpr ⟨N _ (hs _ m3), N⟩⟩⟩) g1 g2 fun h' tk' F' N' => hq h' tk' (by rw [wr_eq (has1 hr)] at F'; exact F') N'
theorem good6 {r x dx : Addr} {ex : List DictEntry} {nx : Nat} {td tr : Tok} (hb : bodyB? w.params = some body) (hcs : lawScope? w.params = some cs) (B : Below callerA h₀ [] h₀) (K : (KF w.params).In h₀) (T : Top Mine.V LS mean mg mb h₀)
    (m1 : (r, ({ cls := .type "tuple", data := .seq #[.ref x, .int 4 td, .int 2 tr] } : Obj)) ∈ news) (m2 : (x, instObj 254 dx) ∈ news) (m3 : (dx, dictOf ex nx) ∈ news) (g1 : getL "confirmation" ex = some none) : Good w cs nm fa cd h₀ L body news (.ref r) := fun m s tail Q hr F N hs hq =>
  fault6 hb hcs B F K T (has1 hr) (List.forall_mem_cons.mpr ⟨N _ (hs _ m1), List.forall_mem_cons.mpr ⟨N _ (hs _ m2), List.forall_mem_cons.mpr ⟨N _ (hs _ m3), N⟩⟩⟩) g1 fun h' tk' F' N' => hq h' tk' (by rw [wr_eq (has1 hr)] at F'; exact F') N'
theorem good7 {r x dx : Addr} {ex : List DictEntry} {nx : Nat} {td tr : Tok} (hb : bodyB? w.params = some body) (hcs : lawScope? w.params = some cs) (B : Below callerA h₀ [] h₀) (K : (KF w.params).In h₀) (T : Top Mine.V LS mean mg mb h₀)
    (m1 : (r, ({ cls := .type "tuple", data := .seq #[.ref x, .int 5 td, .int 2 tr] } : Obj)) ∈ news) (m2 : (x, instObj 290 dx) ∈ news) (m3 : (dx, dictOf ex nx) ∈ news) (g1 : getL "indication" ex = some none) : Good w cs nm fa cd h₀ L body news (.ref r) := fun m s tail Q hr F N hs hq =>
  fault7 hb hcs B F K T (has1 hr) (List.forall_mem_cons.mpr ⟨N _ (hs _ m1), List.forall_mem_cons.mpr ⟨N _ (hs _ m2), List.forall_mem_cons.mpr ⟨N _ (hs _ m3), N⟩⟩⟩) g1 fun h' tk' F' N' => hq h' tk' (by rw [wr_eq (has1 hr)] at F'; exact F') N'
theorem good8 {r x dx : Addr} {ex : List DictEntry} {nx : Nat} {td tr : Tok} (hb : bodyB? w.params = some body) (hcs : lawScope? w.params = some cs) (B : Below callerA h₀ [] h₀) (K : (KF w.params).In h₀) (T : Top Mine.V LS mean mg mb h₀)
    (m1 : (r, ({ cls := .type "tuple", data := .seq #[.ref x, .int 6 td, .int 2 tr] } : Obj)) ∈ news) (m2 : (x, instObj 340 dx) ∈ news) (m3 : (dx, dictOf ex nx) ∈ news) (g1 : getL "sap_indication" ex = some none) : Good w cs nm fa cd h₀ L body news (.ref r) := fun m s tail Q hr F N hs hq =>
  fault8 hb hcs B F K T (has1 hr) (List.forall_mem_cons.mpr ⟨N _ (hs _ m1), List.forall_mem_cons.mpr ⟨N _ (hs _ m2), List.forall_mem_cons.mpr ⟨N _ (hs _ m3), N⟩⟩⟩) g1 fun h' tk' F' N' => hq h' tk' (by rw [wr_eq (has1 hr)] at F'; exact F') N'
theorem good9 {r x dx : Addr} {ex : List DictEntry} {nx : Nat} {td tr : Tok} (hb : bodyB? w.params = some body) (hcs : lawScope? w.params = some cs) (B : Below callerA h₀ [] h₀) (K : (KF w.params).In h₀) (T : Top Mine.V LS mean mg mb h₀)
    (m1 : (r, ({ cls := .type "tuple", data := .seq #[.ref x, .int 7 td, .int 2 tr] } : Obj)) ∈ news) (m2 : (x, instObj 340 dx) ∈ news) (m3 : (dx, dictOf ex nx) ∈ news) (g1 : getL "sap_confirmation" ex = some none) : Good w cs nm fa cd h₀ L body news (.ref r) := fun m s tail Q hr F N hs hq =>
  fault9 hb hcs B F K T (has1 hr) (List.forall_mem_cons.mpr ⟨N _ (hs _ m1), List.forall_mem_cons.mpr ⟨N _ (hs _ m2), List.forall_mem_cons.mpr ⟨N _ (hs _ m3), N⟩⟩⟩) g1 fun h' tk' F' N' => hq h' tk' (by rw [wr_eq (has1 hr)] at F'; exact F') N'
theorem good10 {r x dx : Addr} {ex : List DictEntry} {nx : Nat} {td tr : Tok} (hb : bodyB? w.params = some body) (hcs : lawScope? w.params = some cs) (B : Below callerA h₀ [] h₀) (K : (KF w.params).In h₀) (T : Top Mine.V LS mean mg mb h₀)
    (m1 : (r, ({ cls := .type "tuple", data := .seq #[.ref x, .int 5 td, .int 2 tr] } : Obj)) ∈ news) (m2 : (x, instObj 390 dx) ∈ news) (m3 : (dx, dictOf ex nx) ∈ news) (g1 : getL "indication" ex = some none) : Good w cs nm fa cd h₀ L body news (.ref r) := fun m s tail Q hr F N hs hq =>
  fault10 hb hcs B F K T (has1 hr) (List.forall_mem_cons.mpr ⟨N _ (hs _ m1), List.forall_mem_cons.mpr ⟨N _ (hs _ m2), List.forall_mem_cons.mpr ⟨N _ (hs _ m3), N⟩⟩⟩) g1 fun h' tk' F' N' => hq h' tk' (by rw [wr_eq (has1 hr)] at F'; exact F') N'
theorem good11 {r x dx : Addr} {ex : List DictEntry} {nx : Nat} {td tr : Tok} (hb : bodyB? w.params = some body) (hcs : lawScope? w.params = some cs) (B : Below callerA h₀ [] h₀) (K : (KF w.params).In h₀) (T : Top Mine.V LS mean mg mb h₀)
    (m1 : (r, ({ cls := .type "tuple", data := .seq #[.ref x, .int 4 td, .int 2 tr] } : Obj)) ∈ news) (m2 : (x, instObj 390 dx) ∈ news) (m3 : (dx, dictOf ex nx) ∈ news) (g1 : getL "confirmation" ex = some none) : Good w cs nm fa cd h₀ L body news (.ref r) := fun m s tail Q hr F N hs hq =>
  fault11 hb hcs B F K T (has1 hr) (List.forall_mem_cons.mpr ⟨N _ (hs _ m1), List.forall_mem_cons.mpr ⟨N _ (hs _ m2), List.forall_mem_cons.mpr ⟨N _ (hs _ m3), N⟩⟩⟩) g1 fun h' tk' F' N' => hq h' tk' (by rw [wr_eq (has1 hr)] at F'; exact F') N'
theorem restB {s : Shared} {m₀ : Str → Option Value} {I : Addr} {lp : Addr × Obj} {Q : Flow → Shared → Prop} (hl : lp ∈ news) (hI : ∀ p ∈ news, p.1 < I)
    (hq : ∀ m' h' tk', (∀ y : Str, y ≠ "row" → m' y = m₀ y) → Fr h₀ L h' m' → News h₀ L h' news → Q .next { s with heap := h', toks := tk' }) :
    ∀ (vs : List Value) (m : Str → Option Value), (∀ v ∈ vs, Good w cs nm fa cd h₀ L body news v) → (∀ y : Str, y ≠ "row" → m y = m₀ y) →
      ListRest PySem.Challenge.rw_bj5003_01.row.prog w (callerA.deeper (envOf nm cs L fa cd)) (fun _ _ => False) h₀ (envOf nm cs L fa cd) "row" body Q s I lp vs m news := by
  intro vs
  induction vs with
  | nil => intro m _ ha; exact ListRest.zero fun h tk F N => hq m h tk ha F N
  | cons v r ih =>
    intro m hg ha
    refine ListRest.succ fun it h tk hit F N => ?_
    refine hg v (.head _) _ { s with heap := h, toks := tk } _ _ (if_pos rfl) F N (fun p hp => .tail _ hp) fun h' tk' F' N' => ?_
    refine ⟨h', tk', _, news, rfl, F', N', fun p hp => Nat.ne_of_lt (hI p hp), hl, ih _ (fun v hv => hg v (.tail _ hv)) fun y hy => ?_⟩
    exact (if_neg hy).trans (ha y hy)
end
def stmtB? (P : Params) : Option Stmt := lawStmt? P 5
def forB? (P : Params) : Option Stmt := lawStmt? P 6
theorem gB1 {mean : ExcName → Option Value} {mg mb : Str → Option Value} {w : World} {cs : Scope} {nm : Str} {fa : Addr} {cd : Value}
    {h₀ : Heap} {L : Addr} {m : Str → Option Value} {s : Shared} {tail : List (Addr × Obj)} {Q : Flow → Shared → Prop} {st : Stmt} {c v p e : Addr}
    (hst : lawStmt? w.params 5 = some st) (hcs : lawScope? w.params = some cs)
    (B : Below callerA h₀ [] h₀) (F : Fr h₀ L s.heap m) (K : (KF w.params).In h₀) (T : Top Mine.V LS mean mg mb h₀)
    (hm : Has m [("client", .ref c), ("server", .ref v), ("point", .ref p), ("element", .ref e)]) (N : News h₀ L s.heap tail)
    (hq : ∀ (tb t0 t1 t2 t3 t4 t5 t6 t7 t8 t9 t10 t11 : Addr) (a0 b0 a1 b1 a2 b2 a3 b3 a4 b4 a5 b5 a6 b6 a7 b7 a8 b8 a9 b9 a10 b10 a11 b11 : Tok) h' tk', Fr h₀ L h' (wr (("table", .ref tb) :: [("client", .ref c), ("server", .ref v), ("point", .ref p), ("element", .ref e)]) m) → News h₀ L h' ((tb, listOf (List.toArray [.ref t0, .ref t1, .ref t2, .ref t3, .ref t4, .ref t5, .ref t6, .ref t7, .ref t8, .ref t9, .ref t10, .ref t11]) 0) :: (t0, ({ cls := .type "tuple", data := .seq #[.ref c, .int 0 a0, .int 1 b0] } : Obj)) :: (t1, ({ cls := .type "tuple", data := .seq #[.ref v, .int 1 a1, .int 1 b1] } : Obj)) :: (t2, ({ cls := .type "tuple", data := .seq #[.ref p, .int 2 a2, .int 1 b2] } : Obj)) :: (t3, ({ cls := .type "tuple", data := .seq #[.ref p, .int 3 a3, .int 1 b3] } : Obj)) :: (t4, ({ cls := .type "tuple", data := .seq #[.ref e, .int 0 a4, .int 1 b4] } : Obj)) :: (t5, ({ cls := .type "tuple", data := .seq #[.ref e, .int 1 a5, .int 1 b5] } : Obj)) :: (t6, ({ cls := .type "tuple", data := .seq #[.ref c, .int 4 a6, .int 2 b6] } : Obj)) :: (t7, ({ cls := .type "tuple", data := .seq #[.ref v, .int 5 a7, .int 2 b7] } : Obj)) :: (t8, ({ cls := .type "tuple", data := .seq #[.ref p, .int 6 a8, .int 2 b8] } : Obj)) :: (t9, ({ cls := .type "tuple", data := .seq #[.ref p, .int 7 a9, .int 2 b9] } : Obj)) :: (t10, ({ cls := .type "tuple", data := .seq #[.ref e, .int 5 a10, .int 2 b10] } : Obj)) :: (t11, ({ cls := .type "tuple", data := .seq #[.ref e, .int 4 a11, .int 2 b11] } : Obj)) :: tail) → Q .next { s with heap := h', toks := tk' }) :
    wpAny (model PySem.Challenge.rw_bj5003_01.row.prog w) (callerA.deeper (envOf nm cs L fa cd)) (exec st (envOf nm cs L fa cd)) Q (fun _ _ => False) s := by
  first
  | (
      injection hst with hst
      subst hst
      injection hcs with hcs
      subst hcs
      dsimp only
      replace F := fr_names F hm
      dsimp only [wr] at F
      revert K; k_fill; intro K
      w_on
      k_steps
      refine' hq _ _ _ _ _ _ _ _ _ _ _ _ _ _ _ _ _ _ _ _ _ _ _ _ _ _ _ _ _ _ _ _ _ _ _ _ _ _ _ ?kF ?kN
      case kF => k_asm
      case kN => ktr_rel
    )
theorem gB2 {mean : ExcName → Option Value} {mg mb : Str → Option Value} {w : World} {cs : Scope} {nm : Str} {fa : Addr} {cd : Value}
    {h₀ : Heap} {L : Addr} {m : Str → Option Value} {s : Shared} {news : List (Addr × Obj)} {Q : Flow → Shared → Prop} {st : Stmt} {body : List Stmt} {tb : Addr} {vs : List Value} {k : Nat}
    (hst : lawStmt? w.params 6 = some st) (hb : bodyB? w.params = some body) (hcs : lawScope? w.params = some cs)
    (B : Below callerA h₀ [] h₀) (F : Fr h₀ L s.heap m) (K : (KF w.params).In h₀) (T : Top Mine.V LS mean mg mb h₀)
    (hm : Has m [("table", .ref tb)]) (N : News h₀ L s.heap news) (mt : (tb, listOf (List.toArray vs) k) ∈ news) (hg : ∀ v ∈ vs, Good w cs nm fa cd h₀ L body news v)
    (hq : ∀ m' h' tk', (∀ y : Str, y ≠ "row" → m' y = m y) → Fr h₀ L h' m' → News h₀ L h' news → Q .next { s with heap := h', toks := tk' }) :
    wpAny (model PySem.Challenge.rw_bj5003_01.row.prog w) (callerA.deeper (envOf nm cs L fa cd)) (exec st (envOf nm cs L fa cd)) Q (fun _ _ => False) s := by
  first
  | (
      injection hst with hst
      subst hst
      injection hb with hb
      subst hb
      injection hcs with hcs
      subst hcs
      dsimp only at hg ⊢
      rw [← wr_eq hm] at F
      dsimp only [wr] at F
      revert K; k_fill; intro K
      w_on
      k_here
      with_unfolding_all refine' For_invVF F ?k1 ?k2 ?_
      case k1 => exact rfl
      case k2 => exact rfl
      k_steps
      exact iter_listUnr (vs := vs) (lo := listOf (List.toArray vs) k) rfl F N mt rfl rfl fun I hI => restB mt hI (fun m' h' tk' ha F' N' => hq m' h' tk' (fun y hy => (ha y hy).trans (congrFun (wr_eq hm) y)) F' N') vs _ hg fun _ _ => rfl
    )
end Mine
end
section
open PySem PySem.W PyProof.Rows PySem.Calls
set_option Elab.async false
set_option linter.unusedVariables false
set_option maxRecDepth 100000
set_option maxHeartbeats 4000000
namespace Mine
local macro_rules | `(tactic| k_room) => `(tactic| ktr_room)
theorem bad0 {mean : ExcName → Option Value} {mg mb : Str → Option Value} {w : World} {cs : Scope} {nm : Str} {fa : Addr} {cd : Value}
    {h₀ : Heap} {L : Addr} {m : Str → Option Value} {s : Shared} {tail : List (Addr × Obj)} {Q : Value → Shared → Prop} {a da b db : Addr} {ea eb : List DictEntry} {na nb : Nat}
    (hcs : lawScope? w.params = some cs)
    (B : Below callerA h₀ [] h₀) (F : Fr h₀ L s.heap m) (K : (KF w.params).In h₀) (T : Top Mine.V LS mean mg mb h₀)
    (N : News h₀ L s.heap ((a, instObj 254 da) :: (da, dictOf ea na) :: (b, instObj 254 db) :: (db, dictOf eb nb) :: tail))
    (hq : ∀ h' tk', Fr h₀ L h' m → News h₀ L h' tail → Q (.bool true) { s with heap := h', toks := tk' }) :
    wpAny (model PySem.Challenge.rw_bj5003_01.row.prog w) (callerA.deeper (envOf nm cs L fa cd)) (call (.ref 1227) [.ref a, .ref b]) Q (fun _ _ => False) s := by
  first
  | (
      injection hcs with hcs
      subst hcs
      dsimp only
      revert K; k_fill; intro K
      w_on
      k_steps
      refine hq _ _ (by k_asm) ?_
      intro p hp
      refine newsAt (by k_asm) ?_
      repeat (first | exact hp | refine List.Mem.tail _ ?_)
    )
end Mine
end
section
open PySem PySem.W PyProof.Rows PySem.Calls
set_option Elab.async false
set_option linter.unusedVariables false
set_option maxRecDepth 100000
set_option maxHeartbeats 4000000
namespace Mine
local macro_rules | `(tactic| k_room) => `(tactic| ktr_room)
theorem bad1 {mean : ExcName → Option Value} {mg mb : Str → Option Value} {w : World} {cs : Scope} {nm : Str} {fa : Addr} {cd : Value}
    {h₀ : Heap} {L : Addr} {m : Str → Option Value} {s : Shared} {tail : List (Addr × Obj)} {Q : Value → Shared → Prop} {a da b db : Addr} {ea eb : List DictEntry} {na nb : Nat}
    (hcs : lawScope? w.params = some cs)
    (B : Below callerA h₀ [] h₀) (F : Fr h₀ L s.heap m) (K : (KF w.params).In h₀) (T : Top Mine.V LS mean mg mb h₀)
    (N : News h₀ L s.heap ((a, instObj 290 da) :: (da, dictOf ea na) :: (b, instObj 254 db) :: (db, dictOf eb nb) :: tail))
    (hq : ∀ h' tk', Fr h₀ L h' m → News h₀ L h' tail → Q (.bool true) { s with heap := h', toks := tk' }) :
    wpAny (model PySem.Challenge.rw_bj5003_01.row.prog w) (callerA.deeper (envOf nm cs L fa cd)) (call (.ref 1227) [.ref a, .ref b]) Q (fun _ _ => False) s := by
  first
  | (
      injection hcs with hcs
      subst hcs
      dsimp only
      revert K; k_fill; intro K
      w_on
      k_steps
      refine hq _ _ (by k_asm) ?_
      intro p hp
      refine newsAt (by k_asm) ?_
      repeat (first | exact hp | refine List.Mem.tail _ ?_)
    )
end Mine
end
section
open PySem PySem.W PyProof.Rows PySem.Calls
set_option Elab.async false
set_option linter.unusedVariables false
set_option maxRecDepth 100000
set_option maxHeartbeats 4000000
namespace Mine
local macro_rules | `(tactic| k_room) => `(tactic| ktr_room)
theorem bad2 {mean : ExcName → Option Value} {mg mb : Str → Option Value} {w : World} {cs : Scope} {nm : Str} {fa : Addr} {cd : Value}
    {h₀ : Heap} {L : Addr} {m : Str → Option Value} {s : Shared} {tail : List (Addr × Obj)} {Q : Value → Shared → Prop} {a da b db : Addr} {ea eb : List DictEntry} {na nb : Nat}
    (hcs : lawScope? w.params = some cs)
    (B : Below callerA h₀ [] h₀) (F : Fr h₀ L s.heap m) (K : (KF w.params).In h₀) (T : Top Mine.V LS mean mg mb h₀)
    (N : News h₀ L s.heap ((a, instObj 340 da) :: (da, dictOf ea na) :: (b, instObj 390 db) :: (db, dictOf eb nb) :: tail))
    (hq : ∀ h' tk', Fr h₀ L h' m → News h₀ L h' tail → Q (.bool true) { s with heap := h', toks := tk' }) :
    wpAny (model PySem.Challenge.rw_bj5003_01.row.prog w) (callerA.deeper (envOf nm cs L fa cd)) (call (.ref 1227) [.ref a, .ref b]) Q (fun _ _ => False) s := by
  first
  | (
      injection hcs with hcs
      subst hcs
      dsimp only
      revert K; k_fill; intro K
      w_on
      k_steps
      refine hq _ _ (by k_asm) ?_
      intro p hp
      refine newsAt (by k_asm) ?_
      repeat (first | exact hp | refine List.Mem.tail _ ?_)
    )
end Mine
end
section
open PySem PySem.W PyProof.Rows PySem.Calls
set_option Elab.async false
set_option linter.unusedVariables false
set_option maxRecDepth 100000
set_option maxHeartbeats 4000000
namespace Mine
local macro_rules | `(tactic| k_room) => `(tactic| ktr_room)
theorem bad3 {mean : ExcName → Option Value} {mg mb : Str → Option Value} {w : World} {cs : Scope} {nm : Str} {fa : Addr} {cd : Value}
    {h₀ : Heap} {L : Addr} {m : Str → Option Value} {s : Shared} {tail : List (Addr × Obj)} {Q : Value → Shared → Prop} {a da b db : Addr} {ea eb : List DictEntry} {na nb : Nat}
    (hcs : lawScope? w.params = some cs)
    (B : Below callerA h₀ [] h₀) (F : Fr h₀ L s.heap m) (K : (KF w.params).In h₀) (T : Top Mine.V LS mean mg mb h₀)
    (N : News h₀ L s.heap ((a, instObj 390 da) :: (da, dictOf ea na) :: (b, instObj 290 db) :: (db, dictOf eb nb) :: tail))
    (hq : ∀ h' tk', Fr h₀ L h' m → News h₀ L h' tail → Q (.bool true) { s with heap := h', toks := tk' }) :
    wpAny (model PySem.Challenge.rw_bj5003_01.row.prog w) (callerA.deeper (envOf nm cs L fa cd)) (call (.ref 1227) [.ref a, .ref b]) Q (fun _ _ => False) s := by
  first
  | (
      injection hcs with hcs
      subst hcs
      dsimp only
      revert K; k_fill; intro K
      w_on
      k_steps
      refine hq _ _ (by k_asm) ?_
      intro p hp
      refine newsAt (by k_asm) ?_
      repeat (first | exact hp | refine List.Mem.tail _ ?_)
    )
end Mine
end
section
open PySem PySem.W PyProof.Rows PySem.Calls
set_option Elab.async false
set_option linter.unusedVariables false
set_option maxRecDepth 100000
set_option maxHeartbeats 4000000
namespace Mine
local macro_rules | `(tactic| k_room) => `(tactic| ktr_room)
theorem badU0 {mean : ExcName → Option Value} {mg mb : Str → Option Value} {w : World} {cs : Scope} {nm : Str} {fa : Addr} {cd : Value}
    {h₀ : Heap} {L : Addr} {m : Str → Option Value} {s : Shared} {news : List (Addr × Obj)} {Q : Value → Shared → Prop} {a da b db : Addr} {ea eb : List DictEntry} {na nb : Nat}
    (hcs : lawScope? w.params = some cs)
    (B : Below callerA h₀ [] h₀) (F : Fr h₀ L s.heap m) (K : (KF w.params).In h₀) (T : Top Mine.V LS mean mg mb h₀)
    (N : News h₀ L s.heap news) (m1 : (a, instObj 254 da) ∈ news) (m2 : (da, dictOf ea na) ∈ news) (m3 : (b, instObj 254 db) ∈ news) (m4 : (db, dictOf eb nb) ∈ news)
    (hq : ∀ h' tk', Fr h₀ L h' m → News h₀ L h' news → Q (.bool true) { s with heap := h', toks := tk' }) :
    wpAny (model PySem.Challenge.rw_bj5003_01.row.prog w) (callerA.deeper (envOf nm cs L fa cd)) (call (.ref 1227) [.ref a, .ref b]) Q (fun _ _ => False) s :=
  bad0 hcs B F K T (List.forall_mem_cons.mpr ⟨N _ m1, List.forall_mem_cons.mpr ⟨N _ m2, List.forall_mem_cons.mpr ⟨N _ m3, List.forall_mem_cons.mpr ⟨N _ m4, N⟩⟩⟩⟩) hq
theorem badU1 {mean : ExcName → Option Value} {mg mb : Str → Option Value} {w : World} {cs : Scope} {nm : Str} {fa : Addr} {cd : Value}
    {h₀ : Heap} {L : Addr} {m : Str → Option Value} {s : Shared} {news : List (Addr × Obj)} {Q : Value → Shared → Prop} {a da b db : Addr} {ea eb : List DictEntry} {na nb : Nat}
    (hcs : lawScope? w.params = some cs)
    (B : Below callerA h₀ [] h₀) (F : Fr h₀ L s.heap m) (K : (KF w.params).In h₀) (T : Top Mine.V LS mean mg mb h₀)
    (N : News h₀ L s.heap news) (m1 : (a, instObj 290 da) ∈ news) (m2 : (da, dictOf ea na) ∈ news) (m3 : (b, instObj 254 db) ∈ news) (m4 : (db, dictOf eb nb) ∈ news)
    (hq : ∀ h' tk', Fr h₀ L h' m → News h₀ L h' news → Q (.bool true) { s with heap := h', toks := tk' }) :
    wpAny (model PySem.Challenge.rw_bj5003_01.row.prog w) (callerA.deeper (envOf nm cs L fa cd)) (call (.ref 1227) [.ref a, .ref b]) Q (fun _ _ => False) s :=
  bad1 hcs B F K T (List.forall_mem_cons.mpr ⟨N _ m1, List.forall_mem_cons.mpr ⟨N _ m2, List.forall_mem_cons.mpr ⟨N _ m3, List.forall_mem_cons.mpr ⟨N _ m4, N⟩⟩⟩⟩) hq
theorem badU2 {mean : ExcName → Option Value} {mg mb : Str → Option Value} {w : World} {cs : Scope} {nm : Str} {fa : Addr} {cd : Value}
    {h₀ : Heap} {L : Addr} {m : Str → Option Value} {s : Shared} {news : List (Addr × Obj)} {Q : Value → Shared → Prop} {a da b db : Addr} {ea eb : List DictEntry} {na nb : Nat}
    (hcs : lawScope? w.params = some cs)
    (B : Below callerA h₀ [] h₀) (F : Fr h₀ L s.heap m) (K : (KF w.params).In h₀) (T : Top Mine.V LS mean mg mb h₀)
    (N : News h₀ L s.heap news) (m1 : (a, instObj 340 da) ∈ news) (m2 : (da, dictOf ea na) ∈ news) (m3 : (b, instObj 390 db) ∈ news) (m4 : (db, dictOf eb nb) ∈ news)
    (hq : ∀ h' tk', Fr h₀ L h' m → News h₀ L h' news → Q (.bool true) { s with heap := h', toks := tk' }) :
    wpAny (model PySem.Challenge.rw_bj5003_01.row.prog w) (callerA.deeper (envOf nm cs L fa cd)) (call (.ref 1227) [.ref a, .ref b]) Q (fun _ _ => False) s :=
  bad2 hcs B F K T (List.forall_mem_cons.mpr ⟨N _ m1, List.forall_mem_cons.mpr ⟨N _ m2, List.forall_mem_cons.mpr ⟨N _ m3, List.forall_mem_cons.mpr ⟨N _ m4, N⟩⟩⟩⟩) hq
theorem badU3 {mean : ExcName → Option Value} {mg mb : Str → Option Value} {w : World} {cs : Scope} {nm : Str} {fa : Addr} {cd : Value}
    {h₀ : Heap} {L : Addr} {m : Str → Option Value} {s : Shared} {news : List (Addr × Obj)} {Q : Value → Shared → Prop} {a da b db : Addr} {ea eb : List DictEntry} {na nb : Nat}
    (hcs : lawScope? w.params = some cs)
    (B : Below callerA h₀ [] h₀) (F : Fr h₀ L s.heap m) (K : (KF w.params).In h₀) (T : Top Mine.V LS mean mg mb h₀)
    (N : News h₀ L s.heap news) (m1 : (a, instObj 390 da) ∈ news) (m2 : (da, dictOf ea na) ∈ news) (m3 : (b, instObj 290 db) ∈ news) (m4 : (db, dictOf eb nb) ∈ news)
    (hq : ∀ h' tk', Fr h₀ L h' m → News h₀ L h' news → Q (.bool true) { s with heap := h', toks := tk' }) :
    wpAny (model PySem.Challenge.rw_bj5003_01.row.prog w) (callerA.deeper (envOf nm cs L fa cd)) (call (.ref 1227) [.ref a, .ref b]) Q (fun _ _ => False) s :=
  bad3 hcs B F K T (List.forall_mem_cons.mpr ⟨N _ m1, List.forall_mem_cons.mpr ⟨N _ m2, List.forall_mem_cons.mpr ⟨N _ m3, List.forall_mem_cons.mpr ⟨N _ m4, N⟩⟩⟩⟩) hq
local macro_rules | `(tactic| walk_at "call ref") => `(tactic| (k_here; k_dflt (refine' badU3 ?k0 ?k1 ?k2 ?k3 ?k4 ?k6 ?m1 ?m2 ?m3 ?m4 ?_; (case k0 => exact rfl); (case k1 => k_asm); (case k2 => k_asm); (case k3 => k_asm); (case k4 => k_asm); (case k6 => k_asm); (case m1 => k_mem); (case m2 => k_mem); (case m3 => k_mem); (case m4 => k_mem); k_whole; intro h' tk' F' N')))
local macro_rules | `(tactic| walk_at "call ref") => `(tactic| (k_here; k_dflt (refine' badU2 ?k0 ?k1 ?k2 ?k3 ?k4 ?k6 ?m1 ?m2 ?m3 ?m4 ?_; (case k0 => exact rfl); (case k1 => k_asm); (case k2 => k_asm); (case k3 => k_asm); (case k4 => k_asm); (case k6 => k_asm); (case m1 => k_mem); (case m2 => k_mem); (case m3 => k_mem); (case m4 => k_mem); k_whole; intro h' tk' F' N')))
local macro_rules | `(tactic| walk_at "call ref") => `(tactic| (k_here; k_dflt (refine' badU1 ?k0 ?k1 ?k2 ?k3 ?k4 ?k6 ?m1 ?m2 ?m3 ?m4 ?_; (case k0 => exact rfl); (case k1 => k_asm); (case k2 => k_asm); (case k3 => k_asm); (case k4 => k_asm); (case k6 => k_asm); (case m1 => k_mem); (case m2 => k_mem); (case m3 => k_mem); (case m4 => k_mem); k_whole; intro h' tk' F' N')))
local macro_rules | `(tactic| walk_at "call ref") => `(tactic| (k_here; k_dflt (refine' badU0 ?k0 ?k1 ?k2 ?k3 ?k4 ?k6 ?m1 ?m2 ?m3 ?m4 ?_; (case k0 => exact rfl); (case k1 => k_asm); (case k2 => k_asm); (case k3 => k_asm); (case k4 => k_asm); (case k6 => k_asm); (case m1 => k_mem); (case m2 => k_mem); (case m3 => k_mem); (case m4 => k_mem); k_whole; intro h' tk' F' N')))
theorem gC {mean : ExcName → Option Value} {mg mb : Str → Option Value} {w : World} {cs : Scope} {nm : Str} {fa : Addr} {cd : Value}
    {h₀ : Heap} {L : Addr} {m : Str → Option Value} {s : Shared} {tail : List (Addr × Obj)} {Q : Flow → Shared → Prop} {xs : List Stmt} {p dp e de : Addr} {ep ee : List DictEntry} {n1 n2 : Nat}
    (hb : segC? w.params = some xs) (hcs : lawScope? w.params = some cs)
    (B : Below callerA h₀ [] h₀) (F : Fr h₀ L s.heap m) (K : (KF w.params).In h₀) (T : Top Mine.V LS mean mg mb h₀)
    (hm : Has m [("point", .ref p), ("element", .ref e)])
    (N : News h₀ L s.heap ((p, instObj 340 dp) :: (dp, dictOf ep n1) :: (e, instObj 390 de) :: (de, dictOf ee n2) :: tail))
    (hq : ∀ h' tk', Fr h₀ L h' (wr [("point", .ref p), ("element", .ref e)] m) → News h₀ L h' tail → Q .next { s with heap := h', toks := tk' }) :
    wpAny (model PySem.Challenge.rw_bj5003_01.row.prog w) (callerA.deeper (envOf nm cs L fa cd)) (execs xs (envOf nm cs L fa cd)) Q (fun _ _ => False) s := by
  first
  | (
      injection hb with hb
      subst hb
      injection hcs with hcs
      subst hcs
      dsimp only
      replace F := fr_names F hm
      dsimp only [wr] at F
      revert K; k_fill; intro K
      w_on
      k_steps
      refine hq _ _ (by k_asm) ?_
      intro p hp
      refine newsAt (by k_asm) ?_
      repeat (first | exact hp | refine List.Mem.tail _ ?_)
    )
end Mine
end
section
open PySem PySem.W PyProof.Rows PySem.Calls
set_option Elab.async false
set_option linter.unusedVariables false
set_option maxRecDepth 100000
set_option maxHeartbeats 4000000
namespace Mine
local macro_rules | `(tactic| k_room) => `(tactic| ktr_room)
theorem gD {mean : ExcName → Option Value} {mg mb : Str → Option Value} {w : World} {cs : Scope} {nm : Str} {fa : Addr} {cd : Value}
    {h₀ : Heap} {L : Addr} {m : Str → Option Value} {s : Shared} {tail : List (Addr × Obj)} {Q : Flow → Shared → Prop} {xs : List Stmt} {c : Addr}
    (hb : segD? w.params = some xs) (hcs : lawScope? w.params = some cs)
    (B : Below callerA h₀ [] h₀) (F : Fr h₀ L s.heap m) (K : (KF w.params).In h₀) (T : Top Mine.V LS mean mg mb h₀)
    (hm : Has m [("client", .ref c)])
    (N : News h₀ L s.heap tail)
    (hq : ∀ h' tk', Fr h₀ L h' (wr [("client", .ref c)] m) → News h₀ L h' tail → Q .next { s with heap := h', toks := tk' }) :
    wpAny (model PySem.Challenge.rw_bj5003_01.row.prog w) (callerA.deeper (envOf nm cs L fa cd)) (execs xs (envOf nm cs L fa cd)) Q (fun _ _ => False) s := by
  first
  | (
      injection hb with hb
      subst hb
      injection hcs with hcs
      subst hcs
      dsimp only
      replace F := fr_names F hm
      dsimp only [wr] at F
      revert K; k_fill; intro K
      w_on
      k_steps
      refine hq _ _ (by k_asm) ?_
      intro p hp
      refine newsAt (by k_asm) ?_
      repeat (first | exact hp | refine List.Mem.tail _ ?_)
    )
end Mine
end
section
open PySem PySem.W PyProof.Rows PySem.Calls
open PySem.Sem (wp)
set_option Elab.async false
set_option linter.unusedVariables false
set_option maxRecDepth 100000
set_option maxHeartbeats 4000000
namespace Mine
theorem call_fullN {prog : Program} {w : World} {A : Around} {R : Result → Shared → Prop} {s : Shared} {name : Str} {params : Arguments} {body : List Stmt} {scope : Scope}
    {dV kV pm cd doc : Value} {a : Addr} {o : Obj} {args : Args} {binds : List (Str × Value)}
    (hroom : A.depth < recursionLimit) (ho : s.heap.get? a = some o) (hdata : o.data = .func { docDef name params body scope pm cd doc with defaults := dV, kwdefaults := kV }) (hlim : s.heap.NoLimit) (hcd : s.heap.CodeRec cd name)
    (hbind : BindsTo s { docDef name params body scope pm cd doc with defaults := dV, kwdefaults := kV } args binds)
    (hloc : ∀ x ∈ binds, scope.names.lookup x.1 = some .local)
    (h : ∀ h₁, Fr s.heap s.heap.objs.size h₁ (fun x => binds.reverse.lookup x) →
      wpN (model prog w) (A.deeper (envOf name scope s.heap.objs.size a cd)) (execs body (envOf name scope s.heap.objs.size a cd))
        (fun f s' => R (.ok (.ret (match f with | .ret v => v | _ => .none))) s') (fun _ _ => False) { s with heap := h₁, toks := s.toks + binds.length })
    (hco : scope.isCoroutine = false) (hgen : scope.isGenerator = false) (hk : scope.kind = .function)
    (hcell : ∀ x ∈ scope.names, x.2 ≠ .cell) :
    codeN (model prog w) A (.call (.ref a) args) R s := by
  refine codeN_call_function hroom ho hdata hco hgen rfl hcd (hbind _ _ _ _ (wpAny_newFunctionEnv hcell hloc (fun h₁ hns hsb => ⟨hlim.fresh _ hsb, codeN_func ?_⟩) hk))
  have hk₁ : ∀ b o, s.heap.get? b = some o → h₁.get? b = some o := fun b o e => hsb.extBut b o (Nat.ne_of_lt (Heap.lt_size e)) (Heap.get?_push_of_some _ e)
  exact wpN_mono (h h₁ ⟨hns, hk₁, Nat.le_refl _⟩) (fun _ _ x => x) fun _ _ x => x.elim
end Mine
end
section
open PySem PySem.W PyProof.Rows PySem.Calls
set_option Elab.async false
set_option linter.unusedVariables false
set_option maxRecDepth 100000
set_option maxHeartbeats 4000000
namespace Mine
theorem has_wr {m : Str → Option Value} : ∀ {l : List (Str × Value)}, (l.map (·.1)).Nodup → Has (wr l m) l
  | [], _ => fun _ h => (nomatch h)
  | p :: r, h => fun q hq => by
    have h' : p.1 ∉ r.map (·.1) ∧ (r.map (·.1)).Nodup := List.nodup_cons.mp h
    show (if q.1 = p.1 then some p.2 else wr r m q.1) = some q.2
    rcases List.mem_cons.mp hq with rfl | hq
    · exact if_pos rfl
    · have ne : ¬ q.1 = p.1 := fun e => h'.1 (by rw [← e]; exact List.mem_map_of_mem hq)
      rw [if_neg ne]
      exact has_wr h'.2 q hq
theorem wr_off {m : Str → Option Value} {y : Str} : ∀ {l : List (Str × Value)}, y ∉ l.map (·.1) → wr l m y = m y
  | [], _ => rfl
  | p :: r, h => by
    have h' : ¬ y = p.1 ∧ y ∉ r.map (·.1) := by simpa using h
    show (if y = p.1 then some p.2 else wr r m y) = m y
    rw [if_neg h'.1]
    exact wr_off h'.2
theorem rise {z : Nat → Nat} {n : Nat} (h : ∀ i, i + 1 < n → z i < z (i + 1)) : ∀ i j, i < j → j < n → z i < z j := by
  intro i j hij hj
  induction j with
  | zero => exact absurd hij (Nat.not_lt_zero _)
  | succ j ih =>
    rcases Nat.lt_succ_iff_lt_or_eq.mp hij with hlt | rfl
    · exact Nat.lt_trans (ih hlt (Nat.lt_of_succ_lt hj)) (h j hj)
    · exact h i hj
def posOf (x : Nat) : Nat := [1, 5, 9, 13, 0, 4, 8, 12, 2, 6, 10, 14, 3, 7, 11, 15, 19, 20, 21, 22, 24, 25, 26, 27, 16, 17, 18, 23, 28].getD x 0
theorem pos_inj : ∀ x, x < 29 → ∀ y, y < 29 → posOf x = posOf y → x = y := by decide +kernel
theorem pos_lt : ∀ x, x < 29 → posOf x < 29 := by decide +kernel
theorem inj_of {z : Nat → Addr} (h : ∀ i, i + 1 < 29 → @LT.lt Nat _ (z i) (z (i + 1))) : Inj (fun x => z (posOf x)) := fun x y hx hy e => by
  refine pos_inj x hx y hy ?_
  rcases Nat.lt_trichotomy (posOf x) (posOf y) with q | q | q
  · exact absurd e (Nat.ne_of_lt (rise (z := z) h _ _ q (pos_lt y hy)))
  · exact q
  · exact absurd e.symm (Nat.ne_of_lt (rise (z := z) h _ _ q (pos_lt x hx)))
theorem ly0 {h₀ h : Heap} {L x d al tl ai ti : Addr} {ad : Nat → Addr} {w : World} {ta tb : Tok} {k : Nat} {dn up : Array Value} (e0 : ad k = x) (e1 : ad (4 + k) = d) (e2 : ad (8 + k) = al) (e3 : ad (12 + k) = tl) (e4 : ad (16 + k) = ai) (e5 : ad (20 + k) = ti)
    (n0 : New h₀ L h x (instObj 1204 d)) (n1 : New h₀ L h d (dictOf [⟨PyData.keyHash w.params "asked", .str "asked" ta, .ref al⟩, ⟨PyData.keyHash w.params "told", .str "told" tb, .ref tl⟩] 2)) (n2 : New h₀ L h al (listOf #[] 0)) (n3 : New h₀ L h tl (listOf #[] 0)) (n4 : New h₀ L h ai (listOf #[] 0)) (n5 : New h₀ L h ti (listOf #[] 0))
    (hd : dn[k]? = some .none) (hu : up[k]? = some .none) : Ly h₀ L ad 2 dn up h k := by
  subst e0 e1 e2 e3 e4 e5
  refine ⟨_, 2, #[], #[], #[], 0, 0, 0, 0, n0, n1, n2, n3, n4, n5, ⟨rfl, Nat.le_refl _, rfl, rfl, fun x hx => ?_⟩, Nat.zero_le _, Nat.zero_le _, ⟨rfl, fun i x e => by simp at e⟩, .inl hd, .inl hu⟩
  simp only [List.mem_cons, List.not_mem_nil, or_false] at hx
  rcases hx with rfl | rfl | rfl | rfl | rfl <;> rfl
theorem mkSS {w : World} {h₀ : Heap} {L : Addr} {m : Str → Option Value} {s : Shared} {Q : Flow → Shared → Prop} {d0 x0 al0 tl0 d1 x1 al1 tl1 d2 x2 al2 tl2 d3 x3 al3 tl3 la dl ul ai0 ai1 ai2 ai3 ao ti0 ti1 ti2 ti3 tq : Addr} {ta0 tb0 ta1 tb1 ta2 tb2 ta3 tb3 : Tok} {h' : Heap} {tk' : Nat}
    (hq : ∀ ad h' tk', Inj ad → Fr h₀ L h' (wr [("told", .ref (ad 28)), ("asked", .ref (ad 27)), ("up", .ref (ad 26)), ("down", .ref (ad 25)), ("layers", .ref (ad 24))] m) → SS h₀ L ad 2 h' → Q .next { s with heap := h', toks := tk' })
    (F : Fr h₀ L h' (wr [("told", .ref tq), ("asked", .ref ao), ("up", .ref ul), ("down", .ref dl), ("layers", .ref la)] m)) (N : News h₀ L h' [(tq, listOf #[.ref ti0, .ref ti1, .ref ti2, .ref ti3] 0), (ti3, listOf #[] 0), (ti2, listOf #[] 0), (ti1, listOf #[] 0), (ti0, listOf #[] 0), (ao, listOf #[.ref ai0, .ref ai1, .ref ai2, .ref ai3] 0), (ai3, listOf #[] 0), (ai2, listOf #[] 0), (ai1, listOf #[] 0), (ai0, listOf #[] 0), (ul, listOf #[.none, .none, .none, .none] 0), (dl, listOf #[.none, .none, .none, .none] 0), (la, listOf #[.ref x0, .ref x1, .ref x2, .ref x3] 0), (tl3, listOf #[] 0), (al3, listOf #[] 0), (x3, instObj 1204 d3), (d3, dictOf [⟨PyData.keyHash w.params "asked", .str "asked" ta3, .ref al3⟩, ⟨PyData.keyHash w.params "told", .str "told" tb3, .ref tl3⟩] 2), (tl2, listOf #[] 0), (al2, listOf #[] 0), (x2, instObj 1204 d2), (d2, dictOf [⟨PyData.keyHash w.params "asked", .str "asked" ta2, .ref al2⟩, ⟨PyData.keyHash w.params "told", .str "told" tb2, .ref tl2⟩] 2), (tl1, listOf #[] 0), (al1, listOf #[] 0), (x1, instObj 1204 d1), (d1, dictOf [⟨PyData.keyHash w.params "asked", .str "asked" ta1, .ref al1⟩, ⟨PyData.keyHash w.params "told", .str "told" tb1, .ref tl1⟩] 2), (tl0, listOf #[] 0), (al0, listOf #[] 0), (x0, instObj 1204 d0), (d0, dictOf [⟨PyData.keyHash w.params "asked", .str "asked" ta0, .ref al0⟩, ⟨PyData.keyHash w.params "told", .str "told" tb0, .ref tl0⟩] 2)])
    (c0 : d0 < x0) (c1 : x0 < al0) (c2 : al0 < tl0) (c3 : tl0 < d1) (c4 : d1 < x1) (c5 : x1 < al1) (c6 : al1 < tl1) (c7 : tl1 < d2) (c8 : d2 < x2) (c9 : x2 < al2) (c10 : al2 < tl2) (c11 : tl2 < d3) (c12 : d3 < x3) (c13 : x3 < al3) (c14 : al3 < tl3) (c15 : tl3 < la) (c16 : la < dl) (c17 : dl < ul) (c18 : ul < ai0) (c19 : ai0 < ai1) (c20 : ai1 < ai2) (c21 : ai2 < ai3) (c22 : ai3 < ao) (c23 : ao < ti0) (c24 : ti0 < ti1) (c25 : ti1 < ti2) (c26 : ti2 < ti3) (c27 : ti3 < tq) : Q .next { s with heap := h', toks := tk' } := by
  let z : Nat → Addr := fun i => [d0, x0, al0, tl0, d1, x1, al1, tl1, d2, x2, al2, tl2, d3, x3, al3, tl3, la, dl, ul, ai0, ai1, ai2, ai3, ao, ti0, ti1, ti2, ti3, tq].getD i 0
  have hz : ∀ i, i + 1 < 29 → @LT.lt Nat _ (z i) (z (i + 1)) := fun i hi => match i, hi with
    | 0, _ => c0
    | 1, _ => c1
    | 2, _ => c2
    | 3, _ => c3
    | 4, _ => c4
    | 5, _ => c5
    | 6, _ => c6
    | 7, _ => c7
    | 8, _ => c8
    | 9, _ => c9
    | 10, _ => c10
    | 11, _ => c11
    | 12, _ => c12
    | 13, _ => c13
    | 14, _ => c14
    | 15, _ => c15
    | 16, _ => c16
    | 17, _ => c17
    | 18, _ => c18
    | 19, _ => c19
    | 20, _ => c20
    | 21, _ => c21
    | 22, _ => c22
    | 23, _ => c23
    | 24, _ => c24
    | 25, _ => c25
    | 26, _ => c26
    | 27, _ => c27
    | n + 28, h => absurd h (by omega)
  refine hq (fun x => z (posOf x)) h' tk' (inj_of hz) F ⟨#[.none, .none, .none, .none], #[.none, .none, .none, .none], 0, 0, 0, 0, 0, (N _ (.tail _ (.tail _ (.tail _ (.tail _ (.tail _ (.tail _ (.tail _ (.tail _ (.tail _ (.tail _ (.tail _ (.tail _ (.head _)))))))))))))), (N _ (.tail _ (.tail _ (.tail _ (.tail _ (.tail _ (.tail _ (.tail _ (.tail _ (.tail _ (.tail _ (.tail _ (.head _))))))))))))), (N _ (.tail _ (.tail _ (.tail _ (.tail _ (.tail _ (.tail _ (.tail _ (.tail _ (.tail _ (.tail _ (.head _)))))))))))), (N _ (.tail _ (.tail _ (.tail _ (.tail _ (.tail _ (.head _))))))), (N _ (.head _)), rfl, rfl, fun k hk => ?_⟩
  match k, hk with
  | 0, _ => exact ly0 rfl rfl rfl rfl rfl rfl (N _ (.tail _ (.tail _ (.tail _ (.tail _ (.tail _ (.tail _ (.tail _ (.tail _ (.tail _ (.tail _ (.tail _ (.tail _ (.tail _ (.tail _ (.tail _ (.tail _ (.tail _ (.tail _ (.tail _ (.tail _ (.tail _ (.tail _ (.tail _ (.tail _ (.tail _ (.tail _ (.tail _ (.head _))))))))))))))))))))))))))))) (N _ (.tail _ (.tail _ (.tail _ (.tail _ (.tail _ (.tail _ (.tail _ (.tail _ (.tail _ (.tail _ (.tail _ (.tail _ (.tail _ (.tail _ (.tail _ (.tail _ (.tail _ (.tail _ (.tail _ (.tail _ (.tail _ (.tail _ (.tail _ (.tail _ (.tail _ (.tail _ (.tail _ (.tail _ (.head _)))))))))))))))))))))))))))))) (N _ (.tail _ (.tail _ (.tail _ (.tail _ (.tail _ (.tail _ (.tail _ (.tail _ (.tail _ (.tail _ (.tail _ (.tail _ (.tail _ (.tail _ (.tail _ (.tail _ (.tail _ (.tail _ (.tail _ (.tail _ (.tail _ (.tail _ (.tail _ (.tail _ (.tail _ (.tail _ (.head _)))))))))))))))))))))))))))) (N _ (.tail _ (.tail _ (.tail _ (.tail _ (.tail _ (.tail _ (.tail _ (.tail _ (.tail _ (.tail _ (.tail _ (.tail _ (.tail _ (.tail _ (.tail _ (.tail _ (.tail _ (.tail _ (.tail _ (.tail _ (.tail _ (.tail _ (.tail _ (.tail _ (.tail _ (.head _))))))))))))))))))))))))))) (N _ (.tail _ (.tail _ (.tail _ (.tail _ (.tail _ (.tail _ (.tail _ (.tail _ (.tail _ (.head _))))))))))) (N _ (.tail _ (.tail _ (.tail _ (.tail _ (.head _)))))) rfl rfl
  | 1, _ => exact ly0 rfl rfl rfl rfl rfl rfl (N _ (.tail _ (.tail _ (.tail _ (.tail _ (.tail _ (.tail _ (.tail _ (.tail _ (.tail _ (.tail _ (.tail _ (.tail _ (.tail _ (.tail _ (.tail _ (.tail _ (.tail _ (.tail _ (.tail _ (.tail _ (.tail _ (.tail _ (.tail _ (.head _))))))))))))))))))))))))) (N _ (.tail _ (.tail _ (.tail _ (.tail _ (.tail _ (.tail _ (.tail _ (.tail _ (.tail _ (.tail _ (.tail _ (.tail _ (.tail _ (.tail _ (.tail _ (.tail _ (.tail _ (.tail _ (.tail _ (.tail _ (.tail _ (.tail _ (.tail _ (.tail _ (.head _)))))))))))))))))))))))))) (N _ (.tail _ (.tail _ (.tail _ (.tail _ (.tail _ (.tail _ (.tail _ (.tail _ (.tail _ (.tail _ (.tail _ (.tail _ (.tail _ (.tail _ (.tail _ (.tail _ (.tail _ (.tail _ (.tail _ (.tail _ (.tail _ (.tail _ (.head _)))))))))))))))))))))))) (N _ (.tail _ (.tail _ (.tail _ (.tail _ (.tail _ (.tail _ (.tail _ (.tail _ (.tail _ (.tail _ (.tail _ (.tail _ (.tail _ (.tail _ (.tail _ (.tail _ (.tail _ (.tail _ (.tail _ (.tail _ (.tail _ (.head _))))))))))))))))))))))) (N _ (.tail _ (.tail _ (.tail _ (.tail _ (.tail _ (.tail _ (.tail _ (.tail _ (.head _)))))))))) (N _ (.tail _ (.tail _ (.tail _ (.head _))))) rfl rfl
  | 2, _ => exact ly0 rfl rfl rfl rfl rfl rfl (N _ (.tail _ (.tail _ (.tail _ (.tail _ (.tail _ (.tail _ (.tail _ (.tail _ (.tail _ (.tail _ (.tail _ (.tail _ (.tail _ (.tail _ (.tail _ (.tail _ (.tail _ (.tail _ (.tail _ (.head _))))))))))))))))))))) (N _ (.tail _ (.tail _ (.tail _ (.tail _ (.tail _ (.tail _ (.tail _ (.tail _ (.tail _ (.tail _ (.tail _ (.tail _ (.tail _ (.tail _ (.tail _ (.tail _ (.tail _ (.tail _ (.tail _ (.tail _ (.head _)))))))))))))))))))))) (N _ (.tail _ (.tail _ (.tail _ (.tail _ (.tail _ (.tail _ (.tail _ (.tail _ (.tail _ (.tail _ (.tail _ (.tail _ (.tail _ (.tail _ (.tail _ (.tail _ (.tail _ (.tail _ (.head _)))))))))))))))))))) (N _ (.tail _ (.tail _ (.tail _ (.tail _ (.tail _ (.tail _ (.tail _ (.tail _ (.tail _ (.tail _ (.tail _ (.tail _ (.tail _ (.tail _ (.tail _ (.tail _ (.tail _ (.head _))))))))))))))))))) (N _ (.tail _ (.tail _ (.tail _ (.tail _ (.tail _ (.tail _ (.tail _ (.head _))))))))) (N _ (.tail _ (.tail _ (.head _)))) rfl rfl
  | 3, _ => exact ly0 rfl rfl rfl rfl rfl rfl (N _ (.tail _ (.tail _ (.tail _ (.tail _ (.tail _ (.tail _ (.tail _ (.tail _ (.tail _ (.tail _ (.tail _ (.tail _ (.tail _ (.tail _ (.tail _ (.head _))))))))))))))))) (N _ (.tail _ (.tail _ (.tail _ (.tail _ (.tail _ (.tail _ (.tail _ (.tail _ (.tail _ (.tail _ (.tail _ (.tail _ (.tail _ (.tail _ (.tail _ (.tail _ (.head _)))))))))))))))))) (N _ (.tail _ (.tail _ (.tail _ (.tail _ (.tail _ (.tail _ (.tail _ (.tail _ (.tail _ (.tail _ (.tail _ (.tail _ (.tail _ (.tail _ (.head _)))))))))))))))) (N _ (.tail _ (.tail _ (.tail _ (.tail _ (.tail _ (.tail _ (.tail _ (.tail _ (.tail _ (.tail _ (.tail _ (.tail _ (.tail _ (.head _))))))))))))))) (N _ (.tail _ (.tail _ (.tail _ (.tail _ (.tail _ (.tail _ (.head _)))))))) (N _ (.tail _ (.head _))) rfl rfl
  | n + 4, h => exact absurd h (by omega)
theorem gE {mean : ExcName → Option Value} {mg mb : Str → Option Value} {w : World} {cs : Scope} {nm : Str} {fa : Addr} {cd : Value}
    {h₀ : Heap} {L : Addr} {m : Str → Option Value} {s : Shared} {Q : Flow → Shared → Prop} {xs : List Stmt}
    (hb : segE? w.params = some xs) (hcs : lawScope? w.params = some cs)
    (B : Below callerA h₀ [] h₀) (F : Fr h₀ L s.heap m) (K : (KF w.params).In h₀) (T : Top Mine.V LS mean mg mb h₀)
    (N : News h₀ L s.heap [])
    (hq : ∀ ad h' tk', Inj ad → Fr h₀ L h' (wr [("told", .ref (ad 28)), ("asked", .ref (ad 27)), ("up", .ref (ad 26)), ("down", .ref (ad 25)), ("layers", .ref (ad 24))] m) → SS h₀ L ad 2 h' → Q .next { s with heap := h', toks := tk' }) :
    wpAny (model PySem.Challenge.rw_bj5003_01.row.prog w) (callerA.deeper (envOf nm cs L fa cd)) (execs xs (envOf nm cs L fa cd)) Q (fun _ _ => False) s := by
  first
  | (
      injection hb with hb
      subst hb
      injection hcs with hcs
      subst hcs
      dsimp only
      revert K; k_fill; intro K
      w_on
      k_steps
      refine' mkSS (w := w) hq ?F ?N ?c0 ?c1 ?c2 ?c3 ?c4 ?c5 ?c6 ?c7 ?c8 ?c9 ?c10 ?c11 ?c12 ?c13 ?c14 ?c15 ?c16 ?c17 ?c18 ?c19 ?c20 ?c21 ?c22 ?c23 ?c24 ?c25 ?c26 ?c27
      case N => k_asm
      case F => k_asm
      all_goals first | with_reducible assumption | exact And.left (by with_reducible assumption)
    )
end Mine
end
section
open PySem PySem.W PyProof.Rows PySem.Calls
set_option Elab.async false
set_option linter.unusedVariables false
set_option maxRecDepth 100000
set_option maxHeartbeats 4000000
namespace Mine
def iter15? (P : Params) : Option Expr := match lawStmt? P 15 with | some (.For _ it _ _ _) => some it | _ => none
theorem gI {mean : ExcName → Option Value} {mg mb : Str → Option Value} {w : World} {cs : Scope} {nm : Str} {fa : Addr} {cd : Value}
    {h₀ : Heap} {L : Addr} {m : Str → Option Value} {s : Shared} {tail : List (Addr × Obj)} {Q : Value → Shared → Prop} {it : Expr} {sa : Addr} {vs : List Value} {ns : List Int}
    (hb : iter15? w.params = some it) (hcs : lawScope? w.params = some cs)
    (B : Below callerA h₀ [] h₀) (F : Fr h₀ L s.heap m) (K : (KF w.params).In h₀) (T : Top Mine.V LS mean mg mb h₀)
    (hm : Has m [("script", .ref sa)]) (hl : h₀.IsList sa vs.toArray) (hi : IntsAre vs ns) (h63 : ns.length ≤ 63)
    (N : News h₀ L s.heap tail)
    (hq : ∀ l us ks h' tk', Fr h₀ L h' (wr [("script", .ref sa)] m) → News h₀ L h' ((l, listOf (List.toArray us) 0) :: tail) → IntsAre us ks → ks.length ≤ 20 → (∀ p ∈ tail, p.1 ≠ l) → Q (.ref l) { s with heap := h', toks := tk' }) :
    wpAny (model PySem.Challenge.rw_bj5003_01.row.prog w) (callerA.deeper (envOf nm cs L fa cd)) (eval it (envOf nm cs L fa cd)) Q (fun _ _ => False) s := by
  first
  | (
      injection hb with hb
      subst hb
      injection hcs with hcs
      subst hcs
      dsimp only
      replace F := fr_names F hm
      dsimp only [wr] at F
      revert K; k_fill; intro K
      w_on
      k_steps
      · refine' hq _ _ _ _ _ ?_ ?hn ?hi ?hk ?hl
        case hn => exact List.forall_mem_cons.mpr ⟨newsAt (by k_asm) (.head _), fun p hp => newsAt (by k_asm) (.tail _ (.tail _ hp))⟩
        case hi => exact .cons _ _ (.cons _ _ (.cons _ _ (.cons _ _ (.cons _ _ (.cons _ _ (.cons _ _ (.cons _ _ (.cons _ _ (.cons _ _ (.cons _ _ (.cons _ _ (.cons _ _ .nil))))))))))))
        case hk => decide
        case hl => exact allLt_ne _ (And.right (by with_reducible assumption))
        k_asm
      · refine' hq _ _ _ _ _ ?_ ?hn ?hi ?hk ?hl
        case hn => exact List.forall_mem_cons.mpr ⟨newsAt (by k_asm) (.head _), fun p hp => newsAt (by k_asm) (.tail _ (.tail _ hp))⟩
        case hi => with_reducible assumption
        case hk => omega
        case hl => exact allLt_ne _ (And.right (by with_reducible assumption))
        k_asm
    )
end Mine
end
section
open PySem PySem.W PyProof.Rows PySem.Calls
open PySem.Sem (wp)
set_option Elab.async false
set_option linter.unusedVariables false
set_option maxRecDepth 100000
set_option maxHeartbeats 4000000
namespace Mine
theorem law_parts {P : Params} {body : List Stmt} (h : lawBody? P = some body) : ∃ xa a5 a6 xc xd xe a15 a16, body = xa ++ (a5 :: a6 :: (xc ++ (xd ++ (xe ++ [a15, a16])))) ∧
    segA? P = some xa ∧ lawStmt? P 5 = some a5 ∧ lawStmt? P 6 = some a6 ∧ segC? P = some xc ∧ segD? P = some xd ∧ segE? P = some xe ∧ lawStmt? P 15 = some a15 ∧ lawStmt? P 16 = some a16 := by
  injection h with h
  subst h
  exact ⟨_, _, _, _, _, _, _, _, rfl, rfl, rfl, rfl, rfl, rfl, rfl, rfl, rfl⟩
theorem for_parts {P : Params} {st : Stmt} (h : lawStmt? P 15 = some st) : ∃ xp it body pos, st = .For (.Name "n" xp) it body [] pos ∧ iter15? P = some it ∧ loopBody? P = some body := by
  injection h with h
  subst h
  exact ⟨_, _, _, _, rfl, rfl, rfl⟩
theorem nExecs_app {M : Model} {A : Around} {E : Value → Shared → Prop} {s : Shared} {env : Env} {xs ys : List Stmt} {Q : Flow → Shared → Prop} (h : wpAny M A (execs xs env) (fun f s' => f = .next ∧ wpN M A (execs ys env) Q E s') (fun _ _ => False) s) : wpN M A (execs (xs ++ ys) env) Q E s := by
  rw [execs_append]
  refine wpN_then (wpAny_mono h (fun f s' hh => ?_) fun _ _ x => x.elim)
  obtain ⟨rfl, h'⟩ := hh
  exact h'
section
variable {mean : ExcName → Option Value} {mg mb : Str → Option Value} {w : World} {cs : Scope} {nm : Str} {fa : Addr} {cd : Value} {h₀ h h' : Heap} {L : Addr} {m : Str → Option Value} {s : Shared} {ad : Nat → Addr} {c : Nat}
theorem SS.has (S : SS h₀ L ad c h) : ∀ x, x < 29 → ∃ o, New h₀ L h (ad x) o := by
  obtain ⟨dn, up, c24, c25, c26, c27, c28, G⟩ := S
  intro x hx
  by_cases h24 : x < 24
  · obtain ⟨es, n, tps, us, ts, c1, c2, c3, c4, l⟩ := G.ly (x % 4) (Nat.mod_lt _ (by decide))
    rcases (show x = x % 4 ∨ x = 4 + x % 4 ∨ x = 8 + x % 4 ∨ x = 12 + x % 4 ∨ x = 16 + x % 4 ∨ x = 20 + x % 4 by omega) with e | e | e | e | e | e <;> rw [e]
    · exact ⟨_, l.i⟩
    · exact ⟨_, l.d⟩
    · exact ⟨_, l.al⟩
    · exact ⟨_, l.tl⟩
    · exact ⟨_, l.ai⟩
    · exact ⟨_, l.ti⟩
  · rcases (show x = 24 ∨ x = 25 ∨ x = 26 ∨ x = 27 ∨ x = 28 by omega) with rfl | rfl | rfl | rfl | rfl
    · exact ⟨_, G.la⟩
    · exact ⟨_, G.dl⟩
    · exact ⟨_, G.ul⟩
    · exact ⟨_, G.ao⟩
    · exact ⟨_, G.tq⟩
/-- the loop and what is behind it -/
def Done (h₀ : Heap) (L : Addr) (s : Shared) (f : Flow) (s' : Shared) : Prop := f = .ret (.bool true) ∧ ∃ h' tk' m', s' = { s with heap := h', toks := tk' } ∧ Fr h₀ L h' m'
theorem gR {st : Stmt} (hst : lawStmt? w.params 16 = some st) (hcs : lawScope? w.params = some cs) (F : Fr h₀ L s.heap m) :
    wpAny (model PySem.Challenge.rw_bj5003_01.row.prog w) (callerA.deeper (envOf nm cs L fa cd)) (exec st (envOf nm cs L fa cd)) (Done h₀ L s) (fun _ _ => False) s := by
  first
  | (
      injection hst with hst
      subst hst
      injection hcs with hcs
      subst hcs
      w_on
      k_steps
      exact ⟨rfl, _, _, _, rfl, F⟩
    )
theorem loop {st : Stmt} {sa : Addr} {vs : List Value} {ns : List Int} {Q : Flow → Shared → Prop} (hst : lawStmt? w.params 15 = some st) (hcs : lawScope? w.params = some cs) (hcs' : cs.kind = .function) (hn : cs.names.lookup ("n" : Str) = some NameKind.local)
    (B : Below callerA h₀ [] h₀) (F : Fr h₀ L s.heap m) (K : (KF w.params).In h₀) (T : Top Mine.V LS mean mg mb h₀)
    (hj : Inj ad) (hs : Has m [("script", .ref sa)]) (hm : Has m (bas ad)) (S : SS h₀ L ad 2 s.heap) (hl : h₀.IsList sa vs.toArray) (hi : IntsAre vs ns) (h63 : ns.length ≤ 63)
    (hq : ∀ h' tk' m', Fr h₀ L h' m' → Q .next { s with heap := h', toks := tk' }) :
    wpN (model PySem.Challenge.rw_bj5003_01.row.prog w) (callerA.deeper (envOf nm cs L fa cd)) (exec st (envOf nm cs L fa cd)) Q (fun _ _ => False) s := by
  obtain ⟨xp, it, body, pos, rfl, hit, hbody⟩ := for_parts hst
  refine nFor (gI hit hcs B F K T hs hl hi h63 (newsRest (as := [])) fun l us ks h1 k1 F1 N1 hu h20 off => ?_) (fun x => ?_)
  case refine_2 => injection hit with hit; subst hit; rfl
  rw [wr_eq hs] at F1
  have kp1 : Kp L [] s.heap h1 := kp_rest F F1 N1 (fun _ h => .tail _ h)
  have S1 := S.same hj kp1 (Nat.le_refl _)
  have nl : New h₀ L h1 l (listOf (List.toArray us) 0) := N1 _ (.head _)
  have al : ∀ x, x < 29 → ad x ≠ l := fun x hx e => by
    obtain ⟨o, n⟩ := S.has x hx
    exact off (ad x, o) (mem_restOf.mpr ⟨n, fun h => (nomatch h)⟩) e
  have hl1 : h1.IsList l (List.toArray us) := ⟨_, nl.1, rfl, _, rfl⟩
  refine wpAny_pyIter_list (s := { s with heap := h1, toks := k1 }) hl1 ?_
  dsimp only
  generalize hI : h1.objs.size = I
  have up : ∀ b o, h1.get? b = some o → (h1.push { cls := .type "list_iterator", data := .fields #[.ref l, .int 0 0] }).get? b = some o := fun b o e => Heap.get?_push_of_some _ e
  have ne : ∀ {b o}, h1.get? b = some o → b ≠ I := fun e q => by have := Heap.lt_size e; rw [q, ← hI] at this; exact Nat.lt_irrefl _ this
  have hIL : I ≠ L := hI ▸ Ne.symm (Nat.ne_of_lt F1.ns.lt)
  have hI0 : h₀.get? I = none := hI ▸ next_is_new F1
  have ai : ∀ x, x < 29 → ad x ≠ I := fun x hx => by
    obtain ⟨o, n⟩ := S1.has x hx
    exact ne n.1
  have hil : I ≠ l := Ne.symm (ne nl.1)
  have hat : ∀ {h : Heap} {i : Nat}, h.IsListIter I l i → ∃ o, New h₀ L h I o ∧ o.cls = .type "list_iterator" ∧ o.data = .fields #[.ref l, rawInt i] := fun ⟨o, e, hc, hd⟩ => ⟨o, ⟨e, hIL, hI0⟩, hc, hd⟩
  refine codeN_overList (s := { s with heap := h1.push { cls := .type "list_iterator", data := .fields #[.ref l, .int 0 0] }, toks := k1 }) rfl (fun i h => ∃ m, Fr h₀ L h m ∧ Has m (bas ad) ∧ SS h₀ L ad (16 * i + 2) h ∧ New h₀ L h l (listOf (List.toArray us) 0))
    ⟨_, hI ▸ Heap.get?_push_size _ rfl, rfl, rfl⟩ (hl1.push _) ⟨m, F1.keeps up, hm, S1.same hj (fun b o e _ _ => up b o e) (by omega), up _ _ nl.1, nl.2⟩ hil ?hP ?step ?hR
  case hP =>
    rintro i h h' ⟨m', F', hm', S', n'⟩ hit' hs'
    obtain ⟨oI, nI, cI, _⟩ := hat hit'
    have kp : Kp L [I] h h' := fun b o e _ hb => hs' b o (by simpa using hb) e
    refine ⟨m', ⟨F'.ns.extBut hs' (Ne.symm hIL), fun b o e => hs' b o (fun q => by rw [q, hI0] at e; cases e) (F'.keep b o e), F'.above⟩, hm', S'.but kp (fun x hx => by simpa using ai x hx) (fun tp v t n hm => ?_), n'.keep kp (by simpa using Ne.symm hil)⟩
    rw [List.mem_singleton.mp hm] at n
    have q := n.1.symm.trans nI.1
    have q' := (congrArg Obj.cls (Option.some.inj q)).trans cI
    injection q' with q'
    exact absurd q' (by decide)
  case step =>
    rintro i v h tk hx ⟨m', F', hm', S', n'⟩ hit' hl'
    have hi20 : i < us.length := by
      have := (Array.getElem?_eq_some_iff.mp hx).1
      simpa using this
    have hlen : us.length = ks.length := hu.length
    obtain ⟨k, t, rfl, _⟩ := IntsAre.at hu i v (by simpa using hx)
    refine wpAny_storeName_local (by exact hn) F'.ns (fun h₂ hns hsb => ?_) (by simp [envOf, hcs'])
    have kp2 : Kp L [] h h₂ := fun b o e hb _ => hsb.extBut b o hb e
    have hL0 : h₀.get? L = none := Heap.get?_none_of_le F'.above
    have F2 : Fr h₀ L h₂ (wr [("n", .int k t)] m') := ⟨hns, fun b o e => hsb.extBut b o (fun q => by have q' : b = L := q; rw [q', hL0] at e; cases e) (F'.keep b o e), F'.above⟩
    have hm2 : Has (wr [("n", .int k t)] m') (("n", .int k t) :: bas ad) := hm'.push (by show ∀ y ∈ [("layers" : Str), "down", "up", "asked", "told"], y ≠ "n"; decide)
    have S2 := S'.same hj kp2 (Nat.le_refl _)
    refine wpN_mono (turn (s := { s with heap := h₂, toks := tk + 1 }) hbody hcs B F2 K T hj hm2 S2 (by omega)) (fun f s₃ hh => ?_) fun _ _ x => x
    obtain ⟨rfl, h₃, tk₃, m₃, rfl, F₃, hm₃, S₃, U₃⟩ := hh
    have n2 := n'.keep kp2 (fun h => (nomatch h))
    have n3 := U₃ _ _ n2 al
    obtain ⟨oI, nI, cI, dI⟩ := hat hit'
    have nI3 := U₃ _ _ (nI.keep kp2 (fun h => (nomatch h))) ai
    exact ⟨h₃, tk₃, rfl, ⟨m₃, F₃, hm₃, S₃, n3⟩, ⟨oI, nI3.1, cI, dI⟩, ⟨_, n3.1, rfl, _, rfl⟩⟩
  case hR =>
    rintro h tk ⟨m', F', _, _, _⟩
    exact hq h tk m' F'
theorem lawWhole {body : List Stmt} {sa : Addr} {vs : List Value} {ns : List Int} (hb : lawBody? w.params = some body) (hcs : lawScope? w.params = some cs)
    (B : Below callerA h₀ [] h₀) (F : Fr h₀ L s.heap m) (K : (KF w.params).In h₀) (T : Top Mine.V LS mean mg mb h₀)
    (hs : m "script" = some (.ref sa)) (hl : h₀.IsList sa vs.toArray) (hi : IntsAre vs ns) (h63 : ns.length ≤ 63) :
    wpN (model PySem.Challenge.rw_bj5003_01.row.prog w) (callerA.deeper (envOf nm cs L fa cd)) (execs body (envOf nm cs L fa cd)) (Done h₀ L s) (fun _ _ => False) s := by
  obtain ⟨xa, a5, a6, xc, xd, xe, a15, a16, rfl, bA, b5, b6, bC, bD, bE, b15, b16⟩ := law_parts hb
  obtain ⟨bodyB, hbB⟩ : ∃ b, bodyB? w.params = some b := ⟨_, rfl⟩
  refine nExecs_app (gA bA hcs B F K T (fun _ h => (nomatch h)) fun c dc v dv p dp e de k0 k1 k2 k3 k4 k5 k6 k7 k8 k9 k10 k11 h1 q1 F1 N1 => ⟨rfl, ?_⟩)
  have hm1 : Has (wr [("element", .ref e), ("point", .ref p), ("server", .ref v), ("client", .ref c)] m) [("element", .ref e), ("point", .ref p), ("server", .ref v), ("client", .ref c)] := has_wr (by show [("element" : Str), "point", "server", "client"].Nodup; decide)
  have hm1' := hm1.sub (l' := [("client", .ref c), ("server", .ref v), ("point", .ref p), ("element", .ref e)]) (fun x hx => by simp only [List.mem_cons, List.not_mem_nil, or_false] at hx ⊢; rcases hx with rfl | rfl | rfl | rfl <;> simp)
  have hs1 : (wr [("element", .ref e), ("point", .ref p), ("server", .ref v), ("client", .ref c)] m) "script" = some (.ref sa) := (wr_off (by show ("script" : Str) ∉ [("element" : Str), "point", "server", "client"]; decide)).trans hs
  generalize wr [("element", .ref e), ("point", .ref p), ("server", .ref v), ("client", .ref c)] m = m1 at *
  refine nExecs_leaf0 (gB1 (s := { s with heap := h1, toks := q1 }) b5 hcs B F1 K T hm1' N1 fun tb t0 t1 t2 t3 t4 t5 t6 t7 t8 t9 t10 t11 va0 vb0 va1 vb1 va2 vb2 va3 vb3 va4 vb4 va5 vb5 va6 vb6 va7 vb7 va8 vb8 va9 vb9 va10 vb10 va11 vb11 h2 q2 F2 N2 => ⟨rfl, ?_⟩)
  rw [wr_push hm1' (fun _ h => h)] at F2
  have hm2 : Has (wr [("table", .ref tb)] m1) (("table", .ref tb) :: [("element", .ref e), ("point", .ref p), ("server", .ref v), ("client", .ref c)]) := hm1.push (by show ∀ y ∈ [("element" : Str), "point", "server", "client"], y ≠ "table"; decide)
  have hs2 : (wr [("table", .ref tb)] m1) "script" = some (.ref sa) := (wr_off (by show ("script" : Str) ∉ [("table" : Str)]; decide)).trans hs1
  generalize wr [("table", .ref tb)] m1 = m2 at *
  refine nExecs_leaf0 (gB2 (s := { s with heap := h2, toks := q2 }) b6 hbB hcs B F2 K T (hm2.sub (l' := [("table", .ref tb)]) (fun x hx => by rw [List.mem_singleton.mp hx]; exact .head _)) N2 (.head _) (List.forall_mem_cons.mpr ⟨(good0 hbB hcs B K T (.tail _ (.head _)) (.tail _ (.tail _ (.tail _ (.tail _ (.tail _ (.tail _ (.tail _ (.tail _ (.tail _ (.tail _ (.tail _ (.tail _ (.tail _ (.head _)))))))))))))) (.tail _ (.tail _ (.tail _ (.tail _ (.tail _ (.tail _ (.tail _ (.tail _ (.tail _ (.tail _ (.tail _ (.tail _ (.tail _ (.tail _ (.head _))))))))))))))) rfl rfl), (List.forall_mem_cons.mpr ⟨(good1 hbB hcs B K T (.tail _ (.tail _ (.head _))) (.tail _ (.tail _ (.tail _ (.tail _ (.tail _ (.tail _ (.tail _ (.tail _ (.tail _ (.tail _ (.tail _ (.tail _ (.tail _ (.tail _ (.tail _ (.head _)))))))))))))))) (.tail _ (.tail _ (.tail _ (.tail _ (.tail _ (.tail _ (.tail _ (.tail _ (.tail _ (.tail _ (.tail _ (.tail _ (.tail _ (.tail _ (.tail _ (.tail _ (.head _))))))))))))))))) rfl rfl), (List.forall_mem_cons.mpr ⟨(good2 hbB hcs B K T (.tail _ (.tail _ (.tail _ (.head _)))) (.tail _ (.tail _ (.tail _ (.tail _ (.tail _ (.tail _ (.tail _ (.tail _ (.tail _ (.tail _ (.tail _ (.tail _ (.tail _ (.tail _ (.tail _ (.tail _ (.tail _ (.head _)))))))))))))))))) (.tail _ (.tail _ (.tail _ (.tail _ (.tail _ (.tail _ (.tail _ (.tail _ (.tail _ (.tail _ (.tail _ (.tail _ (.tail _ (.tail _ (.tail _ (.tail _ (.tail _ (.tail _ (.head _))))))))))))))))))) rfl rfl), (List.forall_mem_cons.mpr ⟨(good3 hbB hcs B K T (.tail _ (.tail _ (.tail _ (.tail _ (.head _))))) (.tail _ (.tail _ (.tail _ (.tail _ (.tail _ (.tail _ (.tail _ (.tail _ (.tail _ (.tail _ (.tail _ (.tail _ (.tail _ (.tail _ (.tail _ (.tail _ (.tail _ (.head _)))))))))))))))))) (.tail _ (.tail _ (.tail _ (.tail _ (.tail _ (.tail _ (.tail _ (.tail _ (.tail _ (.tail _ (.tail _ (.tail _ (.tail _ (.tail _ (.tail _ (.tail _ (.tail _ (.tail _ (.head _))))))))))))))))))) rfl rfl), (List.forall_mem_cons.mpr ⟨(good4 hbB hcs B K T (.tail _ (.tail _ (.tail _ (.tail _ (.tail _ (.head _)))))) (.tail _ (.tail _ (.tail _ (.tail _ (.tail _ (.tail _ (.tail _ (.tail _ (.tail _ (.tail _ (.tail _ (.tail _ (.tail _ (.tail _ (.tail _ (.tail _ (.tail _ (.tail _ (.tail _ (.head _)))))))))))))))))))) (.tail _ (.tail _ (.tail _ (.tail _ (.tail _ (.tail _ (.tail _ (.tail _ (.tail _ (.tail _ (.tail _ (.tail _ (.tail _ (.tail _ (.tail _ (.tail _ (.tail _ (.tail _ (.tail _ (.tail _ (.head _))))))))))))))))))))) rfl rfl), (List.forall_mem_cons.mpr ⟨(good5 hbB hcs B K T (.tail _ (.tail _ (.tail _ (.tail _ (.tail _ (.tail _ (.head _))))))) (.tail _ (.tail _ (.tail _ (.tail _ (.tail _ (.tail _ (.tail _ (.tail _ (.tail _ (.tail _ (.tail _ (.tail _ (.tail _ (.tail _ (.tail _ (.tail _ (.tail _ (.tail _ (.tail _ (.head _)))))))))))))))))))) (.tail _ (.tail _ (.tail _ (.tail _ (.tail _ (.tail _ (.tail _ (.tail _ (.tail _ (.tail _ (.tail _ (.tail _ (.tail _ (.tail _ (.tail _ (.tail _ (.tail _ (.tail _ (.tail _ (.tail _ (.head _))))))))))))))))))))) rfl rfl), (List.forall_mem_cons.mpr ⟨(good6 hbB hcs B K T (.tail _ (.tail _ (.tail _ (.tail _ (.tail _ (.tail _ (.tail _ (.head _)))))))) (.tail _ (.tail _ (.tail _ (.tail _ (.tail _ (.tail _ (.tail _ (.tail _ (.tail _ (.tail _ (.tail _ (.tail _ (.tail _ (.head _)))))))))))))) (.tail _ (.tail _ (.tail _ (.tail _ (.tail _ (.tail _ (.tail _ (.tail _ (.tail _ (.tail _ (.tail _ (.tail _ (.tail _ (.tail _ (.head _))))))))))))))) rfl), (List.forall_mem_cons.mpr ⟨(good7 hbB hcs B K T (.tail _ (.tail _ (.tail _ (.tail _ (.tail _ (.tail _ (.tail _ (.tail _ (.head _))))))))) (.tail _ (.tail _ (.tail _ (.tail _ (.tail _ (.tail _ (.tail _ (.tail _ (.tail _ (.tail _ (.tail _ (.tail _ (.tail _ (.tail _ (.tail _ (.head _)))))))))))))))) (.tail _ (.tail _ (.tail _ (.tail _ (.tail _ (.tail _ (.tail _ (.tail _ (.tail _ (.tail _ (.tail _ (.tail _ (.tail _ (.tail _ (.tail _ (.tail _ (.head _))))))))))))))))) rfl), (List.forall_mem_cons.mpr ⟨(good8 hbB hcs B K T (.tail _ (.tail _ (.tail _ (.tail _ (.tail _ (.tail _ (.tail _ (.tail _ (.tail _ (.head _)))))))))) (.tail _ (.tail _ (.tail _ (.tail _ (.tail _ (.tail _ (.tail _ (.tail _ (.tail _ (.tail _ (.tail _ (.tail _ (.tail _ (.tail _ (.tail _ (.tail _ (.tail _ (.head _)))))))))))))))))) (.tail _ (.tail _ (.tail _ (.tail _ (.tail _ (.tail _ (.tail _ (.tail _ (.tail _ (.tail _ (.tail _ (.tail _ (.tail _ (.tail _ (.tail _ (.tail _ (.tail _ (.tail _ (.head _))))))))))))))))))) rfl), (List.forall_mem_cons.mpr ⟨(good9 hbB hcs B K T (.tail _ (.tail _ (.tail _ (.tail _ (.tail _ (.tail _ (.tail _ (.tail _ (.tail _ (.tail _ (.head _))))))))))) (.tail _ (.tail _ (.tail _ (.tail _ (.tail _ (.tail _ (.tail _ (.tail _ (.tail _ (.tail _ (.tail _ (.tail _ (.tail _ (.tail _ (.tail _ (.tail _ (.tail _ (.head _)))))))))))))))))) (.tail _ (.tail _ (.tail _ (.tail _ (.tail _ (.tail _ (.tail _ (.tail _ (.tail _ (.tail _ (.tail _ (.tail _ (.tail _ (.tail _ (.tail _ (.tail _ (.tail _ (.tail _ (.head _))))))))))))))))))) rfl), (List.forall_mem_cons.mpr ⟨(good10 hbB hcs B K T (.tail _ (.tail _ (.tail _ (.tail _ (.tail _ (.tail _ (.tail _ (.tail _ (.tail _ (.tail _ (.tail _ (.head _)))))))))))) (.tail _ (.tail _ (.tail _ (.tail _ (.tail _ (.tail _ (.tail _ (.tail _ (.tail _ (.tail _ (.tail _ (.tail _ (.tail _ (.tail _ (.tail _ (.tail _ (.tail _ (.tail _ (.tail _ (.head _)))))))))))))))))))) (.tail _ (.tail _ (.tail _ (.tail _ (.tail _ (.tail _ (.tail _ (.tail _ (.tail _ (.tail _ (.tail _ (.tail _ (.tail _ (.tail _ (.tail _ (.tail _ (.tail _ (.tail _ (.tail _ (.tail _ (.head _))))))))))))))))))))) rfl), (List.forall_mem_cons.mpr ⟨(good11 hbB hcs B K T (.tail _ (.tail _ (.tail _ (.tail _ (.tail _ (.tail _ (.tail _ (.tail _ (.tail _ (.tail _ (.tail _ (.tail _ (.head _))))))))))))) (.tail _ (.tail _ (.tail _ (.tail _ (.tail _ (.tail _ (.tail _ (.tail _ (.tail _ (.tail _ (.tail _ (.tail _ (.tail _ (.tail _ (.tail _ (.tail _ (.tail _ (.tail _ (.tail _ (.head _)))))))))))))))))))) (.tail _ (.tail _ (.tail _ (.tail _ (.tail _ (.tail _ (.tail _ (.tail _ (.tail _ (.tail _ (.tail _ (.tail _ (.tail _ (.tail _ (.tail _ (.tail _ (.tail _ (.tail _ (.tail _ (.tail _ (.head _))))))))))))))))))))) rfl), (fun _ h => (nomatch h))⟩)⟩)⟩)⟩)⟩)⟩)⟩)⟩)⟩)⟩)⟩)⟩) fun m3 h3 q3 ha3 F3 N3 => ⟨rfl, ?_⟩)
  have hm3 : Has m3 (("table", .ref tb) :: [("element", .ref e), ("point", .ref p), ("server", .ref v), ("client", .ref c)]) := hm2.agree (xs := ["row"]) (fun y hy => ha3 y (by simpa using hy)) (by show ∀ x ∈ [("table" : Str), "element", "point", "server", "client"], x ∉ [("row" : Str)]; decide)
  have hs3 : m3 "script" = some (.ref sa) := (ha3 _ (by decide)).trans hs2
  have hmC : Has m3 [("point", .ref p), ("element", .ref e)] := fun x hx => hm3 x (by simp only [List.mem_cons, List.not_mem_nil, or_false] at hx ⊢; rcases hx with rfl | rfl <;> simp)
  have hmD : Has m3 [("client", .ref c)] := fun x hx => hm3 x (by rw [List.mem_singleton.mp hx]; simp)
  refine nExecs_app (gC (s := { s with heap := h3, toks := q3 }) bC hcs B F3 K T hmC (List.forall_mem_cons.mpr ⟨N3 _ (.tail _ (.tail _ (.tail _ (.tail _ (.tail _ (.tail _ (.tail _ (.tail _ (.tail _ (.tail _ (.tail _ (.tail _ (.tail _ (.tail _ (.tail _ (.tail _ (.tail _ (.head _)))))))))))))))))), (List.forall_mem_cons.mpr ⟨N3 _ (.tail _ (.tail _ (.tail _ (.tail _ (.tail _ (.tail _ (.tail _ (.tail _ (.tail _ (.tail _ (.tail _ (.tail _ (.tail _ (.tail _ (.tail _ (.tail _ (.tail _ (.tail _ (.head _))))))))))))))))))), (List.forall_mem_cons.mpr ⟨N3 _ (.tail _ (.tail _ (.tail _ (.tail _ (.tail _ (.tail _ (.tail _ (.tail _ (.tail _ (.tail _ (.tail _ (.tail _ (.tail _ (.tail _ (.tail _ (.tail _ (.tail _ (.tail _ (.tail _ (.head _)))))))))))))))))))), (List.forall_mem_cons.mpr ⟨N3 _ (.tail _ (.tail _ (.tail _ (.tail _ (.tail _ (.tail _ (.tail _ (.tail _ (.tail _ (.tail _ (.tail _ (.tail _ (.tail _ (.tail _ (.tail _ (.tail _ (.tail _ (.tail _ (.tail _ (.tail _ (.head _))))))))))))))))))))), N3⟩)⟩)⟩)⟩) fun h4 q4 F4 N4 => ⟨rfl, ?_⟩)
  rw [wr_eq hmC] at F4
  refine nExecs_app (gD (s := { s with heap := h4, toks := q4 }) bD hcs B F4 K T hmD N4 fun h5 q5 F5 N5 => ⟨rfl, ?_⟩)
  rw [wr_eq hmD] at F5
  refine nExecs_app (gE (s := { s with heap := h5, toks := q5 }) bE hcs B F5 K T (fun _ h => (nomatch h)) fun ad h6 q6 hj F6 S6 => ⟨rfl, ?_⟩)
  have hm6 : Has (wr [("told", .ref (ad 28)), ("asked", .ref (ad 27)), ("up", .ref (ad 26)), ("down", .ref (ad 25)), ("layers", .ref (ad 24))] m3) (bas ad) :=
    (has_wr (m := m3) (l := [("told", .ref (ad 28)), ("asked", .ref (ad 27)), ("up", .ref (ad 26)), ("down", .ref (ad 25)), ("layers", .ref (ad 24))]) (by show [("told" : Str), "asked", "up", "down", "layers"].Nodup; decide)).sub (fun x hx => by simp only [bas, List.mem_cons, List.not_mem_nil, or_false] at hx ⊢; rcases hx with rfl | rfl | rfl | rfl | rfl <;> simp)
  have hs6 : Has (wr [("told", .ref (ad 28)), ("asked", .ref (ad 27)), ("up", .ref (ad 26)), ("down", .ref (ad 25)), ("layers", .ref (ad 24))] m3) [("script", .ref sa)] := fun x hx => by
    rw [List.mem_singleton.mp hx]
    exact (wr_off (by show ("script" : Str) ∉ [("told" : Str), "asked", "up", "down", "layers"]; decide)).trans hs3
  have kk : cs.kind = .function := by injection hcs with hcs; subst hcs; rfl
  have kn : cs.names.lookup ("n" : Str) = some NameKind.local := by injection hcs with hcs; subst hcs; rfl
  refine nExecs_cons (loop (s := { s with heap := h6, toks := q6 }) b15 hcs kk kn B F6 K T hj hs6 hm6 S6 hl hi h63 fun h7 q7 m7 F7 => ?_)
  refine nExecs_cons (wpN_any (wpAny_mono (gR (s := { s with heap := h7, toks := q7 }) b16 hcs F7) (fun f s' hd => ?_) fun _ _ x => x))
  obtain ⟨rfl, hd⟩ := hd
  exact ⟨rfl, hd⟩
end
end Mine
end
section
open PySem PySem.W PyProof.Rows PySem.Calls
set_option Elab.async false
set_option linter.unusedVariables false
set_option maxRecDepth 100000
set_option maxHeartbeats 8000000
namespace Mine
theorem loose_is : looseW Mine.V LS0 = LS := by decide +kernel
theorem enter_callN {M : Model} {A : Around} {s : Shared} {f : Value} {pos : List Value} {kw : List (Str × Value)} {c : ClaimW} {cl : Str → Option Addr} {mean : ExcName → Option Value} {args : List WData} {s₁ : Shared}
    (h : codeN M A (.call f ⟨pos, kw⟩) (GoodWG c cl mean args s₁) s) : wpN M A (PySem.call f pos kw) (fun v s' => GoodWG c cl mean args s₁ (.ok (.ret v)) s') (fun e s' => GoodWG c cl mean args s₁ (.error e) s') s :=
  wpN_call (codeN_mono h fun res s' g => by rcases g.1 with ⟨v, _, _, rfl, _⟩ | ⟨e, _, _, rfl, _⟩ <;> exact g)
theorem walked : Walked := by
  intro d kwd hdk
  have hdk' : defOf Mine.V PySem.Challenge.rw_bj5003_01.row.name = some _ := rfl
  obtain ⟨rfl, rfl⟩ := Prod.mk.inj (Option.some.inj (hdk'.symm.trans hdk))
  clear hdk hdk'
  w_on
  k_fill
  intro w s₀ s₁ mg mb G Y fa o pm cd doc dV kV ho hd hcd hD hmg hg args vals as hpre hlay hrd hwl hlo
  have KX := kIn_of Y
  refine Ground.open G ?_
  intro T B D TE TW
  rw [loose_is] at T
  clear B D TE TW
  have K0 := below_caller (Top.heap T)
  wrow_args hpre hlay hrd hwl hlo
  rename IntsAre _ _ => hI
  rename Heap.IsList _ _ _ => hL
  refine enter_callN ?_
  have he := Dflts.none hD rfl
  subst he
  refine call_fullN (by decide) ho hd (Top.nolimit T) hcd (BindsTo.of_eq rfl) (locs rfl) (fun h₁ F => ?_) rfl rfl rfl (by decide)
  refine wpN_mono (lawWhole (s := { s₁ with heap := h₁, toks := s₁.toks + _ }) rfl rfl K0 F KX T rfl hL hI (by omega)) ?_ fun _ _ x => x
  rintro f s' ⟨rfl, h', tk', m', rfl, F'⟩
  dsimp only
  refine GoodW.toG ?_
  wrow_close
end Mine
end
theorem PySem.Challenge.cw_bj5003_01_holds : PySem.Challenge.rw_bj5003_01.Holds := by
  exact @Mine.hdd ⟨Mine.walked⟩
