/-
  Within the law's loop over the parts, from region 45 on: the model's table is filled.
-/
import Derived.Test.YbulkexmzaTe
namespace Go.Proofs.Ybulkexmza
open Go.RowKit Go.Maps
open Go.WideMaps (keyOf_string_mk)

set_option maxHeartbeats 8000000 in
set_option maxRecDepth 1000000 in
theorem t45 {c1 c2 c3 c4 c7 c8 c9 c10 c11 c12 c13 c19 c20 c24 c25 c26 c27 c28 c29 c30 c31 c32 c33 c34 c35 c36 c37 c38 c39 c40 c41 c42 c43 c44 c45 c46 c47 c48 c49 c50 c51 c52 c53 c54 c55 c56 c57 c58 c59 c60 c61 c62 c63 c64 c65 c66 c67 c68 c69 c70 c71 c72 c73 c74 c75 c76 c77 c78 c79 c80 c81 c82 c83 c84 c85 c86 c87 c88 c89 c90 c91 c92 c93 c94 c95 c96 c97 c98 c99 c100 c101 c102 c103 c104 c105 c106 c107 c108 c109 c110 c111 c112 c113 c114 c115 c116 c117 c118 c119 c120 c121 c122 c123 c124 c125 c126 c127 c128 c129 c130 c131 c132 c133 c134 c135 c136 c137 c138 c139 c140 c141 c142 c143 c144 c145 c146 c147 c148 c149 c150 c151 c152 c153 c154 c155 c156 c157 c158 c159 c160 c161 c162 c163 c164 c165 c166 c167 c168 c169 c170 c171 c172 c173 c174 c175 c176 c177 c178 c179 c180 c181 c182 c183 c184 c185 c186 c187 c188 c189 c190 c191 c192 c193 c194 c195 c196 c197 c198 c199 c200 c201 c202 c203 c204 c205 c206 c207 c208 c209 c210 c211 c212 c213 c214 c215 c216 c217 c218 c219 c220 c221 c222 c223 c224 c225 c226 c227 c228 c229 c230 c231 c232 c233 c234 c235 c236 c237 c238 c239 c240 c241 c242 c243 c244 c245 c246 c247 c248 c249 c250 c251 c252 c253 c254 c255 c256 c257 c258 c259 c260 c261 c262 c263 c264 c265 c266 c267 c268 c269 c270 c271 c272 c273 c274 c275 c276 c277 c278 c279 c280 c281 c282 c283 c284 c285 c286 c287 c288 c289 c290 c291 c292 c293 c294 c295 c296 c297 c298 c299 c300 c301 c302 c303 c304 c305 c306 c307 c308 c309 c310 c311 c312 c313 c314 c315 c316 c317 c318 c319 c320 c321 c322 c323 c324 c325 c326 c327 c328 c329 c330 c331 c332 c333 c334 c335 c336 c337 c338 c339 c340 c341 c342 c343 c344 c345 c346 c347 c348 c349 c350 c351 c352 c353 c354 c355 c356 c357 c358 c359 c360 c361 c362 c363 c364 c365 c366 c367 c368 c369 c370 c371 c372 c373 c374 c375 c376 c377 c378 c379 c380 c381 c382 c383 c384 c385 c386 c387 c388 c389 c390 c391 c392 c393 c394 c395 c396 c397 c398 c399 c400 c401 c402 c403 c404 c405 c406 c407 c408 c409 c410 c411 c412 c413 c414 c415 c416 c417 c418 c419 c420 c421 c422 c423 c424 c425 c426 c427 c428 c429 c430 c431 c432 c433 c434 c435 c436 c437 c438 c439 c440 c441 c442 c443 c444 c445 c446 c447 c448 c449 c450 c451 c452 c453 c454 c455 c456 c457 c458 c459 c460 c461 c462 c463 c464 c465 c466 c467 c468 c469 c470 c471 c472 c473 c474 c475 c476 c477 c478 c479 c480 c481 c482 : Value} {w w1 : World} {X : Inp} {ar : Option Addr} {rb ro r Gc Cr : Nat} {A : Nat → Option Addr} {C AB AO : Nat → Nat} {mb mw : Nat} {Q : Exit → Act → World → Prop}
    (hX : X.Ok) (hrG : r < X.G) (hI : InM w X (some ⟨rb, ro, none⟩) rb ro A C AB AO) (har : 0 < X.L r → ar = some ⟨AB r, AO r, none⟩) (hS : CS w w1 X mb mw (sumN X.L r) (X.tab r))
    (hQ : ∀ (u2 u23 u24 u25 u26 u27 u28 u207 u208 u209 u210 u211 u212 u213 u214 u215 u216 u217 u218 u219 u220 u221 u222 u223 u224 u225 u226 u227 u228 u229 u230 u231 u232 u233 u234 u235 u236 u237 u238 u239 u240 u241 u242 u243 u244 u245 u246 u247 u248 u249 u250 u251 u252 u253 u254 u255 u256 u257 u258 u259 u260 u261 u262 u263 u264 u265 u266 u267 u268 u269 u270 u271 u272 u273 u274 u275 u276 u277 u278 u279 u280 u281 u282 u283 u284 u285 u286 u287 u288 u289 u290 u291 u292 u293 u294 u295 u296 u297 u298 u299 u300 u301 u302 u303 u304 u305 u306 u307 u308 u309 u310 u311 u312 u313 u314 u315 u316 u317 u318 u319 u320 u321 u322 u323 u324 u325 u326 u327 u328 u329 u330 u331 u332 u333 u334 u335 u336 u337 u338 u339 u340 u341 u342 u343 u344 u345 u346 u347 u348 u349 u350 u351 u352 u353 u354 u355 u356 u357 u358 u359 u360 u361 u362 u363 u364 u365 u366 u367 u368 u369 u370 u371 u372 u373 u374 u375 u376 u377 u378 u379 u380 u381 u382 u383 u384 u385 u386 u387 u388 u389 u390 u391 u392 u393 u394 u395 u396 u397 u398 u399 u400 u401 u402 u403 u404 u405 u406 u407 u408 u409 u410 u411 u412 u413 u414 u415 u416 u417 u418 u419 u420 u421 u422 u423 u424 u425 u426 u427 u428 u429 u430 u431 u432 u433 : Value) (w' : World), CS w w' X mb mw (sumN X.L (r + 1)) (X.tab (r + 1)) → Q .normal ⟨#[.slice (some ⟨rb, ro, none⟩) X.G Gc, c1, u2, c3, c4, .slice (some ⟨w.heap.size, 0, none⟩) X.G X.G, .slice (some ⟨w.heap.size + 1, 0, none⟩) X.G X.G, c7, c8, c9, c10, c11, c12, c13, .map (some mw), .int .u64 ((X.cur (r + 1) : Nat) : Int), .int .i64 (r : Nat), .slice ar (X.L r) Cr, .int .u64 ((X.pal r (X.L r) : Nat) : Int), c19, c20, .int .u64 ((X.off r : Nat) : Int), .int .u64 (4194304 + ((X.off r : Nat) : Int)), u23, u24, u25, u26, u27, u28, c29, c30, c31, c32, c33, c34, c35, c36, c37, c38, c39, c40, c41, c42, c43, c44, c45, c46, c47, c48, c49, c50, c51, c52, c53, c54, c55, c56, c57, c58, c59, c60, c61, c62, c63, c64, c65, c66, c67, c68, c69, c70, c71, c72, c73, c74, c75, c76, c77, c78, c79, c80, c81, c82, c83, c84, c85, c86, c87, c88, c89, c90, c91, c92, c93, c94, c95, c96, c97, c98, c99, c100, c101, c102, c103, c104, c105, c106, c107, c108, c109, c110, c111, c112, c113, c114, c115, c116, c117, c118, c119, c120, c121, c122, c123, c124, c125, c126, c127, c128, c129, c130, c131, c132, c133, c134, c135, c136, c137, c138, c139, c140, c141, c142, c143, c144, c145, c146, c147, c148, c149, c150, c151, c152, c153, c154, c155, c156, c157, c158, c159, c160, c161, c162, c163, c164, c165, c166, c167, c168, c169, c170, c171, c172, c173, c174, c175, c176, c177, c178, c179, c180, c181, c182, c183, c184, c185, c186, c187, c188, c189, c190, c191, c192, c193, c194, c195, c196, c197, c198, c199, c200, c201, c202, c203, c204, c205, c206, u207, u208, u209, u210, u211, u212, u213, u214, u215, u216, u217, u218, u219, u220, u221, u222, u223, u224, u225, u226, u227, u228, u229, u230, u231, u232, u233, u234, u235, u236, u237, u238, u239, u240, u241, u242, u243, u244, u245, u246, u247, u248, u249, u250, u251, u252, u253, u254, u255, u256, u257, u258, u259, u260, u261, u262, u263, u264, u265, u266, u267, u268, u269, u270, u271, u272, u273, u274, u275, u276, u277, u278, u279, u280, u281, u282, u283, u284, u285, u286, u287, u288, u289, u290, u291, u292, u293, u294, u295, u296, u297, u298, u299, u300, u301, u302, u303, u304, u305, u306, u307, u308, u309, u310, u311, u312, u313, u314, u315, u316, u317, u318, u319, u320, u321, u322, u323, u324, u325, u326, u327, u328, u329, u330, u331, u332, u333, u334, u335, u336, u337, u338, u339, u340, u341, u342, u343, u344, u345, u346, u347, u348, u349, u350, u351, u352, u353, u354, u355, u356, u357, u358, u359, u360, u361, u362, u363, u364, u365, u366, u367, u368, u369, u370, u371, u372, u373, u374, u375, u376, u377, u378, u379, u380, u381, u382, u383, u384, u385, u386, u387, u388, u389, u390, u391, u392, u393, u394, u395, u396, u397, u398, u399, u400, u401, u402, u403, u404, u405, u406, u407, u408, u409, u410, u411, u412, u413, u414, u415, u416, u417, u418, u419, u420, u421, u422, u423, u424, u425, u426, u427, u428, u429, u430, u431, u432, u433, c434, c435, c436, c437, c438, c439, c440, c441, c442, c443, c444, c445, c446, c447, c448, c449, c450, c451, c452, c453, c454, c455, c456, c457, c458, c459, c460, c461, c462, c463, c464, c465, c466, c467, c468, c469, c470, c471, c472, c473, c474, c475, c476, c477, c478, c479, c480, c481, c482], []⟩ w') :
    Code.wp Yba.prog ((Yba.f3.body.bind (codeAt 45)).getD .skip) Q ⟨#[.slice (some ⟨rb, ro, none⟩) X.G Gc, c1, c2, c3, c4, .slice (some ⟨w.heap.size, 0, none⟩) X.G X.G, .slice (some ⟨w.heap.size + 1, 0, none⟩) X.G X.G, c7, c8, c9, c10, c11, c12, c13, .map (some mw), .int .u64 ((Inp.pg r (X.cur r) : Nat) : Int), .int .i64 (r : Nat), .slice ar (X.L r) Cr, .int .u64 ((X.pal r (X.L r) : Nat) : Int), c19, c20, .int .u64 ((X.off r : Nat) : Int), .int .u64 (4194304 + ((X.off r : Nat) : Int)), .int .u64 ((X.I r : Nat) : Int), c24, c25, c26, c27, c28, c29, c30, c31, c32, c33, c34, c35, c36, c37, c38, c39, c40, c41, c42, c43, c44, c45, c46, c47, c48, c49, c50, c51, c52, c53, c54, c55, c56, c57, c58, c59, c60, c61, c62, c63, c64, c65, c66, c67, c68, c69, c70, c71, c72, c73, c74, c75, c76, c77, c78, c79, c80, c81, c82, c83, c84, c85, c86, c87, c88, c89, c90, c91, c92, c93, c94, c95, c96, c97, c98, c99, c100, c101, c102, c103, c104, c105, c106, c107, c108, c109, c110, c111, c112, c113, c114, c115, c116, c117, c118, c119, c120, c121, c122, c123, c124, c125, c126, c127, c128, c129, c130, c131, c132, c133, c134, c135, c136, c137, c138, c139, c140, c141, c142, c143, c144, c145, c146, c147, c148, c149, c150, c151, c152, c153, c154, c155, c156, c157, c158, c159, c160, c161, c162, c163, c164, c165, c166, c167, c168, c169, c170, c171, c172, c173, c174, c175, c176, c177, c178, c179, c180, c181, c182, c183, c184, c185, c186, c187, c188, c189, c190, c191, c192, c193, c194, c195, c196, c197, c198, c199, c200, c201, c202, c203, c204, c205, c206, c207, c208, c209, c210, c211, c212, c213, c214, c215, c216, c217, c218, c219, c220, c221, c222, c223, c224, c225, c226, c227, c228, c229, c230, c231, c232, c233, c234, c235, c236, c237, c238, c239, c240, c241, c242, c243, c244, c245, c246, c247, c248, c249, c250, c251, c252, c253, c254, c255, c256, c257, c258, c259, c260, c261, c262, c263, c264, c265, c266, c267, c268, c269, c270, c271, c272, c273, c274, c275, c276, c277, c278, c279, c280, c281, c282, c283, c284, c285, c286, c287, c288, c289, c290, c291, c292, c293, c294, c295, c296, c297, c298, c299, c300, c301, c302, c303, c304, c305, c306, c307, c308, c309, c310, c311, c312, c313, c314, c315, c316, c317, c318, c319, c320, c321, c322, c323, c324, c325, c326, c327, c328, c329, c330, c331, c332, c333, c334, c335, c336, c337, c338, c339, c340, c341, c342, c343, c344, c345, c346, c347, c348, c349, c350, c351, c352, c353, c354, c355, c356, c357, c358, c359, c360, c361, c362, c363, c364, c365, c366, c367, c368, c369, c370, c371, c372, c373, c374, c375, c376, c377, c378, c379, c380, c381, c382, c383, c384, c385, c386, c387, c388, c389, c390, c391, c392, c393, c394, c395, c396, c397, c398, c399, c400, c401, c402, c403, c404, c405, c406, c407, c408, c409, c410, c411, c412, c413, c414, c415, c416, c417, c418, c419, c420, c421, c422, c423, c424, c425, c426, c427, c428, c429, c430, c431, c432, c433, c434, c435, c436, c437, c438, c439, c440, c441, c442, c443, c444, c445, c446, c447, c448, c449, c450, c451, c452, c453, c454, c455, c456, c457, c458, c459, c460, c461, c462, c463, c464, c465, c466, c467, c468, c469, c470, c471, c472, c473, c474, c475, c476, c477, c478, c479, c480, c481, c482], []⟩ w1 := by
  conv => arg 2; whnf
  have HI : Hid (InM w X (some ⟨rb, ro, none⟩) rb ro A C AB AO) := hI
  have HA : Hid (0 < X.L r → ar = some ⟨AB r, AO r, none⟩) := har
  have HS : Hid (CS w w1 X mb mw (sumN X.L r + 0) (X.tb (X.tab r) r 0)) := hS
  have HQ : Hid (∀ (u2 u23 u24 u25 u26 u27 u28 u207 u208 u209 u210 u211 u212 u213 u214 u215 u216 u217 u218 u219 u220 u221 u222 u223 u224 u225 u226 u227 u228 u229 u230 u231 u232 u233 u234 u235 u236 u237 u238 u239 u240 u241 u242 u243 u244 u245 u246 u247 u248 u249 u250 u251 u252 u253 u254 u255 u256 u257 u258 u259 u260 u261 u262 u263 u264 u265 u266 u267 u268 u269 u270 u271 u272 u273 u274 u275 u276 u277 u278 u279 u280 u281 u282 u283 u284 u285 u286 u287 u288 u289 u290 u291 u292 u293 u294 u295 u296 u297 u298 u299 u300 u301 u302 u303 u304 u305 u306 u307 u308 u309 u310 u311 u312 u313 u314 u315 u316 u317 u318 u319 u320 u321 u322 u323 u324 u325 u326 u327 u328 u329 u330 u331 u332 u333 u334 u335 u336 u337 u338 u339 u340 u341 u342 u343 u344 u345 u346 u347 u348 u349 u350 u351 u352 u353 u354 u355 u356 u357 u358 u359 u360 u361 u362 u363 u364 u365 u366 u367 u368 u369 u370 u371 u372 u373 u374 u375 u376 u377 u378 u379 u380 u381 u382 u383 u384 u385 u386 u387 u388 u389 u390 u391 u392 u393 u394 u395 u396 u397 u398 u399 u400 u401 u402 u403 u404 u405 u406 u407 u408 u409 u410 u411 u412 u413 u414 u415 u416 u417 u418 u419 u420 u421 u422 u423 u424 u425 u426 u427 u428 u429 u430 u431 u432 u433 : Value) (w' : World), CS w w' X mb mw (sumN X.L (r + 1)) (X.tab (r + 1)) → Q .normal ⟨#[.slice (some ⟨rb, ro, none⟩) X.G Gc, c1, u2, c3, c4, .slice (some ⟨w.heap.size, 0, none⟩) X.G X.G, .slice (some ⟨w.heap.size + 1, 0, none⟩) X.G X.G, c7, c8, c9, c10, c11, c12, c13, .map (some mw), .int .u64 ((X.cur (r + 1) : Nat) : Int), .int .i64 (r : Nat), .slice ar (X.L r) Cr, .int .u64 ((X.pal r (X.L r) : Nat) : Int), c19, c20, .int .u64 ((X.off r : Nat) : Int), .int .u64 (4194304 + ((X.off r : Nat) : Int)), u23, u24, u25, u26, u27, u28, c29, c30, c31, c32, c33, c34, c35, c36, c37, c38, c39, c40, c41, c42, c43, c44, c45, c46, c47, c48, c49, c50, c51, c52, c53, c54, c55, c56, c57, c58, c59, c60, c61, c62, c63, c64, c65, c66, c67, c68, c69, c70, c71, c72, c73, c74, c75, c76, c77, c78, c79, c80, c81, c82, c83, c84, c85, c86, c87, c88, c89, c90, c91, c92, c93, c94, c95, c96, c97, c98, c99, c100, c101, c102, c103, c104, c105, c106, c107, c108, c109, c110, c111, c112, c113, c114, c115, c116, c117, c118, c119, c120, c121, c122, c123, c124, c125, c126, c127, c128, c129, c130, c131, c132, c133, c134, c135, c136, c137, c138, c139, c140, c141, c142, c143, c144, c145, c146, c147, c148, c149, c150, c151, c152, c153, c154, c155, c156, c157, c158, c159, c160, c161, c162, c163, c164, c165, c166, c167, c168, c169, c170, c171, c172, c173, c174, c175, c176, c177, c178, c179, c180, c181, c182, c183, c184, c185, c186, c187, c188, c189, c190, c191, c192, c193, c194, c195, c196, c197, c198, c199, c200, c201, c202, c203, c204, c205, c206, u207, u208, u209, u210, u211, u212, u213, u214, u215, u216, u217, u218, u219, u220, u221, u222, u223, u224, u225, u226, u227, u228, u229, u230, u231, u232, u233, u234, u235, u236, u237, u238, u239, u240, u241, u242, u243, u244, u245, u246, u247, u248, u249, u250, u251, u252, u253, u254, u255, u256, u257, u258, u259, u260, u261, u262, u263, u264, u265, u266, u267, u268, u269, u270, u271, u272, u273, u274, u275, u276, u277, u278, u279, u280, u281, u282, u283, u284, u285, u286, u287, u288, u289, u290, u291, u292, u293, u294, u295, u296, u297, u298, u299, u300, u301, u302, u303, u304, u305, u306, u307, u308, u309, u310, u311, u312, u313, u314, u315, u316, u317, u318, u319, u320, u321, u322, u323, u324, u325, u326, u327, u328, u329, u330, u331, u332, u333, u334, u335, u336, u337, u338, u339, u340, u341, u342, u343, u344, u345, u346, u347, u348, u349, u350, u351, u352, u353, u354, u355, u356, u357, u358, u359, u360, u361, u362, u363, u364, u365, u366, u367, u368, u369, u370, u371, u372, u373, u374, u375, u376, u377, u378, u379, u380, u381, u382, u383, u384, u385, u386, u387, u388, u389, u390, u391, u392, u393, u394, u395, u396, u397, u398, u399, u400, u401, u402, u403, u404, u405, u406, u407, u408, u409, u410, u411, u412, u413, u414, u415, u416, u417, u418, u419, u420, u421, u422, u423, u424, u425, u426, u427, u428, u429, u430, u431, u432, u433, c434, c435, c436, c437, c438, c439, c440, c441, c442, c443, c444, c445, c446, c447, c448, c449, c450, c451, c452, c453, c454, c455, c456, c457, c458, c459, c460, c461, c462, c463, c464, c465, c466, c467, c468, c469, c470, c471, c472, c473, c474, c475, c476, c477, c478, c479, c480, c481, c482], []⟩ w') := hQ
  clear hI har hS hQ
  have hG := hX.g
  have hLr := hX.l hrG
  have hss := hX.s
  have hsa := sumN_at X.L hrG
  obtain ⟨b1, b2, b3⟩ := hX.small hrG
  refine wp_seq_hid (fun K HK => ?_)
  go_wp2
  go_loopg [23, 24] (X.L r) (fun g s23 s24 wx => ∃ j : Nat, j ≤ X.L r ∧ g = X.L r - j ∧ s24 = .int .i64 j ∧ s23 = .int .u64 ((X.sz r j : Nat) : Int) ∧ CS w wx X mb mw (sumN X.L r + j) (X.tb (X.tab r) r j))
  case atStart => exact ⟨0, Nat.zero_le _, rfl, rfl, rfl, HS.out⟩
  case round =>
    clear HS
    obtain ⟨j, hj, rfl, rfl, rfl, hS⟩ := hrel
    have HS : Hid (CS w wr X mb mw (sumN X.L r + j) (X.tb (X.tab r) r j)) := hS
    clear hS
    by_cases hjL : j < X.L r
    · have hjz : (j : Int) < (X.L r : Int) := by omega
      have e1 := HA.out (by omega)
      subst e1
      have hI := HI.out.since HS.out.mem.since
      have s0 := hI.s0 r hrG j hjL
      have s1 := hI.s1 r hrG j hjL
      have s4 := hI.s4 r hrG j hjL
      clear hI
      have hb := eff_le (X.SA r j)
      have hsz := hX.szs hrG (Nat.le_of_lt hjL)
      have hup := up_le (n := X.sz r j) hb.1
      have htk := hX.tk_le hrG hjL
      have hnm := hX.sn r hrG j hjL
      have hrem := rem4 (X.SK r j)
      have HC5 : Hid (∀ w, Calls Yba.prog 5 #[.int .u8 ((X.SA r j : Nat) : Int)] w fun e w' => e = .returned (.int .i64 (al (X.SA r j))) ∧ w = w') := align_any (X.SA r j) (hX.sa r hrG j hjL)
      have HC8 : Hid (∀ w, Calls Yba.prog 8 #[.int .i64 (al (X.SA r j))] w fun e w' => e = .returned (.int .u64 ((eff (X.SA r j) : Nat) : Int)) ∧ w = w') := beff_any (X.SA r j)
      have HC7 : Hid (∀ w, Calls Yba.prog 7 #[.int .u64 ((X.sz r j : Nat) : Int), .int .u64 ((eff (X.SA r j) : Nat) : Int)] w fun e w' => e = .returned (.int .u64 ((up (X.sz r j) (eff (X.SA r j)) : Nat) : Int)) ∧ w = w') := bround_any (X.sz r j) (eff (X.SA r j)) hb.1 (by omega)
      obtain ⟨un, hun⟩ : ∃ un, un = up (X.sz r j) (eff (X.SA r j)) := ⟨_, rfl⟩
      have HSZ : Hid (X.sz r (j + 1) = un + X.tk r j) := by rw [hun]; rfl
      have HTB : Hid (X.tb (X.tab r) r (j + 1) = (X.tb (X.tab r) r j).put (X.key r j) (.lit (.int .u64 (4194304 + ((X.off r : Nat) : Int) + (un : Int))))) := by
        have e : ((X.ad r j : Nat) : Int) = 4194304 + ((X.off r : Nat) : Int) + (un : Int) := by rw [hun]; simp [Inp.ad]
        rw [← e]; rfl
      rw [← hun] at HC7 hup
      clear hun
      have hub : un ≤ 10000020000 := by omega
      generalize al (X.SA r j) = z at *
      generalize eff (X.SA r j) = ef at *
      generalize X.SA r j = sa at *
      refine wp_seq_hid (fun K2 HK2 => ?_)
      go_wp2
      refine HK2.out _ _ ?_
      clear HK2 K2
      refine wp_seq_hid (fun K2 HK2 => ?_)
      refine wp_block ?_
      refine wp_seq_hid (fun K3 HK3 => ?_)
      go_wp2_with (first | (go_at_call 5; refine Calls.mono (HC5.out _) ?_; rintro e w' ⟨rfl, hw⟩; cases hw; dsimp only) | (go_at_call 8; refine Calls.mono (HC8.out _) ?_; rintro e w' ⟨rfl, hw⟩; cases hw; dsimp only) | (go_at_call 7; refine Calls.mono (HC7.out _) ?_; rintro e w' ⟨rfl, hw⟩; cases hw; dsimp only))
      refine HK3.out _ _ ?_
      clear HK3 K3 HC5 HC7 HC8 hup hb s4
      refine wp_seq_hid (fun K3 HK3 => ?_)
      go_wp2_with (at_mapUpdate; refine wpList_mapUpdate_own _ rfl _ _ _ 43 rfl 9 40 keyed Yba.underlying43 _ mw _ _ rfl HS.out.want (by unfold maxLen; omega) _ _ _ rfl rfl (keyOf_string_mk Yba.underlying9 hnm) _ [] (plainElem_int Yba.underlying40 (by simp [Lit.wf, IntKind.min, IntKind.max, IntKind.signed, IntKind.bits]; omega)) ?_; intro w6 hown hgrow)
      have HV : Hid (CS w w6 X mb mw (sumN X.L r + (j + 1)) (X.tb (X.tab r) r (j + 1))) := by
        rw [HTB.out]; exact HS.out.put hown hgrow
      clear hown hgrow HS HTB
      refine HK3.out _ _ ?_
      clear HK3 K3 s0 s1
      have hI := HI.out.since HV.out.mem.since
      have s1 := hI.s1 r hrG j hjL
      have s2 := hI.s2 r hrG j hjL
      have s3 := hI.s3 r hrG j hjL
      clear hI
      have htd : X.tk r j = if X.SK r j % 4 = 2 then X.SZ r j else X.SD r j := rfl
      rw [htd] at htk HSZ
      clear htd
      generalize X.SK r j % 4 = k at *
      generalize X.SZ r j = sz at *
      generalize X.SD r j = sd at *
      by_cases hk2 : k = 2
      · subst hk2
        rw [if_pos rfl] at htk HSZ
        go_wp2
        refine HK2.out _ _ ?_
        go_wp2
        go_roundg (X.L r - (j + 1))
        case measure => go_light; omega
        case rel => go_light; exact ⟨j + 1, hjL, rfl, by simp, by rw [HSZ.out]; simp, HV.out⟩
      · have hkb : ((k : Int) == 2) = false := by simp; omega
        rw [if_neg hk2] at htk HSZ
        go_wp2
        refine HK2.out _ _ ?_
        go_wp2
        go_roundg (X.L r - (j + 1))
        case measure => go_light; omega
        case rel => go_light; exact ⟨j + 1, hjL, rfl, by simp, by rw [HSZ.out]; simp, HV.out⟩
    · have hjz : ¬ (j : Int) < (X.L r : Int) := by omega
      obtain rfl : j = X.L r := by omega
      go_wp2
      refine HK.out _ _ ?_
      clear HK
      refine t53 hX hrG (HI.out.since HS.out.mem.since) HA.out HS.out ?_
      intros
      apply HQ.out
      exact HS.out.drewN _
end Go.Proofs.Ybulkexmza
