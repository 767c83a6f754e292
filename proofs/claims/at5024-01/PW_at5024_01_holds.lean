import PyProof.Rows.All
import Wide.All
import OpenK.AllK
import Open.Tops
import Wide.FinOn
import PySem.Challenge.RW_at5024_01
set_option Elab.async false

section
open PySem PySem.W PyProof.Rows
set_option maxRecDepth 100000 in
set_option maxHeartbeats 8000000 in
open_shared Mine.top for PySem.Challenge.pw_at5024_01 leaving 0
end

section
open PySem PySem.W PyProof.Rows
namespace Mine
set_option maxRecDepth 100000
noncomputable def K0 : Params → List (Nat × PySem.Obj) := fun P =>
  (nat_lit 2, PySem.W.boot_o_2 P) ::
  (nat_lit 3, Mine.top.o_370 P) ::
  (nat_lit 15, Mine.top.o_7 P) ::
  (nat_lit 17, Mine.top.o_9 P) ::
  (nat_lit 18, Mine.top.o_10 P) ::
  (nat_lit 20, Mine.top.o_12 P) ::
  (nat_lit 21, Mine.top.o_13 P) ::
  (nat_lit 22, Mine.top.o_14 P) ::
  (nat_lit 24, Mine.top.o_16 P) ::
  (nat_lit 25, Mine.top.o_17 P) ::
  (nat_lit 27, Mine.top.o_19 P) ::
  (nat_lit 28, Mine.top.o_20 P) ::
  (nat_lit 29, Mine.top.o_21 P) ::
  (nat_lit 31, Mine.top.o_23 P) ::
  (nat_lit 32, Mine.top.o_24 P) ::
  (nat_lit 34, Mine.top.o_26 P) ::
  (nat_lit 35, Mine.top.o_27 P) ::
  (nat_lit 36, Mine.top.o_28 P) ::
  (nat_lit 37, Mine.top.o_32 P) ::
  (nat_lit 44, Mine.top.o_39 P) ::
  (nat_lit 46, Mine.top.o_41 P) ::
  (nat_lit 47, Mine.top.o_42 P) ::
  (nat_lit 49, Mine.top.o_44 P) ::
  (nat_lit 50, Mine.top.o_45 P) ::
  (nat_lit 51, Mine.top.o_46 P) ::
  (nat_lit 53, Mine.top.o_48 P) ::
  (nat_lit 54, Mine.top.o_49 P) ::
  (nat_lit 56, Mine.top.o_51 P) ::
  (nat_lit 57, Mine.top.o_52 P) ::
  (nat_lit 58, Mine.top.o_53 P) ::
  (nat_lit 60, Mine.top.o_55 P) ::
  (nat_lit 61, Mine.top.o_56 P) ::
  (nat_lit 63, Mine.top.o_58 P) ::
  (nat_lit 64, Mine.top.o_59 P) ::
  (nat_lit 65, Mine.top.o_60 P) ::
  (nat_lit 67, Mine.top.o_62 P) ::
  (nat_lit 68, Mine.top.o_63 P) ::
  (nat_lit 70, Mine.top.o_65 P) ::
  (nat_lit 71, Mine.top.o_66 P) ::
  (nat_lit 72, Mine.top.o_67 P) ::
  (nat_lit 74, Mine.top.o_69 P) ::
  (nat_lit 75, Mine.top.o_70 P) ::
  (nat_lit 77, Mine.top.o_72 P) ::
  (nat_lit 78, Mine.top.o_73 P) ::
  (nat_lit 79, Mine.top.o_74 P) ::
  (nat_lit 81, Mine.top.o_76 P) ::
  (nat_lit 82, Mine.top.o_77 P) ::
  (nat_lit 84, Mine.top.o_79 P) ::
  (nat_lit 85, Mine.top.o_80 P) ::
  (nat_lit 86, Mine.top.o_81 P) ::
  (nat_lit 88, Mine.top.o_83 P) ::
  (nat_lit 89, Mine.top.o_84 P) ::
  (nat_lit 91, Mine.top.o_86 P) ::
  (nat_lit 92, Mine.top.o_87 P) ::
  (nat_lit 93, Mine.top.o_88 P) ::
  (nat_lit 94, Mine.top.o_89 P) ::
  (nat_lit 95, Mine.top.o_124 P) ::
  (nat_lit 96, Mine.top.o_91 P) ::
  (nat_lit 97, Mine.top.o_92 P) ::
  (nat_lit 100, Mine.top.o_98 P) ::
  (nat_lit 102, Mine.top.o_100 P) ::
  (nat_lit 103, Mine.top.o_101 P) ::
  (nat_lit 105, Mine.top.o_103 P) ::
  (nat_lit 106, Mine.top.o_104 P) ::
  (nat_lit 107, Mine.top.o_105 P) ::
  (nat_lit 108, Mine.top.o_106 P) ::
  (nat_lit 110, Mine.top.o_108 P) ::
  (nat_lit 111, Mine.top.o_109 P) ::
  (nat_lit 113, Mine.top.o_111 P) ::
  (nat_lit 114, Mine.top.o_112 P) ::
  (nat_lit 115, Mine.top.o_113 P) ::
  (nat_lit 116, Mine.top.o_114 P) ::
  (nat_lit 118, Mine.top.o_116 P) ::
  (nat_lit 119, Mine.top.o_117 P) ::
  (nat_lit 121, Mine.top.o_119 P) ::
  (nat_lit 122, Mine.top.o_120 P) ::
  (nat_lit 123, Mine.top.o_125 P) ::
  (nat_lit 130, Mine.top.o_132 P) ::
  (nat_lit 131, Mine.top.o_133 P) ::
  (nat_lit 132, Mine.top.o_134 P) ::
  (nat_lit 134, Mine.top.o_136 P) ::
  (nat_lit 135, Mine.top.o_137 P) ::
  (nat_lit 137, Mine.top.o_139 P) ::
  (nat_lit 138, Mine.top.o_140 P) ::
  (nat_lit 139, Mine.top.o_141 P) ::
  (nat_lit 141, Mine.top.o_143 P) ::
  (nat_lit 142, Mine.top.o_144 P) ::
  (nat_lit 144, Mine.top.o_146 P) ::
  (nat_lit 145, Mine.top.o_147 P) ::
  (nat_lit 146, Mine.top.o_148 P) ::
  (nat_lit 148, Mine.top.o_150 P) ::
  (nat_lit 149, Mine.top.o_151 P) ::
  (nat_lit 151, Mine.top.o_153 P) ::
  (nat_lit 152, Mine.top.o_154 P) ::
  (nat_lit 153, Mine.top.o_155 P) ::
  (nat_lit 154, Mine.top.o_156 P) ::
  (nat_lit 155, Mine.top.o_157 P) ::
  (nat_lit 158, Mine.top.o_163 P) ::
  (nat_lit 159, Mine.top.o_164 P) ::
  (nat_lit 161, Mine.top.o_166 P) ::
  (nat_lit 162, Mine.top.o_167 P) ::
  (nat_lit 164, Mine.top.o_169 P) ::
  (nat_lit 165, Mine.top.o_170 P) ::
  (nat_lit 173, Mine.top.o_178 P) ::
  (nat_lit 175, Mine.top.o_180 P) ::
  (nat_lit 176, Mine.top.o_181 P) ::
  (nat_lit 178, Mine.top.o_183 P) ::
  (nat_lit 179, Mine.top.o_184 P) ::
  (nat_lit 180, Mine.top.o_185 P) ::
  (nat_lit 181, Mine.top.o_186 P) ::
  (nat_lit 183, Mine.top.o_188 P) ::
  (nat_lit 184, Mine.top.o_189 P) ::
  (nat_lit 186, Mine.top.o_191 P) ::
  (nat_lit 187, Mine.top.o_192 P) ::
  (nat_lit 188, Mine.top.o_193 P) ::
  (nat_lit 190, Mine.top.o_195 P) ::
  (nat_lit 191, Mine.top.o_196 P) ::
  (nat_lit 193, Mine.top.o_198 P) ::
  (nat_lit 194, Mine.top.o_199 P) ::
  (nat_lit 195, Mine.top.o_200 P) ::
  (nat_lit 197, Mine.top.o_202 P) ::
  (nat_lit 198, Mine.top.o_203 P) ::
  (nat_lit 200, Mine.top.o_205 P) ::
  (nat_lit 201, Mine.top.o_206 P) ::
  (nat_lit 202, Mine.top.o_207 P) ::
  (nat_lit 203, Mine.top.o_208 P) ::
  (nat_lit 204, Mine.top.o_209 P) ::
  (nat_lit 205, Mine.top.o_210 P) ::
  (nat_lit 206, Mine.top.o_211 P) ::
  (nat_lit 209, Mine.top.o_217 P) ::
  (nat_lit 212, Mine.top.o_220 P) ::
  (nat_lit 217, Mine.top.o_225 P) ::
  (nat_lit 218, Mine.top.o_226 P) ::
  (nat_lit 219, Mine.top.o_227 P) ::
  (nat_lit 220, Mine.top.o_228 P) ::
  (nat_lit 222, Mine.top.o_230 P) ::
  (nat_lit 223, Mine.top.o_231 P) ::
  (nat_lit 225, Mine.top.o_233 P) ::
  (nat_lit 226, Mine.top.o_234 P) ::
  (nat_lit 227, Mine.top.o_235 P) ::
  (nat_lit 229, Mine.top.o_237 P) ::
  (nat_lit 230, Mine.top.o_238 P) ::
  (nat_lit 232, Mine.top.o_240 P) ::
  (nat_lit 233, Mine.top.o_241 P) ::
  (nat_lit 234, Mine.top.o_242 P) ::
  (nat_lit 235, Mine.top.o_243 P) ::
  (nat_lit 236, Mine.top.o_244 P) ::
  (nat_lit 237, Mine.top.o_245 P) ::
  (nat_lit 238, Mine.top.o_246 P) ::
  (nat_lit 240, Mine.top.o_248 P) ::
  (nat_lit 241, Mine.top.o_249 P) ::
  (nat_lit 243, Mine.top.o_251 P) ::
  (nat_lit 244, Mine.top.o_252 P) ::
  (nat_lit 245, Mine.top.o_253 P) ::
  (nat_lit 247, Mine.top.o_255 P) ::
  (nat_lit 248, Mine.top.o_256 P) ::
  (nat_lit 250, Mine.top.o_258 P) ::
  (nat_lit 251, Mine.top.o_259 P) ::
  (nat_lit 252, Mine.top.o_260 P) ::
  (nat_lit 254, Mine.top.o_262 P) ::
  (nat_lit 255, Mine.top.o_263 P) ::
  (nat_lit 257, Mine.top.o_265 P) ::
  (nat_lit 258, Mine.top.o_266 P) ::
  (nat_lit 259, Mine.top.o_267 P) ::
  (nat_lit 261, Mine.top.o_269 P) ::
  (nat_lit 262, Mine.top.o_270 P) ::
  (nat_lit 264, Mine.top.o_272 P) ::
  (nat_lit 265, Mine.top.o_273 P) ::
  (nat_lit 266, Mine.top.o_274 P) ::
  (nat_lit 267, Mine.top.o_275 P) ::
  (nat_lit 268, Mine.top.o_276 P) ::
  (nat_lit 270, Mine.top.o_278 P) ::
  (nat_lit 271, Mine.top.o_279 P) ::
  (nat_lit 273, Mine.top.o_281 P) ::
  (nat_lit 274, Mine.top.o_282 P) ::
  (nat_lit 276, Mine.top.o_284 P) ::
  (nat_lit 277, Mine.top.o_285 P) ::
  (nat_lit 279, Mine.top.o_287 P) ::
  (nat_lit 280, Mine.top.o_288 P) ::
  (nat_lit 282, Mine.top.o_290 P) ::
  (nat_lit 284, Mine.top.o_292 P) ::
  (nat_lit 285, Mine.top.o_293 P) ::
  (nat_lit 286, Mine.top.o_294 P) ::
  (nat_lit 289, Mine.top.o_372 P) ::
  (nat_lit 290, Mine.top.o_373 P) ::
  (nat_lit 291, Mine.top.o_374 P) ::
  (nat_lit 293, Mine.top.o_376 P) ::
  (nat_lit 294, Mine.top.o_377 P) ::
  (nat_lit 296, Mine.top.o_379 P) ::
  (nat_lit 297, Mine.top.o_380 P) ::
  (nat_lit 298, Mine.top.o_381 P) ::
  (nat_lit 301, Mine.top.o_384 P) ::
  (nat_lit 302, Mine.top.o_385 P) :: []

local macro_rules | `(tactic| k_head) => `(tactic| o_head (kmHook Mine.K0 (nat_lit 2 :: nat_lit 3 :: nat_lit 15 :: nat_lit 17 :: nat_lit 18 :: nat_lit 20 :: nat_lit 21 :: nat_lit 22 :: nat_lit 24 :: nat_lit 25 :: nat_lit 27 :: nat_lit 28 :: nat_lit 29 :: nat_lit 31 :: nat_lit 32 :: nat_lit 34 :: nat_lit 35 :: nat_lit 36 :: nat_lit 37 :: nat_lit 44 :: nat_lit 46 :: nat_lit 47 :: nat_lit 49 :: nat_lit 50 :: nat_lit 51 :: nat_lit 53 :: nat_lit 54 :: nat_lit 56 :: nat_lit 57 :: nat_lit 58 :: nat_lit 60 :: nat_lit 61 :: nat_lit 63 :: nat_lit 64 :: nat_lit 65 :: nat_lit 67 :: nat_lit 68 :: nat_lit 70 :: nat_lit 71 :: nat_lit 72 :: nat_lit 74 :: nat_lit 75 :: nat_lit 77 :: nat_lit 78 :: nat_lit 79 :: nat_lit 81 :: nat_lit 82 :: nat_lit 84 :: nat_lit 85 :: nat_lit 86 :: nat_lit 88 :: nat_lit 89 :: nat_lit 91 :: nat_lit 92 :: nat_lit 93 :: nat_lit 94 :: nat_lit 95 :: nat_lit 96 :: nat_lit 97 :: nat_lit 100 :: nat_lit 102 :: nat_lit 103 :: nat_lit 105 :: nat_lit 106 :: nat_lit 107 :: nat_lit 108 :: nat_lit 110 :: nat_lit 111 :: nat_lit 113 :: nat_lit 114 :: nat_lit 115 :: nat_lit 116 :: nat_lit 118 :: nat_lit 119 :: nat_lit 121 :: nat_lit 122 :: nat_lit 123 :: nat_lit 130 :: nat_lit 131 :: nat_lit 132 :: nat_lit 134 :: nat_lit 135 :: nat_lit 137 :: nat_lit 138 :: nat_lit 139 :: nat_lit 141 :: nat_lit 142 :: nat_lit 144 :: nat_lit 145 :: nat_lit 146 :: nat_lit 148 :: nat_lit 149 :: nat_lit 151 :: nat_lit 152 :: nat_lit 153 :: nat_lit 154 :: nat_lit 155 :: nat_lit 158 :: nat_lit 159 :: nat_lit 161 :: nat_lit 162 :: nat_lit 164 :: nat_lit 165 :: nat_lit 173 :: nat_lit 175 :: nat_lit 176 :: nat_lit 178 :: nat_lit 179 :: nat_lit 180 :: nat_lit 181 :: nat_lit 183 :: nat_lit 184 :: nat_lit 186 :: nat_lit 187 :: nat_lit 188 :: nat_lit 190 :: nat_lit 191 :: nat_lit 193 :: nat_lit 194 :: nat_lit 195 :: nat_lit 197 :: nat_lit 198 :: nat_lit 200 :: nat_lit 201 :: nat_lit 202 :: nat_lit 203 :: nat_lit 204 :: nat_lit 205 :: nat_lit 206 :: nat_lit 209 :: nat_lit 212 :: nat_lit 217 :: nat_lit 218 :: nat_lit 219 :: nat_lit 220 :: nat_lit 222 :: nat_lit 223 :: nat_lit 225 :: nat_lit 226 :: nat_lit 227 :: nat_lit 229 :: nat_lit 230 :: nat_lit 232 :: nat_lit 233 :: nat_lit 234 :: nat_lit 235 :: nat_lit 236 :: nat_lit 237 :: nat_lit 238 :: nat_lit 240 :: nat_lit 241 :: nat_lit 243 :: nat_lit 244 :: nat_lit 245 :: nat_lit 247 :: nat_lit 248 :: nat_lit 250 :: nat_lit 251 :: nat_lit 252 :: nat_lit 254 :: nat_lit 255 :: nat_lit 257 :: nat_lit 258 :: nat_lit 259 :: nat_lit 261 :: nat_lit 262 :: nat_lit 264 :: nat_lit 265 :: nat_lit 266 :: nat_lit 267 :: nat_lit 268 :: nat_lit 270 :: nat_lit 271 :: nat_lit 273 :: nat_lit 274 :: nat_lit 276 :: nat_lit 277 :: nat_lit 279 :: nat_lit 280 :: nat_lit 282 :: nat_lit 284 :: nat_lit 285 :: nat_lit 286 :: nat_lit 289 :: nat_lit 290 :: nat_lit 291 :: nat_lit 293 :: nat_lit 294 :: nat_lit 296 :: nat_lit 297 :: nat_lit 298 :: nat_lit 301 :: nat_lit 302 :: []) (fun _ => by kernel_rfl) [299]))
set_option maxRecDepth 100000 in
set_option maxHeartbeats 8000000 in
open_top hd for PySem.Challenge.rw_at5024_01
noncomputable def K : Params → Frag := fun P =>
  (nat_lit 2, PySem.W.boot_o_2 P) ::
  (nat_lit 3, Mine.top.o_370 P) ::
  (nat_lit 15, Mine.top.o_7 P) ::
  (nat_lit 17, Mine.top.o_9 P) ::
  (nat_lit 18, Mine.top.o_10 P) ::
  (nat_lit 20, Mine.top.o_12 P) ::
  (nat_lit 21, Mine.top.o_13 P) ::
  (nat_lit 22, Mine.top.o_14 P) ::
  (nat_lit 24, Mine.top.o_16 P) ::
  (nat_lit 25, Mine.top.o_17 P) ::
  (nat_lit 27, Mine.top.o_19 P) ::
  (nat_lit 28, Mine.top.o_20 P) ::
  (nat_lit 29, Mine.top.o_21 P) ::
  (nat_lit 31, Mine.top.o_23 P) ::
  (nat_lit 32, Mine.top.o_24 P) ::
  (nat_lit 34, Mine.top.o_26 P) ::
  (nat_lit 35, Mine.top.o_27 P) ::
  (nat_lit 36, Mine.top.o_28 P) ::
  (nat_lit 37, Mine.top.o_32 P) ::
  (nat_lit 44, Mine.top.o_39 P) ::
  (nat_lit 46, Mine.top.o_41 P) ::
  (nat_lit 47, Mine.top.o_42 P) ::
  (nat_lit 49, Mine.top.o_44 P) ::
  (nat_lit 50, Mine.top.o_45 P) ::
  (nat_lit 51, Mine.top.o_46 P) ::
  (nat_lit 53, Mine.top.o_48 P) ::
  (nat_lit 54, Mine.top.o_49 P) ::
  (nat_lit 56, Mine.top.o_51 P) ::
  (nat_lit 57, Mine.top.o_52 P) ::
  (nat_lit 58, Mine.top.o_53 P) ::
  (nat_lit 60, Mine.top.o_55 P) ::
  (nat_lit 61, Mine.top.o_56 P) ::
  (nat_lit 63, Mine.top.o_58 P) ::
  (nat_lit 64, Mine.top.o_59 P) ::
  (nat_lit 65, Mine.top.o_60 P) ::
  (nat_lit 67, Mine.top.o_62 P) ::
  (nat_lit 68, Mine.top.o_63 P) ::
  (nat_lit 70, Mine.top.o_65 P) ::
  (nat_lit 71, Mine.top.o_66 P) ::
  (nat_lit 72, Mine.top.o_67 P) ::
  (nat_lit 74, Mine.top.o_69 P) ::
  (nat_lit 75, Mine.top.o_70 P) ::
  (nat_lit 77, Mine.top.o_72 P) ::
  (nat_lit 78, Mine.top.o_73 P) ::
  (nat_lit 79, Mine.top.o_74 P) ::
  (nat_lit 81, Mine.top.o_76 P) ::
  (nat_lit 82, Mine.top.o_77 P) ::
  (nat_lit 84, Mine.top.o_79 P) ::
  (nat_lit 85, Mine.top.o_80 P) ::
  (nat_lit 86, Mine.top.o_81 P) ::
  (nat_lit 88, Mine.top.o_83 P) ::
  (nat_lit 89, Mine.top.o_84 P) ::
  (nat_lit 91, Mine.top.o_86 P) ::
  (nat_lit 92, Mine.top.o_87 P) ::
  (nat_lit 93, Mine.top.o_88 P) ::
  (nat_lit 94, Mine.top.o_89 P) ::
  (nat_lit 95, Mine.top.o_124 P) ::
  (nat_lit 96, Mine.top.o_91 P) ::
  (nat_lit 97, Mine.top.o_92 P) ::
  (nat_lit 100, Mine.top.o_98 P) ::
  (nat_lit 102, Mine.top.o_100 P) ::
  (nat_lit 103, Mine.top.o_101 P) ::
  (nat_lit 105, Mine.top.o_103 P) ::
  (nat_lit 106, Mine.top.o_104 P) ::
  (nat_lit 107, Mine.top.o_105 P) ::
  (nat_lit 108, Mine.top.o_106 P) ::
  (nat_lit 110, Mine.top.o_108 P) ::
  (nat_lit 111, Mine.top.o_109 P) ::
  (nat_lit 113, Mine.top.o_111 P) ::
  (nat_lit 114, Mine.top.o_112 P) ::
  (nat_lit 115, Mine.top.o_113 P) ::
  (nat_lit 116, Mine.top.o_114 P) ::
  (nat_lit 118, Mine.top.o_116 P) ::
  (nat_lit 119, Mine.top.o_117 P) ::
  (nat_lit 121, Mine.top.o_119 P) ::
  (nat_lit 122, Mine.top.o_120 P) ::
  (nat_lit 123, Mine.top.o_125 P) ::
  (nat_lit 130, Mine.top.o_132 P) ::
  (nat_lit 131, Mine.top.o_133 P) ::
  (nat_lit 132, Mine.top.o_134 P) ::
  (nat_lit 134, Mine.top.o_136 P) ::
  (nat_lit 135, Mine.top.o_137 P) ::
  (nat_lit 137, Mine.top.o_139 P) ::
  (nat_lit 138, Mine.top.o_140 P) ::
  (nat_lit 139, Mine.top.o_141 P) ::
  (nat_lit 141, Mine.top.o_143 P) ::
  (nat_lit 142, Mine.top.o_144 P) ::
  (nat_lit 144, Mine.top.o_146 P) ::
  (nat_lit 145, Mine.top.o_147 P) ::
  (nat_lit 146, Mine.top.o_148 P) ::
  (nat_lit 148, Mine.top.o_150 P) ::
  (nat_lit 149, Mine.top.o_151 P) ::
  (nat_lit 151, Mine.top.o_153 P) ::
  (nat_lit 152, Mine.top.o_154 P) ::
  (nat_lit 153, Mine.top.o_155 P) ::
  (nat_lit 154, Mine.top.o_156 P) ::
  (nat_lit 155, Mine.top.o_157 P) ::
  (nat_lit 158, Mine.top.o_163 P) ::
  (nat_lit 159, Mine.top.o_164 P) ::
  (nat_lit 161, Mine.top.o_166 P) ::
  (nat_lit 162, Mine.top.o_167 P) ::
  (nat_lit 164, Mine.top.o_169 P) ::
  (nat_lit 165, Mine.top.o_170 P) ::
  (nat_lit 173, Mine.top.o_178 P) ::
  (nat_lit 175, Mine.top.o_180 P) ::
  (nat_lit 176, Mine.top.o_181 P) ::
  (nat_lit 178, Mine.top.o_183 P) ::
  (nat_lit 179, Mine.top.o_184 P) ::
  (nat_lit 180, Mine.top.o_185 P) ::
  (nat_lit 181, Mine.top.o_186 P) ::
  (nat_lit 183, Mine.top.o_188 P) ::
  (nat_lit 184, Mine.top.o_189 P) ::
  (nat_lit 186, Mine.top.o_191 P) ::
  (nat_lit 187, Mine.top.o_192 P) ::
  (nat_lit 188, Mine.top.o_193 P) ::
  (nat_lit 190, Mine.top.o_195 P) ::
  (nat_lit 191, Mine.top.o_196 P) ::
  (nat_lit 193, Mine.top.o_198 P) ::
  (nat_lit 194, Mine.top.o_199 P) ::
  (nat_lit 195, Mine.top.o_200 P) ::
  (nat_lit 197, Mine.top.o_202 P) ::
  (nat_lit 198, Mine.top.o_203 P) ::
  (nat_lit 200, Mine.top.o_205 P) ::
  (nat_lit 201, Mine.top.o_206 P) ::
  (nat_lit 202, Mine.top.o_207 P) ::
  (nat_lit 203, Mine.top.o_208 P) ::
  (nat_lit 204, Mine.top.o_209 P) ::
  (nat_lit 205, Mine.top.o_210 P) ::
  (nat_lit 206, Mine.top.o_211 P) ::
  (nat_lit 209, Mine.top.o_217 P) ::
  (nat_lit 212, Mine.top.o_220 P) ::
  (nat_lit 217, Mine.top.o_225 P) ::
  (nat_lit 218, Mine.top.o_226 P) ::
  (nat_lit 219, Mine.top.o_227 P) ::
  (nat_lit 220, Mine.top.o_228 P) ::
  (nat_lit 222, Mine.top.o_230 P) ::
  (nat_lit 223, Mine.top.o_231 P) ::
  (nat_lit 225, Mine.top.o_233 P) ::
  (nat_lit 226, Mine.top.o_234 P) ::
  (nat_lit 227, Mine.top.o_235 P) ::
  (nat_lit 229, Mine.top.o_237 P) ::
  (nat_lit 230, Mine.top.o_238 P) ::
  (nat_lit 232, Mine.top.o_240 P) ::
  (nat_lit 233, Mine.top.o_241 P) ::
  (nat_lit 234, Mine.top.o_242 P) ::
  (nat_lit 235, Mine.top.o_243 P) ::
  (nat_lit 236, Mine.top.o_244 P) ::
  (nat_lit 237, Mine.top.o_245 P) ::
  (nat_lit 238, Mine.top.o_246 P) ::
  (nat_lit 240, Mine.top.o_248 P) ::
  (nat_lit 241, Mine.top.o_249 P) ::
  (nat_lit 243, Mine.top.o_251 P) ::
  (nat_lit 244, Mine.top.o_252 P) ::
  (nat_lit 245, Mine.top.o_253 P) ::
  (nat_lit 247, Mine.top.o_255 P) ::
  (nat_lit 248, Mine.top.o_256 P) ::
  (nat_lit 250, Mine.top.o_258 P) ::
  (nat_lit 251, Mine.top.o_259 P) ::
  (nat_lit 252, Mine.top.o_260 P) ::
  (nat_lit 254, Mine.top.o_262 P) ::
  (nat_lit 255, Mine.top.o_263 P) ::
  (nat_lit 257, Mine.top.o_265 P) ::
  (nat_lit 258, Mine.top.o_266 P) ::
  (nat_lit 259, Mine.top.o_267 P) ::
  (nat_lit 261, Mine.top.o_269 P) ::
  (nat_lit 262, Mine.top.o_270 P) ::
  (nat_lit 264, Mine.top.o_272 P) ::
  (nat_lit 265, Mine.top.o_273 P) ::
  (nat_lit 266, Mine.top.o_274 P) ::
  (nat_lit 267, Mine.top.o_275 P) ::
  (nat_lit 268, Mine.top.o_276 P) ::
  (nat_lit 270, Mine.top.o_278 P) ::
  (nat_lit 271, Mine.top.o_279 P) ::
  (nat_lit 273, Mine.top.o_281 P) ::
  (nat_lit 274, Mine.top.o_282 P) ::
  (nat_lit 276, Mine.top.o_284 P) ::
  (nat_lit 277, Mine.top.o_285 P) ::
  (nat_lit 279, Mine.top.o_287 P) ::
  (nat_lit 280, Mine.top.o_288 P) ::
  (nat_lit 282, Mine.top.o_290 P) ::
  (nat_lit 284, Mine.top.o_292 P) ::
  (nat_lit 285, Mine.top.o_293 P) ::
  (nat_lit 286, Mine.top.o_294 P) ::
  (nat_lit 289, Mine.top.o_372 P) ::
  (nat_lit 290, Mine.top.o_373 P) ::
  (nat_lit 291, Mine.top.o_374 P) ::
  (nat_lit 293, Mine.top.o_376 P) ::
  (nat_lit 294, Mine.top.o_377 P) ::
  (nat_lit 296, Mine.top.o_379 P) ::
  (nat_lit 297, Mine.top.o_380 P) ::
  (nat_lit 298, Mine.top.o_381 P) ::
  (nat_lit 301, Mine.top.o_384 P) ::
  (nat_lit 302, Mine.top.o_385 P) :: []

end Mine
end

section
open PySem PyProof.Rows
namespace Mine
theorem cells_ten {cm : Str → Option Value} {n₁ n₂ n₃ n₄ n₅ n₆ n₇ n₈ n₉ n₀ : Str} {c₁ c₂ c₃ c₄ c₅ c₆ c₇ c₈ c₉ c₀ : Addr} {cells : List (Addr × Obj)}
    (x : CellsAre cm [(n₁, c₁), (n₂, c₂), (n₃, c₃), (n₄, c₄), (n₅, c₅), (n₆, c₆), (n₇, c₇), (n₈, c₈), (n₉, c₉), (n₀, c₀)] cells) :
    ∃ o₁ o₂ o₃ o₄ o₅ o₆ o₇ o₈ o₉ o₀, cells = [(c₁, o₁), (c₂, o₂), (c₃, o₃), (c₄, o₄), (c₅, o₅), (c₆, o₆), (c₇, o₇), (c₈, o₈), (c₉, o₉), (c₀, o₀)] ∧
      o₁.data = .cell (cm n₁) ∧ o₂.data = .cell (cm n₂) ∧ o₃.data = .cell (cm n₃) ∧ o₄.data = .cell (cm n₄) ∧ o₅.data = .cell (cm n₅) ∧
      o₆.data = .cell (cm n₆) ∧ o₇.data = .cell (cm n₇) ∧ o₈.data = .cell (cm n₈) ∧ o₉.data = .cell (cm n₉) ∧ o₀.data = .cell (cm n₀) := by
  cases x with
  | cons h1 r =>
    cases r with
    | cons h2 r =>
      obtain ⟨_, _, _, _, _, _, _, _, rfl, h3, h4, h5, h6, h7, h8, h9, h0⟩ := kc_eight r
      exact ⟨_, _, _, _, _, _, _, _, _, _, rfl, h1, h2, h3, h4, h5, h6, h7, h8, h9, h0⟩
end Mine
end

section
set_option maxRecDepth 100000
namespace Mine
open PySem PySem.W PySem.Spec PySem.Calls PyProof.Rows

/-- a code object at c whose table of places is P -/
def CodeOc (oc : Obj) (c P : Addr) : Prop :=
  ∃ vs file tf flags tg inF text tt, oc.cls = .type "code" ∧ oc.data = .fields vs ∧ vs[11]? = some (.ref P) ∧ vs.getD 11 .none = .ref P ∧ vs.getD 18 .none = .str file tf ∧
    vs.getD 7 .none = .int flags tg ∧ vs.getD 9 .none = .bool inF ∧ vs.getD 10 .none = .int text tt ∧ c ≠ P
theorem CodeOc.hd {h : Heap} {c P : Addr} {oc : Obj} (x : CodeOc oc c P) (e : h.get? c = some oc) : CodeHd h c P :=
  let ⟨vs, file, tf, flags, tg, inF, text, tt, r⟩ := x
  ⟨oc, vs, file, tf, flags, tg, inF, text, tt, e, r⟩
theorem codeOc_of {h : Heap} {c P : Addr} {oc : Obj} (x : CodeHd h c P) (e : h.get? c = some oc) : CodeOc oc c P := by
  obtain ⟨o, vs, file, tf, flags, tg, inF, text, tt, e', r⟩ := x
  rw [e] at e'; cases e'
  exact ⟨vs, file, tf, flags, tg, inF, text, tt, r⟩

section
variable {M : Model} {A : Around} {E : Value → Shared → Prop} {s : Shared}

/-- the frame of a def that keeps its one argument in a cell -/
theorem nfe_one {scope : Scope} {rest : List (Str × NameKind)} {cl : List (Str × Addr)} {x : Str} {v : Value} {qual : Str} {func : Option Addr} {code : Value} {Q : Env → Shared → Prop}
    (hk : scope.kind = .function) (hn : scope.names = (x, .cell) :: rest) (hr : ∀ n acc, cellsFrom n rest acc = acc) (hp : ∀ h, pushCells h rest = h)
    (hQ : ∀ h', h'.Ns s.heap.objs.size (fun _ => none) → h'.IsCell (s.heap.objs.size + 1) (some v) → (∀ b o, s.heap.get? b = some o → h'.get? b = some o) →
      Q (newEnv scope s.heap.objs.size mainGlobals ((x, s.heap.objs.size + 1) :: cl) qual func code none builtinsNs) { s with heap := h' }) :
    wpAny M A (newFunctionEnv scope mainGlobals cl [(x, v)] qual func code none builtinsNs) Q E s := by
  simp only [newFunctionEnv, Option.isSome_none, Bool.false_eq_true, if_false]
  refine wpAny_bind (wpAny_alloc ?_)
  refine wpAny_bind (wpAny_layCells _ (fun name kind cells => by cases hkc : kind == NameKind.cell <;> simp [hkc]) _ _ _ _ ?_)
  have e1 : cellsFrom (s.heap.push { cls := .type "frame", data := .dict #[] }).objs.size scope.names cl = (x, s.heap.objs.size + 1) :: cl := by
    rw [hn]
    show cellsFrom _ rest _ = _
    rw [hr, Heap.size_push]
  have e2 : pushCells (s.heap.push { cls := .type "frame", data := .dict #[] }) scope.names = (s.heap.push { cls := .type "frame", data := .dict #[] }).push { cls := .type "cell", data := .cell none } := by
    rw [hn]
    show pushCells _ rest = _
    rw [hp]
  dsimp only
  rw [e1, e2]
  have hkx : ({ scope := scope, locals := s.heap.objs.size, globals := mainGlobals, cells := (x, s.heap.objs.size + 1) :: cl, qual := qual, func := func, code := code, frame := some s.heap.objs.size, builtins := builtinsNs } : Env).kindOf x = some .cell := by
    show scope.names.lookup x = some .cell
    rw [hn, List.lookup_cons]
    have : (x == x) = true := by simp
    rw [this]
  have hc : ((s.heap.push { cls := .type "frame", data := .dict #[] }).push { cls := .type "cell", data := .cell none }).get? (s.heap.objs.size + 1) = some { cls := .type "cell", data := .cell none } := by
    have := Heap.get?_push_size (h := s.heap.push { cls := .type "frame", data := .dict #[] }) (o := { cls := .type "cell", data := .cell none }) rfl
    rwa [Heap.size_push] at this
  have hkeep : ∀ b o, s.heap.get? b = some o → ((s.heap.push { cls := .type "frame", data := .dict #[] }).push { cls := .type "cell", data := .cell none }).get? b = some o :=
    fun b o e => Heap.get?_push_of_some _ (Heap.get?_push_of_some _ e)
  refine wpAny_bind ?_
  rw [List.forIn_cons]
  refine wpAny_bind (wpAny_bind (wpAny_storeName_cell (c := s.heap.objs.size + 1) (v₀ := none) hk hkx (by simp) ⟨_, hc, rfl⟩ fun h' hv hs => wpAny_pure ?_))
  dsimp only
  rw [List.forIn_nil]
  refine wpAny_pure (wpAny_pure ?_)
  refine hQ h' ?_ hv ?_
  · have n1 : ((s.heap.push { cls := .type "frame", data := .dict #[] }).push { cls := .type "cell", data := .cell none }).Ns s.heap.objs.size (fun _ => none) :=
      (Heap.Ns.new s.heap (.type "frame")).push _
    exact n1.sameBut hs (Nat.ne_of_lt (Nat.lt_succ_self _))
  · intro b o e
    exact (hs.2 b (Nat.ne_of_lt (Nat.lt_succ_of_lt (Heap.lt_size e)))).trans (hkeep b o e)
end

section
variable {M : Model} {A : Around} {E : Value → Shared → Prop} {s : Shared} {name qual : Str} {params : Arguments} {body : Expr} {scope : Scope} {env : Env} {c P : Addr} {ps : Array Value} {pos : Pos} {firstLine : Nat} {mg : Str → Option Value}
  {clos : List (Str × Addr)} {Q : Value → Shared → Prop}

/-- the end of a lambda's making, its own table of places seen -/
theorem lam_makeTail {dV : Value} (hne : clos.isEmpty = false) (hcl : closureFor scope env = pure clos) (hge0 : env.globals = mainGlobals) (hg : s.heap.Ns mainGlobals mg) (hcode : env.code = .ref c) (C : CodeHd s.heap c P)
    (hP : s.heap.get? P = some (tabObj ps)) (ht : TriplesOk ps.toList) (hnf : codeAmong pos ps.toList = none) (hgP : mainGlobals ≠ P) (hb : s.heap.BuiltinsAt mg P)
    (h : ∀ c' P' ctv h' tk, Heap.ExtBut P s.heap h' → s.heap.objs.size ≤ c' → c' < h'.objs.size → s.heap.objs.size ≤ P' → h'.CodeRec (.ref c') qual → CodeHd h' c' P' → h'.get? P' = some (tabObj #[]) →
      h'.get? P = some (tabObj (ps ++ #[rawInt pos.line, rawInt pos.col, .ref c'])) →
      Q (.ref h'.objs.size) { s with heap := h'.push (kdv_obj name qual params (.expr body) scope clos dV .none ((mg "__name__").getD .none) c' ctv), toks := tk }) :
    wpAny M A (makeTail name qual params (.expr body) scope env dV .none none pos firstLine) Q E s := by
  obtain ⟨bm, ob, hbm, hne0, _, hneP, hbo, hcls, hdict, hdata⟩ := hb
  unfold makeTail
  rw [hcl, hge0]
  refine wpAny_bind (wpAny_pure ?_)
  simp only [hne, Bool.false_eq_true, if_false]
  refine wpAny_bind (wpAny_newTextTuple ?_)
  have hPp := Heap.get?_push_of_some ({ cls := .type "tuple", data := .seq ((clos.mergeSort fun a b => a.1.cps.toList ≤ b.1.cps.toList).map (.ref ·.2)).toArray } : Obj) hP
  have Cp := C.keeps fun b o e => Heap.get?_push_of_some ({ cls := .type "tuple", data := .seq ((clos.mergeSort fun a b => a.1.cps.toList ≤ b.1.cps.toList).map (.ref ·.2)).toArray } : Obj) e
  refine wpAny_bind (wpAny_functionCodeX hcode (Cp.code hPp ht) (Cp.tab hPp) hnf fun c' h' tk hx hge hlt _ hrec htb hown => ?_)
  obtain ⟨P', hP', hco, hta⟩ := hown
  have hg' := (hg.push _).extBut hx hgP
  have hx' : Heap.ExtBut P s.heap h' := fun b o hb' e => hx b o hb' (Heap.get?_push_of_some _ e)
  have hge' : s.heap.objs.size ≤ c' := Nat.le_trans (by rw [Heap.size_push]; omega) hge
  have hgP' : s.heap.objs.size ≤ P' := Nat.le_trans (by rw [Heap.size_push]; omega) hP'
  refine wpAny_bind (wpAny_builtinsFor hg' hbm hne0 (hx' _ _ hneP hbo) hcls hdict hdata ?_)
  refine wpAny_bind (wpAny_nsGet hg' ?_)
  exact wpAny_bind (wpAny_pure (wpAny_newObj_type (h c' P' _ h' tk hx' hge' hlt hgP' hrec (CodeHd.of hco hta) hta.2 htb.2) (by size_fits)))
end

section
variable {M : Model} {A : Around} {E : Value → Shared → Prop} {s : Shared} {h₀ : Heap} {L a c P : Addr} {m mg mb : Str → Option Value} {cn : Str} {cs : Scope} {ccd : Value} {cl : List (Str × Addr)} {news : List (Addr × Obj)} {g : Obj → List (Addr × Obj)}
  {p : Program} {loose : List Str} {mean : ExcName → Option Value} {name qual : Str} {params : Arguments} {body : Expr} {scope : Scope} {ps : Array Value} {pos : Pos} {firstLine : Nat} {clos : List (Str × Addr)}

theorem apart_top (F : Fr h₀ L s.heap m) (T : Top p loose mean mg mb h₀) {o : Obj} (hm : s.heap.get? P = some o) (ho : o = tabObj ps) :
    mainGlobals ≠ P ∧ s.heap.BuiltinsAt mg P := by
  subst ho
  have hgs := T.g.keeps F.keep
  obtain ⟨bm, ob, b1, b2, b3, b4, b5, b6⟩ := T.bmain
  have hgP : mainGlobals ≠ P := fun q => by
    obtain ⟨o, es, ep, e, hd, _⟩ := hgs
    rw [q, hm] at e; cases e; cases hd
  have hbP : bm ≠ P := fun q => by
    have e := F.keep _ _ b3
    rw [q, hm] at e; cases e; cases b4
  have hbG : bm ≠ mainGlobals := fun q => by
    obtain ⟨o, es, ep, e, hd, _⟩ := T.g
    rw [q, e] at b3; cases b3; rw [hd] at b6; cases b6
  exact ⟨hgP, ⟨bm, ob, b1, b2, hbG, hbP, F.keep _ _ b3, b4, b5, b6⟩⟩

/-- a lambda with a default, made in a def of the ledger's table: its code and its own empty table go onto the ledger -/
theorem lam_nest {dV : Value} {Q : Value → Shared → Prop} (hne : clos.isEmpty = false) (F : Fr h₀ L s.heap m) (N : News h₀ L s.heap news) (T : Top p loose mean mg mb h₀) (C : CodeHd h₀ c P) (hcd : ccd = .ref c) (U : UpdF P (tabObj ps) news g)
    (ht : TriplesOk ps.toList) (hnf : codeAmong pos ps.toList = none) (hcl : closureFor scope (envX cn cs L a ccd cl) = pure clos)
    (h : ∀ f c' P' oc vs t ctv h' tk, Fr h₀ L h' m →
      News h₀ L h' ((f, kdv_obj name qual params (.expr body) scope clos dV .none ((mg "__name__").getD .none) c' ctv) :: (P', tabObj #[]) :: (c', oc) :: g (tabObj (ps ++ #[rawInt pos.line, rawInt pos.col, .ref c']))) →
      oc.data = .fields vs → vs[1]? = some (.str qual t) → CodeOc oc c' P' → (∀ q ∈ news, q.1 < c') → (∀ q ∈ news, q.1 < P') → c' < f → P' < f → c' ≠ P' → Q (.ref f) { s with heap := h', toks := tk }) :
    wpAny M A (makeTail name qual params (.expr body) scope (envX cn cs L a ccd cl) dV .none none pos firstLine) Q E s := by
  obtain ⟨own, rest, rfl, hgr, h1, h2⟩ := U.split
  have hm := N (P, tabObj ps) (List.mem_append_right _ (.head _))
  obtain ⟨hgP, hB⟩ := apart_top F T hm.1 rfl
  refine lam_makeTail (mg := mg) hne hcl rfl (T.g.keeps F.keep) hcd (C.keeps F.keep) hm.1 ht hnf hgP hB fun c' P' ctv h' tk hx hge hlt hgP' hrec hhd hPo htb => ?_
  obtain ⟨c₂, oc, vs, t, e2, hoc, hd, hv⟩ := hrec
  cases e2
  have hLs : L < s.heap.objs.size := F.ns.lt
  have hLc : L < c' := Nat.lt_of_lt_of_le hLs hge
  have hLP : L < P' := Nat.lt_of_lt_of_le hLs hgP'
  have old : ∀ b o, h₀.get? b = some o → h'.get? b = some o := fun b o e => hx b o (fun q => by rw [q, hm.2.2] at e; cases e) (F.keep b o e)
  have fresh : ∀ b, L < b → h₀.get? b = none := fun b hb => Heap.get?_none_of_le (Nat.le_trans F.above (Nat.le_of_lt hb))
  have hco := codeOc_of hhd hoc
  have hPlt : P' < h'.objs.size := Heap.lt_size hPo
  refine h h'.objs.size c' P' oc vs t ctv _ tk ⟨(F.ns.extBut hx hm.2.1.symm).push _, fun b o e => Heap.get?_push_of_some _ (old b o e), F.above⟩ (fun q hq => ?_) hd hv hco
    (fun q hq => Nat.lt_of_lt_of_le (Heap.lt_size (N q hq).1) hge) (fun q hq => Nat.lt_of_lt_of_le (Heap.lt_size (N q hq).1) hgP') hlt hPlt
    (let ⟨_, _, _, _, _, _, _, _, _, _, _, _, _, _, _, _, z⟩ := hco; z)
  rcases List.mem_cons.mp hq with rfl | hq
  · exact ⟨Heap.get?_push_size _ rfl, Nat.ne_of_gt (Nat.lt_trans hLc hlt), fresh _ (Nat.lt_trans hLc hlt)⟩
  · rcases List.mem_cons.mp hq with rfl | hq
    · exact ⟨Heap.get?_push_of_some _ hPo, Nat.ne_of_gt hLP, fresh _ hLP⟩
    · rcases List.mem_cons.mp hq with rfl | hq
      · exact ⟨Heap.get?_push_of_some _ hoc, Nat.ne_of_gt hLc, fresh _ hLc⟩
      · rw [hgr] at hq
        rcases List.mem_append.mp hq with hq | hq
        · have n := N q (List.mem_append_left _ hq)
          exact ⟨Heap.get?_push_of_some _ (hx _ _ (h1 q hq) n.1), n.2⟩
        · rcases List.mem_cons.mp hq with rfl | hq
          · exact ⟨Heap.get?_push_of_some _ htb, hm.2⟩
          · have n := N q (List.mem_append_right _ (.tail _ hq))
            exact ⟨Heap.get?_push_of_some _ (hx _ _ (h2 q hq) n.1), n.2⟩

/-- a lambda made the first time in a frame whose code is the ledger's -/
theorem lamIn_miss {Q : Value → Shared → Prop} {occ : Obj} (F : Fr h₀ L s.heap m) (N : News h₀ L s.heap news) (T : Top p loose mean mg mb h₀) (hc : (c, occ) ∈ news) (ho : CodeOc occ c P) (hcd : ccd = .ref c) (U : UpdF P (tabObj ps) news g)
    (ht : TriplesOk ps.toList) (hnf : codeAmong pos ps.toList = none) (hcl : closureFor scope (envX cn cs L a ccd cl) = pure clos)
    (h : ∀ f c' oc vs t ctv h' tk, Fr h₀ L h' m →
      News h₀ L h' ((f, kla_obj name qual params body scope clos ((mg "__name__").getD .none) c' ctv) :: (c', oc) :: g (tabObj (ps ++ #[rawInt pos.line, rawInt pos.col, .ref c']))) →
      oc.data = .fields vs → vs[1]? = some (.str qual t) → (∀ q ∈ news, q.1 < c') → c' < f → Q (.ref f) { s with heap := h', toks := tk }) :
    wpAny M A (makeFunction name qual params (.expr body) scope (envX cn cs L a ccd cl) [] [] [] pos firstLine) Q E s := by
  have C := ho.hd (N _ hc).1
  obtain ⟨own, rest, rfl, hgr, h1, h2⟩ := U.split
  have hm := N (P, tabObj ps) (List.mem_append_right _ (.head _))
  obtain ⟨hgP, hB⟩ := apart_top F T hm.1 rfl
  refine kla_makeFunction (mg := mg) hcl rfl (T.g.keeps F.keep) hcd C hm.1 ht hnf hgP hB fun c' ctv h' tk hx hge hlt hrec htb => ?_
  obtain ⟨c₂, oc, vs, t, e2, hoc, hd, hv⟩ := hrec
  cases e2
  have hLc : L < c' := Nat.lt_of_lt_of_le F.ns.lt hge
  have old : ∀ b o, h₀.get? b = some o → h'.get? b = some o := fun b o e => hx b o (fun q => by rw [q, hm.2.2] at e; cases e) (F.keep b o e)
  have fresh : ∀ b, L < b → h₀.get? b = none := fun b hb => Heap.get?_none_of_le (Nat.le_trans F.above (Nat.le_of_lt hb))
  refine h h'.objs.size c' oc vs t ctv _ tk ⟨(F.ns.extBut hx hm.2.1.symm).push _, fun b o e => Heap.get?_push_of_some _ (old b o e), F.above⟩ (fun q hq => ?_) hd hv
    (fun q hq => Nat.lt_of_lt_of_le (Heap.lt_size (N q hq).1) hge) hlt
  rcases List.mem_cons.mp hq with rfl | hq
  · exact ⟨Heap.get?_push_size _ rfl, Nat.ne_of_gt (Nat.lt_trans hLc hlt), fresh _ (Nat.lt_trans hLc hlt)⟩
  · rcases List.mem_cons.mp hq with rfl | hq
    · exact ⟨Heap.get?_push_of_some _ hoc, Nat.ne_of_gt hLc, fresh _ hLc⟩
    · rw [hgr] at hq
      rcases List.mem_append.mp hq with hq | hq
      · have n := N q (List.mem_append_left _ hq)
        exact ⟨Heap.get?_push_of_some _ (hx _ _ (h1 q hq) n.1), n.2⟩
      · rcases List.mem_cons.mp hq with rfl | hq
        · exact ⟨Heap.get?_push_of_some _ htb, hm.2⟩
        · have n := N q (List.mem_append_right _ (.tail _ hq))
          exact ⟨Heap.get?_push_of_some _ (hx _ _ (h2 q hq) n.1), n.2⟩

/-- .. and every later time -/
theorem lamIn_hit {Q : Value → Shared → Prop} {c' : Addr} {occ : Obj} (F : Fr h₀ L s.heap m) (N : News h₀ L s.heap news) (T : Top p loose mean mg mb h₀) (hc : (c, occ) ∈ news) (ho : CodeOc occ c P) (hcd : ccd = .ref c) (hmem : (P, tabObj ps) ∈ news)
    (ht : TriplesOk ps.toList) (hf : codeAmong pos ps.toList = some (.ref c')) (hcl : closureFor scope (envX cn cs L a ccd cl) = pure clos)
    (h : ∀ f ctv h' tk, Fr h₀ L h' m → News h₀ L h' ((f, kla_obj name qual params body scope clos ((mg "__name__").getD .none) c' ctv) :: news) → (∀ q ∈ news, q.1 < f) → Q (.ref f) { s with heap := h', toks := tk }) :
    wpAny M A (makeFunction name qual params (.expr body) scope (envX cn cs L a ccd cl) [] [] [] pos firstLine) Q E s := by
  have C := ho.hd (N _ hc).1
  have hm := N (P, tabObj ps) hmem
  obtain ⟨_, hB⟩ := apart_top F T hm.1 rfl
  refine kla_makeFunctionHit (mg := mg) hcl rfl (T.g.keeps F.keep) hcd C hm.1 ht hf hB fun ctv h' tk hk hsz => ?_
  have hLs : L < h'.objs.size := Nat.lt_of_lt_of_le F.ns.lt hsz
  have fresh : ∀ b, L < b → h₀.get? b = none := fun b hb => Heap.get?_none_of_le (Nat.le_trans F.above (Nat.le_of_lt hb))
  refine h h'.objs.size ctv _ tk ⟨(F.ns.keeps hk).push _, fun b o e => Heap.get?_push_of_some _ (hk b o (F.keep b o e)), F.above⟩ (fun q hq => ?_) (fun q hq => Nat.lt_of_lt_of_le (Heap.lt_size (N q hq).1) hsz)
  rcases List.mem_cons.mp hq with rfl | hq
  · exact ⟨Heap.get?_push_size _ rfl, Nat.ne_of_gt hLs, fresh _ hLs⟩
  · exact ⟨Heap.get?_push_of_some _ (hk _ _ (N q hq).1), (N q hq).2⟩
end

section
variable {prog : Program} {w : World} {A A₀ : Around} {s : Shared} {K : Frag} {L : Addr} {h₀ base : Heap} {m mg mb : Str → Option Value} {news : List (Addr × Obj)} {p : Program} {loose : List Str} {mean : ExcName → Option Value}

/-- a lambda whose one argument is kept in a cell, called -/
theorem lamc_code {env : Env} {outer : List Env} {R : Result → Shared → Prop} {name qual : Str} {params : Arguments} {body : Expr} {scope : Scope} {rest : List (Str × NameKind)} {cl : List (Str × Addr)} {dV doc pm ctv : Value} {c' : Addr} {f : Addr} {args : Args}
    {x : Str} {v : Value}
    (B : Below A₀ base outer h₀) (F : Fr h₀ L s.heap m) (X₀ : K.In h₀) (N : News h₀ L s.heap news) (T : Top p loose mean mg mb h₀) (hA : A.frames = some (env :: outer)) (hf : env.frame = some L) (hke : env.scope.kind = .function)
    (ho : (f, kdv_obj name qual params (.expr body) scope cl dV doc pm c' ctv) ∈ news) (hcd : s.heap.CodeRec (.ref c') qual) (hroom : A.depth < recursionLimit)
    (hbind : BindsTo s (kdv_fn name qual params (.expr body) scope cl dV doc pm (.ref c') ctv) args [(x, v)])
    (hn : scope.names = (x, .cell) :: rest) (hr : ∀ n acc, cellsFrom n rest acc = acc) (hp : ∀ h, pushCells h rest = h)
    (h : ∀ g L' h₁ oc, Fr h₀ L g m → Fr g L' h₁ (fun _ => none) → News g L' h₁ ((L' + 1, oc) :: news) → oc.data = .cell (some v) → (∀ q ∈ news, q.1 < L') → Below A base (env :: outer) g → K.In g → Top p loose mean mg mb g →
      wpAny (model prog w) (A.deeper (envX qual scope L' f (.ref c') ((x, L' + 1) :: cl))) (eval body (envX qual scope L' f (.ref c') ((x, L' + 1) :: cl)))
        (fun v s' => LeaveK h₀ L m g R v s')
        (fun e s' => wpAny (model prog w) (A.deeper (envX qual scope L' f (.ref c') ((x, L' + 1) :: cl))) (PySem.leaving (envX qual scope L' f (.ref c') ((x, L' + 1) :: cl)) e) (fun _ s'' => R (.error e) s'') (fun e' s'' => R (.error e') s'') s')
        { s with heap := h₁ })
    (hco : scope.isCoroutine = false) (hgen : scope.isGenerator = false) (hk : scope.kind = .function) : codeAny (model prog w) A (.call (.ref f) args) R s := by
  obtain ⟨FG, BG, st, lv⟩ := groundX (R := R) B F N hA hf hke
  refine kla_callFunE hroom (N _ ho).1 rfl hco hgen rfl hcd (hbind _ _ _ _ ?_)
  refine nfe_one hk hn hr hp fun h₁ hns hcell hk₁ => ⟨((T.nolimit).keeps F.keep).keeps hk₁, ?_⟩
  show codeAny _ _ (.expr body (envX qual scope s.heap.objs.size f (.ref c') ((x, s.heap.objs.size + 1) :: cl))) _ _
  obtain ⟨oc, hoc, hcd'⟩ := hcell
  refine kla_codeExpr (wpAny_mono (h _ s.heap.objs.size h₁ oc FG ⟨hns, fun b o e => hk₁ b o (of_hideAll _ e), Nat.le_of_eq (hideAll_size _ _)⟩
    (fun q hq => ?_) hcd' (fun q hq => Heap.lt_size (N q hq).1) BG (X₀.keeps st) (T.keeps st)) (fun v s' hl => lv _ _ hl) fun _ _ y => y)
  rcases List.mem_cons.mp hq with rfl | hq
  · refine ⟨hoc, Nat.ne_of_gt (Nat.lt_succ_self _), ?_⟩
    exact Heap.get?_none_of_le (by rw [hideAll_size]; exact Nat.le_succ _)
  · exact ⟨hk₁ _ _ (N q hq).1, Nat.ne_of_lt (Heap.lt_size (N q hq).1), hideAll_none _ (List.mem_map_of_mem hq)⟩
end
end Mine
end

section
set_option maxRecDepth 100000
namespace Mine
open PySem PySem.W PySem.Spec PySem.Calls PyProof.Rows Builtin Builtin.ObjectAttr
abbrev P0 := PySem.Challenge.rw_at5024_01.row.prog
theorem pk_made (w : World) : peek (K w.params) ⟨P0, w.params⟩ (Bind.madeBy (.ref 285)) = some none := by kernel_rfl
theorem pk_here (w : World) : peek (K w.params) ⟨P0, w.params⟩ (Bind.madeHere "tuple.__new__" (.ref 285)) = some () := by kernel_rfl
theorem pk_call (w : World) : peek (K w.params) ⟨P0, w.params⟩ (specialOf (.ref 285) "__call__") = some (some (.builtin "type.__call__")) := by kernel_rfl
theorem pk_init (w : World) : peek (K w.params) ⟨P0, w.params⟩ (typeLookup (.ref 285) "__init__") = some (some (.builtin "object.__init__")) := by kernel_rfl
theorem pk_ga (w : World) : peek (K w.params) ⟨P0, w.params⟩ (typeLookup (.ref 285) "__getattribute__") = some (some (.builtin "tuple.__getattribute__")) := by kernel_rfl
theorem pk_typ (w : World) : peek (K w.params) ⟨P0, w.params⟩ (isInstance (.ref 285) (.type "type")) = some true := by kernel_rfl
theorem pk_mro (w : World) : peek (K w.params) ⟨P0, w.params⟩ (mroOf (.ref 285)) = some [.ref 285, .type "tuple", .type "object"] := by kernel_rfl
theorem pk_self (w : World) : peek (K w.params) ⟨P0, w.params⟩ (isSubtype (.ref 285) (.ref 285)) = some true := by kernel_rfl
theorem pk_obj (w : World) : peek (K w.params) ⟨P0, w.params⟩ (isSubtype (.ref 285) (.type "object")) = some true := by kernel_rfl
theorem pk_tup (w : World) : peek (K w.params) ⟨P0, w.params⟩ (isSubtype (.ref 285) (.type "tuple")) = some true := by kernel_rfl
theorem K_285 (w : World) : ∃ oc od cd sl, (K w.params).lookup 285 = some ⟨oc, od, .cls cd, sl⟩ ∧ cd.hasDel = false ∧ cd.hasDict = false := ⟨_, _, _, _, rfl, rfl, rfl⟩

section
variable {w : World} {A : Around} {E : Value → Shared → Prop} {s : Shared}
theorem oi_args6 (a b c d e f : Value) : argsOk "object.__init__" ⟨[a, b, c, d, e, f], []⟩ := by unfold argsOk; kernel_rfl

theorem fc_new (w : World) : findCls (K w.params) (.ref 285) (.type "type") "__new__" = some (.get (.builtin "staticmethod.__get__") (.ref 286) .none (.ref 285)) := by kernel_rfl
theorem rd_new (w : World) : readsIn (K w.params) 285 (.type "type") = true := by kernel_rfl
theorem rc_new (w : World) : recIn (K w.params) 286 "staticmethod" = some [.ref 226] := by kernel_rfl
theorem wpAny_getnew {expr : Bool} {Q : Value → Shared → Prop} (X : (K w.params).In s.heap) (h : Q (.ref 226) { s with toks := s.toks + 1 }) :
    wpAny (model P0 w) A (getAttr (.ref 285) "__new__" expr) Q E s :=
  cls_bind X (rd_new w) (fc_new w) (wpAny_call (sm_get (s := { s with toks := s.toks + 1 }) X (rc_new w) (handed_on rfl h)))

def HandBack (Q : Value → Shared → Prop) (E : Value → Shared → Prop) (w : World) (r : Result) (s' : Shared) : Prop := match r with
  | .ok (.ret v) => ∃ hA ob, v = .ref hA ∧ s'.heap.get? hA = some ob ∧ ob.cls = .ref 285 ∧ (K w.params).In s'.heap ∧ Q (.ref hA) s'
  | .ok _ => False
  | .error e => E e s'

set_option maxHeartbeats 2000000 in
theorem handed_call {a b c d e : Value} {Q : Value → Shared → Prop} (X : (K w.params).In s.heap)
    (h : codeAny (model P0 w) (A.under (.builtin "type.__call__" ⟨[.ref 285, a, b, c, d, e], []⟩)) (.call (.ref 226) ⟨[.ref 285, a, b, c, d, e], []⟩) (HandBack Q E w) { s with toks := s.toks + 1 }) :
    wpAny (model P0 w) A (call (.ref 285) [a, b, c, d, e]) Q E s := by
  obtain ⟨hh, g, dr, t, os⟩ := s
  obtain ⟨oc, od, cd, sl, hK, _, _⟩ := K_285 w
  have hC := X _ _ hK
  have Lcall := Looks.of_peek (M := model P0 w) X (pk_call w)
  have Lmro := Looks.of_peek (M := model P0 w) X (pk_mro w)
  have Lmade := Looks.of_peek (M := model P0 w) X (pk_made w)
  have Ltyp := Looks.of_peek (M := model P0 w) X (pk_typ w)
  refine wpAny_call (codeAny_of_tree ?_)
  show wpAny _ _ (callAny (.ref 285) _) _ _ _
  refine nd_load hC ?_
  show wpAny _ _ (callAny.viaDunder (.ref 285) _) _ _ _
  unfold callAny.viaDunder
  refine wpAny_bind (Lcall.at ?_)
  dsimp only
  rw [tc_bind]
  refine wpAny_bind (wpAny_pure (wpAny_bind (wpAny_pure ?_)))
  refine wpAny_pure (a := Fin.again (.call (.builtin "type.__call__") ⟨[.ref 285, a, b, c, d, e], []⟩)) (And.intro rfl ?_)
  refine codeAny_call_builtin_at (Code.quiet_builtin _ (by decide +kernel)) entry_typeCall (check_slot tc_kind tc_split Ltyp (tc_args _ _ _) ?_)
  unfold Builtin.«type.__call__»
  repeat (first | (with_reducible refine wpAny_getnew ?X ?_; (case X => assumption)) | with_reducible refine wpAny_call ?_ | lk)
  refine codeAny_mono h fun r s' hr => ?_
  cases r with
  | error er => exact hr
  | ok fl =>
  cases fl with
  | ret v =>
    obtain ⟨hA, ob, rfl, ho, hcl, X', hQ⟩ := hr
    obtain ⟨hh', g', dr', t', os'⟩ := s'
    have Lt : Looks (model P0 w) hh' (typeOf (.ref hA)) (.ref 285) := hcl ▸ (Looks.ld (part := none) ho).andThen .now
    have Lself := Looks.of_peek (M := model P0 w) X' (pk_self w)
    have Linit := Looks.of_peek (M := model P0 w) X' (pk_init w)
    have Lobj := Looks.of_peek (M := model P0 w) X' (pk_obj w)
    have Lmade' := Looks.of_peek (M := model P0 w) X' (pk_made w)
    have Lb : Looks (model P0 w) hh' (bindSpecial (.builtin "object.__init__") (.ref hA)) (.builtin "object.__init__", [.ref hA]) := Looks.of_pure (oi_bind _)
    have Liso : Looks (model P0 w) hh' (isInstance (.ref hA) (.type "object")) true := Lt.andThen Lobj
    unfold isInstance callSpecial? specialOf
    repeat (first | with_reducible refine wpAny_call ?_ | lk)
    refine codeAny_call_builtin oi_plain entry_oi (@check_slot (model P0 w) _ _ _ "object.__init__" "object" "__init__" (.ref hA) [a, b, c, d, e] [] _ oi_kind oi_split Liso (oi_args6 (.ref hA) a b c d e) ?_)
    unfold Builtin.«object.__init__»
    repeat lk
    exact hQ
  | _ => exact hr.elim
end
end Mine
end

section
set_option maxRecDepth 100000
namespace Mine
open PySem PySem.W PySem.Spec PySem.Calls PyProof.Rows Builtin Builtin.ObjectAttr
theorem pk_tnew (w : World) (t : Addr) : peek (K w.params) ⟨P0, w.params⟩ (checkBuiltinCall "tuple.__new__" ⟨[.ref 285, .ref t], []⟩) = some () := by kernel_rfl
theorem pk_istype (w : World) : peek (K w.params) ⟨P0, w.params⟩ (PySem.isType (.ref 285)) = some true := by kernel_rfl
theorem plain_tnew : plainId "tuple.__new__" = true := by decide +kernel
section
variable {w : World} {A : Around} {E : Value → Shared → Prop} {s : Shared}
set_option maxHeartbeats 2000000 in
theorem tuple_new {t : Addr} {items : Array Value} {n : Nat} {Q : Value → Shared → Prop} (X : (K w.params).In s.heap) (ht : s.heap.get? t = some { cls := .type "tuple", data := .seq items n }) (hsz : items.size ≤ sizeLine)
    (h : ∀ h' hA dA, (∀ b o, s.heap.get? b = some o → h'.get? b = some o) → h'.get? hA = some { cls := .ref 285, dict := some dA, data := .seq items } → (∀ b o, s.heap.get? b = some o → b < hA) → Q (.ref hA) { s with heap := h' }) :
    wpAny (model P0 w) A (call (.builtin "tuple.__new__") [.ref 285, .ref t]) Q E s := by
  obtain ⟨hh, g, dr, tk, os⟩ := s
  obtain ⟨oc, od, cd, sl, hK, hdel, _⟩ := K_285 w
  have hC := X _ _ hK
  have Lis := Looks.of_peek (M := model P0 w) X (pk_istype w)
  have Ltup := Looks.of_peek (M := model P0 w) X (pk_tup w)
  have Linit := Looks.of_peek (M := model P0 w) X (pk_init w)
  have Lhere := Looks.of_peek (M := model P0 w) X (pk_here w)
  have Lchk := Looks.of_peek (M := model P0 w) X (pk_tnew w t)
  refine wpAny_call (codeAny_call_builtin plain_tnew PySem.F.entry_tuple_new (Lchk.at ?_))
  unfold Builtin.«tuple.__new__»
  repeat (first | with_reducible refine wpAny_collect_seq t (.inr rfl) ht rfl rfl ?_ hsz | lk)
  intro h' hk'
  refine wpAny_bind (wpAny_pure (wpAny_bind (wpAny_alloc (wpAny_bind ?_))))
  have hC' := Heap.get?_push_of_some ({ cls := .ref 285, dict := some h'.objs.size, data := .seq items } : Obj) (Heap.get?_push_of_some ({ cls := .type "dict", data := .dict #[] } : Obj) (hk' _ _ hC))
  have e1 : items.toList.toArray = items := by simp
  unfold newObj
  rw [e1]
  repeat lk
  rw [if_neg (Nat.not_lt.mpr hsz)]
  show wpAny _ _ (newObjAsIs _ _ _) _ _ _
  unfold newObjAsIs classHasDel
  refine wpAny_bind (wpAny_alloc (wpAny_bind (wpAny_bind (wpAny_load hC' (wpAny_pure ?_)))))
  dsimp only
  rw [hdel]
  refine wpAny_pure (wpAny_pure ?_)
  show Q _ _
  refine h _ _ _ (fun b o e => Heap.get?_push_of_some _ (Heap.get?_push_of_some _ (hk' b o e))) (Heap.get?_push_size _ rfl) ?_
  intro b o e
  rw [Heap.size_push]
  exact Nat.lt_succ_of_lt (Heap.lt_size (hk' _ _ e))
end
end Mine
end

section
set_option maxRecDepth 100000
namespace Mine
open PySem PySem.W PySem.Spec PySem.Calls PyProof.Rows Builtin Builtin.ObjectAttr
theorem pk_hook (w : World) : peek (K w.params) ⟨P0, w.params⟩ (typeLookup (.ref 285) "__getattr__") = some none := by kernel_rfl
theorem pk_gabind (w : World) (a : Addr) : peek (K w.params) ⟨P0, w.params⟩ (bindSpecial (.builtin "tuple.__getattribute__") (.ref a)) = some (.builtin "tuple.__getattribute__", [.ref a]) := by kernel_rfl
theorem ga_entry : entryFor table "tuple.__getattribute__" = some Builtin.«object.__getattribute__» := am_entry_tuple_getattribute
theorem ga_plain : plainId "tuple.__getattribute__" = true := by decide +kernel
theorem ga_kind : builtinKind "tuple.__getattribute__" = some .slot := by decide +kernel
theorem ga_split : splitId "tuple.__getattribute__" = some ("tuple", "__getattribute__") := by decide +kernel
theorem ga_args (a b : Value) : argsOk "tuple.__getattribute__" ⟨[a, b], []⟩ := by unfold argsOk; kernel_rfl

/-- the fields of the record of a hash in hand: their descriptors -/
inductive Field : Str → Addr → Nat → Prop
  | digest : Field "digest" 271 1
  | size : Field "digest_size" 277 3
  | block : Field "block_size" 280 4
theorem pk_f1 (w : World) : peek (K w.params) ⟨P0, w.params⟩ (typeLookup (.ref 285) "digest") = some (some (.ref 271)) := by kernel_rfl
theorem pk_f3 (w : World) : peek (K w.params) ⟨P0, w.params⟩ (typeLookup (.ref 285) "digest_size") = some (some (.ref 277)) := by kernel_rfl
theorem pk_f4 (w : World) : peek (K w.params) ⟨P0, w.params⟩ (typeLookup (.ref 285) "block_size") = some (some (.ref 280)) := by kernel_rfl
theorem pk_g1 (w : World) : peek (K w.params) ⟨P0, w.params⟩ (specialOf (.ref 271) "__get__") = some (some (.ref 187)) := by kernel_rfl
theorem pk_g3 (w : World) : peek (K w.params) ⟨P0, w.params⟩ (specialOf (.ref 277) "__get__") = some (some (.ref 187)) := by kernel_rfl
theorem pk_g4 (w : World) : peek (K w.params) ⟨P0, w.params⟩ (specialOf (.ref 280) "__get__") = some (some (.ref 187)) := by kernel_rfl
theorem pk_s1 (w : World) : peek (K w.params) ⟨P0, w.params⟩ (takesStores (.ref 271)) = some true := by kernel_rfl
theorem pk_s3 (w : World) : peek (K w.params) ⟨P0, w.params⟩ (takesStores (.ref 277)) = some true := by kernel_rfl
theorem pk_s4 (w : World) : peek (K w.params) ⟨P0, w.params⟩ (takesStores (.ref 280)) = some true := by kernel_rfl

section
variable {w : World} {A : Around} {E : Value → Shared → Prop} {s : Shared}
theorem looks_field_of {h : Heap} {hA : Addr} {name : Str} {tg : Addr} {i : Nat} (X : (K w.params).In h) (f : Field name tg i) :
    Looks (model P0 w) h (find (.ref hA) (.ref 285) name) (.bind (.ref 187) (.ref tg)) := by
  have key : ∀ {tg : Addr} {name : Str}, Looks (model P0 w) h (typeLookup (.ref 285) name) (some (.ref tg)) → Looks (model P0 w) h (specialOf (.ref tg) "__get__") (some (.ref 187)) →
      Looks (model P0 w) h (takesStores (.ref tg)) true → Looks (model P0 w) h (find (.ref hA) (.ref 285) name) (.bind (.ref 187) (.ref tg)) := fun {tg name} a b c => by
    have b' : Looks (model P0 w) h (getOf (some (.ref tg))) (some (.ref 187)) := by unfold getOf; exact b
    have c' : Looks (model P0 w) h (dataDescriptor? (some (.ref tg)) (some (.ref 187))) (some (.ref 187, .ref tg)) := by unfold dataDescriptor?; exact c.andThen .now
    unfold find
    exact a.andThen (b'.andThen (c'.andThen (Looks.tag .now)))
  cases f with
  | digest => exact key (.of_peek X (pk_f1 w)) (.of_peek X (pk_g1 w)) (.of_peek X (pk_s1 w))
  | size => exact key (.of_peek X (pk_f3 w)) (.of_peek X (pk_g3 w)) (.of_peek X (pk_s3 w))
  | block => exact key (.of_peek X (pk_f4 w)) (.of_peek X (pk_g4 w)) (.of_peek X (pk_s4 w))

set_option maxHeartbeats 2000000 in
theorem handed_get {hA dA : Addr} {items : Array Value} {name : Str} {tg : Addr} {i : Nat} {expr : Bool} {Q : Value → Shared → Prop} (X : (K w.params).In s.heap)
    (ht : s.heap.get? hA = some { cls := .ref 285, dict := some dA, data := .seq items }) (f : Field name tg i)
    (h : codeAny (model P0 w) A.in1 (.call (.ref 187) ⟨[.ref tg, .ref hA, .ref 285], []⟩) (fun r s' => match r with | .ok (.ret v) => handedIn v = true ∧ Q v s' | _ => False) { s with toks := s.toks + 1 }) :
    wpAny (model P0 w) A (getAttr (.ref hA) name expr) Q E s := by
  obtain ⟨hh, g, dr, tk, os⟩ := s
  have Lt : Looks (model P0 w) hh (typeOf (.ref hA)) (.ref 285) := (Looks.ld (part := none) ht).andThen .now
  have Lga := Looks.of_peek (M := model P0 w) X (pk_ga w)
  have Lhook := Looks.of_peek (M := model P0 w) X (pk_hook w)
  have Lb := Looks.of_peek (M := model P0 w) X (pk_gabind w hA)
  have Liso : Looks (model P0 w) hh (isInstance (.ref hA) (.type "tuple")) true := Lt.andThen (.of_peek X (pk_tup w))
  have Lf := looks_field_of (w := w) (hA := hA) X f
  unfold getAttr getAttrBy
  refine wpAny_bind (wpAny_mkText (wpAny_holding (wpAny_bind (Lt.at (wpAny_bind (Lga.at ?_))))))
  show wpAny _ _ (getAttrByItsOwn _ _ _ _ _ _) _ _ _
  unfold getAttrByItsOwn hookBefore callGetattribute boundAndCalled
  repeat (first | with_reducible refine wpAny_attempt ?_ | with_reducible refine wpAny_call ?_ | lk)
  rw [if_neg (by cases expr <;> decide)]
  repeat (first | with_reducible refine wpAny_call ?_ | lk)
  show codeAny _ _ (.call (.builtin "tuple.__getattribute__") ⟨[.ref hA, .str name tk], []⟩) _ _
  refine codeAny_call_builtin ga_plain ga_entry (@check_slot (model P0 w) A.in1 _ ⟨hh, g, dr, tk + 1, os⟩ "tuple.__getattribute__" "tuple" "__getattribute__" (.ref hA) [.str name tk] [] _ ga_kind ga_split Liso (ga_args _ _) ?_)
  unfold Builtin.«object.__getattribute__»
  repeat (first | with_reducible refine wpAny_call ?_ | lk)
  refine codeAny_mono h fun r s' hr => ?_
  cases r with
  | error er => exact hr.elim
  | ok fl =>
  cases fl with
  | ret v =>
    refine wpAny_pure ?_
    show wpAny _ _ (handedOut v) _ _ _
    rw [handedOut_of hr.1]
    exact wpAny_pure hr.2
  | _ => exact hr.elim

set_option maxHeartbeats 2000000 in
theorem handed_method {hA dA : Addr} {items : Array Value} {name : Str} {tg : Addr} {i : Nat} {pl : Sem Bool} {Q : Value × List Value → Shared → Prop} (X : (K w.params).In s.heap)
    (ht : s.heap.get? hA = some { cls := .ref 285, dict := some dA, data := .seq items }) (f : Field name tg i)
    (h : codeAny (model P0 w) A.in1 (.call (.ref 187) ⟨[.ref tg, .ref hA, .ref 285], []⟩) (fun r s' => match r with | .ok (.ret v) => handedIn v = true ∧ Q (v, []) s' | _ => False) { s with toks := s.toks + 1 }) :
    wpAny (model P0 w) A (getMethod (.ref hA) name pl) Q E s := by
  have Lt : Looks (model P0 w) s.heap (typeOf (.ref hA)) (.ref 285) := (Looks.ld (part := none) ht).andThen .now
  have Lga := Looks.of_peek (M := model P0 w) X (pk_ga w)
  have Lhook := Looks.of_peek (M := model P0 w) X (pk_hook w)
  have Lf : Looks (model P0 w) s.heap (typeLookup (.ref 285) name) (some (.ref tg)) := by
    cases f with
    | digest => exact .of_peek X (pk_f1 w)
    | size => exact .of_peek X (pk_f3 w)
    | block => exact .of_peek X (pk_f4 w)
  have Lty : Looks (model P0 w) s.heap (typeOf (.ref tg)) (.ref 204) := by
    cases f with
    | digest => exact .of_peek X (show peek (K w.params) ⟨P0, w.params⟩ (typeOf (.ref 271)) = some (.ref 204) by kernel_rfl)
    | size => exact .of_peek X (show peek (K w.params) ⟨P0, w.params⟩ (typeOf (.ref 277)) = some (.ref 204) by kernel_rfl)
    | block => exact .of_peek X (show peek (K w.params) ⟨P0, w.params⟩ (typeOf (.ref 280)) = some (.ref 204) by kernel_rfl)
  have hcan : (Manifest.canonical "tuple.__getattribute__" != "object.__getattribute__") = false := by decide +kernel
  have G : wpAny (model P0 w) A (getAttr (.ref hA) name) (fun v s' => Q (v, []) s') E s := handed_get X ht f h
  unfold getMethod specialOf
  refine wpAny_bind (wpAny_bind (Lt.here (Lga.here ?_)))
  dsimp only
  rw [hcan]
  simp only [Bool.false_eq_true, if_false]
  refine wpAny_bind (wpAny_bind (Lt.here (Lhook.here ?_)))
  simp only [Option.isSome_none, Bool.false_eq_true, if_false]
  refine wpAny_bind (wpAny_bind (Lt.here (Lf.here ?_)))
  dsimp only
  refine wpAny_bind (Lty.here ?_)
  rw [if_pos (by decide)]
  exact wpAny_bind (wpAny_mono G (fun v s' q => wpAny_pure q) fun _ _ z => z)
end
end Mine
end

section
set_option maxRecDepth 100000
namespace Mine
open PySem PySem.W PySem.Spec PySem.Calls PyProof.Rows

/-- what a def's contract knows at its call: the ghost g holds all that stands for good; rows are the ledger's objects that the def reads -/
structure Gh (w : World) (loose : List Str) (mean : ExcName → Option Value) (mg mb : Str → Option Value) (A : Around) (base : Heap) (outer : List Env) (g : Heap) (rows : List (Addr × Obj)) (h : Heap) : Prop where
  B : Below A base outer g
  X : (K w.params).In g
  T : Top topProg loose mean mg mb g
  sub : ∀ b o, g.get? b = some o → h.get? b = some o
  size : g.objs.size ≤ h.objs.size
  rows : ∀ p ∈ rows, h.get? p.1 = some p.2 ∧ g.get? p.1 = none

section
variable {w : World} {loose : List Str} {mean : ExcName → Option Value} {mg mb : Str → Option Value} {A : Around} {base g : Heap} {outer : List Env} {rows : List (Addr × Obj)} {s : Shared}
theorem gh_enter {R : Result → Shared → Prop} {name qual : Str} {params : Arguments} {body : List Stmt} {scope : Scope} {dV kV doc pm cdv ct oc : Value} {an od : Option Addr} {osl : Array (Option Value)} {f : Addr} {args : Args} {binds : List (Str × Value)}
    (G : Gh w loose mean mg mb A base outer g rows s.heap)
    (ho : (K w.params).lookup f = some ⟨oc, od, .func (fnOf name qual params body scope dV kV doc pm an cdv ct), osl⟩) (hcd : codeIn (K w.params) cdv qual = true) (hroom : A.depth < recursionLimit)
    (hbind : BindsTo s (fnOf name qual params body scope dV kV doc pm an cdv ct) args binds) (hloc : ∀ y ∈ binds, scope.names.lookup y.1 = some .local)
    (h : ∀ L' h₁, Fr g L' h₁ (fun y => binds.reverse.lookup y) → News g L' h₁ rows → Below A base outer g → (K w.params).In g → Top topProg loose mean mg mb g →
      wpAny (model P0 w) (A.deeper (envOf qual scope L' f cdv)) (execs body (envOf qual scope L' f cdv))
        (fun fl s' => R (.ok (.ret (match fl with | .ret v => v | _ => .none))) s') (fun _ _ => False)
        { s with heap := h₁, toks := s.toks + binds.length })
    (hco : scope.isCoroutine = false) (hgen : scope.isGenerator = false) (hk : scope.kind = .function)
    (hcell : ∀ x ∈ scope.names, x.2 ≠ .cell) : codeAny (model P0 w) A (.call (.ref f) args) R s := by
  refine codeAny_call_def (fd := fnOf name qual params body scope dV kV doc pm an cdv ct) (body := body) (binds := binds) hroom (G.sub _ _ (G.X _ _ ho)) rfl (G.T.nolimit.keeps G.sub) (codeRec_of (G.X.keeps G.sub) hcd) rfl hbind hcell hloc (fun h₁ hns hk₁ => ?_) hco hgen hk
  refine wpAny_mono (h s.heap.objs.size h₁ ⟨hns, fun b o e => hk₁ b o (G.sub b o e), G.size⟩ (fun p hp => ⟨hk₁ _ _ (G.rows p hp).1, Nat.ne_of_lt (Heap.lt_size (G.rows p hp).1), (G.rows p hp).2⟩) G.B G.X G.T) (fun _ _ x => x) fun _ _ x => x.elim
end
end Mine
end

section
set_option maxRecDepth 100000
namespace Mine
open PySem PySem.W PySem.Spec PySem.Calls PyProof.Rows
theorem pk_isub (w : World) : peek (K w.params) ⟨P0, w.params⟩ (Builtin.«issubclass.nested» ⟨[.ref 285, .type "tuple", rawInt 0], []⟩) = some (.done (.ret (.bool true))) := by kernel_rfl
theorem pk_isubc (w : World) : peek (K w.params) ⟨P0, w.params⟩ (checkBuiltinCall "issubclass" ⟨[.ref 285, .type "tuple"], []⟩) = some () := by kernel_rfl
theorem gi_plain : plainId "tuple.__getitem__" = true := by decide +kernel
theorem gi_kind : builtinKind "tuple.__getitem__" = some .slot := by decide +kernel
theorem gi_split : splitId "tuple.__getitem__" = some ("tuple", "__getitem__") := by decide +kernel
theorem gi_args (a b : Value) : argsOk "tuple.__getitem__" ⟨[a, b], []⟩ := by unfold argsOk; kernel_rfl
theorem gi_entry : entryFor table "tuple.__getitem__" = some Builtin.«tuple.__getitem__» := entryFor_of_tree (by kernel_rfl)
theorem int_index : typeLookup (.type "int") "__index__" = pure (some (.builtin "int.__index__")) := by rw [typeLookup_type, builtinLookup_eq_fast]; kernel_rfl

theorem meta_tuple : typeOf (.type "tuple") = pure (.type "type") := by kernel_rfl
section
variable {w : World} {A : Around} {E : Value → Shared → Prop} {s : Shared} {h₀ : Heap} {L : Addr} {m : Str → Option Value} {news : List (Addr × Obj)}
abbrev hObj (dA : Addr) (items : Array Value) : Obj := { cls := .ref 285, dict := some dA, data := .seq items }
theorem type_handed {hA dA : Addr} {items : Array Value} {Q : Value → Shared → Prop} (N : News h₀ L s.heap news) (hm : (hA, hObj dA items) ∈ news) (h : Q (.ref 285) s) : wpAny (model P0 w) A (call (.type "type") [.ref hA]) Q E s := by
  obtain ⟨hh, g, d, t, os⟩ := s
  exact call_type_obj (N _ hm).1 rfl h
theorem issub_handed {Q : Value → Shared → Prop} (FF : Fr h₀ L s.heap m) (X₀ : (K w.params).In h₀) (h : Q (.bool true) s) : wpAny (model P0 w) A (call (.builtin "issubclass") [.ref 285, .type "tuple"]) Q E s := by
  have X := X₀.keeps FF.keep
  have Lc := Looks.of_peek (M := model P0 w) X (pk_isubc w)
  have Li := Looks.of_peek (M := model P0 w) X (pk_isub w)
  refine wpAny_call (codeAny_call_builtin F.plain_issubclass F.entry_issubclass (Lc.here (issubclass_outer (Li.here ?_))))
  exact h

set_option maxHeartbeats 2000000 in
theorem getitem_handed {hA dA : Addr} {items : Array Value} {i : Nat} {tk : Tok} {v : Value} {Q : Value → Shared → Prop} (F : Fr h₀ L s.heap m) (X₀ : (K w.params).In h₀) (N : News h₀ L s.heap news) (hm : (hA, hObj dA items) ∈ news)
    (hv : items[i]? = some v) (hi : i < 16) (h : ∀ tk', Q v { s with toks := tk' }) :
    wpAny (model P0 w) A (call (.builtin "tuple.__getitem__") [.ref hA, .int i tk]) Q E s := by
  have X := X₀.keeps F.keep
  have ho := (N _ hm).1
  obtain ⟨hh, g, d, t, os⟩ := s
  have Lt : Looks (model P0 w) hh (typeOf (.ref hA)) (.ref 285) := (Looks.ld (part := none) ho).andThen .now
  have Liso : Looks (model P0 w) hh (isInstance (.ref hA) (.type "tuple")) true := Lt.andThen (.of_peek X (pk_tup w))
  refine wpAny_call (codeAny_call_builtin gi_plain gi_entry (@check_slot (model P0 w) A.in1 _ ⟨hh, g, d, t, os⟩ "tuple.__getitem__" "tuple" "__getitem__" (.ref hA) [.int i tk] [] _ gi_kind gi_split Liso (gi_args _ _) ?_))
  unfold Builtin.«tuple.__getitem__»
  have Lii : Looks (model P0 w) hh (typeLookup (.type "int") "__index__") (some (.builtin "int.__index__")) := Looks.of_pure int_index
  repeat lk
  have hlt : i < items.size := (Array.getElem?_eq_some_iff.mp hv).1
  have e1 : (decide ((i : Int) < -2 ^ 63) || decide ((i : Int) ≥ 2 ^ 63)) = false := by
    simp only [Bool.or_eq_false_iff, decide_eq_false_iff_not]
    omega
  have e2 : (seqIndex? (i : Int) items.size).bind (fun x => items[x]?) = some v := by
    have e3 : seqIndex? (i : Int) items.size = some i := by
      unfold seqIndex?
      have n1 : ¬ ((i : Int) < 0) := by omega
      have n2 : ((0 : Int) ≤ (i : Int) ∧ (i : Int) < (items.size : Int)) := ⟨by omega, by omega⟩
      simp only [if_neg n1, Bool.and_eq_true, decide_eq_true_eq, if_pos n2, Int.toNat_natCast]
    rw [e3]
    exact hv
  rw [e1]
  simp only [Bool.false_eq_true, if_false]
  rw [e2]
  exact wpAny_pure (h _)
end
end Mine
end

section
set_option maxRecDepth 100000
namespace Mine
open PySem PySem.W PySem.Spec PySem.Calls PyProof.Rows
theorem fill187 : (K = K ∧ PySem.Challenge.rw_at5024_01 = PySem.Challenge.rw_at5024_01) := by
  w_top off
  k_fill
  exact ⟨rfl, rfl⟩
local macro_rules | `(tactic| walk_at "call type:type") => `(tactic| (k_here; (with_reducible show wpAny _ _ (call (Value.type "type") [Value.ref _]) _ _ _); refine' Mine.type_handed ?N ?m ?_; (case N => k_asm); (case m => k_mem)))
local macro_rules | `(tactic| walk_at "call builtin:issubclass") => `(tactic| (k_here; refine' Mine.issub_handed ?F ?X ?_; (case F => k_asm); (case X => k_asm)))
local macro_rules | `(tactic| walk_at "call builtin:tuple.__getitem__") => `(tactic| (k_here; refine' Mine.getitem_handed ?F ?X ?N ?m ?v ?i ?_; (case F => k_asm); (case X => k_asm); (case N => k_asm); (case m => k_mem); (case v => k_asm); (case i => decide); intro tk'))
local macro_rules | `(tactic| walk_at "getMethod type:tuple") => `(tactic| (k_here; refine' method_type ?F ?X ?m (by decide +kernel) ?e ?h ?_; (case F => k_asm); (case X => k_asm); (case m => exact Mine.meta_tuple); (case e => k_dflt k_is); (case h => k_handed)))
set_option maxHeartbeats 4000000 in
theorem c187 {w : World} {loose : List Str} {mean : ExcName → Option Value} {mg mb : Str → Option Value} {dp un : Nat} {gd : Option (List Code)} {base g : Heap} {outer : List Env} {s : Shared} {R : Result → Shared → Prop}
    {hA dA tg : Addr} {items : Array Value} {name : Str} {i : Nat} {v : Value} (f : Field name tg i) (hv : items[i]? = some v)
    (G : Gh w loose mean mg mb ⟨none, dp, some outer, gd, un⟩ base outer g [(hA, { cls := .ref 285, dict := some dA, data := .seq items })] s.heap) (hd : dp + 1 < recursionLimit) (hu : un + 8 < cLine)
    (ret : ∀ h' tk', (∀ b o, g.get? b = some o → h'.get? b = some o) → h'.get? hA = some { cls := .ref 285, dict := some dA, data := .seq items } → R (.ok (.ret v)) { s with heap := h', toks := tk' }) :
    codeAny (model P0 w) ⟨none, dp, some outer, gd, un⟩ (.call (.ref 187) ⟨[.ref tg, .ref hA, .ref 285], []⟩) R s := by
  have XS : (K w.params).In s.heap := G.X.keeps G.sub
  refine' gh_enter G ?ho ?hcd ?hroom ?hbind ?hloc ?h ?c1 ?c2 ?c3 ?c4
  (case ho => k_is)
  (case hcd => k_is)
  (case hroom => exact (Nat.lt_of_succ_lt hd : dp < recursionLimit))
  (case hbind => first | exact BindsTo.of_eq rfl | exact binds_K XS rfl (by k_is) rfl rfl rfl)
  (case hloc => exact locs rfl)
  (case c1 => exact rfl)
  (case c2 => exact rfl)
  (case c3 => exact rfl)
  (case c4 => decide)
  intro L' h₁ F N B X T
  cases f
  all_goals skip
  (try k_fold)
  k_steps
  all_goals exact ret _ _ (Fr.keep (by assumption)) (N _ (.head _)).1
end Mine
end

section
set_option maxRecDepth 100000
namespace Mine
open PySem PySem.W PySem.Spec PySem.Calls PyProof.Rows
theorem fill285 : (K = K ∧ PySem.Challenge.rw_at5024_01 = PySem.Challenge.rw_at5024_01) := by
  w_top off
  k_fill
  exact ⟨rfl, rfl⟩

section
variable {w : World} {loose : List Str} {mean : ExcName → Option Value} {mg mb : Str → Option Value} {A A₀ : Around} {base g h₀ : Heap} {outer : List Env} {rows news : List (Addr × Obj)} {s : Shared} {L : Addr} {m : Str → Option Value} {env : Env}
theorem Gh.under {A' : Around} {h : Heap} (G : Gh w loose mean mg mb A base outer g rows h) (e : A'.frames = A.frames) : Gh w loose mean mg mb A' base outer g rows h :=
  ⟨⟨e.trans G.B.stack, G.B.stays, G.B.frames⟩, G.X, G.T, G.sub, G.size, G.rows⟩
theorem Gh.tok {h : Heap} (G : Gh w loose mean mg mb A base outer g rows s.heap) (e : h = s.heap) : Gh w loose mean mg mb A base outer g rows h := e ▸ G

/-- a contract's ghost at a call out of a frame -/
theorem gh_of (B : Below A₀ base outer h₀) (F : Fr h₀ L s.heap m) (X : (K w.params).In h₀) (N : News h₀ L s.heap news) (T : Top topProg loose mean mg mb h₀) (hA : A.frames = some (env :: outer)) (hf : env.frame = some L)
    (hke : env.scope.kind = .function) (hsub : ∀ p ∈ rows, p ∈ news) :
    Gh w loose mean mg mb A base (env :: outer) (hideAll s.heap (rows.map (·.1))) rows s.heap ∧
      ∀ h', (∀ b o, (hideAll s.heap (rows.map (·.1))).get? b = some o → h'.get? b = some o) → (∀ p ∈ rows, h'.get? p.1 = some p.2) → Fr h₀ L h' m ∧ News h₀ L h' news := by
  have Nr : News h₀ L s.heap rows := fun p hp => N p (hsub p hp)
  obtain ⟨_, BG, st, _⟩ := groundX (s := s) (R := fun _ _ => True) B F Nr hA hf hke
  refine ⟨⟨BG, X.keeps st, T.keeps st, fun b o e => of_hideAll _ e, Nat.le_of_eq (hideAll_size _ _), fun p hp => ⟨(Nr p hp).1, hideAll_none _ (List.mem_map_of_mem hp)⟩⟩, fun h' h1 h2 => ?_⟩
  have key : ∀ b o, s.heap.get? b = some o → h'.get? b = some o := fun b o e => by
    by_cases hb : b ∈ rows.map (·.1)
    · obtain ⟨p, hp, rfl⟩ := List.mem_map.mp hb
      rw [(Nr p hp).1] at e
      exact (h2 p hp).trans e
    · exact h1 b o (hideAll_get _ e hb)
  exact ⟨⟨F.ns.keeps key, fun b o e => key _ _ (F.keep b o e), F.above⟩, fun p hp => ⟨key _ _ (N p hp).1, (N p hp).2⟩⟩
end

theorem under_tc {dp un : Nat} {gd : Option (List Code)} {outer : List Env} {C : Addr} {rest : List Value} :
    (⟨none, dp, some outer, gd, un⟩ : Around).under (.builtin "type.__call__" ⟨.ref C :: rest, []⟩) = ⟨none, dp + 1, some outer, gd, un + 1⟩ := by
  unfold Around.under
  congr 1

local macro_rules | `(tactic| walk_at "getMethod type:tuple") => `(tactic| (k_here; refine' method_type ?F ?X ?m (by decide +kernel) ?e ?h ?_; (case F => k_asm); (case X => k_asm); (case m => exact Mine.meta_tuple); (case e => k_dflt k_is); (case h => k_handed)))
set_option maxHeartbeats 4000000 in
theorem c285 {w : World} {loose : List Str} {mean : ExcName → Option Value} {mg mb : Str → Option Value} {dp un : Nat} {gd : Option (List Code)} {base g : Heap} {outer : List Env} {s : Shared} {Q E : Value → Shared → Prop}
    {a b c d e : Value} (G : Gh w loose mean mg mb ⟨none, dp, some outer, gd, un⟩ base outer g [] s.heap) (hd : dp + 2 < recursionLimit)
    (ret : ∀ h' tk' hA dA, (∀ b o, g.get? b = some o → h'.get? b = some o) → h'.get? hA = some (hObj dA #[a, b, c, d, e]) → (∀ b o, g.get? b = some o → b < hA) → Q (.ref hA) { s with heap := h', toks := tk' }) :
    wpAny (model P0 w) ⟨none, dp, some outer, gd, un⟩ (call (.ref 285) [a, b, c, d, e]) Q E s := by
  have XS : (K w.params).In s.heap := G.X.keeps G.sub
  refine handed_call XS ?_
  rw [under_tc]
  have G' : Gh w loose mean mg mb ⟨none, dp + 1, some outer, gd, un + 1⟩ base outer g [] ({ s with toks := s.toks + 1 } : Shared).heap := G.under rfl
  refine' gh_enter G' ?ho ?hcd ?hroom ?hbind ?hloc ?h ?c1 ?c2 ?c3 ?c4
  (case ho => k_is)
  (case hcd => k_is)
  (case hroom => exact (Nat.lt_of_succ_lt hd : dp + 1 < recursionLimit))
  (case hbind => first | exact BindsTo.of_eq rfl | exact binds_K XS rfl (by k_is) rfl rfl rfl)
  (case hloc => exact locs rfl)
  (case c1 => exact rfl)
  (case c2 => exact rfl)
  (case c3 => exact rfl)
  (case c4 => decide)
  intro L' h₁ F N B X T
  (try k_fold)
  k_steps
  rename News _ _ _ _ => N2
  rename Fr _ _ _ _ => F2
  refine tuple_new (X.keeps F2.keep) (N2 _ (.head _)).1 (by size_fits) fun h' hA dA hk ho hlt => ?_
  exact ⟨hA, _, rfl, ho, rfl, X.keeps fun b o e => hk _ _ (F2.keep b o e), ret _ _ hA dA (fun b o e => hk _ _ (F2.keep b o e)) ho fun b o e => hlt b o (F2.keep b o e)⟩
end Mine
end

section
set_option maxRecDepth 100000
namespace Mine
open PySem PySem.W PySem.Spec PySem.Calls PyProof.Rows
section
variable {w : World} {loose : List Str} {mean : ExcName → Option Value} {mg mb : Str → Option Value} {A₀ : Around} {base h₀ : Heap} {outer : List Env} {news : List (Addr × Obj)} {s : Shared} {L : Addr} {m : Str → Option Value} {env : Env}
  {dp un : Nat} {gd : Option (List Code)} {E : Value → Shared → Prop}

/-- Handed(..) in a frame -/
theorem handed_N {a b c d e : Value} {Q : Value → Shared → Prop} (B : Below A₀ base outer h₀) (F : Fr h₀ L s.heap m) (X : (K w.params).In h₀) (N : News h₀ L s.heap news) (T : Top topProg loose mean mg mb h₀)
    (hf : env.frame = some L) (hke : env.scope.kind = .function) (hd : dp + 2 < recursionLimit)
    (h : ∀ hA dA h' tk', Fr h₀ L h' m → News h₀ L h' ((hA, hObj dA #[a, b, c, d, e]) :: news) → (∀ p ∈ news, p.1 < hA) → Q (.ref hA) { s with heap := h', toks := tk' }) :
    wpAny (model P0 w) ⟨none, dp, some (env :: outer), gd, un⟩ (call (.ref 285) [a, b, c, d, e]) Q E s := by
  obtain ⟨G, back⟩ := gh_of (A := ⟨none, dp, some (env :: outer), gd, un⟩) (rows := []) B F X N T rfl hf hke (fun p hp => nomatch hp)
  refine c285 G hd fun h' tk' hA dA hk ho hlt => ?_
  obtain ⟨F', N'⟩ := back h' hk fun p hp => nomatch hp
  have all : ∀ b o, s.heap.get? b = some o → b < hA := fun b o e => hlt b o (hideAll_get _ e (fun q => nomatch q))
  refine h hA dA h' tk' F' (fun p hp => ?_) fun p hp => all _ _ (N p hp).1
  rcases List.mem_cons.mp hp with rfl | hp
  · obtain ⟨oL, _, _, hL, _⟩ := F.ns
    have hLt : L < hA := all _ _ hL
    exact ⟨ho, Nat.ne_of_gt hLt, Heap.get?_none_of_le (Nat.le_trans F.above (Nat.le_of_lt hLt))⟩
  · exact N' p hp

theorem handed_method_N {hA dA tg : Addr} {items : Array Value} {name : Str} {i : Nat} {v : Value} {pl : Sem Bool} {Q : Value × List Value → Shared → Prop} (B : Below A₀ base outer h₀) (F : Fr h₀ L s.heap m) (X : (K w.params).In h₀) (N : News h₀ L s.heap news)
    (T : Top topProg loose mean mg mb h₀) (hf : env.frame = some L) (hke : env.scope.kind = .function) (hm : (hA, hObj dA items) ∈ news) (f : Field name tg i) (hv : items[i]? = some v) (hh : handedIn v = true) (hd : dp + 1 < recursionLimit) (hu : un + 9 < cLine)
    (h : ∀ h' tk', Fr h₀ L h' m → News h₀ L h' news → Q (v, []) { s with heap := h', toks := tk' }) :
    wpAny (model P0 w) ⟨none, dp, some (env :: outer), gd, un⟩ (getMethod (.ref hA) name pl) Q E s := by
  refine handed_method (X.keeps F.keep) (N _ hm).1 f ?_
  obtain ⟨G, back⟩ := gh_of (A := (⟨none, dp, some (env :: outer), gd, un⟩ : Around).in1) (rows := [(hA, hObj dA items)]) B F X N T rfl hf hke (fun p hp => by rw [List.mem_singleton.mp hp]; exact hm)
  refine c187 (s := { s with toks := s.toks + 1 }) (un := un + 1) f hv G hd (by omega) fun h' tk' hk ho => ⟨hh, ?_⟩
  obtain ⟨F', N'⟩ := back h' hk fun p hp => by rw [List.mem_singleton.mp hp]; exact ho
  exact h h' tk' F' N'

theorem handed_get_N {hA dA tg : Addr} {items : Array Value} {name : Str} {i : Nat} {v : Value} {expr : Bool} {Q : Value → Shared → Prop} (B : Below A₀ base outer h₀) (F : Fr h₀ L s.heap m) (X : (K w.params).In h₀) (N : News h₀ L s.heap news)
    (T : Top topProg loose mean mg mb h₀) (hf : env.frame = some L) (hke : env.scope.kind = .function) (hm : (hA, hObj dA items) ∈ news) (f : Field name tg i) (hv : items[i]? = some v) (hh : handedIn v = true) (hd : dp + 1 < recursionLimit) (hu : un + 9 < cLine)
    (h : ∀ h' tk', Fr h₀ L h' m → News h₀ L h' news → Q v { s with heap := h', toks := tk' }) :
    wpAny (model P0 w) ⟨none, dp, some (env :: outer), gd, un⟩ (getAttr (.ref hA) name expr) Q E s := by
  refine handed_get (X.keeps F.keep) (N _ hm).1 f ?_
  obtain ⟨G, back⟩ := gh_of (A := (⟨none, dp, some (env :: outer), gd, un⟩ : Around).in1) (rows := [(hA, hObj dA items)]) B F X N T rfl hf hke (fun p hp => by rw [List.mem_singleton.mp hp]; exact hm)
  refine c187 (s := { s with toks := s.toks + 1 }) (un := un + 1) f hv G hd (by omega) fun h' tk' hk ho => ⟨hh, ?_⟩
  obtain ⟨F', N'⟩ := back h' hk fun p hp => by rw [List.mem_singleton.mp hp]; exact ho
  exact h h' tk' F' N'
end
end Mine
end

section
set_option maxRecDepth 100000
namespace Mine
open PySem PySem.W PySem.Spec PySem.Calls PyProof.Rows
theorem fill71 : (K = K ∧ PySem.Challenge.rw_at5024_01 = PySem.Challenge.rw_at5024_01) := by
  w_top off
  k_fill
  exact ⟨rfl, rfl⟩
abbrev rowDict (w : World) (k1 k2 k3 k4 k5 k6 : Tok) (v1 v2 v3 : Value) (fO : Addr) (t5 t6 : Tok) (n : Nat) : Obj :=
  dictOf [⟨PyData.keyHash w.params "name", .str "name" k1, v1⟩, ⟨PyData.keyHash w.params "iana_name", .str "iana_name" k2, v2⟩, ⟨PyData.keyHash w.params "aliases", .str "aliases" k3, v3⟩,
    ⟨PyData.keyHash w.params "const", .str "const" k4, .ref fO⟩, ⟨PyData.keyHash w.params "digest_size", .str "digest_size" k5, .int 1 t5⟩, ⟨PyData.keyHash w.params "block_size", .str "block_size" k6, .int 16 t6⟩] n
local macro_rules | `(tactic| k_room) => `(tactic| ((try simp only [depth_mark, depth_under_make, depth_under_kw, depth_in1, depth_deeper, depth_caller]); (try dsimp only); omega))
theorem it_plain : plainId "iter" = true := by decide +kernel
theorem it_entry : entryFor table "iter" = some Builtin.«iter» := entryFor_of_tree (by kernel_rfl)
theorem pk_iterc (w : World) (t : Addr) : peek (K w.params) ⟨P0, w.params⟩ (checkBuiltinCall "iter" ⟨[.ref t], []⟩) = some () := by kernel_rfl
theorem iter_tuple {w : World} {A : Around} {E : Value → Shared → Prop} {s : Shared} {Q : Value → Shared → Prop} {t : Addr} {items : Array Value} (X : (K w.params).In s.heap) (ht : s.heap.IsTuple t items)
    (h : Q (.ref s.heap.objs.size) { s with heap := s.heap.push { cls := .type "tuple_iterator", data := .fields #[.ref t, .int 0 0] } }) : wpAny (model P0 w) A (call (.builtin "iter") [.ref t]) Q E s := by
  have Lc := Looks.of_peek (M := model P0 w) X (pk_iterc w t)
  refine wpAny_call (codeAny_call_builtin it_plain it_entry (Lc.here ?_))
  unfold Builtin.«iter»
  obtain ⟨hh, g, d, tk, os⟩ := s
  repeat (first | with_reducible refine wpAny_pyIter_tuple ht ?_ | lk)
  exact h
set_option maxHeartbeats 4000000 in
theorem c71 {w : World} {loose : List Str} {mean : ExcName → Option Value} {mg mb : Str → Option Value} {dp un : Nat} {gd : Option (List Code)} {base g : Heap} {outer : List Env} {s : Shared} {Q E : Value → Shared → Prop}
    {x dx fO : Addr} {k1 k2 k3 k4 k5 k6 t5 t6 : Tok} {v1 v2 v3 : Value} {nd : Nat}
    (G : Gh w loose mean mg mb ⟨none, dp, some outer, gd, un⟩ base outer g [(x, instObj 155 dx), (dx, rowDict w k1 k2 k3 k4 k5 k6 v1 v2 v3 fO t5 t6 nd)] s.heap) (hd : dp + 3 < recursionLimit)
    (ret : ∀ h' tk' it t, (∀ b o, g.get? b = some o → h'.get? b = some o) → (∀ p ∈ [(x, instObj 155 dx), (dx, rowDict w k1 k2 k3 k4 k5 k6 v1 v2 v3 fO t5 t6 nd)], h'.get? p.1 = some p.2) →
      h'.IsTupleIter it t 0 → h'.IsTuple t #[.ref fO, .int 1 t5, .int 16 t6] → (∀ b o, g.get? b = some o → b < it) → x < it → dx < it → t < it → Q (.ref it) { s with heap := h', toks := tk' }) :
    wpAny (model P0 w) ⟨none, dp, some outer, gd, un⟩ (call (.ref 71) [.ref x]) Q E s := by
  have XS : (K w.params).In s.heap := G.X.keeps G.sub
  refine wpAny_call ?_
  refine' gh_enter G ?ho ?hcd ?hroom ?hbind ?hloc ?h ?c1 ?c2 ?c3 ?c4
  (case ho => k_is)
  (case hcd => k_is)
  (case hroom => exact (by omega : dp < recursionLimit))
  (case hbind => first | exact BindsTo.of_eq rfl | exact binds_K XS rfl (by k_is) rfl rfl rfl)
  (case hloc => exact locs rfl)
  (case c1 => exact rfl)
  (case c2 => exact rfl)
  (case c3 => exact rfl)
  (case c4 => decide)
  intro L' h₁ F N B X T
  (try k_fold)
  k_steps
  rename News _ _ _ _ => N2
  rename Fr _ _ _ _ => F2
  have ht := (N2 _ (.head _)).1
  refine iter_tuple (X.keeps F2.keep) ⟨_, ht, rfl, _, rfl⟩ ?_
  refine ret _ _ _ _ (fun b o e => Heap.get?_push_of_some _ (F2.keep b o e)) (fun p hp => Heap.get?_push_of_some _ (N2 p (.tail _ hp)).1) ⟨_, Heap.get?_push_size _ rfl, rfl, rfl⟩ ⟨_, Heap.get?_push_of_some _ ht, rfl, _, rfl⟩
    (fun b o e => Heap.lt_size (F2.keep b o e)) (Heap.lt_size (N2 _ (.tail _ (.head _))).1) (Heap.lt_size (N2 _ (.tail _ (.tail _ (.head _)))).1) (Heap.lt_size ht)
end Mine
end

section
set_option maxRecDepth 100000
namespace Mine
open PySem PySem.W PySem.Spec PySem.Calls PyProof.Rows
theorem fi_iter (w : World) : findIn (K w.params) (.ref 155) "__iter__" = some (some (.ref 71)) := by kernel_rfl
theorem if_iter (w : World) : isFn (K w.params) (.ref 71) = true := by kernel_rfl
section
variable {w : World} {loose : List Str} {mean : ExcName → Option Value} {mg mb : Str → Option Value} {A₀ : Around} {base h₀ : Heap} {outer : List Env} {news : List (Addr × Obj)} {s : Shared} {L : Addr} {m : Str → Option Value} {env : Env}
  {dp un : Nat} {gd : Option (List Code)} {E : Value → Shared → Prop}
set_option maxHeartbeats 1000000 in
theorem unpack_row {x dx fO : Addr} {k1 k2 k3 k4 k5 k6 t5 t6 : Tok} {v1 v2 v3 : Value} {nd : Nat} {elts : List PySem.Expr} {k : Nat} {pos : Pos} {Q : Unit → Shared → Prop}
    (B : Below A₀ base outer h₀) (F : Fr h₀ L s.heap m) (X : (K w.params).In h₀) (N : News h₀ L s.heap news) (T : Top topProg loose mean mg mb h₀)
    (hf : env.frame = some L) (hke : env.scope.kind = .function) (hx : (x, instObj 155 dx) ∈ news) (hdx : (dx, rowDict w k1 k2 k3 k4 k5 k6 v1 v2 v3 fO t5 t6 nd) ∈ news) (hd : dp + 3 < recursionLimit)
    (hn : (assignEach elts env).length = 3) (hstar : (assignEach elts env).findIdx? (·.1) = none)
    (h : ∀ h' tk', Fr h₀ L h' m → News h₀ L h' news → wpAny (model P0 w) ⟨none, dp, some (env :: outer), gd, un⟩ (assignInOrder ((assignEach elts env).map (·.2)) [.ref fO, .int 1 t5, .int 16 t6]) Q E { s with heap := h', toks := tk' }) :
    wpAny (model P0 w) ⟨none, dp, some (env :: outer), gd, un⟩ (assign (.Tuple elts k pos) env (.ref x)) Q E s := by
  rw [assign_Tuple]
  refine wpAny_bind (wpAny_standAt ?_)
  unfold unpack
  rw [hn, hstar]
  refine wpAny_bind (wpAny_holding ?_)
  have I : InstAt s.heap x (instObj 155 dx) 155 (some (rowDict w k1 k2 k3 k4 k5 k6 v1 v2 v3 fO t5 t6 nd)) := InstAt.of_news N hx hdx
  have L1 := looks_findIn (M := model P0 w) (X.keeps F.keep) (fi_iter w)
  unfold unpackItems notIterableAtAll specialOf
  refine wpAny_bind (wpAny_bind (wpAny_bind (I.type.here (L1.here ?_))))
  refine wpAny_pure ?_
  simp only [Bool.false_eq_true, if_false]
  refine wpAny_bind (wpAny_holding (owit_iter F X I (fi_iter w) (if_iter w) ?_))
  obtain ⟨G, back⟩ := gh_of (A := ⟨none, dp, some (env :: outer), gd, un⟩) (rows := [(x, instObj 155 dx), (dx, rowDict w k1 k2 k3 k4 k5 k6 v1 v2 v3 fO t5 t6 nd)]) B F X N T rfl hf hke
    (fun p hp => by rcases List.mem_cons.mp hp with rfl | hp; exact hx; rw [List.mem_singleton.mp hp]; exact hdx)
  refine c71 G hd fun h' tk' it t hk hr hit ht hlt hxi hdi hti => ?_
  obtain ⟨F', N'⟩ := back h' hk hr
  unfold OwitIt specialOf
  refine wpAny_bind (wpAny_typeOf (s := { s with heap := h', toks := tk' }) hit.typeIs (wpAny_of_eq PySem.F.slot_tuple_iterator_next.lookup ?_))
  show wpAny _ _ _ _ _ _
  have below : ∀ b o, s.heap.get? b = some o → b < it := fun b o e => by
    by_cases hb : b ∈ [(x, instObj 155 dx), (dx, rowDict w k1 k2 k3 k4 k5 k6 v1 v2 v3 fO t5 t6 nd)].map (·.1)
    · simp only [List.map_cons, List.map_nil, List.mem_cons, List.not_mem_nil, or_false] at hb
      rcases hb with rfl | rfl
      · exact hxi
      · exact hdi
    · exact hlt b o (hideAll_get _ e hb)
  have hLit : L ≠ it := by
    obtain ⟨oL, _, _, hL, _⟩ := F.ns
    exact Nat.ne_of_lt (below _ _ hL)
  have fin : ∀ h'', Heap.ExtBut it h' h'' → Fr h₀ L h'' m ∧ News h₀ L h'' news := fun h'' hs =>
    ⟨⟨F'.ns.extBut hs hLit, fun b o e => hs b o (Nat.ne_of_lt (below b o (F.keep b o e))) (F'.keep b o e), F'.above⟩,
     fun p hp => ⟨hs _ _ (Nat.ne_of_lt (below _ _ (N p hp).1)) (N' p hp).1, (N' p hp).2⟩⟩
  refine wpAny_bind (wpAny_holding (wpAny_draw_tuple (Nat.ne_of_lt hti) 3 0 { s with heap := h', toks := tk' } _ hit ht (by exact Nat.le_refl 3) fun h₁ hit₁ hs₁ => ?_))
  dsimp only [List.drop, List.take]
  rw [if_neg (show ¬ ([Value.ref fO, Value.int 1 t5, Value.int 16 t6].length < 3) from Nat.lt_irrefl 3)]
  refine wpAny_bind (wpAny_holding (wpAny_pyNext_tuple_end (s := { s with heap := h₁, toks := tk' }) rfl hit₁ (ht.extBut hs₁.extBut (Nat.ne_of_lt hti)) rfl fun h₂ hs₂ => ?_))
  simp only [Option.isSome_none, Bool.false_eq_true, if_false]
  refine wpAny_pure ?_
  obtain ⟨F2, N2⟩ := fin h₂ (fun b o hb e => hs₂ b o hb (hs₁.extBut b o hb e))
  exact h h₂ tk' F2 N2
end
end Mine
end

section
set_option maxRecDepth 100000
namespace Mine
open PySem PySem.W PySem.Spec PySem.Calls PyProof.Rows
/-- what holds of the bytes that a loop turns, turn by turn -/
def BlockInv (P : Nat → Array UInt8 → Prop) (b : Array UInt8) : Prop := P 0 b
/-- a turn's end: the name holds bytes of which the next word is true; nothing else has moved -/
def BlockEnd (h₀ : Heap) (L : Addr) (m₀ : Str → Option Value) (x y : Str) (P : Array UInt8 → Prop) (need : List (Addr × Obj)) (s₁ s₂ : Shared) : Prop :=
  ∃ h' tk m' news' b tb, s₂ = { s₁ with heap := h', toks := tk } ∧ Fr h₀ L h' m' ∧ News h₀ L h' news' ∧ (∀ p ∈ need, p ∈ news') ∧ m' y = some (.bytes b tb) ∧ P b ∧ ∀ z, z ≠ x → z ≠ y → m' z = m₀ z
def BlockPost (h₀ : Heap) (L : Addr) (m₀ : Str → Option Value) (x y : Str) (P : Array UInt8 → Prop) (need : List (Addr × Obj)) (s₁ : Shared) (f : Flow) (s₂ : Shared) : Prop := match f with
  | .next => BlockEnd h₀ L m₀ x y P need s₁ s₂
  | _ => False
section
variable {prog : Program} {w : World} {A : Around} {E : Value → Shared → Prop} {s : Shared} {env : Env} {h₀ : Heap} {x y : Str} {body : List Stmt} {Q : Flow → Shared → Prop}
theorem range_block {r : Addr} {n : Int} {t₀ u₀ v₀ : Tok} {m₀ : Str → Option Value} {news : List (Addr × Obj)} {b : Array UInt8} {tb : Tok} {P : Nat → Array UInt8 → Prop}
    (hS : BlockInv P b) (hyx : y ≠ x) (hh : A.handled = none) (hr : IsRange s.heap r 0 n 1 t₀ u₀ v₀) (hn0 : 0 ≤ n) (hn1 : n ≤ 1000) (F : Fr h₀ env.locals s.heap m₀) (N : News h₀ env.locals s.heap news) (hb : m₀ y = some (.bytes b tb))
    (turn : ∀ k i t bb tb' h tk own, P k bb → Fr h₀ env.locals h (fun z => if z = x then some (.int i t) else if z = y then some (.bytes bb tb') else m₀ z) → News h₀ env.locals h (news ++ own) →
      wpAny (model prog w) A (execs body env) (BlockPost h₀ env.locals m₀ x y (P (k + 1)) (news ++ own) { s with heap := h, toks := tk }) E { s with heap := h, toks := tk })
    (done : ∀ (u : Str → Option Value) bb tb' h tk, P n.toNat bb → Fr h₀ env.locals h (fun z => if z = x then u z else if z = y then some (.bytes bb tb') else m₀ z) → News h₀ env.locals h news → Q .next { s with heap := h, toks := tk }) :
    wpAny (model prog w) A (pyIter (.ref r)) (fun it s₂ => LoopAtV prog w A h₀ env x body Q E it s₂) E s := by
  have hsz : Builtin.Range.rangeSize 0 n 1 = ((n.toNat : Nat) : Int) := by
    unfold Builtin.Range.rangeSize
    rw [if_pos (by decide : (1 : Int) > 0)]
    split
    · rw [Int.ediv_one]; omega
    · omega
  have hsmall : Builtin.Range.small 0 n 1 = true := by
    unfold Builtin.Range.small
    rw [hsz]
    simp only [Builtin.Range.rangeFitsLong, Bool.and_eq_true, Bool.or_eq_true, decide_eq_true_eq, beq_iff_eq, show ((1 : Int) > 0) by decide, if_true]
    omega
  refine iter_rangeS (σ := Nat) (fun k m nx => nx = news ∧ (∃ bb tb', m y = some (.bytes bb tb') ∧ P k bb) ∧ ∀ z, z ≠ x → z ≠ y → m z = m₀ z) (fun k _ => k + 1) 0 hh hr hsmall hsz F N ⟨rfl, ⟨b, tb, hb, hS⟩, fun _ _ _ => rfl⟩ ?_ ?_
  · rintro i t k m₁ nx h tk own _ _ ⟨rfl, ⟨bb, tb', hm, hP⟩, hz⟩ F₁ N₁
    rw [map_one (y := y) hm hz] at F₁
    refine wpAny_mono (turn k i t bb tb' h tk own hP F₁ N₁) (fun f s₂ hp => ?_) fun _ _ e => e
    cases f with
    | next =>
      obtain ⟨h', tk2, m', news', b', tb2, e, F', N', hn, hy, hP', hz'⟩ := hp
      exact ⟨h', tk2, m', news', nx, e, F', N', fun p hp => hn p (List.mem_append_left _ hp), fun p hp => hn p (List.mem_append_right _ hp), rfl, rfl, ⟨b', tb2, hy, hP'⟩, hz'⟩
    | _ => exact hp.elim
  · rintro m₁ nx h tk ⟨rfl, ⟨bb, tb', hm, hP⟩, hz⟩ F₁ N₁
    have e : (rangeKs 0 n.toNat).foldl (fun k (_ : Int) => k + 1) 0 = n.toNat := by
      have gen : ∀ (l : List Int) (a : Nat), l.foldl (fun k (_ : Int) => k + 1) a = a + l.length := fun l => by
        induction l with
        | nil => intro a; rfl
        | cons c r ih => intro a; rw [List.foldl_cons, ih, List.length_cons]; omega
      rw [gen, rangeKs_length, Nat.zero_add]
    rw [e] at hP
    refine done m₁ bb tb' h tk hP ?_ N₁
    rw [done_one hm hz]
    exact F₁
end
end Mine
end

section
set_option maxRecDepth 100000
namespace Mine
open PySem PySem.W PySem.Spec PySem.Calls PyProof.Rows
section
variable {w : World} {loose : List Str} {mean : ExcName → Option Value} {mg mb : Str → Option Value} {A : Around} {base g : Heap} {outer : List Env} {rows : List (Addr × Obj)} {s : Shared}
/-- a lambda whose one argument is kept in a cell, entered from a ghost -/
theorem gh_lamc {R : Result → Shared → Prop} {name qual : Str} {params : Arguments} {body : PySem.Expr} {scope : Scope} {rest : List (Str × NameKind)} {cl : List (Str × Addr)} {dV doc pm ctv : Value} {c' : Addr} {f : Addr} {args : Args}
    {x : Str} {v : Value} (G : Gh w loose mean mg mb A base outer g rows s.heap)
    (ho : (f, kdv_obj name qual params (.expr body) scope cl dV doc pm c' ctv) ∈ rows) (hcd : s.heap.CodeRec (.ref c') qual) (hroom : A.depth < recursionLimit)
    (hbind : BindsTo s (kdv_fn name qual params (.expr body) scope cl dV doc pm (.ref c') ctv) args [(x, v)])
    (hn : scope.names = (x, .cell) :: rest) (hr : ∀ n acc, cellsFrom n rest acc = acc) (hp : ∀ h, pushCells h rest = h)
    (h : ∀ L' h₁ oc, Fr g L' h₁ (fun _ => none) → News g L' h₁ ((L' + 1, oc) :: rows) → oc.data = .cell (some v) → s.heap.objs.size ≤ L' → Below A base outer g → (K w.params).In g → Top topProg loose mean mg mb g →
      wpAny (model P0 w) (A.deeper (envX qual scope L' f (.ref c') ((x, L' + 1) :: cl))) (eval body (envX qual scope L' f (.ref c') ((x, L' + 1) :: cl)))
        (fun v s' => R (.ok (.ret v)) s') (fun _ _ => False)
        { s with heap := h₁ })
    (hco : scope.isCoroutine = false) (hgen : scope.isGenerator = false) (hk : scope.kind = .function) : codeAny (model P0 w) A (.call (.ref f) args) R s := by
  refine kla_callFunE hroom (G.rows _ ho).1 rfl hco hgen rfl hcd (hbind _ _ _ _ ?_)
  refine nfe_one hk hn hr hp fun h₁ hns hcell hk₁ => ⟨(G.T.nolimit.keeps G.sub).keeps hk₁, ?_⟩
  show codeAny _ _ (.expr body (envX qual scope s.heap.objs.size f (.ref c') ((x, s.heap.objs.size + 1) :: cl))) _ _
  obtain ⟨oc, hoc, hcd'⟩ := hcell
  refine kla_codeExpr (wpAny_mono (h s.heap.objs.size h₁ oc ⟨hns, fun b o e => hk₁ b o (G.sub b o e), G.size⟩
    (fun q hq => ?_) hcd' (Nat.le_refl _) G.B G.X G.T) (fun v s' hl => hl) fun _ _ y => y.elim)
  rcases List.mem_cons.mp hq with rfl | hq
  · exact ⟨hoc, Nat.ne_of_gt (Nat.lt_succ_self _), Heap.get?_none_of_le (Nat.le_trans G.size (Nat.le_succ _))⟩
  · exact ⟨hk₁ _ _ (G.rows q hq).1, Nat.ne_of_lt (Heap.lt_size (G.rows q hq).1), (G.rows q hq).2⟩

/-- a lambda without arguments, entered from a ghost -/
theorem gh_lam0 {R : Result → Shared → Prop} {name qual : Str} {params : Arguments} {body : PySem.Expr} {scope : Scope} {cl : List (Str × Addr)} {pm ctv : Value} {c' : Addr} {f : Addr} {args : Args} {binds : List (Str × Value)}
    (G : Gh w loose mean mg mb A base outer g rows s.heap)
    (ho : (f, kla_obj name qual params body scope cl pm c' ctv) ∈ rows) (hcd : s.heap.CodeRec (.ref c') qual) (hroom : A.depth < recursionLimit)
    (hbind : bindArgs (kla_fn name qual params body scope cl pm (.ref c') ctv) args = pure binds) (hloc : ∀ y ∈ binds, scope.names.lookup y.1 = some .local)
    (h : ∀ L' h₁, Fr g L' h₁ (fun y => binds.reverse.lookup y) → News g L' h₁ rows → Below A base outer g → (K w.params).In g → Top topProg loose mean mg mb g →
      wpAny (model P0 w) (A.deeper (envX qual scope L' f (.ref c') cl)) (eval body (envX qual scope L' f (.ref c') cl))
        (fun v s' => R (.ok (.ret v)) s') (fun _ _ => False)
        { s with heap := h₁, toks := s.toks + binds.length })
    (hco : scope.isCoroutine = false) (hgen : scope.isGenerator = false) (hk : scope.kind = .function)
    (hcell : ∀ x ∈ scope.names, x.2 ≠ .cell) : codeAny (model P0 w) A (.call (.ref f) args) R s := by
  refine kla_callFunE hroom (G.rows _ ho).1 rfl hco hgen rfl hcd ?_
  rw [hbind]
  refine wpAny_pure (wpAny_newFunctionEnv hcell hloc (fun h₁ hns hsb => ⟨(G.T.nolimit.keeps G.sub).fresh _ hsb, ?_⟩) hk)
  show codeAny _ _ (.expr body (envX qual scope s.heap.objs.size f (.ref c') cl)) _ _
  have hk₁ : ∀ b o, s.heap.get? b = some o → h₁.get? b = some o := fun b o e => hsb.extBut b o (Nat.ne_of_lt (Heap.lt_size e)) (Heap.get?_push_of_some _ e)
  exact kla_codeExpr (wpAny_mono (h s.heap.objs.size h₁ ⟨hns, fun b o e => hk₁ b o (G.sub b o e), G.size⟩
    (fun p hp => ⟨hk₁ _ _ (G.rows p hp).1, Nat.ne_of_lt (Heap.lt_size (G.rows p hp).1), (G.rows p hp).2⟩) G.B G.X G.T) (fun v s' hl => hl) fun _ _ y => y.elim)
end
end Mine
end

section
set_option maxRecDepth 100000
namespace Mine
open PySem PySem.W PySem.Spec PySem.Calls PyProof.Rows
theorem fillCC : (K = K ∧ PySem.Challenge.rw_at5024_01 = PySem.Challenge.rw_at5024_01) := by
  w_top off
  k_fill
  exact ⟨rfl, rfl⟩
local macro_rules | `(tactic| k_room) => `(tactic| ((try simp only [depth_mark, depth_under_make, depth_under_kw, depth_in1, depth_deeper, depth_caller]); (try dsimp only); omega))
/-- the law's hash, as its text writes it -/
def lamOf : Option (Arguments × PySem.Expr × Scope × Pos) := match PySem.Challenge.pw_at5024_01.main.body.getLast? with
  | some (.FunctionDef _ _ (_ :: _ :: _ :: .Assign _ (.Call _ (.Lambda a b sc p :: _) _ _) _ :: _) _ _ _ _ _ _ _) => some (a, b, sc, p)
  | _ => none
def lamIn (e : PySem.Expr) : Option (Arguments × PySem.Expr × Scope × Pos) := match e with
  | .Call _ (_ :: .Lambda a b sc p :: _) _ _ => some (a, b, sc, p)
  | _ => none
theorem lamOf_some : ∃ a b sc p a' b' sc' p', lamOf = some (a, b, sc, p) ∧ lamIn b = some (a', b', sc', p') := ⟨_, _, _, _, _, _, _, _, rfl, rfl⟩
local macro_rules | `(tactic| walk_at "eval Lambda") => `(tactic| (k_here; k_dflt (refine' kla_eval ?d0 ?_; (case d0 => exact rfl); refine' Mine.lamIn_hit ?F ?N ?T ?hc ?ho ?hcd ?hm ?ht ?hf ?hcl ?_; (case F => k_asm); (case N => k_asm); (case T => k_asm); (case hcd => exact rfl); (case hc => k_mem); (case ho => assumption); (case hm => k_mem); (case ht => kn_triples); (case hf => kn_hit); (case hcl => exact rfl)); intro fI ctvI h' tk' F' N' hlt'; (try dsimp only at N'); (have lt1' := Nat.le_of_lt (hlt' _ (List.Mem.head _))); clear hlt'; (dsimp only at lt1')))
local macro_rules | `(tactic| walk_at "call ref") => `(tactic| (k_here; k_dflt (show wpAny _ _ (call (Value.ref 285) _) _ _ _; refine' Mine.handed_N ?B ?F ?X ?N ?T ?hf ?hk ?hd ?_; (case B => k_asm); (case F => k_asm); (case X => k_asm); (case N => k_asm); (case T => k_asm); (case hf => exact rfl); (case hk => exact rfl); (case hd => (dsimp only [Around.deeper]; omega))); intro hA dA h' tk' F' N' hlt'; (have lt2' := Nat.le_of_lt (hlt' _ (List.Mem.head _))); clear hlt'; (dsimp only at lt2')))
set_option maxHeartbeats 4000000 in
theorem const_again {w : World} {loose : List Str} {mean : ExcName → Option Value} {mg mb : Str → Option Value} {dp un : Nat} {gd : Option (List Code)} {base g : Heap} {outer : List Env} {s : Shared} {Q E : Value → Shared → Prop}
    {params params' : Arguments} {lbody lbody' : PySem.Expr} {scope scope' : Scope} {lpos lpos' : Pos} (hl : lamOf = some (params, lbody, scope, lpos)) (hl' : lamIn lbody = some (params', lbody', scope', lpos'))
    {fO tO cO cI td cl cm : Addr} {ocO : Obj} {vsO : Array Value} {qO : Str} {tqO : Tok} {pm ctv : Value} {tb tr : Tok} {b : Array UInt8}
    (hdO : ocO.data = .fields vsO) (hvO : vsO[1]? = some (.str qO tqO)) (hoc : CodeOc ocO cO tO)
    (G : Gh w loose mean mg mb ⟨none, dp, some outer, gd, un⟩ base outer g
      [(fO, kdv_obj "<lambda>" qO params (.expr lbody) scope [("many", cm), ("leads", cl)] (.ref td) .none pm cO ctv),
       (tO, tabObj #[rawInt lpos'.line, rawInt lpos'.col, .ref cI]), (cO, ocO), (td, kdv_tup [.bytes #[] tb])] s.heap) (hd : dp + 6 < recursionLimit)
    (ret : ∀ hA dA fI oc aO pm' ctv' t4 t5 h' tk', s.heap.objs.size ≤ aO → s.heap.objs.size ≤ fI → s.heap.objs.size ≤ hA → (∀ b o, g.get? b = some o → h'.get? b = some o) → oc.data = .cell (some (.bytes b tr)) →
      (∃ L', News g L' h' [(hA, hObj dA #[.none, .ref fI, .none, .int 1 t4, .int 16 t5]), (fI, kla_obj "<lambda>" (qO ++ ".<locals>." ++ "<lambda>") params' lbody' scope' [("octets", aO), ("many", cm), ("leads", cl)] pm' cI ctv'), (aO, oc),
        (fO, kdv_obj "<lambda>" qO params (.expr lbody) scope [("many", cm), ("leads", cl)] (.ref td) .none pm cO ctv),
       (tO, tabObj #[rawInt lpos'.line, rawInt lpos'.col, .ref cI]), (cO, ocO), (td, kdv_tup [.bytes #[] tb])]) → Q (.ref hA) { s with heap := h', toks := tk' }) :
    wpAny (model P0 w) ⟨none, dp, some outer, gd, un⟩ (call (.ref fO) [.bytes b tr]) Q E s := by
  cases hl
  cases hl'
  refine wpAny_call ?_
  refine gh_lamc (x := "octets") (v := .bytes b tr) G (.head _) ⟨cO, ocO, vsO, tqO, rfl, (G.rows _ (.tail _ (.tail _ (.head _)))).1, hdO, hvO⟩ (by k_room) ?hbind rfl (fun _ _ => rfl) (fun _ => rfl) ?h rfl rfl rfl
  case hbind => exact BindsTo.of_defaults rfl (G.rows _ (.tail _ (.tail _ (.tail _ (.head _))))).1 rfl rfl rfl
  intro L' h₁ oc F N hoc' hlt B X T
  dsimp only
  (try k_fold)
  k_steps
  rename News _ _ _ _ => N2
  rename Fr _ _ _ _ => F2
  exact ret _ _ _ _ _ _ _ _ _ _ _ (by omega) (by omega) (by omega) F2.keep hoc' ⟨_, N2⟩
end Mine
end

section
set_option maxRecDepth 100000
namespace Mine
open PySem PySem.W PySem.Spec PySem.Calls PyProof.Rows
theorem fillCI : (K = K ∧ PySem.Challenge.rw_at5024_01 = PySem.Challenge.rw_at5024_01) := by
  w_top off
  k_fill
  exact ⟨rfl, rfl⟩
local macro_rules | `(tactic| k_room) => `(tactic| ((try simp only [depth_mark, depth_under_make, depth_under_kw, depth_in1, depth_deeper, depth_caller]); (try dsimp only); omega))
local macro_rules | `(tactic| walk_at "eval Name") => `(tactic| (k_here; name_kind "free"; k_dflt (refine' nameX_F ?N ?c ?m ?d ?_ ?a ?b; (case a => rfl); (case b => rfl); (case N => k_asm); (case c => rfl); (case m => k_mem); (case d => k_asm))))
set_option maxHeartbeats 4000000 in
theorem inner_call {w : World} {loose : List Str} {mean : ExcName → Option Value} {mg mb : Str → Option Value} {dp un : Nat} {gd : Option (List Code)} {base g : Heap} {outer : List Env} {s : Shared} {Q E : Value → Shared → Prop}
    {params params' : Arguments} {lbody lbody' : PySem.Expr} {scope scope' : Scope} {lpos lpos' : Pos} (hl : lamOf = some (params, lbody, scope, lpos)) (hl' : lamIn lbody = some (params', lbody', scope', lpos'))
    {fI cI aO cl cm ll : Addr} {ocI oc ocl ocm : Obj} {vsI : Array Value} {qI : Str} {tqI : Tok} {pm' ctv' : Value} {tr tm : Tok} {b : Array UInt8} {ks : List Int} {vs : List Value} {ns : List Int} {ep : Nat} {mm : Int}
    (hdI : ocI.data = .fields vsI) (hvI : vsI[1]? = some (.str qI tqI)) (hoc : oc.data = .cell (some (.bytes b tr)))
    (hocl : ocl.data = .cell (some (.ref ll))) (hocm : ocm.data = .cell (some (.int mm tm))) (hi : IntsAre vs ns) (hb : KBw.bInts b = ks) (hz : ks.length ≤ 8) (hm : 0 < mm) (hm2 : mm ≤ 200) (hlen : (ns.length : Int) = mm) (hns : ∀ x ∈ ns, 0 ≤ x ∧ x < mm)
    (G : Gh w loose mean mg mb ⟨none, dp, some outer, gd, un⟩ base outer g
      [(fI, kla_obj "<lambda>" qI params' lbody' scope' [("octets", aO), ("many", cm), ("leads", cl)] pm' cI ctv'), (aO, oc), (cI, ocI), (cl, ocl), (cm, ocm), (ll, W.listOf vs.toArray ep)] s.heap) (hd : dp + 6 < recursionLimit)
    (ret : ∀ bb t h' tk', (∀ b o, g.get? b = some o → h'.get? b = some o) →
      (∃ L', News g L' h' [(fI, kla_obj "<lambda>" qI params' lbody' scope' [("octets", aO), ("many", cm), ("leads", cl)] pm' cI ctv'), (aO, oc), (cI, ocI), (cl, ocl), (cm, ocm), (ll, W.listOf vs.toArray ep)]) →
      KBw.bInts bb = [ns.getD (ks.sum.fmod mm).toNat 0] → Q (.bytes bb t) { s with heap := h', toks := tk' }) :
    wpAny (model P0 w) ⟨none, dp, some outer, gd, un⟩ (call (.ref fI) []) Q E s := by
  have hin : KBa.In [ns.getD (ks.sum.fmod mm).toNat 0] := by
    intro n hn
    rw [List.mem_singleton.mp hn]
    by_cases hk : (ks.sum.fmod mm).toNat < ns.length
    · have := hns _ (List.getElem_mem hk)
      rw [List.getD_eq_getElem?_getD, List.getElem?_eq_getElem hk, Option.getD_some]
      omega
    · rw [List.getD_eq_getElem?_getD, List.getElem?_eq_none (by omega), Option.getD_none]
      omega
  cases hl
  cases hl'
  refine wpAny_call ?_
  refine' gh_lam0 (binds := []) G (.head _) ⟨cI, ocI, vsI, tqI, rfl, (G.rows _ (.tail _ (.tail _ (.head _)))).1, hdI, hvI⟩ (by k_room) ?hbind ?hloc ?h ?c1 ?c2 ?c3 ?c4
  (case hbind => exact rfl)
  (case hloc => exact locs rfl)
  (case c1 => exact rfl)
  (case c2 => exact rfl)
  (case c3 => exact rfl)
  (case c4 => decide)
  intro L' h₁ F N B X T
  dsimp only
  (try k_fold)
  k_steps
  rename News _ _ _ _ => N2
  rename Fr _ _ _ _ => F2
  have e : KBw.bInts (byteArr [ns.getD (ks.sum.fmod mm).toNat 0]) = [ns.getD (ks.sum.fmod mm).toNat 0] := KBa.ints_make hin
  exact ret _ _ _ _ F2.keep ⟨_, fun p hp => N2 p (.tail _ hp)⟩ e
end Mine
end

section
set_option maxRecDepth 100000
namespace Mine
open PySem PySem.W PySem.Spec PySem.Calls PyProof.Rows
section
variable {w : World} {loose : List Str} {mean : ExcName → Option Value} {mg mb : Str → Option Value} {A₀ : Around} {base h₀ : Heap} {outer : List Env} {news : List (Addr × Obj)} {s : Shared} {L : Addr} {m : Str → Option Value} {env : Env}
  {dp un : Nat} {gd : Option (List Code)} {E : Value → Shared → Prop}

/-- what is known of the law's hash, once its inner lambda has been made -/
structure Hash (params params' : Arguments) (lbody lbody' : PySem.Expr) (scope scope' : Scope) (lpos lpos' : Pos) (tO cO ll : Addr) (ocO ocI ocl ocm : Obj) (qO : Str) (vs : List Value) (ns : List Int) (mm : Int) (tm : Tok) : Prop where
  l1 : lamOf = some (params, lbody, scope, lpos)
  l2 : lamIn lbody = some (params', lbody', scope', lpos')
  dO : ∃ vsO tqO, ocO.data = .fields vsO ∧ vsO[1]? = some (.str qO tqO)
  hO : CodeOc ocO cO tO
  dI : ∃ vsI tqI, ocI.data = .fields vsI ∧ vsI[1]? = some (.str (qO ++ ".<locals>." ++ "<lambda>") tqI)
  dl : ocl.data = .cell (some (.ref ll))
  dm : ocm.data = .cell (some (.int mm tm))
  hi : IntsAre vs ns
  pos : 0 < mm
  le : mm ≤ 200
  len : (ns.length : Int) = mm
  lt : ∀ x ∈ ns, 0 ≤ x ∧ x < mm

/-- the law's map, of any number -/
def stp (ns : List Int) (mm x : Int) : Int := ns.getD (x.fmod mm).toNat 0

variable {params params' : Arguments} {lbody lbody' : PySem.Expr} {scope scope' : Scope} {lpos lpos' : Pos} {fO tO cO cI td cl cm ll : Addr} {ocO ocI ocl ocm : Obj} {qO : Str} {pm ctv : Value} {tb tm : Tok} {vs : List Value} {ep : Nat} {ns : List Int} {mm : Int}

/-- the hash made of bytes, in a frame -/
theorem const_N {b : Array UInt8} {tr : Tok} {Q : Value → Shared → Prop} (H : Hash params params' lbody lbody' scope scope' lpos lpos' tO cO ll ocO ocI ocl ocm qO vs ns mm tm)
    (n1 : (fO, kdv_obj "<lambda>" qO params (.expr lbody) scope [("many", cm), ("leads", cl)] (.ref td) .none pm cO ctv) ∈ news) (n2 : (tO, tabObj #[rawInt lpos'.line, rawInt lpos'.col, .ref cI]) ∈ news) (n3 : (cO, ocO) ∈ news) (n4 : (td, kdv_tup [.bytes #[] tb]) ∈ news)
    (B : Below A₀ base outer h₀) (F : Fr h₀ L s.heap m) (X : (K w.params).In h₀) (N : News h₀ L s.heap news) (T : Top topProg loose mean mg mb h₀)
    (hf : env.frame = some L) (hke : env.scope.kind = .function) (hd : dp + 6 < recursionLimit)
    (h : ∀ hA dA fI oc aO pm' ctv' t4 t5 h' tk', Fr h₀ L h' m → oc.data = .cell (some (.bytes b tr)) →
      News h₀ L h' ((hA, hObj dA #[.none, .ref fI, .none, .int 1 t4, .int 16 t5]) :: (fI, kla_obj "<lambda>" (qO ++ ".<locals>." ++ "<lambda>") params' lbody' scope' [("octets", aO), ("many", cm), ("leads", cl)] pm' cI ctv') :: (aO, oc) :: news) →
      Q (.ref hA) { s with heap := h', toks := tk' }) :
    wpAny (model P0 w) ⟨none, dp, some (env :: outer), gd, un⟩ (call (.ref fO) [.bytes b tr]) Q E s := by
  obtain ⟨vsO, tqO, d1, d2⟩ := H.dO
  obtain ⟨G, back⟩ := gh_of (A := ⟨none, dp, some (env :: outer), gd, un⟩) (rows := [(fO, kdv_obj "<lambda>" qO params (.expr lbody) scope [("many", cm), ("leads", cl)] (.ref td) .none pm cO ctv),
       (tO, tabObj #[rawInt lpos'.line, rawInt lpos'.col, .ref cI]), (cO, ocO), (td, kdv_tup [.bytes #[] tb])]) B F X N T rfl hf hke (fun p hp => by
    simp only [List.mem_cons, List.not_mem_nil, or_false] at hp
    rcases hp with rfl | rfl | rfl | rfl
    · exact n1
    · exact n2
    · exact n3
    · exact n4)
  refine const_again H.l1 H.l2 d1 d2 H.hO G hd fun hA dA fI oc aO pm' ctv' t4 t5 h' tk' l1 l2 l3 hk hoc hN => ?_
  obtain ⟨L', hN⟩ := hN
  obtain ⟨F', N'⟩ := back h' hk fun p hp => (hN p (.tail _ (.tail _ (.tail _ hp)))).1
  have hLs : L < s.heap.objs.size := F.ns.lt
  have new : ∀ a, s.heap.objs.size ≤ a → a ≠ L ∧ h₀.get? a = none := fun a ha => ⟨Nat.ne_of_gt (Nat.lt_of_lt_of_le hLs ha), Heap.get?_none_of_le (Nat.le_trans F.above (Nat.le_trans (Nat.le_of_lt hLs) ha))⟩
  refine h hA dA fI oc aO pm' ctv' t4 t5 h' tk' F' hoc fun p hp => ?_
  rcases List.mem_cons.mp hp with rfl | hp
  · exact ⟨(hN _ (.head _)).1, new _ l3⟩
  · rcases List.mem_cons.mp hp with rfl | hp
    · exact ⟨(hN _ (.tail _ (.head _))).1, new _ l2⟩
    · rcases List.mem_cons.mp hp with rfl | hp
      · exact ⟨(hN _ (.tail _ (.tail _ (.head _)))).1, new _ l1⟩
      · exact N' p hp

/-- its digest, in a frame -/
theorem inner_N {fI aO : Addr} {oc : Obj} {b : Array UInt8} {tr : Tok} {pm' ctv' : Value} {Q : Value → Shared → Prop} 
    (H : Hash params params' lbody lbody' scope scope' lpos lpos' tO cO ll ocO ocI ocl ocm qO vs ns mm tm) (hoc : oc.data = .cell (some (.bytes b tr))) (hz : (KBw.bInts b).length ≤ 8)
    (m1 : (fI, kla_obj "<lambda>" (qO ++ ".<locals>." ++ "<lambda>") params' lbody' scope' [("octets", aO), ("many", cm), ("leads", cl)] pm' cI ctv') ∈ news) (m2 : (aO, oc) ∈ news) (n5 : (cI, ocI) ∈ news) (n6 : (cl, ocl) ∈ news) (n7 : (cm, ocm) ∈ news) (n8 : (ll, W.listOf vs.toArray ep) ∈ news)
    (B : Below A₀ base outer h₀) (F : Fr h₀ L s.heap m) (X : (K w.params).In h₀) (N : News h₀ L s.heap news) (T : Top topProg loose mean mg mb h₀)
    (hf : env.frame = some L) (hke : env.scope.kind = .function) (hd : dp + 6 < recursionLimit)
    (h : ∀ bb t h' tk', Fr h₀ L h' m → News h₀ L h' news → KBw.bInts bb = [stp ns mm (KBw.bInts b).sum] → Q (.bytes bb t) { s with heap := h', toks := tk' }) :
    wpAny (model P0 w) ⟨none, dp, some (env :: outer), gd, un⟩ (call (.ref fI) []) Q E s := by
  obtain ⟨vsI, tqI, d1, d2⟩ := H.dI
  obtain ⟨G, back⟩ := gh_of (A := ⟨none, dp, some (env :: outer), gd, un⟩) (rows := [(fI, kla_obj "<lambda>" (qO ++ ".<locals>." ++ "<lambda>") params' lbody' scope' [("octets", aO), ("many", cm), ("leads", cl)] pm' cI ctv'), (aO, oc), (cI, ocI), (cl, ocl), (cm, ocm), (ll, W.listOf vs.toArray ep)]) B F X N T rfl hf hke (fun p hp => by
    simp only [List.mem_cons, List.not_mem_nil, or_false] at hp
    rcases hp with rfl | rfl | rfl | rfl | rfl | rfl
    · exact m1
    · exact m2
    · exact n5
    · exact n6
    · exact n7
    · exact n8)
  refine inner_call H.l1 H.l2 d1 d2 hoc H.dl H.dm H.hi rfl hz H.pos H.le H.len H.lt G hd fun bb t h' tk' hk hN e => ?_
  obtain ⟨L', hN⟩ := hN
  obtain ⟨F', N'⟩ := back h' hk fun p hp => (hN p hp).1
  exact h _ _ _ _ F' N' e
end
end Mine
end

section
set_option maxRecDepth 100000
namespace Mine
open PySem PySem.W PySem.Spec PySem.Calls PyProof.Rows
theorem fill165 : (K = K ∧ PySem.Challenge.rw_at5024_01 = PySem.Challenge.rw_at5024_01) := by
  w_top off
  k_fill
  exact ⟨rfl, rfl⟩
local macro_rules | `(tactic| k_room) => `(tactic| ((try simp only [depth_mark, depth_under_make, depth_under_kw, depth_in1, depth_deeper, depth_caller]); (try dsimp only); omega))
/-- where a number stands after so many turns -/
def turns (ns : List Int) (mm : Int) : Nat → Int → Int
  | 0, x => x
  | k + 1, x => stp ns mm (turns ns mm k x)
def turnP (ns : List Int) (mm S : Int) (k : Nat) (b : Array UInt8) : Prop := (KBw.bInts b).length ≤ 8 ∧ (KBw.bInts b).sum = turns ns mm k S ∧ (1 ≤ k → KBw.bInts b = [turns ns mm k S])
theorem fld1 {a b c d e : Value} : (#[a, b, c, d, e] : Array Value)[1]? = some b := rfl
theorem fld3 {a b c d e : Value} : (#[a, b, c, d, e] : Array Value)[3]? = some d := rfl
theorem fld4 {a b c d e : Value} : (#[a, b, c, d, e] : Array Value)[4]? = some e := rfl
theorem turnP_end {ns : List Int} {mm S : Int} {k : Nat} {b : Array UInt8} (h : turnP ns mm S k b) (hk : 1 ≤ k) : KBw.bInts b = [turns ns mm k S] := h.2.2 hk
theorem turnP_next {ns : List Int} {mm S : Int} {k : Nat} {b bb : Array UInt8} (h : turnP ns mm S k b) (e : KBw.bInts bb = [stp ns mm (KBw.bInts b).sum]) : turnP ns mm S (k + 1) bb := by
  have e2 : KBw.bInts bb = [turns ns mm (k + 1) S] := by rw [e, h.2.1]; rfl
  refine ⟨by rw [e2]; exact (by decide : 1 ≤ 8), by rw [e2]; exact Int.add_zero _, fun _ => e2⟩
theorem turnP_z {ns : List Int} {mm S : Int} {k : Nat} {b : Array UInt8} (h : turnP ns mm S k b) : (KBw.bInts b).length ≤ 8 := h.1
local macro_rules | `(tactic| walk_at "assign Tuple") => `(tactic| (k_here; (with_reducible show wpAny _ _ (assign (Expr.Tuple _ _ _) _ (Value.ref _)) _ _ _); k_dflt (refine' Mine.unpack_row ?B ?F ?X ?N ?T ?hf ?hk ?hx ?hdx ?hd ?hn ?hs ?_; (case B => k_asm); (case F => k_asm); (case X => k_asm); (case N => k_asm); (case T => k_asm); (case hf => exact rfl); (case hk => exact rfl); (case hx => k_mem); (case hdx => k_mem); (case hd => (dsimp only [Around.deeper]; omega)); (case hn => exact rfl); (case hs => exact rfl)); intro h' tk' F' N'; (try dsimp only); (try k_sweep)))
local macro_rules | `(tactic| walk_at "pyIter ref") => `(tactic| (k_here; (with_reducible show wpAny _ _ (pyIter (Value.ref _)) (fun it s₂ => LoopAtV _ _ _ _ _ _ _ _ _ it s₂) _ _); k_dflt (refine' Mine.range_block (y := "block") ?hS ?hyx ?hh ?hr ?hn0 ?hn1 ?F ?N ?hb ?turn ?done; (case hS => assumption); (case hyx => decide); (case hh => rfl); (case hr => assumption); (case hn0 => omega); (case hn1 => omega); (case F => k_asm); (case N => k_asm); (case hb => exact rfl); (case' turn => (intro k i t bb tb' h tk own hP F' N'; have hz := Mine.turnP_z hP)); (case' done => (intro u bb tb' h tk hP F' N'; have hbb := Mine.turnP_end hP (by omega))))))
local macro_rules | `(tactic| walk_at "callWith ref") => `(tactic| (k_here; k_dflt (first
  | (refine' callWith_F ?k1 ?_; (case k1 => exact FnAt.of (by k_asm) (by k_mem)))
  | (refine' callWith_F0 ?k1 ?_; (case k1 => exact FnAt.of (by k_asm) (by k_mem))))))
local macro_rules | `(tactic| walk_at "call ref") => `(tactic| (k_here; k_dflt (show wpAny _ _ (call (Value.ref _) [Value.bytes _ _]) _ _ _; refine' Mine.const_N ?H ?n1 ?n2 ?n3 ?n4 ?B ?F ?X ?N ?T ?hf ?hk ?hd ?_; (case B => k_asm); (case F => k_asm); (case X => k_asm); (case N => k_asm); (case T => k_asm); (case hf => exact rfl); (case hk => exact rfl); (case H => assumption); (case n1 => k_mem); (case n2 => k_mem); (case n3 => k_mem); (case n4 => k_mem); (case hd => (dsimp only [Around.deeper]; omega))); intro hA dA fI oc aO pm' ctv' t4 t5 h' tk' F' hoc N'))
local macro_rules | `(tactic| walk_at "call ref") => `(tactic| (k_here; k_dflt (show wpAny _ _ (call (Value.ref _) []) _ _ _; refine' Mine.inner_N ?H ?hoc ?hz ?m1 ?m2 ?n5 ?n6 ?n7 ?n8 ?B ?F ?X ?N ?T ?hf ?hk ?hd ?_; (case B => k_asm); (case F => k_asm); (case X => k_asm); (case N => k_asm); (case T => k_asm); (case hf => exact rfl); (case hk => exact rfl); (case H => assumption); (case m1 => k_mem); (case m2 => k_mem); (case hoc => assumption); (case hz => assumption); (case n5 => k_mem); (case n6 => k_mem); (case n7 => k_mem); (case n8 => k_mem); (case hd => (dsimp only [Around.deeper]; omega))); intro bb t h' tk' F' N' hbI))
local macro_rules | `(tactic| walk_at "getMethod ref") => `(tactic| (k_here; k_dflt (refine' Mine.handed_method_N ?B ?F ?X ?N ?T ?hf ?hk ?m ?f ?v ?h ?d ?u ?_; (case B => k_asm); (case F => k_asm); (case X => k_asm); (case N => k_asm); (case T => k_asm); (case hf => exact rfl); (case hk => exact rfl); (case m => k_mem); (case f => first | exact Mine.Field.digest | exact Mine.Field.size | exact Mine.Field.block); (case v => first | exact Mine.fld1 | exact Mine.fld3 | exact Mine.fld4); (case h => exact rfl); (case d => (dsimp only [Around.deeper]; omega)); (case u => (dsimp only [Around.deeper]; omega))); intro h' tk' F' N'))
set_option maxHeartbeats 4000000 in
theorem c165 {w : World} {loose : List Str} {mean : ExcName → Option Value} {mg mb : Str → Option Value} {dp un : Nat} {gd : Option (List Code)} {base g : Heap} {outer : List Env} {s : Shared} {Q E : Value → Shared → Prop}
    {params params' : Arguments} {lbody lbody' : PySem.Expr} {scope scope' : Scope} {lpos lpos' : Pos} {x dx fO tO cO cI td cl cm ll : Addr} {k1 k2 k3 k4 k5 k6 t5 t6 : Tok} {v1 v2 v3 : Value} {nd : Nat} {ocO ocI ocl ocm : Obj} {qO : Str} {pm ctv : Value} {tb tm : Tok}
    {vs : List Value} {ns : List Int} {ep : Nat} {mm : Int} (H : Hash params params' lbody lbody' scope scope' lpos lpos' tO cO ll ocO ocI ocl ocm qO vs ns mm tm)
    {b1 b2 : Array UInt8} {tb1 tb2 tr : Tok} {rounds : Int} {ks1 ks2 : List Int} (hb1 : KBw.bInts b1 = ks1) (hb2 : KBw.bInts b2 = ks2) (hz1 : ks1.length ≤ 4) (hz2 : ks2.length ≤ 4) (hr1 : 1 ≤ rounds) (hr2 : rounds ≤ 1000)
    (G : Gh w loose mean mg mb ⟨none, dp, some outer, gd, un⟩ base outer g
      [(x, instObj 155 dx), (dx, rowDict w k1 k2 k3 k4 k5 k6 v1 v2 v3 fO t5 t6 nd), (fO, kdv_obj "<lambda>" qO params (.expr lbody) scope [("many", cm), ("leads", cl)] (.ref td) .none pm cO ctv),
       (tO, tabObj #[rawInt lpos'.line, rawInt lpos'.col, .ref cI]), (cO, ocO), (cI, ocI), (td, kdv_tup [.bytes #[] tb]), (cl, ocl), (cm, ocm), (ll, W.listOf vs.toArray ep)] s.heap) (hd : dp + 10 < recursionLimit) (hu : un + 20 < cLine)
    (ret : ∀ bb t h' tk', (∀ b o, g.get? b = some o → h'.get? b = some o) → (∀ p ∈ [(x, instObj 155 dx), (dx, rowDict w k1 k2 k3 k4 k5 k6 v1 v2 v3 fO t5 t6 nd), (fO, kdv_obj "<lambda>" qO params (.expr lbody) scope [("many", cm), ("leads", cl)] (.ref td) .none pm cO ctv),
       (tO, tabObj #[rawInt lpos'.line, rawInt lpos'.col, .ref cI]), (cO, ocO), (cI, ocI), (td, kdv_tup [.bytes #[] tb]), (cl, ocl), (cm, ocm), (ll, W.listOf vs.toArray ep)], h'.get? p.1 = some p.2) →
      KBw.bInts bb = [turns ns mm rounds.toNat (ks1.sum + ks2.sum)] → Q (.bytes bb t) { s with heap := h', toks := tk' }) :
    wpAny (model P0 w) ⟨none, dp, some outer, gd, un⟩ (call (.ref 165) [.ref x, .bytes b1 tb1, .bytes b2 tb2, .int rounds tr]) Q E s := by
  have hP0 : BlockInv (turnP ns mm (ks1.sum + ks2.sum)) (b1 ++ b2) := by
    have e := KBw.ints_app hb1 hb2
    refine ⟨by rw [e, List.length_append]; omega, by rw [e, List.sum_append]; rfl, fun h => absurd h (by omega)⟩
  have XS : (K w.params).In s.heap := G.X.keeps G.sub
  refine wpAny_call ?_
  refine' gh_enter G ?ho ?hcd ?hroom ?hbind ?hloc ?h ?c1 ?c2 ?c3 ?c4
  (case ho => k_is)
  (case hcd => k_is)
  (case hroom => exact (by omega : dp < recursionLimit))
  (case hbind => first | exact BindsTo.of_eq rfl | exact binds_K XS rfl (by k_is) rfl rfl rfl)
  (case hloc => exact locs rfl)
  (case c1 => exact rfl)
  (case c2 => exact rfl)
  (case c3 => exact rfl)
  (case c4 => decide)
  intro L' h₁ F N B X T
  (try k_fold)
  k_steps
  · rename News _ _ _ _ => N2
    rename Fr _ _ _ _ => F2
    rename KBw.bInts _ = [turns _ _ _ _] => e2
    exact ret _ _ _ _ F2.keep (fun p hp => (N2 p hp).1) e2
  · rename News _ _ _ _ => N2
    rename Fr _ _ _ _ => F2
    rename turnP _ _ _ _ _ => h2
    rename KBw.bInts _ = [stp _ _ _] => e2
    refine ⟨_, _, _, _, _, _, rfl, F2, N2, fun p hp => .tail _ (.tail _ (.tail _ hp)), rfl, turnP_next h2 e2, fun z h1 h2 => ?_⟩
    simp only [if_neg h1, if_neg h2]
set_option maxHeartbeats 4000000 in
theorem c165k {w : World} {loose : List Str} {mean : ExcName → Option Value} {mg mb : Str → Option Value} {dp un : Nat} {gd : Option (List Code)} {base g : Heap} {outer : List Env} {s : Shared} {Q E : Value → Shared → Prop}
    {params params' : Arguments} {lbody lbody' : PySem.Expr} {scope scope' : Scope} {lpos lpos' : Pos} {x dx fO tO cO cI td cl cm ll : Addr} {k1 k2 k3 k4 k5 k6 t5 t6 : Tok} {v1 v2 v3 : Value} {nd : Nat} {ocO ocI ocl ocm : Obj} {qO : Str} {pm ctv : Value} {tb tm : Tok}
    {vs : List Value} {ns : List Int} {ep : Nat} {mm : Int} (H : Hash params params' lbody lbody' scope scope' lpos lpos' tO cO ll ocO ocI ocl ocm qO vs ns mm tm)
    {b1 b2 : Array UInt8} {tb1 tb2 tr tkl : Tok} {rounds : Int} {ks1 ks2 : List Int} (hb1 : KBw.bInts b1 = ks1) (hb2 : KBw.bInts b2 = ks2) (hz1 : ks1.length ≤ 4) (hz2 : ks2.length ≤ 4) (hr1 : 1 ≤ rounds) (hr2 : rounds ≤ 1000)
    (G : Gh w loose mean mg mb ⟨none, dp, some outer, gd, un⟩ base outer g
      [(x, instObj 155 dx), (dx, rowDict w k1 k2 k3 k4 k5 k6 v1 v2 v3 fO t5 t6 nd), (fO, kdv_obj "<lambda>" qO params (.expr lbody) scope [("many", cm), ("leads", cl)] (.ref td) .none pm cO ctv),
       (tO, tabObj #[rawInt lpos'.line, rawInt lpos'.col, .ref cI]), (cO, ocO), (cI, ocI), (td, kdv_tup [.bytes #[] tb]), (cl, ocl), (cm, ocm), (ll, W.listOf vs.toArray ep)] s.heap) (hd : dp + 10 < recursionLimit) (hu : un + 20 < cLine)
    (ret : ∀ bb t h' tk', (∀ b o, g.get? b = some o → h'.get? b = some o) → (∀ p ∈ [(x, instObj 155 dx), (dx, rowDict w k1 k2 k3 k4 k5 k6 v1 v2 v3 fO t5 t6 nd), (fO, kdv_obj "<lambda>" qO params (.expr lbody) scope [("many", cm), ("leads", cl)] (.ref td) .none pm cO ctv),
       (tO, tabObj #[rawInt lpos'.line, rawInt lpos'.col, .ref cI]), (cO, ocO), (cI, ocI), (td, kdv_tup [.bytes #[] tb]), (cl, ocl), (cm, ocm), (ll, W.listOf vs.toArray ep)], h'.get? p.1 = some p.2) →
      KBw.bInts bb = [turns ns mm rounds.toNat (ks1.sum + ks2.sum)] → Q (.bytes bb t) { s with heap := h', toks := tk' }) :
    wpAny (model P0 w) ⟨none, dp, some outer, gd, un⟩ (call (.ref 165) [.ref x, .bytes b1 tb1, .bytes b2 tb2, .int rounds tr, .int 1 tkl]) Q E s := by
  have hP0 : BlockInv (turnP ns mm (ks1.sum + ks2.sum)) (b1 ++ b2) := by
    have e := KBw.ints_app hb1 hb2
    refine ⟨by rw [e, List.length_append]; omega, by rw [e, List.sum_append]; rfl, fun h => absurd h (by omega)⟩
  have XS : (K w.params).In s.heap := G.X.keeps G.sub
  refine wpAny_call ?_
  refine' gh_enter G ?ho ?hcd ?hroom ?hbind ?hloc ?h ?c1 ?c2 ?c3 ?c4
  (case ho => k_is)
  (case hcd => k_is)
  (case hroom => exact (by omega : dp < recursionLimit))
  (case hbind => first | exact BindsTo.of_eq rfl | exact binds_K XS rfl (by k_is) rfl rfl rfl)
  (case hloc => exact locs rfl)
  (case c1 => exact rfl)
  (case c2 => exact rfl)
  (case c3 => exact rfl)
  (case c4 => decide)
  intro L' h₁ F N B X T
  (try k_fold)
  k_steps
  · rename News _ _ _ _ => N2
    rename Fr _ _ _ _ => F2
    rename KBw.bInts _ = [turns _ _ _ _] => e2
    exact ret _ _ _ _ F2.keep (fun p hp => (N2 p hp).1) e2
  · rename News _ _ _ _ => N2
    rename Fr _ _ _ _ => F2
    rename turnP _ _ _ _ _ => h2
    rename KBw.bInts _ = [stp _ _ _] => e2
    refine ⟨_, _, _, _, _, _, rfl, F2, N2, fun p hp => .tail _ (.tail _ (.tail _ hp)), rfl, turnP_next h2 e2, fun z h1 h2 => ?_⟩
    simp only [if_neg h1, if_neg h2]
end Mine
end

section
set_option maxRecDepth 100000
namespace Mine
open PySem PySem.W PySem.Spec PySem.Calls PyProof.Rows
section
variable {w : World} {loose : List Str} {mean : ExcName → Option Value} {mg mb : Str → Option Value} {A₀ : Around} {base h₀ : Heap} {outer : List Env} {news : List (Addr × Obj)} {s : Shared} {L : Addr} {m : Str → Option Value} {env : Env}
  {dp un : Nat} {gd : Option (List Code)} {E : Value → Shared → Prop}
variable {params params' : Arguments} {lbody lbody' : PySem.Expr} {scope scope' : Scope} {lpos lpos' : Pos} {x dx fO tO cO cI td cl cm ll : Addr} {k1 k2 k3 k4 k5 k6 t5 t6 : Tok} {v1 v2 v3 : Value} {nd : Nat} {ocO ocI ocl ocm : Obj} {qO : Str} {pm ctv : Value} {tb tm : Tok}
    {vs : List Value} {ns : List Int} {ep : Nat} {mm : Int} {b1 b2 : Array UInt8} {tb1 tb2 tr tkl : Tok} {rounds : Int} {ks1 ks2 : List Int} {Q : Value → Shared → Prop}
theorem pbkdf_N (H : Hash params params' lbody lbody' scope scope' lpos lpos' tO cO ll ocO ocI ocl ocm qO vs ns mm tm)
    (hb1 : KBw.bInts b1 = ks1) (hb2 : KBw.bInts b2 = ks2) (hz1 : ks1.length ≤ 4) (hz2 : ks2.length ≤ 4) (hr1 : 1 ≤ rounds) (hr2 : rounds ≤ 1000)
    (r1 : (x, instObj 155 dx) ∈ news) (r2 : (dx, rowDict w k1 k2 k3 k4 k5 k6 v1 v2 v3 fO t5 t6 nd) ∈ news)
    (n1 : (fO, kdv_obj "<lambda>" qO params (.expr lbody) scope [("many", cm), ("leads", cl)] (.ref td) .none pm cO ctv) ∈ news) (n2 : (tO, tabObj #[rawInt lpos'.line, rawInt lpos'.col, .ref cI]) ∈ news) (n3 : (cO, ocO) ∈ news) (n5 : (cI, ocI) ∈ news) (n4 : (td, kdv_tup [.bytes #[] tb]) ∈ news)
    (n6 : (cl, ocl) ∈ news) (n7 : (cm, ocm) ∈ news) (n8 : (ll, W.listOf vs.toArray ep) ∈ news)
    (B : Below A₀ base outer h₀) (F : Fr h₀ L s.heap m) (X : (K w.params).In h₀) (N : News h₀ L s.heap news) (T : Top topProg loose mean mg mb h₀)
    (hf : env.frame = some L) (hke : env.scope.kind = .function) (hd : dp + 10 < recursionLimit) (hu : un + 20 < cLine)
    (h : ∀ bb t h' tk', Fr h₀ L h' m → News h₀ L h' news → KBw.bInts bb = [turns ns mm rounds.toNat (ks1.sum + ks2.sum)] → Q (.bytes bb t) { s with heap := h', toks := tk' }) :
    wpAny (model P0 w) ⟨none, dp, some (env :: outer), gd, un⟩ (call (.ref 165) [.ref x, .bytes b1 tb1, .bytes b2 tb2, .int rounds tr]) Q E s := by
  obtain ⟨G, back⟩ := gh_of (A := ⟨none, dp, some (env :: outer), gd, un⟩) (rows := [(x, instObj 155 dx), (dx, rowDict w k1 k2 k3 k4 k5 k6 v1 v2 v3 fO t5 t6 nd), (fO, kdv_obj "<lambda>" qO params (.expr lbody) scope [("many", cm), ("leads", cl)] (.ref td) .none pm cO ctv),
       (tO, tabObj #[rawInt lpos'.line, rawInt lpos'.col, .ref cI]), (cO, ocO), (cI, ocI), (td, kdv_tup [.bytes #[] tb]), (cl, ocl), (cm, ocm), (ll, W.listOf vs.toArray ep)]) B F X N T rfl hf hke (fun p hp => by
    simp only [List.mem_cons, List.not_mem_nil, or_false] at hp
    rcases hp with rfl | rfl | rfl | rfl | rfl | rfl | rfl | rfl | rfl | rfl <;> assumption)
  refine c165 H hb1 hb2 hz1 hz2 hr1 hr2 G hd hu fun bb t h' tk' hk hr e => ?_
  obtain ⟨F', N'⟩ := back h' hk hr
  exact h bb t h' tk' F' N' e
theorem pbkdfk_N (H : Hash params params' lbody lbody' scope scope' lpos lpos' tO cO ll ocO ocI ocl ocm qO vs ns mm tm)
    (hb1 : KBw.bInts b1 = ks1) (hb2 : KBw.bInts b2 = ks2) (hz1 : ks1.length ≤ 4) (hz2 : ks2.length ≤ 4) (hr1 : 1 ≤ rounds) (hr2 : rounds ≤ 1000)
    (r1 : (x, instObj 155 dx) ∈ news) (r2 : (dx, rowDict w k1 k2 k3 k4 k5 k6 v1 v2 v3 fO t5 t6 nd) ∈ news)
    (n1 : (fO, kdv_obj "<lambda>" qO params (.expr lbody) scope [("many", cm), ("leads", cl)] (.ref td) .none pm cO ctv) ∈ news) (n2 : (tO, tabObj #[rawInt lpos'.line, rawInt lpos'.col, .ref cI]) ∈ news) (n3 : (cO, ocO) ∈ news) (n5 : (cI, ocI) ∈ news) (n4 : (td, kdv_tup [.bytes #[] tb]) ∈ news)
    (n6 : (cl, ocl) ∈ news) (n7 : (cm, ocm) ∈ news) (n8 : (ll, W.listOf vs.toArray ep) ∈ news)
    (B : Below A₀ base outer h₀) (F : Fr h₀ L s.heap m) (X : (K w.params).In h₀) (N : News h₀ L s.heap news) (T : Top topProg loose mean mg mb h₀)
    (hf : env.frame = some L) (hke : env.scope.kind = .function) (hd : dp + 10 < recursionLimit) (hu : un + 20 < cLine)
    (h : ∀ bb t h' tk', Fr h₀ L h' m → News h₀ L h' news → KBw.bInts bb = [turns ns mm rounds.toNat (ks1.sum + ks2.sum)] → Q (.bytes bb t) { s with heap := h', toks := tk' }) :
    wpAny (model P0 w) ⟨none, dp, some (env :: outer), gd, un⟩ (call (.ref 165) [.ref x, .bytes b1 tb1, .bytes b2 tb2, .int rounds tr, .int 1 tkl]) Q E s := by
  obtain ⟨G, back⟩ := gh_of (A := ⟨none, dp, some (env :: outer), gd, un⟩) (rows := [(x, instObj 155 dx), (dx, rowDict w k1 k2 k3 k4 k5 k6 v1 v2 v3 fO t5 t6 nd), (fO, kdv_obj "<lambda>" qO params (.expr lbody) scope [("many", cm), ("leads", cl)] (.ref td) .none pm cO ctv),
       (tO, tabObj #[rawInt lpos'.line, rawInt lpos'.col, .ref cI]), (cO, ocO), (cI, ocI), (td, kdv_tup [.bytes #[] tb]), (cl, ocl), (cm, ocm), (ll, W.listOf vs.toArray ep)]) B F X N T rfl hf hke (fun p hp => by
    simp only [List.mem_cons, List.not_mem_nil, or_false] at hp
    rcases hp with rfl | rfl | rfl | rfl | rfl | rfl | rfl | rfl | rfl | rfl <;> assumption)
  refine c165k H hb1 hb2 hz1 hz2 hr1 hr2 G hd hu fun bb t h' tk' hk hr e => ?_
  obtain ⟨F', N'⟩ := back h' hk hr
  exact h bb t h' tk' F' N' e
end
end Mine
end

section
set_option maxRecDepth 100000
namespace Mine
open PySem PySem.W PySem.Spec PySem.Calls PyProof.Rows
theorem fillCF : (K = K ∧ PySem.Challenge.rw_at5024_01 = PySem.Challenge.rw_at5024_01) := by
  w_top off
  k_fill
  exact ⟨rfl, rfl⟩
local macro_rules | `(tactic| k_room) => `(tactic| ((try simp only [depth_mark, depth_under_make, depth_under_kw, depth_in1, depth_deeper, depth_caller]); (try dsimp only); omega))
theorem upd4 {a b d e : Addr × Obj} {t : Addr} {o : Obj} (h1 : a.1 ≠ t) (h2 : b.1 ≠ t) (h3 : d.1 ≠ t) (h4 : e.1 ≠ t) : UpdF t o [a, b, (t, o), d, e] (fun o' => [a, b, (t, o'), d, e]) :=
  .tail h1 (.tail h2 (.head fun p hp => by
    rcases List.mem_cons.mp hp with rfl | hp
    · exact h3
    · rcases List.mem_cons.mp hp with rfl | hp
      · exact h4
      · exact (nomatch hp)))
local macro_rules | `(tactic| walk_at "eval Lambda") => `(tactic| (k_here; k_dflt (refine' kla_eval ?d0 ?_; (case d0 => exact rfl); refine' Mine.lamIn_miss ?F ?N ?T ?hc ?ho ?hcd ?U ?ht ?hnf ?hcl ?_; (case F => k_asm); (case N => k_asm); (case T => k_asm); (case hcd => exact rfl); (case hc => k_mem); (case ho => assumption); (case U => (refine Mine.upd4 ?_ ?_ ?_ ?_ <;> assumption)); (case ht => kn_triples); (case hnf => kn_among); (case hcl => exact rfl)); intro fI cI ocI vsI tqI ctvI h' tk' F' N' hdI hvI hlt' hfI; (try dsimp only at N'); (have lt1' := Nat.le_of_lt (hlt' _ (List.Mem.head _))); clear hlt'; (dsimp only at lt1'); (have lt0' := Nat.le_of_lt hfI)))
local macro_rules | `(tactic| walk_at "call ref") => `(tactic| (k_here; k_dflt (show wpAny _ _ (call (Value.ref 285) _) _ _ _; refine' Mine.handed_N ?B ?F ?X ?N ?T ?hf ?hk ?hd ?_; (case B => k_asm); (case F => k_asm); (case X => k_asm); (case N => k_asm); (case T => k_asm); (case hf => exact rfl); (case hk => exact rfl); (case hd => (dsimp only [Around.deeper]; omega))); intro hA dA h' tk' F' N' hlt'; (have lt2' := Nat.le_of_lt (hlt' _ (List.Mem.head _))); clear hlt'; (dsimp only at lt2')))
set_option maxHeartbeats 4000000 in
theorem const_first {w : World} {loose : List Str} {mean : ExcName → Option Value} {mg mb : Str → Option Value} {dp un : Nat} {gd : Option (List Code)} {base g : Heap} {outer : List Env} {s : Shared} {Q E : Value → Shared → Prop}
    {params params' : Arguments} {lbody lbody' : PySem.Expr} {scope scope' : Scope} {lpos lpos' : Pos} (hl : lamOf = some (params, lbody, scope, lpos)) (hl' : lamIn lbody = some (params', lbody', scope', lpos'))
    {fO tO cO td cl cm : Addr} {ocO : Obj} {vsO : Array Value} {qO : Str} {tqO : Tok} {pm ctv : Value} {tb : Tok}
    (hdO : ocO.data = .fields vsO) (hvO : vsO[1]? = some (.str qO tqO)) (hoc : CodeOc ocO cO tO)
    (G : Gh w loose mean mg mb ⟨none, dp, some outer, gd, un⟩ base outer g
      [(fO, kdv_obj "<lambda>" qO params (.expr lbody) scope [("many", cm), ("leads", cl)] (.ref td) .none pm cO ctv),
       (tO, tabObj #[]), (cO, ocO), (td, kdv_tup [.bytes #[] tb])] s.heap) (q1 : fO ≠ tO) (q2 : cO ≠ tO) (q3 : td ≠ tO) (hd : dp + 6 < recursionLimit)
    (ret : ∀ hA dA fI oc aO cI ocI vsI tqI pm' ctv' t4 t5 h' tk', s.heap.objs.size ≤ cI → ocI.data = .fields vsI → vsI[1]? = some (.str (qO ++ ".<locals>." ++ "<lambda>") tqI) → s.heap.objs.size ≤ aO → s.heap.objs.size ≤ fI → s.heap.objs.size ≤ hA → (∀ b o, g.get? b = some o → h'.get? b = some o) → oc.data = .cell (some (.bytes #[] tb)) →
      (∃ L', News g L' h' [(hA, hObj dA #[.none, .ref fI, .none, .int 1 t4, .int 16 t5]), (fI, kla_obj "<lambda>" (qO ++ ".<locals>." ++ "<lambda>") params' lbody' scope' [("octets", aO), ("many", cm), ("leads", cl)] pm' cI ctv'), (cI, ocI), (aO, oc),
        (fO, kdv_obj "<lambda>" qO params (.expr lbody) scope [("many", cm), ("leads", cl)] (.ref td) .none pm cO ctv),
       (tO, tabObj #[rawInt lpos'.line, rawInt lpos'.col, .ref cI]), (cO, ocO), (td, kdv_tup [.bytes #[] tb])]) → Q (.ref hA) { s with heap := h', toks := tk' }) :
    wpAny (model P0 w) ⟨none, dp, some outer, gd, un⟩ (call (.ref fO) []) Q E s := by
  cases hl
  cases hl'
  refine wpAny_call ?_
  refine gh_lamc (x := "octets") (v := .bytes #[] tb) G (.head _) ⟨cO, ocO, vsO, tqO, rfl, (G.rows _ (.tail _ (.tail _ (.head _)))).1, hdO, hvO⟩ (by k_room) ?hbind rfl (fun _ _ => rfl) (fun _ => rfl) ?h rfl rfl rfl
  case hbind => exact BindsTo.of_defaults rfl (G.rows _ (.tail _ (.tail _ (.tail _ (.head _))))).1 rfl rfl rfl
  intro L' h₁ oc F N hoc' hlt B X T
  have q0 : L' + 1 ≠ tO := Nat.ne_of_gt (Nat.lt_succ_of_lt (Nat.lt_of_lt_of_le (Heap.lt_size (G.rows _ (.tail _ (.head _))).1) hlt))
  dsimp only
  (try k_fold)
  k_steps
  rename News _ _ _ _ => N2
  rename Fr _ _ _ _ => F2
  exact ret _ _ _ _ _ _ _ _ _ _ _ _ _ _ _ (by omega) (by assumption) (by assumption) (by omega) (by omega) (by omega) F2.keep hoc' ⟨_, N2⟩
end Mine
end

section
set_option maxRecDepth 100000
namespace Mine
open PySem PySem.W PySem.Spec PySem.Calls PyProof.Rows
section
variable {w : World} {loose : List Str} {mean : ExcName → Option Value} {mg mb : Str → Option Value} {A A₀ : Around} {base g h₀ : Heap} {outer : List Env} {rows news : List (Addr × Obj)} {s : Shared} {L : Addr} {m : Str → Option Value} {env : Env}
/-- a contract's ghost at a call out of a frame, where one row is overwritten -/
theorem gh_upd {t : Addr} {o : Obj} {up : Obj → List (Addr × Obj)} (B : Below A₀ base outer h₀) (F : Fr h₀ L s.heap m) (X : (K w.params).In h₀) (N : News h₀ L s.heap news) (T : Top topProg loose mean mg mb h₀) (hA : A.frames = some (env :: outer)) (hf : env.frame = some L)
    (hke : env.scope.kind = .function) (hsub : ∀ p ∈ rows, p ∈ news) (ht : (t, o) ∈ rows) (U : UpdF t o news up) :
    Gh w loose mean mg mb A base (env :: outer) (hideAll s.heap (rows.map (·.1))) rows s.heap ∧
      ∀ h' o', (∀ b o, (hideAll s.heap (rows.map (·.1))).get? b = some o → h'.get? b = some o) → (∀ p ∈ rows, p.1 ≠ t → h'.get? p.1 = some p.2) → h'.get? t = some o' → Fr h₀ L h' m ∧ News h₀ L h' (up o') := by
  have Nr : News h₀ L s.heap rows := fun p hp => N p (hsub p hp)
  obtain ⟨_, BG, st, _⟩ := groundX (s := s) (R := fun _ _ => True) B F Nr hA hf hke
  refine ⟨⟨BG, X.keeps st, T.keeps st, fun b o e => of_hideAll _ e, Nat.le_of_eq (hideAll_size _ _), fun p hp => ⟨(Nr p hp).1, hideAll_none _ (List.mem_map_of_mem hp)⟩⟩, fun h' o' h1 h2 h3 => ?_⟩
  have hm := Nr _ ht
  have key : ∀ b o, b ≠ t → s.heap.get? b = some o → h'.get? b = some o := fun b o hbt e => by
    by_cases hb : b ∈ rows.map (·.1)
    · obtain ⟨p, hp, rfl⟩ := List.mem_map.mp hb
      rw [(Nr p hp).1] at e
      exact (h2 p hp hbt).trans e
    · exact h1 b o (hideAll_get _ e hb)
  obtain ⟨own, rest, rfl, hgr, u1, u2⟩ := U.split
  refine ⟨⟨F.ns.extBut (fun b o hb e => key b o hb e) hm.2.1.symm, fun b o e => key _ _ (fun q => by rw [q, hm.2.2] at e; cases e) (F.keep b o e), F.above⟩, fun q hq => ?_⟩
  rw [hgr] at hq
  rcases List.mem_append.mp hq with hq | hq
  · have n := N q (List.mem_append_left _ hq)
    exact ⟨key _ _ (u1 q hq) n.1, n.2⟩
  · rcases List.mem_cons.mp hq with rfl | hq
    · exact ⟨h3, hm.2⟩
    · have n := N q (List.mem_append_right _ (.tail _ hq))
      exact ⟨key _ _ (u2 q hq) n.1, n.2⟩

variable {dp un : Nat} {gd : Option (List Code)} {E : Value → Shared → Prop}
/-- the hash made for the first time, in a frame -/
theorem const_first_N {params params' : Arguments} {lbody lbody' : PySem.Expr} {scope scope' : Scope} {lpos lpos' : Pos} {fO tO cO td cl cm : Addr} {ocO : Obj} {qO : Str} {pm ctv : Value} {tb : Tok} {up : Obj → List (Addr × Obj)} {Q : Value → Shared → Prop}
    (l1 : lamOf = some (params, lbody, scope, lpos)) (l2 : lamIn lbody = some (params', lbody', scope', lpos')) (dO : ∃ vsO tqO, ocO.data = .fields vsO ∧ vsO[1]? = some (.str qO tqO)) (hO : CodeOc ocO cO tO)
    (B : Below A₀ base outer h₀) (F : Fr h₀ L s.heap m) (X : (K w.params).In h₀) (N : News h₀ L s.heap news) (T : Top topProg loose mean mg mb h₀)
    (hf : env.frame = some L) (hke : env.scope.kind = .function)
    (n1 : (fO, kdv_obj "<lambda>" qO params (.expr lbody) scope [("many", cm), ("leads", cl)] (.ref td) .none pm cO ctv) ∈ news) (U : UpdF tO (tabObj #[]) news up) (n3 : (cO, ocO) ∈ news) (n4 : (td, kdv_tup [.bytes #[] tb]) ∈ news)
    (q1 : fO ≠ tO) (q2 : cO ≠ tO) (q3 : td ≠ tO) (hd : dp + 6 < recursionLimit)
    (h : ∀ hA dA fI oc aO cI ocI pm' ctv' t4 t5 h' tk', Fr h₀ L h' m → oc.data = .cell (some (.bytes #[] tb)) → (∃ vsI tqI, ocI.data = .fields vsI ∧ vsI[1]? = some (.str (qO ++ ".<locals>." ++ "<lambda>") tqI)) →
      News h₀ L h' ((hA, hObj dA #[.none, .ref fI, .none, .int 1 t4, .int 16 t5]) :: (fI, kla_obj "<lambda>" (qO ++ ".<locals>." ++ "<lambda>") params' lbody' scope' [("octets", aO), ("many", cm), ("leads", cl)] pm' cI ctv') :: (aO, oc) :: (cI, ocI) :: up (tabObj #[rawInt lpos'.line, rawInt lpos'.col, .ref cI])) →
      (∀ q ∈ news, q.1 < cI) → (∀ q ∈ news, q.1 < aO) → (∀ q ∈ news, q.1 < fI) → (∀ q ∈ news, q.1 < hA) → Q (.ref hA) { s with heap := h', toks := tk' }) :
    wpAny (model P0 w) ⟨none, dp, some (env :: outer), gd, un⟩ (call (.ref fO) []) Q E s := by
  obtain ⟨vsO, tqO, d1, d2⟩ := dO
  have n2 : (tO, tabObj #[]) ∈ news := by
    obtain ⟨own, rest, rfl, _⟩ := U.split
    exact List.mem_append_right _ (.head _)
  obtain ⟨G, back⟩ := gh_upd (A := ⟨none, dp, some (env :: outer), gd, un⟩) (rows := [(fO, kdv_obj "<lambda>" qO params (.expr lbody) scope [("many", cm), ("leads", cl)] (.ref td) .none pm cO ctv),
       (tO, tabObj #[]), (cO, ocO), (td, kdv_tup [.bytes #[] tb])]) B F X N T rfl hf hke (fun p hp => by
    simp only [List.mem_cons, List.not_mem_nil, or_false] at hp
    rcases hp with rfl | rfl | rfl | rfl <;> assumption) (.tail _ (.head _)) U
  refine const_first l1 l2 d1 d2 hO G q1 q2 q3 hd fun hA dA fI oc aO cI ocI vsI tqI pm' ctv' t4 t5 h' tk' y1 y2 y3 y4 y5 y6 hk hoc hN => ?_
  obtain ⟨L', hN⟩ := hN
  have kr : ∀ p ∈ [(fO, kdv_obj "<lambda>" qO params (.expr lbody) scope [("many", cm), ("leads", cl)] (.ref td) .none pm cO ctv), (tO, tabObj #[rawInt lpos'.line, rawInt lpos'.col, .ref cI]), (cO, ocO), (td, kdv_tup [.bytes #[] tb])], h'.get? p.1 = some p.2 := by
    intro p hp
    refine (hN p ?_).1
    simp only [List.mem_cons, List.not_mem_nil, or_false] at hp ⊢
    rcases hp with rfl | rfl | rfl | rfl <;> simp
  obtain ⟨F', N'⟩ := back h' (tabObj #[rawInt lpos'.line, rawInt lpos'.col, .ref cI]) hk (fun p hp hne => by
    simp only [List.mem_cons, List.not_mem_nil, or_false] at hp
    rcases hp with rfl | rfl | rfl | rfl
    · exact kr _ (.head _)
    · exact absurd rfl hne
    · exact kr _ (.tail _ (.tail _ (.head _)))
    · exact kr _ (.tail _ (.tail _ (.tail _ (.head _))))) (kr _ (.tail _ (.head _)))
  have hLs : L < s.heap.objs.size := F.ns.lt
  have new : ∀ a, s.heap.objs.size ≤ a → a ≠ L ∧ h₀.get? a = none := fun a ha => ⟨Nat.ne_of_gt (Nat.lt_of_lt_of_le hLs ha), Heap.get?_none_of_le (Nat.le_trans F.above (Nat.le_trans (Nat.le_of_lt hLs) ha))⟩
  refine h hA dA fI oc aO cI ocI pm' ctv' t4 t5 h' tk' F' hoc ⟨vsI, tqI, y2, y3⟩ (fun p hp => ?_) (fun q hq => Nat.lt_of_lt_of_le (Heap.lt_size (N q hq).1) y1) (fun q hq => Nat.lt_of_lt_of_le (Heap.lt_size (N q hq).1) y4) (fun q hq => Nat.lt_of_lt_of_le (Heap.lt_size (N q hq).1) y5) fun q hq => Nat.lt_of_lt_of_le (Heap.lt_size (N q hq).1) y6
  rcases List.mem_cons.mp hp with rfl | hp
  · exact ⟨(hN _ (by simp)).1, new _ y6⟩
  · rcases List.mem_cons.mp hp with rfl | hp
    · exact ⟨(hN _ (by simp)).1, new _ y5⟩
    · rcases List.mem_cons.mp hp with rfl | hp
      · exact ⟨(hN _ (by simp)).1, new _ y4⟩
      · rcases List.mem_cons.mp hp with rfl | hp
        · exact ⟨(hN _ (by simp)).1, new _ y1⟩
        · exact N' p hp
end
end Mine
end

section
set_option maxRecDepth 100000
namespace Mine
open PySem PySem.W PySem.Spec PySem.Calls PyProof.Rows
theorem fillLR : (K = K ∧ PySem.Challenge.rw_at5024_01 = PySem.Challenge.rw_at5024_01) := by
  w_top off
  k_fill
  exact ⟨rfl, rfl⟩
/-- the law's statements from its row on -/
def lawRow : Option (List Stmt × Scope) := match PySem.Challenge.pw_at5024_01.main.body.getLast? with
  | some (.FunctionDef _ _ (_ :: _ :: _ :: rest) _ _ _ sc _ _ _) => some (rest, sc)
  | _ => none
def lawHome : Option (List Stmt × Scope) := match PySem.Challenge.pw_at5024_01.main.body.getLast? with
  | some (.FunctionDef _ _ (_ :: _ :: _ :: _ :: rest) _ _ _ sc _ _ _) => some (rest, sc)
  | _ => none
theorem lawRow_some : ∃ a b c, lawRow = some (a, b) ∧ lawHome = some (c, b) := ⟨_, _, _, rfl, rfl⟩
/-- off the frame's cells -/
def Off (L a : Addr) : Prop := @LT.lt Nat _ a (L + 1) ∨ @LT.lt Nat _ (L + 10) a
theorem off_lt {L a : Nat} (h : Off L a) : a < L + 1 ∨ L + 10 < a := h
/-- the law's row of a hash, as the ledger bears it -/
def RowIs (w : World) (x ll cl cm : Addr) (ocl ocm : Obj) (vs : List Value) (ns : List Int) (mm : Int) (tm : Tok) (hs : List (Addr × Obj)) : Prop :=
  ∃ (params params' : Arguments) (lbody lbody' : PySem.Expr) (scope scope' : Scope) (lpos lpos' : Pos) (dx fO tO cO cI td : Addr) (k1 k2 k3 k4 k5 k6 t5 t6 : Tok) (v1 v2 v3 : Value) (nd : Nat) (ocO ocI : Obj) (qO : Str) (pm ctv : Value) (tb : Tok) (ps : Array Value),
    Hash params params' lbody lbody' scope scope' lpos lpos' tO cO ll ocO ocI ocl ocm qO vs ns mm tm ∧
    hs = [(x, instObj 155 dx), (dx, rowDict w k1 k2 k3 k4 k5 k6 v1 v2 v3 fO t5 t6 nd), (fO, kdv_obj "<lambda>" qO params (.expr lbody) scope [("many", cm), ("leads", cl)] (.ref td) .none pm cO ctv),
      (tO, tabObj #[rawInt lpos'.line, rawInt lpos'.col, .ref cI]), (cO, ocO), (cI, ocI), (td, kdv_tup [.bytes #[] tb]), (299, tabObj ps)]
/-- the cells' rows of the law's frame -/
def Cells (L : Addr) (ocm ocl oNumber oFound oRounds oUnlike oHome oRow oDraw : Obj) (hs : List (Addr × Obj)) : List (Addr × Obj) :=
  (L + 1 + 1 + 1 + 1 + 1 + 1 + 1 + 1 + 1 + 1, ocm) :: (L + 1 + 1 + 1 + 1 + 1 + 1 + 1 + 1 + 1, ocl) :: (L + 1 + 1 + 1 + 1 + 1 + 1 + 1 + 1, oNumber) :: (L + 1 + 1 + 1 + 1 + 1 + 1 + 1, oFound) :: (L + 1 + 1 + 1 + 1 + 1 + 1, oRounds) ::
      (L + 1 + 1 + 1 + 1 + 1, oUnlike) :: (L + 1 + 1 + 1 + 1, oHome) :: (L + 1 + 1 + 1, oRow) :: (L + 1 + 1, oDraw) :: hs
local macro_rules | `(tactic| k_room) => `(tactic| ((try simp only [depth_mark, depth_under_make, depth_under_kw, depth_in1, depth_deeper, depth_caller]); (try dsimp only); omega))
local macro_rules | `(tactic| walk_at "makeTail") => `(tactic| (k_here; k_dflt (refine' Mine.lam_nest ?ne ?F ?N ?T ?C ?cd ?U ?t ?n ?cl ?_; (case F => k_asm); (case N => k_asm); (case T => k_asm); (case cd => exact rfl); (case C => assumption); (case U => k_updF); (case t => kn_triples); (case n => kn_among); (case cl => exact rfl); (case ne => exact rfl)); intro f' c' P' oc' vs' t' ct' h' tk' F' N' d1' d2' hco' l1 l2 l3 l4 l5; (try dsimp only at N'); (have q1' := Nat.ne_of_gt l4); (have q3' := Nat.ne_of_lt (l2 _ (List.Mem.head _))); (dsimp only at q3'); (try k_lt l1); (try k_lt l2); (try k_lt2 l3); (try k_lt2 l4)))
local macro_rules | `(tactic| walk_at "callWith ref") => `(tactic| (k_here; k_dflt (first
  | (refine' callWith_F ?k1 ?_; (case k1 => exact FnAt.of (by k_asm) (by k_mem)))
  | (refine' callWith_F0 ?k1 ?_; (case k1 => exact FnAt.of (by k_asm) (by k_mem))))))
local macro_rules | `(tactic| walk_at "call ref") => `(tactic| (k_here; k_dflt (show wpAny _ _ (call (Value.ref _) []) _ _ _; refine' Mine.const_first_N ?l1 ?l2 ?dO ?hO ?B ?F ?X ?N ?T ?hf ?hk ?n1 ?U ?n3 ?n4 ?q1 ?q2 ?q3 ?hd ?_; (case B => k_asm); (case F => k_asm); (case X => k_asm); (case N => k_asm); (case T => k_asm); (case hf => exact rfl); (case hk => exact rfl); (case n1 => k_mem); (case hO => assumption); (case n3 => k_mem); (case n4 => k_mem); (case l1 => exact rfl); (case l2 => exact rfl); (case dO => exact ⟨_, _, by assumption, by assumption⟩); (case U => k_updF); (case q1 => assumption); (case q2 => assumption); (case q3 => assumption); (case hd => k_room)); intro hA dA fI oc aO cI ocI pm' ctv' t4 t5 h' tk' F' hoc hdI N' l1 l2 l3 l4; (try dsimp only at N'); (try k_lt l1); (try k_lt l2); (try k_lt l3); (try k_lt l4)))
local macro_rules | `(tactic| walk_at "getAttr ref") => `(tactic| (k_here; k_dflt (refine' Mine.handed_get_N ?B ?F ?X ?N ?T ?hf ?hk ?m ?f ?v ?h ?d ?u ?_; (case B => k_asm); (case F => k_asm); (case X => k_asm); (case N => k_asm); (case T => k_asm); (case hf => exact rfl); (case hk => exact rfl); (case m => k_mem); (case f => first | exact Mine.Field.digest | exact Mine.Field.size | exact Mine.Field.block); (case v => first | exact Mine.fld1 | exact Mine.fld3 | exact Mine.fld4); (case h => exact rfl); (case d => k_room); (case u => (simp only [Mine.under_tc, Around.deeper]; omega))); intro h' tk' F' N'))
local macro_rules | `(tactic| walk_at "getMethod ref") => `(tactic| (k_here; k_dflt (refine' Mine.handed_method_N ?B ?F ?X ?N ?T ?hf ?hk ?m ?f ?v ?h ?d ?u ?_; (case B => k_asm); (case F => k_asm); (case X => k_asm); (case N => k_asm); (case T => k_asm); (case hf => exact rfl); (case hk => exact rfl); (case m => k_mem); (case f => first | exact Mine.Field.digest | exact Mine.Field.size | exact Mine.Field.block); (case v => first | exact Mine.fld1 | exact Mine.fld3 | exact Mine.fld4); (case h => exact rfl); (case d => k_room); (case u => (simp only [Mine.under_tc, Around.deeper]; omega))); intro h' tk' F' N'))
local macro_rules | `(tactic| walk_at "call ref") => `(tactic| (k_here; k_dflt (show wpAny _ _ (call (Value.ref _) []) _ _ _; refine' Mine.inner_N ?H ?hoc ?hz ?m1 ?m2 ?n5 ?n6 ?n7 ?n8 ?B ?F ?X ?N ?T ?hf ?hk ?hd ?_; (case B => k_asm); (case F => k_asm); (case X => k_asm); (case N => k_asm); (case T => k_asm); (case hf => exact rfl); (case hk => exact rfl); (case m1 => k_mem); (case m2 => k_mem); (case n5 => k_mem); (case n6 => k_mem); (case n7 => k_mem); (case hoc => assumption); (case H => exact ⟨rfl, rfl, ⟨_, _, by assumption, by assumption⟩, by assumption, by assumption, by assumption, by assumption, by assumption, by assumption, by assumption, by assumption, by assumption⟩); (case n8 => k_mem); (case hz => decide); (case hd => k_room)); intro bb t h' tk' F' N' hbI))
theorem rowIs_mk {w : World} {x ll cl cm : Addr} {ocl ocm : Obj} {vs : List Value} {ns : List Int} {mm : Int} {tm : Tok} {params params' : Arguments} {lbody lbody' : PySem.Expr} {scope scope' : Scope} {lpos lpos' : Pos} {dx fO tO cO cI td : Addr} {k1 k2 k3 k4 k5 k6 t5 t6 : Tok} {v1 v2 v3 : Value} {nd : Nat} {ocO ocI : Obj} {qO : Str} {pm ctv : Value} {tb : Tok} {ps : Array Value}
    (H : Hash params params' lbody lbody' scope scope' lpos lpos' tO cO ll ocO ocI ocl ocm qO vs ns mm tm) :
    RowIs w x ll cl cm ocl ocm vs ns mm tm [(x, instObj 155 dx), (dx, rowDict w k1 k2 k3 k4 k5 k6 v1 v2 v3 fO t5 t6 nd), (fO, kdv_obj "<lambda>" qO params (.expr lbody) scope [("many", cm), ("leads", cl)] (.ref td) .none pm cO ctv),
      (tO, tabObj #[rawInt lpos'.line, rawInt lpos'.col, .ref cI]), (cO, ocO), (cI, ocI), (td, kdv_tup [.bytes #[] tb]), (299, tabObj ps)] :=
  ⟨_, _, _, _, _, _, _, _, _, _, _, _, _, _, _, _, _, _, _, _, _, _, _, _, _, _, _, _, _, _, _, _, _, H, rfl⟩
def Stop (p : Prop) : Prop := p
theorem stop_here {p : Prop} (h : Stop p) : p := h
theorem go_on {p : Prop} (h : p) : Stop p := h
local macro_rules | `(tactic| walk_at "exec Raise some none") => `(tactic| (k_here; exfalso; (rename (([_] : List Int).length : Int) ≠ 1 => hz); k_dflt (exact hz rfl)))
local macro_rules | `(tactic| walk_at "execs cons") => `(tactic| (k_here; (with_reducible show wpAny _ _ (execs (Stmt.Assign [Expr.Tuple [Expr.Name _ _, Expr.Name _ _] _ _] _ _ :: Stmt.For _ _ _ _ _ :: _) _) _ _ _); k_dflt (refine Mine.stop_here ?_)))
set_option maxHeartbeats 4000000 in
theorem law_row {w : World} {loose : List Str} {mean : ExcName → Option Value} {mg mb : Str → Option Value} {dp un : Nat} {gd : Option (List Code)} {A₀ : Around} {base h₀ : Heap} {outer : List Env} {s : Shared} {Q : Flow → Shared → Prop} {E : Value → Shared → Prop}
    {L fa dl ll : Addr} {m : Str → Option Value} {oDraw oRow oHome oUnlike oRounds oFound oNumber ocl ocm : Obj} {ds vs : List Value} {ns : List Int} {mm : Int} {tm : Tok}
    {body rest : List Stmt} {scope : Scope} (hb : lawRow = some (body, scope)) (hr : lawHome = some (rest, scope))
    (B : Below A₀ base outer h₀) (F : Fr h₀ L s.heap m) (X : (K w.params).In h₀) (T : Top topProg loose mean mg mb h₀) (C : CodeHd h₀ 301 299)
    (N : News h₀ L s.heap ((ll, LCg.lst vs) :: (dl, LCg.lst ds) :: Cells L ocm ocl oNumber oFound oRounds oUnlike oHome oRow oDraw [(299, tabObj #[])]))
    (d3 : oRow.data = .cell none) (dl' : ocl.data = .cell (some (.ref ll))) (dm : ocm.data = .cell (some (.int mm tm)))
    (a1 : Off L ll) (a2 : Off L dl) (a3 : Off L 299) (a4 : ll ≠ 299) (a5 : dl ≠ 299)
    (hi : IntsAre vs ns) (pos : 0 < mm) (le : mm ≤ 200) (len : (ns.length : Int) = mm) (lt : ∀ x ∈ ns, 0 ≤ x ∧ x < mm) (hd : dp + 20 < recursionLimit) (hu : un + 60 < cLine)
    (h : ∀ x oRow' hs h' tk', Fr h₀ L h' m → News h₀ L h' ((ll, LCg.lst vs) :: (dl, LCg.lst ds) :: Cells L ocm ocl oNumber oFound oRounds oUnlike oHome oRow' oDraw hs) → oRow'.data = .cell (some (.ref x)) →
      RowIs w x ll (L + 1 + 1 + 1 + 1 + 1 + 1 + 1 + 1 + 1) (L + 1 + 1 + 1 + 1 + 1 + 1 + 1 + 1 + 1 + 1) ocl ocm vs ns mm tm hs → (∀ p ∈ hs, Off L p.1) →
      wpAny (model P0 w) ⟨none, dp, some (envOfC "law" scope L fa (.ref 301) :: outer), gd, un⟩ (execs rest (envOfC "law" scope L fa (.ref 301))) Q E { s with heap := h', toks := tk' }) :
    wpAny (model P0 w) ⟨none, dp, some (envOfC "law" scope L fa (.ref 301) :: outer), gd, un⟩ (execs body (envOfC "law" scope L fa (.ref 301))) Q E s := by
  cases hb
  cases hr
  have b1 := off_lt a1
  have b2 := off_lt a2
  have b3 := off_lt a3
  dsimp only [Cells] at N
  (try k_fold)
  k_steps
  refine go_on ?_
  rename News _ _ _ _ => N2
  rename Fr _ _ _ _ => F2
  k_dflt (refine' h _ _ _ _ _ F2 ?N ?d (rowIs_mk ⟨rfl, rfl, ?dO, ?hO, ?dI, ?dl, ?dm, hi, pos, le, len, lt⟩) ?O)
  case hO => assumption
  case N =>
    dsimp only [Cells]
    refine fun p hp => N2 p ?_
    revert p
    k_dflt lcg_sub
  case d => assumption
  case dl => exact dl'
  case dm => exact dm
  case dO => exact ⟨_, _, by assumption, by assumption⟩
  case dI => assumption
  case O =>
    dsimp only [Off]
    refine List.forall_mem_cons.mpr ⟨?_, List.forall_mem_cons.mpr ⟨?_, List.forall_mem_cons.mpr ⟨?_, List.forall_mem_cons.mpr ⟨?_, List.forall_mem_cons.mpr ⟨?_, List.forall_mem_cons.mpr ⟨?_, List.forall_mem_cons.mpr ⟨?_, List.forall_mem_cons.mpr ⟨?_, List.forall_mem_nil _⟩⟩⟩⟩⟩⟩⟩⟩
    all_goals (dsimp only; omega)
end Mine
end

section
set_option maxRecDepth 100000
namespace Mine
open PySem PySem.W PySem.Spec PySem.Calls PyProof.Rows
section
variable {prog : Program} {w : World} {A : Around} {E : Value → Shared → Prop} {s : Shared} {env : Env} {h₀ : Heap} {L : Addr} {m : Str → Option Value} {x : Str} {scope : Scope} {cl : List (Str × Addr)}
/-- a step that moves the heap alone -/
def Moves (h₀ : Heap) (L : Addr) (m : Str → Option Value) (s : Shared) (all : List (Addr × Obj)) (R : Value → Prop) (y : Value) (s₂ : Shared) : Prop :=
  ∃ h' tk', s₂ = { s with heap := h', toks := tk' } ∧ Fr h₀ L h' m ∧ News h₀ L h' all ∧ R y
theorem Moves.mk' {all big : List (Addr × Obj)} {R : Value → Prop} {y : Value} {h' : Heap} {tk' : Nat} (F : Fr h₀ L h' m) (N : News h₀ L h' big) (sub : ∀ p ∈ all, p ∈ big) (r : R y) : Moves h₀ L m s all R y { s with heap := h', toks := tk' } :=
  ⟨h', tk', rfl, F, fun p hp => N p (sub p hp), r⟩

theorem comp_rest {elt : PySem.Expr} {S : List (Addr × Obj) → Prop} {P : Nat → Value → Prop} {Fin : List Value → List (Addr × Obj) → Prop} {news : List (Addr × Obj)} (J : Nat → List Value → Prop) (n : Nat) (hS : S news)
    (el : ∀ i ys v I oI C oC D m₂ h tk (E' : Value → Shared → Prop), i < n → J i ys → P i v → LCg.NsObj oC m₂ → m₂ x = some v → Fr h₀ L h m → News h₀ L h ((I, oI) :: (C, oC) :: (D, LCg.lst ys) :: news) → LCg.Off3 I C D news → ((@Ne Nat I C) ∧ (@Ne Nat I D) ∧ (@Ne Nat C D)) →
      wpAny (model prog w) A (eval elt (compEnvC scope cl C env)) (Moves h₀ L m { s with heap := h, toks := tk } ((I, oI) :: (C, oC) :: (D, LCg.lst ys) :: news) (fun y => J (i + 1) (ys ++ [y]))) E' { s with heap := h, toks := tk })
    (fin : ∀ ys, J n ys → Fin ys news) : ∀ k i ys, i + k = n → J i ys → LCg.CompRest prog w A h₀ L m env elt x scope cl s S P Fin k i ys news := by
  intro k
  induction k with
  | zero =>
    intro i ys hi hJ
    have : i = n := by omega
    subst this
    exact LCg.CompRest.zero (fin ys hJ)
  | succ k ih =>
    intro i ys hi hJ
    refine LCg.CompRest.succ fun v I oI C oC D m₂ h tk E' hP hC hx F N off ne => ?_
    refine wpAny_mono (el i ys v I oI C oC D m₂ h tk E' (by omega) hJ hP hC hx F N off ne) (fun y s₂ hy => ?_) fun _ _ e => e
    obtain ⟨h', tk', rfl, F', N', hJ'⟩ := hy
    exact LCg.CompEnd.intro F' N' news (fun p hp => hp) off hS (ih (i + 1) (ys ++ [y]) (by omega) hJ')

theorem comp_restT {ct elt : PySem.Expr} {S : List (Addr × Obj) → Prop} {P : Nat → Value → Prop} {Fin : List Value → List (Addr × Obj) → Prop} {news : List (Addr × Obj)} (J : Nat → List Value → Prop) (n : Nat) (hS : S news)
    (el : ∀ i ys v I oI C oC D m₂ h tk (E' : Value → Shared → Prop), i < n → J i ys → P i v → LCg.NsObj oC m₂ → m₂ x = some v → Fr h₀ L h m → News h₀ L h ((I, oI) :: (C, oC) :: (D, LCg.lst ys) :: news) → LCg.Off3 I C D news → ((@Ne Nat I C) ∧ (@Ne Nat I D) ∧ (@Ne Nat C D)) →
      wpAny (model prog w) A (isTrue ct (compEnvC scope cl C env) (eval ct (compEnvC scope cl C env))) (fun ok s₂ => if ok = true then
        wpAny (model prog w) A (eval elt (compEnvC scope cl C env)) (Moves h₀ L m { s with heap := h, toks := tk } ((I, oI) :: (C, oC) :: (D, LCg.lst ys) :: news) (fun y => J (i + 1) (ys ++ [y]))) E' s₂
        else Moves h₀ L m { s with heap := h, toks := tk } ((I, oI) :: (C, oC) :: (D, LCg.lst ys) :: news) (fun _ => J (i + 1) ys) .none s₂) E' { s with heap := h, toks := tk })
    (fin : ∀ ys, J n ys → Fin ys news) : ∀ k i ys, i + k = n → J i ys → LCt.CompRestT prog w A h₀ L m env ct elt x scope cl s S P Fin k i ys news := by
  intro k
  induction k with
  | zero =>
    intro i ys hi hJ
    have : i = n := by omega
    subst this
    exact LCt.CompRestT.zero (fin ys hJ)
  | succ k ih =>
    intro i ys hi hJ
    refine LCt.CompRestT.succ fun v I oI C oC D m₂ h tk E' hP hC hx F N off ne => ?_
    refine wpAny_mono (el i ys v I oI C oC D m₂ h tk E' (by omega) hJ hP hC hx F N off ne) (fun ok s₂ hy => ?_) fun _ _ e => e
    cases ok with
    | true =>
      simp only [if_true] at hy ⊢
      refine wpAny_mono hy (fun y s₃ hy => ?_) fun _ _ e => e
      obtain ⟨h', tk', rfl, F', N', hJ'⟩ := hy
      exact LCg.CompEnd.intro F' N' news (fun p hp => hp) off hS (ih (i + 1) (ys ++ [y]) (by omega) hJ')
    | false =>
      simp only [Bool.false_eq_true, if_false] at hy ⊢
      obtain ⟨h', tk', rfl, F', N', hJ'⟩ := hy
      exact LCg.CompEnd.intro F' N' news (fun p hp => hp) off hS (ih (i + 1) ys (by omega) hJ')

/-- the end of a turn of a loop -/
def TurnEnd (h₀ : Heap) (L : Addr) (s : Shared) (own : List (Addr × Obj)) (J : (Str → Option Value) → List (Addr × Obj) → Prop) (addrs : List Addr) (Qr : Value → Shared → Prop) (f : Flow) (s₂ : Shared) : Prop := match f with
  | .ret v => Qr v s₂
  | .next => ∃ h' tk' m' nx, s₂ = { s with heap := h', toks := tk' } ∧ Fr h₀ L h' m' ∧ News h₀ L h' (own ++ nx) ∧ nx.map (·.1) = addrs ∧ J m' nx
  | _ => False
theorem TurnEnd.next {own big nx : List (Addr × Obj)} {J : (Str → Option Value) → List (Addr × Obj) → Prop} {addrs : List Addr} {Qr : Value → Shared → Prop} {h' : Heap} {tk' : Nat} (F : Fr h₀ L h' m) (N : News h₀ L h' big) (s1 : ∀ p ∈ own, p ∈ big) (s2 : ∀ p ∈ nx, p ∈ big)
    (ha : nx.map (·.1) = addrs) (hJ : J m nx) : TurnEnd h₀ L s own J addrs Qr .next { s with heap := h', toks := tk' } :=
  ⟨h', tk', m, nx, rfl, F, fun p hp => N p ((List.mem_append.mp hp).elim (s1 p) (s2 p)), ha, hJ⟩

/-- a for over a range by ones, any target, by an invariant -/
theorem for_range {target : PySem.Expr} {body : List Stmt} {Q : Flow → Shared → Prop} {r : Addr} {a₀ b₀ : Int} {t₀ u₀ v₀ : Tok} {n : Nat} {news : List (Addr × Obj)} (J : Nat → (Str → Option Value) → List (Addr × Obj) → Prop)
    (hh : A.handled = none) (hr : IsRange s.heap r a₀ b₀ 1 t₀ u₀ v₀) (hsmall : Builtin.Range.small a₀ b₀ 1 = true) (hn : Builtin.Range.rangeSize a₀ b₀ 1 = (n : Int)) (F : Fr h₀ env.locals s.heap m) (N : News h₀ env.locals s.heap news) (h0 : J 0 m news)
    (htg : ∀ it v, letOwnedTupleGo target it v = pure ())
    (turn : ∀ i t m₁ nx h tk own, i < n → J i m₁ nx → nx.map (·.1) = news.map (·.1) → (∀ p ∈ own, ∀ q ∈ news, p.1 ≠ q.1) → Fr h₀ env.locals h m₁ → News h₀ env.locals h (nx ++ own) →
      wpAny (model prog w) A (assign target env (.int (a₀ + (i : Int)) t)) (fun _ s₃ => wpAny (model prog w) A (execs body env)
        (TurnEnd h₀ env.locals { s with heap := h, toks := tk } own (J (i + 1)) (news.map (·.1)) (fun v s' => Q (.ret v) s')) E s₃) E { s with heap := h, toks := tk })
    (done : ∀ m₁ nx h tk, J n m₁ nx → nx.map (·.1) = news.map (·.1) → Fr h₀ env.locals h m₁ → News h₀ env.locals h nx → Q .next { s with heap := h, toks := tk }) :
    wpAny (model prog w) A (pyIter (.ref r)) (fun it s₂ => TurnsAt prog w A h₀ env target body Q E it s₂) E s := by
  refine wpAny_pyIter_range hr hsmall ?_
  have W := LCg.range_walks (prog := prog) (w := w) (A := A) (I := s.heap.objs.size) hh a₀ n
  have KW := KTurns.ofWalks (target := target) W (fun i v s Q E _ hq => by rw [htg]; exact wpAny_pure hq)
  have hoff : ∀ p ∈ news, p.1 ≠ s.heap.objs.size := fun p hp => Nat.ne_of_lt (Heap.lt_size (N p hp).1)
  refine ⟨s.heap.objs.size, _, _, n, _, _, _, m, news, fun i m' nx => J i m' nx ∧ nx.map (·.1) = news.map (·.1), rfl, KW, ?_, ?_, ?_, ?_, F.push _, fun p hp => ⟨Heap.get?_push_of_some _ (N p hp).1, (N p hp).2⟩, ⟨h0, rfl⟩, ?_, ?_⟩
  · intro hm
    exact absurd F.ns.lt ((List.mem_singleton.mp hm) ▸ Nat.lt_irrefl _)
  · intro b hb
    rw [List.mem_singleton.mp hb]
    exact next_is_new F
  · intro p hp hI
    exact hoff p hp (List.mem_singleton.mp hI)
  · show IsRangeIter _ _ _ _ _
    rw [hn]
    simpa using Heap.get?_push_size _ rfl
  · rintro i v m₁ news₁ h₁ tk₁ own hi ⟨t, rfl⟩ ⟨hJ, ha⟩ hnw hown _ _ _ F₁ N₁
    have hsep : ∀ p ∈ own, ∀ q ∈ news, p.1 ≠ q.1 := fun p hp q hq e => hoff q hq (e ▸ List.mem_singleton.mp (hown p hp))
    refine wpAny_mono (turn i t m₁ news₁ h₁ tk₁ own hi hJ ha hsep F₁ fun p hp => N₁ p ((List.mem_append.mp hp).elim (fun h => List.mem_append.mpr (.inr h)) fun h => List.mem_append.mpr (.inl h)))
      (fun _ s₃ h₃ => wpAny_mono h₃ (fun f s₄ h₄ => ?_) fun _ _ e => e) fun _ _ e => e
    cases f with
    | ret v => exact h₄
    | next =>
      obtain ⟨h', tk', m', nx, rfl, F', N', ha', hJ'⟩ := h₄
      refine LoopStepU.intro F' N' (fun p hp hq => ?_) ⟨hJ', ha'⟩
      have h1 : p.1 ∈ nx.map (·.1) := List.mem_map.mpr ⟨p, hp, rfl⟩
      rw [ha'] at h1
      obtain ⟨q, hq1, hq2⟩ := List.mem_map.mp h1
      exact hoff q hq1 (by rw [hq2]; exact List.mem_singleton.mp hq)
    | brk => exact h₄.elim
    | cont => exact h₄.elim
  · rintro h' tk m' news' F' N' _ ⟨hJ, ha⟩
    exact done m' news' h' tk hJ ha F' N'
end
theorem range_size {a b : Int} (h1 : a ≤ b) : Builtin.Range.rangeSize a b 1 = (((b - a).toNat : Nat) : Int) := by
  unfold Builtin.Range.rangeSize
  rw [if_pos (by decide : (1 : Int) > 0)]
  split
  · rw [Int.ediv_one]; omega
  · omega
theorem range_small {a b : Int} (h1 : a ≤ b) (h2 : b ≤ 1000) (h3 : 0 ≤ a) : Builtin.Range.small a b 1 = true := by
  unfold Builtin.Range.small
  rw [range_size h1]
  simp only [Builtin.Range.rangeFitsLong, Bool.and_eq_true, Bool.or_eq_true, decide_eq_true_eq, beq_iff_eq, show ((1 : Int) > 0) by decide, if_true]
  omega
end Mine
end

section
set_option maxRecDepth 100000
namespace Mine
open PySem PySem.W PySem.Spec PySem.Calls PyProof.Rows
theorem fillRF : (K = K ∧ PySem.Challenge.rw_at5024_01 = PySem.Challenge.rw_at5024_01) := by
  w_top off
  k_fill
  exact ⟨rfl, rfl⟩
section
variable {w : World} {loose : List Str} {mean : ExcName → Option Value} {mg mb : Str → Option Value} {A₀ : Around} {base h₀ : Heap} {outer : List Env} {news hs : List (Addr × Obj)} {s : Shared} {L : Addr} {m : Str → Option Value} {env : Env}
  {dp un : Nat} {gd : Option (List Code)} {E : Value → Shared → Prop}
variable {x ll cl cm : Addr} {ocl ocm : Obj} {tm : Tok} {vs : List Value} {ns : List Int} {mm : Int} {b1 b2 : Array UInt8} {tb1 tb2 tr tkl : Tok} {rounds : Int} {ks1 ks2 : List Int} {Q : Value → Shared → Prop}
theorem row_grown (R : RowIs w x ll cl cm ocl ocm vs ns mm tm hs) (hsub : ∀ p ∈ hs, p ∈ news) (N : News h₀ L s.heap news) : GrownAt 299 s.heap := by
  obtain ⟨params, params', lbody, lbody', scope, scope', lpos, lpos', dx, fO, tO, cO, cI, td, k1, k2, k3, k4, k5, k6, t5, t6, v1, v2, v3, nd, ocO, ocI, qO, pm, ctv, tb, ps, H, rfl⟩ := R
  exact GrownAt.of N (hsub (299, tabObj ps) (by k_mem))
theorem pbkdf_R (R : RowIs w x ll cl cm ocl ocm vs ns mm tm hs) (hsub : ∀ p ∈ hs, p ∈ news) (n6 : (cl, ocl) ∈ news) (n7 : (cm, ocm) ∈ news) (n8 : (ll, LCg.lst vs) ∈ news)
    (hb1 : KBw.bInts b1 = ks1) (hb2 : KBw.bInts b2 = ks2) (hz1 : ks1.length ≤ 4) (hz2 : ks2.length ≤ 4) (hr1 : 1 ≤ rounds) (hr2 : rounds ≤ 1000)
    (B : Below A₀ base outer h₀) (F : Fr h₀ L s.heap m) (X : (K w.params).In h₀) (N : News h₀ L s.heap news) (T : Top topProg loose mean mg mb h₀)
    (hf : env.frame = some L) (hke : env.scope.kind = .function) (hd : dp + 10 < recursionLimit) (hu : un + 20 < cLine)
    (h : ∀ bb t h' tk', Fr h₀ L h' m → News h₀ L h' news → KBw.bInts bb = [turns ns mm rounds.toNat (ks1.sum + ks2.sum)] → Q (.bytes bb t) { s with heap := h', toks := tk' }) :
    wpAny (model P0 w) ⟨none, dp, some (env :: outer), gd, un⟩ (call (.ref 165) [.ref x, .bytes b1 tb1, .bytes b2 tb2, .int rounds tr]) Q E s := by
  obtain ⟨params, params', lbody, lbody', scope, scope', lpos, lpos', dx, fO, tO, cO, cI, td, k1, k2, k3, k4, k5, k6, t5, t6, v1, v2, v3, nd, ocO, ocI, qO, pm, ctv, tb, ps, H, rfl⟩ := R
  exact pbkdf_N (ep := vs.length) H hb1 hb2 hz1 hz2 hr1 hr2 (hsub _ (by k_mem)) (hsub _ (by k_mem)) (hsub _ (by k_mem)) (hsub _ (by k_mem)) (hsub _ (by k_mem)) (hsub _ (by k_mem)) (hsub _ (by k_mem)) n6 n7 n8 B F X N T hf hke hd hu h
theorem pbkdfk_R (R : RowIs w x ll cl cm ocl ocm vs ns mm tm hs) (hsub : ∀ p ∈ hs, p ∈ news) (n6 : (cl, ocl) ∈ news) (n7 : (cm, ocm) ∈ news) (n8 : (ll, LCg.lst vs) ∈ news)
    (hb1 : KBw.bInts b1 = ks1) (hb2 : KBw.bInts b2 = ks2) (hz1 : ks1.length ≤ 4) (hz2 : ks2.length ≤ 4) (hr1 : 1 ≤ rounds) (hr2 : rounds ≤ 1000)
    (B : Below A₀ base outer h₀) (F : Fr h₀ L s.heap m) (X : (K w.params).In h₀) (N : News h₀ L s.heap news) (T : Top topProg loose mean mg mb h₀)
    (hf : env.frame = some L) (hke : env.scope.kind = .function) (hd : dp + 10 < recursionLimit) (hu : un + 20 < cLine)
    (h : ∀ bb t h' tk', Fr h₀ L h' m → News h₀ L h' news → KBw.bInts bb = [turns ns mm rounds.toNat (ks1.sum + ks2.sum)] → Q (.bytes bb t) { s with heap := h', toks := tk' }) :
    wpAny (model P0 w) ⟨none, dp, some (env :: outer), gd, un⟩ (call (.ref 165) [.ref x, .bytes b1 tb1, .bytes b2 tb2, .int rounds tr, .int 1 tkl]) Q E s := by
  obtain ⟨params, params', lbody, lbody', scope, scope', lpos, lpos', dx, fO, tO, cO, cI, td, k1, k2, k3, k4, k5, k6, t5, t6, v1, v2, v3, nd, ocO, ocI, qO, pm, ctv, tb, ps, H, rfl⟩ := R
  exact pbkdfk_N (ep := vs.length) H hb1 hb2 hz1 hz2 hr1 hr2 (hsub _ (by k_mem)) (hsub _ (by k_mem)) (hsub _ (by k_mem)) (hsub _ (by k_mem)) (hsub _ (by k_mem)) (hsub _ (by k_mem)) (hsub _ (by k_mem)) n6 n7 n8 B F X N T hf hke hd hu h
end
/-- the comprehensions of the rounds' loop: found's; home's -/
def foundOf : Option (PySem.Expr × PySem.Expr × Pos × Scope × Pos × Scope) := match PySem.Challenge.pw_at5024_01.main.body.getLast? with
  | some (.FunctionDef _ _ (_ :: _ :: _ :: _ :: _ :: .For _ _ (.Assign _ (.ListComp elt [⟨.Name _ px, iter, [], _⟩] sc pos) _ :: _) _ _ :: _) _ _ _ lsc _ _ _) => some (elt, iter, px, sc, pos, lsc)
  | _ => none
theorem foundOf_some : ∃ a b c d e f, foundOf = some (a, b, c, d, e, f) := ⟨_, _, _, _, _, _, rfl⟩
/-- bytes of one octet each -/
def BytesOf (ys : List Value) (ks : List Int) : Prop := ∃ zs : List (Array UInt8 × Tok), ys = zs.map (fun z => Value.bytes z.1 z.2) ∧ zs.map (fun z => KBw.bInts z.1) = ks.map fun k => [k]
theorem BytesOf.nil : BytesOf [] [] := ⟨[], rfl, rfl⟩
theorem BytesOf.snoc {ys : List Value} {ks : List Int} {bb : Array UInt8} {t : Tok} {k : Int} (h : BytesOf ys ks) (e : KBw.bInts bb = [k]) : BytesOf (ys ++ [.bytes bb t]) (ks ++ [k]) := by
  obtain ⟨zs, rfl, h2⟩ := h
  refine ⟨zs ++ [(bb, t)], by simp, by simp [h2, e]⟩
/-- where the points stand after so many rounds -/
def points (ns : List Int) (mm : Int) (r : Nat) (n : Nat) : List Int := (List.range n).map fun i : Nat => turns ns mm r ((i : Nat) : Int)
theorem points_succ (ns : List Int) (mm : Int) (r n : Nat) : points ns mm r (n + 1) = points ns mm r n ++ [turns ns mm r (n : Int)] := by
  simp [points, List.range_succ]
local macro_rules | `(tactic| k_room) => `(tactic| ((try simp only [depth_mark, depth_under_make, depth_under_kw, depth_in1, depth_deeper, depth_caller]); (try dsimp only); omega))
theorem off1_mem {D : Addr} : ∀ {l : List (Addr × Obj)}, LCg.Off1 D l → ∀ p ∈ l, p.1 ≠ D
  | [], _, _, h => nomatch h
  | _ :: _, x, p, h => by
    rcases List.mem_cons.mp h with rfl | h
    · exact x.1
    · exact off1_mem x.2 p h
theorem sub_cons {hs news : List (Addr × Obj)} {a : Addr × Obj} (h : ∀ p ∈ hs, p ∈ news) : ∀ p ∈ hs, p ∈ a :: news := fun p hp => .tail _ (h p hp)
local macro_rules | `(tactic| k_mem) => `(tactic| assumption)
local macro_rules | `(tactic| walk_at "call ref") => `(tactic| (k_here; k_dflt (show wpAny _ _ (call (Value.ref _) [_, _, _, _]) _ _ _; refine' Mine.pbkdf_R ?R ?sub ?n6 ?n7 ?n8 ?hb1 ?hb2 ?hz1 ?hz2 ?hr1 ?hr2 ?B ?F ?X ?N ?T ?hf ?hk ?hd ?hu ?_; (case B => k_asm); (case F => k_asm); (case X => k_asm); (case N => k_asm); (case T => k_asm); (case hf => exact rfl); (case hk => exact rfl); (case R => assumption); (case sub => (repeat (first | with_reducible assumption | refine' Mine.sub_cons ?_))); (case n6 => k_mem); (case n7 => k_mem); (case n8 => k_mem); (case hb1 => first | assumption | exact KBa.ints_make (by assumption)); (case hb2 => first | assumption | exact KBa.ints_make (by assumption)); (case hz1 => exact Nat.le_of_ble_eq_true rfl); (case hz2 => exact Nat.le_of_ble_eq_true rfl); (case hr1 => omega); (case hr2 => omega); (case hd => k_room); (case hu => omega)); intro bb t h' tk' F' N' hbI))
set_option maxHeartbeats 1000000 in
theorem found_comp {w : World} {loose : List Str} {mean : ExcName → Option Value} {mg mb : Str → Option Value} {A₀ : Around} {base h₀ : Heap} {outer : List Env} {news hs : List (Addr × Obj)} {s : Shared} {L fa : Addr} {m : Str → Option Value}
    {dp un : Nat} {gd : Option (List Code)} {Q E : Value → Shared → Prop} {x ll : Addr} {ocl ocm oRow oRounds : Obj} {tm tr : Tok} {vs : List Value} {ns : List Int} {mm r : Int}
    {elt iter : PySem.Expr} {px pos : Pos} {sc scope : Scope} (hc : foundOf = some (elt, iter, px, sc, pos, scope))
    (R : RowIs w x ll (L + 1 + 1 + 1 + 1 + 1 + 1 + 1 + 1 + 1) (L + 1 + 1 + 1 + 1 + 1 + 1 + 1 + 1 + 1 + 1) ocl ocm vs ns mm tm hs) (hsub : ∀ p ∈ hs, p ∈ news)
    (n6 : (L + 1 + 1 + 1 + 1 + 1 + 1 + 1 + 1 + 1, ocl) ∈ news) (n7 : (L + 1 + 1 + 1 + 1 + 1 + 1 + 1 + 1 + 1 + 1, ocm) ∈ news) (n8 : (ll, LCg.lst vs) ∈ news) (n3 : (L + 1 + 1 + 1, oRow) ∈ news) (n5 : (L + 1 + 1 + 1 + 1 + 1 + 1, oRounds) ∈ news)
    (dm : ocm.data = .cell (some (.int mm tm))) (d3 : oRow.data = .cell (some (.ref x))) (d5 : oRounds.data = .cell (some (.int r tr))) (hr1 : 1 ≤ r) (hr2 : r ≤ 1000) (pos' : 0 < mm) (le : mm ≤ 200)
    (B : Below A₀ base outer h₀) (F : Fr h₀ L s.heap m) (X : (K w.params).In h₀) (N : News h₀ L s.heap news) (T : Top topProg loose mean mg mb h₀) (hd : dp + 20 < recursionLimit) (hu : un + 60 < cLine)
    (h : ∀ D ys h' tk', Fr h₀ L h' m → News h₀ L h' ((D, LCg.lst ys) :: news) → LCg.Off1 D news → BytesOf ys (points ns mm r.toNat mm.toNat) → Q (.ref D) { s with heap := h', toks := tk' }) :
    wpAny (model P0 w) ⟨none, dp, some (envOfC "law" scope L fa (.ref 301) :: outer), gd, un⟩ (eval (.ListComp elt [⟨.Name "point" px, iter, [], 0⟩] sc pos) (envOfC "law" scope L fa (.ref 301))) Q E s := by
  cases hc
  (try k_fold)
  k_dflt (refine LCg.ListComp_U (F₀ := F) (by with_unfolding_all rfl) (by decide) (by rfl) (by decide) (by rfl) ?_)
  iterate 7 (first | walk1 | (dsimp only; walk1))
  rename IsRange _ _ _ _ _ _ _ _ => hr'
  rename Fr _ _ _ _ => F1
  rename News _ _ _ _ => N1
  refine LCg.CompSrc.range (n := mm.toNat) rfl F1 N1 hr' (range_small (by omega) (by omega) (by decide)) ((range_size (by omega)).trans (by rw [Int.sub_zero])) (by size_fits) fun g => ?_
  refine comp_rest (fun i ys => BytesOf ys (points ns mm r.toNat i)) mm.toNat trivial ?_ ?_ _ 0 [] (Nat.zero_add _) BytesOf.nil
  · intro i ys v I oI C oC D m₂ h₂ tk E' hi hJ hP hC hx F2 N2 off ne
    obtain ⟨t, rfl⟩ := hP
    have hfd : (0 + (i : Int)).fdiv 2 = (i : Int) / 2 := by rw [Int.zero_add]; exact Int.fdiv_eq_ediv_of_nonneg _ (by decide)
    have hz1 : KBa.In [(0 + (i : Int)).fdiv 2] := fun n hn => by rw [List.mem_singleton.mp hn, hfd]; omega
    have hz2 : KBa.In [0 + (i : Int) - (0 + (i : Int)).fdiv 2] := fun n hn => by rw [List.mem_singleton.mp hn, hfd]; omega
    clear F1 N1
    (try k_fold)
    k_steps
    rename News _ _ _ _ => N3
    rename Fr _ _ _ _ => F3
    rename KBw.bInts _ = [_] => e3
    refine Moves.mk' F3 N3 (fun p hp => .tail _ (.tail _ hp)) ?_
    rw [points_succ]
    refine hJ.snoc (e3.trans ?_)
    have e4 : [(0 + (i : Int)).fdiv 2].sum + [0 + (i : Int) - (0 + (i : Int)).fdiv 2].sum = (i : Int) := by
      simp only [List.sum_cons, List.sum_nil]
      omega
    rw [e4]
  · intro ys hJ
    show LCg.FinE _ _ _ _ _ _ _
    intro D h₂ tk F2 N2 off
    exact h D ys h₂ tk F2 N2 off hJ
theorem bInts_inj {a b : Array UInt8} (h : KBw.bInts a = KBw.bInts b) : a.toList = b.toList := by
  have inj : ∀ l l' : List UInt8, l.map (fun c => (c.toNat : Int)) = l'.map (fun c => (c.toNat : Int)) → l = l' := by
    intro l
    induction l with
    | nil => intro l' h; cases l' with
      | nil => rfl
      | cons => cases h
    | cons c r ih => intro l' h; cases l' with
      | nil => cases h
      | cons d r' =>
        simp only [List.map_cons, List.cons.injEq] at h
        have e := h.1
        have hc : c = d := UInt8.toNat_inj.mp (by omega)
        rw [ih r' h.2, hc]
  exact inj _ _ h
theorem beq_bytes {a b : Array UInt8} {k l : Int} (ha : KBw.bInts a = [k]) (hb : KBw.bInts b = [l]) : (a.toList == b.toList) = decide (k = l) := by
  by_cases h : k = l
  · subst h
    rw [bInts_inj (ha.trans hb.symm)]
    simp
  · rw [decide_eq_false h, beq_eq_false_iff_ne]
    intro e
    have : KBw.bInts a = KBw.bInts b := by unfold KBw.bInts; rw [e]
    rw [ha, hb] at this
    exact h (List.cons.inj this).1
/-- home's comprehension -/
def homeOf : Option (PySem.Expr × PySem.Expr × Pos × PySem.Expr × Scope × Pos × Scope) := match PySem.Challenge.pw_at5024_01.main.body.getLast? with
  | some (.FunctionDef _ _ (_ :: _ :: _ :: _ :: _ :: .For _ _ (_ :: .Expr (.Call _ [.Call _ [.ListComp elt [⟨.Name _ px, iter, [ct], _⟩] sc pos] _ _] _ _) _ :: _) _ _ :: _) _ _ _ lsc _ _ _) => some (elt, iter, px, ct, sc, pos, lsc)
  | _ => none
theorem homeOf_some : ∃ a b c d e f g, homeOf = some (a, b, c, d, e, f, g) := ⟨_, _, _, _, _, _, _, rfl⟩
def homePts (ns : List Int) (mm : Int) (r n : Nat) : List Nat := (List.range n).filter fun i => decide (turns ns mm r ((i : Nat) : Int) = ((i : Nat) : Int))
theorem homePts_succ (ns : List Int) (mm : Int) (r n : Nat) : (homePts ns mm r (n + 1)).length = (homePts ns mm r n).length + if turns ns mm r (n : Int) = (n : Int) then 1 else 0 := by
  unfold homePts
  rw [List.range_succ, List.filter_append, List.length_append]
  by_cases h : turns ns mm r (n : Int) = (n : Int)
  · rw [if_pos h, List.filter_cons_of_pos (by simpa using h)]; rfl
  · rw [if_neg h, List.filter_cons_of_neg (by simpa using h)]; rfl
theorem homePts_le (ns : List Int) (mm : Int) (r n : Nat) : (homePts ns mm r n).length ≤ n := by
  have := List.length_filter_le (fun i => decide (turns ns mm r ((i : Nat) : Int) = ((i : Nat) : Int))) (List.range n)
  rw [List.length_range] at this
  exact this
theorem BytesOf.get {ys : List Value} {ks : List Int} {i : Nat} {k : Int} (h : BytesOf ys ks) (hk : ks[i]? = some k) : ∃ bb t, ys[i]? = some (.bytes bb t) ∧ KBw.bInts bb = [k] := by
  obtain ⟨zs, rfl, h2⟩ := h
  have e : (zs.map fun z => KBw.bInts z.1)[i]? = some [k] := by rw [h2, List.getElem?_map, hk]; rfl
  rw [List.getElem?_map] at e
  cases hz : zs[i]? with
  | none => rw [hz] at e; cases e
  | some z =>
    rw [hz] at e
    exact ⟨z.1, z.2, by rw [List.getElem?_map, hz]; rfl, Option.some.inj e⟩
theorem points_get {ns : List Int} {mm : Int} {r n i : Nat} (h : i < n) : (points ns mm r n)[i]? = some (turns ns mm r (i : Int)) := by
  simp [points, h]
theorem item_row {prog : Program} {w : World} {A : Around} {E : Value → Shared → Prop} {s : Shared} {h₀ : Heap} {L : Addr} {news : List (Addr × Obj)} {value slice : PySem.Expr} {l : Addr} {vs : List Value} {k : Int} {u : Tok} {v : Value} {Q : Value → Shared → Prop}
    (N : News h₀ L s.heap news) (hm : (l, LCg.lst vs) ∈ news) (h0 : 0 ≤ k) (hhi : k < 2 ^ 63) (hx : vs[k.toNat]? = some v) (h : Q v s)
    (hs : subscripted slice false (.ref l) (.int k u) = operate [.ref l, .int k u] (getItem (.ref l) (.int k u)) := by with_unfolding_all rfl) :
    wpAny (model prog w) A (subscriptTail value slice (.ref l) (.int k u)) Q E s := by
  have hl : s.heap.IsList l vs.toArray := ⟨_, (N _ hm).1, rfl, _, rfl⟩
  exact tail_any hl.typeIs slot_list_getitem.lookup (wpAny_getItem_list hl h0 hhi (by simpa using hx) h) hs
local macro_rules | `(tactic| walk_at "subscriptTail") => `(tactic| (k_here; k_dflt (refine' Mine.item_row ?N ?m ?h0 ?hh ?hx ?_ ?k6; (case N => k_asm); (case m => k_mem); (case h0 => omega); (case hh => omega); (case hx => assumption); (case k6 => with_unfolding_all rfl))))
set_option maxHeartbeats 4000000 in
theorem home_comp {w : World} {loose : List Str} {mean : ExcName → Option Value} {mg mb : Str → Option Value} {A₀ : Around} {base h₀ : Heap} {outer : List Env} {news : List (Addr × Obj)} {s : Shared} {L fa : Addr} {m : Str → Option Value}
    {dp un : Nat} {gd : Option (List Code)} {Q E : Value → Shared → Prop} {fl : Addr} {ocm oFound : Obj} {tm : Tok} {fs : List Value} {ns : List Int} {mm : Int} {r : Nat}
    {elt iter ct : PySem.Expr} {px pos : Pos} {sc scope : Scope} (hc : homeOf = some (elt, iter, px, ct, sc, pos, scope))
    (n7 : (L + 1 + 1 + 1 + 1 + 1 + 1 + 1 + 1 + 1 + 1, ocm) ∈ news) (n4 : (L + 1 + 1 + 1 + 1 + 1 + 1 + 1, oFound) ∈ news) (n8 : (fl, LCg.lst fs) ∈ news)
    (dm : ocm.data = .cell (some (.int mm tm))) (d4 : oFound.data = .cell (some (.ref fl))) (hf : BytesOf fs (points ns mm r mm.toNat)) (pos' : 0 < mm) (le : mm ≤ 200)
    (B : Below A₀ base outer h₀) (F : Fr h₀ L s.heap m) (X : (K w.params).In h₀) (N : News h₀ L s.heap news) (T : Top topProg loose mean mg mb h₀) (hd : dp + 20 < recursionLimit) (hu : un + 60 < cLine)
    (h : ∀ D ys h' tk', Fr h₀ L h' m → News h₀ L h' ((D, LCg.lst ys) :: news) → LCg.Off1 D news → ys.length = (homePts ns mm r mm.toNat).length → ys.length ≤ 200 → Q (.ref D) { s with heap := h', toks := tk' }) :
    wpAny (model P0 w) ⟨none, dp, some (envOfC "law" scope L fa (.ref 301) :: outer), gd, un⟩ (eval (.ListComp elt [⟨.Name "point" px, iter, [ct], 0⟩] sc pos) (envOfC "law" scope L fa (.ref 301))) Q E s := by
  cases hc
  (try k_fold)
  k_dflt (refine LCt.ListComp_T (F₀ := F) (by with_unfolding_all rfl) (by decide) (by rfl) (by decide) (by rfl) ?_)
  iterate 7 (first | walk1 | (dsimp only; walk1))
  rename IsRange _ _ _ _ _ _ _ _ => hr'
  rename Fr _ _ _ _ => F1
  rename News _ _ _ _ => N1
  refine LCt.CompSrcT.range (n := mm.toNat) rfl F1 N1 hr' (range_small (by omega) (by omega) (by decide)) ((range_size (by omega)).trans (by rw [Int.sub_zero])) (by size_fits) fun g => ?_
  refine comp_restT (fun i ys => ys.length = (homePts ns mm r i).length) mm.toNat trivial ?_ ?_ _ 0 [] (Nat.zero_add _) rfl
  · intro i ys v I oI C oC D m₂ h₂ tk E' hi hJ hP hC hx F2 N2 off ne
    obtain ⟨t, rfl⟩ := hP
    obtain ⟨bb, tb, hg, hbb⟩ := hf.get (points_get hi)
    have hg' : fs[(0 + (i : Int)).toNat]? = some (.bytes bb tb) := by rw [Int.zero_add, Int.toNat_natCast]; exact hg
    have hz1 : KBa.In [0 + (i : Int)] := fun n hn => by rw [List.mem_singleton.mp hn]; omega
    have hkey : (bb.toList == (byteArr [0 + (i : Int)]).toList) = decide (turns ns mm r (i : Int) = (i : Int)) := by
      rw [beq_bytes hbb (KBa.ints_make hz1), Int.zero_add]
    clear F1 N1
    (try k_fold)
    k_steps
    · rename News _ _ _ _ => N3
      rename Fr _ _ _ _ => F3
      rename (_ == _) = true => he
      refine Moves.mk' F3 N3 (fun p hp => .tail _ hp) ?_
      rw [hkey] at he
      rw [List.length_append, homePts_succ, hJ, if_pos (of_decide_eq_true he)]
      rfl
    · rename News _ _ _ _ => N3
      rename Fr _ _ _ _ => F3
      rename (_ == _) = false => he
      refine Moves.mk' F3 N3 (fun p hp => .tail _ hp) ?_
      rw [hkey] at he
      rw [homePts_succ, hJ, if_neg (of_decide_eq_false he)]
      rfl
  · intro ys hJ
    show LCg.FinE _ _ _ _ _ _ _
    intro D h₂ tk F2 N2 off
    exact h D ys h₂ tk F2 N2 off hJ (by rw [hJ]; exact Nat.le_trans (homePts_le _ _ _ _) (by omega))
end Mine
end

section
set_option maxRecDepth 100000
namespace Mine
open PySem PySem.W PySem.Spec PySem.Calls PyProof.Rows
/-- the key of a number's one octet -/
def oct (k : Int) : List UInt8 := [k.toNat.toUInt8]
theorem oct_inj {a b : Int} (ha : 0 ≤ a ∧ a < 256) (hb : 0 ≤ b ∧ b < 256) (h : oct a = oct b) : a = b := by
  have e : a.toNat.toUInt8 = b.toNat.toUInt8 := (List.cons.inj h).1
  have e2 := congrArg UInt8.toNat e
  simp only [Nat.toUInt8, UInt8.toNat_ofNat'] at e2
  omega
theorem oct_of {bb : Array UInt8} {k : Int} (h : KBw.bInts bb = [k]) : bb.toList = oct k := by
  unfold KBw.bInts at h
  cases hl : bb.toList with
  | nil => rw [hl] at h; cases h
  | cons c r =>
    rw [hl] at h
    simp only [List.map_cons, List.cons.injEq, List.map_eq_nil_iff] at h
    obtain ⟨h1, rfl⟩ := h
    unfold oct
    rw [← h1, Int.toNat_natCast]
    simp [Nat.toUInt8]
/-- the unlike ones, in the order of their coming -/
def unl (ks : List Int) : List Int := ks.foldl step_dedup []
theorem unl_take_succ {ks : List Int} {i : Nat} {k : Int} (h : ks[i]? = some k) : unl (ks.take (i + 1)) = step_dedup (unl (ks.take i)) k := by
  unfold unl
  rw [List.take_add_one, h, Option.toList_some, List.foldl_append]
  rfl
theorem unl_len_le (ks : List Int) : (unl ks).length ≤ ks.length := by
  have : ∀ (l σ : List Int), (l.foldl step_dedup σ).length ≤ σ.length + l.length := by
    intro l
    induction l with
    | nil => intro σ; exact Nat.le_refl _
    | cons c r ih =>
      intro σ
      have h := ih (step_dedup σ c)
      have h2 := step_length σ c
      rw [List.foldl_cons, List.length_cons]
      by_cases hc : σ.any (· == c) = true
      · rw [if_pos hc] at h2; omega
      · rw [if_neg hc] at h2; omega
  simpa [unl] using this ks []
theorem unl_sub (ks : List Int) : ∀ k ∈ unl ks, k ∈ ks := by
  have : ∀ (l σ : List Int) k, k ∈ l.foldl step_dedup σ → k ∈ σ ∨ k ∈ l := by
    intro l
    induction l with
    | nil => intro σ k h; exact .inl h
    | cons c r ih =>
      intro σ k h
      rcases ih _ _ h with h | h
      · unfold step_dedup at h
        split at h
        · exact .inl h
        · rcases List.mem_append.mp h with h | h
          · exact .inl h
          · exact .inr (List.mem_singleton.mp h ▸ .head _)
      · exact .inr (.tail _ h)
  intro k h
  rcases this ks [] k h with h | h
  · cases h
  · exact h
abbrev hasOct (σ : List Int) (key : List UInt8) : Bool := σ.any fun k => key == oct k
theorem hasOct_eq {σ : List Int} {k : Int} (hk : 0 ≤ k ∧ k < 256) (hσ : ∀ x ∈ σ, 0 ≤ x ∧ x < 256) : hasOct σ (oct k) = σ.any (· == k) := by
  rw [Bool.eq_iff_iff]
  simp only [hasOct, List.any_eq_true, beq_iff_eq]
  constructor
  · rintro ⟨x, hx, e⟩; exact ⟨x, hx, (oct_inj hk (hσ x hx) e).symm⟩
  · rintro ⟨x, hx, e⟩; exact ⟨x, hx, by rw [e]⟩
theorem hasOct_step (σ : List Int) (k : Int) (key : List UInt8) : hasOct (step_dedup σ k) key = (hasOct σ key || decide (key = oct k)) := by
  unfold step_dedup
  by_cases h : σ.any (· == k) = true
  · rw [if_pos h]
    by_cases e : key = oct k
    · subst e
      have h2 : hasOct σ (oct k) = true := by
        obtain ⟨x, hx, e⟩ := List.any_eq_true.mp h
        exact List.any_eq_true.mpr ⟨x, hx, by rw [eq_of_beq e]; simp⟩
      rw [h2]; simp
    · simp [e]
  · rw [if_neg h]
    unfold hasOct
    rw [List.any_append]
    by_cases e : key = oct k
    · subst e; simp
    · simp [e]
theorem setOf_eq {prog : Program} {w : World} {h : Heap} {a : Addr} {S S' : List UInt8 → Bool} {n n' : Nat} (x : h.SetOf (bytesKind prog w) a S n) (e : ∀ k, S k = S' k) (en : n = n') : h.SetOf (bytesKind prog w) a S' n' := by
  cases (funext e : S = S')
  cases en
  exact x

section
variable {prog : Program} {w : World} {A : Around} {R : Result → Shared → Prop}
/-- a set filled by bytes of one octet, from where the loop stands -/
theorem fill_set {ks : List Int} {fs : List Value} (hB : BytesOf fs ks) (hr : ∀ k ∈ ks, 0 ≤ k ∧ k < 256) (hlen : ks.length + 1 < scanBound) {I S l : Addr} (W : Walks prog w A.in1 I [I, l] [I] fs.toArray.size (fun i v => fs.toArray[i]? = some v) (fun i h => h.IsListIter I l i ∧ h.IsList l fs.toArray)) (hSI : S ≠ I) (hSl : S ≠ l) :
    ∀ (j i : Nat) (s : Shared), i + j = fs.toArray.size → (s.heap.IsListIter I l i ∧ s.heap.IsList l fs.toArray) → s.heap.SetOf (bytesKind prog w) S (hasOct (unl (ks.take i))) (unl (ks.take i)).length →
      (∀ h' tk, (∀ b o, b ≠ S → b ≠ I → s.heap.get? b = some o → h'.get? b = some o) → h'.SetOf (bytesKind prog w) S (hasOct (unl ks)) (unl ks).length → R (.ok (.ret .none)) { s with heap := h', toks := tk }) →
      codeAny (model prog w) A (.builtin "set.update.loop" ⟨[.ref S, .ref I], []⟩) R s := by
  have hlenf : fs.length = ks.length := by
    obtain ⟨zs, rfl, h2⟩ := hB
    have := congrArg List.length h2
    simpa using this
  have hsz : fs.toArray.size = ks.length := by rw [List.size_toArray, hlenf]
  have off : ∀ {h₁ h₂ : Heap} {T : List UInt8 → Bool} {c : Nat}, (∀ b o, b ∉ [I] → h₁.get? b = some o → h₂.get? b = some o) → h₁.SetOf (bytesKind prog w) S T c → h₂.SetOf (bytesKind prog w) S T c := by
    rintro h₁ h₂ T c hk ⟨o, es, ep, t, ho, rest⟩
    exact ⟨o, es, ep, t, hk S o (fun q => hSI (List.mem_singleton.mp q)) ho, rest⟩
  intro j
  induction j with
  | zero =>
    intro i s hi hst hS done
    have hik : i = ks.length := by omega
    refine codeAny_builtin F.entry_set_update_loop ?_
    rw [Around.under_plainId F.plain_set_update_loop _]
    show wpAny _ A.in1 (pyNext (.ref I) >>= _) _ _ s
    refine wpAny_bind (W.done s _ _ (by rw [show fs.toArray.size = i by omega]; exact hst) fun h' tk hk => ?_)
    show wpAny _ A.in1 (ret Value.none) _ _ _
    refine wpAny_pure (done h' tk (fun b o _ hb e => hk b o (fun q => hb (List.mem_singleton.mp q)) e) ?_)
    have := off hk hS
    rwa [hik, List.take_length] at this
  | succ j ih =>
    intro i s hi hst hS done
    have hlt : i < ks.length := by omega
    refine codeAny_builtin F.entry_set_update_loop ?_
    rw [Around.under_plainId F.plain_set_update_loop _]
    show wpAny _ A.in1 (pyNext (.ref I) >>= _) _ _ s
    refine wpAny_bind (W.item i s _ _ (by omega) hst fun v h' tk hv hst' hk => ?_)
    have hki : ks[i]? = some ks[i] := List.getElem?_eq_getElem hlt
    obtain ⟨bb, t, hb1, hb2⟩ := hB.get hki
    have hvb : v = .bytes bb t := by
      have : fs.toArray[i]? = some (.bytes bb t) := by simpa using hb1
      rw [hv] at this
      exact Option.some.inj this
    subst hvb
    have hkey : (bytesKind prog w).is (oct ks[i]) (.bytes bb t) = true := by
      show (bb.toList == oct ks[i]) = true
      rw [oct_of hb2]; simp
    have hrk := hr _ (List.getElem_mem hlt)
    have hS' := off hk hS
    show wpAny _ A.in1 (holding [Value.bytes bb t] (setAdd S (.bytes bb t)) >>= _) _ _ _
    refine wpAny_bind (wpAny_holding ?_)
    unfold setAdd
    refine wpAny_holding (wpAny_bind ((bytesKind prog w).pyHash (k := oct ks[i]) hkey ?_))
    have hle := unl_len_le (ks.take i)
    have hroom : (unl (ks.take i)).length + 1 < scanBound := by rw [List.length_take] at hle; omega
    refine wpAny_setAddHashed_of (knd := bytesKind prog w) hkey rfl hS' hroom fun h'' hsb hS2 => ?_
    have hin : ∀ x ∈ unl (ks.take i), 0 ≤ x ∧ x < 256 := fun x hx => hr x (List.mem_of_mem_take (unl_sub _ x hx))
    have hS3 : h''.SetOf (bytesKind prog w) S (hasOct (unl (ks.take (i + 1)))) (unl (ks.take (i + 1))).length :=
      setOf_eq hS2 (fun k' => by rw [unl_take_succ hki, hasOct_step]) (by rw [unl_take_succ hki, step_length, hasOct_eq hrk hin])
    refine wpAny_pure ⟨plainId_quiet F.plain_set_update_loop _, ih (i + 1) _ (by omega) ?_ hS3 fun h₃ tk₃ hk₃ hS₃ => done h₃ tk₃ (fun b o hbS hbI e => ?_) hS₃⟩
    · refine W.frame _ _ _ hst' fun b hb o e => ?_
      refine (hsb.2 b fun q => ?_).trans e
      rcases List.mem_cons.mp hb with h | h
      · exact hSI (q.symm.trans h)
      · exact hSl (q.symm.trans (List.mem_singleton.mp h))
    · exact hk₃ b o hbS hbI ((hsb.2 b hbS).trans (hk b o (fun q => hbI (List.mem_singleton.mp q)) e))
end
end Mine
end

section
set_option maxRecDepth 100000
namespace Mine
open PySem PySem.W PySem.Spec PySem.Calls PyProof.Rows
section
variable {prog : Program} {w : World} {A : Around} {E : Value → Shared → Prop} {s : Shared}
/-- an empty set, as set() makes it -/
abbrev noSet (led : Bool) : Obj := { cls := .type "set", dict := none, data := .set #[] 0 (.fresh 0 0 led) }
/-- what the filling leaves -/
def Filled (prog : Program) (w : World) (E : Value → Shared → Prop) (s : Shared) (ks : List Int) : Result → Shared → Prop :=
  wants (fun r s₂ => r = .none ∧ ∃ h' tk, s₂ = { s with heap := h', toks := tk } ∧ h'.SetOf (bytesKind prog w) s.heap.objs.size (hasOct (unl ks)) (unl ks).length ∧ (∀ b o, b < s.heap.objs.size → s.heap.get? b = some o → h'.get? b = some o)) E
theorem init_set {l : Addr} {fs : List Value} {ks : List Int} {led : Bool} (hh : A.handled = none) (hl : s.heap.IsList l fs.toArray) (hB : BytesOf fs ks) (hr : ∀ k ∈ ks, 0 ≤ k ∧ k < 256) (hlen : ks.length + 1 < scanBound) :
    codeAny (model prog w) A (.call (.builtin "set.__init__") ⟨[.ref s.heap.objs.size, .ref l], []⟩) (Filled prog w E s ks) { s with heap := s.heap.push (noSet led) } := by
  have hnew : (s.heap.push (noSet led)).get? s.heap.objs.size = some (noSet led) := Heap.get?_push_size _ rfl
  have hl1 : (s.heap.push (noSet led)).IsList l fs.toArray := hl.push _
  obtain ⟨ol, hol, hcl, nl, hdl⟩ := hl
  obtain ⟨ocls, odict, odata, oslots⟩ := ol
  dsimp only at hcl hdl
  subst hcl hdl
  have hol' := Heap.get?_push_of_some (noSet led) hol
  have r1 := F.sub_list_set
  have r2 := F.sub_list_frozenset
  have r3 : (Value.type "list" == Value.type "dict") = false := by decide
  have hlS : l < s.heap.objs.size := Heap.lt_size hol
  have hI : (s.heap.push (noSet led)).objs.size = s.heap.objs.size + 1 := Heap.size_push _ _
  have hT : Shared.TypeIs { s with heap := s.heap.push (noSet led) } (.ref s.heap.objs.size) "set" := ⟨_, hnew, rfl⟩
  refine codeAny_call_builtin F.called_set.init.plain F.entry_set_init (check_set_init_1 hT ?_)
  unfold Builtin.«set.__init__» noKeywords Builtin.Frozenset.updateFrom
  generalize hPI : pyIter = PI
  wp_walk
  subst hPI
  refine wpAny_pyIter_list hl1 ?_
  refine wpAny_bind (wpAny_runValue ?_)
  refine fill_set hB hr hlen (I := (s.heap.push (noSet led)).objs.size) (l := l) (Walks.list (by simp [hh]) _ l (by rw [hI]; exact Nat.ne_of_lt (Nat.lt_succ_of_lt hlS)) fs.toArray) (by rw [hI]; exact Nat.ne_of_lt (Nat.lt_succ_self _)) (Nat.ne_of_gt hlS) _ 0 _ (Nat.zero_add _)
    ⟨⟨_, Heap.get?_push_size _ rfl, rfl, rfl⟩, hl1.push _⟩ ?_ fun h' tk hk hS => ?_
  · exact setOf_eq ((setObjOf_fresh (knd := bytesKind prog w) led).setOf (Heap.get?_push_of_some _ hnew) (by unfold scanBound; omega)) (fun _ => rfl) rfl
  · show wpAny _ _ _ _ _ _
    refine wpAny_pure ?_
    show wpAny _ _ (ret Value.none) _ _ _
    refine wpAny_pure ⟨rfl, h', tk, rfl, hS, fun b o hb e => ?_⟩
    exact hk b o (Nat.ne_of_lt hb) (by rw [hI]; exact Nat.ne_of_lt (Nat.lt_succ_of_lt hb)) (Heap.get?_push_of_some _ (Heap.get?_push_of_some _ e))
set_option maxHeartbeats 3200000 in
theorem call_setB {l : Addr} {fs : List Value} {ks : List Int} {Q : Value → Shared → Prop} (hh : A.handled = none) (hl : s.heap.IsList l fs.toArray) (hB : BytesOf fs ks) (hr : ∀ k ∈ ks, 0 ≤ k ∧ k < 256) (hlen : ks.length + 1 < scanBound)
    (h : ∀ h' tk, h'.SetOf (bytesKind prog w) s.heap.objs.size (hasOct (unl ks)) (unl ks).length → (∀ b o, b < s.heap.objs.size → s.heap.get? b = some o → h'.get? b = some o) → Q (.ref s.heap.objs.size) { s with heap := h', toks := tk }) :
    wpAny (model prog w) A (call (.type "set") [.ref l]) Q E s := by
  have m1 := F.called_set.made
  have m2 := F.called_set.sub
  obtain ⟨c, tl, m3⟩ := F.called_set.mro
  have m4 := F.called_set.notType
  have m5 := F.called_set.canCreate
  have m6 := F.typeCall_set_1 (.ref l)
  refine wpAny_call (codeAny_of_tree ?_)
  show wpAny _ _ (callAny (.type "set") _) _ _ _
  refine wpAny_pure ⟨Code.quiet_builtin _ (by decide +kernel), codeAny_builtin F.entry_type_call ?_⟩
  rw [Around.under_plain (weight_type_call_type "set" [.ref l] []) rfl]
  repeat (any_goals (first | assumption | wp_step))
  refine codeAny_mono (code_set_new_1 (.ref l) (E := E) (Q₁ := fun obj s₁ => ∃ led : Bool, obj = .ref s.heap.objs.size ∧ s₁ = { s with heap := s.heap.push (noSet led) }) fun led => ⟨led, rfl, rfl⟩) fun r s₁ hr₁ => ?_
  cases r with
  | error e => exact hr₁
  | ok fl =>
    cases fl with
    | ret obj =>
      obtain ⟨led, rfl, rfl⟩ := hr₁
      have hnew : (s.heap.push (noSet led)).get? s.heap.objs.size = some (noSet led) := Heap.get?_push_size _ rfl
      have hT : Shared.TypeIs { s with heap := s.heap.push (noSet led) } (.ref s.heap.objs.size) "set" := ⟨_, hnew, rfl⟩
      have i1 := F.called_set.init.lookup
      have i2 := F.called_set.init.bind (.ref s.heap.objs.size)
      repeat (any_goals (first | assumption | wp_step))
      refine codeAny_mono (init_set (E := E) (led := led) (by simp [hh]) hl hB hr hlen) fun r₂ s₂ hr₂ => ?_
      cases r₂ with
      | error e => exact hr₂
      | ok fl₂ =>
        cases fl₂ with
        | ret r =>
          obtain ⟨rfl, h', tk, rfl, hS, hk⟩ := hr₂
          repeat (any_goals (first | assumption | wp_step))
          exact h _ _ hS hk
        | _ => exact hr₂.elim
    | _ => exact hr₁.elim
end
/-- set(found), in a frame -/
theorem set_N {prog : Program} {w : World} {A : Around} {E : Value → Shared → Prop} {s : Shared} {h₀ : Heap} {L : Addr} {m : Str → Option Value} {news : List (Addr × Obj)} {l : Addr} {fs : List Value} {ks : List Int} {Q : Value → Shared → Prop} (hh : A.handled = none) (F : Fr h₀ L s.heap m) (N : News h₀ L s.heap news)
    (hm : (l, LCg.lst fs) ∈ news) (hB : BytesOf fs ks) (hr : ∀ k ∈ ks, 0 ≤ k ∧ k < 256) (hlen : ks.length + 1 < scanBound)
    (h : ∀ S h' (tk : Nat) o, Fr h₀ L h' m → News h₀ L h' ((S, o) :: news) → (∀ p ∈ news, p.1 < S) → o.SetObjOf (bytesKind prog w) (hasOct (unl ks)) (unl ks).length → Q (.ref S) { s with heap := h', toks := tk }) :
    wpAny (model prog w) A (call (.type "set") [.ref l]) Q E s := by
  refine call_setB hh ⟨_, (N _ hm).1, rfl, _, rfl⟩ hB hr hlen fun h' tk hS hk => ?_
  obtain ⟨o, ho, hso⟩ := hS.objOf
  have hL : L < s.heap.objs.size := F.ns.lt
  refine h _ h' tk o ⟨F.ns.at' fun o' e => hk L o' hL e, fun b o' e => hk b o' (Heap.lt_size (F.keep b o' e)) (F.keep b o' e), F.above⟩ (fun p hp => ?_) (fun p hp => Heap.lt_size (N p hp).1) hso
  rcases List.mem_cons.mp hp with rfl | hp
  · exact ⟨ho, Nat.ne_of_gt hL, Heap.get?_none_of_le (Nat.le_trans F.above (Nat.le_of_lt hL))⟩
  · exact ⟨hk _ _ (Heap.lt_size (N p hp).1) (N p hp).1, (N p hp).2⟩
end Mine
end

section
set_option maxRecDepth 100000
namespace Mine
open PySem PySem.W PySem.Spec PySem.Calls PyProof.Rows
theorem fillRT : (K = K ∧ PySem.Challenge.rw_at5024_01 = PySem.Challenge.rw_at5024_01) := by
  w_top off
  k_fill
  exact ⟨rfl, rfl⟩
section
variable {prog : Program} {w : World} {A : Around} {E : Value → Shared → Prop} {s : Shared} {h₀ : Heap} {L : Addr} {news : List (Addr × Obj)} {Q : Value → Shared → Prop}
theorem len_row {D : Addr} {ys : List Value} (N : News h₀ L s.heap news) (hm : (D, LCg.lst ys) ∈ news) (hz : ys.length ≤ 1000) (h : ∀ t tk, Q (.int (ys.length : Nat) t) { s with toks := tk }) : wpAny (model prog w) A (call (.builtin "len") [.ref D]) Q E s := by
  have hl : s.heap.IsList D ys.toArray := ⟨_, (N _ hm).1, rfl, _, rfl⟩
  refine Calls.call_len_list hl (by rw [List.size_toArray]; omega) ?_
  rw [List.size_toArray]
  exact h _ _
theorem len_setrow {S : Addr} {o : Obj} {T : List UInt8 → Bool} {n : Nat} (N : News h₀ L s.heap ((S, o) :: news)) (hlt : ∀ p ∈ news, p.1 < S) (hs : o.SetObjOf (bytesKind prog w) T n) (hz : n ≤ 1000) (h : ∀ t tk, Q (.int (n : Nat) t) { s with toks := tk }) : wpAny (model prog w) A (call (.builtin "len") [.ref S]) Q E s :=
  kse_len N (.head fun p hp => Nat.ne_of_lt (hlt p hp)) hs (by omega) (h _ _)
end
/-- the body of the rounds' loop -/
def roundBody : Option (PySem.Expr × List Stmt × Scope) := match PySem.Challenge.pw_at5024_01.main.body.getLast? with
  | some (.FunctionDef _ _ (_ :: _ :: _ :: _ :: _ :: .For tg _ body _ _ :: _) _ _ _ lsc _ _ _) => some (tg, body, lsc)
  | _ => none
theorem roundBody_some : ∃ a b c, roundBody = some (a, b, c) := ⟨_, _, _, rfl⟩
theorem all_of {tl : List (Addr × Obj)} {a : Addr} (h : ∀ p ∈ tl, p.1 ≠ a) : ∀ p ∈ tl, p.1 ≠ a := h
local macro_rules | `(tactic| k_room) => `(tactic| ((try simp only [depth_mark, depth_under_make, depth_under_kw, depth_in1, depth_deeper, depth_caller]); (try dsimp only); omega))
local macro_rules | `(tactic| k_all) => `(tactic| assumption)
local macro_rules | `(tactic| size_fits) => `(tactic| assumption)
local macro_rules | `(tactic| walk_at "eval ListComp") => `(tactic| (k_here; (with_reducible show wpAny _ _ (eval (Expr.ListComp _ [⟨_, _, [], _⟩] _ _) _) _ _ _); k_dflt (refine' Mine.found_comp ?hc ?R ?sub ?n6 ?n7 ?n8 ?n3 ?n5 ?dm ?d3 ?d5 ?hr1 ?hr2 ?pos ?le ?B ?F ?X ?N ?T ?hd ?hu ?_; (case hc => exact rfl); (case B => k_asm); (case F => k_asm); (case X => k_asm); (case N => k_asm); (case T => k_asm); (case R => assumption); (case sub => (repeat (first | with_reducible assumption | refine' Mine.sub_cons ?_))); (case n6 => k_mem); (case n7 => k_mem); (case n8 => k_mem); (case n3 => k_mem); (case n5 => k_mem); (case dm => assumption); (case d3 => assumption); (case d5 => assumption); (case hr1 => omega); (case hr2 => omega); (case pos => assumption); (case le => assumption); (case hd => omega); (case hu => omega)); intro D' ys' h' tk' F' N' o1 hB; (try simp only [LCg.Off1, and_true] at o1)))
local macro_rules | `(tactic| walk_at "eval ListComp") => `(tactic| (k_here; (with_reducible show wpAny _ _ (eval (Expr.ListComp _ [⟨_, _, [_], _⟩] _ _) _) _ _ _); k_dflt (refine' Mine.home_comp ?hc ?n7 ?n4 ?n8 ?dm ?d4 ?hf ?pos ?le ?B ?F ?X ?N ?T ?hd ?hu ?_; (case hc => exact rfl); (case B => k_asm); (case F => k_asm); (case X => k_asm); (case N => k_asm); (case T => k_asm); (case hf => assumption); (case n7 => k_mem); (case n8 => k_mem); (case n4 => k_mem); (case dm => assumption); (case d4 => assumption); (case pos => assumption); (case le => assumption); (case hd => omega); (case hu => omega)); intro D' ys' h' tk' F' N' o1 hlen hz200; (try simp only [LCg.Off1, and_true] at o1)))
local macro_rules | `(tactic| walk_at "call builtin:len") => `(tactic| (k_here; k_dflt (first | (refine' Mine.len_row ?N ?m ?z ?_; (case N => k_asm); (case m => k_mem); (case z => omega)) | (refine' Mine.len_setrow ?N ?lt ?hs ?z ?_; (case N => k_asm); (case lt => assumption); (case hs => assumption); (case z => omega))); intro t' tk'))
local macro_rules | `(tactic| walk_at "call type:set cons nil") => `(tactic| (k_here; k_dflt (refine' Mine.set_N ?hh ?F ?N ?hm ?hB ?hr ?hl ?_; (case hh => exact rfl); (case F => k_asm); (case N => k_asm); (case hm => k_mem); (case hB => assumption); (case hr => assumption); (case hl => assumption)); intro S' h' tk' o' F' N' hltS hsoS; (have hltS2 := hltS); (try k_lt hltS2)))
set_option maxHeartbeats 4000000 in
theorem round_turn {w : World} {loose : List Str} {mean : ExcName → Option Value} {mg mb : Str → Option Value} {A₀ : Around} {base h₀ : Heap} {outer : List Env} {hs tl : List (Addr × Obj)} {s : Shared} {L fa : Addr} {m : Str → Option Value}
    {dp un : Nat} {gd : Option (List Code)} {Q : Flow → Shared → Prop} {E : Value → Shared → Prop} {x ll dl hl ul : Addr} {ocm ocl oNumber oFound oRounds oUnlike oHome oRow oDraw : Obj} {tm t : Tok} {vs ds : List Value} {ns : List Int} {mm r : Int} {ha ua : Array Value} {nh nu : Nat} {v6 v7 : Option Value}
    {tg : PySem.Expr} {body : List Stmt} {scope : Scope} (hc : roundBody = some (tg, body, scope))
    (R : RowIs w x ll (L + 1 + 1 + 1 + 1 + 1 + 1 + 1 + 1 + 1) (L + 1 + 1 + 1 + 1 + 1 + 1 + 1 + 1 + 1 + 1) ocl ocm vs ns mm tm hs) (hsub : ∀ p ∈ hs, p ∈ tl)
    (B : Below A₀ base outer h₀) (F : Fr h₀ L s.heap m) (X : (K w.params).In h₀) (T : Top topProg loose mean mg mb h₀)
    (N : News h₀ L s.heap ((ul, W.listOf ua nu) :: (hl, W.listOf ha nh) :: (ll, LCg.lst vs) :: (dl, LCg.lst ds) :: Cells L ocm ocl oNumber oFound oRounds oUnlike oHome oRow oDraw tl))
    (dm : ocm.data = .cell (some (.int mm tm))) (d3 : oRow.data = .cell (some (.ref x))) (d4 : oHome.data = .cell (some (.ref hl))) (d5 : oUnlike.data = .cell (some (.ref ul))) (d6 : oRounds.data = .cell v6) (d7 : oFound.data = .cell v7)
    (q1 : L + 10 < hl) (q2 : hl < ul) (q3 : Off L ll) (q4 : Off L dl) (q5 : ll < hl) (q6 : dl < hl)
    (t6 : ∀ p ∈ tl, p.1 ≠ L + 1 + 1 + 1 + 1 + 1 + 1) (t7 : ∀ p ∈ tl, p.1 ≠ L + 1 + 1 + 1 + 1 + 1 + 1 + 1) (t8 : ∀ p ∈ tl, p.1 ≠ hl) (t9 : ∀ p ∈ tl, p.1 ≠ ul)
    (hr1 : 1 ≤ r) (hr2 : r ≤ 1000) (pos' : 0 < mm) (le : mm ≤ 200) (hz1 : ha.size ≤ sizeLine) (hz2 : ua.size ≤ sizeLine) (hpl : (points ns mm r.toNat mm.toNat).length + 1 < scanBound) (hpr : ∀ k ∈ points ns mm r.toNat mm.toNat, 0 ≤ k ∧ k < 256) (hul : (unl (points ns mm r.toNat mm.toNat)).length ≤ 200)
    (hd : dp + 20 < recursionLimit) (hu : un + 60 < cLine)
    (h : ∀ oFound' oRounds' v6' v7' t1 t2 h' tk', Fr h₀ L h' m →
      News h₀ L h' ((ul, W.listOf (ua.push (.int ((unl (points ns mm r.toNat mm.toNat)).length : Nat) t1)) (nu + 1)) :: (hl, W.listOf (ha.push (.int ((homePts ns mm r.toNat mm.toNat).length : Nat) t2)) (nh + 1)) :: (ll, LCg.lst vs) :: (dl, LCg.lst ds) :: Cells L ocm ocl oNumber oFound' oRounds' oUnlike oHome oRow oDraw tl) →
      oRounds'.data = .cell v6' → oFound'.data = .cell v7' → Q .next { s with heap := h', toks := tk' }) :
    wpAny (model P0 w) ⟨none, dp, some (envOfC "law" scope L fa (.ref 301) :: outer), gd, un⟩ (assign tg (envOfC "law" scope L fa (.ref 301)) (.int r t)) (fun _ s₃ => wpAny (model P0 w) ⟨none, dp, some (envOfC "law" scope L fa (.ref 301) :: outer), gd, un⟩ (execs body (envOfC "law" scope L fa (.ref 301))) Q E s₃) E s := by
  cases hc
  dsimp only [Cells] at N
  have b3 := off_lt q3
  have b4 := off_lt q4
  replace q1 := ltN q1
  replace q2 := ltN q2
  replace q5 := ltN q5
  replace q6 := ltN q6
  (try k_fold)
  k_steps
  rename News _ _ _ _ => N3
  rename Fr _ _ _ _ => F3
  rename _ = (homePts _ _ _ _).length => e3
  rw [e3] at N3
  dsimp only [Cells] at h
  exact h _ _ _ _ _ _ _ _ F3 (fun p hp => N3 p (.tail _ (.tail _ (.tail _ hp)))) (by assumption) (by assumption)
end Mine
end

section
set_option maxRecDepth 100000
namespace Mine
open PySem PySem.W PySem.Spec PySem.Calls PyProof.Rows
theorem fillRL : (K = K ∧ PySem.Challenge.rw_at5024_01 = PySem.Challenge.rw_at5024_01) := by
  w_top off
  k_fill
  exact ⟨rfl, rfl⟩
def homes (ns : List Int) (mm : Int) (k : Nat) : List Int := (List.range k).map fun i => (((homePts ns mm (i + 1) mm.toNat).length : Nat) : Int)
def unlikes (ns : List Int) (mm : Int) (k : Nat) : List Int := mm :: (List.range k).map fun i => (((unl (points ns mm (i + 1) mm.toNat)).length : Nat) : Int)
theorem homes_succ (ns : List Int) (mm : Int) (k : Nat) : homes ns mm (k + 1) = homes ns mm k ++ [(((homePts ns mm (k + 1) mm.toNat).length : Nat) : Int)] := by
  simp [homes, List.range_succ]
theorem unlikes_succ (ns : List Int) (mm : Int) (k : Nat) : unlikes ns mm (k + 1) = unlikes ns mm k ++ [(((unl (points ns mm (k + 1) mm.toNat)).length : Nat) : Int)] := by
  simp [unlikes, List.range_succ]
theorem stp_range {ns : List Int} {mm : Int} (pos : 0 < mm) (len : (ns.length : Int) = mm) (lt : ∀ x ∈ ns, 0 ≤ x ∧ x < mm) (x : Int) : 0 ≤ stp ns mm x ∧ stp ns mm x < mm := by
  unfold stp
  have h1 := Int.fmod_nonneg_of_pos x pos
  have h2 := Int.fmod_lt_of_pos x pos
  have hk : (x.fmod mm).toNat < ns.length := by omega
  rw [List.getD_eq_getElem?_getD, List.getElem?_eq_getElem hk, Option.getD_some]
  exact lt _ (List.getElem_mem hk)
theorem turns_range {ns : List Int} {mm : Int} (pos : 0 < mm) (len : (ns.length : Int) = mm) (lt : ∀ x ∈ ns, 0 ≤ x ∧ x < mm) {x : Int} (hx : 0 ≤ x ∧ x < mm) : ∀ k, 0 ≤ turns ns mm k x ∧ turns ns mm k x < mm
  | 0 => hx
  | _ + 1 => stp_range pos len lt _
theorem points_range {ns : List Int} {mm : Int} (pos : 0 < mm) (len : (ns.length : Int) = mm) (lt : ∀ x ∈ ns, 0 ≤ x ∧ x < mm) (r : Nat) : ∀ k ∈ points ns mm r mm.toNat, 0 ≤ k ∧ k < mm := by
  intro k hk
  obtain ⟨i, hi, rfl⟩ := List.mem_map.mp hk
  have := List.mem_range.mp hi
  exact turns_range pos len lt (by omega) r
theorem points_length (ns : List Int) (mm : Int) (r n : Nat) : (points ns mm r n).length = n := by simp [points]
def lawCircles : Option (List Stmt × Scope) := match PySem.Challenge.pw_at5024_01.main.body.getLast? with
  | some (.FunctionDef _ _ (_ :: _ :: _ :: _ :: _ :: _ :: rest) _ _ _ sc _ _ _) => some (rest, sc)
  | _ => none
theorem lawCircles_some : ∃ a b, lawCircles = some (a, b) := ⟨_, _, rfl⟩
local macro_rules | `(tactic| k_room) => `(tactic| ((try simp only [depth_mark, depth_under_make, depth_under_kw, depth_in1, depth_deeper, depth_caller]); (try dsimp only); omega))
local macro_rules | `(tactic| k_all) => `(tactic| assumption)
local macro_rules | `(tactic| walk_at "exec For Name Call cons nil") => `(tactic| (k_here; (rename Fr _ _ _ _ => lF'); (with_unfolding_all refine' For_turns lF' ?_ (hE := by assumption))))
local macro_rules | `(tactic| walk_at "pyIter ref") => `(tactic| (k_here; (with_reducible show wpAny _ _ (pyIter (Value.ref _)) (fun it s₂ => TurnsAt _ _ _ _ _ _ _ _ _ it s₂) _ _); k_dflt (refine Mine.stop_here ?_)))
theorem ne_allLt {d : Addr} : ∀ {l : List (Addr × Obj)}, AllLt d l → ∀ p ∈ l, p.1 ≠ d
  | [], _, _, h => nomatch h
  | _ :: _, x, p, h => by
    rcases List.mem_cons.mp h with rfl | h
    · exact Nat.ne_of_lt x.1
    · exact ne_allLt x.2 p h
/-- what the rounds' loop keeps -/
def RoundsJ (w : World) (L ll dl hl ul : Addr) (ocm ocl oNumber oUnlike oHome oRow oDraw : Obj) (vs ds : List Value) (ns : List Int) (mm : Int) (hs : List (Addr × Obj)) (m : Str → Option Value) (i : Nat) (m' : Str → Option Value) (nx : List (Addr × Obj)) : Prop :=
  m' = m ∧ ∃ ha ua nh nu oFound oRounds v6 v7, nx = (ul, W.listOf ua nu) :: (hl, W.listOf ha nh) :: (ll, LCg.lst vs) :: (dl, LCg.lst ds) :: Cells L ocm ocl oNumber oFound oRounds oUnlike oHome oRow oDraw hs ∧
    IntsAre ha.toList (homes ns mm i) ∧ IntsAre ua.toList (unlikes ns mm i) ∧ oRounds.data = .cell v6 ∧ oFound.data = .cell v7
theorem snoc_ints {a : Array Value} {ks : List Int} {k : Int} {t : Tok} (h : IntsAre a.toList ks) : IntsAre (a.push (.int k t)).toList (ks ++ [k]) := by
  rw [Array.toList_push]
  exact h.append (.cons k t .nil)
theorem ints_size {a : Array Value} {ks : List Int} (h : IntsAre a.toList ks) : a.size = ks.length := by
  rw [← Array.length_toList]; exact h.length
theorem cells_append {L : Addr} {ocm ocl oNumber oFound oRounds oUnlike oHome oRow oDraw : Obj} {hs own : List (Addr × Obj)} :
    Cells L ocm ocl oNumber oFound oRounds oUnlike oHome oRow oDraw hs ++ own = Cells L ocm ocl oNumber oFound oRounds oUnlike oHome oRow oDraw (hs ++ own) := rfl
theorem rounds_loop {w : World} {loose : List Str} {mean : ExcName → Option Value} {mg mb : Str → Option Value} {dp un : Nat} {gd : Option (List Code)} {A₀ : Around} {base h₀ : Heap} {outer : List Env} {s : Shared} {Q : Flow → Shared → Prop} {E : Value → Shared → Prop}
    {L fa dl ll x hl ul r : Addr} {m : Str → Option Value} {oDraw oRow oHome oUnlike oRounds oFound oNumber ocl ocm : Obj} {hs : List (Addr × Obj)} {ds vs : List Value} {ns : List Int} {mm : Int} {tm t₀ u₀ v₀ : Tok} {ha ua : Array Value} {nh nu : Nat} {v6 v7 : Option Value}
    {tg : PySem.Expr} {body : List Stmt} {scope : Scope} (hc : roundBody = some (tg, body, scope)) (htg : ∀ it v, letOwnedTupleGo tg it v = pure ()) (hrg : IsRange s.heap r 1 9 1 t₀ u₀ v₀)
    (R : RowIs w x ll (L + 1 + 1 + 1 + 1 + 1 + 1 + 1 + 1 + 1) (L + 1 + 1 + 1 + 1 + 1 + 1 + 1 + 1 + 1 + 1) ocl ocm vs ns mm tm hs) (hO : ∀ p ∈ hs, Off L p.1)
    (B : Below A₀ base outer h₀) (F : Fr h₀ L s.heap m) (X : (K w.params).In h₀) (T : Top topProg loose mean mg mb h₀)
    (N : News h₀ L s.heap ((ul, W.listOf ua nu) :: (hl, W.listOf ha nh) :: (ll, LCg.lst vs) :: (dl, LCg.lst ds) :: Cells L ocm ocl oNumber oFound oRounds oUnlike oHome oRow oDraw hs))
    (dm : ocm.data = .cell (some (.int mm tm))) (d3 : oRow.data = .cell (some (.ref x))) (d4 : oHome.data = .cell (some (.ref hl))) (d5 : oUnlike.data = .cell (some (.ref ul))) (d6 : oRounds.data = .cell v6) (d7 : oFound.data = .cell v7)
    (hha : IntsAre ha.toList (homes ns mm 0)) (hua : IntsAre ua.toList (unlikes ns mm 0))
    (q1 : L + 10 < hl) (q2 : hl < ul) (a1 : Off L ll) (a2 : Off L dl) (q5 : ll < hl) (q6 : dl < hl) (t8 : ∀ p ∈ hs, p.1 ≠ hl) (t9 : ∀ p ∈ hs, p.1 ≠ ul)
    (pos' : 0 < mm) (le : mm ≤ 200) (len : (ns.length : Int) = mm) (lt : ∀ x ∈ ns, 0 ≤ x ∧ x < mm) (hd : dp + 20 < recursionLimit) (hu : un + 60 < cLine)
    (done : ∀ m₁ nx h tk, RoundsJ w L ll dl hl ul ocm ocl oNumber oUnlike oHome oRow oDraw vs ds ns mm hs m 8 m₁ nx → Fr h₀ L h m₁ → News h₀ L h nx → Q .next { s with heap := h, toks := tk }) :
    wpAny (model P0 w) ⟨none, dp, some (envOfC "law" scope L fa (.ref 301) :: outer), gd, un⟩ (pyIter (.ref r)) (fun it s₂ => TurnsAt P0 w ⟨none, dp, some (envOfC "law" scope L fa (.ref 301) :: outer), gd, un⟩ h₀ (envOfC "law" scope L fa (.ref 301)) tg body Q E it s₂) E s := by
  refine for_range (n := 8) (RoundsJ w L ll dl hl ul ocm ocl oNumber oUnlike oHome oRow oDraw vs ds ns mm hs m) rfl hrg rfl rfl F N ⟨rfl, ha, ua, nh, nu, oFound, oRounds, v6, v7, rfl, hha, hua, d6, d7⟩ htg ?_ (fun m₁ nx h tk hJ _ F' N' => done m₁ nx h tk hJ F' N')
  rintro i t m₁ nx h tk own hi ⟨rfl, ha', ua', nh', nu', oF, oR, v6', v7', rfl, hh1, hh2, e6, e7⟩ _ hoff F' N'
  have em : (1 + (i : Int)).toNat = i + 1 := by omega
  have hpl : (points ns mm (i + 1) mm.toNat).length = mm.toNat := points_length _ _ _ _
  have N2 : News h₀ L h ((ul, W.listOf ua' nu') :: (hl, W.listOf ha' nh') :: (ll, LCg.lst vs) :: (dl, LCg.lst ds) :: Cells L ocm ocl oNumber oF oR oUnlike oHome oRow oDraw (hs ++ own)) := N'
  have mem : ∀ {a : Addr} {o : Obj}, (a, o) ∈ ((ul, W.listOf ua nu) :: (hl, W.listOf ha nh) :: (ll, LCg.lst vs) :: (dl, LCg.lst ds) :: Cells L ocm ocl oNumber oFound oRounds oUnlike oHome oRow oDraw hs) → (∀ p ∈ hs, p.1 ≠ a) → ∀ p ∈ hs ++ own, p.1 ≠ a := fun ho hh p hp =>
    (List.mem_append.mp hp).elim (hh p) fun hq => hoff p hq _ ho
  have offc : ∀ p ∈ hs, p.1 ≠ L + 1 + 1 + 1 + 1 + 1 + 1 ∧ p.1 ≠ L + 1 + 1 + 1 + 1 + 1 + 1 + 1 := fun p hp => by
    have := off_lt (hO p hp)
    exact ⟨neN (by omega), neN (by omega)⟩
  refine round_turn (tl := hs ++ own) hc R (fun p hp => List.mem_append_left _ hp) B F' X T N2 dm d3 d4 d5 e6 e7 q1 q2 a1 a2 q5 q6 (mem (by k_mem) fun p hp => (offc p hp).1) (mem (by k_mem) fun p hp => (offc p hp).2) (mem (by k_mem) t8) (mem (by k_mem) t9)
    (by omega) (by omega) pos' le ?_ ?_ ?_ ?_ ?_ hd hu ?_
  · rw [ints_size hh1]; simp only [homes, List.length_map, List.length_range]; exact Nat.le_trans (Nat.le_of_lt hi) (by decide)
  · rw [ints_size hh2]; simp only [unlikes, List.length_cons, List.length_map, List.length_range]; exact Nat.le_trans (Nat.succ_le_succ (Nat.le_of_lt hi)) (by decide)
  · rw [em, hpl]; unfold scanBound; omega
  · rw [em]; intro k hk; have := points_range pos' len lt (i + 1) k hk; omega
  · rw [em]; exact Nat.le_trans (unl_len_le _) (by omega)
  · intro oF' oR' v6'' v7'' t1 t2 h' tk' F3 N3 e6' e7'
    rw [em] at N3
    refine TurnEnd.next (nx := (ul, W.listOf (ua'.push (.int ((unl (points ns mm (i + 1) mm.toNat)).length : Nat) t1)) (nu' + 1)) :: (hl, W.listOf (ha'.push (.int ((homePts ns mm (i + 1) mm.toNat).length : Nat) t2)) (nh' + 1)) :: (ll, LCg.lst vs) :: (dl, LCg.lst ds) :: Cells L ocm ocl oNumber oF' oR' oUnlike oHome oRow oDraw hs) F3 N3 (fun p hp => ?_) (fun p hp => ?_) rfl ⟨rfl, _, _, _, _, oF', oR', v6'', v7'', rfl, ?_, ?_, e6', e7'⟩
    · exact List.mem_append_right ((ul, _) :: (hl, _) :: (ll, _) :: (dl, _) :: Cells L ocm ocl oNumber oF' oR' oUnlike oHome oRow oDraw hs) hp
    · exact List.mem_append_left own hp
    · rw [homes_succ]; exact snoc_ints hh1
    · rw [unlikes_succ]; exact snoc_ints hh2
set_option maxHeartbeats 4000000 in
theorem law_home {w : World} {loose : List Str} {mean : ExcName → Option Value} {mg mb : Str → Option Value} {dp un : Nat} {gd : Option (List Code)} {A₀ : Around} {base h₀ : Heap} {outer : List Env} {s : Shared} {Q : Flow → Shared → Prop} {E : Value → Shared → Prop}
    {L fa dl ll x : Addr} {m : Str → Option Value} {oDraw oRow oHome oUnlike oRounds oFound oNumber ocl ocm : Obj} {hs : List (Addr × Obj)} {ds vs : List Value} {ns : List Int} {mm : Int} {tm : Tok}
    {body rest : List Stmt} {scope : Scope} (hb : lawHome = some (body, scope)) (hr : lawCircles = some (rest, scope))
    (R : RowIs w x ll (L + 1 + 1 + 1 + 1 + 1 + 1 + 1 + 1 + 1) (L + 1 + 1 + 1 + 1 + 1 + 1 + 1 + 1 + 1 + 1) ocl ocm vs ns mm tm hs) (hO : ∀ p ∈ hs, Off L p.1)
    (B : Below A₀ base outer h₀) (F : Fr h₀ L s.heap m) (X : (K w.params).In h₀) (T : Top topProg loose mean mg mb h₀)
    (N : News h₀ L s.heap ((ll, LCg.lst vs) :: (dl, LCg.lst ds) :: Cells L ocm ocl oNumber oFound oRounds oUnlike oHome oRow oDraw hs))
    (dm : ocm.data = .cell (some (.int mm tm))) (dl' : ocl.data = .cell (some (.ref ll))) (d3 : oRow.data = .cell (some (.ref x))) (d4 : oHome.data = .cell none) (d5 : oUnlike.data = .cell none) (d6 : oRounds.data = .cell none) (d7 : oFound.data = .cell none)
    (a1 : Off L ll) (a2 : Off L dl) (pos' : 0 < mm) (le : mm ≤ 200) (len : (ns.length : Int) = mm) (lt : ∀ x ∈ ns, 0 ≤ x ∧ x < mm) (hd : dp + 20 < recursionLimit) (hu : un + 60 < cLine) (hE : PassesOwn (model P0 w) ⟨none, dp, some (envOfC "law" scope L fa (.ref 301) :: outer), gd, un⟩ (envOfC "law" scope L fa (.ref 301)) E)
    (h : ∀ hl ul ha ua nh nu oHome' oUnlike' oRounds' oFound' v6 v7 h' tk', Fr h₀ L h' m → News h₀ L h' ((ul, W.listOf ua nu) :: (hl, W.listOf ha nh) :: (ll, LCg.lst vs) :: (dl, LCg.lst ds) :: Cells L ocm ocl oNumber oFound' oRounds' oUnlike' oHome' oRow oDraw hs) →
      oHome'.data = .cell (some (.ref hl)) → oUnlike'.data = .cell (some (.ref ul)) → oRounds'.data = .cell v6 → oFound'.data = .cell v7 → IntsAre ha.toList (homes ns mm 8) → IntsAre ua.toList (unlikes ns mm 8) → Off L hl → Off L ul →
      wpAny (model P0 w) ⟨none, dp, some (envOfC "law" scope L fa (.ref 301) :: outer), gd, un⟩ (execs rest (envOfC "law" scope L fa (.ref 301))) Q E { s with heap := h', toks := tk' }) :
    wpAny (model P0 w) ⟨none, dp, some (envOfC "law" scope L fa (.ref 301) :: outer), gd, un⟩ (execs body (envOfC "law" scope L fa (.ref 301))) Q E s := by
  cases hb
  cases hr
  dsimp only [Cells] at N
  have b3 := off_lt a1
  have b4 := off_lt a2
  have t4 : ∀ p ∈ hs, p.1 ≠ L + 1 + 1 + 1 + 1 := fun p hp => by have := off_lt (hO p hp); refine neN ?_; omega
  have t5 : ∀ p ∈ hs, p.1 ≠ L + 1 + 1 + 1 + 1 + 1 := fun p hp => by have := off_lt (hO p hp); refine neN ?_; omega
  (try k_fold)
  k_steps
  refine go_on ?_
  rename IsRange _ _ _ _ _ _ _ _ => hr'
  rename Fr _ _ _ _ => F1
  rename News _ _ _ _ => N1
  repeat (rename _ ∧ _ => hc; obtain ⟨_, _⟩ := hc)
  refine rounds_loop (x := x) rfl (fun _ _ => rfl) hr' R hO B F1 X T (fun p hp => N1 p (.tail _ hp)) dm d3 (by assumption) (by assumption) d6 d7 .nil (.cons mm tm .nil) (by omega) (by assumption) a1 a2 (by assumption) (by assumption) (ne_allLt (by assumption)) (ne_allLt (by assumption)) pos' le len lt hd hu ?_
  rintro m₁ nx h' tk' ⟨rfl, ha, ua, nh, nu, oF, oR, v6, v7, rfl, hh1, hh2, e6, e7⟩ F3 N3
  exact h _ _ ha ua nh nu _ _ oR oF v6 v7 h' tk' F3 N3 (by assumption) (by assumption) e6 e7 hh1 hh2 (by dsimp only [Off]; omega) (by dsimp only [Off]; omega)
end Mine
end

section
set_option maxRecDepth 100000
namespace Mine
open PySem PySem.W PySem.Spec PySem.Calls PyProof.Rows
theorem fillLC : (K = K ∧ PySem.Challenge.rw_at5024_01 = PySem.Challenge.rw_at5024_01) := by
  w_top off
  k_fill
  exact ⟨rfl, rfl⟩
/-- how long the circle is that a point stands on; nought where it stands on none -/
def CircIs (ns : List Int) (mm p : Int) (n : Nat) (c : Int) : Prop :=
  (c = 0 ∧ ∀ j : Nat, 1 ≤ j → j ≤ n → turns ns mm j p ≠ p) ∨ (∃ k : Nat, c = (k : Int) ∧ 1 ≤ k ∧ k ≤ n ∧ turns ns mm k p = p ∧ ∀ j : Nat, 1 ≤ j → j < k → turns ns mm j p ≠ p)
/-- the frame's names in the loop -/
def circM (u M : Str → Option Value) (v : Value) : Str → Option Value := fun z => if z = "step" then u z else if z = "at" then some v else M z
def circB (ll : Addr) (p : Int) (tp : Tok) : Str → Option Value := fun z => List.lookup z [("point", Value.int p tp), ("leads", Value.ref ll)]
def circJ (ns : List Int) (mm p : Int) (M : Str → Option Value) (rows : List (Addr × Obj)) (i : Nat) (m' : Str → Option Value) (nx : List (Addr × Obj)) : Prop :=
  nx = rows ∧ (∃ u t, m' = circM u M (.int (turns ns mm i p) t)) ∧ ∀ j : Nat, 1 ≤ j → j ≤ i → turns ns mm j p ≠ p
theorem stp_in {ns : List Int} {mm x : Int} (h : 0 ≤ x ∧ x < mm) : stp ns mm x = ns.getD x.toNat 0 := by
  unfold stp
  have : x.fmod mm = x := by
    rw [Int.fmod_eq_emod_of_nonneg _ (by omega)]
    exact Int.emod_eq_of_lt h.1 h.2
  rw [this]
theorem row_at {vs : List Value} {ns : List Int} {mm x : Int} (hi : IntsAre vs ns) (len : (ns.length : Int) = mm) (h : 0 ≤ x ∧ x < mm) : ∃ t, vs[x.toNat]? = some (.int (stp ns mm x) t) := by
  have hk : x.toNat < ns.length := by omega
  refine hi.get _ _ ?_
  rw [stp_in h, List.getD_eq_getElem?_getD, List.getElem?_eq_getElem hk, Option.getD_some]
local macro_rules | `(tactic| k_room) => `(tactic| ((try simp only [depth_mark, depth_under_make, depth_under_kw, depth_in1, depth_deeper, depth_caller]); (try dsimp only); omega))
local macro_rules | `(tactic| walk_at "call builtin:len") => `(tactic| (k_here; k_dflt (refine' Mine.len_row ?N ?m ?z ?_; (case N => k_asm); (case m => k_mem); (case z => omega)); intro t' tk'))
local macro_rules | `(tactic| walk_at "subscriptTail") => `(tactic| (k_here; k_dflt (refine' Mine.item_row ?N ?m ?h0 ?hh ?hx ?_ ?k6; (case N => k_asm); (case m => k_mem); (case h0 => omega); (case hh => omega); (case hx => assumption); (case k6 => with_unfolding_all rfl))))
local macro_rules | `(tactic| walk_at "exec For Name Call cons nil") => `(tactic| (k_here; (rename Fr _ _ _ _ => lF'); (with_unfolding_all refine' For_turns lF' ?_ (hE := PassesOwn.never))))
local macro_rules | `(tactic| walk_at "pyIter ref") => `(tactic| (k_here; (with_reducible show wpAny _ _ (pyIter (Value.ref _)) (fun it s₂ => TurnsAt _ _ _ _ _ _ _ _ _ it s₂) _ _); k_dflt (refine Mine.stop_here ?_)))
set_option maxHeartbeats 4000000 in
theorem c297 {w : World} {loose : List Str} {mean : ExcName → Option Value} {mg mb : Str → Option Value} {dp un : Nat} {gd : Option (List Code)} {base g : Heap} {outer : List Env} {s : Shared} {Q E : Value → Shared → Prop}
    {ll : Addr} {vs : List Value} {ns : List Int} {mm p : Int} {tp : Tok} (hi : IntsAre vs ns) (pos' : 0 < mm) (le : mm ≤ 200) (len : (ns.length : Int) = mm) (lt : ∀ x ∈ ns, 0 ≤ x ∧ x < mm) (hp : 0 ≤ p ∧ p < mm)
    (G : Gh w loose mean mg mb ⟨none, dp, some outer, gd, un⟩ base outer g [(ll, LCg.lst vs)] s.heap) (hd : dp + 3 < recursionLimit)
    (ret : ∀ c t h' tk', (∀ b o, g.get? b = some o → h'.get? b = some o) → h'.get? ll = some (LCg.lst vs) → CircIs ns mm p mm.toNat c → Q (.int c t) { s with heap := h', toks := tk' }) :
    wpAny (model P0 w) ⟨none, dp, some outer, gd, un⟩ (call (.ref 297) [.ref ll, .int p tp]) Q E s := by
  have hvl : vs.length = ns.length := hi.length
  have XS : (K w.params).In s.heap := G.X.keeps G.sub
  refine wpAny_call ?_
  refine' gh_enter G ?ho ?hcd ?hroom ?hbind ?hloc ?h ?c1 ?c2 ?c3 ?c4
  (case ho => k_is)
  (case hcd => k_is)
  (case hroom => exact (by omega : dp < recursionLimit))
  (case hbind => first | exact BindsTo.of_eq rfl | exact binds_K XS rfl (by k_is) rfl rfl rfl)
  (case hloc => exact locs rfl)
  (case c1 => exact rfl)
  (case c2 => exact rfl)
  (case c3 => exact rfl)
  (case c4 => decide)
  intro L' h₁ F N B X T
  have hrow : ∀ x, 0 ≤ x ∧ x < mm → ∃ t, vs[x.toNat]? = some (.int (stp ns mm x) t) := fun x hx => row_at hi len hx
  have htr : ∀ k, 0 ≤ turns ns mm k p ∧ turns ns mm k p < mm := turns_range pos' len lt hp
  change Fr g L' h₁ (circB ll p tp) at F
  (try k_fold)
  k_steps
  refine go_on ?_
  rename IsRange _ _ _ _ _ _ _ _ => hr'
  rename Fr _ _ _ _ => F1
  rename News _ _ _ _ => N1
  refine for_range (n := mm.toNat) (circJ ns mm p (circB ll p tp) [(ll, LCg.lst vs)]) rfl hr' (range_small (by omega) (by omega) (by decide)) ((range_size (by omega)).trans (by omega)) F1 N1 ?_ (fun _ _ => rfl) ?_ ?_
  · refine ⟨rfl, ⟨circB ll p tp, tp, ?_⟩, fun j h1 h2 => absurd h1 (by omega)⟩
    funext z
    unfold circM
    by_cases h1 : z = "at"
    · subst h1; rfl
    · rw [if_neg h1]
      by_cases h2 : z = "step"
      · rw [if_pos h2]
      · rw [if_neg h2, if_neg h1]
  · rintro i t m₁ nx h tk own hi' ⟨rfl, ⟨u, ta, rfl⟩, hne⟩ _ hoff F' N'
    obtain ⟨tv, hx⟩ := hrow _ (htr i)
    have hb := htr i
    clear F1 N1
    change News g L' h ((ll, LCg.lst vs) :: own) at N'
    change Fr g L' h (fun z => if z = "step" then u z else if z = "at" then some (.int (turns ns mm i p) ta) else circB ll p tp z) at F'
    (try k_fold)
    k_steps
    · rename News _ _ _ _ => N3
      rename Fr _ _ _ _ => F3
      rename _ = p => he
      have he2 : turns ns mm (i + 1) p = p := (stp_in hb).trans he
      refine ret _ _ _ _ F3.keep (N3 _ (.head _)).1 (.inr ⟨i + 1, by omega, by omega, by omega, he2, fun j h1 h2 => hne j h1 (by omega)⟩)
    · rename News _ _ _ _ => N3
      rename Fr _ _ _ _ => F3
      rename _ ≠ p => he
      have he2 : turns ns mm (i + 1) p ≠ p := fun q => he ((stp_in hb).symm.trans q)
      refine TurnEnd.next (nx := [(ll, LCg.lst vs)]) F3 N3 (fun q hq => .tail _ hq) (fun q hq => by rw [List.mem_singleton.mp hq]; exact .head _) rfl ⟨rfl, ⟨fun _ => some (.int (1 + (i : Int)) t), ?tok, ?eq⟩, fun j h1 h2 => ?rest⟩
      case eq =>
        funext z
        unfold circM
        show _ = if z = "step" then some (.int (1 + (i : Int)) t) else if z = "at" then some (.int (stp ns mm (turns ns mm i p)) _) else circB ll p tp z
        rw [stp_in hb]
        by_cases h1 : z = "at"
        · subst h1; rfl
        · rw [if_neg h1, if_neg h1]
          by_cases h2 : z = "step"
          · rw [if_pos h2, if_pos h2]
          · rw [if_neg h2, if_neg h2, if_neg h2, if_neg h1]
      case rest =>
        by_cases h3 : j = i + 1
        · rw [h3]; exact he2
        · exact hne j h1 (by omega)
  · rintro m₁ nx h tk ⟨rfl, ⟨u, ta, rfl⟩, hne⟩ _ F' N'
    clear F1 N1
    show wpAny _ _ _ _ _ _
    (try k_fold)
    k_steps
    rename News _ _ _ _ => N3
    rename Fr _ _ _ _ => F3
    exact ret _ _ _ _ F3.keep (N3 _ (.head _)).1 (.inl ⟨rfl, hne⟩)
end Mine
end

section
set_option maxRecDepth 100000
namespace Mine
open PySem PySem.W PySem.Spec PySem.Calls PyProof.Rows
theorem fillLD : (K = K ∧ PySem.Challenge.rw_at5024_01 = PySem.Challenge.rw_at5024_01) := by
  w_top off
  k_fill
  exact ⟨rfl, rfl⟩
theorem circle_N {w : World} {loose : List Str} {mean : ExcName → Option Value} {mg mb : Str → Option Value} {A₀ : Around} {base h₀ : Heap} {outer : List Env} {news : List (Addr × Obj)} {s : Shared} {L : Addr} {m : Str → Option Value} {env : Env}
    {dp un : Nat} {gd : Option (List Code)} {Q E : Value → Shared → Prop} {ll : Addr} {vs : List Value} {ns : List Int} {mm p : Int} {tp : Tok} (hi : IntsAre vs ns) (pos' : 0 < mm) (le : mm ≤ 200) (len : (ns.length : Int) = mm) (lt : ∀ x ∈ ns, 0 ≤ x ∧ x < mm) (hp : 0 ≤ p ∧ p < mm)
    (B : Below A₀ base outer h₀) (F : Fr h₀ L s.heap m) (X : (K w.params).In h₀) (N : News h₀ L s.heap news) (T : Top topProg loose mean mg mb h₀) (hf : env.frame = some L) (hke : env.scope.kind = .function) (n8 : (ll, LCg.lst vs) ∈ news) (hd : dp + 3 < recursionLimit)
    (h : ∀ c t h' tk', Fr h₀ L h' m → News h₀ L h' news → CircIs ns mm p mm.toNat c → Q (.int c t) { s with heap := h', toks := tk' }) :
    wpAny (model P0 w) ⟨none, dp, some (env :: outer), gd, un⟩ (call (.ref 297) [.ref ll, .int p tp]) Q E s := by
  obtain ⟨G, back⟩ := gh_of (A := ⟨none, dp, some (env :: outer), gd, un⟩) (rows := [(ll, LCg.lst vs)]) B F X N T rfl hf hke (fun p hp => by rw [List.mem_singleton.mp hp]; exact n8)
  refine c297 hi pos' le len lt hp G hd fun c t h' tk' hk ho hc => ?_
  obtain ⟨F', N'⟩ := back h' hk fun p hp => by rw [List.mem_singleton.mp hp]; exact ho
  exact h c t h' tk' F' N' hc
/-- the circles' lengths, point by point -/
def Circs (ns : List Int) (mm : Int) (cs : List Int) (n : Nat) : Prop := cs.length = n ∧ ∀ (i : Nat) (c : Int), cs[i]? = some c → CircIs ns mm (i : Int) mm.toNat c
theorem circs_snoc {ns : List Int} {mm c : Int} {cs : List Int} {n : Nat} (h : Circs ns mm cs n) (hc : CircIs ns mm (n : Int) mm.toNat c) : Circs ns mm (cs ++ [c]) (n + 1) := by
  refine ⟨by rw [List.length_append, h.1]; rfl, fun i x hx => ?_⟩
  by_cases hi : i < cs.length
  · rw [List.getElem?_append_left hi] at hx
    exact h.2 i x hx
  · rw [List.getElem?_append_right (by omega)] at hx
    have hz : i - cs.length = 0 := by
      rcases Nat.eq_zero_or_pos (i - cs.length) with h0 | h0
      · exact h0
      · rw [List.getElem?_eq_none (by simp; omega)] at hx; cases hx
    rw [hz] at hx
    cases hx
    have : i = n := by have := h.1; omega
    rw [this]; exact hc
def lawNumbers : Option (List Stmt × Scope) := match PySem.Challenge.pw_at5024_01.main.body.getLast? with
  | some (.FunctionDef _ _ (_ :: _ :: _ :: _ :: _ :: _ :: _ :: rest) _ _ _ sc _ _ _) => some (rest, sc)
  | _ => none
theorem lawNumbers_some : ∃ a b, lawNumbers = some (a, b) := ⟨_, _, rfl⟩
local macro_rules | `(tactic| k_room) => `(tactic| ((try simp only [depth_mark, depth_under_make, depth_under_kw, depth_in1, depth_deeper, depth_caller]); (try dsimp only); omega))
local macro_rules | `(tactic| k_mem) => `(tactic| assumption)
local macro_rules | `(tactic| walk_at "call ref") => `(tactic| (k_here; k_dflt (show wpAny _ _ (call (Value.ref 297) _) _ _ _; refine' Mine.circle_N ?hi ?pos ?le ?len ?lt ?hp ?B ?F ?X ?N ?T ?hf ?hk ?n8 ?hd ?_; (case B => k_asm); (case F => k_asm); (case X => k_asm); (case N => k_asm); (case T => k_asm); (case hf => exact rfl); (case hk => exact rfl); (case n8 => k_mem); (case hi => assumption); (case pos => assumption); (case le => assumption); (case len => assumption); (case lt => assumption); (case hp => omega); (case hd => k_room)); intro c' t' h' tk' F' N' hci))
set_option maxHeartbeats 4000000 in
theorem law_circles {w : World} {loose : List Str} {mean : ExcName → Option Value} {mg mb : Str → Option Value} {dp un : Nat} {gd : Option (List Code)} {A₀ : Around} {base h₀ : Heap} {outer : List Env} {s : Shared} {Q : Flow → Shared → Prop} {E : Value → Shared → Prop}
    {L fa ll : Addr} {m : Str → Option Value} {ocl ocm : Obj} {news : List (Addr × Obj)} {vs : List Value} {ns : List Int} {mm : Int} {tm : Tok}
    {body rest : List Stmt} {scope : Scope} (hb : lawCircles = some (body, scope)) (hr : lawNumbers = some (rest, scope))
    (B : Below A₀ base outer h₀) (F : Fr h₀ L s.heap m) (X : (K w.params).In h₀) (T : Top topProg loose mean mg mb h₀) (N : News h₀ L s.heap news)
    (n6 : (L + 1 + 1 + 1 + 1 + 1 + 1 + 1 + 1 + 1, ocl) ∈ news) (n7 : (L + 1 + 1 + 1 + 1 + 1 + 1 + 1 + 1 + 1 + 1, ocm) ∈ news) (n8 : (ll, LCg.lst vs) ∈ news)
    (dm : ocm.data = .cell (some (.int mm tm))) (dl' : ocl.data = .cell (some (.ref ll)))
    (hi : IntsAre vs ns) (pos' : 0 < mm) (le : mm ≤ 200) (len : (ns.length : Int) = mm) (lt : ∀ x ∈ ns, 0 ≤ x ∧ x < mm) (hd : dp + 20 < recursionLimit) (hu : un + 60 < cLine)
    (h : ∀ D ys cs h' tk', Fr h₀ L h' (fun z => if z = "circles" then some (.ref D) else m z) → News h₀ L h' ((D, LCg.lst ys) :: news) → LCg.Off1 D news → IntsAre ys cs → Circs ns mm cs mm.toNat →
      wpAny (model P0 w) ⟨none, dp, some (envOfC "law" scope L fa (.ref 301) :: outer), gd, un⟩ (execs rest (envOfC "law" scope L fa (.ref 301))) Q E { s with heap := h', toks := tk' }) :
    wpAny (model P0 w) ⟨none, dp, some (envOfC "law" scope L fa (.ref 301) :: outer), gd, un⟩ (execs body (envOfC "law" scope L fa (.ref 301))) Q E s := by
  cases hb
  cases hr
  (try k_fold)
  walk1
  k_dflt (refine LCg.Assign_ListComp_U (F₀ := by k_asm) (by rfl) (by with_unfolding_all rfl) (by with_unfolding_all rfl) (by decide) (by rfl) (by decide) (by rfl) (by rfl) (by rfl) ?_)
  iterate 7 (first | walk1 | (dsimp only; walk1))
  rename IsRange _ _ _ _ _ _ _ _ => hr'
  rename Fr _ _ _ _ => F1
  rename News _ _ _ _ => N1
  refine LCg.CompSrc.range (n := mm.toNat) rfl F1 N1 hr' (range_small (by omega) (by omega) (by decide)) ((range_size (by omega)).trans (by rw [Int.sub_zero])) (by size_fits) fun g => ?_
  refine comp_rest (fun i ys => ∃ cs, IntsAre ys cs ∧ Circs ns mm cs i) mm.toNat trivial ?_ ?_ _ 0 [] (Nat.zero_add _) ⟨[], .nil, rfl, fun i c hc => nomatch hc⟩
  · rintro i ys v I oI C oC D m₂ h₂ tk E' hi' ⟨cs, hJ1, hJ2⟩ hP hC hx F2 N2 off ne
    obtain ⟨t, rfl⟩ := hP
    clear F1 N1
    (try k_fold)
    k_steps
    rename News _ _ _ _ => N3
    rename Fr _ _ _ _ => F3
    rename CircIs _ _ _ _ _ => e3
    rw [Int.zero_add] at e3
    exact Moves.mk' F3 N3 (fun p hp => hp) ⟨cs ++ [_], hJ1.append (.cons _ _ .nil), circs_snoc hJ2 e3⟩
  · rintro ys ⟨cs, hJ1, hJ2⟩
    show LCg.FinA _ _ _ _ _ _ _ _
    intro D h₂ tk F2 N2 off
    exact h D ys cs h₂ tk F2 N2 off hJ1 hJ2
end Mine
end

section
set_option maxRecDepth 100000
namespace Mine
open PySem PySem.W PySem.Spec PySem.Calls PyProof.Rows
theorem fillLN : (K = K ∧ PySem.Challenge.rw_at5024_01 = PySem.Challenge.rw_at5024_01) := by
  w_top off
  k_fill
  exact ⟨rfl, rfl⟩
def signs : List Int := [1, -1, -1, 0, -1, 1, -1, 0]
/-- the parts' summands -/
def leftTerm (hs : List Int) (number part : Int) : Int := signs.getD (number.fdiv part - 1).toNat 0 * hs.getD (part - 1).toNat 0
def lefts (hs : List Int) (number : Int) : Nat → List Int
  | 0 => []
  | n + 1 => if number.fmod (1 + (n : Int)) = 0 then lefts hs number n ++ [leftTerm hs number (1 + (n : Int))] else lefts hs number n
def leftOf : Option (PySem.Expr × PySem.Expr × Pos × PySem.Expr × Scope × Pos × Scope) := match PySem.Challenge.pw_at5024_01.main.body.getLast? with
  | some (.FunctionDef _ _ (_ :: _ :: _ :: _ :: _ :: _ :: _ :: .For _ _ (.Assign _ (.Call _ [.ListComp elt [⟨.Name _ px, iter, [ct], _⟩] sc pos] _ _) _ :: _) _ _ :: _) _ _ _ lsc _ _ _) => some (elt, iter, px, ct, sc, pos, lsc)
  | _ => none
theorem leftOf_some : ∃ a b c d e f g, leftOf = some (a, b, c, d, e, f, g) := ⟨_, _, _, _, _, _, _, rfl⟩
local macro_rules | `(tactic| k_room) => `(tactic| ((try simp only [depth_mark, depth_under_make, depth_under_kw, depth_in1, depth_deeper, depth_caller]); (try dsimp only); omega))
local macro_rules | `(tactic| k_mem) => `(tactic| assumption)
theorem item_rowA {prog : Program} {w : World} {A : Around} {E : Value → Shared → Prop} {s : Shared} {h₀ : Heap} {L : Addr} {news : List (Addr × Obj)} {value slice : PySem.Expr} {l : Addr} {vs : Array Value} {n : Nat} {k : Int} {u : Tok} {v : Value} {Q : Value → Shared → Prop}
    (N : News h₀ L s.heap news) (hm : (l, W.listOf vs n) ∈ news) (h0 : 0 ≤ k) (hhi : k < 2 ^ 63) (hx : vs[k.toNat]? = some v) (h : Q v s)
    (hs : subscripted slice false (.ref l) (.int k u) = operate [.ref l, .int k u] (getItem (.ref l) (.int k u)) := by with_unfolding_all rfl) :
    wpAny (model prog w) A (subscriptTail value slice (.ref l) (.int k u)) Q E s := by
  have hl : s.heap.IsList l vs := ⟨_, (N _ hm).1, rfl, _, rfl⟩
  exact tail_any hl.typeIs slot_list_getitem.lookup (wpAny_getItem_list hl h0 hhi hx h) hs
theorem getD_in {l : List Int} {lo hi : Int} (h : ∀ x ∈ l, lo ≤ x ∧ x ≤ hi) (h0 : lo ≤ 0 ∧ 0 ≤ hi) (i : Nat) : lo ≤ l.getD i 0 ∧ l.getD i 0 ≤ hi := by
  by_cases hk : i < l.length
  · rw [List.getD_eq_getElem?_getD, List.getElem?_eq_getElem hk, Option.getD_some]; exact h _ (List.getElem_mem hk)
  · rw [List.getD_eq_getElem?_getD, List.getElem?_eq_none (by omega), Option.getD_none]; exact h0
local macro_rules | `(tactic| walk_at "subscriptTail") => `(tactic| (k_here; k_dflt (refine' Mine.item_rowA ?N ?m ?h0 ?hh ?hx ?_ ?k6; (case N => k_asm); (case m => k_mem); (case h0 => omega); (case hh => omega); (case hx => assumption); (case k6 => with_unfolding_all rfl))))
set_option maxHeartbeats 4000000 in
theorem left_comp {w : World} {loose : List Str} {mean : ExcName → Option Value} {mg mb : Str → Option Value} {h₀ : Heap} {outer : List Env} {news : List (Addr × Obj)} {s : Shared} {L fa : Addr} {m : Str → Option Value}
    {dp un : Nat} {gd : Option (List Code)} {Q E : Value → Shared → Prop} {hl : Addr} {oNumber oHome : Obj} {tn : Tok} {ha : Array Value} {nh : Nat} {hs : List Int} {i0 : Nat}
    {elt iter ct : PySem.Expr} {px pos : Pos} {sc scope : Scope} (hc : leftOf = some (elt, iter, px, ct, sc, pos, scope))
    (n4 : (L + 1 + 1 + 1 + 1, oHome) ∈ news) (n9 : (L + 1 + 1 + 1 + 1 + 1 + 1 + 1 + 1, oNumber) ∈ news) (n8 : (hl, W.listOf ha nh) ∈ news)
    (d4 : oHome.data = .cell (some (.ref hl))) (d9 : oNumber.data = .cell (some (.int (1 + (i0 : Int)) tn))) (hha : IntsAre ha.toList hs) (hlen : hs.length = 8) (hbd : ∀ x ∈ hs, 0 ≤ x ∧ x ≤ 200) (hi0 : i0 < 8)
    (F : Fr h₀ L s.heap m) (X : (K w.params).In h₀) (N : News h₀ L s.heap news) (T : Top topProg loose mean mg mb h₀)
    (h : ∀ D ys h' tk', Fr h₀ L h' m → News h₀ L h' ((D, LCg.lst ys) :: news) → LCg.Off1 D news → IntsAre ys (lefts hs (1 + (i0 : Int)) (i0 + 1)) → Q (.ref D) { s with heap := h', toks := tk' }) :
    wpAny (model P0 w) ⟨none, dp, some (envOfC "law" scope L fa (.ref 301) :: outer), gd, un⟩ (eval (.ListComp elt [⟨.Name "part" px, iter, [ct], 0⟩] sc pos) (envOfC "law" scope L fa (.ref 301))) Q E s := by
  cases hc
  (try k_fold)
  k_dflt (refine LCt.ListComp_T (F₀ := F) (by with_unfolding_all rfl) (by decide) (by rfl) (by decide) (by rfl) ?_)
  iterate 12 (first | walk1 | (dsimp only; walk1))
  rename IsRange _ _ _ _ _ _ _ _ => hr'
  rename Fr _ _ _ _ => F1
  rename News _ _ _ _ => N1
  refine LCt.CompSrcT.range (n := i0 + 1) rfl F1 N1 hr' (range_small (by omega) (by omega) (by decide)) ((range_size (by omega)).trans (by omega)) (by rw [show sizeLine = 16777216 from rfl]; omega) fun g => ?_
  refine comp_restT (fun i ys => IntsAre ys (lefts hs (1 + (i0 : Int)) i)) (i0 + 1) trivial ?_ ?_ _ 0 [] (Nat.zero_add _) .nil
  · intro i ys v I oI C oC D m₂ h₂ tk E' hi hJ hP hC hx F2 N2 off ne
    obtain ⟨t, rfl⟩ := hP
    obtain ⟨th, hg⟩ := hha.get i (hs.getD (1 + (i : Int) - 1).toNat 0) (by
      have e : (1 + (i : Int) - 1).toNat = i := by omega
      rw [e, List.getD_eq_getElem?_getD, List.getElem?_eq_getElem (by omega), Option.getD_some])
    have hg' : ha[(1 + (i : Int) - 1).toNat]? = some (.int (hs.getD (1 + (i : Int) - 1).toNat 0) th) := by
      have e : (1 + (i : Int) - 1).toNat = i := by omega
      rw [e] at hg ⊢
      rw [← Array.getElem?_toList]; exact hg
    have hbt := getD_in hbd (by decide) (1 + (i : Int) - 1).toNat
    have hne : (1 + (i : Int)) ≠ 0 := by omega
    have hfd : 1 ≤ (1 + (i0 : Int)).fdiv (1 + (i : Int)) ∧ (1 + (i0 : Int)).fdiv (1 + (i : Int)) ≤ 8 := by
      rw [Int.fdiv_eq_ediv_of_nonneg _ (by omega)]
      exact ⟨Int.le_ediv_of_mul_le (by omega) (by omega), Int.le_trans (Int.ediv_le_self _ (by omega)) (by omega)⟩
    clear F1 N1
    (try k_fold)
    k_steps
    · rename News _ _ _ _ => N3
      rename Fr _ _ _ _ => F3
      rename _ = (0 : Int) => he
      refine Moves.mk' F3 N3 (fun p hp => hp) ?_
      rw [lefts, if_pos he]
      exact hJ.append (.cons _ _ .nil)
    · rename News _ _ _ _ => N3
      rename Fr _ _ _ _ => F3
      rename Int.fmod _ _ ≠ (0 : Int) => he
      refine Moves.mk' F3 N3 (fun p hp => hp) ?_
      rw [lefts, if_neg he]
      exact hJ
  · intro ys hJ
    show LCg.FinE _ _ _ _ _ _ _
    intro D h₂ tk F2 N2 off
    exact h D ys h₂ tk F2 N2 off hJ
end Mine
end

section
set_option maxRecDepth 100000
namespace Mine
open PySem PySem.W PySem.Spec PySem.Calls PyProof.Rows
theorem fillLO : (K = K ∧ PySem.Challenge.rw_at5024_01 = PySem.Challenge.rw_at5024_01) := by
  w_top off
  k_fill
  exact ⟨rfl, rfl⟩
def numberBody : Option (PySem.Expr × List Stmt × Scope) := match PySem.Challenge.pw_at5024_01.main.body.getLast? with
  | some (.FunctionDef _ _ (_ :: _ :: _ :: _ :: _ :: _ :: _ :: .For tg _ body _ _ :: _) _ _ _ lsc _ _ _) => some (tg, body, lsc)
  | _ => none
theorem numberBody_some : ∃ a b c, numberBody = some (a, b, c) := ⟨_, _, _, rfl⟩
local macro_rules | `(tactic| k_room) => `(tactic| ((try simp only [depth_mark, depth_under_make, depth_under_kw, depth_in1, depth_deeper, depth_caller]); (try dsimp only); omega))
local macro_rules | `(tactic| k_all) => `(tactic| assumption)
local macro_rules | `(tactic| walk_at "eval ListComp") => `(tactic| (k_here; (with_reducible show wpAny _ _ (eval (Expr.ListComp _ [⟨_, _, [_], _⟩] _ _) _) _ _ _); k_dflt (refine' Mine.left_comp ?hc ?n4 ?n9 ?n8 ?d4 ?d9 ?hha ?hlen ?hbd ?hi0 ?F ?X ?N ?T ?_; (case hc => exact rfl); (case F => k_asm); (case X => k_asm); (case N => k_asm); (case T => k_asm); (case n4 => k_mem); (case n9 => k_mem); (case d4 => assumption); (case n8 => k_mem); (case d9 => assumption); (case hha => assumption); (case hlen => assumption); (case hbd => assumption); (case hi0 => assumption)); intro D' ys' h' tk' F' N' o1 hI9; (try simp only [LCg.Off1, and_true] at o1)))
theorem sum_row {prog : Program} {w : World} {A : Around} {E : Value → Shared → Prop} {s : Shared} {h₀ : Heap} {L : Addr} {m : Str → Option Value} {news : List (Addr × Obj)} {D : Addr} {ys : List Value} {ks : List Int} {Q : Value → Shared → Prop} (hh : A.handled = none) (F : Fr h₀ L s.heap m) (N : News h₀ L s.heap news)
    (hm : (D, LCg.lst ys) ∈ news) (hi : IntsAre ys ks) (h : ∀ h' tk' t, Fr h₀ L h' m → News h₀ L h' news → Q (.int ks.sum t) { s with heap := h', toks := tk' }) : wpAny (model prog w) A (call (.builtin "sum") [.ref D]) Q E s := by
  exact sumK hh F N ⟨_, (N _ hm).1, rfl, _, rfl⟩ hi h
local macro_rules | `(tactic| walk_at "call builtin:sum") => `(tactic| (k_here; k_dflt (refine' Mine.sum_row ?hh ?F ?N ?m ?hi ?_; (case hh => exact rfl); (case F => k_asm); (case N => k_asm); (case m => k_mem); (case hi => assumption)); intro h' tk' t' F' N'))
set_option maxHeartbeats 4000000 in
theorem number_turn {w : World} {loose : List Str} {mean : ExcName → Option Value} {mg mb : Str → Option Value} {base h₀ : Heap} {outer : List Env} {tl : List (Addr × Obj)} {s : Shared} {L fa : Addr} {M u : Str → Option Value}
    {dp un : Nat} {gd : Option (List Code)} {Q : Flow → Shared → Prop} {E : Value → Shared → Prop} {ll dl hl ul Dc : Addr} {ocm ocl oNumber oFound oRounds oUnlike oHome oRow oDraw : Obj} {t : Tok} {vs ds cys : List Value} {cs hs : List Int} {i0 : Nat} {ha ua : Array Value} {nh nu : Nat} {v8 : Option Value} {A₀ : Around}
    {tg : PySem.Expr} {body : List Stmt} {scope : Scope} (hc : numberBody = some (tg, body, scope))
    (B : Below A₀ base outer h₀) (F : Fr h₀ L s.heap (fun z => if z = "left" then u z else if z = "circles" then some (.ref Dc) else M z)) (X : (K w.params).In h₀) (T : Top topProg loose mean mg mb h₀)
    (N : News h₀ L s.heap ((Dc, LCg.lst cys) :: (ul, W.listOf ua nu) :: (hl, W.listOf ha nh) :: (ll, LCg.lst vs) :: (dl, LCg.lst ds) :: Cells L ocm ocl oNumber oFound oRounds oUnlike oHome oRow oDraw tl))
    (d4 : oHome.data = .cell (some (.ref hl))) (d8 : oNumber.data = .cell v8)
    (q1 : Dc ≠ L + 1 + 1 + 1 + 1 + 1 + 1 + 1 + 1) (q2 : Off L ul) (q3 : Off L hl) (q4 : Off L ll) (q5 : Off L dl) (t8 : ∀ p ∈ tl, p.1 ≠ L + 1 + 1 + 1 + 1 + 1 + 1 + 1 + 1)
    (hha : IntsAre ha.toList hs) (hlen : hs.length = 8) (hbd : ∀ x ∈ hs, 0 ≤ x ∧ x ≤ 200) (hi0 : i0 < 8) (hcy : IntsAre cys cs) (hM : (lefts hs (1 + (i0 : Int)) (i0 + 1)).sum = ((cs.count (1 + (i0 : Int)) : Nat) : Int))
    (hd : dp + 20 < recursionLimit) (hu : un + 60 < cLine)
    (h : ∀ oNumber' v8' tv t1 h' tk', Fr h₀ L h' (fun y => if y = "left" then some (.int tv t1) else if y = "left" then u y else if y = "circles" then some (.ref Dc) else M y) →
      News h₀ L h' ((Dc, LCg.lst cys) :: (ul, W.listOf ua nu) :: (hl, W.listOf ha nh) :: (ll, LCg.lst vs) :: (dl, LCg.lst ds) :: Cells L ocm ocl oNumber' oFound oRounds oUnlike oHome oRow oDraw tl) →
      oNumber'.data = .cell v8' → Q .next { s with heap := h', toks := tk' }) :
    wpAny (model P0 w) ⟨none, dp, some (envOfC "law" scope L fa (.ref 301) :: outer), gd, un⟩ (assign tg (envOfC "law" scope L fa (.ref 301)) (.int (1 + (i0 : Int)) t)) (fun _ s₃ => wpAny (model P0 w) ⟨none, dp, some (envOfC "law" scope L fa (.ref 301) :: outer), gd, un⟩ (execs body (envOfC "law" scope L fa (.ref 301))) Q E s₃) E s := by
  cases hc
  dsimp only [Cells] at N
  have b1 := neN q1
  have b2 := off_lt q2
  have b3 := off_lt q3
  have b4 := off_lt q4
  have b5 := off_lt q5
  (try k_fold)
  k_steps
  · exact absurd hM (by assumption)
  · rename News _ _ _ _ => N3
    rename Fr _ _ _ _ => F3
    dsimp only [Cells] at h
    exact h _ _ _ _ _ _ F3 (fun p hp => N3 p (.tail _ hp)) (by assumption)
/-- the law's names behind the numbers' loop -/
def leftM (u M : Str → Option Value) (Dc : Addr) : Str → Option Value := fun z => if z = "left" then u z else if z = "circles" then some (.ref Dc) else M z
def NumbersJ (L ll dl hl ul Dc : Addr) (ocm ocl oFound oRounds oUnlike oHome oRow oDraw : Obj) (vs ds cys : List Value) (ha ua : Array Value) (nh nu : Nat) (M : Str → Option Value) (tl : List (Addr × Obj)) (m' : Str → Option Value) (nx : List (Addr × Obj)) : Prop :=
  ∃ u oNumber v8, m' = leftM u M Dc ∧ nx = (Dc, LCg.lst cys) :: (ul, W.listOf ua nu) :: (hl, W.listOf ha nh) :: (ll, LCg.lst vs) :: (dl, LCg.lst ds) :: Cells L ocm ocl oNumber oFound oRounds oUnlike oHome oRow oDraw tl ∧ oNumber.data = .cell v8
theorem homes_len (ns : List Int) (mm : Int) (k : Nat) : (homes ns mm k).length = k := by simp [homes]
theorem homes_in {ns : List Int} {mm : Int} (pos : 0 < mm) (le : mm ≤ 200) (k : Nat) : ∀ x ∈ homes ns mm k, 0 ≤ x ∧ x ≤ 200 := by
  intro x hx
  obtain ⟨i, _, rfl⟩ := List.mem_map.mp hx
  have := homePts_le ns mm (i + 1) mm.toNat
  omega
theorem numbers_loop {w : World} {loose : List Str} {mean : ExcName → Option Value} {mg mb : Str → Option Value} {dp un : Nat} {gd : Option (List Code)} {A₀ : Around} {base h₀ : Heap} {outer : List Env} {s : Shared} {Q : Flow → Shared → Prop} {E : Value → Shared → Prop}
    {L fa ll dl hl ul Dc r : Addr} {M : Str → Option Value} {oDraw oRow oHome oUnlike oRounds oFound oNumber ocl ocm : Obj} {tl : List (Addr × Obj)} {ds vs cys : List Value} {cs hs : List Int} {t₀ u₀ v₀ : Tok} {ha ua : Array Value} {nh nu : Nat} {v8 : Option Value}
    {tg : PySem.Expr} {body : List Stmt} {scope : Scope} (hc : numberBody = some (tg, body, scope)) (htg : ∀ it v, letOwnedTupleGo tg it v = pure ()) (hrg : IsRange s.heap r 1 9 1 t₀ u₀ v₀)
    (B : Below A₀ base outer h₀) (F : Fr h₀ L s.heap (fun z => if z = "circles" then some (.ref Dc) else M z)) (X : (K w.params).In h₀) (T : Top topProg loose mean mg mb h₀)
    (N : News h₀ L s.heap ((Dc, LCg.lst cys) :: (ul, W.listOf ua nu) :: (hl, W.listOf ha nh) :: (ll, LCg.lst vs) :: (dl, LCg.lst ds) :: Cells L ocm ocl oNumber oFound oRounds oUnlike oHome oRow oDraw tl))
    (d4 : oHome.data = .cell (some (.ref hl))) (d8 : oNumber.data = .cell v8)
    (q1 : Dc ≠ L + 1 + 1 + 1 + 1 + 1 + 1 + 1 + 1) (q2 : Off L ul) (q3 : Off L hl) (q4 : Off L ll) (q5 : Off L dl) (hO : ∀ p ∈ tl, Off L p.1)
    (hha : IntsAre ha.toList hs) (hlen : hs.length = 8) (hbd : ∀ x ∈ hs, 0 ≤ x ∧ x ≤ 200) (hcy : IntsAre cys cs) (hM : ∀ i : Nat, i < 8 → (lefts hs (1 + (i : Int)) (i + 1)).sum = ((cs.count (1 + (i : Int)) : Nat) : Int))
    (hd : dp + 20 < recursionLimit) (hu : un + 60 < cLine)
    (done : ∀ m₁ nx h tk, NumbersJ L ll dl hl ul Dc ocm ocl oFound oRounds oUnlike oHome oRow oDraw vs ds cys ha ua nh nu M tl m₁ nx → Fr h₀ L h m₁ → News h₀ L h nx → Q .next { s with heap := h, toks := tk }) :
    wpAny (model P0 w) ⟨none, dp, some (envOfC "law" scope L fa (.ref 301) :: outer), gd, un⟩ (pyIter (.ref r)) (fun it s₂ => TurnsAt P0 w ⟨none, dp, some (envOfC "law" scope L fa (.ref 301) :: outer), gd, un⟩ h₀ (envOfC "law" scope L fa (.ref 301)) tg body Q E it s₂) E s := by
  refine for_range (n := 8) (fun _ m' nx => NumbersJ L ll dl hl ul Dc ocm ocl oFound oRounds oUnlike oHome oRow oDraw vs ds cys ha ua nh nu M tl m' nx) rfl hrg rfl rfl F N ⟨M, oNumber, v8, ?_, rfl, d8⟩ htg ?_ (fun m₁ nx h tk hJ _ F' N' => done m₁ nx h tk hJ F' N')
  · funext z
    unfold leftM
    by_cases h1 : z = "left"
    · subst h1; rfl
    · rw [if_neg h1]
  rintro i t m₁ nx h tk own hi ⟨u, oN, v8', rfl, rfl, e8⟩ _ hoff F' N'
  have N2 : News h₀ L h ((Dc, LCg.lst cys) :: (ul, W.listOf ua nu) :: (hl, W.listOf ha nh) :: (ll, LCg.lst vs) :: (dl, LCg.lst ds) :: Cells L ocm ocl oN oFound oRounds oUnlike oHome oRow oDraw (tl ++ own)) := N'
  have t8 : ∀ p ∈ tl ++ own, p.1 ≠ L + 1 + 1 + 1 + 1 + 1 + 1 + 1 + 1 := fun p hp => by
    rcases List.mem_append.mp hp with hp | hp
    · have := off_lt (hO p hp)
      exact neN (by omega)
    · exact hoff p hp (L + 1 + 1 + 1 + 1 + 1 + 1 + 1 + 1, oNumber) (by k_mem)
  refine number_turn hc B F' X T N2 d4 e8 q1 q2 q3 q4 q5 t8 hha hlen hbd hi hcy (hM i hi) hd hu ?_
  intro oN' v8'' tv t1 h' tk' F3 N3 e8'
  refine TurnEnd.next (nx := (Dc, LCg.lst cys) :: (ul, W.listOf ua nu) :: (hl, W.listOf ha nh) :: (ll, LCg.lst vs) :: (dl, LCg.lst ds) :: Cells L ocm ocl oN' oFound oRounds oUnlike oHome oRow oDraw tl) F3 N3 (fun p hp => ?_) (fun p hp => ?_) rfl ⟨fun _ => some (.int tv t1), oN', v8'', ?_, rfl, e8'⟩
  · exact List.mem_append_right ((Dc, _) :: (ul, _) :: (hl, _) :: (ll, _) :: (dl, _) :: Cells L ocm ocl oN' oFound oRounds oUnlike oHome oRow oDraw tl) hp
  · exact List.mem_append_left own hp
  · funext y
    unfold leftM
    by_cases h1 : y = "left"
    · rw [if_pos h1, if_pos h1]
    · rw [if_neg h1, if_neg h1, if_neg h1]
def lawFewer : Option (List Stmt × Scope) := match PySem.Challenge.pw_at5024_01.main.body.getLast? with
  | some (.FunctionDef _ _ (_ :: _ :: _ :: _ :: _ :: _ :: _ :: _ :: rest) _ _ _ sc _ _ _) => some (rest, sc)
  | _ => none
theorem lawFewer_some : ∃ a b, lawFewer = some (a, b) := ⟨_, _, rfl⟩
local macro_rules | `(tactic| walk_at "exec For Name Call cons nil") => `(tactic| (k_here; (rename Fr _ _ _ _ => lF'); (with_unfolding_all refine' For_turns lF' ?_ (hE := by assumption))))
local macro_rules | `(tactic| walk_at "pyIter ref") => `(tactic| (k_here; (with_reducible show wpAny _ _ (pyIter (Value.ref _)) (fun it s₂ => TurnsAt _ _ _ _ _ _ _ _ _ it s₂) _ _); k_dflt (refine Mine.stop_here ?_)))
set_option maxHeartbeats 4000000 in
theorem law_numbers {w : World} {loose : List Str} {mean : ExcName → Option Value} {mg mb : Str → Option Value} {dp un : Nat} {gd : Option (List Code)} {A₀ : Around} {base h₀ : Heap} {outer : List Env} {s : Shared} {Q : Flow → Shared → Prop} {E : Value → Shared → Prop}
    {L fa ll dl hl ul Dc : Addr} {M : Str → Option Value} {oDraw oRow oHome oUnlike oRounds oFound oNumber ocl ocm : Obj} {tl : List (Addr × Obj)} {ds vs cys : List Value} {cs hs : List Int} {ha ua : Array Value} {nh nu : Nat} {v8 : Option Value}
    {body rest : List Stmt} {scope : Scope} (hb : lawNumbers = some (body, scope)) (hr : lawFewer = some (rest, scope))
    (B : Below A₀ base outer h₀) (F : Fr h₀ L s.heap (fun z => if z = "circles" then some (.ref Dc) else M z)) (X : (K w.params).In h₀) (T : Top topProg loose mean mg mb h₀)
    (N : News h₀ L s.heap ((Dc, LCg.lst cys) :: (ul, W.listOf ua nu) :: (hl, W.listOf ha nh) :: (ll, LCg.lst vs) :: (dl, LCg.lst ds) :: Cells L ocm ocl oNumber oFound oRounds oUnlike oHome oRow oDraw tl))
    (d4 : oHome.data = .cell (some (.ref hl))) (d8 : oNumber.data = .cell v8)
    (q1 : Dc ≠ L + 1 + 1 + 1 + 1 + 1 + 1 + 1 + 1) (q2 : Off L ul) (q3 : Off L hl) (q4 : Off L ll) (q5 : Off L dl) (hO : ∀ p ∈ tl, Off L p.1)
    (hha : IntsAre ha.toList hs) (hlen : hs.length = 8) (hbd : ∀ x ∈ hs, 0 ≤ x ∧ x ≤ 200) (hcy : IntsAre cys cs) (hM : ∀ i : Nat, i < 8 → (lefts hs (1 + (i : Int)) (i + 1)).sum = ((cs.count (1 + (i : Int)) : Nat) : Int))
    (hd : dp + 20 < recursionLimit) (hu : un + 60 < cLine) (hE : PassesOwn (model P0 w) ⟨none, dp, some (envOfC "law" scope L fa (.ref 301) :: outer), gd, un⟩ (envOfC "law" scope L fa (.ref 301)) E)
    (h : ∀ u oNumber' v8' h' tk', Fr h₀ L h' (leftM u M Dc) → News h₀ L h' ((Dc, LCg.lst cys) :: (ul, W.listOf ua nu) :: (hl, W.listOf ha nh) :: (ll, LCg.lst vs) :: (dl, LCg.lst ds) :: Cells L ocm ocl oNumber' oFound oRounds oUnlike oHome oRow oDraw tl) → oNumber'.data = .cell v8' →
      wpAny (model P0 w) ⟨none, dp, some (envOfC "law" scope L fa (.ref 301) :: outer), gd, un⟩ (execs rest (envOfC "law" scope L fa (.ref 301))) Q E { s with heap := h', toks := tk' }) :
    wpAny (model P0 w) ⟨none, dp, some (envOfC "law" scope L fa (.ref 301) :: outer), gd, un⟩ (execs body (envOfC "law" scope L fa (.ref 301))) Q E s := by
  cases hb
  cases hr
  have hcy0 : IntsAre cys cs := hcy
  (try k_fold)
  k_steps
  refine go_on ?_
  rename IsRange _ _ _ _ _ _ _ _ => hr'
  rename Fr _ _ _ _ => F1
  rename News _ _ _ _ => N1
  refine numbers_loop (cs := cs) (hs := hs) rfl (fun _ _ => rfl) hr' B F1 X T N1 d4 d8 q1 q2 q3 q4 q5 hO (by assumption) hlen hbd (by assumption) hM hd hu ?_
  rintro m₁ nx h' tk' ⟨u, oN, v8', rfl, rfl, e8⟩ F3 N3
  exact h u oN v8' h' tk' F3 N3 e8
end Mine
end

section
set_option maxRecDepth 100000
namespace Mine
open PySem PySem.W PySem.Spec PySem.Calls PyProof.Rows
theorem fillLW : (K = K ∧ PySem.Challenge.rw_at5024_01 = PySem.Challenge.rw_at5024_01) := by
  w_top off
  k_fill
  exact ⟨rfl, rfl⟩
def fewers (us : List Int) (n : Nat) : List Int := (List.range n).map fun i => us.getD i 0 - us.getD (i + 1) 0
theorem fewers_succ (us : List Int) (n : Nat) : fewers us (n + 1) = fewers us n ++ [us.getD n 0 - us.getD (n + 1) 0] := by
  simp [fewers, List.range_succ]
def lawEnd : Option (List Stmt × Scope) := match PySem.Challenge.pw_at5024_01.main.body.getLast? with
  | some (.FunctionDef _ _ (_ :: _ :: _ :: _ :: _ :: _ :: _ :: _ :: _ :: _ :: rest) _ _ _ sc _ _ _) => some (rest, sc)
  | _ => none
theorem lawEnd_some : ∃ a b, lawEnd = some (a, b) := ⟨_, _, rfl⟩
def lawTest : Option (List Stmt × Scope) := match PySem.Challenge.pw_at5024_01.main.body.getLast? with
  | some (.FunctionDef _ _ (_ :: _ :: _ :: _ :: _ :: _ :: _ :: _ :: _ :: rest) _ _ _ sc _ _ _) => some (rest, sc)
  | _ => none
theorem lawTest_some : ∃ a b, lawTest = some (a, b) := ⟨_, _, rfl⟩
local macro_rules | `(tactic| k_room) => `(tactic| ((try simp only [depth_mark, depth_under_make, depth_under_kw, depth_in1, depth_deeper, depth_caller]); (try dsimp only); omega))
local macro_rules | `(tactic| k_mem) => `(tactic| assumption)
local macro_rules | `(tactic| walk_at "subscriptTail") => `(tactic| (k_here; k_dflt (refine' Mine.item_rowA ?N ?m ?h0 ?hh ?hx ?_ ?k6; (case N => k_asm); (case m => k_mem); (case h0 => omega); (case hh => omega); (case hx => assumption); (case k6 => with_unfolding_all rfl))))
set_option maxHeartbeats 4000000 in
theorem law_fewer {w : World} {loose : List Str} {mean : ExcName → Option Value} {mg mb : Str → Option Value} {dp un : Nat} {gd : Option (List Code)} {A₀ : Around} {base h₀ : Heap} {outer : List Env} {s : Shared} {Q : Flow → Shared → Prop} {E : Value → Shared → Prop}
    {L fa ul : Addr} {m : Str → Option Value} {oUnlike : Obj} {news : List (Addr × Obj)} {us : List Int} {ua : Array Value} {nu : Nat}
    {body rest : List Stmt} {scope : Scope} (hb : lawFewer = some (body, scope)) (hr : lawTest = some (rest, scope))
    (B : Below A₀ base outer h₀) (F : Fr h₀ L s.heap m) (X : (K w.params).In h₀) (T : Top topProg loose mean mg mb h₀) (N : News h₀ L s.heap news)
    (n5 : (L + 1 + 1 + 1 + 1 + 1, oUnlike) ∈ news) (n8 : (ul, W.listOf ua nu) ∈ news) (d5 : oUnlike.data = .cell (some (.ref ul)))
    (hua : IntsAre ua.toList us) (hlen : us.length = 9) (hd : dp + 20 < recursionLimit) (hu : un + 60 < cLine)
    (h : ∀ D ys h' tk', Fr h₀ L h' (fun z => if z = "fewer" then some (.ref D) else m z) → News h₀ L h' ((D, LCg.lst ys) :: news) → LCg.Off1 D news → IntsAre ys (fewers us 8) →
      wpAny (model P0 w) ⟨none, dp, some (envOfC "law" scope L fa (.ref 301) :: outer), gd, un⟩ (execs rest (envOfC "law" scope L fa (.ref 301))) Q E { s with heap := h', toks := tk' }) :
    wpAny (model P0 w) ⟨none, dp, some (envOfC "law" scope L fa (.ref 301) :: outer), gd, un⟩ (execs body (envOfC "law" scope L fa (.ref 301))) Q E s := by
  cases hb
  cases hr
  have hua0 : IntsAre ua.toList us := hua
  (try k_fold)
  walk1
  k_dflt (refine LCg.Assign_ListComp_U (F₀ := by k_asm) (by rfl) (by with_unfolding_all rfl) (by with_unfolding_all rfl) (by decide) (by rfl) (by decide) (by rfl) (by rfl) (by rfl) ?_)
  iterate 7 (first | walk1 | (dsimp only; walk1))
  rename IsRange _ _ _ _ _ _ _ _ => hr'
  rename Fr _ _ _ _ => F1
  rename News _ _ _ _ => N1
  refine LCg.CompSrc.range (n := 8) rfl F1 N1 hr' rfl rfl (by decide) fun g => ?_
  refine comp_rest (fun i ys => IntsAre ys (fewers us i)) 8 trivial ?_ ?_ _ 0 [] (Nat.zero_add _) .nil
  · intro i ys v I oI C oC D m₂ h₂ tk E' hi' hJ hP hC hx F2 N2 off ne
    obtain ⟨t, rfl⟩ := hP
    have item : ∀ j : Nat, j < 9 → ∀ k : Int, k.toNat = j → ∃ t, ua[k.toNat]? = some (.int (us.getD j 0) t) := fun j hj k hk => by
      obtain ⟨t, ht⟩ := hua0.get j (us.getD j 0) (by rw [List.getD_eq_getElem?_getD, List.getElem?_eq_getElem (by omega), Option.getD_some])
      exact ⟨t, by rw [hk, ← Array.getElem?_toList]; exact ht⟩
    obtain ⟨ta, ha1⟩ := item i (by omega) (0 + (i : Int)) (by omega)
    obtain ⟨tb, ha2⟩ := item (i + 1) (by omega) (0 + (i : Int) + 1) (by omega)
    clear F1 N1
    (try k_fold)
    k_steps
    exact Moves.mk' F2 N2 (fun p hp => hp) (by rw [fewers_succ]; exact hJ.append (.cons _ _ .nil))
  · intro ys hJ
    show LCg.FinA _ _ _ _ _ _ _ _
    intro D h₂ tk F2 N2 off
    exact h D ys h₂ tk F2 N2 off hJ
theorem sorted_row {prog : Program} {w : World} {A : Around} {E : Value → Shared → Prop} {s : Shared} {h₀ : Heap} {L : Addr} {m : Str → Option Value} {news : List (Addr × Obj)} {D : Addr} {ys : List Value} {ks : List Int} {Q : Value → Shared → Prop} (F : Fr h₀ L s.heap m) (N : News h₀ L s.heap news)
    (hm : (D, LCg.lst ys) ∈ news) (hi : IntsAre ys ks) (ho : Ordered true ks) (h64 : ks.length < 64) (h : ∀ h' S vs' e, Fr h₀ L h' m → News h₀ L h' ((S, W.listOf vs'.toArray e) :: news) → IntsAre vs' ks → Q (.ref S) { s with heap := h' }) :
    wpAny (model prog w) A (call (.builtin "sorted") [.ref D] [("reverse", .bool true)]) Q E s := by
  refine sorted_N_rev F N ⟨_, (N _ hm).1, rfl, _, rfl⟩ hi (by rw [hi.length]; exact h64) fun h' vs' ns' e F' N' hi' hp ho' => ?_
  have e1 : ns' = ks := List.Perm.eq_of_pairwise (le := (· ≥ ·)) (fun a b _ _ h1 h2 => Int.le_antisymm h2 h1) ho' ho hp
  subst e1
  exact h h' _ vs' e F' N' hi'
theorem ne_row {prog : Program} {w : World} {A : Around} {E : Value → Shared → Prop} {s : Shared} {h₀ : Heap} {L : Addr} {news : List (Addr × Obj)} {D S : Addr} {ys vs' : List Value} {e : Nat} {ks : List Int} {Q : Value → Shared → Prop} (N : News h₀ L s.heap news)
    (hm : (D, LCg.lst ys) ∈ news) (hm' : (S, W.listOf vs'.toArray e) ∈ news) (hi : IntsAre ys ks) (hi' : IntsAre vs' ks) (hu : A.units + 80 < cLine) (h : ∀ t, Q (.bool false) { s with toks := t }) :
    wpAny (model prog w) A (compareOp .NotEq (.ref D) (.ref S)) Q E s := by
  have hl1 : s.heap.IsList D ys.toArray := ⟨_, (N _ hm).1, rfl, _, rfl⟩
  have hl2 : s.heap.IsList S vs'.toArray := ⟨_, (N _ hm').1, rfl, _, rfl⟩
  exact ne_intsK hl1 hi hl2 hi' (by omega) (by simpa using h s.toks)
local macro_rules | `(tactic| walk_at "call builtin:sorted") => `(tactic| (k_here; ksk_kw; k_dflt (refine' Mine.sorted_row ?F ?N ?m ?hi ?ho ?h64 ?_; (case F => k_asm); (case N => k_asm); (case m => k_mem); (case hi => assumption); (case ho => assumption); (case h64 => omega)); intro h' S' vs' e' F' N' hiS))
local macro_rules | `(tactic| walk_at "compareOp NotEq ref ref") => `(tactic| (k_here; k_dflt (refine' Mine.ne_row ?N ?m ?m2 ?hi ?hi2 ?hu ?_; (case N => k_asm); (case m => k_mem); (case m2 => k_mem); (case hi => assumption); (case hi2 => assumption); (case hu => (dsimp only; omega))); intro t'))
local macro_rules | `(tactic| walk_at "execs cons") => `(tactic| (k_here; (with_reducible show wpAny _ _ (execs (Stmt.Assign [Expr.Tuple [Expr.Name _ _, Expr.Name _ _] _ _] _ _ :: _) _) _ _ _); k_dflt (refine Mine.stop_here ?_)))
set_option maxHeartbeats 1000000 in
theorem law_test {w : World} {loose : List Str} {mean : ExcName → Option Value} {mg mb : Str → Option Value} {dp un : Nat} {gd : Option (List Code)} {A₀ : Around} {base h₀ : Heap} {outer : List Env} {s : Shared} {Q : Flow → Shared → Prop} {E : Value → Shared → Prop}
    {L fa ul Df Dc : Addr} {M u : Str → Option Value} {oUnlike ocm : Obj} {news : List (Addr × Obj)} {us cs fs : List Int} {ua : Array Value} {nu : Nat} {cys fys : List Value} {mm : Int} {tm : Tok}
    {body rest : List Stmt} {scope : Scope} (hb : lawTest = some (body, scope)) (hr : lawEnd = some (rest, scope))
    (B : Below A₀ base outer h₀) (F : Fr h₀ L s.heap (fun z => if z = "fewer" then some (.ref Df) else if z = "left" then u z else if z = "circles" then some (.ref Dc) else M z)) (X : (K w.params).In h₀) (T : Top topProg loose mean mg mb h₀) (N : News h₀ L s.heap ((Df, LCg.lst fys) :: (Dc, LCg.lst cys) :: (ul, W.listOf ua nu) :: news))
    (n5 : (L + 1 + 1 + 1 + 1 + 1, oUnlike) ∈ news) (n7 : (L + 1 + 1 + 1 + 1 + 1 + 1 + 1 + 1 + 1 + 1, ocm) ∈ news) (d5 : oUnlike.data = .cell (some (.ref ul))) (dm : ocm.data = .cell (some (.int mm tm)))
    (hua : IntsAre ua.toList us) (hlen : us.length = 9) (hcy : IntsAre cys cs) (hfy : IntsAre fys fs) (hl8 : fs.length = 8) (ho : Ordered true fs) (h8 : us.getD 8 0 = mm - ((cs.count 0 : Nat) : Int)) (pos' : 0 < mm) (le : mm ≤ 200) (hd : dp + 20 < recursionLimit) (hu : un + 100 < cLine)
    (h : ∀ h' tk', Fr h₀ L h' (fun z => if z = "fewer" then some (.ref Df) else if z = "left" then u z else if z = "circles" then some (.ref Dc) else M z) → News h₀ L h' ((Df, LCg.lst fys) :: (Dc, LCg.lst cys) :: (ul, W.listOf ua nu) :: news) →
      wpAny (model P0 w) ⟨none, dp, some (envOfC "law" scope L fa (.ref 301) :: outer), gd, un⟩ (execs rest (envOfC "law" scope L fa (.ref 301))) Q E { s with heap := h', toks := tk' }) :
    wpAny (model P0 w) ⟨none, dp, some (envOfC "law" scope L fa (.ref 301) :: outer), gd, un⟩ (execs body (envOfC "law" scope L fa (.ref 301))) Q E s := by
  cases hb
  cases hr
  obtain ⟨t8, ht8⟩ := hua.get 8 (us.getD 8 0) (by rw [List.getD_eq_getElem?_getD, List.getElem?_eq_getElem (by omega), Option.getD_some])
  have hx8 : ua[(8 : Int).toNat]? = some (.int (us.getD 8 0) t8) := by rw [← Array.getElem?_toList]; exact ht8
  (try k_fold)
  k_steps
  · exact absurd h8 (by assumption)
  · refine go_on ?_
    rename News _ _ _ _ => N3
    rename Fr _ _ _ _ => F3
    exact h _ _ F3 (fun p hp => N3 p (.tail _ hp))
end Mine
end

section
set_option maxRecDepth 100000
namespace Mine
open PySem PySem.W PySem.Spec PySem.Calls PyProof.Rows
theorem fillLE : (K = K ∧ PySem.Challenge.rw_at5024_01 = PySem.Challenge.rw_at5024_01) := by
  w_top off
  k_fill
  exact ⟨rfl, rfl⟩
/-- the law's names in the last two loops -/
def endM (u M : Str → Option Value) (pv v : Value) : Str → Option Value := fun z => if z = "k" then u z else if z = "at" then some v else if z = "point" then some pv else M z
theorem frEq {h₀ h : Heap} {L : Addr} {m m' : Str → Option Value} (F : Fr h₀ L h m) (e : ∀ z, m z = m' z) : Fr h₀ L h m' := (funext e : m = m') ▸ F
local macro_rules | `(tactic| k_room) => `(tactic| ((try simp only [depth_mark, depth_under_make, depth_under_kw, depth_in1, depth_deeper, depth_caller]); (try dsimp only); omega))
local macro_rules | `(tactic| k_mem) => `(tactic| assumption)
local macro_rules | `(tactic| walk_at "subscriptTail") => `(tactic| (k_here; k_dflt (refine' Mine.item_row ?N ?m ?h0 ?hh ?hx ?_ ?k6; (case N => k_asm); (case m => k_mem); (case h0 => omega); (case hh => omega); (case hx => assumption); (case k6 => with_unfolding_all rfl))))
set_option maxHeartbeats 1000000 in
theorem walk_turn {w : World} {loose : List Str} {mean : ExcName → Option Value} {mg mb : Str → Option Value} {base h₀ : Heap} {outer : List Env} {news : List (Addr × Obj)} {s : Shared} {L fa : Addr} {M u : Str → Option Value}
    {dp un : Nat} {gd : Option (List Code)} {Q : Flow → Shared → Prop} {E : Value → Shared → Prop} {ll : Addr} {ocl : Obj} {vs : List Value} {ns : List Int} {mm a j : Int} {t ta : Tok} {pv : Value} {A₀ : Around} {p0 p1 p2 p3 p4 p5 : Pos}
    {body : List Stmt} {scope : Scope} (hc : lawEnd = some (body, scope))
    (B : Below A₀ base outer h₀) (F : Fr h₀ L s.heap (endM u M pv (.int a ta))) (X : (K w.params).In h₀) (T : Top topProg loose mean mg mb h₀) (N : News h₀ L s.heap news)
    (n6 : (L + 1 + 1 + 1 + 1 + 1 + 1 + 1 + 1 + 1, ocl) ∈ news) (n8 : (ll, LCg.lst vs) ∈ news) (dl' : ocl.data = .cell (some (.ref ll))) (hx : ∃ tv, vs[a.toNat]? = some (.int (stp ns mm a) tv)) (ha : 0 ≤ a ∧ a < mm) (le : mm ≤ 200)
    (h : ∀ u' t' h' tk', Fr h₀ L h' (endM u' M pv (.int (stp ns mm a) t')) → News h₀ L h' news → Q .next { s with heap := h', toks := tk' }) :
    wpAny (model P0 w) ⟨none, dp, some (envOfC "law" scope L fa (.ref 301) :: outer), gd, un⟩ (assign (.Name "k" p0) (envOfC "law" scope L fa (.ref 301)) (.int j t)) (fun _ s₃ => wpAny (model P0 w) ⟨none, dp, some (envOfC "law" scope L fa (.ref 301) :: outer), gd, un⟩
      (execs [.Assign [.Name "at" p1] (.Subscript (.Name "leads" p2) (.Name "at" p3) p4) p5] (envOfC "law" scope L fa (.ref 301))) Q E s₃) E s := by
  cases hc
  obtain ⟨tv, hx⟩ := hx
  change Fr h₀ L s.heap (fun z => if z = "k" then u z else if z = "at" then some (.int a ta) else if z = "point" then some pv else M z) at F
  (try k_fold)
  k_steps
  rename News _ _ _ _ => N3
  rename Fr _ _ _ _ => F3
  refine h (fun _ => some (.int j t)) tv _ _ (frEq F3 fun y => ?_) N3
  unfold endM
  by_cases h1 : y = "at"
  · subst h1; rfl
  · rw [if_neg h1]
    by_cases h2 : y = "k"
    · rw [if_pos h2, if_pos h2]
    · rw [if_neg h2, if_neg h2, if_neg h2, if_neg h1, if_neg h1]
theorem walk_loop {w : World} {loose : List Str} {mean : ExcName → Option Value} {mg mb : Str → Option Value} {base h₀ : Heap} {outer : List Env} {news : List (Addr × Obj)} {s : Shared} {L fa r : Addr} {M u : Str → Option Value}
    {dp un : Nat} {gd : Option (List Code)} {Q : Flow → Shared → Prop} {E : Value → Shared → Prop} {ll : Addr} {ocl : Obj} {vs : List Value} {ns : List Int} {mm a b : Int} {ta t₀ u₀ v₀ : Tok} {pv : Value} {A₀ : Around} {p0 p1 p2 p3 p4 p5 : Pos} {n : Nat}
    {body : List Stmt} {scope : Scope} (hc : lawEnd = some (body, scope)) (hrg : IsRange s.heap r 0 b 1 t₀ u₀ v₀) (hb : b = (n : Int)) (hn : n ≤ 1000)
    (B : Below A₀ base outer h₀) (F : Fr h₀ L s.heap (endM u M pv (.int a ta))) (X : (K w.params).In h₀) (T : Top topProg loose mean mg mb h₀) (N : News h₀ L s.heap news)
    (n6 : (L + 1 + 1 + 1 + 1 + 1 + 1 + 1 + 1 + 1, ocl) ∈ news) (n8 : (ll, LCg.lst vs) ∈ news) (dl' : ocl.data = .cell (some (.ref ll))) (hi : IntsAre vs ns) (pos' : 0 < mm) (le : mm ≤ 200) (len : (ns.length : Int) = mm) (lt : ∀ x ∈ ns, 0 ≤ x ∧ x < mm) (ha : 0 ≤ a ∧ a < mm)
    (done : ∀ u' t' h' tk', Fr h₀ L h' (endM u' M pv (.int (turns ns mm n a) t')) → News h₀ L h' news → Q .next { s with heap := h', toks := tk' }) :
    wpAny (model P0 w) ⟨none, dp, some (envOfC "law" scope L fa (.ref 301) :: outer), gd, un⟩ (pyIter (.ref r)) (fun it s₂ => TurnsAt P0 w ⟨none, dp, some (envOfC "law" scope L fa (.ref 301) :: outer), gd, un⟩ h₀ (envOfC "law" scope L fa (.ref 301)) (.Name "k" p0)
      [.Assign [.Name "at" p1] (.Subscript (.Name "leads" p2) (.Name "at" p3) p4) p5] Q E it s₂) E s := by
  subst hb
  refine for_range (n := n) (fun i m' nx => nx = news ∧ ∃ u t, m' = endM u M pv (.int (turns ns mm i a) t)) rfl hrg (range_small (by omega) (by omega) (by decide)) ((range_size (by omega)).trans (by omega)) F N ⟨rfl, u, ta, rfl⟩ (fun _ _ => rfl) ?_ ?_
  · rintro i t m₁ nx h tk own hi' ⟨rfl, u', t', rfl⟩ _ _ F' N'
    refine walk_turn hc B F' X T N' (List.mem_append_left _ n6) (List.mem_append_left _ n8) dl' (row_at hi len (turns_range pos' len lt ha i)) (turns_range pos' len lt ha i) le ?_
    intro u'' t'' h' tk' F3 N3
    exact TurnEnd.next F3 N3 (fun p hp => List.mem_append_right _ hp) (fun p hp => List.mem_append_left _ hp) rfl ⟨rfl, u'', t'', rfl⟩
  · rintro m₁ nx h tk ⟨rfl, u', t', rfl⟩ _ F' N'
    exact done u' t' h tk F' N'
theorem circle_P {w : World} {loose : List Str} {mean : ExcName → Option Value} {mg mb : Str → Option Value} {A₀ : Around} {base h₀ : Heap} {outer : List Env} {news : List (Addr × Obj)} {s : Shared} {L : Addr} {m : Str → Option Value} {env : Env}
    {dp un : Nat} {gd : Option (List Code)} {Q E : Value → Shared → Prop} {ll : Addr} {vs : List Value} {ns : List Int} {mm p : Int} {tp : Tok} (hi : IntsAre vs ns) (pos' : 0 < mm) (le : mm ≤ 200) (len : (ns.length : Int) = mm) (lt : ∀ x ∈ ns, 0 ≤ x ∧ x < mm) (hp : 0 ≤ p ∧ p < mm)
    (B : Below A₀ base outer h₀) (F : Fr h₀ L s.heap m) (X : (K w.params).In h₀) (N : News h₀ L s.heap news) (T : Top topProg loose mean mg mb h₀) (hf : env.frame = some L) (hke : env.scope.kind = .function) (n8 : (ll, LCg.lst vs) ∈ news) (hd : dp + 3 < recursionLimit)
    (hper : ∀ c, CircIs ns mm p mm.toNat c → 1 ≤ c ∧ c ≤ 200)
    (h : ∀ c t h' tk', Fr h₀ L h' m → News h₀ L h' news → CircIs ns mm p mm.toNat c → 1 ≤ c ∧ c ≤ 200 → Q (.int c t) { s with heap := h', toks := tk' }) :
    wpAny (model P0 w) ⟨none, dp, some (env :: outer), gd, un⟩ (call (.ref 297) [.ref ll, .int p tp]) Q E s :=
  circle_N hi pos' le len lt hp B F X N T hf hke n8 hd fun c t h' tk' F' N' hc => h c t h' tk' F' N' hc (hper c hc)
local macro_rules | `(tactic| k_all) => `(tactic| assumption)
local macro_rules | `(tactic| walk_at "call ref") => `(tactic| (k_here; k_dflt (show wpAny _ _ (call (Value.ref 297) _) _ _ _; refine' Mine.circle_P ?hi ?pos ?le ?len ?lt ?hp ?B ?F ?X ?N ?T ?hf ?hk ?n8 ?hd ?hper ?_; (case B => k_asm); (case F => k_asm); (case X => k_asm); (case N => k_asm); (case T => k_asm); (case hf => exact rfl); (case hk => exact rfl); (case n8 => k_mem); (case hi => assumption); (case pos => assumption); (case le => assumption); (case len => assumption); (case lt => assumption); (case hp => assumption); (case hd => k_room); (case hper => assumption)); intro c' t' h' tk' F' N' hci hcb))
local macro_rules | `(tactic| walk_at "call ref") => `(tactic| (k_here; k_dflt (show wpAny _ _ (call (Value.ref 165) [_, _, _, _, _]) _ _ _; refine' Mine.pbkdfk_R ?R ?sub ?n6 ?n7 ?n8 ?hb1 ?hb2 ?hz1 ?hz2 ?hr1 ?hr2 ?B ?F ?X ?N ?T ?hf ?hk ?hd ?hu ?_; (case B => k_asm); (case F => k_asm); (case X => k_asm); (case N => k_asm); (case T => k_asm); (case hf => exact rfl); (case hk => exact rfl); (case R => assumption); (case sub => (repeat (first | with_reducible assumption | refine' Mine.sub_cons ?_))); (case n6 => k_mem); (case n7 => k_mem); (case n8 => k_mem); (case hb1 => exact rfl); (case hb2 => exact KBa.ints_make (by assumption)); (case hz1 => exact Nat.le_of_ble_eq_true rfl); (case hz2 => exact Nat.le_of_ble_eq_true rfl); (case hr1 => omega); (case hr2 => omega); (case hd => k_room); (case hu => omega)); intro bb t h' tk' F' N' hbI))
local macro_rules | `(tactic| walk_at "exec For Name Call cons nil") => `(tactic| (k_here; (rename Fr _ _ _ _ => lF'); (with_unfolding_all refine' For_turns lF' ?_ (hE := by assumption))))
local macro_rules | `(tactic| walk_at "pyIter ref") => `(tactic| (k_here; (with_reducible show wpAny _ _ (pyIter (Value.ref _)) (fun it s₂ => TurnsAt _ _ _ _ _ _ _ _ _ it s₂) _ _); k_dflt (refine Mine.stop_here ?_)))
set_option maxHeartbeats 4000000 in
theorem law_end {w : World} {loose : List Str} {mean : ExcName → Option Value} {mg mb : Str → Option Value} {dp un : Nat} {gd : Option (List Code)} {A₀ : Around} {base h₀ : Heap} {outer : List Env} {s : Shared} {Q : Flow → Shared → Prop} {E : Value → Shared → Prop}
    {L fa ll dl x : Addr} {M : Str → Option Value} {oNumber oFound oUnlike oHome oDraw oRow oRounds ocl ocm : Obj} {tl hs : List (Addr × Obj)} {ds vs : List Value} {dn ns : List Int} {mm : Int} {tm : Tok} {v6 : Option Value}
    {body : List Stmt} {scope : Scope} (hb : lawEnd = some (body, scope))
    (R : RowIs w x ll (L + 1 + 1 + 1 + 1 + 1 + 1 + 1 + 1 + 1) (L + 1 + 1 + 1 + 1 + 1 + 1 + 1 + 1 + 1 + 1) ocl ocm vs ns mm tm hs) (hsub : ∀ p ∈ hs, p ∈ tl)
    (B : Below A₀ base outer h₀) (F : Fr h₀ L s.heap M) (X : (K w.params).In h₀) (T : Top topProg loose mean mg mb h₀)
    (N : News h₀ L s.heap ((ll, LCg.lst vs) :: (dl, LCg.lst ds) :: Cells L ocm ocl oNumber oFound oRounds oUnlike oHome oRow oDraw tl))
    (dm : ocm.data = .cell (some (.int mm tm))) (dl' : ocl.data = .cell (some (.ref ll))) (d2 : oDraw.data = .cell (some (.ref dl))) (d3 : oRow.data = .cell (some (.ref x))) (d6 : oRounds.data = .cell v6)
    (a1 : Off L ll) (a2 : Off L dl) (t6 : ∀ p ∈ tl, p.1 ≠ L + 1 + 1 + 1 + 1 + 1 + 1)
    (hi : IntsAre vs ns) (hdn : IntsAre ds dn) (hdl : dn.length = 10) (pos' : 0 < mm) (le : mm ≤ 200) (len : (ns.length : Int) = mm) (lt : ∀ x ∈ ns, 0 ≤ x ∧ x < mm) (hd : dp + 20 < recursionLimit) (hu : un + 100 < cLine)
    {p q : Int} (hp8 : (dn.getD (8 : Int).toNat 0).fmod mm = p) (hq9 : (dn.getD (9 : Int).toNat 0).fmod 200 = q)
    (hper : ∀ c, CircIs ns mm (turns ns mm mm.toNat p) mm.toNat c → 1 ≤ c ∧ c ≤ 200)
    (hfin : ∀ c, CircIs ns mm (turns ns mm mm.toNat p) mm.toNat c → turns ns mm (mm + q).toNat p = turns ns mm ((mm + q - mm).fmod c).toNat (turns ns mm mm.toNat p))
    (hE : PassesOwn (model P0 w) ⟨none, dp, some (envOfC "law" scope L fa (.ref 301) :: outer), gd, un⟩ (envOfC "law" scope L fa (.ref 301)) E)
    (h : ∀ h' tk' m', Fr h₀ L h' m' → GrownAt 299 h' → Q (.ret (.bool true)) { s with heap := h', toks := tk' }) :
    wpAny (model P0 w) ⟨none, dp, some (envOfC "law" scope L fa (.ref 301) :: outer), gd, un⟩ (execs body (envOfC "law" scope L fa (.ref 301))) Q E s := by
  have item : ∀ j : Nat, j < 10 → ∃ t, ds[j]? = some (.int (dn.getD j 0) t) := fun j hj => hdn.get j (dn.getD j 0) (by rw [List.getD_eq_getElem?_getD, List.getElem?_eq_getElem (by omega), Option.getD_some])
  obtain ⟨ta8, h8⟩ := item 8 (by decide)
  obtain ⟨ta9, h9⟩ := item 9 (by decide)
  have hx8 : ds[(8 : Int).toNat]? = some (.int (dn.getD 8 0) ta8) := h8
  have hx9 : ds[(9 : Int).toNat]? = some (.int (dn.getD 9 0) ta9) := h9
  have hp : 0 ≤ p ∧ p < mm := hp8 ▸ ⟨Int.fmod_nonneg_of_pos _ pos', Int.fmod_lt_of_pos _ pos'⟩
  have hq : 0 ≤ q ∧ q < 200 := hq9 ▸ ⟨Int.fmod_nonneg_of_pos _ (by decide), Int.fmod_lt_of_pos _ (by decide)⟩
  have hat := turns_range pos' len lt hp mm.toNat
  dsimp only [Cells] at N
  have b1 := off_lt a1
  have b2 := off_lt a2
  cases hb
  have hi0 : IntsAre vs ns := hi
  (try k_fold)
  k_steps
  refine go_on ?_
  rename IsRange _ _ _ _ _ _ _ _ => hr1
  rename Fr _ _ _ _ => F1
  rename News _ _ _ _ => N1
  rename _ = Data.cell (some (Value.int (mm + _) _)) => d6'
  rw [hp8] at F1
  rw [hq9] at d6'
  have F1' := frEq (m' := endM M M (.int p (s.toks + 1)) (.int p (s.toks + 1))) F1 fun z => by
    unfold endM
    by_cases h1 : z = "k"
    · subst h1; rfl
    · rw [if_neg h1]
  refine walk_loop (n := mm.toNat) rfl hr1 (by omega) (by omega) B F1' X T N1 (by k_mem) (by k_mem) dl' hi0 pos' le len lt hp ?_
  intro u1 t1 h1 tk1 F2 N2
  clear F1 F1' N1
  show wpAny _ _ _ _ _ _
  change Fr h₀ L h1 (fun z => if z = "k" then u1 z else if z = "at" then some (.int (turns ns mm mm.toNat p) t1) else if z = "point" then some (.int p (s.toks + 1)) else M z) at F2
  (try k_fold)
  k_steps
  refine go_on ?_
  rename IsRange _ _ _ _ _ _ _ _ => hr2
  rename Fr _ _ _ _ => F3
  rename News _ _ _ _ => N3
  rename CircIs _ _ _ _ _ => hci
  rename _ ∧ _ ≤ (200 : Int) => hcb
  have hfin' := hfin _ hci
  have hr0 := Int.fmod_nonneg_of_pos (mm + q - mm) (Int.lt_of_lt_of_le Int.zero_lt_one hcb.1)
  have hr9 := Int.fmod_lt_of_pos (mm + q - mm) (Int.lt_of_lt_of_le Int.zero_lt_one hcb.1)
  have F3' : Fr h₀ L _ (endM u1 M (.int p (s.toks + 1)) (.int (turns ns mm mm.toNat p) t1)) := F3
  refine walk_loop rfl hr2 (Int.toNat_of_nonneg hr0).symm (by omega) B F3' X T N3 (by k_mem) (by k_mem) dl' hi0 pos' le len lt hat ?_
  intro u2 t2 h2 tk2 F4 N4
  clear F3 F3' N3
  rw [← hfin'] at F4
  have hrr := turns_range pos' len lt hp (mm + q).toNat
  have hz1 : KBa.In [p] := fun n hn => by rw [List.mem_singleton.mp hn]; omega
  have hz2 : KBa.In [turns ns mm (mm + q).toNat p] := fun n hn => by rw [List.mem_singleton.mp hn]; omega
  show wpAny _ _ _ _ _ _
  change Fr h₀ L h2 (fun z => if z = "k" then u2 z else if z = "at" then some (.int (turns ns mm (mm + q).toNat p) t2) else if z = "point" then some (.int p (s.toks + 1)) else M z) at F4
  (try k_fold)
  k_steps
  rename Fr _ _ _ _ => F5
  rename KBw.bInts _ = [turns _ _ _ _] => e9
  have e10 : ∀ a : Int, a = 0 → a + [p].sum = p := fun a h => by subst h; simp only [List.sum_cons, List.sum_nil]; omega
  rw [e10 (KBw.bInts #[]).sum rfl] at e9
  rw [beq_bytes e9 (KBa.ints_make hz2), decide_eq_true rfl]
  rename News _ _ _ _ => N5
  exact h _ _ _ F5 (row_grown (s := { s with heap := _ }) R (fun p hp => by
    have hq := hsub p hp
    repeat (first | exact hq | refine List.Mem.tail _ ?_)) N5)
end Mine
end

section
set_option maxRecDepth 100000
namespace Mine
open PySem PySem.W PyProof.Rows
theorem turns_add (ns : List Int) (mm : Int) (j k : Nat) (x : Int) : turns ns mm (j + k) x = turns ns mm j (turns ns mm k x) := by
  induction j with
  | zero => rw [Nat.zero_add]; rfl
  | succ j ih => rw [Nat.add_right_comm]; show stp ns mm _ = stp ns mm _; rw [ih]
/-- more pigeons than holes -/
theorem holes : ∀ (n : Nat) (f : Nat → Nat), (∀ i, i ≤ n → f i < n) → ∃ i j, i < j ∧ j ≤ n ∧ f i = f j
  | 0, f, h => absurd (h 0 (Nat.le_refl _)) (Nat.not_lt_zero _)
  | n + 1, f, h => by
    by_cases hc : ∃ i, i ≤ n ∧ f i = f (n + 1)
    · obtain ⟨i, hi, e⟩ := hc
      exact ⟨i, n + 1, by omega, Nat.le_refl _, e⟩
    · have hne : ∀ i, i ≤ n → f i ≠ f (n + 1) := fun i hi e => hc ⟨i, hi, e⟩
      obtain ⟨i, j, h1, h2, h3⟩ := holes n (fun i => if f i < f (n + 1) then f i else f i - 1) (fun i hi => by
        have a := hne i hi
        have b := h i (by omega)
        have c := h (n + 1) (Nat.le_refl _)
        (try dsimp only)
        split <;> omega)
      refine ⟨i, j, h1, by omega, ?_⟩
      have a := hne i (by omega)
      have b := hne j h2
      (try dsimp only at h3)
      split at h3 <;> split at h3 <;> omega
section
variable {ns : List Int} {mm : Int} {cs : List Int}
theorem per_after (pos : 0 < mm) (len : (ns.length : Int) = mm) (lt : ∀ x ∈ ns, 0 ≤ x ∧ x < mm) {x : Int} (hx : 0 ≤ x ∧ x < mm) {m : Nat} (hm : mm.toNat ≤ m) : ∃ k, 1 ≤ k ∧ k ≤ mm.toNat ∧ turns ns mm k (turns ns mm m x) = turns ns mm m x := by
  have hr := turns_range pos len lt hx
  obtain ⟨i, j, h1, h2, h3⟩ := holes mm.toNat (fun i => (turns ns mm i x).toNat) (fun i _ => by have := hr i; (try dsimp only); omega)
  have e : turns ns mm i x = turns ns mm j x := by have a := hr i; have b := hr j; (try dsimp only at h3); omega
  have ep : turns ns mm (j - i) (turns ns mm i x) = turns ns mm i x := by rw [← turns_add, show j - i + i = j by omega, e]
  refine ⟨j - i, by omega, by omega, ?_⟩
  have em : turns ns mm m x = turns ns mm (m - i) (turns ns mm i x) := by rw [← turns_add, show m - i + i = m by omega]
  rw [em, ← turns_add, Nat.add_comm, turns_add, ep]
theorem turns_mul {c : Nat} {x : Int} (h : turns ns mm c x = x) : ∀ m, turns ns mm (c * m) x = x
  | 0 => rfl
  | m + 1 => by rw [Nat.mul_succ, turns_add, h, turns_mul h m]
theorem turns_mod {c : Nat} {x : Int} (h : turns ns mm c x = x) (k : Nat) : turns ns mm k x = turns ns mm (k % c) x := by
  have e : k = k % c + c * (k / c) := by rw [Nat.mod_add_div]
  conv => lhs; rw [e, turns_add, turns_mul h]
/-- who comes home after so many rounds: told by the circle -/
theorem home_iff (pos : 0 < mm) (len : (ns.length : Int) = mm) (lt : ∀ x ∈ ns, 0 ≤ x ∧ x < mm) {x c : Int} (hx : 0 ≤ x ∧ x < mm) (hc : CircIs ns mm x mm.toNat c) : 0 ≤ c ∧ c ≤ mm ∧ ∀ r : Nat, 1 ≤ r → (turns ns mm r x = x ↔ c ≠ 0 ∧ r % c.toNat = 0) := by
  rcases hc with ⟨rfl, hno⟩ | ⟨k, rfl, h1, h2, h3, h4⟩
  · refine ⟨by omega, by omega, fun r hr => ⟨fun e => ?_, fun h => absurd rfl h.1⟩⟩
    have e2 := turns_mul e mm.toNat
    have hle : mm.toNat ≤ r * mm.toNat := Nat.le_mul_of_pos_left _ hr
    obtain ⟨k, k1, k2, k3⟩ := per_after pos len lt hx hle
    rw [e2] at k3
    exact absurd k3 (hno k k1 k2)
  · refine ⟨by omega, by omega, fun r hr => ?_⟩
    rw [Int.toNat_natCast]
    constructor
    · intro e
      refine ⟨by omega, ?_⟩
      rcases Nat.eq_zero_or_pos (r % k) with h | h
      · exact h
      · rw [turns_mod h3] at e
        exact absurd e (h4 _ h (Nat.mod_lt _ (by omega)))
    · rintro ⟨_, h⟩
      rw [turns_mod h3, h]
      rfl
theorem plain_per (pos : 0 < mm) (le7 : mm ≤ 7) (len : (ns.length : Int) = mm) (lt : ∀ x ∈ ns, 0 ≤ x ∧ x < mm) {p : Int} (hp : 0 ≤ p ∧ p < mm) : ∀ c, CircIs ns mm (turns ns mm mm.toNat p) mm.toNat c → 1 ≤ c ∧ c ≤ 200 := by
  intro c hc
  obtain ⟨h1, h2, h3⟩ := home_iff pos len lt (turns_range pos len lt hp mm.toNat) hc
  obtain ⟨k, k1, _, k3⟩ := per_after pos len lt hp (Nat.le_refl _)
  have := ((h3 k k1).mp k3).1
  omega
theorem plain_fin (pos : 0 < mm) (le7 : mm ≤ 7) (len : (ns.length : Int) = mm) (lt : ∀ x ∈ ns, 0 ≤ x ∧ x < mm) {p q : Int} (hp : 0 ≤ p ∧ p < mm) (hq : 0 ≤ q) : ∀ c, CircIs ns mm (turns ns mm mm.toNat p) mm.toNat c →
    turns ns mm (mm + q).toNat p = turns ns mm ((mm + q - mm).fmod c).toNat (turns ns mm mm.toNat p) := by
  intro c hc
  obtain ⟨b1, _⟩ := plain_per pos le7 len lt hp c hc
  have e1 : (mm + q).toNat = q.toNat + mm.toNat := by omega
  have e2 : ((mm + q - mm).fmod c).toNat = q.toNat % c.toNat := by
    rw [show mm + q - mm = q by omega, Int.fmod_eq_emod_of_nonneg _ (by omega)]
    rw [Int.toNat_emod hq (by omega)]
  rw [e1, turns_add, e2]
  rcases hc with ⟨rfl, _⟩ | ⟨k, rfl, _, _, h3, _⟩
  · omega
  · rw [Int.toNat_natCast]
    exact turns_mod h3 _
end
end Mine
end

section
set_option maxRecDepth 100000
namespace Mine
open PySem PySem.W PyProof.Rows
section
variable {ns : List Int} {mm : Int} {cs : List Int}
/-- how many of the first m points stand on circles of c -/
def onC (cs : List Int) (m c : Nat) : Nat := (cs.take m).count (c : Int)
theorem onC_succ {cs : List Int} {m : Nat} {x : Int} (h : cs[m]? = some x) (c : Nat) : onC cs (m + 1) c = onC cs m c + if x = (c : Int) then 1 else 0 := by
  unfold onC
  rw [List.take_add_one, h, Option.toList_some, List.count_append, List.count_singleton]
  by_cases hx : x = (c : Int)
  · rw [if_pos hx, hx]; simp
  · rw [if_neg hx, if_neg (by simpa using hx)]
theorem home_step (pos : 0 < mm) (le7 : mm ≤ 7) (len : (ns.length : Int) = mm) (lt : ∀ x ∈ ns, 0 ≤ x ∧ x < mm) (hcs : Circs ns mm cs mm.toNat) {m : Nat} (hm : m < mm.toNat) :
    ∃ x : Nat, x ≤ 7 ∧ cs[m]? = some (x : Int) ∧ ∀ r : Nat, 1 ≤ r → (homePts ns mm r (m + 1)).length = (homePts ns mm r m).length + if x ≠ 0 ∧ r % x = 0 then 1 else 0 := by
  have hl : m < cs.length := by rw [hcs.1]; exact hm
  have hg : cs[m]? = some cs[m] := List.getElem?_eq_getElem hl
  obtain ⟨h1, h2, h3⟩ := home_iff pos len lt (by omega) (hcs.2 m _ hg)
  refine ⟨cs[m].toNat, by omega, by rw [hg]; congr 1; omega, fun r hr => ?_⟩
  rw [homePts_succ]
  by_cases h : turns ns mm r (m : Int) = (m : Int)
  · rw [if_pos h]
    have := (h3 r hr).mp h
    rw [if_pos ⟨by omega, this.2⟩]
  · rw [if_neg h]
    rw [if_neg]
    rintro ⟨a, b⟩
    exact h ((h3 r hr).mpr ⟨by omega, b⟩)
/-- the points that so many rounds bring home, by the circles -/
theorem home_sums (pos : 0 < mm) (le7 : mm ≤ 7) (len : (ns.length : Int) = mm) (lt : ∀ x ∈ ns, 0 ≤ x ∧ x < mm) (hcs : Circs ns mm cs mm.toNat) : ∀ m, m ≤ mm.toNat →
    (homePts ns mm 1 m).length = onC cs m 1 ∧ (homePts ns mm 2 m).length = onC cs m 1 + onC cs m 2 ∧ (homePts ns mm 3 m).length = onC cs m 1 + onC cs m 3 ∧ (homePts ns mm 4 m).length = onC cs m 1 + onC cs m 2 + onC cs m 4 ∧
    (homePts ns mm 5 m).length = onC cs m 1 + onC cs m 5 ∧ (homePts ns mm 6 m).length = onC cs m 1 + onC cs m 2 + onC cs m 3 + onC cs m 6 ∧ (homePts ns mm 7 m).length = onC cs m 1 + onC cs m 7 ∧
    (homePts ns mm 8 m).length = onC cs m 1 + onC cs m 2 + onC cs m 4 + onC cs m 8 := by
  intro m
  induction m with
  | zero => intro _; refine ⟨rfl, rfl, rfl, rfl, rfl, rfl, rfl, rfl⟩
  | succ m ih =>
    intro hm
    obtain ⟨e1, e2, e3, e4, e5, e6, e7, e8⟩ := ih (by omega)
    obtain ⟨x, hx, hg, hs⟩ := home_step pos le7 len lt hcs (m := m) (by omega)
    have o := onC_succ hg
    rw [hs 1 (by decide), hs 2 (by decide), hs 3 (by decide), hs 4 (by decide), hs 5 (by decide), hs 6 (by decide), hs 7 (by decide), hs 8 (by decide), o 1, o 2, o 3, o 4, o 5, o 6, o 7, o 8, e1, e2, e3, e4, e5, e6, e7, e8]
    have : x = 0 ∨ x = 1 ∨ x = 2 ∨ x = 3 ∨ x = 4 ∨ x = 5 ∨ x = 6 ∨ x = 7 := by omega
    rcases this with rfl | rfl | rfl | rfl | rfl | rfl | rfl | rfl <;> simp <;> omega
theorem homes_eight : homes ns mm 8 = [((homePts ns mm 1 mm.toNat).length : Int), ((homePts ns mm 2 mm.toNat).length : Int), ((homePts ns mm 3 mm.toNat).length : Int), ((homePts ns mm 4 mm.toNat).length : Int), ((homePts ns mm 5 mm.toNat).length : Int), ((homePts ns mm 6 mm.toNat).length : Int), ((homePts ns mm 7 mm.toNat).length : Int), ((homePts ns mm 8 mm.toNat).length : Int)] := rfl
theorem lefts_eight (a b c d e f g h : Int) : ∀ i : Nat, i < 8 → (lefts [a, b, c, d, e, f, g, h] (1 + (i : Int)) (i + 1)).sum = [a, b - a, c - a, d - b, e - a, f - c - b + a, g - a, h - d].getD i 0 := by
  intro i hi
  have : i = 0 ∨ i = 1 ∨ i = 2 ∨ i = 3 ∨ i = 4 ∨ i = 5 ∨ i = 6 ∨ i = 7 := by omega
  rcases this with rfl | rfl | rfl | rfl | rfl | rfl | rfl | rfl <;> simp [lefts, leftTerm, signs] <;> omega
theorem plain_M (pos : 0 < mm) (le7 : mm ≤ 7) (len : (ns.length : Int) = mm) (lt : ∀ x ∈ ns, 0 ≤ x ∧ x < mm) (hcs : Circs ns mm cs mm.toNat) : ∀ i : Nat, i < 8 → (lefts (homes ns mm 8) (1 + (i : Int)) (i + 1)).sum = ((cs.count (1 + (i : Int)) : Nat) : Int) := by
  intro i hi
  rw [homes_eight, lefts_eight _ _ _ _ _ _ _ _ i hi]
  obtain ⟨e1, e2, e3, e4, e5, e6, e7, e8⟩ := home_sums pos le7 len lt hcs mm.toNat (Nat.le_refl _)
  have ec : ∀ c : Nat, onC cs mm.toNat c = cs.count (c : Int) := fun c => by unfold onC; rw [List.take_of_length_le (by rw [hcs.1]; exact Nat.le_refl _)]
  rw [e1, e2, e3, e4, e5, e6, e7, e8]
  have : i = 0 ∨ i = 1 ∨ i = 2 ∨ i = 3 ∨ i = 4 ∨ i = 5 ∨ i = 6 ∨ i = 7 := by omega
  rcases this with rfl | rfl | rfl | rfl | rfl | rfl | rfl | rfl
  · rw [show (1 + ((0 : Nat) : Int)) = ((1 : Nat) : Int) from rfl, ← ec]; simp
  · rw [show (1 + ((1 : Nat) : Int)) = ((2 : Nat) : Int) from rfl, ← ec]; simp; omega
  · rw [show (1 + ((2 : Nat) : Int)) = ((3 : Nat) : Int) from rfl, ← ec]; simp; omega
  · rw [show (1 + ((3 : Nat) : Int)) = ((4 : Nat) : Int) from rfl, ← ec]; simp; omega
  · rw [show (1 + ((4 : Nat) : Int)) = ((5 : Nat) : Int) from rfl, ← ec]; simp; omega
  · rw [show (1 + ((5 : Nat) : Int)) = ((6 : Nat) : Int) from rfl, ← ec]; simp; omega
  · rw [show (1 + ((6 : Nat) : Int)) = ((7 : Nat) : Int) from rfl, ← ec]; simp; omega
  · rw [show (1 + ((7 : Nat) : Int)) = ((8 : Nat) : Int) from rfl, ← ec]; simp; omega
end
end Mine
end

section
set_option maxRecDepth 100000
namespace Mine
open PySem PySem.W PyProof.Rows
theorem unl_spec (ks : List Int) : (unl ks).Nodup ∧ ∀ k, k ∈ unl ks ↔ k ∈ ks := by
  have gen : ∀ (l σ : List Int), σ.Nodup → (l.foldl step_dedup σ).Nodup ∧ ∀ k, k ∈ l.foldl step_dedup σ ↔ k ∈ σ ∨ k ∈ l := by
    intro l
    induction l with
    | nil => intro σ h; exact ⟨h, fun k => by simp⟩
    | cons c r ih =>
      intro σ h
      have hc : (step_dedup σ c).Nodup ∧ ∀ k, k ∈ step_dedup σ c ↔ k ∈ σ ∨ k = c := by
        unfold step_dedup
        by_cases ha : σ.any (· == c) = true
        · rw [if_pos ha]
          obtain ⟨x, hx, e⟩ := List.any_eq_true.mp ha
          have hcs : c ∈ σ := by rw [← eq_of_beq e]; exact hx
          exact ⟨h, fun k => ⟨.inl, fun q => q.elim id fun q => q ▸ hcs⟩⟩
        · rw [if_neg ha]
          have hcs : c ∉ σ := fun q => ha (List.any_eq_true.mpr ⟨c, q, by simp⟩)
          refine ⟨List.nodup_append.mpr ⟨h, by simp, fun a ha' b hb e => ?_⟩, fun k => by simp⟩
          rw [List.mem_singleton.mp hb] at e
          exact hcs (e ▸ ha')
      obtain ⟨h1, h2⟩ := ih _ hc.1
      refine ⟨h1, fun k => ?_⟩
      rw [List.foldl_cons, h2, hc.2, List.mem_cons, or_assoc]
  obtain ⟨h1, h2⟩ := gen ks [] List.nodup_nil
  exact ⟨h1, fun k => by rw [unl, h2]; simp⟩
section
variable {ns : List Int} {mm : Int} {cs : List Int}
/-- the points that are met after so many rounds -/
def met (ns : List Int) (mm : Int) (k : Nat) : List Nat := (List.range mm.toNat).filter fun y : Nat => decide (((y : Nat) : Int) ∈ points ns mm k mm.toNat)
theorem nodup_filter {p : Nat → Bool} {n : Nat} : ((List.range n).filter p).Nodup := List.Nodup.sublist List.filter_sublist List.nodup_range
theorem nodup_cast {l : List Nat} (h : l.Nodup) : (l.map fun y : Nat => (y : Int)).Nodup := by
  refine List.pairwise_map.mpr (List.Pairwise.imp (fun {a b} hab e => hab ?_) h)
  exact Int.ofNat.inj e
theorem unl_met (pos : 0 < mm) (len : (ns.length : Int) = mm) (lt : ∀ x ∈ ns, 0 ≤ x ∧ x < mm) (k : Nat) : (unl (points ns mm k mm.toNat)).length = (met ns mm k).length := by
  obtain ⟨h1, h2⟩ := unl_spec (points ns mm k mm.toNat)
  refine Nat.le_antisymm ?_ ?_
  · rw [← List.length_map (as := met ns mm k) (fun y : Nat => (y : Int))]
    refine List.Nodup.length_le_of_subset h1 fun x hx => ?_
    have hx' := (h2 x).mp hx
    obtain ⟨a, b⟩ := points_range pos len lt k x hx'
    refine List.mem_map.mpr ⟨x.toNat, List.mem_filter.mpr ⟨List.mem_range.mpr (by omega), ?_⟩, by omega⟩
    rw [show ((x.toNat : Nat) : Int) = x by omega]
    simpa using hx'
  · rw [← List.length_map (as := met ns mm k) (fun y : Nat => (y : Int))]
    refine List.Nodup.length_le_of_subset (nodup_cast nodup_filter) fun x hx => ?_
    obtain ⟨y, hy, rfl⟩ := List.mem_map.mp hx
    have := (List.mem_filter.mp hy).2
    exact (h2 _).mpr (by simpa using this)
theorem mem_met {k y : Nat} : y ∈ met ns mm k ↔ y < mm.toNat ∧ ∃ i : Nat, i < mm.toNat ∧ turns ns mm k (i : Int) = (y : Int) := by
  unfold met points
  rw [List.mem_filter, List.mem_range]
  refine and_congr Iff.rfl ?_
  simp only [decide_eq_true_eq, List.mem_map, List.mem_range]
/-- less and less is lost -/
theorem met_convex (pos : 0 < mm) (len : (ns.length : Int) = mm) (lt : ∀ x ∈ ns, 0 ≤ x ∧ x < mm) (k : Nat) : 2 * (met ns mm (k + 1)).length ≤ (met ns mm k).length + (met ns mm (k + 2)).length := by
  have down : ∀ j y, y ∈ met ns mm (j + 1) → y ∈ met ns mm j := by
    intro j y hy
    obtain ⟨h1, i, h2, h3⟩ := mem_met.mp hy
    have hr := stp_range pos len lt (i : Int)
    refine mem_met.mpr ⟨h1, (stp ns mm (i : Int)).toNat, by omega, ?_⟩
    rw [show (((stp ns mm (i : Int)).toNat : Nat) : Int) = stp ns mm (i : Int) by omega]
    have : turns ns mm (j + 1) (i : Int) = turns ns mm j (turns ns mm 1 (i : Int)) := turns_add ns mm j 1 _
    rw [← h3, this]
    rfl
  -- what a step loses of l, and of the next
  have split : ∀ j, (met ns mm j).length = (met ns mm (j + 1)).length + ((met ns mm j).filter fun y => decide (y ∉ met ns mm (j + 1))).length := by
    intro j
    have e : (met ns mm j).length = ((met ns mm j).filter fun y => decide (y ∈ met ns mm (j + 1))).length + ((met ns mm j).filter fun y => decide (y ∉ met ns mm (j + 1))).length := by
      induction met ns mm j with
      | nil => rfl
      | cons a r ih =>
        by_cases h : a ∈ met ns mm (j + 1)
        · rw [List.filter_cons_of_pos (by simpa using h), List.filter_cons_of_neg (by simpa using h), List.length_cons, List.length_cons]; omega
        · rw [List.filter_cons_of_neg (by simpa using h), List.filter_cons_of_pos (by simpa using h), List.length_cons, List.length_cons]; omega
    have e2 : ((met ns mm j).filter fun y => decide (y ∈ met ns mm (j + 1))).length = (met ns mm (j + 1)).length := by
      refine Nat.le_antisymm ?_ ?_
      · refine List.Nodup.length_le_of_subset (List.Nodup.sublist List.filter_sublist nodup_filter) fun y hy => ?_
        simpa using (List.mem_filter.mp hy).2
      · refine List.Nodup.length_le_of_subset nodup_filter fun y hy => ?_
        exact List.mem_filter.mpr ⟨down j y hy, by simpa using hy⟩
    rw [e2] at e
    exact e
  have key : ((met ns mm (k + 1)).filter fun y => decide (y ∉ met ns mm (k + 2))).length ≤ ((met ns mm k).filter fun y => decide (y ∉ met ns mm (k + 1))).length := by
    rw [← List.length_map (as := (met ns mm k).filter fun y => decide (y ∉ met ns mm (k + 1))) (fun x : Nat => (stp ns mm (x : Int)).toNat)]
    refine List.Nodup.length_le_of_subset (List.Nodup.sublist List.filter_sublist nodup_filter) fun y hy => ?_
    obtain ⟨hy1, hy2⟩ := List.mem_filter.mp hy
    have hy2' : y ∉ met ns mm (k + 2) := by simpa using hy2
    obtain ⟨h1, i, h2, h3⟩ := mem_met.mp hy1
    have hr := turns_range pos len lt (x := (i : Int)) (by omega) k
    have ex : (((turns ns mm k (i : Int)).toNat : Nat) : Int) = turns ns mm k (i : Int) := by omega
    have h3' : stp ns mm (turns ns mm k (i : Int)) = (y : Int) := h3
    refine List.mem_map.mpr ⟨(turns ns mm k (i : Int)).toNat, List.mem_filter.mpr ⟨mem_met.mpr ⟨by omega, i, h2, ex.symm⟩, ?_⟩, ?_⟩
    · have : (turns ns mm k (i : Int)).toNat ∉ met ns mm (k + 1) := fun hq => by
        obtain ⟨_, i', h2', h4⟩ := mem_met.mp hq
        rw [ex] at h4
        refine hy2' (mem_met.mpr ⟨h1, i', h2', ?_⟩)
        show stp ns mm (turns ns mm (k + 1) (i' : Int)) = _
        rw [h4]
        exact h3'
      simpa using this
    · rw [ex, h3', Int.toNat_natCast]
  have s1 := split k
  have s2 : (met ns mm (k + 1)).length = (met ns mm (k + 2)).length + ((met ns mm (k + 1)).filter fun y => decide (y ∉ met ns mm (k + 2))).length := split (k + 1)
  omega
theorem met_zero : (met ns mm 0).length = mm.toNat := by
  have : met ns mm 0 = List.range mm.toNat := by
    unfold met
    refine List.filter_eq_self.mpr fun y hy => ?_
    have hy' := List.mem_range.mp hy
    simp only [decide_eq_true_eq, points, List.mem_map, List.mem_range]
    exact ⟨y, hy', rfl⟩
  rw [this, List.length_range]
theorem unlikes_at (pos : 0 < mm) (len : (ns.length : Int) = mm) (lt : ∀ x ∈ ns, 0 ≤ x ∧ x < mm) : ∀ k, k ≤ 8 → (unlikes ns mm 8).getD k 0 = ((met ns mm k).length : Int) := by
  intro k hk
  have u := unl_met pos len lt
  have : k = 0 ∨ k = 1 ∨ k = 2 ∨ k = 3 ∨ k = 4 ∨ k = 5 ∨ k = 6 ∨ k = 7 ∨ k = 8 := by omega
  rcases this with rfl | rfl | rfl | rfl | rfl | rfl | rfl | rfl | rfl
  · show mm = _
    rw [met_zero]; omega
  · show (((unl (points ns mm 1 mm.toNat)).length : Nat) : Int) = _; rw [u]
  · show (((unl (points ns mm 2 mm.toNat)).length : Nat) : Int) = _; rw [u]
  · show (((unl (points ns mm 3 mm.toNat)).length : Nat) : Int) = _; rw [u]
  · show (((unl (points ns mm 4 mm.toNat)).length : Nat) : Int) = _; rw [u]
  · show (((unl (points ns mm 5 mm.toNat)).length : Nat) : Int) = _; rw [u]
  · show (((unl (points ns mm 6 mm.toNat)).length : Nat) : Int) = _; rw [u]
  · show (((unl (points ns mm 7 mm.toNat)).length : Nat) : Int) = _; rw [u]
  · show (((unl (points ns mm 8 mm.toNat)).length : Nat) : Int) = _; rw [u]
theorem plain_F (pos : 0 < mm) (le7 : mm ≤ 7) (len : (ns.length : Int) = mm) (lt : ∀ x ∈ ns, 0 ≤ x ∧ x < mm) : Ordered true (fewers (unlikes ns mm 8) 8) := by
  have u := unlikes_at pos len lt
  have cv := met_convex pos len lt
  show (fewers (unlikes ns mm 8) 8).Pairwise (· ≥ ·)
  have e : fewers (unlikes ns mm 8) 8 = [(unlikes ns mm 8).getD 0 0 - (unlikes ns mm 8).getD 1 0, (unlikes ns mm 8).getD 1 0 - (unlikes ns mm 8).getD 2 0, (unlikes ns mm 8).getD 2 0 - (unlikes ns mm 8).getD 3 0, (unlikes ns mm 8).getD 3 0 - (unlikes ns mm 8).getD 4 0,
    (unlikes ns mm 8).getD 4 0 - (unlikes ns mm 8).getD 5 0, (unlikes ns mm 8).getD 5 0 - (unlikes ns mm 8).getD 6 0, (unlikes ns mm 8).getD 6 0 - (unlikes ns mm 8).getD 7 0, (unlikes ns mm 8).getD 7 0 - (unlikes ns mm 8).getD 8 0] := rfl
  rw [e, u 0 (by decide), u 1 (by decide), u 2 (by decide), u 3 (by decide), u 4 (by decide), u 5 (by decide), u 6 (by decide), u 7 (by decide), u 8 (by decide)]
  have c0 := cv 0
  have c1 := cv 1
  have c2 := cv 2
  have c3 := cv 3
  have c4 := cv 4
  have c5 := cv 5
  have c6 := cv 6
  simp only [Nat.zero_add, Nat.reduceAdd] at c0 c1 c2 c3 c4 c5 c6
  simp only [List.pairwise_cons, List.mem_cons, List.not_mem_nil, or_false, forall_eq_or_imp, forall_eq, List.Pairwise.nil, and_true, ge_iff_le, false_implies, implies_true]
  omega
theorem plain_8 (pos : 0 < mm) (le7 : mm ≤ 7) (len : (ns.length : Int) = mm) (lt : ∀ x ∈ ns, 0 ≤ x ∧ x < mm) (hcs : Circs ns mm cs mm.toNat) : (unlikes ns mm 8).getD 8 0 = mm - ((cs.count 0 : Nat) : Int) := by
  rw [unlikes_at pos len lt 8 (by decide)]
  have step : ∀ m, m ≤ mm.toNat → ((List.range m).filter fun y : Nat => decide (((y : Nat) : Int) ∈ points ns mm 8 mm.toNat)).length + onC cs m 0 = m := by
    intro m
    induction m with
    | zero => intro _; rfl
    | succ m ih =>
      intro hm
      have hl : m < cs.length := by rw [hcs.1]; exact hm
      have hg : cs[m]? = some cs[m] := List.getElem?_eq_getElem hl
      obtain ⟨h1, h2, h3⟩ := home_iff pos len lt (by omega) (hcs.2 m _ hg)
      rw [List.range_succ, List.filter_append, List.length_append, onC_succ hg]
      have hin : (m : Int) ∈ points ns mm 8 mm.toNat ↔ cs[m] ≠ 0 := by
        unfold points
        rw [List.mem_map]
        constructor
        · rintro ⟨i, hi, e⟩
          have hi' := List.mem_range.mp hi
          obtain ⟨k, k1, _, k3⟩ := per_after pos len lt (x := (i : Int)) (by omega) (m := 8) (by omega)
          rw [e] at k3
          exact ((h3 k k1).mp k3).1
        · intro hne
          have hk1 : 1 ≤ cs[m].toNat := by omega
          have hp : turns ns mm (cs[m].toNat) (m : Int) = (m : Int) := (h3 _ hk1).mpr ⟨hne, Nat.mod_self _⟩
          have h8 := turns_mul hp 8
          have hle : 8 ≤ cs[m].toNat * 8 := Nat.le_mul_of_pos_left _ hk1
          have hr := turns_range pos len lt (x := (m : Int)) (by omega) (cs[m].toNat * 8 - 8)
          refine ⟨(turns ns mm (cs[m].toNat * 8 - 8) (m : Int)).toNat, List.mem_range.mpr (by omega), ?_⟩
          rw [show (((turns ns mm (cs[m].toNat * 8 - 8) (m : Int)).toNat : Nat) : Int) = turns ns mm (cs[m].toNat * 8 - 8) (m : Int) by omega, ← turns_add, show 8 + (cs[m].toNat * 8 - 8) = cs[m].toNat * 8 by omega]
          exact h8
      have ih' := ih (by omega)
      by_cases h0 : cs[m] = 0
      · rw [List.filter_cons_of_neg (by simpa using fun q => (hin.mp q) h0), if_pos (by rw [h0]; rfl)]
        show _ + 0 + _ = _
        omega
      · rw [List.filter_cons_of_pos (by simpa using hin.mpr h0), if_neg (by simpa using h0)]
        show _ + 1 + _ = _
        omega
  have := step mm.toNat (Nat.le_refl _)
  have ec : onC cs mm.toNat 0 = cs.count 0 := by unfold onC; rw [List.take_of_length_le (by rw [hcs.1]; exact Nat.le_refl _)]; rfl
  unfold met
  rw [ec] at this
  omega
end
end Mine
end

section
set_option maxRecDepth 100000
namespace Mine
open PySem PySem.W PySem.Spec PySem.Calls PyProof.Rows
theorem unlikes_len (ns : List Int) (mm : Int) (k : Nat) : (unlikes ns mm k).length = k + 1 := by simp [unlikes]
theorem law_all {w : World} {loose : List Str} {mean : ExcName → Option Value} {mg mb : Str → Option Value} {dp un : Nat} {gd : Option (List Code)} {A₀ : Around} {base h₀ : Heap} {outer : List Env} {s : Shared} {Q : Flow → Shared → Prop} {E : Value → Shared → Prop}
    {L fa dl ll : Addr} {m : Str → Option Value} {oDraw oRow oHome oUnlike oRounds oFound oNumber ocl ocm : Obj} {ds vs : List Value} {ns dn : List Int} {mm : Int} {tm : Tok}
    {body : List Stmt} {scope : Scope} (hb : lawRow = some (body, scope))
    (B : Below A₀ base outer h₀) (F : Fr h₀ L s.heap m) (X : (K w.params).In h₀) (T : Top topProg loose mean mg mb h₀) (C : CodeHd h₀ 301 299)
    (N : News h₀ L s.heap ((ll, LCg.lst vs) :: (dl, LCg.lst ds) :: Cells L ocm ocl oNumber oFound oRounds oUnlike oHome oRow oDraw [(299, tabObj #[])]))
    (d2 : oDraw.data = .cell (some (.ref dl))) (d3 : oRow.data = .cell none) (d4 : oHome.data = .cell none) (d5 : oUnlike.data = .cell none) (d6 : oRounds.data = .cell none) (d7 : oFound.data = .cell none) (d8 : oNumber.data = .cell none) (dl' : ocl.data = .cell (some (.ref ll))) (dm : ocm.data = .cell (some (.int mm tm)))
    (a1 : Off L ll) (a2 : Off L dl) (a3 : Off L 299) (a4 : ll ≠ 299) (a5 : dl ≠ 299)
    (hi : IntsAre vs ns) (hdn : IntsAre ds dn) (hdl : dn.length = 10) (pos : 0 < mm) (le7 : mm ≤ 7) (len : (ns.length : Int) = mm) (lt : ∀ x ∈ ns, 0 ≤ x ∧ x < mm) (hd : dp + 20 < recursionLimit) (hu : un + 100 < cLine)
    (hE : PassesOwn (model P0 w) ⟨none, dp, some (envOfC "law" scope L fa (.ref 301) :: outer), gd, un⟩ (envOfC "law" scope L fa (.ref 301)) E)
    (h : ∀ h' tk' m', Fr h₀ L h' m' → GrownAt 299 h' → Q (.ret (.bool true)) { s with heap := h', toks := tk' }) :
    wpAny (model P0 w) ⟨none, dp, some (envOfC "law" scope L fa (.ref 301) :: outer), gd, un⟩ (execs body (envOfC "law" scope L fa (.ref 301))) Q E s := by
  cases hb
  have le : mm ≤ 200 := by omega
  have hu' : un + 60 < cLine := by omega
  refine law_row rfl rfl B F X T C N d3 dl' dm a1 a2 a3 a4 a5 hi pos le len lt hd hu' ?_
  intro x oRow' hs h1 tk1 F1 N1 d3' R hO
  refine law_home rfl rfl R hO B F1 X T N1 dm dl' d3' d4 d5 d6 d7 a1 a2 pos le len lt hd hu' hE ?_
  intro hl ul ha ua nh nu oHome' oUnlike' oRounds' oFound' v6 v7 h2 tk2 F2 N2 e4 e5 e6 e7 hha hua q3 q2
  refine law_circles rfl rfl B F2 X T N2 (by dsimp only [Cells]; k_mem) (by dsimp only [Cells]; k_mem) (by k_mem) dm dl' hi pos le len lt hd hu' ?_
  intro Dc cys cs h3 tk3 F3 N3 off hcy hcs
  have q1 : Dc ≠ L + 1 + 1 + 1 + 1 + 1 + 1 + 1 + 1 := Ne.symm (off1_mem off (L + 1 + 1 + 1 + 1 + 1 + 1 + 1 + 1, oNumber) (by dsimp only [Cells]; k_mem))
  refine law_numbers (hs := homes ns mm 8) rfl rfl B F3 X T N3 e4 d8 q1 q2 q3 a1 a2 hO hha (homes_len ns mm 8) (homes_in pos le 8) hcy (plain_M pos le7 len lt hcs) hd hu' hE ?_
  intro u oN' v8' h4 tk4 F4 N4 e8
  refine law_fewer rfl rfl B F4 X T N4 (by dsimp only [Cells]; k_mem) (by k_mem) e5 hua (unlikes_len ns mm 8) hd hu' ?_
  intro Df fys h5 tk5 F5 N5 off5 hfy
  refine law_test (news := (hl, W.listOf ha nh) :: (ll, LCg.lst vs) :: (dl, LCg.lst ds) :: Cells L ocm ocl oN' oFound' oRounds' oUnlike' oHome' oRow' oDraw hs) rfl rfl B F5 X T N5 (by dsimp only [Cells]; k_mem) (by dsimp only [Cells]; k_mem) e5 dm hua (unlikes_len ns mm 8) hcy hfy (by simp [fewers]) (plain_F pos le7 len lt) (plain_8 pos le7 len lt hcs) pos le hd hu ?_
  intro h6 tk6 F6 N6
  have hp : 0 ≤ (dn.getD (8 : Int).toNat 0).fmod mm ∧ (dn.getD (8 : Int).toNat 0).fmod mm < mm := ⟨Int.fmod_nonneg_of_pos _ pos, Int.fmod_lt_of_pos _ pos⟩
  exact law_end rfl R (fun p hp => hp) B F6 X T (fun p hp => N6 p (.tail _ (.tail _ (.tail _ (.tail _ hp))))) dm dl' d2 d3' e6 a1 a2 (fun p hp => by have := off_lt (hO p hp); exact neN (by omega)) hi hdn hdl pos le len lt hd hu rfl rfl
    (plain_per pos le7 len lt hp) (plain_fin pos le7 len lt hp (Int.fmod_nonneg_of_pos _ (by decide))) hE h
end Mine
end

open PySem PySem.W PyProof.Rows
local macro_rules | `(tactic| cells_open $x:ident) => `(tactic| (obtain ⟨_, _, _, _, _, _, _, _, _, _, he, _, _, _, _, _, _, _, _, _, _⟩ := Mine.cells_ten $x; subst he))
theorem Mine.lt_map {f : Int → Int} {l : List Int} {mm : Int} (h : 0 < mm) : ∀ x ∈ l.map (fun k' => (f k').fmod mm), 0 ≤ x ∧ x < mm := by
  intro x hx
  obtain ⟨k, _, rfl⟩ := List.mem_map.mp hx
  exact ⟨Int.fmod_nonneg_of_pos _ h, Int.fmod_lt_of_pos _ h⟩
theorem Mine.len_map {f : Int → Int} {mm : Int} (h : 0 < mm) : (((rangeKs 0 (mm - 0).toNat).map f).length : Int) = mm := by
  rw [List.length_map, rangeKs_length]; omega
theorem Mine.many_pos (x : Int) : 0 < 2 + x.fmod 6 := by have := Int.fmod_nonneg_of_pos x (show (0 : Int) < 6 by decide); omega
theorem Mine.many_le (x : Int) : 2 + x.fmod 6 ≤ 7 := by have := Int.fmod_lt_of_pos x (show (0 : Int) < 6 by decide); omega
local macro_rules | `(tactic| walk_at "execs cons") => `(tactic| (k_here; (with_reducible show wpAny _ _ (execs (Stmt.Assign [Expr.Name _ _] (Expr.Call _ [Expr.Lambda _ _ _ _, _] _ _) _ :: _) _) _ _ _); k_dflt (refine Mine.stop_here ?_)))
set_option maxRecDepth 100000 in
set_option maxHeartbeats 8000000 in
theorem PySem.Challenge.cw_at5024_01_holds : PySem.Challenge.rw_at5024_01.Holds := by
  refine Mine.hd ?_
  change (WalkO _ _ _ (kmHook Mine.K _ _ _).says _ _ _ _)
  k_fill
  intro w s₀ s₁ mg mb G Y fa o pm cd doc dV kV ho hd hcd hD hmg hg args vals as hpre hlay hrd hwl hlo
  have KX := km_in_of Y
  km_tabs Y
  have X := (Ground.X G).1
  have V := (Ground.X G).2
  refine Ground.open G ?_
  intro T B D TE TW
  try (refine guard_noD D (by decide +kernel) ?_; clear D)
  km_lay T hmg ho hd cd
  clear hmg
  wrow_args hpre hlay hrd hwl hlo
  all_goals (
    first | refine callC_kw (enter_call ?_) | refine enter_call ?_
    w_top on
    kn_posts
    w_call any ho hd hcd hD T F
    clear hd
    kn_ghosts F T
    k_drop
    skip)
  (all_goals try k_fold)
  k_steps
  refine Mine.go_on ?_
  rename News _ _ _ _ => N2
  rename Fr _ _ _ _ => F2
  k_dflt (refine' Mine.law_all rfl ?B F2 ?X ?T ?C ?N ?d2 ?d3 ?d4 ?d5 ?d6 ?d7 ?d8 ?dl ?dm ?a1 ?a2 ?a3 ?a4 ?a5 ?hi ?hdn ?hdl (Mine.many_pos _) (Mine.many_le _) (Mine.len_map (Mine.many_pos _)) (Mine.lt_map (Mine.many_pos _)) ?hd ?hu ?hE ?h)
  case N =>
    refine fun p hp => N2 p ?_
    revert p
    dsimp only [Mine.Cells]
    k_dflt (refine List.forall_mem_cons.mpr ⟨List.Mem.head _, List.forall_mem_cons.mpr ⟨List.Mem.tail _ (List.Mem.head _), ?_⟩⟩; lcg_sub)
  case B => k_dflt k_asm
  case X => k_dflt k_asm
  case T => k_dflt k_asm
  case C => k_dflt assumption
  case d2 => k_dflt assumption
  case d3 => k_dflt assumption
  case d4 => k_dflt assumption
  case d5 => k_dflt assumption
  case d6 => k_dflt assumption
  case d7 => k_dflt assumption
  case d8 => k_dflt assumption
  case dl => k_dflt assumption
  case dm => k_dflt assumption
  case hi => k_dflt assumption
  case hdn => k_dflt assumption
  case hdl => rw [List.length_map, rangeKs_length]; rfl
  case a1 => dsimp only [Mine.Off]; omega
  case a2 => dsimp only [Mine.Off]; omega
  case a3 => dsimp only [Mine.Off]; omega
  case a4 => refine neN ?_; omega
  case a5 => refine neN ?_; omega
  case hd => first | decide
  case hu => first | decide
  case hE => first | (k_dflt passes_own) | (with_unfolding_all passes_own)
  case h =>
    intro h' tk' m' F' g'
    refine And.intro ?_ ⟨g', trivial⟩
    wrow_close
