import PyProof.Rows.All
import Wide.All
import OpenK.AllK
import Wide.FinOn
import Lean
import PySem.Challenge.RW_ik0065_01
set_option Elab.async false
set_option linter.all false
namespace Mine
section
open PySem PySem.W PySem.W.X PyProof.Rows
set_option maxRecDepth 100000 in
set_option maxHeartbeats 8000000 in
theorem said : OpenLaw.wellSaid PySem.Challenge.rw_ik0065_01 = true := by
  refine (congrFun PySem.W.Fast.te9446332074065402090 PySem.Challenge.rw_ik0065_01).trans ?_
  delta PySem.W.Fast.tw9446332074065402090
  change (_ && _) = true
  repeat' (with_reducible refine look_both ?_ ?_)
  all_goals try (delta PySem.W.Fast.tw17960256430627541270; change (_ && _) = true; repeat' (with_reducible refine look_both ?_ ?_))
  all_goals try (delta PySem.W.Fast.tw2436336058641802641; change (_ && _) = true; repeat' (with_reducible refine look_both ?_ ?_))
  all_goals try (delta PySem.W.Fast.tw12908688711261696721; change (_ && _) = true; repeat' (with_reducible refine look_both ?_ ?_))
  all_goals decide +kernel

end
theorem calm_H0b : True := by
  w_top off
  trivial
section
open PySem PySem.W PySem.W.X PyProof.Rows
theorem hold2 {A B G : Prop} (_ : A) (_ : B) (_ : A) (_ : B) (g : G) : G := g
set_option maxRecDepth 100000 in
set_option maxHeartbeats 8000000 in
noncomputable def hz : PSigma (fun A : Prop => PSigma (fun B : Prop => A → B → PySem.Challenge.rw_ik0065_01.Holds)) := by
  apply PSigma.mk
  apply PSigma.mk
  intro hl1 hc1
  refine hold2 hl1 hc1 ?hl ?hc ?g
  · exact hl1
  · exact hc1
  · w_on
    refine holds_law said fun said => ?_
    z_head
    w_witness2

end
section
open PySem PySem.W PySem.W.X PyProof.Rows
theorem both_map {α β γ : Type} {o : Option α} {f : α → β} {g : α → γ} {b : β} {c : γ} (h : o.map f = some b ∧ o.map g = some c) : o.map (fun s => (f s, g s)) = some (b, c) := by
  obtain ⟨h1, h2⟩ := h
  cases o with
  | none => cases h1
  | some s => rw [Option.map_some, Option.some.injEq] at h1 h2; rw [Option.map_some, h1, h2]
/-- what the top leaves, as two equations apart: each is one evaluation by the kernel -/
noncomputable def parts : PSigma fun A : World → Prop => PSigma fun B : World → Prop => (∀ w, A w) → (∀ w, B w) → Mine.hz.1 := by
  apply PSigma.mk
  apply PSigma.mk
  intro a b w
  exact both_map ⟨a w, b w⟩
set_option maxRecDepth 100000 in
set_option maxHeartbeats 8000000 in
theorem left1 : ∀ w, parts.1 w := by
  intro w
  show Option.map _ _ = _
  unfold openEnds fencedOpening topFrom
  rw [PySem.W.Fast.te14364793385576792824, PySem.W.Fast.te10274390034422433532, PySem.W.Fast.te1435165496053646825, PySem.W.Fast.te14289696077712309145, PySem.W.Fast.te14082659384304107361, PySem.W.Fast.te4187177175401517315, PySem.W.Fast.te8920871248978507458, PySem.W.Fast.te5923862056798008813]
  kernel_rfl
set_option maxRecDepth 100000 in
set_option maxHeartbeats 8000000 in
theorem left2 : ∀ w, parts.2.1 w := by
  intro w
  show Option.map _ _ = _
  unfold openEnds fencedOpening topFrom
  rw [PySem.W.Fast.te14364793385576792824, PySem.W.Fast.te10274390034422433532, PySem.W.Fast.te1435165496053646825, PySem.W.Fast.te14289696077712309145, PySem.W.Fast.te14082659384304107361, PySem.W.Fast.te8920871248978507458, PySem.W.Fast.te5923862056798008813]
  kernel_rfl
theorem left : Mine.hz.1 := parts.2.2 left1 left2

end
section
open PySem PySem.W PySem.W.X PyProof.Rows
set_option maxRecDepth 100000 in
noncomputable def KK (P : Params) : Frag :=
  (nat_lit 0, Mine.hz.zo_1 P) ::
  (nat_lit 1, Mine.hz.zo_2 P) ::
  (nat_lit 2, Mine.hz.zo_3 P) ::
  (nat_lit 3, Mine.hz.zo_4 P) ::
  (nat_lit 4, Mine.hz.zo_5 P) ::
  (nat_lit 5, Mine.hz.zo_6 P) ::
  (nat_lit 6, Mine.hz.zo_7 P) ::
  (nat_lit 7, Mine.hz.zo_8 P) ::
  (nat_lit 8, Mine.hz.zo_9 P) ::
  (nat_lit 9, Mine.hz.zo_10 P) ::
  (nat_lit 10, Mine.hz.zo_11 P) ::
  (nat_lit 11, Mine.hz.zo_12 P) ::
  (nat_lit 12, Mine.hz.zo_13 P) ::
  (nat_lit 13, Mine.hz.zo_14 P) ::
  (nat_lit 14, Mine.hz.zo_15 P) ::
  (nat_lit 15, Mine.hz.zo_16 P) ::
  (nat_lit 16, Mine.hz.zo_17 P) ::
  (nat_lit 17, Mine.hz.zo_18 P) ::
  (nat_lit 18, Mine.hz.zo_19 P) ::
  (nat_lit 19, Mine.hz.zo_20 P) ::
  (nat_lit 20, Mine.hz.zo_21 P) ::
  (nat_lit 21, Mine.hz.zo_22 P) ::
  (nat_lit 22, Mine.hz.zo_23 P) ::
  (nat_lit 23, Mine.hz.zo_24 P) ::
  (nat_lit 24, Mine.hz.zo_25 P) ::
  (nat_lit 25, Mine.hz.zo_26 P) ::
  (nat_lit 26, Mine.hz.zo_27 P) ::
  (nat_lit 27, Mine.hz.zo_28 P) ::
  (nat_lit 28, Mine.hz.zo_29 P) ::
  (nat_lit 29, Mine.hz.zo_30 P) ::
  (nat_lit 36, Mine.hz.zo_31 P) ::
  (nat_lit 37, Mine.hz.zo_32 P) ::
  (nat_lit 38, Mine.hz.zo_33 P) ::
  (nat_lit 39, Mine.hz.zo_34 P) ::
  (nat_lit 40, Mine.hz.zo_35 P) ::
  (nat_lit 41, Mine.hz.zo_36 P) ::
  (nat_lit 42, Mine.hz.zo_37 P) ::
  (nat_lit 43, Mine.hz.zo_38 P) ::
  (nat_lit 44, Mine.hz.zo_39 P) ::
  (nat_lit 45, Mine.hz.zo_40 P) ::
  (nat_lit 48, Mine.hz.zo_41 P) ::
  (nat_lit 55, Mine.hz.zo_42 P) ::
  (nat_lit 56, Mine.hz.zo_43 P) ::
  (nat_lit 57, Mine.hz.zo_44 P) ::
  (nat_lit 58, Mine.hz.zo_45 P) ::
  (nat_lit 59, Mine.hz.zo_46 P) ::
  (nat_lit 60, Mine.hz.zo_47 P) ::
  (nat_lit 61, Mine.hz.zo_48 P) ::
  (nat_lit 62, Mine.hz.zo_49 P) ::
  (nat_lit 63, Mine.hz.zo_50 P) ::
  (nat_lit 64, Mine.hz.zo_51 P) ::
  (nat_lit 65, Mine.hz.zo_52 P) ::
  (nat_lit 66, Mine.hz.zo_53 P) ::
  (nat_lit 67, Mine.hz.zo_54 P) ::
  (nat_lit 68, Mine.hz.zo_55 P) ::
  (nat_lit 69, Mine.hz.zo_56 P) ::
  (nat_lit 70, Mine.hz.zo_57 P) ::
  (nat_lit 71, Mine.hz.zo_58 P) ::
  (nat_lit 72, Mine.hz.zo_59 P) ::
  (nat_lit 73, Mine.hz.zo_60 P) ::
  (nat_lit 74, Mine.hz.zo_61 P) ::
  (nat_lit 75, Mine.hz.zo_62 P) ::
  (nat_lit 76, Mine.hz.zo_63 P) ::
  (nat_lit 77, Mine.hz.zo_64 P) ::
  (nat_lit 78, Mine.hz.zo_65 P) ::
  (nat_lit 81, Mine.hz.zo_66 P) ::
  (nat_lit 82, Mine.hz.zo_67 P) ::
  (nat_lit 83, Mine.hz.zo_68 P) ::
  (nat_lit 84, Mine.hz.zo_69 P) ::
  (nat_lit 85, Mine.hz.zo_70 P) ::
  (nat_lit 86, Mine.hz.zo_71 P) ::
  (nat_lit 87, Mine.hz.zo_72 P) ::
  (nat_lit 88, Mine.hz.zo_73 P) ::
  (nat_lit 89, Mine.hz.zo_74 P) ::
  (nat_lit 90, Mine.hz.zo_75 P) ::
  (nat_lit 91, Mine.hz.zo_76 P) ::
  (nat_lit 92, Mine.hz.zo_77 P) ::
  (nat_lit 93, Mine.hz.zo_78 P) ::
  (nat_lit 94, Mine.hz.zo_79 P) ::
  (nat_lit 95, Mine.hz.zo_80 P) ::
  (nat_lit 96, Mine.hz.zo_81 P) ::
  (nat_lit 97, Mine.hz.zo_82 P) ::
  (nat_lit 98, Mine.hz.zo_83 P) ::
  (nat_lit 99, Mine.hz.zo_84 P) ::
  (nat_lit 100, Mine.hz.zo_85 P) ::
  (nat_lit 101, Mine.hz.zo_86 P) ::
  (nat_lit 102, Mine.hz.zo_87 P) ::
  (nat_lit 103, Mine.hz.zo_88 P) ::
  (nat_lit 104, Mine.hz.zo_89 P) ::
  (nat_lit 105, Mine.hz.zo_90 P) ::
  (nat_lit 106, Mine.hz.zo_91 P) ::
  (nat_lit 107, Mine.hz.zo_92 P) ::
  (nat_lit 108, Mine.hz.zo_93 P) ::
  (nat_lit 109, Mine.hz.zo_94 P) ::
  (nat_lit 110, Mine.hz.zo_95 P) ::
  (nat_lit 111, Mine.hz.zo_96 P) ::
  (nat_lit 112, Mine.hz.zo_97 P) ::
  (nat_lit 113, Mine.hz.zo_98 P) ::
  (nat_lit 114, Mine.hz.zo_99 P) ::
  (nat_lit 115, Mine.hz.zo_100 P) ::
  (nat_lit 116, Mine.hz.zo_101 P) ::
  (nat_lit 117, Mine.hz.zo_102 P) ::
  (nat_lit 118, Mine.hz.zo_103 P) ::
  (nat_lit 119, Mine.hz.zo_104 P) ::
  (nat_lit 120, Mine.hz.zo_105 P) ::
  (nat_lit 121, Mine.hz.zo_106 P) ::
  (nat_lit 122, Mine.hz.zo_107 P) ::
  (nat_lit 123, Mine.hz.zo_108 P) ::
  (nat_lit 124, Mine.hz.zo_109 P) ::
  (nat_lit 125, Mine.hz.zo_110 P) ::
  (nat_lit 126, Mine.hz.zo_111 P) ::
  (nat_lit 127, Mine.hz.zo_112 P) ::
  (nat_lit 128, Mine.hz.zo_113 P) ::
  (nat_lit 129, Mine.hz.zo_114 P) ::
  (nat_lit 130, Mine.hz.zo_115 P) ::
  (nat_lit 131, Mine.hz.zo_116 P) ::
  (nat_lit 132, Mine.hz.zo_117 P) ::
  (nat_lit 133, Mine.hz.zo_118 P) ::
  (nat_lit 134, Mine.hz.zo_119 P) ::
  (nat_lit 135, Mine.hz.zo_120 P) ::
  (nat_lit 136, Mine.hz.zo_121 P) ::
  (nat_lit 137, Mine.hz.zo_122 P) ::
  (nat_lit 138, Mine.hz.zo_123 P) ::
  (nat_lit 139, Mine.hz.zo_124 P) ::
  (nat_lit 140, Mine.hz.zo_125 P) ::
  (nat_lit 141, Mine.hz.zo_126 P) ::
  (nat_lit 142, Mine.hz.zo_127 P) ::
  (nat_lit 143, Mine.hz.zo_128 P) ::
  (nat_lit 144, Mine.hz.zo_129 P) ::
  (nat_lit 145, Mine.hz.zo_130 P) ::
  (nat_lit 146, Mine.hz.zo_131 P) ::
  (nat_lit 147, Mine.hz.zo_132 P) ::
  (nat_lit 148, Mine.hz.zo_133 P) ::
  (nat_lit 149, Mine.hz.zo_134 P) ::
  (nat_lit 150, Mine.hz.zo_135 P) ::
  (nat_lit 151, Mine.hz.zo_136 P) ::
  (nat_lit 152, Mine.hz.zo_137 P) ::
  (nat_lit 153, Mine.hz.zo_138 P) ::
  (nat_lit 154, Mine.hz.zo_139 P) ::
  (nat_lit 155, Mine.hz.zo_140 P) ::
  (nat_lit 156, Mine.hz.zo_141 P) ::
  (nat_lit 157, Mine.hz.zo_142 P) ::
  (nat_lit 158, Mine.hz.zo_143 P) ::
  (nat_lit 159, Mine.hz.zo_144 P) ::
  (nat_lit 160, Mine.hz.zo_145 P) ::
  (nat_lit 161, Mine.hz.zo_146 P) ::
  (nat_lit 162, Mine.hz.zo_147 P) ::
  (nat_lit 163, Mine.hz.zo_148 P) ::
  (nat_lit 164, Mine.hz.zo_149 P) ::
  (nat_lit 165, Mine.hz.zo_150 P) ::
  (nat_lit 166, Mine.hz.zo_151 P) ::
  (nat_lit 167, Mine.hz.zo_152 P) ::
  (nat_lit 168, Mine.hz.zo_153 P) ::
  (nat_lit 169, Mine.hz.zo_154 P) ::
  (nat_lit 170, Mine.hz.zo_155 P) ::
  (nat_lit 171, Mine.hz.zo_156 P) ::
  (nat_lit 172, Mine.hz.zo_157 P) ::
  (nat_lit 173, Mine.hz.zo_158 P) ::
  (nat_lit 174, Mine.hz.zo_159 P) ::
  (nat_lit 175, Mine.hz.zo_160 P) ::
  (nat_lit 176, Mine.hz.zo_161 P) ::
  (nat_lit 177, Mine.hz.zo_162 P) ::
  (nat_lit 178, Mine.hz.zo_163 P) ::
  (nat_lit 179, Mine.hz.zo_164 P) ::
  (nat_lit 180, Mine.hz.zo_165 P) ::
  (nat_lit 181, Mine.hz.zo_166 P) ::
  (nat_lit 182, Mine.hz.zo_167 P) ::
  (nat_lit 183, Mine.hz.zo_168 P) ::
  (nat_lit 184, Mine.hz.zo_169 P) ::
  (nat_lit 185, Mine.hz.zo_170 P) ::
  (nat_lit 186, Mine.hz.zo_171 P) ::
  (nat_lit 187, Mine.hz.zo_172 P) ::
  (nat_lit 188, Mine.hz.zo_173 P) ::
  (nat_lit 189, Mine.hz.zo_174 P) ::
  (nat_lit 190, Mine.hz.zo_175 P) ::
  (nat_lit 191, Mine.hz.zo_176 P) ::
  (nat_lit 192, Mine.hz.zo_177 P) ::
  (nat_lit 193, Mine.hz.zo_178 P) ::
  (nat_lit 194, Mine.hz.zo_179 P) ::
  (nat_lit 195, Mine.hz.zo_180 P) ::
  (nat_lit 196, Mine.hz.zo_181 P) ::
  (nat_lit 197, Mine.hz.zo_182 P) ::
  (nat_lit 198, Mine.hz.zo_183 P) ::
  (nat_lit 199, Mine.hz.zo_184 P) ::
  (nat_lit 200, Mine.hz.zo_185 P) ::
  (nat_lit 201, Mine.hz.zo_186 P) ::
  (nat_lit 202, Mine.hz.zo_187 P) ::
  (nat_lit 203, Mine.hz.zo_188 P) ::
  (nat_lit 204, Mine.hz.zo_189 P) ::
  (nat_lit 205, Mine.hz.zo_190 P) ::
  (nat_lit 206, Mine.hz.zo_191 P) ::
  (nat_lit 207, Mine.hz.zo_192 P) ::
  (nat_lit 208, Mine.hz.zo_193 P) ::
  (nat_lit 209, Mine.hz.zo_194 P) ::
  (nat_lit 210, Mine.hz.zo_195 P) ::
  (nat_lit 211, Mine.hz.zo_196 P) ::
  (nat_lit 212, Mine.hz.zo_197 P) ::
  (nat_lit 214, Mine.hz.zo_199 P) ::
  (nat_lit 215, Mine.hz.zo_200 P) ::
  (nat_lit 216, Mine.hz.zo_201 P) ::
  (nat_lit 217, Mine.hz.zo_202 P) ::
  (nat_lit 218, Mine.hz.zo_203 P) ::
  (nat_lit 219, Mine.hz.zo_204 P) ::
  (nat_lit 220, Mine.hz.zo_205 P) ::
  (nat_lit 221, Mine.hz.zo_206 P) ::
  (nat_lit 222, Mine.hz.zo_207 P) ::
  (nat_lit 223, Mine.hz.zo_208 P) ::
  (nat_lit 224, Mine.hz.zo_209 P) ::
  (nat_lit 225, Mine.hz.zo_210 P) ::
  (nat_lit 226, Mine.hz.zo_211 P) ::
  (nat_lit 227, Mine.hz.zo_212 P) ::
  (nat_lit 228, Mine.hz.zo_213 P) ::
  (nat_lit 229, Mine.hz.zo_214 P) ::
  (nat_lit 230, Mine.hz.zo_215 P) ::
  (nat_lit 231, Mine.hz.zo_216 P) ::
  (nat_lit 232, Mine.hz.zo_217 P) ::
  (nat_lit 233, Mine.hz.zo_218 P) ::
  (nat_lit 234, Mine.hz.zo_219 P) ::
  (nat_lit 235, Mine.hz.zo_220 P) ::
  (nat_lit 236, Mine.hz.zo_221 P) ::
  (nat_lit 237, Mine.hz.zo_222 P) ::
  (nat_lit 238, Mine.hz.zo_223 P) ::
  (nat_lit 239, Mine.hz.zo_224 P) ::
  (nat_lit 240, Mine.hz.zo_225 P) ::
  (nat_lit 241, Mine.hz.zo_226 P) ::
  (nat_lit 242, Mine.hz.zo_227 P) ::
  (nat_lit 243, Mine.hz.zo_228 P) ::
  (nat_lit 244, Mine.hz.zo_229 P) ::
  (nat_lit 245, Mine.hz.zo_230 P) ::
  (nat_lit 246, Mine.hz.zo_231 P) ::
  (nat_lit 247, Mine.hz.zo_232 P) ::
  (nat_lit 248, Mine.hz.zo_233 P) ::
  (nat_lit 249, Mine.hz.zo_234 P) ::
  (nat_lit 250, Mine.hz.zo_235 P) ::
  (nat_lit 251, Mine.hz.zo_236 P) ::
  (nat_lit 252, Mine.hz.zo_237 P) ::
  (nat_lit 253, Mine.hz.zo_238 P) ::
  (nat_lit 254, Mine.hz.zo_239 P) ::
  (nat_lit 255, Mine.hz.zo_240 P) ::
  (nat_lit 256, Mine.hz.zo_241 P) ::
  (nat_lit 257, Mine.hz.zo_242 P) ::
  (nat_lit 258, Mine.hz.zo_243 P) ::
  (nat_lit 259, Mine.hz.zo_244 P) ::
  (nat_lit 260, Mine.hz.zo_245 P) ::
  (nat_lit 261, Mine.hz.zo_246 P) ::
  (nat_lit 262, Mine.hz.zo_247 P) ::
  (nat_lit 263, Mine.hz.zo_248 P) ::
  (nat_lit 264, Mine.hz.zo_249 P) ::
  (nat_lit 265, Mine.hz.zo_250 P) ::
  (nat_lit 266, Mine.hz.zo_251 P) ::
  (nat_lit 267, Mine.hz.zo_252 P) ::
  (nat_lit 268, Mine.hz.zo_253 P) ::
  (nat_lit 269, Mine.hz.zo_254 P) ::
  (nat_lit 270, Mine.hz.zo_255 P) ::
  (nat_lit 271, Mine.hz.zo_256 P) ::
  (nat_lit 272, Mine.hz.zo_257 P) ::
  (nat_lit 273, Mine.hz.zo_258 P) ::
  (nat_lit 274, Mine.hz.zo_259 P) ::
  (nat_lit 275, Mine.hz.zo_260 P) ::
  (nat_lit 276, Mine.hz.zo_261 P) ::
  (nat_lit 277, Mine.hz.zo_262 P) ::
  (nat_lit 278, Mine.hz.zo_263 P) ::
  (nat_lit 279, Mine.hz.zo_264 P) ::
  []
set_option maxRecDepth 100000 in
theorem kk_of (P : Params) : (Mine.hz.heap_264 P).filter (fun p => !Nat.beq p.1 213) = KK P := by kernel_rfl
theorem kk_mem {P : Params} {p : Nat × Obj} (h : p ∈ KK P) : p ∈ Mine.hz.heap_264 P ∧ p.1 ≠ 213 := by
  rw [← kk_of] at h
  obtain ⟨a, b⟩ := List.mem_filter.mp h
  refine ⟨a, fun e => ?_⟩
  rw [e] at b
  exact absurd b (by decide)
noncomputable def Seen (_ : OpenLaw) (_ : Params → Frag) : Prop := True
theorem seen : Seen PySem.Challenge.rw_ik0065_01 Mine.KK := by k_fill; trivial

end
open PySem PySem.W PySem.W.X PyProof.Rows PySem.Calls
noncomputable abbrev pw := PySem.Challenge.pw_ik0065_01
theorem S.p : (⟨⟨[112]⟩⟩ : Str) = Str.ofString "p" := rfl
theorem S.sep : (⟨⟨[115, 101, 112]⟩⟩ : Str) = Str.ofString "sep" := rfl
theorem S.i : (⟨⟨[105]⟩⟩ : Str) = Str.ofString "i" := rfl
theorem S.head : (⟨⟨[104, 101, 97, 100]⟩⟩ : Str) = Str.ofString "head" := rfl
theorem S.tail : (⟨⟨[116, 97, 105, 108]⟩⟩ : Str) = Str.ofString "tail" := rfl
theorem S.fspath : (⟨⟨[102, 115, 112, 97, 116, 104]⟩⟩ : Str) = Str.ofString "fspath" := rfl
theorem S.uugetusep : (⟨⟨[95, 103, 101, 116, 95, 115, 101, 112]⟩⟩ : Str) = Str.ofString "_get_sep" := rfl
theorem S.len : (⟨⟨[108, 101, 110]⟩⟩ : Str) = Str.ofString "len" := rfl
theorem S.rfind : (⟨⟨[114, 102, 105, 110, 100]⟩⟩ : Str) = Str.ofString "rfind" := rfl
theorem S.rstrip : (⟨⟨[114, 115, 116, 114, 105, 112]⟩⟩ : Str) = Str.ofString "rstrip" := rfl
theorem S.a : (⟨⟨[97]⟩⟩ : Str) = Str.ofString "a" := rfl
theorem S.b : (⟨⟨[98]⟩⟩ : Str) = Str.ofString "b" := rfl
theorem S.path : (⟨⟨[112, 97, 116, 104]⟩⟩ : Str) = Str.ofString "path" := rfl
theorem S.startswith : (⟨⟨[115, 116, 97, 114, 116, 115, 119, 105, 116, 104]⟩⟩ : Str) = Str.ofString "startswith" := rfl
theorem S.endswith : (⟨⟨[101, 110, 100, 115, 119, 105, 116, 104]⟩⟩ : Str) = Str.ofString "endswith" := rfl
theorem S.join : (⟨⟨[106, 111, 105, 110]⟩⟩ : Str) = Str.ofString "join" := rfl
theorem S.TypeError : (⟨⟨[84, 121, 112, 101, 69, 114, 114, 111, 114]⟩⟩ : Str) = Str.ofString "TypeError" := rfl
theorem S.AttributeError : (⟨⟨[65, 116, 116, 114, 105, 98, 117, 116, 101, 69, 114, 114, 111, 114]⟩⟩ : Str) = Str.ofString "AttributeError" := rfl
theorem S.BytesWarning : (⟨⟨[66, 121, 116, 101, 115, 87, 97, 114, 110, 105, 110, 103]⟩⟩ : Str) = Str.ofString "BytesWarning" := rfl
theorem S.uucheckuargutypes : (⟨⟨[95, 99, 104, 101, 99, 107, 95, 97, 114, 103, 95, 116, 121, 112, 101, 115]⟩⟩ : Str) = Str.ofString "_check_arg_types" := rfl
theorem S.isinstance : (⟨⟨[105, 115, 105, 110, 115, 116, 97, 110, 99, 101]⟩⟩ : Str) = Str.ofString "isinstance" := rfl
theorem S.bytes : (⟨⟨[98, 121, 116, 101, 115]⟩⟩ : Str) = Str.ofString "bytes" := rfl
theorem S.empty : (⟨⟨[101, 109, 112, 116, 121]⟩⟩ : Str) = Str.ofString "empty" := rfl
theorem S.splitroot : (⟨⟨[115, 112, 108, 105, 116, 114, 111, 111, 116]⟩⟩ : Str) = Str.ofString "splitroot" := rfl
theorem S.normpath : (⟨⟨[110, 111, 114, 109, 112, 97, 116, 104]⟩⟩ : Str) = Str.ofString "normpath" := rfl
theorem S.dot : (⟨⟨[100, 111, 116]⟩⟩ : Str) = Str.ofString "dot" := rfl
theorem S.dotdot : (⟨⟨[100, 111, 116, 100, 111, 116]⟩⟩ : Str) = Str.ofString "dotdot" := rfl
theorem S.uu : (⟨⟨[95]⟩⟩ : Str) = Str.ofString "_" := rfl
theorem S.initial_slashes : (⟨⟨[105, 110, 105, 116, 105, 97, 108, 95, 115, 108, 97, 115, 104, 101, 115]⟩⟩ : Str) = Str.ofString "initial_slashes" := rfl
theorem S.comps : (⟨⟨[99, 111, 109, 112, 115]⟩⟩ : Str) = Str.ofString "comps" := rfl
theorem S.new_comps : (⟨⟨[110, 101, 119, 95, 99, 111, 109, 112, 115]⟩⟩ : Str) = Str.ofString "new_comps" := rfl
theorem S.comp : (⟨⟨[99, 111, 109, 112]⟩⟩ : Str) = Str.ofString "comp" := rfl
theorem S.split : (⟨⟨[115, 112, 108, 105, 116]⟩⟩ : Str) = Str.ofString "split" := rfl
theorem S.append : (⟨⟨[97, 112, 112, 101, 110, 100]⟩⟩ : Str) = Str.ofString "append" := rfl
theorem S.pop : (⟨⟨[112, 111, 112]⟩⟩ : Str) = Str.ofString "pop" := rfl
theorem S.paths : (⟨⟨[112, 97, 116, 104, 115]⟩⟩ : Str) = Str.ofString "paths" := rfl
theorem S.tuple : (⟨⟨[116, 117, 112, 108, 101]⟩⟩ : Str) = Str.ofString "tuple" := rfl
theorem S.map : (⟨⟨[109, 97, 112]⟩⟩ : Str) = Str.ofString "map" := rfl
theorem S.ValueError : (⟨⟨[86, 97, 108, 117, 101, 69, 114, 114, 111, 114]⟩⟩ : Str) = Str.ofString "ValueError" := rfl
theorem S.split_paths : (⟨⟨[115, 112, 108, 105, 116, 95, 112, 97, 116, 104, 115]⟩⟩ : Str) = Str.ofString "split_paths" := rfl
theorem S.isabs : (⟨⟨[105, 115, 97, 98, 115]⟩⟩ : Str) = Str.ofString "isabs" := rfl
theorem S.s : (⟨⟨[115]⟩⟩ : Str) = Str.ofString "s" := rfl
theorem S.c : (⟨⟨[99]⟩⟩ : Str) = Str.ofString "c" := rfl
theorem S.curdir : (⟨⟨[99, 117, 114, 100, 105, 114]⟩⟩ : Str) = Str.ofString "curdir" := rfl
theorem S.s1 : (⟨⟨[115, 49]⟩⟩ : Str) = Str.ofString "s1" := rfl
theorem S.s2 : (⟨⟨[115, 50]⟩⟩ : Str) = Str.ofString "s2" := rfl
theorem S.common : (⟨⟨[99, 111, 109, 109, 111, 110]⟩⟩ : Str) = Str.ofString "common" := rfl
theorem S.enumerate : (⟨⟨[101, 110, 117, 109, 101, 114, 97, 116, 101]⟩⟩ : Str) = Str.ofString "enumerate" := rfl
theorem S.min : (⟨⟨[109, 105, 110]⟩⟩ : Str) = Str.ofString "min" := rfl
theorem S.max : (⟨⟨[109, 97, 120]⟩⟩ : Str) = Str.ofString "max" := rfl
theorem S.prefix : (⟨⟨[112, 114, 101, 102, 105, 120]⟩⟩ : Str) = Str.ofString "prefix" := rfl
theorem S.commonpath : (⟨⟨[99, 111, 109, 109, 111, 110, 112, 97, 116, 104]⟩⟩ : Str) = Str.ofString "commonpath" := rfl
theorem S.count : (⟨⟨[99, 111, 117, 110, 116]⟩⟩ : Str) = Str.ofString "count" := rfl
theorem S.K : (⟨⟨[75]⟩⟩ : Str) = Str.ofString "K" := rfl
theorem S.mycmp : (⟨⟨[109, 121, 99, 109, 112]⟩⟩ : Str) = Str.ofString "mycmp" := rfl
theorem S.obj : (⟨⟨[111, 98, 106]⟩⟩ : Str) = Str.ofString "obj" := rfl
theorem S.other : (⟨⟨[111, 116, 104, 101, 114]⟩⟩ : Str) = Str.ofString "other" := rfl
theorem S.self : (⟨⟨[115, 101, 108, 102]⟩⟩ : Str) = Str.ofString "self" := rfl
theorem S.function : (⟨⟨[102, 117, 110, 99, 116, 105, 111, 110]⟩⟩ : Str) = Str.ofString "function" := rfl
theorem S.sequence : (⟨⟨[115, 101, 113, 117, 101, 110, 99, 101]⟩⟩ : Str) = Str.ofString "sequence" := rfl
theorem S.initial : (⟨⟨[105, 110, 105, 116, 105, 97, 108]⟩⟩ : Str) = Str.ofString "initial" := rfl
theorem S.uuinitialumissing : (⟨⟨[95, 105, 110, 105, 116, 105, 97, 108, 95, 109, 105, 115, 115, 105, 110, 103]⟩⟩ : Str) = Str.ofString "_initial_missing" := rfl
theorem S.it : (⟨⟨[105, 116]⟩⟩ : Str) = Str.ofString "it" := rfl
theorem S.iter : (⟨⟨[105, 116, 101, 114]⟩⟩ : Str) = Str.ofString "iter" := rfl
theorem S.value : (⟨⟨[118, 97, 108, 117, 101]⟩⟩ : Str) = Str.ofString "value" := rfl
theorem S.next : (⟨⟨[110, 101, 120, 116]⟩⟩ : Str) = Str.ofString "next" := rfl
theorem S.StopIteration : (⟨⟨[83, 116, 111, 112, 73, 116, 101, 114, 97, 116, 105, 111, 110]⟩⟩ : Str) = Str.ofString "StopIteration" := rfl
theorem S.element : (⟨⟨[101, 108, 101, 109, 101, 110, 116]⟩⟩ : Str) = Str.ofString "element" := rfl
theorem S.reduce : (⟨⟨[114, 101, 100, 117, 99, 101]⟩⟩ : Str) = Str.ofString "reduce" := rfl
theorem S.cell : (⟨⟨[99, 101, 108, 108]⟩⟩ : Str) = Str.ofString "cell" := rfl
theorem S.kinds : (⟨⟨[107, 105, 110, 100, 115]⟩⟩ : Str) = Str.ofString "kinds" := rfl
theorem S.k : (⟨⟨[107]⟩⟩ : Str) = Str.ofString "k" := rfl
theorem S.range : (⟨⟨[114, 97, 110, 103, 101]⟩⟩ : Str) = Str.ofString "range" := rfl
theorem S.uulawupieces : (⟨⟨[95, 108, 97, 119, 95, 112, 105, 101, 99, 101, 115]⟩⟩ : Str) = Str.ofString "_law_pieces" := rfl
theorem S.pair : (⟨⟨[112, 97, 105, 114]⟩⟩ : Str) = Str.ofString "pair" := rfl
theorem S.piece : (⟨⟨[112, 105, 101, 99, 101]⟩⟩ : Str) = Str.ofString "piece" := rfl
theorem S.n : (⟨⟨[110]⟩⟩ : Str) = Str.ofString "n" := rfl
theorem S.d : (⟨⟨[100]⟩⟩ : Str) = Str.ofString "d" := rfl
theorem S.add : (⟨⟨[97, 100, 100]⟩⟩ : Str) = Str.ofString "add" := rfl
theorem S.sub : (⟨⟨[115, 117, 98]⟩⟩ : Str) = Str.ofString "sub" := rfl
theorem S.uulawustep : (⟨⟨[95, 108, 97, 119, 95, 115, 116, 101, 112]⟩⟩ : Str) = Str.ofString "_law_step" := rfl
theorem S.names : (⟨⟨[110, 97, 109, 101, 115]⟩⟩ : Str) = Str.ofString "names" := rfl
theorem S.uulawunames : (⟨⟨[95, 108, 97, 119, 95, 110, 97, 109, 101, 115]⟩⟩ : Str) = Str.ofString "_law_names" := rfl
theorem S.place : (⟨⟨[112, 108, 97, 99, 101]⟩⟩ : Str) = Str.ofString "place" := rfl
theorem S.uulawuupward : (⟨⟨[95, 108, 97, 119, 95, 117, 112, 119, 97, 114, 100]⟩⟩ : Str) = Str.ofString "_law_upward" := rfl
theorem S.replace : (⟨⟨[114, 101, 112, 108, 97, 99, 101]⟩⟩ : Str) = Str.ofString "replace" := rfl
theorem S.name : (⟨⟨[110, 97, 109, 101]⟩⟩ : Str) = Str.ofString "name" := rfl
theorem S.one : (⟨⟨[111, 110, 101]⟩⟩ : Str) = Str.ofString "one" := rfl
theorem S.uulawuacross : (⟨⟨[95, 108, 97, 119, 95, 97, 99, 114, 111, 115, 115]⟩⟩ : Str) = Str.ofString "_law_across" := rfl
theorem S.mul : (⟨⟨[109, 117, 108]⟩⟩ : Str) = Str.ofString "mul" := rfl
theorem S.low : (⟨⟨[108, 111, 119]⟩⟩ : Str) = Str.ofString "low" := rfl
theorem S.high : (⟨⟨[104, 105, 103, 104]⟩⟩ : Str) = Str.ofString "high" := rfl
theorem S.uulawusimplest : (⟨⟨[95, 108, 97, 119, 95, 115, 105, 109, 112, 108, 101, 115, 116]⟩⟩ : Str) = Str.ofString "_law_simplest" := rfl
theorem S.uulawumeet : (⟨⟨[95, 108, 97, 119, 95, 109, 101, 101, 116]⟩⟩ : Str) = Str.ofString "_law_meet" := rfl
theorem S.script : (⟨⟨[115, 99, 114, 105, 112, 116]⟩⟩ : Str) = Str.ofString "script" := rfl
theorem S.key : (⟨⟨[107, 101, 121]⟩⟩ : Str) = Str.ofString "key" := rfl
theorem S.places : (⟨⟨[112, 108, 97, 99, 101, 115]⟩⟩ : Str) = Str.ofString "places" := rfl
theorem S.sides : (⟨⟨[115, 105, 100, 101, 115]⟩⟩ : Str) = Str.ofString "sides" := rfl
theorem S.cmp_to_key : (⟨⟨[99, 109, 112, 95, 116, 111, 95, 107, 101, 121]⟩⟩ : Str) = Str.ofString "cmp_to_key" := rfl
theorem S.pieces : (⟨⟨[112, 105, 101, 99, 101, 115]⟩⟩ : Str) = Str.ofString "pieces" := rfl
theorem S.sum : (⟨⟨[115, 117, 109]⟩⟩ : Str) = Str.ofString "sum" := rfl
theorem S.crooked : (⟨⟨[99, 114, 111, 111, 107, 101, 100]⟩⟩ : Str) = Str.ofString "crooked" := rfl
theorem S.values : (⟨⟨[118, 97, 108, 117, 101, 115]⟩⟩ : Str) = Str.ofString "values" := rfl
theorem S.keys : (⟨⟨[107, 101, 121, 115]⟩⟩ : Str) = Str.ofString "keys" := rfl
theorem S.countOf : (⟨⟨[99, 111, 117, 110, 116, 79, 102]⟩⟩ : Str) = Str.ofString "countOf" := rfl
theorem S.j : (⟨⟨[106]⟩⟩ : Str) = Str.ofString "j" := rfl
theorem S.x : (⟨⟨[120]⟩⟩ : Str) = Str.ofString "x" := rfl
theorem S.y : (⟨⟨[121]⟩⟩ : Str) = Str.ofString "y" := rfl
theorem S.t : (⟨⟨[116]⟩⟩ : Str) = Str.ofString "t" := rfl
theorem S.told : (⟨⟨[116, 111, 108, 100]⟩⟩ : Str) = Str.ofString "told" := rfl
theorem S.due : (⟨⟨[100, 117, 101]⟩⟩ : Str) = Str.ofString "due" := rfl
theorem S.lt : (⟨⟨[108, 116]⟩⟩ : Str) = Str.ofString "lt" := rfl
theorem S.le : (⟨⟨[108, 101]⟩⟩ : Str) = Str.ofString "le" := rfl
theorem S.eq : (⟨⟨[101, 113]⟩⟩ : Str) = Str.ofString "eq" := rfl
theorem S.ne : (⟨⟨[110, 101]⟩⟩ : Str) = Str.ofString "ne" := rfl
theorem S.ge : (⟨⟨[103, 101]⟩⟩ : Str) = Str.ofString "ge" := rfl
theorem S.gt : (⟨⟨[103, 116]⟩⟩ : Str) = Str.ofString "gt" := rfl
theorem S.m : (⟨⟨[109]⟩⟩ : Str) = Str.ofString "m" := rfl
theorem S.mask : (⟨⟨[109, 97, 115, 107]⟩⟩ : Str) = Str.ofString "mask" := rfl
theorem S.chosen : (⟨⟨[99, 104, 111, 115, 101, 110]⟩⟩ : Str) = Str.ofString "chosen" := rfl
theorem S.row : (⟨⟨[114, 111, 119]⟩⟩ : Str) = Str.ofString "row" := rfl
theorem S.sorted : (⟨⟨[115, 111, 114, 116, 101, 100]⟩⟩ : Str) = Str.ofString "sorted" := rfl
theorem S.lowest : (⟨⟨[108, 111, 119, 101, 115, 116]⟩⟩ : Str) = Str.ofString "lowest" := rfl
theorem S.some : (⟨⟨[115, 111, 109, 101]⟩⟩ : Str) = Str.ofString "some" := rfl
theorem S.os : (⟨⟨[111, 115]⟩⟩ : Str) = Str.ofString "os" := rfl

/-- room -/
noncomputable def AA (d : Nat) : Around := { handled := none, depth := d + 400, frames := none, guards := none, units := 3 * d }
structure Rm (A : Around) (d : Nat) : Prop where
  hh : A.handled = none
  hd : A.depth ≤ d + 400
  hu : A.units ≤ 3 * d
theorem Rm.mk' (d : Nat) : Rm (AA d) d := ⟨rfl, Nat.le_refl _, Nat.le_refl _⟩
theorem Rm.deeper {A : Around} {d : Nat} (R : Rm A d) (env : Env) : Rm (A.deeper env) (d + 1) := ⟨R.hh, by have := R.hd; show A.depth + 1 ≤ _; omega, by have := R.hu; simp only [Around.deeper_units]; omega⟩
theorem Rm.in1 {A : Around} {d : Nat} (R : Rm A d) : Rm A.in1 (d + 1) := ⟨R.hh, by have := R.hd; show A.depth ≤ _; omega, by have := R.hu; show A.units + 1 ≤ _; omega⟩
theorem Rm.le {A : Around} {d d' : Nat} (R : Rm A d) (h : d ≤ d') : Rm A d' := ⟨R.hh, by have := R.hd; omega, by have := R.hu; omega⟩
noncomputable def Stays (h h' : Heap) : Prop := ∀ b o, h.get? b = some o → h'.get? b = some o
theorem Stays.refl (h : Heap) : Stays h h := fun _ _ e => e
theorem Stays.trans {h h' h'' : Heap} (a : Stays h h') (b : Stays h' h'') : Stays h h'' := fun _ _ e => b _ _ (a _ _ e)
theorem mem_stays {h₀ h : Heap} {news : List (Addr × Obj)} (D : Mem h₀ h [] news) : Stays h₀ h := fun b o e => D.keep b o e (by simp [away])
theorem around_le {A : Around} {d : Nat} {α : Type} {M : Model} {t : Sem α} {Q : α → Shared → Prop} {E : Value → Shared → Prop} {s : Shared} (R : Rm A d) (h : wpAny M (AA d) t Q E s) : wpAny M A t Q E s := fun Γ p hΓ =>
  h Γ p ⟨hΓ.1.trans R.hh, Nat.le_trans hΓ.2.1 R.hd, fun _ e => (nomatch e), fun _ e => (nomatch e), Nat.le_trans hΓ.2.2.2.2 R.hu⟩
/-- the answer is as P says, and what stood stands -/
noncomputable def Ans (P : Heap → Value → Prop) (h0 : Heap) (g : Array GenState) (d : Drawn) (os : OsState) (v : Value) (s' : Shared) : Prop := ∃ h t, s' = ⟨h, g, d, t, os⟩ ∧ Stays h0 h ∧ P h v
noncomputable abbrev Call (w : World) (d : Nat) (f : Value) (args : List Value) (P : Heap → Value → Prop) (s : Shared) : Prop := wpAny (model pw w) (AA d) (call f args) (Ans P s.heap s.gens s.drawn s.os) (fun _ _ => False) s
theorem ans_mk {P : Heap → Value → Prop} {h0 h : Heap} {g d os} {news : List (Addr × Obj)} {t : Tok} {v : Value} (D : Mem h0 h [] news) (hp : P h v) : Ans P h0 g d os v ⟨h, g, d, t, os⟩ := ⟨_, _, rfl, mem_stays D, hp⟩
theorem ans_fr {P : Heap → Value → Prop} {s : Shared} {h : Heap} {L : Addr} {m : Str → Option Value} {t : Tok} {v : Value} (F : Fr s.heap L h m) (hp : P h v) : Ans P s.heap s.gens s.drawn s.os v { s with heap := h, toks := t } := ⟨_, _, rfl, F.keep, hp⟩
theorem stays_fr {h₀ h h' : Heap} {L : Addr} {m : Str → Option Value} (F : Fr h₀ L h m) (st : Stays h h') : Fr h₀ L h' m := ⟨F.ns.at' fun o e => st _ o e, fun b o e => st b o (F.keep b o e), F.above⟩
theorem stays_news {h₀ h h' : Heap} {L : Addr} {news : List (Addr × Obj)} (N : News h₀ L h news) (st : Stays h h') : News h₀ L h' news := fun p hp => ⟨st _ _ (N p hp).1, (N p hp).2⟩
theorem ans_k {w : World} {A : Around} {d : Nat} {s : Shared} {Q : Value → Shared → Prop} {E : Value → Shared → Prop} {P : Heap → Value → Prop} {f : Value} {args : List Value} {h₀ : Heap} {L : Addr} {m : Str → Option Value} {news : List (Addr × Obj)}
    (R : Rm A d) (F : Fr h₀ L s.heap m) (N : News h₀ L s.heap news) (c : Call w d f args P s)
    (h : ∀ v h' tk, P h' v → Stays s.heap h' → Fr h₀ L h' m → News h₀ L h' news → Q v { s with heap := h', toks := tk }) :
    wpAny (model pw w) A (call f args) Q E s := by
  refine around_le R (wpAny_mono c ?_ (fun _ _ x => x.elim))
  rintro v s' ⟨h', t, rfl, st, hp⟩
  exact h v h' t hp st (stays_fr F st) (stays_news N st)
section
variable {w : World} {d : Nat} {E : Value → Shared → Prop} {s : Shared} {p : Program} {loose : List Str} {mean : ExcName → Option Value} {mg mb : Str → Option Value} {K : Frag}
/-- into a def: its names bound as binds says -/
theorem enter {P : Heap → Value → Prop} {name qual : Str} {params : Arguments} {body : List Stmt} {scope : Scope} {dV kV doc pm cdv ct oc : Value} {an od : Option Addr} {osl : Array (Option Value)} {f : Addr} {vals : List Value} {binds : List (Str × Value)}
    (hroom : d + 400 < recursionLimit) (X : K.In s.heap) (T : Top p loose mean mg mb s.heap)
    (ho : K.lookup f = some ⟨oc, od, .func (fnOf name qual params body scope dV kV doc pm an cdv ct), osl⟩) (hcd : codeIn K cdv qual = true)
    (hbind : BindsTo s (fnOf name qual params body scope dV kV doc pm an cdv ct) ⟨vals, []⟩ binds) (hloc : ∀ y ∈ binds, scope.names.lookup y.1 = some .local)
    (hcell : ∀ x ∈ scope.names, x.2 ≠ .cell)
    (hco : scope.isCoroutine = false) (hgen : scope.isGenerator = false) (hk : scope.kind = .function)
    (h : ∀ L h₁, Fr s.heap L h₁ (fun y => binds.reverse.lookup y) → News s.heap L h₁ [] →
      wpAny (model pw w) ((AA d).deeper (envOf qual scope L f cdv)) (execs body (envOf qual scope L f cdv))
        (fun fl s' => Ans P s.heap s.gens s.drawn s.os (match fl with | .ret v => v | _ => .none) s') (fun _ _ => False)
        { s with heap := h₁, toks := s.toks + binds.length }) :
    Call w d (.ref f) vals P s := by
  refine wpAny_call (codeAny_call_def (fd := fnOf name qual params body scope dV kV doc pm an cdv ct) (body := body) (binds := binds) hroom (X _ _ ho) rfl T.nolimit (codeRec_of X hcd) rfl hbind hcell hloc (fun h₁ hns hk₁ => ?_) hco hgen hk)
  exact wpAny_mono (h _ h₁ ⟨hns, hk₁, Nat.le_refl _⟩ News.nil) (fun _ _ x => x) (fun _ _ x => x.elim)
noncomputable def lk (l : List (Str × Value)) (y : Str) : Option Value := l.lookup y
theorem enter1 {P : Heap → Value → Prop} {name qual : Str} {params : Arguments} {body : List Stmt} {scope : Scope} {dV kV doc pm cdv ct oc : Value} {an od : Option Addr} {osl : Array (Option Value)} {f : Addr} {v1 : Value} (x1 : Str)
    (hroom : d + 400 < recursionLimit) (X : K.In s.heap) (T : Top p loose mean mg mb s.heap)
    (ho : K.lookup f = some ⟨oc, od, .func (fnOf name qual params body scope dV kV doc pm an cdv ct), osl⟩) (hcd : codeIn K cdv qual = true)
    (hbind : bindArgs (fnOf name qual params body scope dV kV doc pm an cdv ct) ⟨[v1], []⟩ = pure [(x1, v1)]) (hloc : scope.names.lookup x1 = some .local)
    (hcell : ∀ x ∈ scope.names, x.2 ≠ .cell)
    (hco : scope.isCoroutine = false) (hgen : scope.isGenerator = false) (hk : scope.kind = .function)
    (h : ∀ L h₁, Fr s.heap L h₁ (lk [(x1, v1)]) → News s.heap L h₁ [] →
      wpAny (model pw w) ((AA d).deeper (envOf qual scope L f cdv)) (execs body (envOf qual scope L f cdv))
        (fun fl s' => Ans P s.heap s.gens s.drawn s.os (match fl with | .ret v => v | _ => .none) s') (fun _ _ => False)
        { s with heap := h₁, toks := s.toks + 1 }) :
    Call w d (.ref f) [v1] P s :=
  enter hroom X T ho hcd (.of_eq hbind) (fun y hy => by simp only [List.mem_singleton] at hy; subst hy; exact hloc) hcell hco hgen hk h
theorem enter2 {P : Heap → Value → Prop} {name qual : Str} {params : Arguments} {body : List Stmt} {scope : Scope} {dV kV doc pm cdv ct oc : Value} {an od : Option Addr} {osl : Array (Option Value)} {f : Addr} {v1 v2 : Value} (x1 x2 : Str)
    (hroom : d + 400 < recursionLimit) (X : K.In s.heap) (T : Top p loose mean mg mb s.heap)
    (ho : K.lookup f = some ⟨oc, od, .func (fnOf name qual params body scope dV kV doc pm an cdv ct), osl⟩) (hcd : codeIn K cdv qual = true)
    (hbind : bindArgs (fnOf name qual params body scope dV kV doc pm an cdv ct) ⟨[v1, v2], []⟩ = pure [(x1, v1), (x2, v2)]) (hloc : scope.names.lookup x1 = some .local) (hloc2 : scope.names.lookup x2 = some .local)
    (hcell : ∀ x ∈ scope.names, x.2 ≠ .cell)
    (hco : scope.isCoroutine = false) (hgen : scope.isGenerator = false) (hk : scope.kind = .function)
    (h : ∀ L h₁, Fr s.heap L h₁ (lk [(x2, v2), (x1, v1)]) → News s.heap L h₁ [] →
      wpAny (model pw w) ((AA d).deeper (envOf qual scope L f cdv)) (execs body (envOf qual scope L f cdv))
        (fun fl s' => Ans P s.heap s.gens s.drawn s.os (match fl with | .ret v => v | _ => .none) s') (fun _ _ => False)
        { s with heap := h₁, toks := s.toks + 2 }) :
    Call w d (.ref f) [v1, v2] P s :=
  enter hroom X T ho hcd (.of_eq hbind) (fun y hy => by rcases List.mem_cons.mp hy with rfl | hy; exact hloc; simp only [List.mem_singleton] at hy; subst hy; exact hloc2) hcell hco hgen hk h
theorem enter3 {P : Heap → Value → Prop} {name qual : Str} {params : Arguments} {body : List Stmt} {scope : Scope} {dV kV doc pm cdv ct oc : Value} {an od : Option Addr} {osl : Array (Option Value)} {f : Addr} {vals : List Value} {v1 v2 v3 : Value} (x1 x2 x3 : Str)
    (hroom : d + 400 < recursionLimit) (X : K.In s.heap) (T : Top p loose mean mg mb s.heap)
    (ho : K.lookup f = some ⟨oc, od, .func (fnOf name qual params body scope dV kV doc pm an cdv ct), osl⟩) (hcd : codeIn K cdv qual = true)
    (hbind : BindsTo s (fnOf name qual params body scope dV kV doc pm an cdv ct) ⟨vals, []⟩ [(x1, v1), (x2, v2), (x3, v3)]) (hloc : scope.names.lookup x1 = some .local) (hloc2 : scope.names.lookup x2 = some .local) (hloc3 : scope.names.lookup x3 = some .local)
    (hcell : ∀ x ∈ scope.names, x.2 ≠ .cell)
    (hco : scope.isCoroutine = false) (hgen : scope.isGenerator = false) (hk : scope.kind = .function)
    (h : ∀ L h₁, Fr s.heap L h₁ (lk [(x3, v3), (x2, v2), (x1, v1)]) → News s.heap L h₁ [] →
      wpAny (model pw w) ((AA d).deeper (envOf qual scope L f cdv)) (execs body (envOf qual scope L f cdv))
        (fun fl s' => Ans P s.heap s.gens s.drawn s.os (match fl with | .ret v => v | _ => .none) s') (fun _ _ => False)
        { s with heap := h₁, toks := s.toks + 3 }) :
    Call w d (.ref f) vals P s :=
  enter hroom X T ho hcd hbind (fun y hy => by
    rcases List.mem_cons.mp hy with rfl | hy
    · exact hloc
    · rcases List.mem_cons.mp hy with rfl | hy
      · exact hloc2
      · simp only [List.mem_singleton] at hy; subst hy; exact hloc3) hcell hco hgen hk h
/-- into a def with a star parameter -/
theorem enterV {P : Heap → Value → Prop} {name qual : Str} {params : Arguments} {body : List Stmt} {scope : Scope} {dV kV doc pm cdv ct oc : Value} {an od : Option Addr} {osl : Array (Option Value)} {f : Addr} {v1 : Value} {rest : List Value} (x1 xp : Str)
    (hroom : d + 400 < recursionLimit) (X : K.In s.heap) (T : Top p loose mean mg mb s.heap)
    (ho : K.lookup f = some ⟨oc, od, .func (fnOf name qual params body scope dV kV doc pm an cdv ct), osl⟩) (hcd : codeIn K cdv qual = true)
    (hbind : bindArgs (fnOf name qual params body scope dV kV doc pm an cdv ct) ⟨v1 :: rest, []⟩ = (newTuple rest >>= fun t => pure [(x1, v1), (xp, t)])) (hloc : scope.names.lookup x1 = some .local) (hloc2 : scope.names.lookup xp = some .local)
    (hcell : ∀ x ∈ scope.names, x.2 ≠ .cell)
    (hco : scope.isCoroutine = false) (hgen : scope.isGenerator = false) (hk : scope.kind = .function) (hsz : rest.length ≤ sizeLine)
    (h : ∀ L a h₁, Fr s.heap L h₁ (lk [(xp, .ref a), (x1, v1)]) → News s.heap L h₁ [(a, { cls := .type "tuple", data := .seq rest.toArray })] →
      wpAny (model pw w) ((AA d).deeper (envOf qual scope L f cdv)) (execs body (envOf qual scope L f cdv))
        (fun fl s' => Ans P s.heap s.gens s.drawn s.os (match fl with | .ret v => v | _ => .none) s') (fun _ _ => False)
        { s with heap := h₁, toks := s.toks + 2 }) :
    Call w d (.ref f) (v1 :: rest) P s := by
  refine wpAny_call (codeAny_call_function (fd := fnOf name qual params body scope dV kV doc pm an cdv ct) (body := body) hroom (X _ _ ho) rfl hco hgen rfl (codeRec_of X hcd) ?_)
  rw [hbind]
  refine wpAny_bind (wpAny_newObj_type (wpAny_pure ?_) (by show rest.toArray.size ≤ sizeLine; rw [List.size_toArray]; exact hsz))
  have hl : ∀ y ∈ [(x1, v1), (xp, Value.ref s.heap.objs.size)], scope.names.lookup y.1 = some .local := fun y hy => by
    rcases List.mem_cons.mp hy with rfl | hy
    · exact hloc
    · simp only [List.mem_singleton] at hy; subst hy; exact hloc2
  refine wpAny_newFunctionEnv hcell hl (fun h₁ hns hsb => ?_) hk
  dsimp only at hns hsb
  have k0 : Stays s.heap (s.heap.push { cls := .type "tuple", data := .seq rest.toArray }) := fun b o e => Heap.get?_push_of_some _ e
  generalize hH : s.heap.push { cls := .type "tuple", data := .seq rest.toArray } = H at hns hsb k0
  have hHs : H.objs.size = s.heap.objs.size + 1 := by rw [← hH, Heap.size_push]
  have k1 : Stays H h₁ := fun b o e => hsb.extBut b o (Nat.ne_of_lt (Heap.lt_size e)) (Heap.get?_push_of_some _ e)
  have F : Fr s.heap H.objs.size h₁ (lk [(xp, .ref s.heap.objs.size), (x1, v1)]) := ⟨hns, k0.trans k1, by rw [hHs]; exact Nat.le_succ _⟩
  have hn : s.heap.get? s.heap.objs.size = none := by
    cases q : s.heap.get? s.heap.objs.size with
    | none => rfl
    | some o => exact absurd (Heap.lt_size q) (Nat.lt_irrefl _)
  have N : News s.heap H.objs.size h₁ [(s.heap.objs.size, { cls := .type "tuple", data := .seq rest.toArray })] := fun q hq => by
    simp only [List.mem_singleton] at hq
    subst hq
    refine ⟨k1 _ _ (by rw [← hH]; exact Heap.get?_push_size _ rfl), by rw [hHs]; exact Nat.ne_of_lt (Nat.lt_succ_self _), hn⟩
  refine ⟨(T.nolimit.keeps k0).fresh _ hsb, codeAny_func ?_⟩
  exact wpAny_mono (h _ _ h₁ F N) (fun _ _ x => x) (fun _ _ x => x.elim)
end
local macro_rules | `(tactic| walk_at "rm") => `(tactic| first | (exact Rm.le (Rm.deeper (Rm.mk' _) _) (by decide)) | (exact Rm.le (Rm.mk' _) (by decide)) | (exact Rm.le (by assumption) (by decide)) | (exact Rm.le (Rm.deeper (by assumption) _) (by decide)))
/-- a tuple, a list of these items, made since h0 -/
noncomputable def IsT (h0 h : Heap) (v : Value) (items : List Value) : Prop := ∃ a, v = .ref a ∧ h.get? a = some { cls := .type "tuple", data := .seq items.toArray } ∧ h0.get? a = none
noncomputable def IsL (h0 h : Heap) (v : Value) (items : List Value) : Prop := ∃ a n, v = .ref a ∧ h.get? a = some { cls := .type "list", data := .seq items.toArray n } ∧ h0.get? a = none
theorem isT_news {h₀ h : Heap} {L a : Addr} {news : List (Addr × Obj)} {items : List Value} (N : News h₀ L h news) (hm : (a, ({ cls := .type "tuple", data := .seq items.toArray } : Obj)) ∈ news) : IsT h₀ h (.ref a) items := ⟨a, rfl, (N _ hm).1, (N _ hm).2.2⟩
theorem isL_news {h₀ h : Heap} {L a : Addr} {n : Nat} {news : List (Addr × Obj)} {items : List Value} (N : News h₀ L h news) (hm : (a, ({ cls := .type "list", data := .seq items.toArray n } : Obj)) ∈ news) : IsL h₀ h (.ref a) items := ⟨a, n, rfl, (N _ hm).1, (N _ hm).2.2⟩
local macro_rules | `(tactic| walk_at "done") => `(tactic| (k_dflt (refine ans_fr (by assumption) ?_); (try dsimp only)))
local macro_rules | `(tactic| walk_at "turned") => `(tactic| (try dsimp only))
/-- a fact that the walk shall not see -/
structure Hid (P : Prop) : Prop where
  out : P
/-- the walk's end as a name of its own -/
theorem wpAny_q {α : Type} {M : Model} {A : Around} {t : Sem α} {P : α → Shared → Prop} {E : Value → Shared → Prop} {s : Shared} (h : ∀ Q : α → Shared → Prop, Hid (∀ v s', P v s' → Q v s') → wpAny M A t Q E s) : wpAny M A t P E s := h P ⟨fun _ _ x => x⟩
theorem wpAny_q2 {α β : Type} {M : Model} {A : Around} {t : Sem β} {k : Sem α} {P : α → Shared → Prop} {E E' : Value → Shared → Prop} {s : Shared} (h : ∀ Q : α → Shared → Prop, Hid (∀ v s', P v s' → Q v s') → wpAny M A t (fun _ s' => wpAny M A k Q E s') E' s) : wpAny M A t (fun _ s' => wpAny M A k P E s') E' s := h P ⟨fun _ _ x => x⟩
local macro_rules | `(tactic| walk_at "t5") => `(tactic| ((· walk_at "rm"); (· k_asm); (· k_asm); (· k_asm); (· k_asm)))
local macro_rules | `(tactic| walk_at "n4") => `(tactic| ((· k_asm); (· exact rfl); (· exact rfl); (· decide)))


open PySem PySem.W PySem.W.X PyProof.Rows PySem.Calls PySem.Spec
noncomputable abbrev Nope : Value → Shared → Prop := fun _ _ => False
theorem nope_noted {M : Model} {A : Around} {env : Env} {α : Type} {t : Sem α} {Q : α → Shared → Prop} {E : Value → Shared → Prop} {s : Shared} (h : wpAny M A t Q Nope s) : wpAny M A t Q E s := wpAny_mono h (fun _ _ x => x) (fun _ _ x => x.elim)

theorem runs_toks {M : Model} {Γ : PySem.Ctx} {p : Pos} {t : Sem Fin} {fs : List Frame} {s s' : Shared} {e : End} (h : Runs M Γ p t fs s e s') : s.toks ≤ s'.toks := by
  induction h <;> first | exact Nat.le_refl _ | assumption | (rename_i ih; exact Nat.le_of_succ_le ih) | (rename_i ih1 ih2; exact Nat.le_trans ih1 ih2)
theorem wakes_toks {M : Model} {Γ : PySem.Ctx} {p : Pos} {g : Nat} {r : Resume} {s s' : Shared} {res : GenResult} (h : Wakes M Γ p g r s res s') : s.toks ≤ s'.toks := by
  unfold Wakes at h
  split at h
  · exact h.elim
  · split at h
    · obtain ⟨e₁, s₁, hr, _, _, rfl⟩ := h
      exact (runs_toks hr : _)
    · rw [h.2]; exact Nat.le_refl _
    · rw [h.2]; exact Nat.le_refl _
  · obtain ⟨e₁, s₁, hr, _, _, rfl⟩ := h
    exact (runs_toks hr : _)
  · rw [h.2]; exact Nat.le_refl _
  · rw [h.2]; exact Nat.le_refl _
theorem wp_toks {M : Model} {Γ : PySem.Ctx} {α : Type} (t : Sem α) : ∀ {Q : α → Pos → Shared → Prop} {E : Value → Pos → Shared → Prop} {p : Pos} {s : Shared} (n : Nat), n ≤ s.toks → Sem.wp M Γ t (fun a p s' => n ≤ s'.toks → Q a p s') (fun e p s' => n ≤ s'.toks → E e p s') p s → Sem.wp M Γ t Q E p s := by
  induction t with
  | pure a => intro Q E p s n hn h; exact h hn
  | raise e => intro Q E p s n hn h; exact h hn
  | unsupported _ => intro Q E p s n hn h; exact h
  | finish _ => intro Q E p s n hn h; exact h
  | rule _ k ih => intro Q E p s n hn h; exact ih _ n hn h
  | «at» p' k ih => intro Q E p s n hn h; exact ih _ n hn h
  | load a q k ih => intro Q E p s n hn h; obtain ⟨o, ho, h⟩ := h; exact ⟨o, ho, ih _ n hn h⟩
  | update a q f k ih => intro Q E p s n hn h; exact ⟨h.1, ih _ n hn h.2⟩
  | alloc o k ih => intro Q E p s n hn h; exact ih _ n (by exact hn) h
  | loadIfAlive a k ih => intro Q E p s n hn h; exact ih _ n hn h
  | point l k ih => intro Q E p s n hn h; exact ih _ n hn h
  | register a k ih => intro Q E p s n hn h; exact h
  | fresh k ih => intro Q E p s n hn h; exact ih _ n (Nat.le_succ_of_le hn) h
  | ask k ih => intro Q E p s n hn h; exact ih _ n hn h
  | choose src m k ih => intro Q E p s n hn h; exact ⟨h.1, ih _ n (by exact hn) h.2⟩
  | os q l k ih => intro Q E p s n hn h; exact ih _ n (by exact hn) h
  | call c hd g l k ih => intro Q E p s n hn h; obtain ⟨r, s', hr, h⟩ := h; exact ⟨r, s', hr, ih _ n (Nat.le_trans hn (runs_toks hr)) h⟩
  | handled o k ih => intro Q E p s n hn h; exact ih _ n hn h
  | newGen c k ih => intro Q E p s n hn h; exact ih _ n (by exact hn) h
  | genState g k ih => intro Q E p s n hn h; obtain ⟨st, ho, h⟩ := h; exact ⟨st, ho, ih _ n hn h⟩
  | resume g r l k ih => intro Q E p s n hn h; obtain ⟨r, s', hr, h⟩ := h; exact ⟨r, s', hr, ih _ n (Nat.le_trans hn (wakes_toks hr)) h⟩
  | yield v g l k ih => intro Q E p s n hn h; exact h
  | stack k ih => intro Q E p s n hn h; exact ih _ n hn h
  | fork c k ih => intro Q E p s n hn h; exact h
  | thread k ih => intro Q E p s n hn h; first | exact ih _ n hn h | exact h
  | await a t d l k ih => intro Q E p s n hn h; exact h
/-- a token is never less than one before it -/
theorem toks_up {M : Model} {A : Around} {α : Type} {t : Sem α} {Q : α → Shared → Prop} {E : Value → Shared → Prop} {s : Shared} (n : Nat) (hn : n ≤ s.toks) (h : wpAny M A t (fun a s' => n ≤ s'.toks → Q a s') E s) : wpAny M A t Q E s :=
fun Γ p hΓ => by
  refine wp_toks t n hn ?_
  refine Sem.wp_mono M Γ t (fun _ _ _ x => x) ?_ _ _ (h Γ p hΓ)
  intro v p' s' x _
  exact x

/-- how a turn of a for ends -/
inductive TurnAt (h₀ : Heap) (L : Addr) (J : (Str → Option Value) → List (Addr × Obj) → Prop) (I : Addr) (io : Obj) (g : Array GenState) (d : Drawn) (os : OsState) (s' : Shared) (h' : Heap) (tk : Nat) (m' : Str → Option Value) (led nx : List (Addr × Obj)) : Prop where
  | mk (hs : s' = ⟨h', g, d, tk, os⟩) (F : Fr h₀ L h' m') (N : News h₀ L h' led) (hI : (I, io) ∈ led) (hn : ∀ p ∈ nx, p ∈ led ∧ p.1 ≠ I) (hj : J m' nx)
inductive ForSt (h₀ : Heap) (L : Addr) (s : Shared) (I : Addr) (n : Nat) (St : Nat → Heap → Prop) (J : Nat → (Str → Option Value) → List (Addr × Obj) → Prop) (k : Nat) (s' : Shared) (h' : Heap) (tk : Nat) (m' : Str → Option Value) (nx' : List (Addr × Obj)) (i : Nat) : Prop where
  | mk (hs : s' = { s with heap := h', toks := tk }) (htk : s.toks ≤ tk) (st : St i h') (F : Fr h₀ L h' m') (N : News h₀ L h' nx') (hn : ∀ p ∈ nx', p.1 ≠ I) (hJ : J i m' nx') (hi : i ≤ n) (hk : k = n + 1 - i)
noncomputable def TurnEnd (h₀ : Heap) (L : Addr) (J : (Str → Option Value) → List (Addr × Obj) → Prop) (I : Addr) (io : Obj) (s : Shared) (Q : Flow → Shared → Prop) (fl : Flow) (s' : Shared) : Prop := match fl with
  | .ret v => Q (.ret v) s'
  | .brk => Q .next s'
  | _ => ∃ h' tk m' led nx, TurnAt h₀ L J I io s.gens s.drawn s.os s' h' tk m' led nx
theorem TurnEnd.intro {h₀ : Heap} {L : Addr} {J : (Str → Option Value) → List (Addr × Obj) → Prop} {I : Addr} {io : Obj} {s : Shared} {Q : Flow → Shared → Prop} {h' : Heap} {tk : Nat} {m' : Str → Option Value} {led : List (Addr × Obj)} (nx : List (Addr × Obj))
    (F : Fr h₀ L h' m') (N : News h₀ L h' led) (hI : (I, io) ∈ led) (hn : ∀ p ∈ nx, p ∈ led ∧ p.1 ≠ I) (hj : J m' nx) : TurnEnd h₀ L J I io s Q .next { s with heap := h', toks := tk } := ⟨h', tk, m', led, nx, rfl, F, N, hI, hn, hj⟩
theorem TurnEnd.introC {h₀ : Heap} {L : Addr} {J : (Str → Option Value) → List (Addr × Obj) → Prop} {I : Addr} {io : Obj} {s : Shared} {Q : Flow → Shared → Prop} {h' : Heap} {tk : Nat} {m' : Str → Option Value} {led : List (Addr × Obj)} (nx : List (Addr × Obj))
    (F : Fr h₀ L h' m') (N : News h₀ L h' led) (hI : (I, io) ∈ led) (hn : ∀ p ∈ nx, p ∈ led ∧ p.1 ≠ I) (hj : J m' nx) : TurnEnd h₀ L J I io s Q .cont { s with heap := h', toks := tk } := ⟨h', tk, m', led, nx, rfl, F, N, hI, hn, hj⟩

inductive ForAtS (prog : Program) (w : World) (A : Around) (h₀ : Heap) (env : Env) (x : Str) (body : List Stmt) (Q : Flow → Shared → Prop) (it : Value) (s : Shared)
    (I : Addr) (fp : List Addr) (n : Nat) (P : Nat → Value → Prop) (St : Nat → Heap → Prop) (m : Str → Option Value) (nx : List (Addr × Obj)) (J : Nat → (Str → Option Value) → List (Addr × Obj) → Prop) : Prop where
  | mk (it : it = .ref I) (W : Walks prog w A I fp [I] n P St) (hL : env.locals ∉ fp) (h0I : h₀.get? I = none) (hI : ∀ i h, St i h → ∃ o, h.get? I = some o) (hf : ∀ b ∈ fp, b = I ∨ (∃ o, h₀.get? b = some o) ∨ ∃ o, ∀ i m nx, J i m nx → (b, o) ∈ nx) (st : St 0 s.heap) (F : Fr h₀ env.locals s.heap m) (N : News h₀ env.locals s.heap nx) (hn : ∀ p ∈ nx, p.1 ≠ I) (j0 : J 0 m nx) (turn : ∀ i v m₁ nx₁ h tk io, s.toks ≤ tk → i < n → P i v → J i m₁ nx₁ → (∀ p ∈ nx₁, p.1 ≠ I) → Fr h₀ env.locals h (fun y => if y = x then some v else m₁ y) → News h₀ env.locals h ((I, io) :: nx₁) → wpAny (model prog w) A (execs body env) (TurnEnd h₀ env.locals (J (i + 1)) I io s Q) Nope { s with heap := h, toks := tk }) (done : ∀ h tk m₁ nx₁, s.toks ≤ tk → Fr h₀ env.locals h m₁ → News h₀ env.locals h nx₁ → (∀ p ∈ nx₁, p.1 ≠ I) → J n m₁ nx₁ → Q .next { s with heap := h, toks := tk })
noncomputable def ForAt (prog : Program) (w : World) (A : Around) (h₀ : Heap) (env : Env) (x : Str) (body : List Stmt) (Q : Flow → Shared → Prop) (it : Value) (s : Shared) : Prop :=
  ∃ (I : Addr) (fp : List Addr) (n : Nat) (P : Nat → Value → Prop) (St : Nat → Heap → Prop) (m : Str → Option Value) (nx : List (Addr × Obj)) (J : Nat → (Str → Option Value) → List (Addr × Obj) → Prop), ForAtS prog w A h₀ env x body Q it s I fp n P St m nx J

section
variable {prog : Program} {w : World} {A : Around} {s : Shared} {env : Env} {h₀ : Heap} {x : Str} {body : List Stmt} {Q : Flow → Shared → Prop}

theorem for_own {px pos : Pos} {iter : Expr} (hx : env.kindOf x = some .local) (hp : (env.scope.kind == .class || (env.scope.kind == .module && env.locals != env.globals)) = false)
    (h : wpAny (model prog w) A (eval iter env) (fun xv s₁ => wpAny (model prog w) A (pyIter xv) (fun it s₂ => ForAt prog w A h₀ env x body Q it s₂) Nope s₁) Nope s)
    (hs : ∀ x, foldedSetIterable iter env x = pure x := by intro _; rfl) :
    wpAny (model prog w) A (exec (.For (.Name x px) iter body [] pos) env) Q Nope s := by
  refine wpAny_For (wpAny_mono h (fun xv s₁ h₁ => wpAny_mono h₁ (fun it s₂ h₂ => ?_) fun _ _ e => e) fun _ _ e => e) hs
  obtain ⟨I, fp, n, P, St, m, nx, J, rfl, W, hLf, hI0, hIh, hfp, hst, F, N, hnx, h0, turn, done⟩ := h₂
  have hLI : env.locals ≠ I := fun q => hLf (by rw [q]; exact W.sub _ (.head _))
  refine codeAny_forLoop
    (fun k s' => ∃ h' tk m' nx' i, ForSt h₀ env.locals s₂ I n St J k s' h' tk m' nx' i) ?_ (n + 1)
    ⟨s₂.heap, s₂.toks, m, nx, 0, rfl, Nat.le_refl _, hst, F, N, hnx, h0, Nat.zero_le _, rfl⟩
  rintro k s' ⟨h', tk, m', nx', i, rfl, htk, hst', F', N', hnx', hJ, hi, rfl⟩
  have next : ∀ h₁ : Heap, (∀ b o, b ∉ [I] → h'.get? b = some o → h₁.get? b = some o) → Fr h₀ env.locals h₁ m' ∧ News h₀ env.locals h₁ nx' := fun h₁ hk₁ =>
    ⟨⟨F'.ns.at' fun o e => hk₁ _ o (by simpa using hLI) e, fun b o e => hk₁ b o (fun hb => by rw [List.mem_singleton.mp hb, hI0] at e; cases e) (F'.keep b o e), F'.above⟩,
      fun p hp => ⟨hk₁ _ _ (by simpa using hnx' p hp) (N' p hp).1, (N' p hp).2⟩⟩
  by_cases hlt : i < n
  · refine toks_up s₂.toks htk ?_
    refine W.item i _ _ _ hlt hst' fun v h₁ tk₁ hP hst₁ hk₁ => ?_
    intro htk₁
    obtain ⟨F₁, N₁⟩ := next h₁ hk₁
    refine nope_noted (env := env) (wpAny_assign_Name (wpAny_storeName_local hx F₁.ns (fun h₂ hn₂ hs₂ => ?_) hp))
    have F₂ := F₁.set hn₂ hs₂
    have hst₂ : St (i + 1) h₂ := W.frame _ _ _ hst₁ fun b hb o e => (hs₂.2 b fun q => hLf (q ▸ hb)).trans e
    obtain ⟨io, hio⟩ := hIh _ _ hst₂
    have N₂ : News h₀ env.locals h₂ ((I, io) :: nx') := fun p hp => by
      rcases List.mem_cons.mp hp with rfl | hp
      · exact ⟨hio, fun q => hLI q.symm, hI0⟩
      · exact (N₁.set hs₂) p hp
    refine toks_up s₂.toks (by exact Nat.le_succ_of_le htk₁) ?_
    refine nope_noted (env := env) (wpAny_mono (turn i v m' nx' h₂ (tk₁ + 1) io (Nat.le_succ_of_le htk₁) hlt hP hJ hnx' F₂ N₂) (fun f s₃ h₃ => ?_) fun _ _ e => e)
    intro htk₃
    have go : (∃ h' tk m' led nx, TurnAt h₀ env.locals (J (i + 1)) I io s₂.gens s₂.drawn s₂.os s₃ h' tk m' led nx) → ∃ m, m < n + 1 - i ∧ ∃ h' tk m' nx' i, ForSt h₀ env.locals s₂ I n St J m s₃ h' tk m' nx' i := by
      rintro ⟨h₃', tk₃, m₃, led, nx₃, rfl, F₃, N₃, hIl, hnl, hJ₃⟩
      refine ⟨n + 1 - (i + 1), by omega, h₃', tk₃, m₃, nx₃, i + 1, rfl, htk₃, ?_, F₃, fun p hp => N₃ p (hnl p hp).1, fun p hp => (hnl p hp).2, hJ₃, hlt, rfl⟩
      refine W.frame _ _ _ hst₂ fun b hb o e => ?_
      rcases hfp b hb with rfl | ⟨o₀, ho⟩ | ⟨o₀, ho⟩
      · have : o = io := Option.some.inj (e.symm.trans hio)
        exact this ▸ (N₃ _ hIl).1
      · have : o₀ = o := by have := F₂.keep b o₀ ho; rw [e] at this; exact (Option.some.inj this).symm
        exact this ▸ F₃.keep b o₀ ho
      · have : o₀ = o := by have := (N₂ _ (List.mem_cons_of_mem _ (ho _ _ _ hJ))).1; exact Option.some.inj (this.symm.trans e)
        exact this ▸ (N₃ _ (hnl _ (ho _ _ _ hJ₃)).1).1
    cases f with
    | ret v => exact h₃
    | brk => exact h₃
    | cont => exact go h₃
    | next => exact go h₃
  · have hin : i = n := by omega
    subst hin
    refine toks_up s₂.toks htk ?_
    refine W.done _ _ _ hst' fun h₁ tk₁ hk₁ => ?_
    intro htk₁
    refine wpAny_execs_nil ?_
    obtain ⟨F₁, N₁⟩ := next h₁ hk₁
    exact done h₁ tk₁ m' nx' htk₁ F₁ N₁ hnx' hJ

theorem for_ownF {px pos : Pos} {iter : Expr} {m : Str → Option Value} (_F : Fr h₀ env.locals s.heap m) (hx : env.kindOf x = some .local) (hp : (env.scope.kind == .class || (env.scope.kind == .module && env.locals != env.globals)) = false)
    (h : wpAny (model prog w) A (eval iter env) (fun xv s₁ => wpAny (model prog w) A (pyIter xv) (fun it s₂ => ForAt prog w A h₀ env x body Q it s₂) Nope s₁) Nope s)
    (hs : ∀ x, foldedSetIterable iter env x = pure x := by intro _; rfl) :
    wpAny (model prog w) A (exec (.For (.Name x px) iter body [] pos) env) Q Nope s := for_own hx hp h hs
/-- a try whose body raises nothing -/
theorem try_quiet {M : Model} {A : Around} {s : Shared} {env : Env} {Q : Flow → Shared → Prop} {E : Value → Shared → Prop} {body : List Stmt} {hs : List ExceptHandler} {pos : Pos} (h : wpAny M A (execs body env) Q Nope s) : wpAny M A (exec (.Try body hs [] [] pos) env) Q E s := by
  show wpAny M A (standAt pos >>= fun _ => tryStmt false (execs body env) hs (execs [] env) [] env) Q E s
  refine wpAny_bind (wpAny_standAt ?_)
  unfold tryStmt
  simp only [List.isEmpty_nil, if_true]
  refine wpAny_bind (wpAny_attempt (wpAny_mono h (fun f s' hq => ?_) fun _ _ x => x.elim))
  cases f with
  | next => exact wpAny_execs_nil hq
  | brk => exact wpAny_pure hq
  | cont => exact wpAny_pure hq
  | ret v => exact wpAny_pure hq
/-- a for over a list -/
theorem for_list {l : Addr} {lo : Obj} {vs : List Value} {k : Nat} {m : Str → Option Value} {nx : List (Addr × Obj)} (J : Nat → (Str → Option Value) → List (Addr × Obj) → Prop)
    (hh : A.handled = none) (hlo : lo = { cls := .type "list", data := .seq vs.toArray k }) (F : Fr h₀ env.locals s.heap m) (N : News h₀ env.locals s.heap nx)
    (hl : h₀.get? l = some lo ∨ ∀ i m nx, J i m nx → (l, lo) ∈ nx) (h0 : J 0 m nx)
    (turn : ∀ I i v m₁ nx₁ h tk io, s.toks ≤ tk → vs[i]? = some v → J i m₁ nx₁ → (∀ p ∈ nx₁, p.1 ≠ I) → Fr h₀ env.locals h (fun y => if y = x then some v else m₁ y) → News h₀ env.locals h ((I, io) :: nx₁) →
      wpAny (model prog w) A (execs body env) (TurnEnd h₀ env.locals (J (i + 1)) I io s Q) Nope { s with heap := h, toks := tk })
    (done : ∀ h tk m₁ nx₁, s.toks ≤ tk → Fr h₀ env.locals h m₁ → News h₀ env.locals h nx₁ → J vs.length m₁ nx₁ → Q .next { s with heap := h, toks := tk }) :
    wpAny (model prog w) A (pyIter (.ref l)) (fun it s₂ => ForAt prog w A h₀ env x body Q it s₂) Nope s := by
  have hlo' : s.heap.get? l = some lo := hl.elim (fun e => F.keep l lo e) fun e => (N _ (e _ _ _ h0)).1
  have hls : s.heap.IsList l vs.toArray := ⟨_, hlo', by rw [hlo], k, by rw [hlo]⟩
  have hne : l ≠ s.heap.objs.size := Nat.ne_of_lt (Heap.lt_size hlo')
  have hLl : env.locals ≠ l := fun q => by
    rcases hl with e | e
    · exact absurd (Heap.lt_size e) (Nat.not_lt.mpr (q ▸ F.above))
    · exact (N _ (e _ _ _ h0)).2.1 q.symm
  have fresh : ∀ {g : Heap} {a : Addr}, g.objs.size ≤ a → g.get? a = none := fun {g a} ha => by
    cases e : g.get? a with
    | none => rfl
    | some o' => exact absurd (Heap.lt_size e) (Nat.not_lt.mpr ha)
  refine wpAny_pyIter_list hls ?_
  have W := Walks.list (prog := prog) (w := w) hh s.heap.objs.size l hne vs.toArray
  refine ⟨_, _, _, _, _, m, nx, J, rfl, W, ?_, fresh (Nat.le_of_lt (Nat.lt_of_le_of_lt F.above F.ns.lt)), ?_, ?_, ⟨⟨_, Heap.get?_push_size _ rfl, rfl, rfl⟩, hls.at fun o e => Heap.get?_push_of_some _ e⟩, F.push _,
    (fun p hp => ⟨Heap.get?_push_of_some _ (N p hp).1, (N p hp).2⟩), (fun p hp => Nat.ne_of_lt (Heap.lt_size (N p hp).1)), h0, ?_, ?_⟩
  · intro hm
    rcases List.mem_cons.mp hm with e | hm
    · exact absurd F.ns.lt (e ▸ Nat.lt_irrefl _)
    · exact hLl (List.mem_singleton.mp hm)
  · rintro i h ⟨⟨o, ho, _⟩, _⟩
    exact ⟨o, ho⟩
  · intro b hb
    rcases List.mem_cons.mp hb with e | hb
    · exact .inl e
    · rw [List.mem_singleton.mp hb]
      exact .inr (hl.elim (fun e => .inl ⟨_, e⟩) fun e => .inr ⟨_, e⟩)
  · intro i v m₁ nx₁ h tk io htk _ hP hJ hoff F₁ N₁
    exact turn _ i v m₁ nx₁ h tk io htk (by simpa using hP) hJ hoff F₁ N₁
  · intro h tk m₁ nx₁ htk F₁ N₁ _ hJ
    exact done h tk m₁ nx₁ htk F₁ N₁ (by simpa using hJ)
theorem walks_from {prog : Program} {w : World} {A : Around} (hh : A.handled = none) (I ax : Addr) (hne : ax ≠ I) (items : Array Value) (j : Nat) (hj : j ≤ items.size) :
    Walks prog w A I [I, ax] [I] (items.size - j) (fun i v => items[j + i]? = some v) (fun i h => h.IsListIter I ax (j + i) ∧ h.IsList ax items) where
  sub := (Walks.list (prog := prog) (w := w) hh I ax hne items).sub
  frame := fun i h h' st hk => (Walks.list (prog := prog) (w := w) hh I ax hne items).frame (j + i) h h' st hk
  item := fun i s Q E hi st hQ => (Walks.list (prog := prog) (w := w) hh I ax hne items).item (j + i) s Q E (by omega) st hQ
  done := fun s Q E st hQ => (Walks.list (prog := prog) (w := w) hh I ax hne items).done s Q E (by rw [show j + (items.size - j) = items.size from by omega] at st; exact st) hQ
  self := fun i s Q E st hQ => (Walks.list (prog := prog) (w := w) hh I ax hne items).self (j + i) s Q E st hQ
/-- a for over what a list's iterator still has -/
theorem for_iter {I l : Addr} {lo io₀ : Obj} {vs : List Value} {k j : Nat} {m : Str → Option Value} {nx : List (Addr × Obj)} (J : Nat → (Str → Option Value) → List (Addr × Obj) → Prop)
    (hh : A.handled = none) (hlo : lo = { cls := .type "list", data := .seq vs.toArray k }) (hio : io₀.cls = .type "list_iterator" ∧ io₀.data = .fields #[.ref l, .int (j : Nat) 0]) (hj : j ≤ vs.length) (F : Fr h₀ env.locals s.heap m) (N : News h₀ env.locals s.heap ((I, io₀) :: nx)) (hoff : ∀ p ∈ nx, p.1 ≠ I)
    (hl : h₀.get? l = some lo ∨ ∀ i m nx, J i m nx → (l, lo) ∈ nx) (h0 : J 0 m nx)
    (turn : ∀ i v m₁ nx₁ h tk io, s.toks ≤ tk → vs[j + i]? = some v → J i m₁ nx₁ → (∀ p ∈ nx₁, p.1 ≠ I) → Fr h₀ env.locals h (fun y => if y = x then some v else m₁ y) → News h₀ env.locals h ((I, io) :: nx₁) →
      wpAny (model prog w) A (execs body env) (TurnEnd h₀ env.locals (J (i + 1)) I io s Q) Nope { s with heap := h, toks := tk })
    (done : ∀ h tk m₁ nx₁, s.toks ≤ tk → Fr h₀ env.locals h m₁ → News h₀ env.locals h nx₁ → J (vs.length - j) m₁ nx₁ → Q .next { s with heap := h, toks := tk }) :
    wpAny (model prog w) A (pyIter (.ref I)) (fun it s₂ => ForAt prog w A h₀ env x body Q it s₂) Nope s := by
  have hI := N _ (.head _)
  have Nx : News h₀ env.locals s.heap nx := fun p hp => N p (.tail _ hp)
  have hlo' : s.heap.get? l = some lo := hl.elim (fun e => F.keep l lo e) fun e => (Nx _ (e _ _ _ h0)).1
  have hls : s.heap.IsList l vs.toArray := ⟨_, hlo', by rw [hlo], k, by rw [hlo]⟩
  have hne : l ≠ I := fun q => by
    have := hlo'.symm.trans (q ▸ hI.1)
    rw [Option.some.injEq] at this
    have h1 := congrArg Obj.cls this
    rw [hlo, hio.1] at h1
    exact absurd (show Value.type "list" = Value.type "list_iterator" from h1) (by decide)
  have hLl : env.locals ≠ l := fun q => by
    rcases hl with e | e
    · exact absurd (Heap.lt_size e) (Nat.not_lt.mpr (q ▸ F.above))
    · exact (Nx _ (e _ _ _ h0)).2.1 q.symm
  have W := walks_from (prog := prog) (w := w) hh I l hne vs.toArray j (by simpa using hj)
  have st0 : s.heap.IsListIter I l (j + 0) ∧ s.heap.IsList l vs.toArray := ⟨⟨_, hI.1, hio.1, hio.2⟩, hls⟩
  refine wpAny_pyIter_listiter st0.1 ?_
  refine ⟨_, _, _, _, _, m, nx, J, rfl, W, ?_, hI.2.2, ?_, ?_, st0, F, Nx, hoff, h0, ?_, ?_⟩
  · intro hm
    rcases List.mem_cons.mp hm with e | hm
    · exact hI.2.1 e.symm
    · exact hLl (List.mem_singleton.mp hm)
  · rintro i h ⟨⟨o, ho, _⟩, _⟩
    exact ⟨o, ho⟩
  · intro b hb
    rcases List.mem_cons.mp hb with e | hb
    · exact .inl e
    · rw [List.mem_singleton.mp hb]
      exact .inr (hl.elim (fun e => .inl ⟨_, e⟩) fun e => .inr ⟨_, e⟩)
  · intro i v m₁ nx₁ h tk io htk _ hP hJ hoff F₁ N₁
    exact turn i v m₁ nx₁ h tk io htk (by simpa using hP) hJ hoff F₁ N₁
  · intro h tk m₁ nx₁ htk F₁ N₁ _ hJ
    exact done h tk m₁ nx₁ htk F₁ N₁ (by simpa using hJ)
/-- a for over a tuple -/
theorem for_tup {l : Addr} {lo : Obj} {vs : List Value} {k : Nat} {m : Str → Option Value} {nx : List (Addr × Obj)} (J : Nat → (Str → Option Value) → List (Addr × Obj) → Prop)
    (hh : A.handled = none) (hlo : lo = { cls := .type "tuple", data := .seq vs.toArray k }) (F : Fr h₀ env.locals s.heap m) (N : News h₀ env.locals s.heap nx)
    (hl : h₀.get? l = some lo ∨ ∀ i m nx, J i m nx → (l, lo) ∈ nx) (h0 : J 0 m nx)
    (turn : ∀ I i v m₁ nx₁ h tk io, s.toks ≤ tk → vs[i]? = some v → J i m₁ nx₁ → (∀ p ∈ nx₁, p.1 ≠ I) → Fr h₀ env.locals h (fun y => if y = x then some v else m₁ y) → News h₀ env.locals h ((I, io) :: nx₁) →
      wpAny (model prog w) A (execs body env) (TurnEnd h₀ env.locals (J (i + 1)) I io s Q) Nope { s with heap := h, toks := tk })
    (done : ∀ h tk m₁ nx₁, s.toks ≤ tk → Fr h₀ env.locals h m₁ → News h₀ env.locals h nx₁ → J vs.length m₁ nx₁ → Q .next { s with heap := h, toks := tk }) :
    wpAny (model prog w) A (pyIter (.ref l)) (fun it s₂ => ForAt prog w A h₀ env x body Q it s₂) Nope s := by
  have hlo' : s.heap.get? l = some lo := hl.elim (fun e => F.keep l lo e) fun e => (N _ (e _ _ _ h0)).1
  have hls : s.heap.IsTuple l vs.toArray := ⟨_, hlo', by rw [hlo], k, by rw [hlo]⟩
  have hne : l ≠ s.heap.objs.size := Nat.ne_of_lt (Heap.lt_size hlo')
  have hLl : env.locals ≠ l := fun q => by
    rcases hl with e | e
    · exact absurd (Heap.lt_size e) (Nat.not_lt.mpr (q ▸ F.above))
    · exact (N _ (e _ _ _ h0)).2.1 q.symm
  have fresh : ∀ {g : Heap} {a : Addr}, g.objs.size ≤ a → g.get? a = none := fun {g a} ha => by
    cases e : g.get? a with
    | none => rfl
    | some o' => exact absurd (Heap.lt_size e) (Nat.not_lt.mpr ha)
  refine wpAny_pyIter_tuple hls ?_
  have W := Walks.tuple (prog := prog) (w := w) hh s.heap.objs.size l hne vs.toArray
  refine ⟨_, _, _, _, _, m, nx, J, rfl, W, ?_, fresh (Nat.le_of_lt (Nat.lt_of_le_of_lt F.above F.ns.lt)), ?_, ?_, ⟨⟨_, Heap.get?_push_size _ rfl, rfl, rfl⟩, hls.at fun o e => Heap.get?_push_of_some _ e⟩, F.push _,
    (fun p hp => ⟨Heap.get?_push_of_some _ (N p hp).1, (N p hp).2⟩), (fun p hp => Nat.ne_of_lt (Heap.lt_size (N p hp).1)), h0, ?_, ?_⟩
  · intro hm
    rcases List.mem_cons.mp hm with e | hm
    · exact absurd F.ns.lt (e ▸ Nat.lt_irrefl _)
    · exact hLl (List.mem_singleton.mp hm)
  · rintro i h ⟨⟨o, ho, _⟩, _⟩
    exact ⟨o, ho⟩
  · intro b hb
    rcases List.mem_cons.mp hb with e | hb
    · exact .inl e
    · rw [List.mem_singleton.mp hb]
      exact .inr (hl.elim (fun e => .inl ⟨_, e⟩) fun e => .inr ⟨_, e⟩)
  · intro i v m₁ nx₁ h tk io htk _ hP hJ hoff F₁ N₁
    exact turn _ i v m₁ nx₁ h tk io htk (by simpa using hP) hJ hoff F₁ N₁
  · intro h tk m₁ nx₁ htk F₁ N₁ _ hJ
    exact done h tk m₁ nx₁ htk F₁ N₁ (by simpa using hJ)
/-- a for over a range -/
theorem for_range {r : Addr} {a c : Int} {b : Int} {t u v : Tok} {n : Nat} {m : Str → Option Value} {nx : List (Addr × Obj)} (J : Nat → (Str → Option Value) → List (Addr × Obj) → Prop)
    (hh : A.handled = none) (hr : IsRange s.heap r a b c t u v) (hsm : Builtin.Range.small a b c = true) (hn : Builtin.Range.rangeSize a b c = (n : Int)) (F : Fr h₀ env.locals s.heap m) (N : News h₀ env.locals s.heap nx) (h0 : J 0 m nx)
    (turn : ∀ I i v tv m₁ nx₁ h tk io, s.toks ≤ tk → i < n → v = .int (a + (i : Int) * c) tv → J i m₁ nx₁ → (∀ p ∈ nx₁, p.1 ≠ I) → Fr h₀ env.locals h (fun y => if y = x then some v else m₁ y) → News h₀ env.locals h ((I, io) :: nx₁) →
      wpAny (model prog w) A (execs body env) (TurnEnd h₀ env.locals (J (i + 1)) I io s Q) Nope { s with heap := h, toks := tk })
    (done : ∀ h tk m₁ nx₁, s.toks ≤ tk → Fr h₀ env.locals h m₁ → News h₀ env.locals h nx₁ → J n m₁ nx₁ → Q .next { s with heap := h, toks := tk }) :
    wpAny (model prog w) A (pyIter (.ref r)) (fun it s₂ => ForAt prog w A h₀ env x body Q it s₂) Nope s := by
  have fresh : ∀ {g : Heap} {a : Addr}, g.objs.size ≤ a → g.get? a = none := fun {g a} ha => by
    cases e : g.get? a with
    | none => rfl
    | some o' => exact absurd (Heap.lt_size e) (Nat.not_lt.mpr ha)
  refine wpAny_pyIter_range hr hsm ?_
  have W := Walks.range (prog := prog) (w := w) hh s.heap.objs.size a c n
  refine ⟨_, _, _, _, _, m, nx, J, rfl, W, ?_, fresh (Nat.le_of_lt (Nat.lt_of_le_of_lt F.above F.ns.lt)), ?_, ?_, (by show IsRangeIter _ _ _ _ _; rw [hn]; simpa using Heap.get?_push_size _ rfl), F.push _,
    (fun p hp => ⟨Heap.get?_push_of_some _ (N p hp).1, (N p hp).2⟩), (fun p hp => Nat.ne_of_lt (Heap.lt_size (N p hp).1)), h0, ?_, ?_⟩
  · intro hm
    exact absurd F.ns.lt (List.mem_singleton.mp hm ▸ Nat.lt_irrefl _)
  · intro i h ho
    exact ⟨_, ho⟩
  · intro b hb
    exact .inl (List.mem_singleton.mp hb)
  · rintro i v m₁ nx₁ h tk io htk hi ⟨tv, hP⟩ hJ hoff F₁ N₁
    exact turn _ i v tv m₁ nx₁ h tk io htk hi hP hJ hoff F₁ N₁
  · intro h tk m₁ nx₁ htk F₁ N₁ _ hJ
    exact done h tk m₁ nx₁ htk F₁ N₁ hJ
end
theorem look_neg {m : Str → Option Value} {x y : Str} {o : Option Value} {v : Value} (h : ¬ (x = y)) (e : m x = some v) : (if x = y then o else m x) = some v := (if_neg h).trans e
theorem look_pos {x : Str} {o u : Option Value} {v : Value} (e : o = some v) : (if x = x then o else u) = some v := (if_pos rfl).trans e
/-- texts as values -/
noncomputable def sv (l : List (Str × Tok)) : List Value := l.map fun z => .str z.1 z.2
theorem sv_push (l : List (Str × Tok)) (x : Str) (t : Tok) : (sv l).toArray.push (.str x t) = (sv (l ++ [(x, t)])).toArray := by simp [sv]
/-- a list of these texts stands at v, made since h0 -/
noncomputable def StrsL (h0 h : Heap) (v : Value) (xs : List Str) : Prop := ∃ a ts e, v = .ref a ∧ h.get? a = some (listOf (sv ts).toArray e) ∧ h0.get? a = none ∧ ts.map (·.1) = xs
/-- the walk stands still here -/
noncomputable def Halt (P : Prop) : Prop := P
theorem halt {P : Prop} (h : Halt P) : P := h
/-- a statement, and how far the tokens have come behind it -/
theorem execs_toks {M : Model} {A : Around} {st : Stmt} {rest : List Stmt} {env : Env} {Q : Flow → Shared → Prop} {E : Value → Shared → Prop} {s : Shared} (n : Nat) (hn : n ≤ s.toks)
    (h : wpAny M A (exec st env) (fun fl s' => Halt (n ≤ s'.toks → match fl with
      | .next => wpAny M A (execs rest env) Q E s'
      | f => Q f s')) E s) : wpAny M A (execs (st :: rest) env) Q E s :=
  wpAny_execs_cons (toks_up n hn h)

local macro_rules | `(tactic| walk_at "exec While BoolOp cons nil") => `(tactic| walk_at "H")
local macro_rules | `(tactic| walk_at "look") => `(tactic| ((try dsimp only); first | assumption | exact if_pos rfl | (refine (if_neg (by decide)).trans ?_; walk_at "look") | exact rfl | exact look_pos rfl | (refine look_neg (by decide) ?_; walk_at "look")))
theorem nmL {M : Model} {A : Around} {s : Shared} {Q E : Value → Shared → Prop} {env : Env} {x : Str} {pos : Pos} {h₀ : Heap} {m : Str → Option Value} {v : Value} (F : Fr h₀ env.locals s.heap m) (hk : env.scope.kind = .function) (hl : env.kindOf x = some .local) (hd : (x == ("__debug__" : Str)) = false) (hv : m x = some v) (h : Q v s) :
    wpAny M A (eval (.Name x pos) env) Q E s := wpAny_Name (wpAny_loadName_local hk hl F.ns hv h) hd
theorem ldL {M : Model} {A : Around} {s : Shared} {Q E : Value → Shared → Prop} {env : Env} {x : Str} {h₀ : Heap} {m : Str → Option Value} {v : Value} (F : Fr h₀ env.locals s.heap m) (hk : env.scope.kind = .function) (hl : env.kindOf x = some .local) (hv : m x = some v) (h : Q v s) :
    wpAny M A (loadName env x) Q E s := wpAny_loadName_local hk hl F.ns hv h
local macro_rules | `(tactic| walk_at "eval Name") => `(tactic| (k_dflt (walk_at "nmL")))
local macro_rules | `(tactic| walk_at "nmL") => `(tactic| (refine' nmL _ _ _ _ _ _; rotate_left 3; walk_at "n4"; (· walk_at "look"); k_whole))
local macro_rules | `(tactic| walk_at "loadName") => `(tactic| (k_dflt (refine' ldL _ _ _ _ _; rotate_left 3; (· k_asm); (· exact rfl); (· exact rfl); (· walk_at "look"); k_whole)))
local macro_rules | `(tactic| walk_at "exec Try") => `(tactic| (refine try_quiet ?_))
local macro_rules | `(tactic| walk_at "exec For Name Name cons nil") => `(tactic| walk_at "own for")
local macro_rules | `(tactic| walk_at "own for") => `(tactic| (k_dflt (refine' for_ownF ?F ?hx ?hp ?_; (case F => k_asm); (case hx => exact rfl); (case hp => exact rfl))))
local macro_rules | `(tactic| walk_at "H") => `(tactic| (refine halt ?_))

section
open PySem PySem.W PySem.W.X PyProof.Rows PySem.Calls PySem.Spec
/-- an element of a comprehension is made -/
inductive EndAt (hb : Heap) (C : Addr) (J : List (Addr × Obj) → Prop) (I : Addr) (io : Obj) (D : Addr) (lo : Obj) (g : Array GenState) (d : Drawn) (os : OsState) (s' : Shared) (h' : Heap) (tk' : Nat) (m' : Str → Option Value) (led nx' : List (Addr × Obj)) : Prop where
  | mk (hs : s' = ⟨h', g, d, tk', os⟩) (F : Fr hb C h' m') (N : News hb C h' led) (hI : (I, io) ∈ led) (hD : (D, lo) ∈ led) (hn : ∀ p ∈ nx', p ∈ led ∧ p.1 ≠ I ∧ p.1 ≠ D) (hj : J nx')
inductive CompSt (hb : Heap) (C : Addr) (s : Shared) (I D : Addr) (n : Nat) (St : Nat → Heap → Prop) (J : Nat → List Value → List (Addr × Obj) → Prop) (k : Nat) (s' : Shared) (h' : Heap) (tk : Nat) (m' : Str → Option Value) (ys : List Value) (nx : List (Addr × Obj)) (e i : Nat) : Prop where
  | mk (hs : s' = { s with heap := h', toks := tk }) (htk : s.toks ≤ tk) (st : St i h') (F : Fr hb C h' m') (hD : h'.get? D = some (listOf ys.toArray e)) (N : News hb C h' nx) (hn : ∀ p ∈ nx, p.1 ≠ I ∧ p.1 ≠ D) (hJ : J i ys nx) (hy : ys.length ≤ i) (hi : i ≤ n) (hk : k = n + 1 - i)
noncomputable def ElemEnd (hb : Heap) (C : Addr) (J : List Value → List (Addr × Obj) → Prop) (ys : List Value) (I : Addr) (io : Obj) (D : Addr) (lo : Obj) (s : Shared) (y : Value) (s' : Shared) : Prop :=
  ∃ h' tk' m' led nx', EndAt hb C (J (ys ++ [y])) I io D lo s.gens s.drawn s.os s' h' tk' m' led nx'
/-- an element is passed over -/
noncomputable def SkipEnd (hb : Heap) (C : Addr) (J : List Value → List (Addr × Obj) → Prop) (ys : List Value) (I : Addr) (io : Obj) (D : Addr) (lo : Obj) (s : Shared) (s' : Shared) : Prop :=
  ∃ h' tk' m' led nx', EndAt hb C (J ys) I io D lo s.gens s.drawn s.os s' h' tk' m' led nx'
noncomputable abbrev testsOf (ifs : List Expr) (cenv : Env) : Sem Bool := forIn ifs true fun c r => if r = true then do let ok ← isTrue c cenv (eval c cenv); pure (ForInStep.yield ok) else pure (ForInStep.yield r)
noncomputable def CompTurn (prog : Program) (w : World) (A : Around) (hb : Heap) (cenv : Env) (x : Str) (ifs : List Expr) (elt : Expr) (s : Shared) (n : Nat) (P : Nat → Value → Prop) (J : Nat → List Value → List (Addr × Obj) → Prop) (I D : Addr) : Prop :=
  ∀ (i : Nat) (v : Value) (ys : List Value) (nx : List (Addr × Obj)) (m : Str → Option Value) (h : Heap) (tk : Nat) (io lo : Obj), s.toks ≤ tk → i < n → P i v → J i ys nx → (∀ p ∈ nx, p.1 ≠ I ∧ p.1 ≠ D) → D ≠ I → Fr hb cenv.locals h (fun y => if y = x then some v else m y) → News hb cenv.locals h ((I, io) :: (D, lo) :: nx) →
    wpAny (model prog w) A (testsOf ifs cenv) (fun ok s₃ => if ok = true then wpAny (model prog w) A (eval elt cenv) (ElemEnd hb cenv.locals (J (i + 1)) ys I io D lo s) Nope s₃ else SkipEnd hb cenv.locals (J (i + 1)) ys I io D lo s s₃) Nope { s with heap := h, toks := tk }
section
variable {prog : Program} {w : World} {A : Around} {s : Shared} {R : Result → Shared → Prop}
theorem comp_loop {elt iter : Expr} {x : Str} {px : Pos} {ifs : List Expr} {scope : Scope} {pos : Pos} {hb : Heap} {I D : Addr} {fp : List Addr} {n : Nat} {P : Nat → Value → Prop} {St : Nat → Heap → Prop} {cenv : Env} {m : Str → Option Value} {J : Nat → List Value → List (Addr × Obj) → Prop}
    (W : Walks prog w A I fp [I] n P St) (hsz : n ≤ sizeLine)
    (hx : cenv.kindOf x = some .local) (hp : (cenv.scope.kind == .class || (cenv.scope.kind == .module && cenv.locals != cenv.globals)) = false)
    (hDC : D ≠ cenv.locals) (hDf : D ∉ fp) (hCf : cenv.locals ∉ fp) (hI0 : hb.get? I = none) (hD0 : hb.get? D = none)
    (hfp : ∀ b ∈ fp, b = I ∨ ∃ o, hb.get? b = some o) (hIh : ∀ i h, St i h → ∃ o, h.get? I = some o)
    (hst : St 0 s.heap) (hacc : s.heap.PlainList D #[]) (F : Fr hb cenv.locals s.heap m) (h0 : J 0 [] [])
    (turn : CompTurn prog w A hb cenv x ifs elt s n P J I D)
    (done : ∀ h' tk m' ys nx e, s.toks ≤ tk → Fr hb cenv.locals h' m' → h'.get? D = some (listOf ys.toArray e) → (∀ p ∈ nx, h'.get? p.1 = some p.2 ∧ hb.get? p.1 = none ∧ p.1 ≠ cenv.locals ∧ p.1 ≠ D) → J n ys nx → R (.ok .next) { s with heap := h', toks := tk }) :
    codeAny (model prog w) A (.compLoop (.ListComp elt [⟨.Name x px, iter, ifs, 0⟩] scope pos) 0 (.ref I) (.ref D) cenv) R s := by
  have hIf : I ∈ fp := W.sub _ (.head _)
  have hLI : cenv.locals ≠ I := fun q => hCf (q ▸ hIf)
  have hDI : D ≠ I := fun q => hDf (q ▸ hIf)
  have up : ∀ {b : Addr} {o : Obj}, hb.get? b = some o → b ≠ D := fun e q => by rw [q, hD0] at e; cases e
  refine codeAny_compLoop_tests
    (fun k s' => ∃ h' tk m' ys nx e i, CompSt hb cenv.locals s I D n St J k s' h' tk m' ys nx e i) ?_ (n + 1)
    (by obtain ⟨e, he⟩ := hacc
        exact ⟨s.heap, s.toks, m, [], [], e, 0, rfl, Nat.le_refl _, hst, F, he, News.nil, (fun _ h => nomatch h), h0, Nat.zero_le _, Nat.zero_le _, rfl⟩)
  rintro k s' ⟨h', tk, m', ys, nx, e, i, rfl, htk, hst', F', hD, N', hnx, hJ, hys, hi, rfl⟩
  have next : ∀ h₁ : Heap, (∀ b o, b ∉ [I] → h'.get? b = some o → h₁.get? b = some o) → Fr hb cenv.locals h₁ m' ∧ News hb cenv.locals h₁ nx ∧ h₁.get? D = some (listOf ys.toArray e) := fun h₁ hk₁ =>
    ⟨⟨F'.ns.at' fun o e => hk₁ _ o (by simpa using hLI) e, fun b o e => hk₁ b o (fun hb' => by rw [List.mem_singleton.mp hb', hI0] at e; cases e) (F'.keep b o e), F'.above⟩,
      fun p hp => ⟨hk₁ _ _ (by simpa using (hnx p hp).1) (N' p hp).1, (N' p hp).2⟩, hk₁ _ _ (by simpa using hDI) hD⟩
  by_cases hlt : i < n
  · refine toks_up s.toks htk ?_
    refine W.item i _ _ _ hlt hst' fun v h₁ tk₁ hP hst₁ hk₁ => ?_
    intro htk₁
    obtain ⟨F₁, N₁, hD₁⟩ := next h₁ hk₁
    refine nope_noted (env := cenv) (wpAny_assign_Name (wpAny_storeName_local hx F₁.ns (fun h₂ hn₂ hs₂ => ?_) hp))
    have F₂ := F₁.set hn₂ hs₂
    have hst₂ : St (i + 1) h₂ := W.frame _ _ _ hst₁ fun b hb o e => (hs₂.2 b fun q => hCf (q ▸ hb)).trans e
    obtain ⟨io, hio⟩ := hIh _ _ hst₂
    have hD₂ : h₂.get? D = some (listOf ys.toArray e) := (hs₂.2 D hDC).trans hD₁
    have N₂ : News hb cenv.locals h₂ ((I, io) :: (D, listOf ys.toArray e) :: nx) := fun p hp => by
      rcases List.mem_cons.mp hp with rfl | hp
      · exact ⟨hio, fun q => hLI q.symm, hI0⟩
      · rcases List.mem_cons.mp hp with rfl | hp
        · exact ⟨hD₂, hDC, hD0⟩
        · exact (N₁.set hs₂) p hp
    have hstep : ∀ {h₃ : Heap} {m₃ : Str → Option Value} {led : List (Addr × Obj)}, Fr hb cenv.locals h₃ m₃ → News hb cenv.locals h₃ led → (I, io) ∈ led → St (i + 1) h₃ := fun F₃ N₃ hIl => by
      refine W.frame _ _ _ hst₂ fun b hb' o e => ?_
      rcases hfp b hb' with rfl | ⟨o₀, ho⟩
      · have : o = io := Option.some.inj (e.symm.trans hio)
        exact this ▸ (N₃ _ hIl).1
      · have : o₀ = o := by have := F₂.keep b o₀ ho; rw [e] at this; exact (Option.some.inj this).symm
        exact this ▸ F₃.keep b o₀ ho
    refine toks_up s.toks (by exact Nat.le_succ_of_le htk₁) ?_
    refine nope_noted (env := cenv) (wpAny_mono (turn i v ys nx m' h₂ (tk₁ + 1) io _ (Nat.le_succ_of_le htk₁) hlt hP hJ hnx hDI F₂ N₂) (fun ok s₃ h₃ => ?_) fun _ _ e => e)
    intro htk₃
    cases ok with
    | false =>
      simp only [Bool.false_eq_true, if_false] at h₃ ⊢
      obtain ⟨h₃', tk₃, m₃, led, nx₃, rfl, F₃, N₃, hIl, hDl, hnl, hJ₃⟩ := h₃
      exact ⟨n + 1 - (i + 1), by omega, h₃', tk₃, m₃, ys, nx₃, e, i + 1, rfl, htk₃, hstep F₃ N₃ hIl, F₃, (N₃ _ hDl).1, (fun p hp => N₃ p (hnl p hp).1), (fun p hp => (hnl p hp).2), hJ₃, by omega, hlt, rfl⟩
    | true =>
      simp only [if_true] at h₃ ⊢
      refine toks_up s.toks htk₃ ?_
      refine nope_noted (env := cenv) (wpAny_mono h₃ (fun y s₄ h₄ => ?_) fun _ _ e => e)
      intro htk₄
      obtain ⟨h₄', tk₄, m₄, led, nx₄, rfl, F₄, N₄, hIl, hDl, hnl, hJ₄⟩ := h₄
      refine wpAny_list_append_plain (items := ys.toArray) (hsz := by rw [List.size_toArray]; omega) ⟨e, (N₄ _ hDl).1⟩ fun h₅ hl₅ hs₅ => ?_
      obtain ⟨e₅, he₅⟩ := hl₅
      have F₅ : Fr hb cenv.locals h₅ m₄ := ⟨F₄.ns.sameBut hs₅ (Ne.symm hDC), fun b o q => hs₅.extBut b o (up q) (F₄.keep b o q), F₄.above⟩
      refine ⟨n + 1 - (i + 1), by omega, h₅, tk₄, m₄, ys ++ [y], nx₄, e₅, i + 1, rfl, htk₄, ?_, F₅, by rw [he₅, List.push_toArray], (fun p hp => ⟨hs₅.extBut _ _ (hnl p hp).2.2 (N₄ p (hnl p hp).1).1, (N₄ p (hnl p hp).1).2⟩), (fun p hp => (hnl p hp).2), hJ₄, by rw [List.length_append, List.length_singleton]; omega, hlt, rfl⟩
      exact W.frame _ _ _ (hstep F₄ N₄ hIl) fun b hb' o q => hs₅.extBut b o (fun z => hDf (z ▸ hb')) q
  · have hin : i = n := by omega
    subst hin
    refine toks_up s.toks htk ?_
    refine W.done _ _ _ hst' fun h₁ tk₁ hk₁ => ?_
    intro htk₁
    obtain ⟨F₁, N₁, hD₁⟩ := next h₁ hk₁
    exact done h₁ tk₁ m' ys nx e htk₁ F₁ hD₁ (fun p hp => ⟨(N₁ p hp).1, (N₁ p hp).2.2, (N₁ p hp).2.1, (hnx p hp).2⟩) hJ
end
inductive CompAtT (prog : Program) (w : World) (A : Around) (env : Env) (scope : Scope) (cl : List (Str × Addr)) (x : Str) (ifs : List Expr) (elt : Expr) (Q : Value → Shared → Prop) (it : Value) (s : Shared)
    (hb : Heap) (I : Addr) (fp : List Addr) (n : Nat) (P : Nat → Value → Prop) (St : Nat → Heap → Prop) (J : Nat → List Value → List (Addr × Obj) → Prop) : Prop where
  | mk (it : it = .ref I) (W : Walks prog w A I fp [I] n P St) (hz : n ≤ sizeLine) (h0I : hb.get? I = none) (hs : Stays hb s.heap) (hbs : hb.objs.size ≤ s.heap.objs.size) (hf : ∀ b ∈ fp, b < s.heap.objs.size) (hff : ∀ b ∈ fp, b = I ∨ ∃ o, hb.get? b = some o) (hI : ∀ i h, St i h → ∃ o, h.get? I = some o) (st : St 0 s.heap) (j0 : J 0 [] []) (turn : ∀ C D, CompTurn prog w A hb (compEnvC scope cl C env) x ifs elt s n P J I D) (done : ∀ D h' tk ys nx e, s.toks ≤ tk → Stays hb h' → h'.get? D = some (listOf ys.toArray e) → hb.get? D = none → (∀ p ∈ nx, h'.get? p.1 = some p.2 ∧ hb.get? p.1 = none ∧ p.1 ≠ D) → J n ys nx → Q (.ref D) { s with heap := h', toks := tk })
noncomputable def CompAt (prog : Program) (w : World) (A : Around) (env : Env) (scope : Scope) (cl : List (Str × Addr)) (x : Str) (ifs : List Expr) (elt : Expr) (Q : Value → Shared → Prop) (it : Value) (s : Shared) : Prop :=
  ∃ (hb : Heap) (I : Addr) (fp : List Addr) (n : Nat) (P : Nat → Value → Prop) (St : Nat → Heap → Prop) (J : Nat → List Value → List (Addr × Obj) → Prop), CompAtT prog w A env scope cl x ifs elt Q it s hb I fp n P St J
section
variable {prog : Program} {w : World} {A : Around} {s : Shared} {env : Env}
theorem comp_own {elt iter : Expr} {x : Str} {px : Pos} {ifs : List Expr} {scope : Scope} {cl : List (Str × Addr)} {pos : Pos} {Q : Value → Shared → Prop}
    (hclos : closureFor scope env = pure cl) (hcell : ∀ y ∈ scope.names, y.2 ≠ .cell) (hkind : scope.kind = .function)
    (hnames : ∀ y ∈ scope.names, y.2 = .local → scope.names.lookup y.1 = some .local) (hx : scope.names.lookup x = some .local)
    (h : wpAny (model prog w) A (eval iter env) (fun xv s₁ => wpAny (model prog w) A (pyIter xv) (fun it s₂ => CompAt prog w A env scope cl x ifs elt Q it s₂) Nope s₁) Nope s)
    (hs : ∀ x, foldedSetIterable iter env x = pure x := by intro _; rfl) :
    wpAny (model prog w) A (eval (.ListComp elt [⟨.Name x px, iter, ifs, 0⟩] scope pos) env) Q Nope s := by
  rw [eval_ListComp]
  refine wpAny_comprehension_free (use := none) rfl hs hclos hkind hnames (wpAny_mono h (fun xv s₁ h₁ => wpAny_mono h₁ (fun it s₂ h₂ => ?_) fun _ _ e => e) fun _ _ e => e)
  obtain ⟨hb, I, fp, n, P, St, J, rfl, W, hsz, hI0, hbs, hbz, hfs, hfp, hIh, hst, h0, turn, done⟩ := h₂
  refine wpAny_newObj_type (wpAny_newFunctionEnv hcell (by intro y hy; simp at hy) (fun h₁ hns₁ hsb₁ => ?_) hkind)
  dsimp only at hns₁ hsb₁ ⊢
  generalize hH2 : s₂.heap.push { cls := .type "list", dict := none, data := .seq ([] : List Value).toArray } = H2 at hns₁ hsb₁ ⊢
  have hC : H2.objs.size = s₂.heap.objs.size + 1 := by rw [← hH2, Heap.size_push]
  have hDC : s₂.heap.objs.size ≠ H2.objs.size := by rw [hC]; exact Nat.ne_of_lt (Nat.lt_succ_self _)
  have below : ∀ b, b < s₂.heap.objs.size → b ≠ H2.objs.size ∧ b ≠ s₂.heap.objs.size := fun b hb => ⟨by rw [hC]; exact Nat.ne_of_lt (Nat.lt_succ_of_lt hb), Nat.ne_of_lt hb⟩
  have hDf : s₂.heap.objs.size ∉ fp := fun hm => Nat.lt_irrefl _ (hfs _ hm)
  have hCf : H2.objs.size ∉ fp := fun hm => by have := hfs _ hm; rw [hC] at this; exact Nat.lt_irrefl _ (Nat.lt_of_succ_lt this)
  have old : ∀ b o, s₂.heap.get? b = some o → h₁.get? b = some o := fun b o e => hsb₁.extBut b o (below b (Heap.lt_size e)).1 (Heap.get?_push_of_some _ (hH2 ▸ Heap.get?_push_of_some _ e))
  have hacc : h₁.PlainList s₂.heap.objs.size #[] := ⟨_, hsb₁.extBut _ _ hDC (Heap.get?_push_of_some _ (hH2 ▸ Heap.get?_push_size _ rfl))⟩
  have hst₁ : St 0 h₁ := W.frame _ _ _ hst fun b _ o e => old b o e
  have fresh : ∀ a, s₂.heap.objs.size ≤ a → hb.get? a = none := fun a ha => by
    cases e : hb.get? a with
    | none => rfl
    | some o' => exact absurd (Heap.lt_size (hbs _ _ e)) (Nat.not_lt.mpr ha)
  have F : Fr hb H2.objs.size h₁ _ := ⟨hns₁, fun b o e => old b o (hbs b o e), by rw [hC]; exact Nat.le_succ_of_le hbz⟩
  have loop : ∀ s₃ : Shared, s₃ = { s₂ with heap := h₁, toks := s₂.toks + ([] : List (Str × Value)).length } →
      codeAny (model prog w) A (.compLoop (.ListComp elt [⟨.Name x px, iter, ifs, 0⟩] scope pos) 0 (.ref I) (.ref s₂.heap.objs.size) (compEnvC scope cl H2.objs.size env))
        (compPost (model prog w) A Nope none Q (.ref s₂.heap.objs.size) H2.objs.size) s₃ := by
    rintro s₃ rfl
    refine comp_loop (cenv := compEnvC scope cl H2.objs.size env) W hsz (lookup_relabel_local hx) (by simp [compEnvC, relabel, hkind]) hDC hDf hCf hI0 (fresh _ (Nat.le_refl _)) hfp hIh hst₁ hacc F h0 (turn _ _) ?_
    intro h' tk m' ys nx e htk F' hD hnx hJ
    refine ⟨m', F'.ns, fun h'' hs'' => ?_⟩
    have up : ∀ b o, b ≠ H2.objs.size → h'.get? b = some o → h''.get? b = some o := fun b o q e => hs''.extBut b o q e
    refine done _ h'' tk ys nx e htk (fun b o q => up b o (fun z => by rw [z, fresh _ (by rw [hC]; exact Nat.le_succ _)] at q; cases q) (F'.keep b o q)) (up _ _ hDC hD) (fresh _ (Nat.le_refl _)) (fun p hp => ⟨up _ _ (hnx p hp).2.2.1 (hnx p hp).1, (hnx p hp).2.1, (hnx p hp).2.2.2⟩) hJ
  exact codeAny_compStart_list (loop _ rfl) (W.self 0 _ _ _ hst₁ (loop _ rfl))
end
theorem test_q {α : Type} {M : Model} {A : Around} {t : Sem Bool} {k : Sem α} {P : α → Shared → Prop} {S : Shared → Prop} {E E' : Value → Shared → Prop} {s : Shared} (h : ∀ (Q : α → Shared → Prop) (Z : Shared → Prop), Hid (∀ v s', P v s' → Q v s') → Hid (∀ s', S s' → Z s') → wpAny M A t (fun ok s₃ => if ok = true then wpAny M A k Q E s₃ else Z s₃) E' s) :
    wpAny M A t (fun ok s₃ => if ok = true then wpAny M A k P E s₃ else S s₃) E' s := h P S ⟨fun _ _ x => x⟩ ⟨fun _ x => x⟩

end
theorem calm_M1 : True := by
  w_top off
  trivial
open PySem PySem.W PySem.W.X PyProof.Rows PySem.Calls
theorem lookup_memK {K : Frag} {a : Addr} {o : Obj} (h : K.lookup a = some o) : (a, o) ∈ K := by
  induction K with
  | nil => cases h
  | cons p K ih =>
    obtain ⟨b, o'⟩ := p
    rw [List.lookup_cons] at h
    split at h
    · rename_i q; cases h; rw [beq_iff_eq.mp q]; exact .head _
    · exact .tail _ (ih h)
noncomputable abbrev CallG (prog : Program) (w : World) (d : Nat) (f : Value) (args : List Value) (P : Heap → Value → Prop) (s : Shared) : Prop := wpAny (model prog w) (AA d) (call f args) (Ans P s.heap s.gens s.drawn s.os) (fun _ _ => False) s
theorem S.type : (⟨⟨[116, 121, 112, 101]⟩⟩ : Str) = Str.ofString "type" := rfl
theorem S.kind : (⟨⟨[107, 105, 110, 100]⟩⟩ : Str) = Str.ofString "kind" := rfl
theorem S.issubclass : (⟨⟨[105, 115, 115, 117, 98, 99, 108, 97, 115, 115]⟩⟩ : Str) = Str.ofString "issubclass" := rfl
theorem S.str : (⟨⟨[115, 116, 114]⟩⟩ : Str) = Str.ofString "str" := rfl
section
local macro_rules | `(tactic| x_close) => `(tactic| (exact ⟨_, _, rfl, Stays.refl _, rfl⟩))
set_option maxRecDepth 100000 in
set_option maxHeartbeats 8000000 in
theorem sub_g (prog : Program) (w : World) (h0 : Heap) (g d t0 os) (l : Addr) (k : Nat) (hl : h0.get? l = some ⟨.type "tuple", none, .seq #[.type "str", .type "bytes"] k, #[]⟩) :
   CallG prog w 400 (.builtin "issubclass") [.type "str", .ref l] (fun _ v => v = .bool true) ⟨h0, g, d, t0, os⟩ := by
  unfold CallG; dsimp only; x_run
end
theorem sub_x (w : World) (h0 : Heap) (g d t0 os) (l : Addr) (k : Nat) (hl : h0.get? l = some ⟨.type "tuple", none, .seq #[.type "str", .type "bytes"] k, #[]⟩) : Call w 400 (.builtin "issubclass") [.type "str", .ref l] (fun _ v => v = .bool true) ⟨h0, g, d, t0, os⟩ := sub_g pw w h0 g d t0 os l k hl
section
local macro_rules | `(tactic| walk_at "call builtin:issubclass") => `(tactic| walk_at "H")
set_option maxRecDepth 100000 in
set_option maxHeartbeats 8000000 in
theorem fspath_x (w : World) {s : Shared} {p : Program} {loose : List Str} {mean : ExcName → Option Value} {mg mb : Str → Option Value} (KX : (Mine.KK w.params).In s.heap) (T : Top p loose mean mg mb s.heap) (x : Str) (t : Tok) :
   Call w 300 (.ref 94) [.str x t] (fun _ v => v = .str x t) s := by
  k_dflt (refine' enter1 (Str.ofString "path") ?k1 ?k2 ?k3 ?k4 ?k5 ?k6 ?k7 ?k8 ?k9 ?k10 ?k11 ?_; ((case k1 => decide); (case k2 => k_asm); (case k3 => k_asm); (case k4 => k_is); (case k5 => k_is); (case k6 => exact rfl); (case k7 => exact rfl); (case k8 => decide); (case k9 => exact rfl); (case k10 => exact rfl); (case k11 => exact rfl); k_whole; intro L' h' F' N'; (try dsimp only); dsimp only [S.p, S.sep, S.i, S.head, S.tail, S.fspath, S.uugetusep, S.len, S.rfind, S.rstrip, S.a, S.b, S.path, S.startswith, S.endswith, S.join, S.TypeError, S.AttributeError, S.BytesWarning, S.uucheckuargutypes, S.isinstance, S.bytes, S.empty, S.splitroot, S.normpath, S.dot, S.dotdot, S.uu, S.initial_slashes, S.comps, S.new_comps, S.comp, S.split, S.append, S.pop, S.paths, S.tuple, S.map, S.ValueError, S.split_paths, S.isabs, S.s, S.c, S.curdir, S.s1, S.s2, S.common, S.enumerate, S.min, S.max, S.prefix, S.commonpath, S.count, S.K, S.mycmp, S.obj, S.other, S.self, S.function, S.sequence, S.initial, S.uuinitialumissing, S.it, S.iter, S.value, S.next, S.StopIteration, S.element, S.reduce, S.cell, S.kinds, S.k, S.range, S.uulawupieces, S.pair, S.piece, S.n, S.d, S.add, S.sub, S.uulawustep, S.names, S.uulawunames, S.place, S.uulawuupward, S.replace, S.name, S.one, S.uulawuacross, S.mul, S.low, S.high, S.uulawusimplest, S.uulawumeet, S.script, S.key, S.places, S.sides, S.cmp_to_key, S.pieces, S.sum, S.crooked, S.values, S.keys, S.countOf, S.j, S.x, S.y, S.t, S.told, S.due, S.lt, S.le, S.eq, S.ne, S.ge, S.gt, S.m, S.mask, S.chosen, S.row, S.sorted, S.lowest, S.some, S.os]; (try k_fold)))
  dsimp only [S.type, S.kind, S.issubclass, S.str]
  k_steps
  unfold Halt
  rename Fr _ _ _ _ => F
  rename News _ _ _ _ => N
  refine ans_k (by walk_at "rm") F N (sub_x w _ _ _ _ _ _ _ (N _ (.head _)).1) ?_
  rintro v h' tk rfl - F' N'
  clear F N
  k_steps
  all_goals (walk_at "done" <;> rfl)
set_option maxRecDepth 100000 in
set_option maxHeartbeats 8000000 in
theorem sep_x (w : World) {s : Shared} {p : Program} {loose : List Str} {mean : ExcName → Option Value} {mg mb : Str → Option Value} (KX : (Mine.KK w.params).In s.heap) (T : Top p loose mean mg mb s.heap) (x : Str) (t : Tok) :
   Call w 300 (.ref 108) [.str x t] (fun _ v => ∃ t', v = .str (Str.ofString "/") t') s := by
  k_dflt (refine' enter1 (Str.ofString "path") ?k1 ?k2 ?k3 ?k4 ?k5 ?k6 ?k7 ?k8 ?k9 ?k10 ?k11 ?_; ((case k1 => decide); (case k2 => k_asm); (case k3 => k_asm); (case k4 => k_is); (case k5 => k_is); (case k6 => exact rfl); (case k7 => exact rfl); (case k8 => decide); (case k9 => exact rfl); (case k10 => exact rfl); (case k11 => exact rfl); k_whole; intro L' h' F' N'; (try dsimp only); dsimp only [S.p, S.sep, S.i, S.head, S.tail, S.fspath, S.uugetusep, S.len, S.rfind, S.rstrip, S.a, S.b, S.path, S.startswith, S.endswith, S.join, S.TypeError, S.AttributeError, S.BytesWarning, S.uucheckuargutypes, S.isinstance, S.bytes, S.empty, S.splitroot, S.normpath, S.dot, S.dotdot, S.uu, S.initial_slashes, S.comps, S.new_comps, S.comp, S.split, S.append, S.pop, S.paths, S.tuple, S.map, S.ValueError, S.split_paths, S.isabs, S.s, S.c, S.curdir, S.s1, S.s2, S.common, S.enumerate, S.min, S.max, S.prefix, S.commonpath, S.count, S.K, S.mycmp, S.obj, S.other, S.self, S.function, S.sequence, S.initial, S.uuinitialumissing, S.it, S.iter, S.value, S.next, S.StopIteration, S.element, S.reduce, S.cell, S.kinds, S.k, S.range, S.uulawupieces, S.pair, S.piece, S.n, S.d, S.add, S.sub, S.uulawustep, S.names, S.uulawunames, S.place, S.uulawuupward, S.replace, S.name, S.one, S.uulawuacross, S.mul, S.low, S.high, S.uulawusimplest, S.uulawumeet, S.script, S.key, S.places, S.sides, S.cmp_to_key, S.pieces, S.sum, S.crooked, S.values, S.keys, S.countOf, S.j, S.x, S.y, S.t, S.told, S.due, S.lt, S.le, S.eq, S.ne, S.ge, S.gt, S.m, S.mask, S.chosen, S.row, S.sorted, S.lowest, S.some, S.os]; (try k_fold)))
  k_steps
  all_goals (walk_at "done" <;> exact ⟨_, rfl⟩)
end
theorem mem_new {P : Obj → Prop} {h₀ h : Heap} {a : Addr} {o : Obj} {news : List (Addr × Obj)} (D : Mem h₀ h [] news) (hm : (a, o) ∈ news) (hP : P o) : ∃ a' o', Value.ref a = .ref a' ∧ h.get? a' = some o' ∧ h₀.get? a' = none ∧ P o' := ⟨a, o, rfl, (D.nw _ hm).1, (D.nw _ hm).2, hP⟩
section
theorem iter_end {h0 h : Heap} {g : Array GenState} {d : Drawn} {os : OsState} {a l : Addr} {t : Nat} {news : List (Addr × Obj)} (D : Mem h0 h [] ((a, ⟨.type "list_iterator", none, .fields #[.ref l, .int 0 0], #[]⟩) :: news)) :
    Ans (fun h v => ∃ a o, v = .ref a ∧ h.get? a = some o ∧ h0.get? a = none ∧ o = ⟨.type "list_iterator", none, .fields #[.ref l, .int 0 0], #[]⟩) h0 g d os (.ref a) ⟨h, g, d, t, os⟩ := ans_mk D (mem_new D (.head _) rfl)
local macro_rules | `(tactic| x_close) => `(tactic| (exact iter_end (by assumption)))
set_option maxRecDepth 100000 in
set_option maxHeartbeats 8000000 in
theorem iter_g (prog : Program) (w : World) (h0 : Heap) (g d t0 os) (KX : (Mine.KK w.params).In h0) (l : Addr) (its : Array Value) (k : Nat) (hl : h0.get? l = some ⟨.type "list", none, .seq its k, #[]⟩) :
   CallG prog w 300 (.builtin "iter") [.ref l] (fun h v => ∃ a o, v = .ref a ∧ h.get? a = some o ∧ h0.get? a = none ∧ o = ⟨.type "list_iterator", none, .fields #[.ref l, .int 0 0], #[]⟩) ⟨h0, g, d, t0, os⟩ := by
  unfold CallG; dsimp only; x_run
theorem iter_x (w : World) (h0 : Heap) (g d t0 os) (KX : (Mine.KK w.params).In h0) (l : Addr) (its : Array Value) (k : Nat) (hl : h0.get? l = some ⟨.type "list", none, .seq its k, #[]⟩) :
   Call w 300 (.builtin "iter") [.ref l] (fun h v => ∃ a o, v = .ref a ∧ h.get? a = some o ∧ h0.get? a = none ∧ o = ⟨.type "list_iterator", none, .fields #[.ref l, .int 0 0], #[]⟩) ⟨h0, g, d, t0, os⟩ := iter_g pw w h0 g d t0 os KX l its k hl
end
section
variable {w : World} {A : Around} {s : Shared} {Q : Value → Shared → Prop} {E : Value → Shared → Prop} {h₀ : Heap} {L : Addr} {m : Str → Option Value} {news : List (Addr × Obj)} {x : Str} {t : Tok}
theorem fspath_k {p : Program} {loose : List Str} {mean : ExcName → Option Value} {mg mb : Str → Option Value} (R : Rm A 300) (F : Fr h₀ L s.heap m) (N : News h₀ L s.heap news) (X : (Mine.KK w.params).In h₀) (T : Top p loose mean mg mb h₀)
    (h : ∀ h' tk, Fr h₀ L h' m → News h₀ L h' news → Q (.str x t) { s with heap := h', toks := tk }) : wpAny (model pw w) A (call (.ref 94) [.str x t]) Q E s :=
  ans_k R F N (fspath_x _ (X.keeps F.keep) (T.keeps F.keep) _ _) fun v h' tk e _ F' N' => by subst e; exact h h' tk F' N'
theorem sep_k {p : Program} {loose : List Str} {mean : ExcName → Option Value} {mg mb : Str → Option Value} (R : Rm A 300) (F : Fr h₀ L s.heap m) (N : News h₀ L s.heap news) (X : (Mine.KK w.params).In h₀) (T : Top p loose mean mg mb h₀)
    (h : ∀ t' h' tk, Fr h₀ L h' m → News h₀ L h' news → Q (.str (Str.ofString "/") t') { s with heap := h', toks := tk }) : wpAny (model pw w) A (call (.ref 108) [.str x t]) Q E s :=
  ans_k R F N (sep_x _ (X.keeps F.keep) (T.keeps F.keep) _ _) fun v h' tk e _ F' N' => by obtain ⟨t', rfl⟩ := e; exact h t' h' tk F' N'
theorem news_one {a : Addr} {o : Obj} {sh h' : Heap} (F : Fr h₀ L sh m) (N : News h₀ L h' news) (e : h'.get? a = some o) (n : sh.get? a = none) : News h₀ L h' ((a, o) :: news) := fun p hp => by
  rcases List.mem_cons.mp hp with rfl | hp
  · refine ⟨e, fun q => ?_, ?_⟩
    · obtain ⟨oL, _, _, hL, _⟩ := F.ns
      rw [← q] at hL
      exact absurd (hL.symm.trans n) (by simp)
    · cases q : h₀.get? a with
      | none => rfl
      | some o' => exact absurd ((F.keep _ _ q).symm.trans n) (by simp)
  · exact N p hp
theorem iter_k {l : Addr} {its : Array Value} {k : Nat} (R : Rm A 300) (F : Fr h₀ L s.heap m) (N : News h₀ L s.heap news) (X : (Mine.KK w.params).In h₀) (hl : s.heap.get? l = some ⟨.type "list", none, .seq its k, #[]⟩)
    (h : ∀ a h' tk, Fr h₀ L h' m → News h₀ L h' ((a, ⟨.type "list_iterator", none, .fields #[.ref l, .int 0 0], #[]⟩) :: news) → (∀ p ∈ news, p.1 ≠ a) → Q (.ref a) { s with heap := h', toks := tk }) : wpAny (model pw w) A (call (.builtin "iter") [.ref l]) Q E s :=
  ans_k R F N (iter_x _ _ _ _ _ _ (X.keeps F.keep) _ _ _ hl) fun v h' tk e st F' N' => by
    obtain ⟨a, o, rfl, e1, e2, rfl⟩ := e
    exact h a h' tk F' (news_one F N' e1 e2) fun p hp q => by have := (N p hp).1; rw [q, e2] at this; cases this
end
local macro_rules | `(tactic| walk_at "call ref") => `(tactic| ((refine' fspath_k _ _ _ _ _ _; rotate_left 9; walk_at "t5"; k_whole; intro _ _ _ _; (try k_sweep))))
local macro_rules | `(tactic| walk_at "call ref") => `(tactic| ((refine' sep_k _ _ _ _ _ _; rotate_left 9; walk_at "t5"; k_whole; intro _ _ _ _ _; (try k_sweep))))
local macro_rules | `(tactic| walk_at "call builtin:iter") => `(tactic| ((refine' iter_k _ _ _ _ _ _; rotate_left 6; (· walk_at "rm"); (· k_asm); (· k_asm); (· k_asm); (· walk_at "obj"); k_whole; intro _ _ _ _ _ _; (try k_sweep))))
/-- an object: of this frame's own, or of before -/
theorem obj_old {h₀ h : Heap} {L : Addr} {m : Str → Option Value} {a : Addr} {o : Obj} (F : Fr h₀ L h m) (e : h₀.get? a = some o) : h.get? a = some o := F.keep a o e
local macro_rules | `(tactic| walk_at "obj") => `(tactic| first | exact obj_old (by assumption) (by assumption) | exact News.get (by assumption) (by k_mem) | assumption)


theorem calm_M2 : True := by
  w_top off
  trivial
section
open PySem PySem.W PySem.W.X PyProof.Rows PySem.Calls
/-- what split gives -/
noncomputable def splitPy (x : Str) : Str × Str :=
  let hd := Txt.slice x none (some (Txt.rfind x (Str.ofString "/") + 1))
  let tl := Txt.slice x (some (Txt.rfind x (Str.ofString "/") + 1)) none
  (if (hd.length : Int) ≠ 0 then if (hd != Txt.mul (Str.ofString "/") (hd.length : Int)) = true then Txt.rstripChars hd (Str.ofString "/") else hd else hd, tl)
theorem split_end {h₀ h : Heap} {L a : Addr} {news : List (Addr × Obj)} {x u v : Str} {t1 t2 : Tok} (N : News h₀ L h news) (hm : (a, ({ cls := .type "tuple", data := .seq #[.str u t1, .str v t2] } : Obj)) ∈ news) (e : splitPy x = (u, v)) :
    ∃ t1 t2, IsT h₀ h (.ref a) [.str (splitPy x).1 t1, .str (splitPy x).2 t2] := ⟨t1, t2, by rw [e]; exact isT_news N hm⟩
set_option maxRecDepth 100000 in
set_option maxHeartbeats 8000000 in
theorem split_c (w : World) {s : Shared} {p : Program} {loose : List Str} {mean : ExcName → Option Value} {mg mb : Str → Option Value} (KX : (Mine.KK w.params).In s.heap) (T : Top p loose mean mg mb s.heap)  (x : Str) (t : Tok) (hx : x.length < 100) :
   Call w 200 (.ref 122) [.str x t] (fun h v => ∃ t1 t2, IsT s.heap h v [.str (splitPy x).1 t1, .str (splitPy x).2 t2]) s := by
  k_dflt (refine' enter1 (Str.ofString "p") ?k1 ?k2 ?k3 ?k4 ?k5 ?k6 ?k7 ?k8 ?k9 ?k10 ?k11 ?_; ((case k1 => decide); (case k2 => k_asm); (case k3 => k_asm); (case k4 => k_is); (case k5 => k_is); (case k6 => exact rfl); (case k7 => exact rfl); (case k8 => decide); (case k9 => exact rfl); (case k10 => exact rfl); (case k11 => exact rfl); k_whole; intro L' h' F' N'; (try dsimp only); dsimp only [S.p, S.sep, S.i, S.head, S.tail, S.fspath, S.uugetusep, S.len, S.rfind, S.rstrip, S.a, S.b, S.path, S.startswith, S.endswith, S.join, S.TypeError, S.AttributeError, S.BytesWarning, S.uucheckuargutypes, S.isinstance, S.bytes, S.empty, S.splitroot, S.normpath, S.dot, S.dotdot, S.uu, S.initial_slashes, S.comps, S.new_comps, S.comp, S.split, S.append, S.pop, S.paths, S.tuple, S.map, S.ValueError, S.split_paths, S.isabs, S.s, S.c, S.curdir, S.s1, S.s2, S.common, S.enumerate, S.min, S.max, S.prefix, S.commonpath, S.count, S.K, S.mycmp, S.obj, S.other, S.self, S.function, S.sequence, S.initial, S.uuinitialumissing, S.it, S.iter, S.value, S.next, S.StopIteration, S.element, S.reduce, S.cell, S.kinds, S.k, S.range, S.uulawupieces, S.pair, S.piece, S.n, S.d, S.add, S.sub, S.uulawustep, S.names, S.uulawunames, S.place, S.uulawuupward, S.replace, S.name, S.one, S.uulawuacross, S.mul, S.low, S.high, S.uulawusimplest, S.uulawumeet, S.script, S.key, S.places, S.sides, S.cmp_to_key, S.pieces, S.sum, S.crooked, S.values, S.keys, S.countOf, S.j, S.x, S.y, S.t, S.told, S.due, S.lt, S.le, S.eq, S.ne, S.ge, S.gt, S.m, S.mask, S.chosen, S.row, S.sorted, S.lowest, S.some, S.os]; (try k_fold)))
  k_steps
  all_goals (walk_at "done"; refine split_end (by assumption) (List.Mem.head _) ?_)
  all_goals (simp only [splitPy]; first | rw [if_pos (by assumption), if_pos (by assumption)] | rw [if_pos (by assumption), if_neg (by assumption)] | rw [if_pos (by assumption), if_neg (by rw [Bool.not_eq_true]; assumption)] | rw [if_neg (by omega)])

end
local macro_rules | `(tactic| walk_at "no such line 0") => `(tactic| skip)
theorem calm_M3 : True := by
  w_top off
  trivial
section
open PySem PySem.W PySem.W.X PyProof.Rows PySem.Calls
/-- what join of two gives -/
noncomputable def joinPy (a b : Str) : Str := if Txt.startswith b (Str.ofString "/") = true ∨ (a.length : Int) = 0 then b else if Txt.endswith a (Str.ofString "/") = true then a ++ b else a ++ (Str.ofString "/" ++ b)
theorem joinPy_len (a b : Str) : (joinPy a b).length ≤ a.length + (b.length + 1) := by
  unfold joinPy
  split
  · omega
  · split
    · rw [Str.length_append]; omega
    · rw [Str.length_append, Str.length_append]; show _ + (1 + _) ≤ _; omega
theorem joinPy_1 {a b : Str} (h : Txt.startswith b (Str.ofString "/") = true) : joinPy a b = b := if_pos (.inl h)
theorem joinPy_2 {a b : Str} (h : (a.length : Int) = 0) : joinPy a b = b := if_pos (.inr h)
theorem joinPy_3 {a b : Str} (h : Txt.startswith b (Str.ofString "/") = false) (h2 : (a.length : Int) ≠ 0) (h3 : Txt.endswith a (Str.ofString "/") = true) : joinPy a b = a ++ b := by
  rw [joinPy, if_neg (not_or.mpr ⟨by rw [h]; decide, h2⟩), if_pos h3]
theorem joinPy_4 {a b : Str} (h : Txt.startswith b (Str.ofString "/") = false) (h2 : (a.length : Int) ≠ 0) (h3 : Txt.endswith a (Str.ofString "/") = false) : joinPy a b = a ++ (Str.ofString "/" ++ b) := by
  rw [joinPy, if_neg (not_or.mpr ⟨by rw [h]; decide, h2⟩), if_neg (by rw [h3]; decide)]
theorem join_fold_le (ys : List Str) : ∀ (x : Str), (∀ z ∈ ys, z.length ≤ 100) → (ys.foldl joinPy x).length ≤ x.length + ys.length * 101 := by
  induction ys with
  | nil => intro x _; simp
  | cons y r ih =>
    intro x h
    have h1 := ih (joinPy x y) fun z hz => h z (.tail _ hz)
    have h2 := joinPy_len x y
    have h3 := h y (.head _)
    rw [List.foldl_cons, List.length_cons]
    omega
theorem join_fold_len {x : Str} {zs : List (Str × Tok)} (hx : x.length + zs.length * 101 < 1000) (hy : ∀ z ∈ zs, z.1.length ≤ 100) (i : Nat) : (((zs.map (·.1)).take i).foldl joinPy x).length < 1000 := by
  have h := join_fold_le ((zs.map (·.1)).take i) x fun z hz => by
    obtain ⟨q, hq, rfl⟩ := List.mem_map.mp (List.mem_of_mem_take hz)
    exact hy q hq
  have : ((zs.map (·.1)).take i).length ≤ zs.length := by rw [List.length_take, List.length_map]; exact Nat.min_le_right _ _
  omega
set_option maxRecDepth 100000 in
set_option maxHeartbeats 8000000 in
theorem join_c (w : World) {s : Shared} {p : Program} {loose : List Str} {mean : ExcName → Option Value} {mg mb : Str → Option Value} (KX : (Mine.KK w.params).In s.heap) (T : Top p loose mean mg mb s.heap)  (x y : Str) (t u : Tok) (ys : List (Str × Tok)) (hx : x.length + ((y, u) :: ys).length * 101 < 1000) (hy : ∀ z ∈ (y, u) :: ys, z.1.length ≤ 100) :
   Call w 200 (.ref 115) (.str x t :: .str y u :: ys.map fun z => .str z.1 z.2) (fun h v => ∃ t1, v = .str ((((y, u) :: ys).map (·.1)).foldl joinPy x) t1) s := by
  k_dflt (refine' enterV (Str.ofString "a") (Str.ofString "p") ?k1 ?k2 ?k3 ?k4 ?k5 ?k6 ?k7 ?k72 ?k8 ?k9 ?k10 ?k11 ?ksz ?_; (case ksz => simp only [List.length_cons, List.length_map, sizeLine] at *; omega); (case k1 => decide); (case k2 => k_asm); (case k3 => k_asm); (case k4 => k_is); (case k5 => k_is); (case k6 => exact rfl); (case k7 => exact rfl); (case k72 => exact rfl); (case k8 => decide); (case k9 => exact rfl); (case k10 => exact rfl); (case k11 => exact rfl); k_whole; intro L' a' h' F' N'; (try dsimp only); dsimp only [S.p, S.sep, S.i, S.head, S.tail, S.fspath, S.uugetusep, S.len, S.rfind, S.rstrip, S.a, S.b, S.path, S.startswith, S.endswith, S.join, S.TypeError, S.AttributeError, S.BytesWarning, S.uucheckuargutypes, S.isinstance, S.bytes, S.empty, S.splitroot, S.normpath, S.dot, S.dotdot, S.uu, S.initial_slashes, S.comps, S.new_comps, S.comp, S.split, S.append, S.pop, S.paths, S.tuple, S.map, S.ValueError, S.split_paths, S.isabs, S.s, S.c, S.curdir, S.s1, S.s2, S.common, S.enumerate, S.min, S.max, S.prefix, S.commonpath, S.count, S.K, S.mycmp, S.obj, S.other, S.self, S.function, S.sequence, S.initial, S.uuinitialumissing, S.it, S.iter, S.value, S.next, S.StopIteration, S.element, S.reduce, S.cell, S.kinds, S.k, S.range, S.uulawupieces, S.pair, S.piece, S.n, S.d, S.add, S.sub, S.uulawustep, S.names, S.uulawunames, S.place, S.uulawuupward, S.replace, S.name, S.one, S.uulawuacross, S.mul, S.low, S.high, S.uulawusimplest, S.uulawumeet, S.script, S.key, S.places, S.sides, S.cmp_to_key, S.pieces, S.sum, S.crooked, S.values, S.keys, S.countOf, S.j, S.x, S.y, S.t, S.told, S.due, S.lt, S.le, S.eq, S.ne, S.ge, S.gt, S.m, S.mask, S.chosen, S.row, S.sorted, S.lowest, S.some, S.os]; (try k_fold))
  k_steps
  rename Fr _ _ _ _ => F
  rename News _ _ _ _ => N
  refine for_tup (fun i m nx => nx = [(a', { cls := .type "tuple", data := .seq (Value.str y u :: ys.map fun z => .str z.1 z.2).toArray })] ∧ (∃ t1, m (Str.ofString "path") = some (.str (((((y, u) :: ys).map (·.1)).take i).foldl joinPy x) t1)) ∧ ∃ t2, m (Str.ofString "sep") = some (.str (Str.ofString "/") t2)) rfl rfl F N (Or.inr (by rintro i m nx ⟨rfl, _⟩; exact .head _)) ⟨rfl, ⟨t, by exact rfl⟩, ⟨_, by exact rfl⟩⟩ ?_ ?_
  · rintro I i v m₁ nx h tk io - hv ⟨rfl, ⟨t1, hp⟩, ⟨t2, hs⟩⟩ hoff F N
    replace F : Fr s.heap L' h _ := F
    replace N : News s.heap L' h _ := N
    obtain ⟨z, hz, rfl⟩ : ∃ z : Str × Tok, ((y, u) :: ys)[i]? = some z ∧ v = .str z.1 z.2 := by
      have e : (Value.str y u :: ys.map fun z => Value.str z.1 z.2) = ((y, u) :: ys).map fun z => Value.str z.1 z.2 := rfl
      rw [e, List.getElem?_map] at hv
      obtain ⟨z, hz, rfl⟩ := Option.map_eq_some_iff.mp hv
      exact ⟨z, hz, rfl⟩
    have hz1 := hy z (List.mem_of_getElem? hz)
    have hst : (((y, u) :: ys).map (·.1)).take (i + 1) = (((y, u) :: ys).map (·.1)).take i ++ [z.1] := by rw [List.take_add_one, List.getElem?_map, hz]; rfl
    have hP : ((((y, u) :: ys).map (·.1)).take (i + 1)).foldl joinPy x = joinPy (((((y, u) :: ys).map (·.1)).take i).foldl joinPy x) z.1 := by rw [hst, List.foldl_append]; rfl
    have hlen : (((((y, u) :: ys).map (·.1)).take i).foldl joinPy x).length < 1000 := join_fold_len (by exact hx) (by exact hy) _
    generalize ((((y, u) :: ys).map (·.1)).take i).foldl joinPy x = P at hp hP hlen
    (try dsimp only); (try k_fold)
    k_steps
    all_goals (
      walk_at "turned"
      refine' TurnEnd.intro [(a', { cls := .type "tuple", data := .seq (Value.str y u :: ys.map fun z => .str z.1 z.2).toArray })] (by assumption) (by assumption) (by k_mem) ?sub ⟨rfl, ⟨_, ?path⟩, ⟨_, ?sep⟩⟩
      case sep => walk_at "look"
      case sub => (intro p hp; simp only [List.mem_singleton] at hp; subst hp; exact ⟨by k_mem, hoff _ (.head _)⟩)
      case path =>
        rw [hP]
        first | rw [joinPy_1 (by assumption)] | rw [joinPy_2 (by omega)] | rw [joinPy_3 (by assumption) (by omega) (by assumption)] | rw [joinPy_4 (by assumption) (by omega) (by assumption)]
        walk_at "look")
  · rintro h tk m₁ nx - F N ⟨rfl, ⟨t1, hp⟩, ⟨t2, hs⟩⟩
    rw [List.take_of_length_le (by simp)] at hp
    k_steps
    all_goals (walk_at "done"; exact ⟨_, rfl⟩)

end
local macro_rules | `(tactic| walk_at "no such line 1") => `(tactic| skip)
theorem calm_M4 : True := by
  w_top off
  trivial
section
open PySem PySem.W PySem.W.X PyProof.Rows PySem.Calls
/-- a value that reduce takes for a start -/
noncomputable def Start (h : Heap) (v : Value) : Prop := (∃ x t, v = .str x t) ∨ ∃ a its, v = .ref a ∧ h.get? a = some { cls := .type "tuple", data := .seq its }
theorem start_is {M : Model} {A : Around} {E : Value → Shared → Prop} {s : Shared} {h₀ : Heap} {v : Value} {b : Addr} {ob : Obj} {Q : Value → Shared → Prop} (k : Stays h₀ s.heap) (hs : Start h₀ v) (hb : s.heap.get? b = some ob) (hc : ob.cls = .type "object")
    (h : Q (.bool false) s) : wpAny M A (compareOp .Is v (.ref b)) Q E s := by
  rcases hs with ⟨x, t, rfl⟩ | ⟨a, its, rfl, ha⟩
  · exact wpAny_is_plain rfl h
  · have ha' := k _ _ ha
    have hne : a ≠ b := fun q => by
      subst q
      rw [ha'] at hb
      cases hb
      exact absurd (show Value.type "tuple" = Value.type "object" from hc) (by decide)
    show wpAny M A (do return .bool (← isSame (.ref a) (.ref b))) Q E s
    refine wpAny_bind ?_
    show wpAny M A (if (a == b) = true then pure true else _) _ E s
    rw [if_neg (by simpa using hne)]
    refine wpAny_bind (wpAny_load ha' (wpAny_bind (wpAny_load hb ?_)))
    split
    · rename_i _ h2 _ _
      rw [hc] at h2; exact absurd h2 (by decide)
    · exact wpAny_pure (wpAny_pure h)
/-- what is made by a call, beside what is old -/
theorem news_more {h₀ h h' : Heap} {L : Addr} {m : Str → Option Value} {news objs objs' : List (Addr × Obj)} (F : Fr h₀ L h m) (N : News h₀ L h' news) (hm : ∀ p ∈ objs, h₀.get? p.1 = some p.2 ∨ p ∈ news) (ho : ∀ p ∈ objs', h'.get? p.1 = some p.2 ∧ (h.get? p.1 = none ∨ p ∈ objs)) :
    News h₀ L h' (objs'.filter fun p => (h₀.get? p.1).isNone) := fun p hp => by
  obtain ⟨hp, hn⟩ := List.mem_filter.mp hp
  have hn' : h₀.get? p.1 = none := by simpa using hn
  refine ⟨(ho p hp).1, fun q => ?_, hn'⟩
  rcases (ho p hp).2 with e | e
  · obtain ⟨oL, _, _, hL, _⟩ := F.ns
    rw [← q] at hL
    exact absurd (hL.symm.trans e) (by simp)
  · rcases hm p e with e | e
    · rw [hn'] at e; cases e
    · exact (N p e).2.1 q
noncomputable abbrev RepT (α : Type) := Value → α → List (Addr × Obj) → Prop
/-- calling f on what stands for a and on e gives what stands for stp a e -/
noncomputable def Steps (w : World) (P : Heap → Prop) (d : Nat) (fa : Addr) {α : Type} (Rep : RepT α) (stp : α → Value → α) (Ok : α → Value → Prop) : Prop :=
  ∀ (s : Shared) v a objs e, P s.heap → Rep v a objs → (∀ p ∈ objs, s.heap.get? p.1 = some p.2) → Ok a e → Call w d (.ref fa) [v, e] (fun h r => ∃ objs', Rep r (stp a e) objs' ∧ ∀ p ∈ objs', h.get? p.1 = some p.2 ∧ (s.heap.get? p.1 = none ∨ p ∈ objs)) s
set_option maxRecDepth 100000 in
set_option maxHeartbeats 8000000 in
theorem reduce_c (w : World) {s : Shared} {p : Program} {loose : List Str} {mean : ExcName → Option Value} {mg mb : Str → Option Value} (KX : (Mine.KK w.params).In s.heap) (T : Top p loose mean mg mb s.heap)
   (fa l : Addr) (v0 : Value) (vs : List Value) {α : Type} (Rep : RepT α) (stp : α → Value → α) (Ok : α → Value → Prop) (P : Heap → Prop) (hP : P s.heap) (hPm : ∀ h h', Stays h h' → P h → P h') (hf : Steps w P 150 fa Rep stp Ok) (hk : keepIn (Mine.KK w.params) (.ref fa) = true)
   (a0 : α) (objs : List (Addr × Obj)) (hr : Rep v0 a0 objs) (ho : ∀ p ∈ objs, s.heap.get? p.1 = some p.2) (hv0 : Start s.heap v0) (hok : ∀ i v, vs[i]? = some v → Ok ((vs.take i).foldl stp a0) v)
   {kl : Nat} (hl : s.heap.get? l = some { cls := .type "list", data := .seq vs.toArray kl }) :
   Call w 100 (.ref 227) [.ref fa, .ref l, v0] (fun h r => ∃ objs', Rep r (vs.foldl stp a0) objs' ∧ ∀ p ∈ objs', h.get? p.1 = some p.2 ∧ (s.heap.get? p.1 = none ∨ p ∈ objs)) s := by
  k_dflt (refine' enter3 (Str.ofString "function") (Str.ofString "sequence") (Str.ofString "initial") ?k1 ?k2 ?k3 ?k4 ?k5 ?k6 ?k7 ?k72 ?k73 ?k8 ?k9 ?k10 ?k11 ?_; (case k1 => decide); (case k2 => k_asm); (case k3 => k_asm); (case k4 => k_is); (case k5 => k_is); (case k6 => exact binds_K (by k_asm) rfl (by k_is) rfl rfl rfl); (case k7 => exact rfl); (case k72 => exact rfl); (case k73 => exact rfl); (case k8 => decide); (case k9 => exact rfl); (case k10 => exact rfl); (case k11 => exact rfl); k_whole; intro L' h' F' N'; (try dsimp only); dsimp only [S.p, S.sep, S.i, S.head, S.tail, S.fspath, S.uugetusep, S.len, S.rfind, S.rstrip, S.a, S.b, S.path, S.startswith, S.endswith, S.join, S.TypeError, S.AttributeError, S.BytesWarning, S.uucheckuargutypes, S.isinstance, S.bytes, S.empty, S.splitroot, S.normpath, S.dot, S.dotdot, S.uu, S.initial_slashes, S.comps, S.new_comps, S.comp, S.split, S.append, S.pop, S.paths, S.tuple, S.map, S.ValueError, S.split_paths, S.isabs, S.s, S.c, S.curdir, S.s1, S.s2, S.common, S.enumerate, S.min, S.max, S.prefix, S.commonpath, S.count, S.K, S.mycmp, S.obj, S.other, S.self, S.function, S.sequence, S.initial, S.uuinitialumissing, S.it, S.iter, S.value, S.next, S.StopIteration, S.element, S.reduce, S.cell, S.kinds, S.k, S.range, S.uulawupieces, S.pair, S.piece, S.n, S.d, S.add, S.sub, S.uulawustep, S.names, S.uulawunames, S.place, S.uulawuupward, S.replace, S.name, S.one, S.uulawuacross, S.mul, S.low, S.high, S.uulawusimplest, S.uulawumeet, S.script, S.key, S.places, S.sides, S.cmp_to_key, S.pieces, S.sum, S.crooked, S.values, S.keys, S.countOf, S.j, S.x, S.y, S.t, S.told, S.due, S.lt, S.le, S.eq, S.ne, S.ge, S.gt, S.m, S.mask, S.chosen, S.row, S.sorted, S.lowest, S.some, S.os]; (try k_fold))
  k_steps
  rename Fr _ _ _ _ => F
  refine start_is F.keep hv0 (F.keep _ _ (KX _ _ (by k_is))) rfl ?_
  k_steps
  rename Fr _ _ _ _ => F
  rename News _ _ _ _ => N
  rename_i I _ _ _ _ _
  refine for_iter (I := I) (lo := _) (vs := vs) (j := 0) (fun i m nx => (∃ v objs', m (Str.ofString "value") = some v ∧ Rep v ((vs.take i).foldl stp a0) objs' ∧ ∀ p ∈ objs', (s.heap.get? p.1 = some p.2 ∧ p ∈ objs) ∨ p ∈ nx) ∧ m (Str.ofString "function") = some (.ref fa))
    rfl rfl ⟨rfl, rfl⟩ (Nat.zero_le _) F N (fun _ h => nomatch h) (.inl hl) ⟨⟨v0, objs, by walk_at "look", hr, fun p hp => .inl ⟨ho p hp, hp⟩⟩, by walk_at "look"⟩ ?_ ?_
  · rintro i v m₁ nx h tk io - hv ⟨⟨u, objs', hval, hrep, hobj⟩, hfun⟩ hoff F N
    replace F : Fr s.heap L' h _ := F
    replace N : News s.heap L' h _ := N
    rw [Nat.zero_add] at hv
    have hst : vs.take (i + 1) = vs.take i ++ [v] := by rw [List.take_add_one, hv]; rfl
    (try dsimp only); (try k_fold)
    k_steps
    k_dflt (refine' callWith_K KX hk ?_)
    k_steps
    rename Fr _ _ _ _ => F
    rename News _ _ _ _ => N
    have hobj' : ∀ p ∈ objs', s.heap.get? p.1 = some p.2 ∨ p ∈ (I, io) :: nx := fun p hp => (hobj p hp).imp (·.1) (.tail _)
    refine' ans_k (d := 150) ?r F N (hf _ u _ objs' v (hPm _ _ F.keep hP) hrep (fun p hp => (hobj' p hp).elim (F.keep _ _) fun e => (N p e).1) (hok i v hv)) ?_
    case r => walk_at "rm"
    rintro r h1 tk1 ⟨objs1, hr1, ho1⟩ st F1 N1
    have N2 := news_more F N1 hobj' ho1
    have N3 : News s.heap L' h1 ((I, io) :: objs1.filter fun p => (s.heap.get? p.1).isNone) := fun p hp => by
      rcases List.mem_cons.mp hp with rfl | hp
      · exact N1 _ (.head _)
      · exact N2 p hp
    clear N1 N2
    have kF := F.keep
    have kN := fun p hp => And.intro (N p hp).1 (N p hp).2.2
    k_steps
    walk_at "turned"
    refine' TurnEnd.intro (objs1.filter fun p => (s.heap.get? p.1).isNone) (by assumption) (by assumption) (.head _) ?sub ⟨⟨r, objs1, ?val, by rw [hst, List.foldl_append]; exact hr1, ?ob⟩, ?fn⟩
    case val => walk_at "look"
    case fn => walk_at "look"
    case sub =>
      intro p hp
      refine ⟨.tail _ hp, fun q => ?_⟩
      obtain ⟨hp1, hp2⟩ := List.mem_filter.mp hp
      rcases (ho1 p hp1).2 with e | e
      · have := (kN _ (.head _)).1
        rw [q] at e
        rw [e] at this; cases this
      · rcases hobj p e with e | e
        · rw [e.1] at hp2; cases hp2
        · exact hoff p e q
    case ob =>
      intro p hp
      cases hn : s.heap.get? p.1 with
      | none => exact .inr (List.mem_filter.mpr ⟨hp, by rw [hn]; rfl⟩)
      | some o =>
        left
        have e1 := st _ _ (kF _ _ hn)
        rw [(ho1 p hp).1] at e1
        cases e1
        refine ⟨rfl, ?_⟩
        rcases (ho1 p hp).2 with e | e
        · rw [kF _ _ hn] at e; cases e
        · rcases hobj p e with e | e
          · exact e.2
          · exact absurd ((kN p (.tail _ e)).2.symm.trans hn) (by simp)
  · rintro h tk m₁ nx - F N ⟨⟨u, objs', hval, hrep, hobj⟩, hfun⟩
    rw [Nat.sub_zero, List.take_of_length_le (Nat.le_refl _)] at hrep
    k_steps
    walk_at "done"
    exact ⟨objs', hrep, fun p hp => (hobj p hp).elim (fun e => ⟨F.keep _ _ e.1, .inr e.2⟩) fun e => ⟨(N p e).1, .inl (N p e).2.2⟩⟩

end
local macro_rules | `(tactic| walk_at "no such line 2") => `(tactic| skip)
theorem calm_M6 : True := by
  w_top off
  trivial
section
open PySem PySem.W PySem.W.X PyProof.Rows PySem.Calls
/-- what _law_names gives, as long as there is room for k names -/
noncomputable def namesF : Nat → Int → Int → List Str
  | 0, _, _ => []
  | k + 1, n, d => if n = d then [] else if n < d then Str.ofString "a" :: namesF k n (d - n) else Str.ofString "a-" :: namesF k (n - d) d
set_option maxRecDepth 100000 in
set_option maxHeartbeats 8000000 in
theorem names_c (w : World) {s : Shared} {p : Program} {loose : List Str} {mean : ExcName → Option Value} {mg mb : Str → Option Value} (KX : (Mine.KK w.params).In s.heap) (T : Top p loose mean mg mb s.heap)
   (pp : Addr) (n d : Int) (ta tb : Tok) (hp : s.heap.get? pp = some { cls := .type "tuple", data := .seq #[.int n ta, .int d tb] }) :
   Call w 100 (.ref 246) [.ref pp] (fun h r => StrsL s.heap h r (namesF 64 n d)) s := by
  generalize hR : namesF 64 n d = R
  have hpt : IsTup s.heap pp #[.int n ta, .int d tb] := ⟨_, hp, rfl, _, rfl⟩
  k_dflt (refine' enter1 (Str.ofString "pair") ?k1 ?k2 ?k3 ?k4 ?k5 ?k6 ?k7 ?k8 ?k9 ?k10 ?k11 ?_; ((case k1 => decide); (case k2 => k_asm); (case k3 => k_asm); (case k4 => k_is); (case k5 => k_is); (case k6 => exact rfl); (case k7 => exact rfl); (case k8 => decide); (case k9 => exact rfl); (case k10 => exact rfl); (case k11 => exact rfl); k_whole; intro L' h' F' N'; (try dsimp only); dsimp only [S.p, S.sep, S.i, S.head, S.tail, S.fspath, S.uugetusep, S.len, S.rfind, S.rstrip, S.a, S.b, S.path, S.startswith, S.endswith, S.join, S.TypeError, S.AttributeError, S.BytesWarning, S.uucheckuargutypes, S.isinstance, S.bytes, S.empty, S.splitroot, S.normpath, S.dot, S.dotdot, S.uu, S.initial_slashes, S.comps, S.new_comps, S.comp, S.split, S.append, S.pop, S.paths, S.tuple, S.map, S.ValueError, S.split_paths, S.isabs, S.s, S.c, S.curdir, S.s1, S.s2, S.common, S.enumerate, S.min, S.max, S.prefix, S.commonpath, S.count, S.K, S.mycmp, S.obj, S.other, S.self, S.function, S.sequence, S.initial, S.uuinitialumissing, S.it, S.iter, S.value, S.next, S.StopIteration, S.element, S.reduce, S.cell, S.kinds, S.k, S.range, S.uulawupieces, S.pair, S.piece, S.n, S.d, S.add, S.sub, S.uulawustep, S.names, S.uulawunames, S.place, S.uulawuupward, S.replace, S.name, S.one, S.uulawuacross, S.mul, S.low, S.high, S.uulawusimplest, S.uulawumeet, S.script, S.key, S.places, S.sides, S.cmp_to_key, S.pieces, S.sum, S.crooked, S.values, S.keys, S.countOf, S.j, S.x, S.y, S.t, S.told, S.due, S.lt, S.le, S.eq, S.ne, S.ge, S.gt, S.m, S.mask, S.chosen, S.row, S.sorted, S.lowest, S.some, S.os]; (try k_fold)))
  have hpt' := hpt.keeps (Fr.keep (by assumption))
  k_steps
  rename Fr _ _ _ _ => F
  rename News _ _ _ _ => N
  rename_i D _ _ _
  show wpAny _ _ _ _ _ _
  refine While_inv (fun k m nx => ∃ n' d' t1 t2 ts e, m (Str.ofString "n") = some (.int n' t1) ∧ m (Str.ofString "d") = some (.int d' t2) ∧ m (Str.ofString "names") = some (.ref D) ∧ nx = [(D, listOf (sv ts).toArray e)] ∧ k + ts.length = 64 ∧ ts.map (·.1) ++ namesF k n' d' = R)
    (n₀ := 64) F N ⟨n, d, ta, tb, [], 0, by walk_at "look", by walk_at "look", by walk_at "look", rfl, rfl, hR⟩ ?_ PassesOwn.never
  clear hR
  rintro k m₁ nx h tk F N ⟨n', d', t1, t2, ts, e, hn, hd, hnm, rfl, hk, hns⟩
  have hsz : (sv ts).toArray.size ≤ 64 := by simp [sv]; omega
  (try k_fold)
  k_steps
  all_goals (have hse : (sv ts).toArray.size = ts.length := by simp [sv])
  · obtain ⟨k', rfl⟩ : ∃ k', k = k' + 1 := ⟨k - 1, by omega⟩
    rw [namesF, if_neg (by assumption), if_pos (by assumption)] at hns
    refine WhileStep.intro (n' := k') (by assumption) (by assumption) (Nat.lt_succ_self _) ⟨n', d' - n', _, _, ts ++ [(Str.ofString "a", _)], _, by walk_at "look", by walk_at "look", by walk_at "look", by rw [sv_push], by simp; omega, by simpa using hns⟩
  · obtain ⟨k', rfl⟩ : ∃ k', k = k' + 1 := ⟨k - 1, by omega⟩
    rw [namesF, if_neg (by assumption), if_neg (by assumption)] at hns
    refine WhileStep.intro (n' := k') (by assumption) (by assumption) (Nat.lt_succ_self _) ⟨n' - d', d', _, _, ts ++ [(Str.ofString "a-", _)], _, by walk_at "look", by walk_at "look", by walk_at "look", by rw [sv_push], by simp; omega, by simpa using hns⟩
  · obtain rfl : k = 0 := by omega
    walk_at "done"
    exact ⟨D, ts, e, rfl, News.get (by assumption) (.head _), (by exact News.fresh (by assumption) (.head _)), by simpa [namesF] using hns⟩
  · have hnn : namesF k n' d' = [] := by cases k with | zero => rfl | succ k => exact if_pos (by omega)
    walk_at "done"
    exact ⟨D, ts, e, rfl, News.get (by assumption) (.head _), (by exact News.fresh (by assumption) (.head _)), by simpa [hnn] using hns⟩

end
local macro_rules | `(tactic| walk_at "no such line 3") => `(tactic| skip)
theorem calm_M7 : True := by
  w_top off
  trivial
section
open PySem PySem.W PySem.W.X PyProof.Rows PySem.Calls
/-- the climb, as long as there is room for k names: the names, and where it ends -/
noncomputable def upF : Nat → Str → Str → List Str × Str
  | 0, h, _ => ([], h)
  | k + 1, h, n => if n = Str.ofString "" then ([], h) else (n :: (upF k (splitPy h).1 (splitPy h).2).1, (upF k (splitPy h).1 (splitPy h).2).2)
noncomputable def upPy (n : Nat) (x : Str) : List Str :=
  let p := splitPy (Txt.replace x (Str.ofString "/") (Str.ofString "//"))
  let r := upF n p.1 p.2
  if r.2 = Str.ofString "//" then r.1 else []
theorem up_step {k : Nat} {h n : Str} (hn : (n != { cps := { toList := [] } }) = true) : upF (k + 1) h n = (n :: (upF k (splitPy h).1 (splitPy h).2).1, (upF k (splitPy h).1 (splitPy h).2).2) := if_neg fun e => by rw [e] at hn; exact absurd hn (by decide)
theorem up_stop {k : Nat} {h n : Str} (hn : (n != { cps := { toList := [] } }) = false) : upF k h n = ([], h) := by
  cases k with
  | zero => rfl
  | succ k => exact if_pos (show n = Str.ofString "" from by simp only [bne_eq_false_iff_eq] at hn; exact hn)
theorem up_zero {h n : Str} : upF 0 h n = ([], h) := rfl
theorem up_end1 {k : Nat} {h n : Str} {l R : List Str} (hz : upF k h n = ([], h)) (hh : (h == { cps := { toList := [47, 47] } }) = true) (e : (let r := upF k h n; if r.2 = Str.ofString "//" then l ++ r.1 else []) = R) : l = R := by
  rw [hz] at e
  exact ((List.append_nil _).symm.trans (if_pos (show h = Str.ofString "//" from eq_of_beq hh)).symm).trans e
theorem up_end2 {k : Nat} {h n : Str} {l R : List Str} (hz : upF k h n = ([], h)) (hh : (h == { cps := { toList := [47, 47] } }) = false) (e : (let r := upF k h n; if r.2 = Str.ofString "//" then l ++ r.1 else []) = R) : [] = R := by
  rw [hz] at e
  exact (if_neg (show ¬ h = Str.ofString "//" from fun q => by rw [q] at hh; exact absurd hh (by decide))).symm.trans e
theorem splitPy_len (x : Str) : (splitPy x).1.length ≤ x.length := by
  unfold splitPy
  dsimp only
  have h1 := PyProof.Txt.length_slice_le x none (some (Txt.rfind x (Str.ofString "/") + 1))
  split
  · split
    · exact Nat.le_trans (PyProof.Rows.len_rstripChars _ _) h1
    · exact h1
  · exact h1
set_option maxRecDepth 100000 in
set_option maxHeartbeats 8000000 in
theorem upward_c (w : World) {s : Shared} {p : Program} {loose : List Str} {mean : ExcName → Option Value} {mg mb : Str → Option Value} (KX : (Mine.KK w.params).In s.heap) (T : Top p loose mean mg mb s.heap)
   (n64 : Nat) (h64 : n64 = 64) (x : Str) (t : Tok) (htk : 1 ≤ s.toks) (hx : x.length < 40) (hx2 : (Txt.replace x (Str.ofString "/") (Str.ofString "//")).length < 100) :
   Call w 100 (.ref 253) [.str x t] (fun h r => StrsL s.heap h r (upPy n64 x)) s := by
  generalize hR : upPy n64 x = R
  k_dflt (refine' enter1 (Str.ofString "place") ?k1 ?k2 ?k3 ?k4 ?k5 ?k6 ?k7 ?k8 ?k9 ?k10 ?k11 ?_; ((case k1 => decide); (case k2 => k_asm); (case k3 => k_asm); (case k4 => k_is); (case k5 => k_is); (case k6 => exact rfl); (case k7 => exact rfl); (case k8 => decide); (case k9 => exact rfl); (case k10 => exact rfl); (case k11 => exact rfl); k_whole; intro L' h' F' N'; (try dsimp only); dsimp only [S.p, S.sep, S.i, S.head, S.tail, S.fspath, S.uugetusep, S.len, S.rfind, S.rstrip, S.a, S.b, S.path, S.startswith, S.endswith, S.join, S.TypeError, S.AttributeError, S.BytesWarning, S.uucheckuargutypes, S.isinstance, S.bytes, S.empty, S.splitroot, S.normpath, S.dot, S.dotdot, S.uu, S.initial_slashes, S.comps, S.new_comps, S.comp, S.split, S.append, S.pop, S.paths, S.tuple, S.map, S.ValueError, S.split_paths, S.isabs, S.s, S.c, S.curdir, S.s1, S.s2, S.common, S.enumerate, S.min, S.max, S.prefix, S.commonpath, S.count, S.K, S.mycmp, S.obj, S.other, S.self, S.function, S.sequence, S.initial, S.uuinitialumissing, S.it, S.iter, S.value, S.next, S.StopIteration, S.element, S.reduce, S.cell, S.kinds, S.k, S.range, S.uulawupieces, S.pair, S.piece, S.n, S.d, S.add, S.sub, S.uulawustep, S.names, S.uulawunames, S.place, S.uulawuupward, S.replace, S.name, S.one, S.uulawuacross, S.mul, S.low, S.high, S.uulawusimplest, S.uulawumeet, S.script, S.key, S.places, S.sides, S.cmp_to_key, S.pieces, S.sum, S.crooked, S.values, S.keys, S.countOf, S.j, S.x, S.y, S.t, S.told, S.due, S.lt, S.le, S.eq, S.ne, S.ge, S.gt, S.m, S.mask, S.chosen, S.row, S.sorted, S.lowest, S.some, S.os]; (try k_fold)))
  refine execs_toks 1 (by show 1 ≤ _ + 1; omega) ?_
  k_steps
  unfold Halt
  intro htk1
  dsimp only at htk1 ⊢
  generalize s.toks + 1 + _ = tk0 at htk1 ⊢
  k_steps
  refine SC.replaceW (by (show @Ne Nat _ _); omega) (by (show @Ne Nat _ _); omega) (by (show @Ne Nat _ _); omega) (by decide) (by omega) (by decide) ?_
  intro t' tk'
  rename Fr _ _ _ _ => F
  rename News _ _ _ _ => N
  rename_i D _ _ _
  k_steps
  refine' ans_k (d := 200) ?r F N (split_c _ (KX.keeps F.keep) (T.keeps F.keep) _ _ ?_) ?_
  case r => walk_at "rm"
  · exact hx2
  rintro r h1 tk1 ⟨t1, t2, a, rfl, ha, hna⟩ st F1 N1
  replace N1 := news_one F N1 ha hna
  clear st
  (try dsimp only); (try k_fold)
  k_steps
  rename Fr _ _ _ _ => F2
  rename News _ _ _ _ => N2
  show wpAny _ _ _ _ _ _
  refine While_inv (fun k m nx => ∃ hd nm u1 u2 ts e, m (Str.ofString "head") = some (.str hd u1) ∧ m (Str.ofString "name") = some (.str nm u2) ∧ m (Str.ofString "names") = some (.ref D) ∧ nx = [(D, listOf (sv ts).toArray e)] ∧ k + ts.length = 64 ∧ (let r := upF k hd nm; if r.2 = Str.ofString "//" then ts.map (·.1) ++ r.1 else []) = R ∧ hd.length < 100)
    (n₀ := n64) (news := [_]) F2 (fun p hp => N2 p (by rw [List.mem_singleton.mp hp]; k_mem)) ⟨_, _, _, _, [], 0, by walk_at "look", by walk_at "look", by walk_at "look", rfl, h64, hR, by have := splitPy_len (Txt.replace x (Str.ofString "/") (Str.ofString "//")); omega⟩ ?_ PassesOwn.never
  clear hR F2 N2
  rintro k m₁ nx h tk F N ⟨hed, nm, u1, u2, ts, e, hn, hd, hnm, rfl, hk, hns⟩
  have hsz : (sv ts).toArray.size ≤ 64 := by simp [sv]; omega
  (try k_fold)
  k_steps
  · obtain ⟨k', rfl⟩ : ∃ k', k = k' + 1 := ⟨k - 1, by have hse : (sv ts).toArray.size = ts.length := by simp [sv]
                                                      omega⟩
    rw [up_step (by assumption)] at hns
    rename Fr _ _ _ _ => F
    rename News _ _ _ _ => N
    refine' ans_k (d := 200) ?r F N (split_c _ (KX.keeps F.keep) (T.keeps F.keep) _ _ hns.2) ?_
    case r => walk_at "rm"
    rintro r h1 tk1 ⟨t1, t2, a, rfl, ha, hna⟩ st F1 N1
    replace N1 := news_one F N1 ha hna
    clear st F N
    (try dsimp only); (try k_fold)
    k_steps
    refine WhileStep.intro (n' := k') (by assumption) (News.perm (by assumption) (news' := [(D, _)]) (fun p hp => by rw [List.mem_singleton.mp hp]; k_mem)) (Nat.lt_succ_self _) ⟨_, _, _, _, ts ++ [(nm, _)], _, by walk_at "look", by walk_at "look", by walk_at "look", by rw [sv_push], by simp; omega, by simpa using hns.1, Nat.lt_of_le_of_lt (splitPy_len _) hns.2⟩
  · have hz : upF k hed nm = ([], hed) := by
      obtain rfl : k = 0 := by have hse : (sv ts).toArray.size = ts.length := by simp [sv]
                               omega
      exact up_zero
    walk_at "done"
    exact ⟨D, ts, e, rfl, News.get (by assumption) (.head _), (by exact News.fresh (by assumption) (.head _)), up_end1 hz (by assumption) hns.1⟩
  · have hz : upF k hed nm = ([], hed) := by
      obtain rfl : k = 0 := by have hse : (sv ts).toArray.size = ts.length := by simp [sv]
                               omega
      exact up_zero
    walk_at "done"
    exact ⟨_, [], _, rfl, News.get (by assumption) (.head _), (by exact News.fresh (by assumption) (.head _)), up_end2 hz (by assumption) hns.1⟩
  · walk_at "done"
    exact ⟨D, ts, e, rfl, News.get (by assumption) (.head _), (by exact News.fresh (by assumption) (.head _)), up_end1 (up_stop (by assumption)) (by assumption) hns.1⟩
  · walk_at "done"
    exact ⟨_, [], _, rfl, News.get (by assumption) (.head _), (by exact News.fresh (by assumption) (.head _)), up_end2 (up_stop (by assumption)) (by assumption) hns.1⟩

end
theorem calm_M8 : True := by
  w_top off
  trivial
section
open PySem PySem.W PySem.W.X PyProof.Rows PySem.Calls
noncomputable def simpN (a b x : Int) : Int := -(Int.fdiv (-a * x) b)
noncomputable def simpF (a b c d : Int) : Nat → Int → Option (Int × Int)
  | 0, _ => none
  | k + 1, x => if simpN a b x * d ≤ c * x then some (simpN a b x, x) else simpF a b c d k (x + 1)
/-- what _law_simplest gives -/
noncomputable def simpPy (a b c d : Int) : Int × Int := (simpF a b c d b.toNat 1).getD (a, b)
theorem simp_bound {a b x : Int} (ha : 0 ≤ a ∧ a < 100) (hb : 0 < b) (hx : 0 ≤ x ∧ x < 100) : -10000 ≤ (-a * x).fdiv b ∧ (-a * x).fdiv b ≤ 0 := by
  have h1 : a * x ≤ 100 * 100 := Int.mul_le_mul (by omega) (by omega) hx.1 (by decide)
  have h2 : 0 ≤ a * x := Int.mul_nonneg ha.1 hx.1
  rw [Int.neg_mul, Int.fdiv_eq_ediv_of_nonneg _ (by omega)]
  constructor
  · exact Int.le_ediv_of_mul_le hb (by omega)
  · exact Int.ediv_le_of_le_mul hb (by omega)
theorem simp_hit {a b c d x : Int} {k n : Nat} {R : Int × Int} (hk : n = k + 1) (h : -(-a * x).fdiv b * d ≤ c * x) (e : (simpF a b c d n x).getD (a, b) = R) : R = (-(-a * x).fdiv b, x) := by
  rw [hk, simpF, if_pos (show simpN a b x * d ≤ c * x from h)] at e
  exact e.symm
theorem simp_miss {a b c d x : Int} {k n : Nat} {R : Int × Int} (hk : n = k + 1) (h : ¬ -(-a * x).fdiv b * d ≤ c * x) (e : (simpF a b c d n x).getD (a, b) = R) : (simpF a b c d k (x + 1)).getD (a, b) = R := by
  rw [hk, simpF, if_neg (show ¬ simpN a b x * d ≤ c * x from h)] at e
  exact e
theorem simp_size {b : Int} (hb : 0 < b) : Builtin.Range.rangeSize 1 (b + 1) 1 = (b.toNat : Int) := by
  unfold Builtin.Range.rangeSize
  rw [if_pos (by decide), if_pos (by omega)]
  omega
theorem simp_small {b : Int} (hb : 0 < b) (hb2 : b < 100) : Builtin.Range.small 1 (b + 1) 1 = true := by
  unfold Builtin.Range.small
  rw [simp_size hb]
  simp [Builtin.Range.rangeFitsLong]
  omega
local macro_rules | `(tactic| walk_at "exec For Name Call cons nil") => `(tactic| walk_at "own for")
local macro_rules | `(tactic| walk_at "pyIter ref") => `(tactic| walk_at "H")
set_option maxRecDepth 100000 in
set_option maxHeartbeats 8000000 in
theorem simplest_c (w : World) {s : Shared} {p : Program} {loose : List Str} {mean : ExcName → Option Value} {mg mb : Str → Option Value} (KX : (Mine.KK w.params).In s.heap) (T : Top p loose mean mg mb s.heap)
   (lp hp : Addr) (a b c d : Int) (ta tb tc td : Tok) (ha : 0 ≤ a ∧ a < 100) (hb : 0 < b ∧ b < 100) (hc : 0 ≤ c ∧ c < 100) (hlp : s.heap.get? lp = some { cls := .type "tuple", data := .seq #[.int a ta, .int b tb] }) (hhp : s.heap.get? hp = some { cls := .type "tuple", data := .seq #[.int c tc, .int d td] }) :
   Call w 100 (.ref 267) [.ref lp, .ref hp] (fun h r => ∃ q t1 t2, r = .ref q ∧ h.get? q = some { cls := .type "tuple", data := .seq #[.int (simpPy a b c d).1 t1, .int (simpPy a b c d).2 t2] }) s := by
  generalize hR : simpPy a b c d = R
  have hlt : IsTup s.heap lp #[.int a ta, .int b tb] := ⟨_, hlp, rfl, _, rfl⟩
  have hht : IsTup s.heap hp #[.int c tc, .int d td] := ⟨_, hhp, rfl, _, rfl⟩
  k_dflt (refine' enter2 (Str.ofString "low") (Str.ofString "high") ?k1 ?k2 ?k3 ?k4 ?k5 ?k6 ?k7 ?k72 ?k8 ?k9 ?k10 ?k11 ?_; (case k1 => decide); (case k2 => k_asm); (case k3 => k_asm); (case k4 => k_is); (case k5 => k_is); (case k6 => exact rfl); (case k7 => exact rfl); (case k72 => exact rfl); (case k8 => decide); (case k9 => exact rfl); (case k10 => exact rfl); (case k11 => exact rfl); k_whole; intro L' h' F' N'; (try dsimp only); dsimp only [S.p, S.sep, S.i, S.head, S.tail, S.fspath, S.uugetusep, S.len, S.rfind, S.rstrip, S.a, S.b, S.path, S.startswith, S.endswith, S.join, S.TypeError, S.AttributeError, S.BytesWarning, S.uucheckuargutypes, S.isinstance, S.bytes, S.empty, S.splitroot, S.normpath, S.dot, S.dotdot, S.uu, S.initial_slashes, S.comps, S.new_comps, S.comp, S.split, S.append, S.pop, S.paths, S.tuple, S.map, S.ValueError, S.split_paths, S.isabs, S.s, S.c, S.curdir, S.s1, S.s2, S.common, S.enumerate, S.min, S.max, S.prefix, S.commonpath, S.count, S.K, S.mycmp, S.obj, S.other, S.self, S.function, S.sequence, S.initial, S.uuinitialumissing, S.it, S.iter, S.value, S.next, S.StopIteration, S.element, S.reduce, S.cell, S.kinds, S.k, S.range, S.uulawupieces, S.pair, S.piece, S.n, S.d, S.add, S.sub, S.uulawustep, S.names, S.uulawunames, S.place, S.uulawuupward, S.replace, S.name, S.one, S.uulawuacross, S.mul, S.low, S.high, S.uulawusimplest, S.uulawumeet, S.script, S.key, S.places, S.sides, S.cmp_to_key, S.pieces, S.sum, S.crooked, S.values, S.keys, S.countOf, S.j, S.x, S.y, S.t, S.told, S.due, S.lt, S.le, S.eq, S.ne, S.ge, S.gt, S.m, S.mask, S.chosen, S.row, S.sorted, S.lowest, S.some, S.os]; (try k_fold))
  have hlt' := hlt.keeps (Fr.keep (by assumption))
  have hht' := hht.keeps (Fr.keep (by assumption))
  k_steps
  show wpAny _ _ _ _ _ _
  refine for_range (fun i m nx => m (Str.ofString "low") = some (.ref lp) ∧ m (Str.ofString "high") = some (.ref hp) ∧ nx = [] ∧ (simpF a b c d (b.toNat - i) (1 + (i : Int))).getD (a, b) = R) rfl (by assumption) (simp_small hb.1 hb.2) (simp_size hb.1) (by assumption) (by assumption) ⟨rfl, rfl, rfl, hR⟩ ?_ ?_
  · rintro I i v tv m₁ nx h tk io - hi rfl ⟨hlow, hhigh, rfl, hres⟩ hoff F N
    replace F : Fr s.heap L' h _ := F
    replace N : News s.heap L' h _ := N
    rw [Int.mul_one] at F
    generalize hx : (1 + (i : Int)) = x at F hres
    have hlt' := hlt.keeps F.keep
    have hht' := hht.keeps F.keep
    have hq := simp_bound (x := x) ha hb.1 (by omega)
    (try dsimp only); (try k_fold)
    k_steps
    · walk_at "turned"
      have e := simp_hit (k := b.toNat - (i + 1)) (by omega) (by assumption) hres
      unfold TurnEnd
      walk_at "done"
      subst e
      exact ⟨_, _, _, rfl, News.get (by assumption) (.head _)⟩
    · walk_at "turned"
      refine' TurnEnd.intro [] (by assumption) (by assumption) (by k_mem) (fun _ h => nomatch h) ⟨?lo, ?hi, rfl, ?rs⟩
      case lo => walk_at "look"
      case hi => walk_at "look"
      case rs =>
        have e := simp_miss (k := b.toNat - (i + 1)) (by omega) (by assumption) hres
        rw [← e]
        congr 2
        omega
  · rintro h tk m₁ nx - F N ⟨hlow, hhigh, rfl, hres⟩
    rw [Nat.sub_self] at hres
    k_steps
    walk_at "done"
    rw [← hres]
    exact ⟨lp, ta, tb, rfl, F.keep _ _ hlp⟩

end
theorem calm_M9 : True := by
  w_top off
  trivial
section
open PySem PySem.W PySem.W.X PyProof.Rows PySem.Calls
/-- what splitroot gives -/
noncomputable def rootPy (x : Str) : Str × Str × Str :=
  if (Txt.slice x none (some 1) != Str.ofString "/") = true then (Str.ofString "", Str.ofString "", x)
  else if (Txt.slice x (some 1) (some 2) != Str.ofString "/") = true ∨ (Txt.slice x (some 2) (some 3) == Str.ofString "/") = true then (Str.ofString "", Str.ofString "/", Txt.slice x (some 1) none)
  else (Str.ofString "", Txt.slice x none (some 2), Txt.slice x (some 2) none)
theorem root_end {h₀ h : Heap} {L a : Addr} {news : List (Addr × Obj)} {x u v z : Str} {t1 t2 t3 : Tok} (N : News h₀ L h news) (hm : (a, ({ cls := .type "tuple", data := .seq #[.str u t1, .str v t2, .str z t3] } : Obj)) ∈ news) (e : rootPy x = (u, v, z)) :
    ∃ t1 t2 t3, IsT h₀ h (.ref a) [.str (rootPy x).1 t1, .str (rootPy x).2.1 t2, .str (rootPy x).2.2 t3] := ⟨t1, t2, t3, by rw [e]; exact isT_news N hm⟩
set_option maxRecDepth 100000 in
set_option maxHeartbeats 8000000 in
theorem root_c (w : World) {s : Shared} {p : Program} {loose : List Str} {mean : ExcName → Option Value} {mg mb : Str → Option Value} (KX : (Mine.KK w.params).In s.heap) (T : Top p loose mean mg mb s.heap)  (x : Str) (t : Tok) (hx : x.length < 100) :
   Call w 200 (.ref 129) [.str x t] (fun h v => ∃ t1 t2 t3, IsT s.heap h v [.str (rootPy x).1 t1, .str (rootPy x).2.1 t2, .str (rootPy x).2.2 t3]) s := by
  k_dflt (refine' enter1 (Str.ofString "p") ?k1 ?k2 ?k3 ?k4 ?k5 ?k6 ?k7 ?k8 ?k9 ?k10 ?k11 ?_; ((case k1 => decide); (case k2 => k_asm); (case k3 => k_asm); (case k4 => k_is); (case k5 => k_is); (case k6 => exact rfl); (case k7 => exact rfl); (case k8 => decide); (case k9 => exact rfl); (case k10 => exact rfl); (case k11 => exact rfl); k_whole; intro L' h' F' N'; (try dsimp only); dsimp only [S.p, S.sep, S.i, S.head, S.tail, S.fspath, S.uugetusep, S.len, S.rfind, S.rstrip, S.a, S.b, S.path, S.startswith, S.endswith, S.join, S.TypeError, S.AttributeError, S.BytesWarning, S.uucheckuargutypes, S.isinstance, S.bytes, S.empty, S.splitroot, S.normpath, S.dot, S.dotdot, S.uu, S.initial_slashes, S.comps, S.new_comps, S.comp, S.split, S.append, S.pop, S.paths, S.tuple, S.map, S.ValueError, S.split_paths, S.isabs, S.s, S.c, S.curdir, S.s1, S.s2, S.common, S.enumerate, S.min, S.max, S.prefix, S.commonpath, S.count, S.K, S.mycmp, S.obj, S.other, S.self, S.function, S.sequence, S.initial, S.uuinitialumissing, S.it, S.iter, S.value, S.next, S.StopIteration, S.element, S.reduce, S.cell, S.kinds, S.k, S.range, S.uulawupieces, S.pair, S.piece, S.n, S.d, S.add, S.sub, S.uulawustep, S.names, S.uulawunames, S.place, S.uulawuupward, S.replace, S.name, S.one, S.uulawuacross, S.mul, S.low, S.high, S.uulawusimplest, S.uulawumeet, S.script, S.key, S.places, S.sides, S.cmp_to_key, S.pieces, S.sum, S.crooked, S.values, S.keys, S.countOf, S.j, S.x, S.y, S.t, S.told, S.due, S.lt, S.le, S.eq, S.ne, S.ge, S.gt, S.m, S.mask, S.chosen, S.row, S.sorted, S.lowest, S.some, S.os]; (try k_fold)))
  k_steps
  all_goals (walk_at "done"; refine root_end (by assumption) (List.Mem.head _) ?_)
  all_goals (simp only [rootPy]; first | rw [if_pos (by assumption)] | rw [if_neg (by rw [Bool.not_eq_true]; assumption), if_pos (Or.inl (by assumption))] | rw [if_neg (by rw [Bool.not_eq_true]; assumption), if_pos (Or.inr (by assumption))] | (rw [if_neg (by rw [Bool.not_eq_true]; assumption), if_neg (by rintro (h | h) <;> simp_all)]))

end
section
open PySem PySem.W PySem.W.X PyProof.Rows PySem.Calls
noncomputable def normStep (r : Str) (acc : List Str) (c : Str) : List Str :=
  if c = Str.ofString "" ∨ c = Str.ofString "." then acc
  else if c ≠ Str.ofString ".." ∨ (r = Str.ofString "" ∧ acc = []) ∨ (acc.getLast? = some (Str.ofString "..")) then acc ++ [c]
  else acc.dropLast
noncomputable def normPy (x : Str) : Str :=
  let r := rootPy x
  let q := r.2.1 ++ Txt.join (Str.ofString "/") ((Txt.split r.2.2 (Str.ofString "/")).foldl (normStep r.2.1) [])
  if (q.length : Int) = 0 then Str.ofString "." else q
theorem str_nil {c : Str} (h : (c.length : Int) = 0) : c = Str.ofString "" := by
  cases c with | mk a => cases a with | mk l => cases l with
    | nil => rfl
    | cons x r => exact absurd h (by show ¬ (((⟨⟨x :: r⟩⟩ : Str).length : Nat) : Int) = 0; simp [Str.length]; omega)
theorem ns_skip1 {r c : Str} {acc : List Str} (h : (c.length : Int) = 0) : normStep r acc c = acc := if_pos (.inl (str_nil h))
theorem ns_skip2 {r c : Str} {acc : List Str} (h : (c == Str.ofString ".") = true) : normStep r acc c = acc := if_pos (.inr (eq_of_beq h))
theorem ns_no {c : Str} (h : (c.length : Int) ≠ 0) (h2 : (c == Str.ofString ".") = false) : ¬ (c = Str.ofString "" ∨ c = Str.ofString ".") := by
  rintro (rfl | rfl)
  · exact h rfl
  · exact absurd h2 (by decide)
theorem ns_app {r c : Str} {acc : List Str} (h : (c.length : Int) ≠ 0) (h2 : (c == Str.ofString ".") = false) (h3 : (c != Str.ofString "..") = true) : normStep r acc c = acc ++ [c] := by
  rw [normStep, if_neg (ns_no h h2), if_pos (.inl fun e => by rw [e] at h3; exact absurd h3 (by decide))]
theorem ns_eq {c : Str} (h3 : (c != Str.ofString "..") = false) : c = Str.ofString ".." := by simpa only [bne_eq_false_iff_eq] using h3
theorem ns_empty {r c : Str} (h : (c.length : Int) ≠ 0) (h2 : (c == Str.ofString ".") = false) (h3 : (c != Str.ofString "..") = false) (hr : (r.length : Int) ≠ 0) : normStep r [] c = [] := by
  rw [normStep, if_neg (ns_no h h2), if_neg]
  · rfl
  · rintro (e | e | e)
    · exact e (ns_eq h3)
    · rw [e.1] at hr; exact hr rfl
    · cases e
theorem ns_up {r c y : Str} {acc : List Str} (h : (c.length : Int) ≠ 0) (h2 : (c == Str.ofString ".") = false) (h4 : (y == Str.ofString "..") = true) : normStep r (acc ++ [y]) c = acc ++ [y] ++ [c] := by
  rw [normStep, if_neg (ns_no h h2), if_pos]
  right; right; rw [List.getLast?_concat, eq_of_beq h4]
theorem ns_pop {r c y : Str} {acc : List Str} (h : (c.length : Int) ≠ 0) (h2 : (c == Str.ofString ".") = false) (h3 : (c != Str.ofString "..") = false) (h4 : (y == Str.ofString "..") = false) : normStep r (acc ++ [y]) c = acc := by
  rw [normStep, if_neg (ns_no h h2), if_neg]
  · exact List.dropLast_concat
  · rintro (e | e | e)
    · exact e (ns_eq h3)
    · simp at e
    · rw [List.getLast?_concat] at e; cases e; exact absurd h4 (by decide)

end
section
open PySem PySem.W PySem.W.X PyProof.Rows PySem.Calls PySem.Builtin.Str
theorem split_len (x y : Str) : (Txt.split x y).length ≤ x.length + 2 := by
  unfold Txt.split
  split
  · simp
  · split
    · simp
    · have h := StrLaws.occ_length_le x y 0 x.length (x.length + 1)
      rw [PyProof.Rows.len_partsBetween]
      omega

end
section
open PySem PySem.W PySem.W.X PyProof.Rows PySem.Calls
theorem root_len (x : Str) : (rootPy x).2.2.length ≤ x.length := by
  unfold rootPy
  split
  · exact Nat.le_refl _
  · split
    · exact PyProof.Txt.length_slice_le x _ _
    · exact PyProof.Txt.length_slice_le x _ _
theorem strs_are : ∀ ts : List (Str × Tok), StrsAre (sv ts) (ts.map (·.1))
  | [] => .nil
  | (x, t) :: r => .cons x t (strs_are r)

end
theorem calm_M10 : True := by
  w_top off
  trivial
section
open PySem PySem.W PySem.W.X PyProof.Rows PySem.Calls
local macro_rules | `(tactic| walk_at "subscriptTail Name UnaryOp ref int") => `(tactic| (refine item_last (News.isList (by assumption) (by k_mem)) ?_))
local macro_rules | `(tactic| walk_at "subscriptTail") => `(tactic| (refine item_last (News.isList (by assumption) (by k_mem)) ?_))
local macro_rules | `(tactic| walk_at "truthy ref") => `(tactic| walk_at "H")
local macro_rules | `(tactic| walk_at "call builtin:str.join") => `(tactic| walk_at "H")
local macro_rules | `(tactic| walk_at "pyIter ref") => `(tactic| walk_at "H")
inductive NormSt (D lst : Addr) (r2 : Str) (l : List (Str × Tok)) (cs : List Str) (i : Nat) (m : Str → Option Value) (nx : List (Addr × Obj)) (ts : List (Str × Tok)) (e : Nat) (u1 u2 u3 u4 : Tok) : Prop where
  | mk (m1 : m (Str.ofString "new_comps") = some (.ref D)) (m2 : m (Str.ofString "dot") = some (.str (Str.ofString ".") u1)) (m3 : m (Str.ofString "dotdot") = some (.str (Str.ofString "..") u2)) (m4 : m (Str.ofString "initial_slashes") = some (.str r2 u3)) (m5 : m (Str.ofString "sep") = some (.str (Str.ofString "/") u4)) (nx : nx = [(D, listOf (sv ts).toArray e), (lst, { cls := .type "list", data := .seq (strValues l).toArray })]) (st : ts.map (·.1) = (cs.take i).foldl (normStep r2) []) (hi : ts.length ≤ i) (hz : ∀ z ∈ ts, z.1.length ≤ 100)
set_option maxRecDepth 100000 in
set_option maxHeartbeats 8000000 in
theorem norm_c (w : World) {s : Shared} {p : Program} {loose : List Str} {mean : ExcName → Option Value} {mg mb : Str → Option Value} (KX : (Mine.KK w.params).In s.heap) (T : Top p loose mean mg mb s.heap)  (x : Str) (t : Tok) (hx : x.length < 100) (hx0 : x.length ≠ 0) (hroot : (rootPy x).2.1 = Str.ofString "/") :
   Call w 100 (.ref 136) [.str x t] (fun h v => ∃ t1, v = .str (normPy x) t1) s := by
  k_dflt (refine' enter1 (Str.ofString "path") ?k1 ?k2 ?k3 ?k4 ?k5 ?k6 ?k7 ?k8 ?k9 ?k10 ?k11 ?_; ((case k1 => decide); (case k2 => k_asm); (case k3 => k_asm); (case k4 => k_is); (case k5 => k_is); (case k6 => exact rfl); (case k7 => exact rfl); (case k8 => decide); (case k9 => exact rfl); (case k10 => exact rfl); (case k11 => exact rfl); k_whole; intro L' h' F' N'; (try dsimp only); dsimp only [S.p, S.sep, S.i, S.head, S.tail, S.fspath, S.uugetusep, S.len, S.rfind, S.rstrip, S.a, S.b, S.path, S.startswith, S.endswith, S.join, S.TypeError, S.AttributeError, S.BytesWarning, S.uucheckuargutypes, S.isinstance, S.bytes, S.empty, S.splitroot, S.normpath, S.dot, S.dotdot, S.uu, S.initial_slashes, S.comps, S.new_comps, S.comp, S.split, S.append, S.pop, S.paths, S.tuple, S.map, S.ValueError, S.split_paths, S.isabs, S.s, S.c, S.curdir, S.s1, S.s2, S.common, S.enumerate, S.min, S.max, S.prefix, S.commonpath, S.count, S.K, S.mycmp, S.obj, S.other, S.self, S.function, S.sequence, S.initial, S.uuinitialumissing, S.it, S.iter, S.value, S.next, S.StopIteration, S.element, S.reduce, S.cell, S.kinds, S.k, S.range, S.uulawupieces, S.pair, S.piece, S.n, S.d, S.add, S.sub, S.uulawustep, S.names, S.uulawunames, S.place, S.uulawuupward, S.replace, S.name, S.one, S.uulawuacross, S.mul, S.low, S.high, S.uulawusimplest, S.uulawumeet, S.script, S.key, S.places, S.sides, S.cmp_to_key, S.pieces, S.sum, S.crooked, S.values, S.keys, S.countOf, S.j, S.x, S.y, S.t, S.told, S.due, S.lt, S.le, S.eq, S.ne, S.ge, S.gt, S.m, S.mask, S.chosen, S.row, S.sorted, S.lowest, S.some, S.os]; (try k_fold)))
  refine wpAny_q ?_
  intro Q0 hQ0
  k_steps
  rotate_left
  · exact absurd (by assumption) (by omega)
  rename Fr _ _ _ _ => F
  rename News _ _ _ _ => N
  refine' ans_k (d := 200) ?r F N (root_c _ (KX.keeps F.keep) (T.keeps F.keep) _ _ (by omega)) ?_
  case r => walk_at "rm"
  rintro r h1 tk1 ⟨t1, t2, t3, a, rfl, ha, hna⟩ st F1 N1
  replace N1 := news_one F N1 ha hna
  clear st F N
  generalize hr1 : (rootPy x).1 = r1 at ha N1
  generalize hr2 : (rootPy x).2.1 = r2 at ha N1
  generalize hr3 : (rootPy x).2.2 = r3 at ha N1
  have hl3 : r3.length < 100 := by rw [← hr3]; have := root_len x; omega
  have hr20 : (r2.length : Int) ≠ 0 := by rw [← hr2, hroot]; decide
  have hl2 : r2.length < 100 := by rw [← hr2, hroot]; decide
  (try dsimp only); (try k_fold)
  k_steps
  show wpAny _ _ _ _ _ _
  rename Fr _ _ _ _ => F
  rename News _ _ _ _ => N
  rename List.map _ _ = Txt.split _ _ => hls
  rename_i hL _ l _ _ _ hle _ _ D _ l1 _
  dsimp only at N ⊢
  generalize hL.objs.size = lst at N l1 ⊢
  have hcl := split_len r3 (Str.ofString "/")
  generalize hcs : Txt.split r3 (Str.ofString "/") = cs at hls hcl
  refine for_list (vs := strValues l) (fun i m nx => ∃ ts e u1 u2 u3 u4, NormSt D lst r2 l cs i m nx ts e u1 u2 u3 u4)
    rfl rfl F (News.perm N (fun p hp => by rcases List.mem_cons.mp hp with rfl | hp; exact .head _; rw [List.mem_singleton.mp hp]; exact .tail _ (.head _))) (Or.inr (by rintro i m nx ⟨ts, e, u1, u2, u3, u4, _, _, _, _, _, rfl, _⟩; exact .tail _ (.head _)))
    ⟨[], _, _, _, _, _, by walk_at "look", by walk_at "look", by walk_at "look", by walk_at "look", by walk_at "look", rfl, rfl, Nat.le_refl _, fun _ h => nomatch h⟩ ?_ ?_
  · clear F N
    rintro I i v m₁ nx h tk io - hv ⟨ts, e, u1, u2, u3, u4, hm1, hm2, hm3, hm4, hm5, rfl, hts, htl, htz⟩ hoff F N
    replace F : Fr s.heap _ h _ := F
    replace N : News s.heap _ h _ := N
    obtain ⟨z, hz, rfl⟩ : ∃ z : Str × Tok, l[i]? = some z ∧ v = .str z.1 z.2 := by
      rw [strValues, List.getElem?_map] at hv
      obtain ⟨z, hz, rfl⟩ := Option.map_eq_some_iff.mp hv
      exact ⟨z, hz, rfl⟩
    have hil : i < 102 := by
      have h1 := (List.getElem?_eq_some_iff.mp hz).1
      have h2 : l.length = cs.length := by rw [← hls, List.length_map]
      omega
    have hz1 : z.1.length ≤ 100 := Nat.le_trans (hle _ (List.mem_map_of_mem (List.mem_of_getElem? hz))) (by omega)
    have hst : cs.take (i + 1) = cs.take i ++ [z.1] := by rw [← hls, List.take_add_one, List.getElem?_map, hz]; rfl
    obtain ⟨c, tc⟩ := z
    have hP : (cs.take (i + 1)).foldl (normStep r2) [] = normStep r2 (ts.map (·.1)) c := by rw [hst, List.foldl_append, hts]; rfl
    have hsz : (sv ts).toArray.size ≤ 102 := by simp [sv]; omega
    clear hst hz hv hls hle hcs hcl
    have hDI : I ≠ D := fun q => hoff _ (.head _) q.symm
    have hlI : I ≠ lst := fun q => hoff _ (.tail _ (.head _)) q.symm
    have hDl : D ≠ lst := fun q => Nat.lt_irrefl _ (q ▸ l1.1)
    have hlD : lst ≠ D := fun q => hDl q.symm
    have hID : D ≠ I := fun q => hDI q.symm
    have hid : Hid ((cs.take (i + 1)).foldl (normStep r2) [] = normStep r2 (ts.map (·.1)) c ∧ ts.length ≤ i ∧ (∀ z ∈ ts, z.1.length ≤ 100)) := Hid.mk ⟨hP, htl, htz⟩
    refine wpAny_q ?_
    intro Q1 hQ1
    (try dsimp only at F hz1 ⊢); (try k_fold)
    clear hroot hr1 hr2 hr3 hP hx hx0 hl3 ha hna hts htz l1
    k_steps
    · refine hQ1.out _ _ ?_
      walk_at "turned"
      refine' TurnEnd.introC [(D, listOf (sv ts).toArray e), (lst, { cls := .type "list", data := .seq (strValues l).toArray })] ?F ?N (.head _) ?S ?J
      case F => assumption
      case N => assumption
      case S => exact (fun p hp => ⟨.tail _ hp, by rcases List.mem_cons.mp hp with rfl | hp; exact fun q => hDI q.symm; rw [List.mem_singleton.mp hp]; exact fun q => hlI q.symm⟩)
      case J => exact ⟨ts, _, _, _, _, _, by walk_at "look", by walk_at "look", by walk_at "look", by walk_at "look", by walk_at "look", by first | rfl | rw [sv_push], by rw [hid.out.1, ns_skip2 (by assumption)], by have := hid.out.2.1; omega, hid.out.2.2⟩
    · refine hQ1.out _ _ ?_
      walk_at "turned"
      refine' TurnEnd.intro [(D, listOf ((sv ts).toArray.push (.str c tc)) (e + 1)), (lst, { cls := .type "list", data := .seq (strValues l).toArray })] ?F ?N (.head _) ?S ?J
      case F => assumption
      case N => assumption
      case S => exact (fun p hp => ⟨.tail _ hp, by rcases List.mem_cons.mp hp with rfl | hp; exact fun q => hDI q.symm; rw [List.mem_singleton.mp hp]; exact fun q => hlI q.symm⟩)
      case J => exact ⟨ts ++ [(c, tc)], _, _, _, _, _, by walk_at "look", by walk_at "look", by walk_at "look", by walk_at "look", by walk_at "look", by first | rfl | rw [sv_push], by rw [hid.out.1, ns_app (by assumption) (by assumption) (by assumption)]; simp, by have := hid.out.2.1; simp; omega, by intro z hz; rcases List.mem_append.mp hz with hz | hz; exact hid.out.2.2 z hz; rw [List.mem_singleton.mp hz]; exact hz1⟩
    · rcases List.eq_nil_or_concat ts with rfl | ⟨ts', ⟨y, ty⟩, rfl⟩
      · show wpAny _ _ _ _ _ _
        refine wpAny_truthy_list (items := #[]) (News.isList (by assumption) (by k_mem)) (by decide) ?_
        rw [show (#[] : Array Value).isEmpty = true from rfl, Bool.not_true]
        k_steps
        show wpAny _ _ _ _ _ _
        refine wpAny_truthy_list (items := #[]) (News.isList (by assumption) (by k_mem)) (by decide) ?_
        rw [show (#[] : Array Value).isEmpty = true from rfl, Bool.not_true]
        k_steps
        refine hQ1.out _ _ ?_
        walk_at "turned"
        refine' TurnEnd.intro [(D, listOf (sv []).toArray e), (lst, { cls := .type "list", data := .seq (strValues l).toArray })] ?F ?N (.head _) ?S ?J
        case F => assumption
        case N => assumption
        case S => exact (fun p hp => ⟨.tail _ hp, by rcases List.mem_cons.mp hp with rfl | hp; exact fun q => hDI q.symm; rw [List.mem_singleton.mp hp]; exact fun q => hlI q.symm⟩)
        case J => exact ⟨[], _, _, _, _, _, by walk_at "look", by walk_at "look", by walk_at "look", by walk_at "look", by walk_at "look", rfl, by rw [hid.out.1]; exact (ns_empty (by assumption) (by assumption) (by assumption) hr20).symm, Nat.zero_le _, fun _ h => nomatch h⟩
      · rw [List.concat_eq_append] at hid hsz
        rename News _ _ _ _ => N0
        rw [List.concat_eq_append] at N0
        show wpAny _ _ _ _ _ _
        have hve : sv (ts' ++ [(y, ty)]) = sv ts' ++ [Value.str y ty] := by simp [sv]
        rename Fr _ _ _ _ => F
        rename News _ _ _ _ => N
        rw [hve] at N hsz
        clear hve
        refine wpAny_truthy_list (items := (sv ts' ++ [Value.str y ty]).toArray) (News.isList (by assumption) (by k_mem)) (by omega) ?_
        rw [show (sv ts' ++ [Value.str y ty]).toArray.isEmpty = false from by simp, Bool.not_false]
        k_steps
        · refine hQ1.out _ _ ?_
          walk_at "turned"
          refine' TurnEnd.intro [(D, listOf ((sv ts' ++ [Value.str y ty]).toArray.push (.str c tc)) (e + 1)), (lst, { cls := .type "list", data := .seq (strValues l).toArray })] ?F ?N (.head _) ?S ?J
          case F => assumption
          case N => assumption
          case S => exact (fun p hp => ⟨.tail _ hp, by rcases List.mem_cons.mp hp with rfl | hp; exact fun q => hDI q.symm; rw [List.mem_singleton.mp hp]; exact fun q => hlI q.symm⟩)
          case J => exact ⟨ts' ++ [(y, ty)] ++ [(c, tc)], e + 1, _, _, _, _, by walk_at "look", by walk_at "look", by walk_at "look", by walk_at "look", by walk_at "look", by simp [sv], by rw [hid.out.1, show (ts' ++ [(y, ty)]).map (·.1) = ts'.map (·.1) ++ [y] from by simp, ns_up (by assumption) (by assumption) (by assumption)]; simp, by have := hid.out.2.1; simp at this ⊢; omega, by intro z hz; rcases List.mem_append.mp hz with hz | hz; exact hid.out.2.2 z hz; rw [List.mem_singleton.mp hz]; exact hz1⟩
        · show wpAny _ _ _ _ _ _
          refine wpAny_truthy_list (items := (sv ts' ++ [Value.str y ty]).toArray) (News.isList (by assumption) (by k_mem)) (by omega) ?_
          rw [show (sv ts' ++ [Value.str y ty]).toArray.isEmpty = false from by simp, Bool.not_false]
          k_steps
          rename Fr _ _ _ _ => F
          rename News _ _ _ _ => N
          refine' kl_pop F N (p := sv ts') (y := .str y ty) (by rw [List.toList_toArray]; exact kpa_last _ _) (news' := [(I, io), (D, listOf (sv ts').toArray (e + 1)), (lst, { cls := .type "list", data := .seq (strValues l).toArray })]) ?U ?z ?_
          case U => exact .tail hDI (.head (fun p hp => by rw [List.mem_singleton.mp hp]; exact hlD))
          case z => exact Nat.le_trans (by simpa using hsz) (by decide : 102 ≤ sizeLine)
          intro h5 F5 N5
          clear F N
          k_steps
          refine hQ1.out _ _ ?_
          walk_at "turned"
          refine' TurnEnd.intro [(D, listOf (sv ts').toArray (e + 1)), (lst, { cls := .type "list", data := .seq (strValues l).toArray })] ?F ?N (.head _) ?S ?J
          case F => assumption
          case N => assumption
          case S => exact (fun p hp => ⟨.tail _ hp, by rcases List.mem_cons.mp hp with rfl | hp; exact fun q => hDI q.symm; rw [List.mem_singleton.mp hp]; exact fun q => hlI q.symm⟩)
          case J => exact ⟨ts', e + 1, _, _, _, _, by walk_at "look", by walk_at "look", by walk_at "look", by walk_at "look", by walk_at "look", rfl, by rw [hid.out.1, show (ts' ++ [(y, ty)]).map (·.1) = ts'.map (·.1) ++ [y] from by simp, ns_pop (by assumption) (by assumption) (by assumption) (by assumption)], by have := hid.out.2.1; simp at this ⊢; omega, fun z hz => hid.out.2.2 z (List.mem_append_left _ hz)⟩
    · exact absurd (by assumption) hr20
    · refine hQ1.out _ _ ?_
      walk_at "turned"
      refine' TurnEnd.introC [(D, listOf (sv ts).toArray e), (lst, { cls := .type "list", data := .seq (strValues l).toArray })] ?F ?N (.head _) ?S ?J
      case F => assumption
      case N => assumption
      case S => exact (fun p hp => ⟨.tail _ hp, by rcases List.mem_cons.mp hp with rfl | hp; exact fun q => hDI q.symm; rw [List.mem_singleton.mp hp]; exact fun q => hlI q.symm⟩)
      case J => exact ⟨ts, _, _, _, _, _, by walk_at "look", by walk_at "look", by walk_at "look", by walk_at "look", by walk_at "look", by first | rfl | rw [sv_push], by rw [hid.out.1, ns_skip1 (by assumption)], by have := hid.out.2.1; omega, hid.out.2.2⟩
  · clear F N
    rintro h tk m₁ nx - F N ⟨ts, e, u1, u2, u3, u4, hm1, hm2, hm3, hm4, hm5, rfl, hts, htl, htz⟩
    replace F : Fr s.heap _ h _ := F
    replace N : News s.heap _ h _ := N
    have hcsl : cs.length ≤ 102 := by omega
    have hfold : ts.map (·.1) = cs.foldl (normStep r2) [] := by rw [hts, List.take_of_length_le (by rw [← hls]; simp [strValues])]
    have htl' : ts.length ≤ 102 := by have := congrArg List.length hls; simp [strValues] at htl this; omega
    have hsum : ((ts.map (·.1)).map (·.length)).sum + (ts.map (·.1)).length * (Str.ofString "/").length ≤ 16777216 := by
      rw [show (Str.ofString "/").length = 1 from rfl]
      have h1 := StrLaws.sumLen_le (B := 100) (ts.map (·.1)) (by simpa using fun a b hab => htz (a, b) hab)
      rw [List.length_map] at h1 ⊢
      omega
    have hid : Hid ((normPy x = if (((r2 ++ Txt.join (Str.ofString "/") (ts.map (·.1))).length : Int) = 0) then Str.ofString "." else (r2 ++ Txt.join (Str.ofString "/") (ts.map (·.1)))) ∧ (((ts.map (·.1)).map (·.length)).sum + (ts.map (·.1)).length * (Str.ofString "/").length ≤ 16777216) ∧ ts.length ≤ 102 ∧ (Txt.join (Str.ofString "/") (ts.map (·.1))).length ≤ 20000) := by
      refine Hid.mk ⟨?_, hsum, htl', ?_⟩
      · rw [hfold, normPy]; simp only [hr2, hr3, hcs]
      · have h1 := StrLaws.join_length_le (Str.ofString "/") (ts.map (·.1))
        have h2 := StrLaws.sumLen_le (B := 100) (ts.map (·.1)) (by simpa using fun a b hab => htz (a, b) hab)
        rw [List.length_map] at h1 h2
        have : (Str.ofString "/").length = 1 := rfl
        rw [this] at h1
        have h3 : (Txt.join (Str.ofString "/") (ts.map (·.1))).length = (Str.join (Str.ofString "/") (ts.map (·.1))).length := by unfold Txt.join; rw [StrLaws.glued_eq_join]
        omega
    clear hroot hr1 hr2 hr3 hx hx0 hl3 ha hna hfold hcs hls hts hle hcl hcsl htl hsum htz htl'
    (try dsimp only at F ⊢); (try k_fold)
    k_steps
    show wpAny _ _ _ _ _ _
    rename Fr _ _ _ _ => F
    rename News _ _ _ _ => N
    refine join_list (ys := ts.map (·.1)) (News.isList N (.head _)) (by rw [List.toList_toArray]; exact strs_are ts) hid.out.2.1 ?_
    intro tj kj
    have hql : (Txt.join (Str.ofString "/") (ts.map (·.1))).length ≤ 20000 := hid.out.2.2.2
    replace hid := Hid.mk hid.out.1
    generalize hq : Txt.join (Str.ofString "/") (ts.map (·.1)) = q at hid hql ⊢
    clear hq
    (try dsimp only); (try k_fold)
    k_steps
    · refine hQ0.out _ _ ?_
      dsimp only
      walk_at "done"
      exact ⟨_, by rw [hid.out, if_neg (by assumption)]⟩
    · refine hQ0.out _ _ ?_
      dsimp only
      walk_at "done"
      exact ⟨_, by rw [hid.out, if_pos (by assumption)]⟩

end
section
open PySem PySem.W PySem.W.X PyProof.Rows PySem.Calls
section
variable {w : World} {d : Nat} {E : Value → Shared → Prop} {s : Shared} {p : Program} {loose : List Str} {mean : ExcName → Option Value} {mg mb : Str → Option Value} {K : Frag} {Q : Value → Shared → Prop}
/-- into a def, whatever is asked behind it -/
theorem enterQ {name qual : Str} {params : Arguments} {body : List Stmt} {scope : Scope} {dV kV doc pm cdv ct oc : Value} {an od : Option Addr} {osl : Array (Option Value)} {f : Addr} {vals : List Value} {binds : List (Str × Value)}
    (hroom : d + 400 < recursionLimit) (X : K.In s.heap) (T : Top p loose mean mg mb s.heap)
    (ho : K.lookup f = some ⟨oc, od, .func (fnOf name qual params body scope dV kV doc pm an cdv ct), osl⟩) (hcd : codeIn K cdv qual = true)
    (hbind : BindsTo s (fnOf name qual params body scope dV kV doc pm an cdv ct) ⟨vals, []⟩ binds) (hloc : ∀ y ∈ binds, scope.names.lookup y.1 = some .local)
    (hcell : ∀ x ∈ scope.names, x.2 ≠ .cell)
    (hco : scope.isCoroutine = false) (hgen : scope.isGenerator = false) (hk : scope.kind = .function)
    (h : ∀ L h₁, Fr s.heap L h₁ (fun y => binds.reverse.lookup y) → News s.heap L h₁ [] →
      wpAny (model pw w) ((AA d).deeper (envOf qual scope L f cdv)) (execs body (envOf qual scope L f cdv))
        (fun fl s' => Q (match fl with | .ret v => v | _ => .none) s') (fun _ _ => False)
        { s with heap := h₁, toks := s.toks + binds.length }) :
    wpAny (model pw w) (AA d) (call (.ref f) vals) Q (fun _ _ => False) s := by
  refine wpAny_call (codeAny_call_def (fd := fnOf name qual params body scope dV kV doc pm an cdv ct) (body := body) (binds := binds) hroom (X _ _ ho) rfl T.nolimit (codeRec_of X hcd) rfl hbind hcell hloc (fun h₁ hns hk₁ => ?_) hco hgen hk)
  exact wpAny_mono (h _ h₁ ⟨hns, hk₁, Nat.le_refl _⟩ News.nil) (fun _ _ x => x) (fun _ _ x => x.elim)
end
theorem ans_frB {P : Heap → Value → Prop} {h₀ : Heap} {s : Shared} {h : Heap} {L : Addr} {m : Str → Option Value} {t : Tok} {v : Value} (F : Fr h₀ L h m) (hp : P h v) : Ans P h₀ s.gens s.drawn s.os v { s with heap := h, toks := t } := ⟨_, _, rfl, F.keep, hp⟩
/-- the heap, but for one object -/
noncomputable def butFor (h : Heap) (I : Addr) : Heap := h.update I fun o => { o with data := .freed }
theorem butFor_none (h : Heap) (I : Addr) : (butFor h I).get? I = none := by
  cases h with
  | mk objs l =>
    simp only [butFor, Heap.update, Heap.get?, Array.getElem?_modify, if_true]
    cases objs[I]? <;> rfl
theorem butFor_ne {h : Heap} {I b : Addr} (hb : b ≠ I) : (butFor h I).get? b = h.get? b := Heap.get?_update_other h _ (Ne.symm hb)
theorem butFor_stays (h : Heap) (I : Addr) : Stays (butFor h I) h := fun b o e => by
  by_cases hb : b = I
  · subst hb; rw [butFor_none] at e; cases e
  · rwa [butFor_ne hb] at e
theorem butFor_size (h : Heap) (I : Addr) : (butFor h I).objs.size = h.objs.size := by cases h; simp [butFor, Heap.update]
theorem fr_base {h₀ h₁ h : Heap} {L : Addr} {m : Str → Option Value} (F : Fr h₁ L h m) (st : Stays h₀ h₁) (hs : h₀.objs.size ≤ h₁.objs.size) : Fr h₀ L h m := ⟨F.ns, fun b o e => F.keep b o (st b o e), Nat.le_trans hs F.above⟩
section
variable {w : World} {A : Around} {s : Shared} {Q : Value → Shared → Prop} {E : Value → Shared → Prop} {h₀ : Heap} {L : Addr} {m : Str → Option Value} {news : List (Addr × Obj)} {x : Str} {t : Tok}
/-- next(it), it a list's iterator -/
theorem next_list {I l : Addr} {io : Obj} {i : Nat} {items : Array Value} {x : Value} (F : Fr h₀ L s.heap m) (N : News h₀ L s.heap ((I, io) :: news)) (hoff : ∀ p ∈ news, p.1 ≠ I) (hi : io.cls = .type "list_iterator" ∧ io.data = .fields #[.ref l, .int (i : Nat) 0]) (hl : s.heap.IsList l items) (hx : items[i]? = some x)
    (h : ∀ h' io', Fr h₀ L h' m → News h₀ L h' ((I, io') :: news) → io'.cls = .type "list_iterator" ∧ io'.data = .fields #[.ref l, .int ((i + 1 : Nat)) 0] → Q x { s with heap := h' }) :
    wpAny (model pw w) A (call (.builtin "next") [.ref I]) Q E s := by
  have hm := N (I, io) (.head _)
  have hit : s.heap.IsListIter I l i := ⟨io, hm.1, hi.1, hi.2⟩
  obtain ⟨o, ho, hc, hd⟩ := id hit
  obtain ⟨ol, hol, _, nl, hdl⟩ := hl
  refine call_function_entry (by decide +kernel) (by decide +kernel) kdk_entry_next (kdk_args_next _) ?_
  unfold Builtin.«next»
  refine wpAny_bind (m := someArgs "next" 1 2 _) (wpAny_of_eq (a := [Value.ref I]) (by first | rfl | kernel_rfl!) ?_)
  dsimp only
  refine wpAny_bind (wpAny_specialOf (name := Str.ofString "__next__") hit.typeIs slot_listiter_next.lookup ?_)
  refine wpAny_ite_split (fun hab => absurd hab (by decide)) (fun _ => ?_)
  refine wpAny_bind (wpAny_callSpecial?_slot (name := Str.ofString "__next__") hit.typeIs slot_listiter_next
    (wpAny_call_entry slot_listiter_next hit.typeIs entry_listiter_next ?_ (args_listiter_next _)))
  show wpAny _ _ (field (.ref I) 0 >>= _) _ _ s
  refine wpAny_bind (wpAny_field ho hd (x := .ref l) rfl ?_)
  show wpAny _ _ (if (Value.ref l == Value.none) = true then _ else _) _ _ s
  rw [if_neg (show ¬ ((Value.ref l == Value.none) = true) from Bool.false_ne_true)]
  show wpAny _ _ (field (.ref I) 1 >>= _) _ _ s
  refine wpAny_bind (wpAny_field ho hd (x := .int i 0) rfl ?_)
  show wpAny _ _ (seqItems? (.ref l) >>= _) _ _ s
  refine wpAny_bind (wpAny_seqItems hol hdl ?_)
  simp only [Int.toNat_natCast, hx]
  refine wpAny_bind (wpAny_setField ho hd (by simp) (wpAny_pure ⟨x, rfl, wpAny_pure ⟨_, rfl, ?_⟩⟩))
  have hs : Heap.SameBut I s.heap (s.heap.update I (Obj.mapFields (·.setIfInBounds 1 (rawInt ((i : Int) + 1))))) := Heap.SameBut.update ..
  have hit' : (s.heap.update I (Obj.mapFields (·.setIfInBounds 1 (rawInt ((i : Int) + 1))))).IsListIter I l (i + 1) :=
    ⟨_, Heap.get?_update_self _ ho (Obj.isFreed_of_fields (Obj.data_mapFields hd _)), (Obj.cls_mapFields ..).trans hc, by rw [Obj.data_mapFields hd]; simp [rawInt]⟩
  obtain ⟨io', ho', hc', hd'⟩ := hit'
  refine h _ io' (F.change hs hm.2.1 hm.2.2) (fun q hq => ?_) ⟨hc', hd'⟩
  rcases List.mem_cons.mp hq with rfl | hq
  · exact ⟨ho', hm.2⟩
  · exact ⟨(hs.2 _ (hoff q hq)).trans (N q (.tail _ hq)).1, (N q (.tail _ hq)).2⟩
end

end
theorem calm_M12 : True := by
  w_top off
  trivial
section
open PySem PySem.W PySem.W.X PyProof.Rows PySem.Calls
theorem iter_self {w : World} {A : Around} {s : Shared} {Q : Value → Shared → Prop} {E : Value → Shared → Prop} {I l : Addr} {i : Nat} (hit : s.heap.IsListIter I l i) (h : Q (.ref I) s) : wpAny (model pw w) A (call (.builtin "iter") [.ref I]) Q E s := by
  refine call_function_entry (by decide +kernel) (by decide +kernel) kdk_entry_iter (kdk_args_iter _) ?_
  unfold Builtin.«iter»
  refine wpAny_bind (m := someArgs "iter" 1 2 _) (wpAny_of_eq (a := [Value.ref I]) (by first | rfl | kernel_rfl!) ?_)
  dsimp only
  refine wpAny_bind (wpAny_pyIter_listiter hit ?_)
  exact wpAny_pure ⟨_, rfl, h⟩
local macro_rules | `(tactic| walk_at "done") => `(tactic| (k_dflt (refine ans_frB (by assumption) ?_); (try dsimp only)))
local macro_rules | `(tactic| walk_at "call builtin:iter") => `(tactic| walk_at "H")
local macro_rules | `(tactic| walk_at "call builtin:next") => `(tactic| walk_at "H")
set_option maxRecDepth 100000 in
set_option maxHeartbeats 8000000 in
theorem reduce2_c (w : World) {s : Shared} {h₀ : Heap} {p : Program} {loose : List Str} {mean : ExcName → Option Value} {mg mb : Str → Option Value} (KX : (Mine.KK w.params).In h₀) (T : Top p loose mean mg mb h₀) (st : Stays h₀ s.heap) (hsz : h₀.objs.size ≤ s.heap.objs.size)
   (fa l I : Addr) (io : Obj) (hio : s.heap.get? I = some io) (hI : h₀.get? I = none) (hi : io.cls = .type "list_iterator" ∧ io.data = .fields #[.ref l, .int (0 : Nat) 0]) (x0 : Str) (t0 : Tok) (ts : List (Str × Tok)) (k : Nat)
   (hl : h₀.get? l = some { cls := .type "list", data := .seq (sv ((x0, t0) :: ts)).toArray k }) (stp : Str → Str → Str) (Ok : Str → Prop) 
   (hf : ∀ s' x t y u, (Mine.KK w.params).In s'.heap → Top p loose mean mg mb s'.heap → 1 ≤ s'.toks → Ok x → Ok y → Call w 150 (.ref fa) [.str x t, .str y u] (fun _ r => ∃ t', r = .str (stp x y) t') s')
   (hk : keepIn (Mine.KK w.params) (.ref fa) = true) (hok : ∀ z ∈ (x0, t0) :: ts, Ok z.1) (hst : ∀ x y, Ok x → Ok y → Ok (stp x y)) :
   wpAny (model pw w) (AA 100) (call (.ref 227) [.ref fa, .ref I]) (Ans (fun _ r => ∃ t, r = .str ((ts.map (·.1)).foldl stp x0) t) h₀ s.gens s.drawn s.os) (fun _ _ => False) s := by
  have KXs := KX.keeps st
  have Ts := T.keeps st
  have hlist : s.heap.get? l = _ := st _ _ hl
  k_dflt (refine' enterQ (binds := [(Str.ofString "function", .ref fa), (Str.ofString "sequence", .ref I), (Str.ofString "initial", .ref 219)]) ?k1 ?k2 ?k3 ?k4 ?k5 ?k6 ?k7 ?k8 ?k9 ?k10 ?k11 ?_; (case k1 => decide); (case k2 => exact KXs); (case k3 => exact Ts); (case k4 => k_is); (case k5 => k_is); (case k6 => exact binds_K (by exact KXs) rfl (by k_is) rfl rfl rfl); (case k7 => (intro y hy; simp only [List.mem_cons, List.not_mem_nil, or_false] at hy; rcases hy with rfl | rfl | rfl <;> rfl)); (case k8 => decide); (case k9 => exact rfl); (case k10 => exact rfl); (case k11 => exact rfl); k_whole; intro L' h' F' N'; (try dsimp only); dsimp only [S.p, S.sep, S.i, S.head, S.tail, S.fspath, S.uugetusep, S.len, S.rfind, S.rstrip, S.a, S.b, S.path, S.startswith, S.endswith, S.join, S.TypeError, S.AttributeError, S.BytesWarning, S.uucheckuargutypes, S.isinstance, S.bytes, S.empty, S.splitroot, S.normpath, S.dot, S.dotdot, S.uu, S.initial_slashes, S.comps, S.new_comps, S.comp, S.split, S.append, S.pop, S.paths, S.tuple, S.map, S.ValueError, S.split_paths, S.isabs, S.s, S.c, S.curdir, S.s1, S.s2, S.common, S.enumerate, S.min, S.max, S.prefix, S.commonpath, S.count, S.K, S.mycmp, S.obj, S.other, S.self, S.function, S.sequence, S.initial, S.uuinitialumissing, S.it, S.iter, S.value, S.next, S.StopIteration, S.element, S.reduce, S.cell, S.kinds, S.k, S.range, S.uulawupieces, S.pair, S.piece, S.n, S.d, S.add, S.sub, S.uulawustep, S.names, S.uulawunames, S.place, S.uulawuupward, S.replace, S.name, S.one, S.uulawuacross, S.mul, S.low, S.high, S.uulawusimplest, S.uulawumeet, S.script, S.key, S.places, S.sides, S.cmp_to_key, S.pieces, S.sum, S.crooked, S.values, S.keys, S.countOf, S.j, S.x, S.y, S.t, S.told, S.due, S.lt, S.le, S.eq, S.ne, S.ge, S.gt, S.m, S.mask, S.chosen, S.row, S.sorted, S.lowest, S.some, S.os]; (try k_fold))
  have hIL : I ≠ L' := fun q => absurd (Heap.lt_size hio) (Nat.not_lt.mpr (q ▸ F'.above))
  have NI : News h₀ L' h' [(I, io)] := fun q hq => by rw [List.mem_singleton.mp hq]; exact ⟨F'.keep _ _ hio, hIL, hI⟩
  have F0 : Fr h₀ L' h' (lk [(Str.ofString "initial", .ref 219), (Str.ofString "sequence", .ref I), (Str.ofString "function", .ref fa)]) := fr_base F' st hsz
  clear F' N' KXs Ts
  refine execs_toks 1 (by show 1 ≤ _ + 3; omega) ?_
  k_steps
  show wpAny _ _ _ _ _ _
  refine iter_self (l := l) (i := 0) ⟨io, (NI _ (.head _)).1, hi.1, hi.2⟩ ?_
  k_steps
  unfold Halt
  intro htk1
  dsimp only at htk1 ⊢
  refine execs_toks 1 (by exact htk1) ?_
  k_steps
  rename Fr _ _ _ _ => F
  rename News _ _ _ _ => N
  show wpAny _ _ _ _ _ _
  refine next_list (i := 0) (items := (sv ((x0, t0) :: ts)).toArray) (x := .str x0 t0) F N (fun _ h => nomatch h) hi ⟨_, F.keep _ _ hl, rfl, k, rfl⟩ rfl ?_
  intro h1 io1 F1 N1 hi1
  clear F N htk1
  (try dsimp only); (try k_fold)
  k_steps
  unfold Halt
  intro htk2
  dsimp only at htk2 ⊢
  k_steps
  rename Fr _ _ _ _ => F
  rename News _ _ _ _ => N
  have hlf : ((sv ((x0, t0) :: ts)).length - 1) = ts.length := by simp [sv]
  refine for_iter (I := I) (lo := _) (vs := sv ((x0, t0) :: ts)) (j := 1) (fun i m nx => (∃ t, m (Str.ofString "value") = some (.str (((ts.take i).map (·.1)).foldl stp x0) t)) ∧ m (Str.ofString "function") = some (.ref fa) ∧ Ok (((ts.take i).map (·.1)).foldl stp x0))
    rfl rfl hi1 (by simp [sv]) F N (fun _ h => nomatch h) (.inl hl) ⟨⟨_, by walk_at "look"⟩, by walk_at "look", hok _ (.head _)⟩ ?_ ?_
  · clear F N
    rintro i v m₁ nx h tk' io' htk hv ⟨⟨u, hval⟩, hfun, hoki⟩ hoff F N
    replace F : Fr h₀ L' h _ := F
    replace N : News h₀ L' h _ := N
    obtain ⟨z, hz, rfl⟩ : ∃ z : Str × Tok, ts[i]? = some z ∧ v = .str z.1 z.2 := by
      rw [Nat.add_comm, sv, List.getElem?_map, List.getElem?_cons_succ] at hv
      obtain ⟨z, hz, rfl⟩ := Option.map_eq_some_iff.mp hv
      exact ⟨z, hz, rfl⟩
    have htk3 : 1 ≤ tk' := Nat.le_trans htk2 htk
    have hstp : ((ts.take (i + 1)).map (·.1)).foldl stp x0 = stp (((ts.take i).map (·.1)).foldl stp x0) z.1 := by rw [List.take_add_one, hz]; simp
    have hid := Hid.mk hstp
    have hokz : Ok z.1 := hok _ (.tail _ (List.mem_of_getElem? hz))
    generalize (((ts.take i).map (·.1)).foldl stp x0) = q at *
    clear hstp hv hz htk
    (try dsimp only); (try k_fold)
    k_steps
    k_dflt (refine' callWith_K KX hk ?_)
    k_steps
    rename Fr _ _ _ _ => F
    rename News _ _ _ _ => N
    refine' ans_k (d := 150) ?r F N (hf _ q u z.1 z.2 (KX.keeps F.keep) (T.keeps F.keep) htk3 hoki hokz) ?_
    case r => walk_at "rm"
    rintro r h1 tk1 ⟨t', rfl⟩ - F1 N1
    clear F N
    (try dsimp only)
    k_steps
    walk_at "turned"
    refine' TurnEnd.intro nx ?F ?N (.head _) ?S ?J
    case F => assumption
    case N => assumption
    case S => exact fun p hp => ⟨.tail _ hp, hoff p hp⟩
    case J => exact ⟨⟨t', by rw [hid.out]; walk_at "look"⟩, by walk_at "look", by rw [hid.out]; exact hst _ _ hoki hokz⟩
  · clear F N
    rintro h tk m₁ nx - F N ⟨⟨t, hval⟩, hfun, hoki⟩
    replace F : Fr h₀ L' h _ := F
    replace N : News h₀ L' h _ := N
    rw [hlf, List.take_of_length_le (Nat.le_refl _)] at hval
    clear hoki
    k_steps
    walk_at "done"
    exact ⟨t, rfl⟩

end
theorem calm_G2 : True := by
  w_top off
  trivial
open PySem PySem.W PySem.W.X PyProof.Rows PySem.Calls PySem.Spec
section
variable {M : Model} {A : Around} {E : Value → Shared → Prop} {s : Shared} {K : Frag} {h₀ : Heap} {env : Env} {m mg mb : Str → Option Value} {p : Program} {loose : List Str} {mean : ExcName → Option Value} {x : Str} {pos : Pos} {v : Value} {Q : Value → Shared → Prop} {c : Addr} {o : Obj}
theorem nmC (F : Fr h₀ env.locals s.heap m) (hk : env.scope.kind = .function) (hl : env.kindOf x = some .cell) (hd : (x == ("__debug__" : Str)) = false) (hc : env.cells.lookup x = some c) (ho : h₀.get? c = some o) (hv : o.data = .cell (some v)) (h : Q v s) :
    wpAny M A (eval (.Name x pos) env) Q E s := wpAny_Name (wpAny_loadName_cell hk hl hc ⟨o, F.keep _ _ ho, hv⟩ h) hd
theorem nmG (F : Fr h₀ env.locals s.heap m) (hk : env.scope.kind = .function) (hl : env.kindOf x = some .globalImplicit) (hd : (x == ("__debug__" : Str)) = false) (hg : env.globals = mainGlobals) (X : K.In h₀) (T : TopRead p loose mg mb h₀) (e : nsIn K mainGlobals x = some (some v)) (h : Q v s) :
    wpAny M A (eval (.Name x pos) env) Q E s := Name_function_global hk hl (loadGlobal_global (env := env) (hg ▸ T.g.keeps F.keep) (mg_of X T.g e) h) hd
theorem nmB (F : Fr h₀ env.locals s.heap m) (hk : env.scope.kind = .function) (hl : env.kindOf x = some .globalImplicit) (hd : (x == ("__debug__" : Str)) = false) (hg : env.globals = mainGlobals) (X : K.In h₀) (T : TopRead p loose mg mb h₀) (e : nsIn K mainGlobals x = some none) (hb : env.builtins = builtinsNs) (hv : bootBuiltins x = some v) (hn : x ≠ "__name__") (h : Q v s) :
    wpAny M A (eval (.Name x pos) env) Q E s :=
  Name_function_global hk hl (loadGlobal_builtin (env := env) (hg ▸ T.g.keeps F.keep) (mg_none_of X T.g e) (hb ▸ T.b.keeps F.keep) ((T.builtins x hn).trans hv) h) hd
end
theorem ElemEnd.intro {hb : Heap} {C : Addr} {J : List Value → List (Addr × Obj) → Prop} {ys : List Value} {I : Addr} {io : Obj} {D : Addr} {lo : Obj} {s : Shared} {y : Value} {h' : Heap} {tk : Nat} {m' : Str → Option Value} {led : List (Addr × Obj)} (nx : List (Addr × Obj))
    (F : Fr hb C h' m') (N : News hb C h' led) (hI : (I, io) ∈ led) (hD : (D, lo) ∈ led) (hn : ∀ p ∈ nx, p ∈ led ∧ p.1 ≠ I ∧ p.1 ≠ D) (hj : J (ys ++ [y]) nx) : ElemEnd hb C J ys I io D lo s y { s with heap := h', toks := tk } := ⟨h', tk, m', led, nx, rfl, F, N, hI, hD, hn, hj⟩
theorem SkipEnd.intro {hb : Heap} {C : Addr} {J : List Value → List (Addr × Obj) → Prop} {ys : List Value} {I : Addr} {io : Obj} {D : Addr} {lo : Obj} {s : Shared} {h' : Heap} {tk : Nat} {m' : Str → Option Value} {led : List (Addr × Obj)} (nx : List (Addr × Obj))
    (F : Fr hb C h' m') (N : News hb C h' led) (hI : (I, io) ∈ led) (hD : (D, lo) ∈ led) (hn : ∀ p ∈ nx, p ∈ led ∧ p.1 ≠ I ∧ p.1 ≠ D) (hj : J ys nx) : SkipEnd hb C J ys I io D lo s { s with heap := h', toks := tk } := ⟨h', tk, m', led, nx, rfl, F, N, hI, hD, hn, hj⟩
/-- a turn of a comprehension without tests -/
theorem no_tests {prog : Program} {w : World} {A : Around} {cenv : Env} {Q : Bool → Shared → Prop} {s : Shared} (h : Q true s) : wpAny (model prog w) A (testsOf [] cenv) Q Nope s := wpAny_pure h
section
variable {prog : Program} {w : World} {A : Around} {s : Shared} {env : Env} {scope : Scope} {cl : List (Str × Addr)} {x : Str} {ifs : List Expr} {elt : Expr} {Q : Value → Shared → Prop}
theorem none_above {g : Heap} {a : Addr} (ha : g.objs.size ≤ a) : g.get? a = none := by
  cases e : g.get? a with
  | none => rfl
  | some o' => exact absurd (Heap.lt_size e) (Nat.not_lt.mpr ha)
/-- what a turn of a comprehension must do -/
noncomputable abbrev Turn (prog : Program) (w : World) (A : Around) (env : Env) (scope : Scope) (cl : List (Str × Addr)) (x : Str) (ifs : List Expr) (elt : Expr) (s : Shared) (n : Nat) (P : Nat → Value → Prop) (J : Nat → List Value → List (Addr × Obj) → Prop) : Prop :=
  ∀ (C D I : Addr) (i : Nat) (v : Value) (ys : List Value) (nx : List (Addr × Obj)) (m : Str → Option Value) (h : Heap) (tk : Nat) (io lo : Obj), s.toks ≤ tk → i < n → P i v → J i ys nx → (∀ p ∈ nx, p.1 ≠ I ∧ p.1 ≠ D) → D ≠ I →
    Fr s.heap C h (fun y => if y = x then some v else m y) → News s.heap C h ((I, io) :: (D, lo) :: nx) →
    wpAny (model prog w) A (testsOf ifs (compEnvC scope cl C env)) (fun ok s₃ => if ok = true then wpAny (model prog w) A (eval elt (compEnvC scope cl C env)) (ElemEnd s.heap C (J (i + 1)) ys I io D lo s) Nope s₃ else SkipEnd s.heap C (J (i + 1)) ys I io D lo s s₃) Nope { s with heap := h, toks := tk }
noncomputable abbrev Done (s : Shared) (n : Nat) (J : Nat → List Value → List (Addr × Obj) → Prop) (Q : Value → Shared → Prop) : Prop :=
  ∀ (D : Addr) (h' : Heap) (tk : Nat) (ys : List Value) (nx : List (Addr × Obj)) (e : Nat), s.toks ≤ tk → Stays s.heap h' → h'.get? D = some (listOf ys.toArray e) → s.heap.get? D = none → (∀ p ∈ nx, h'.get? p.1 = some p.2 ∧ s.heap.get? p.1 = none ∧ p.1 ≠ D) → J n ys nx → Q (.ref D) { s with heap := h', toks := tk }
theorem comp_src {io₀ : Obj} {fp : List Addr} {n : Nat} {P : Nat → Value → Prop} {St : Nat → Heap → Prop} {J : Nat → List Value → List (Addr × Obj) → Prop}
    (W : Walks prog w A s.heap.objs.size fp [s.heap.objs.size] n P St) (hsz : n ≤ sizeLine) (hfr : io₀.isFreed = false) (hfs : ∀ b ∈ fp, b = s.heap.objs.size ∨ ∃ o, s.heap.get? b = some o) (hIh : ∀ i h, St i h → ∃ o, h.get? s.heap.objs.size = some o) (hst : St 0 (s.heap.push io₀))
    (h0 : J 0 [] []) (turn : Turn prog w A env scope cl x ifs elt s n P J) (done : Done s n J Q) :
    CompAt prog w A env scope cl x ifs elt Q (.ref s.heap.objs.size) { s with heap := s.heap.push io₀ } := by
  refine ⟨s.heap, s.heap.objs.size, fp, n, P, St, J, rfl, W, hsz, none_above (Nat.le_refl _), fun b o e => Heap.get?_push_of_some _ e, by show _ ≤ (s.heap.push io₀).objs.size; rw [Heap.size_push]; exact Nat.le_succ _, fun b hb => ?_, hfs, hIh, hst, h0, fun C D => ?_, done⟩
  · show b < (s.heap.push io₀).objs.size
    rw [Heap.size_push]
    rcases hfs b hb with rfl | ⟨o, e⟩
    · exact Nat.lt_succ_self _
    · exact Nat.lt_succ_of_lt (Heap.lt_size e)
  · intro i v ys nx m h tk io lo htk hi hP hJ hnx hDI F N
    exact turn C D _ i v ys nx m h tk io lo htk hi hP hJ hnx hDI F N
theorem comp_list {l : Addr} {vs : List Value} {k : Nat} (J : Nat → List Value → List (Addr × Obj) → Prop) (hh : A.handled = none) (hl : s.heap.get? l = some { cls := .type "list", data := .seq vs.toArray k }) (hsz : vs.length ≤ sizeLine)
    (h0 : J 0 [] []) (turn : Turn prog w A env scope cl x ifs elt s vs.length (fun i v => vs[i]? = some v) J) (done : Done s vs.length J Q) :
    wpAny (model prog w) A (pyIter (.ref l)) (fun it s₂ => CompAt prog w A env scope cl x ifs elt Q it s₂) Nope s := by
  have hls : s.heap.IsList l vs.toArray := ⟨_, hl, rfl, k, rfl⟩
  have hne : l ≠ s.heap.objs.size := Nat.ne_of_lt (Heap.lt_size hl)
  refine wpAny_pyIter_list hls ?_
  have W := Walks.list (prog := prog) (w := w) hh s.heap.objs.size l hne vs.toArray
  refine comp_src W (by simpa using hsz) rfl ?_ ?_ ⟨⟨_, Heap.get?_push_size _ rfl, rfl, rfl⟩, hls.at fun o e => Heap.get?_push_of_some _ e⟩ h0 ?_ ?_
  · intro b hb
    rcases List.mem_cons.mp hb with e | hb
    · exact .inl e
    · rw [List.mem_singleton.mp hb]; exact .inr ⟨_, hl⟩
  · rintro i h ⟨⟨o, ho, _⟩, _⟩
    exact ⟨o, ho⟩
  · intro C D I i v ys nx m h tk io lo htk hi hP hJ hnx hDI F N
    exact turn C D I i v ys nx m h tk io lo htk (by simpa using hi) (by simpa using hP) hJ hnx hDI F N
  · intro D h' tk ys nx e htk st hD hD0 hnx hJ
    exact done D h' tk ys nx e htk st hD hD0 hnx (by simpa using hJ)
theorem comp_tup {l : Addr} {vs : List Value} {k : Nat} (J : Nat → List Value → List (Addr × Obj) → Prop) (hh : A.handled = none) (hl : s.heap.get? l = some { cls := .type "tuple", data := .seq vs.toArray k }) (hsz : vs.length ≤ sizeLine)
    (h0 : J 0 [] []) (turn : Turn prog w A env scope cl x ifs elt s vs.length (fun i v => vs[i]? = some v) J) (done : Done s vs.length J Q) :
    wpAny (model prog w) A (pyIter (.ref l)) (fun it s₂ => CompAt prog w A env scope cl x ifs elt Q it s₂) Nope s := by
  have hls : s.heap.IsTuple l vs.toArray := ⟨_, hl, rfl, k, rfl⟩
  have hne : l ≠ s.heap.objs.size := Nat.ne_of_lt (Heap.lt_size hl)
  refine wpAny_pyIter_tuple hls ?_
  have W := Walks.tuple (prog := prog) (w := w) hh s.heap.objs.size l hne vs.toArray
  refine comp_src W (by simpa using hsz) rfl ?_ ?_ ⟨⟨_, Heap.get?_push_size _ rfl, rfl, rfl⟩, hls.at fun o e => Heap.get?_push_of_some _ e⟩ h0 ?_ ?_
  · intro b hb
    rcases List.mem_cons.mp hb with e | hb
    · exact .inl e
    · rw [List.mem_singleton.mp hb]; exact .inr ⟨_, hl⟩
  · rintro i h ⟨⟨o, ho, _⟩, _⟩
    exact ⟨o, ho⟩
  · intro C D I i v ys nx m h tk io lo htk hi hP hJ hnx hDI F N
    exact turn C D I i v ys nx m h tk io lo htk (by simpa using hi) (by simpa using hP) hJ hnx hDI F N
  · intro D h' tk ys nx e htk st hD hD0 hnx hJ
    exact done D h' tk ys nx e htk st hD hD0 hnx (by simpa using hJ)
theorem comp_range {r : Addr} {a c : Int} {b : Int} {t u v : Tok} {n : Nat} (J : Nat → List Value → List (Addr × Obj) → Prop) (hh : A.handled = none) (hr : IsRange s.heap r a b c t u v) (hsm : Builtin.Range.small a b c = true) (hn : Builtin.Range.rangeSize a b c = (n : Int)) (hsz : n ≤ sizeLine)
    (h0 : J 0 [] []) (turn : Turn prog w A env scope cl x ifs elt s n (fun i v => ∃ t, v = .int (a + (i : Int) * c) t) J) (done : Done s n J Q) :
    wpAny (model prog w) A (pyIter (.ref r)) (fun it s₂ => CompAt prog w A env scope cl x ifs elt Q it s₂) Nope s := by
  refine wpAny_pyIter_range hr hsm ?_
  have W := Walks.range (prog := prog) (w := w) hh s.heap.objs.size a c n
  refine comp_src W hsz rfl ?_ ?_ (by show IsRangeIter _ _ _ _ _; rw [hn]; simpa using Heap.get?_push_size _ rfl) h0 turn done
  · intro b hb
    exact .inl (List.mem_singleton.mp hb)
  · intro i h ho
    exact ⟨_, ho⟩
end
theorem nmN {M : Model} {A : Around} {E : Value → Shared → Prop} {s : Shared} {env : Env} {x : Str} {pos : Pos} {v : Value} {Q : Value → Shared → Prop} {h₀ : Heap} {L : Addr} {c : Addr} {o : Obj} {news : List (Addr × Obj)} (N : News h₀ L s.heap news) (hk : env.scope.kind = .function) (hl : env.kindOf x = some .cell) (hd : (x == ("__debug__" : Str)) = false) (hc : env.cells.lookup x = some c) (hm : (c, o) ∈ news) (hv : o.data = .cell (some v)) (h : Q v s) :
    wpAny M A (eval (.Name x pos) env) Q E s := wpAny_Name (wpAny_loadName_cell hk hl hc ⟨o, N.get hm, hv⟩ h) hd
local macro_rules | `(tactic| walk_at "nm") => `(tactic| first
  | (refine' nmG _ _ _ _ _ _ _ _ _; rotate_left 8; walk_at "n4"; (· exact rfl); walk_at "nX"; k_whole)
  | (refine' nmB _ _ _ _ _ _ _ _ _ _ _ _; rotate_left 8; walk_at "n4"; (· exact rfl); walk_at "nX"; (· exact rfl); (· boot_by_name); (· decide); k_whole))
local macro_rules | `(tactic| walk_at "nX") => `(tactic| ((· k_asm); (· k_asm); (· k_is)))
local macro_rules | `(tactic| walk_at "eval Name") => `(tactic| (k_here; (with_reducible show wpAny _ _ (eval _ (compEnvC _ _ _ _)) _ _ _); k_dflt (first
  | walk_at "nmL"
  | (refine' nmC _ _ _ _ _ _ _ _; rotate_left 5; walk_at "n4"; (· exact rfl); (· assumption); (· assumption); k_whole)
  | walk_at "nm")))


theorem calm_M13 : True := by
  w_top off
  trivial
section
open PySem PySem.W PySem.W.X PyProof.Rows PySem.Calls
section
variable {w : World} {d : Nat} {E : Value → Shared → Prop} {s : Shared} {p : Program} {loose : List Str} {mean : ExcName → Option Value} {mg mb : Str → Option Value} {K : Frag} {Q : Value → Shared → Prop}
/-- into a def that has cell variables -/
theorem enterC {name qual : Str} {params : Arguments} {body : List Stmt} {scope : Scope} {dV kV doc pm cdv ct oc : Value} {an od : Option Addr} {osl : Array (Option Value)} {f : Addr} {vals : List Value} {binds : List (Str × Value)}
    (hroom : d + 400 < recursionLimit) (X : K.In s.heap) (T : Top p loose mean mg mb s.heap)
    (ho : K.lookup f = some ⟨oc, od, .func (fnOf name qual params body scope dV kV doc pm an cdv ct), osl⟩) (hcd : codeIn K cdv qual = true)
    (hbind : BindsTo s (fnOf name qual params body scope dV kV doc pm an cdv ct) ⟨vals, []⟩ binds)
    (hkind : ∀ n, ∀ x ∈ binds, scope.names.lookup x.1 = some .local ∨ (scope.names.lookup x.1 = some .cell ∧ ((cellsFrom n scope.names []).lookup x.1).isSome = true))
    (hnd : ((cellsFrom 0 scope.names []).map (·.1)).Nodup)
    (hco : scope.isCoroutine = false) (hgen : scope.isGenerator = false) (hk : scope.kind = .function)
    (h : ∀ L h₁ tk cells, Fr s.heap L h₁ (bindL (envOfC qual scope L f cdv).kindOf binds fun _ => none) → News s.heap L h₁ cells → CellsAre (bindC (envOfC qual scope L f cdv).kindOf binds fun _ => none) (cellsFrom (L + 1) scope.names []) cells →
      wpAny (model pw w) ((AA d).deeper (envOfC qual scope L f cdv)) (execs body (envOfC qual scope L f cdv))
        (fun fl s' => Q (match fl with | .ret v => v | _ => .none) s') (fun _ _ => False)
        { s with heap := h₁, toks := tk }) :
    wpAny (model pw w) (AA d) (call (.ref f) vals) Q (fun _ _ => False) s := by
  refine wpAny_call (codeAny_call_function (fd := fnOf name qual params body scope dV kV doc pm an cdv ct) hroom (X _ _ ho) rfl hco hgen rfl (codeRec_of X hcd) (hbind _ _ _ _ ?_))
  refine wpAny_newFunctionEnv_cells hk (hkind _) fun env' he s' x => ?_
  subst he
  refine ⟨T.nolimit.keeps x.toInCall.keep, codeAny_func ?_⟩
  obtain ⟨h₁, tk, rfl, _⟩ := x.done
  have hk₁ := x.toInCall.keep
  obtain ⟨cells, NC, Y⟩ := Cl.news (h₀ := s.heap) (Nat.le_refl _) fun n c hm => ⟨x.cell n c (lookup_of_mem_nodup (cellsFrom_names scope.names 0 (s.heap.objs.size + 1) [] [] rfl ▸ hnd) hm), x.above n c hm⟩
  exact wpAny_mono (h s.heap.objs.size h₁ tk cells ⟨x.toInCall.ns, fun b o e => hk₁ b o e, Nat.le_refl _⟩ NC Y) (fun _ _ x => x) (fun _ _ x => x.elim)
end
theorem item_at {prog : Program} {w : World} {A : Around} {s : Shared} {E : Value → Shared → Prop} {value slice : Expr} {l : Addr} {items : Array Value} {v : Value} {i : Int} {u : Tok} {Q : Value → Shared → Prop} (hl : s.heap.IsList l items) (h0 : 0 ≤ i) (h1 : i < 2 ^ 63) (hx : items[i.toNat]? = some v) (h : Q v s)
    (hs : subscripted slice false (.ref l) (.int i u) = operate [.ref l, .int i u] (getItem (.ref l) (.int i u))) (hg : ∀ r, letTemporaryGo value (.ref l) r = pure ()) :
    wpAny (model prog w) A (subscriptTail value slice (.ref l) (.int i u)) Q E s :=
  subscriptTail_builtin hl.typeIs slot_list_getitem.lookup (wpAny_getItem_list hl h0 h1 hx h) hs hg
noncomputable def kinds10 : List Str := [Str.ofString "a", Str.ofString "a-", Str.ofString "..", Str.ofString "a", Str.ofString "a-", Str.ofString ".//", Str.ofString "a", Str.ofString "a-", Str.ofString "..", Str.ofString "/a-"]
noncomputable def piecePy (c : Int) (k : Nat) : Str := kinds10.getD (((c.fdiv ((10 : Int) ^ k)).fmod 10).toNat) (Str.ofString "")
theorem kinds_at (q : Int) (h0 : 0 ≤ q) (h1 : q < 10) (a b c d e f g h i j : Tok) : ∃ t, (#[.str (Str.ofString "a") a, .str (Str.ofString "a-") b, .str (Str.ofString "..") c, .str (Str.ofString "a") d, .str (Str.ofString "a-") e, .str (Str.ofString ".//") f, .str (Str.ofString "a") g, .str (Str.ofString "a-") h, .str (Str.ofString "..") i, .str (Str.ofString "/a-") j] : Array Value)[q.toNat]? = some (.str (kinds10.getD q.toNat (Str.ofString "")) t) := by
  have : q = 0 ∨ q = 1 ∨ q = 2 ∨ q = 3 ∨ q = 4 ∨ q = 5 ∨ q = 6 ∨ q = 7 ∨ q = 8 ∨ q = 9 := by omega
  rcases this with rfl | rfl | rfl | rfl | rfl | rfl | rfl | rfl | rfl | rfl <;> exact ⟨_, rfl⟩
theorem fmod10 (x : Int) : 0 ≤ x.fmod 10 ∧ x.fmod 10 < 10 := by
  rw [Int.fmod_eq_emod_of_nonneg _ (by decide)]; omega
noncomputable def piecesPy (c : Int) : List Str := (List.range 5).map (piecePy c)
local macro_rules | `(tactic| walk_at "eval ListComp") => `(tactic| walk_at "H")
set_option maxRecDepth 100000 in
set_option maxHeartbeats 8000000 in
theorem pieces_c (w : World) {s : Shared} {p : Program} {loose : List Str} {mean : ExcName → Option Value} {mg mb : Str → Option Value} (KX : (Mine.KK w.params).In s.heap) (T : Top p loose mean mg mb s.heap) (c : Int) (t : Tok) :
   Call w 100 (.ref 232) [.int c t] (fun h r => StrsL s.heap h r (piecesPy c)) s := by
  k_dflt (refine' enterC (binds := [(Str.ofString "cell", .int c t)]) ?k1 ?k2 ?k3 ?k4 ?k5 ?k6 ?k7 ?k8 ?k9 ?k10 ?k11 ?_; (case k1 => decide); (case k2 => k_asm); (case k3 => k_asm); (case k4 => k_is); (case k5 => k_is); (case k6 => exact .of_eq rfl); (case k7 => (intro n y hy; rw [List.mem_singleton.mp hy]; exact .inr ⟨rfl, rfl⟩)); (case k8 => decide +kernel); (case k9 => exact rfl); (case k10 => exact rfl); (case k11 => exact rfl); k_whole)
  intro L' h' tk' cells' F' N' Y'
  obtain ⟨o1, o2, rfl, d1, d2⟩ := CellsAre.two Y'
  replace d1 : o1.data = .cell none := d1
  replace d2 : o2.data = .cell (some (.int c t)) := d2
  replace F' : Fr s.heap L' h' (lk []) := F'
  clear Y'
  (try dsimp only); dsimp only [S.p, S.sep, S.i, S.head, S.tail, S.fspath, S.uugetusep, S.len, S.rfind, S.rstrip, S.a, S.b, S.path, S.startswith, S.endswith, S.join, S.TypeError, S.AttributeError, S.BytesWarning, S.uucheckuargutypes, S.isinstance, S.bytes, S.empty, S.splitroot, S.normpath, S.dot, S.dotdot, S.uu, S.initial_slashes, S.comps, S.new_comps, S.comp, S.split, S.append, S.pop, S.paths, S.tuple, S.map, S.ValueError, S.split_paths, S.isabs, S.s, S.c, S.curdir, S.s1, S.s2, S.common, S.enumerate, S.min, S.max, S.prefix, S.commonpath, S.count, S.K, S.mycmp, S.obj, S.other, S.self, S.function, S.sequence, S.initial, S.uuinitialumissing, S.it, S.iter, S.value, S.next, S.StopIteration, S.element, S.reduce, S.cell, S.kinds, S.k, S.range, S.uulawupieces, S.pair, S.piece, S.n, S.d, S.add, S.sub, S.uulawustep, S.names, S.uulawunames, S.place, S.uulawuupward, S.replace, S.name, S.one, S.uulawuacross, S.mul, S.low, S.high, S.uulawusimplest, S.uulawumeet, S.script, S.key, S.places, S.sides, S.cmp_to_key, S.pieces, S.sum, S.crooked, S.values, S.keys, S.countOf, S.j, S.x, S.y, S.t, S.told, S.due, S.lt, S.le, S.eq, S.ne, S.ge, S.gt, S.m, S.mask, S.chosen, S.row, S.sorted, S.lowest, S.some, S.os]; (try k_fold)
  k_steps
  show wpAny _ _ _ _ _ _
  refine comp_own rfl (by decide) rfl (by decide) rfl ?_
  k_steps
  show wpAny _ _ _ _ _ _
  rename IsRange _ _ _ _ _ _ _ _ => hr
  rename Fr _ _ _ _ => F
  rename News _ _ _ _ => N
  have hkl := (N _ (.head _)).1
  have hk2 := (N _ (.tail _ (.head _))).1
  have hk1 := (N _ (.tail _ (.tail _ (.head _)))).1
  dsimp only at hkl hk2 hk1
  have KX1 := KX.keeps F.keep
  have T1 := T.keeps F.keep
  refine comp_range (n := 5) (fun i ys nx => ∃ ts, ys = sv ts ∧ ts.map (·.1) = (List.range i).map (piecePy c) ∧ nx = []) rfl hr rfl rfl (by decide) ⟨[], rfl, rfl, rfl⟩ ?_ ?_
  · rintro C D I i v ys nx m h tk io lo htk hi ⟨tv, rfl⟩ ⟨ts, rfl, hts, rfl⟩ - hDI F1 N1
    replace F1 : Fr _ C h _ := F1
    replace N1 : News _ C h _ := N1
    refine no_tests ?_
    rw [if_pos rfl]
    have hid := Hid.mk hts
    have : i = 0 ∨ i = 1 ∨ i = 2 ∨ i = 3 ∨ i = 4 := by omega
    rcases this with rfl | rfl | rfl | rfl | rfl
    · rw [show (0 + ((0 : Nat) : Int) * 1) = 0 from rfl] at F1
      clear hts hr
      k_steps
      obtain ⟨tz, hz⟩ := kinds_at ((c.fdiv ((10 : Int) ^ 0)).fmod 10) (fmod10 _).1 (fmod10 _).2 _ _ _ _ _ _ _ _ _ _
      refine item_at (i := (c.fdiv ((10 : Int) ^ 0)).fmod 10) ⟨_, F1.keep _ _ hkl, rfl, 0, rfl⟩ (fmod10 _).1 (Int.lt_trans (fmod10 _).2 (by decide)) hz ?_ rfl (by intro _; rfl)
      refine' ElemEnd.intro [] ?F ?N (.head _) (.tail _ (.head _)) ?S ?J
      case F => assumption
      case N => assumption
      case S => exact fun _ h => nomatch h
      case J => exact ⟨ts ++ [(piecePy c 0, tz)], by rw [sv, sv, List.map_append]; rfl, by rw [List.map_append, hid.out]; rfl, rfl⟩
    · rw [show (0 + ((1 : Nat) : Int) * 1) = 1 from rfl] at F1
      clear hts hr
      k_steps
      obtain ⟨tz, hz⟩ := kinds_at ((c.fdiv ((10 : Int) ^ 1)).fmod 10) (fmod10 _).1 (fmod10 _).2 _ _ _ _ _ _ _ _ _ _
      refine item_at (i := (c.fdiv ((10 : Int) ^ 1)).fmod 10) ⟨_, F1.keep _ _ hkl, rfl, 0, rfl⟩ (fmod10 _).1 (Int.lt_trans (fmod10 _).2 (by decide)) hz ?_ rfl (by intro _; rfl)
      refine' ElemEnd.intro [] ?F ?N (.head _) (.tail _ (.head _)) ?S ?J
      case F => assumption
      case N => assumption
      case S => exact fun _ h => nomatch h
      case J => exact ⟨ts ++ [(piecePy c 1, tz)], by rw [sv, sv, List.map_append]; rfl, by rw [List.map_append, hid.out]; rfl, rfl⟩
    · rw [show (0 + ((2 : Nat) : Int) * 1) = 2 from rfl] at F1
      clear hts hr
      k_steps
      obtain ⟨tz, hz⟩ := kinds_at ((c.fdiv ((10 : Int) ^ 2)).fmod 10) (fmod10 _).1 (fmod10 _).2 _ _ _ _ _ _ _ _ _ _
      refine item_at (i := (c.fdiv ((10 : Int) ^ 2)).fmod 10) ⟨_, F1.keep _ _ hkl, rfl, 0, rfl⟩ (fmod10 _).1 (Int.lt_trans (fmod10 _).2 (by decide)) hz ?_ rfl (by intro _; rfl)
      refine' ElemEnd.intro [] ?F ?N (.head _) (.tail _ (.head _)) ?S ?J
      case F => assumption
      case N => assumption
      case S => exact fun _ h => nomatch h
      case J => exact ⟨ts ++ [(piecePy c 2, tz)], by rw [sv, sv, List.map_append]; rfl, by rw [List.map_append, hid.out]; rfl, rfl⟩
    · rw [show (0 + ((3 : Nat) : Int) * 1) = 3 from rfl] at F1
      clear hts hr
      k_steps
      obtain ⟨tz, hz⟩ := kinds_at ((c.fdiv ((10 : Int) ^ 3)).fmod 10) (fmod10 _).1 (fmod10 _).2 _ _ _ _ _ _ _ _ _ _
      refine item_at (i := (c.fdiv ((10 : Int) ^ 3)).fmod 10) ⟨_, F1.keep _ _ hkl, rfl, 0, rfl⟩ (fmod10 _).1 (Int.lt_trans (fmod10 _).2 (by decide)) hz ?_ rfl (by intro _; rfl)
      refine' ElemEnd.intro [] ?F ?N (.head _) (.tail _ (.head _)) ?S ?J
      case F => assumption
      case N => assumption
      case S => exact fun _ h => nomatch h
      case J => exact ⟨ts ++ [(piecePy c 3, tz)], by rw [sv, sv, List.map_append]; rfl, by rw [List.map_append, hid.out]; rfl, rfl⟩
    · rw [show (0 + ((4 : Nat) : Int) * 1) = 4 from rfl] at F1
      clear hts hr
      k_steps
      obtain ⟨tz, hz⟩ := kinds_at ((c.fdiv ((10 : Int) ^ 4)).fmod 10) (fmod10 _).1 (fmod10 _).2 _ _ _ _ _ _ _ _ _ _
      refine item_at (i := (c.fdiv ((10 : Int) ^ 4)).fmod 10) ⟨_, F1.keep _ _ hkl, rfl, 0, rfl⟩ (fmod10 _).1 (Int.lt_trans (fmod10 _).2 (by decide)) hz ?_ rfl (by intro _; rfl)
      refine' ElemEnd.intro [] ?F ?N (.head _) (.tail _ (.head _)) ?S ?J
      case F => assumption
      case N => assumption
      case S => exact fun _ h => nomatch h
      case J => exact ⟨ts ++ [(piecePy c 4, tz)], by rw [sv, sv, List.map_append]; rfl, by rw [List.map_append, hid.out]; rfl, rfl⟩
  · rintro D h1 tk1 ys nx e - st1 hD hD0 - ⟨ts, rfl, hts, rfl⟩
    refine ⟨h1, tk1, rfl, Stays.trans F.keep st1, D, ts, e, rfl, hD, ?_, hts⟩
    cases q : s.heap.get? D with
    | none => rfl
    | some o => exact absurd ((F.keep _ _ q).symm.trans hD0) (by simp)

end
theorem calm_M14a : True := by
  w_top off
  trivial
section
open PySem PySem.W PySem.W.X PyProof.Rows PySem.Calls
theorem slot_map_next : Slot "map" "__next__" "map.__next__" :=
  .of (owner := "map") (n := "__next__") (by rw [typeLookup_type, builtinLookup_eq_fast]; kernel_rfl) (by decide +kernel) (by decide +kernel) (by decide +kernel)
    (by first | exact .inl (by decide +kernel) | exact .inr (by decide +kernel)) (by rw [isSubtype_type]; kernel_rfl)
theorem entry_map_next : entryFor table "map.__next__" = some Builtin.«map.__next__» := entryFor_of_fast (by kernel_rfl)
theorem args_map_next (a : Value) : argsOk "map.__next__" ⟨[a], []⟩ := by unfold argsOk; kernel_rfl
theorem map_no_len : typeLookup (.type "map") "__len__" = pure none := by rw [typeLookup_type, builtinLookup_eq_fast]; kernel_rfl
theorem map_no_hint : typeLookup (.type "map") "__length_hint__" = pure none := by rw [typeLookup_type, builtinLookup_eq_fast]; kernel_rfl
theorem slot_map_iter : Slot "map" "__iter__" "map.__iter__" := .of (owner := "map") (n := "__iter__") (by rw [typeLookup_type, builtinLookup_eq_fast]; kernel_rfl) (by decide +kernel) (by decide +kernel) (by decide +kernel)
    (by first | exact .inl (by decide +kernel) | exact .inr (by decide +kernel)) (by rw [isSubtype_type]; kernel_rfl)
theorem entry_map_iter : entryFor table "map.__iter__" = some Builtin.«dict_keyiterator.__iter__» :=
  entryFor_alias (id' := "dict_keyiterator.__iter__") (by kernel_rfl) (by first | rfl | decide +kernel | (unfold String.splitOn; simp +decide [String.splitOnAux])) (by decide +kernel) (by kernel_rfl)
theorem args_map_iter (a : Value) : argsOk "map.__iter__" ⟨[a], []⟩ := by unfold argsOk; kernel_rfl
structure MapSt (K : Frag) (f : Value) (M tup It l : Addr) (vs : List Value) (i : Nat) (s : Shared) : Prop where
  m : ∃ o, s.heap.get? M = some o ∧ o.cls = .type "map" ∧ o.data = .fields #[.ref tup, f]
  t : s.heap.IsTuple tup #[.ref It]
  it : s.heap.IsListIter It l i
  ls : s.heap.IsList l vs.toArray
  kk : K.In s.heap
theorem lookup_mem {K : Frag} {a : Addr} {o : Obj} (h : K.lookup a = some o) : a ∈ K.map (·.1) := by
  induction K with
  | nil => cases h
  | cons p K ih =>
    obtain ⟨k, v⟩ := p
    rw [List.lookup_cons] at h
    by_cases e : a = k
    · rw [e]; exact List.mem_cons_self
    · rw [beq_eq_false_iff_ne.mpr e] at h
      exact List.mem_cons_of_mem _ (ih h)
theorem map_walks {K : Frag} {f : Value} {M tup It l : Addr} {vs : List Value} {w : World} {A : Around} (R : Rm A 200) (hM : M ≠ It) (ht : tup ≠ It) (hl : l ≠ It) (hK : K.lookup It = none)
    (hf : ∀ s v, v ∈ vs → K.In s.heap → Call w 300 f [v] (fun _ r => r = v) s) :
    WalksS pw w A M (M :: tup :: It :: l :: K.map (·.1)) [It] (fun a b => b = a) vs.length (fun i v => vs[i]? = some v) (MapSt K f M tup It l vs) where
  sub := fun b hb => by rw [List.mem_singleton.mp hb]; simp
  grefl := fun _ => rfl
  gtrans := fun a b c x y => y.trans x
  frame := fun i s h' tk st _ hk => by
    obtain ⟨⟨o, ho, hc, hd⟩, t, it, ls, kk⟩ := st
    exact ⟨⟨o, hk _ (by simp) _ ho, hc, hd⟩, t.at fun o e => hk _ (by simp) o e, it.at fun o e => hk _ (by simp) o e, ls.at fun o e => hk _ (by simp) o e, fun a o e => hk a (by simp only [List.mem_cons]; right; right; right; right; exact lookup_mem e) o (kk a o e)⟩
  item := fun i s Q E hi st hQ => by
    obtain ⟨⟨o, ho, hc, hd⟩, t, it, ls, kk⟩ := st
    have hT : s.TypeIs (.ref M) "map" := ⟨o, ho, hc⟩
    have hx : vs.toArray[i]? = some vs[i] := by simp [hi]
    have hv : vs[i]? = some vs[i] := by simp [hi]
    obtain ⟨ot, hot, hct, nt, hdt⟩ := id t
    unfold pyNext
    refine wpAny_bind (wpAny_attempt (wpAny_callSpecial?_slot (name := Str.ofString "__next__") hT slot_map_next (wpAny_call_entry slot_map_next hT entry_map_next ?_ (args_map_next _))))
    show wpAny _ _ (field (.ref M) 0 >>= _) _ _ s
    refine wpAny_bind (wpAny_field ho hd (x := .ref tup) rfl ?_)
    show wpAny _ _ (seqItems? (.ref tup) >>= _) _ _ s
    refine wpAny_bind (wpAny_seqItems hot hdt ?_)
    dsimp only
    simp only [List.forIn_cons, List.forIn_nil, List.forIn_toArray]
    refine wpAny_bind (wpAny_bind (wpAny_bind (wpAny_holding (wpAny_nextOf_list_item it ls hx fun h' hit' hs' => wpAny_pure (wpAny_pure ?_)))))
    have ho' : h'.get? M = some o := (hs'.2 _ hM).trans ho
    have kk' : K.In h' := fun a oa e => (hs'.2 a (fun q => by rw [q, hK] at e; cases e)).trans (kk a oa e)
    refine wpAny_bind (wpAny_field ho' hd (x := f) rfl ?_)
    refine wpAny_bind (wpAny_holding ?_)
    show wpAny _ _ (call f [vs[i]]) _ _ _
    refine toks_up s.toks (by exact Nat.le_refl _) (wpAny_mono (around_le (Rm.le R.in1 (by decide)) (hf { s with heap := h' } vs[i] (List.getElem_mem hi) kk')) ?_ (fun _ _ x => x.elim))
    rintro r s1 ⟨h1, t1, rfl, st1, rfl⟩ htk
    refine wpAny_bind (wpAny_letGo (wpAny_pure ⟨_, rfl, wpAny_pure (hQ _ _ hv ⟨⟨o, st1 _ _ ho', hc, hd⟩, ?_, ?_, ?_, fun a oa e => st1 _ _ (kk' a oa e)⟩ ⟨?_, rfl, rfl, rfl, ?_⟩)⟩))
    · exact t.at fun o e => st1 _ _ ((hs'.2 _ ht).trans e)
    · exact hit'.at fun o e => st1 _ _ e
    · exact ls.at fun o e => st1 _ _ ((hs'.2 _ hl).trans e)
    · exact fun b o hb e => st1 _ _ ((hs'.2 b (by simpa using hb)).trans e)
    · exact htk
  done := fun s Q E st hQ => by
    obtain ⟨⟨o, ho, hc, hd⟩, t, it, ls, kk⟩ := st
    have hT : s.TypeIs (.ref M) "map" := ⟨o, ho, hc⟩
    have hx : vs.toArray[vs.length]? = none := by simp
    obtain ⟨ot, hot, hct, nt, hdt⟩ := id t
    unfold pyNext
    refine wpAny_bind (wpAny_attempt (wpAny_callSpecial?_slot (name := Str.ofString "__next__") hT slot_map_next (wpAny_call_entry slot_map_next hT entry_map_next ?_ (args_map_next _))))
    show wpAny _ _ (field (.ref M) 0 >>= _) _ _ s
    refine wpAny_bind (wpAny_field ho hd (x := .ref tup) rfl ?_)
    show wpAny _ _ (seqItems? (.ref tup) >>= _) _ _ s
    refine wpAny_bind (wpAny_seqItems hot hdt ?_)
    dsimp only
    simp only [List.forIn_cons, List.forIn_nil, List.forIn_toArray]
    refine wpAny_bind (wpAny_bind (wpAny_bind (wpAny_holding (wpAny_nextOf_list_end R.hh it ls hx fun h' e he' hx' => ?_))))
    obtain ⟨oe, hoe, hce⟩ := hx'
    refine wpAny_bind (wpAny_isInstance (T := "StopIteration") (b := true) ⟨oe, hoe, hce⟩ isSubtype_stop ?_)
    exact wpAny_pure (hQ _ ⟨fun b o hb e => he' b o (by simpa using hb) e, rfl, rfl, rfl, Nat.le_refl _⟩)
  self := fun i s Q E st hQ => by
    obtain ⟨⟨o, ho, hc, hd⟩, t, it, ls, kk⟩ := st
    have hT : s.TypeIs (.ref M) "map" := ⟨o, ho, hc⟩
    refine wpAny_pyIter_slot hT slot_map_iter (wpAny_call_entry slot_map_iter hT entry_map_iter ?_ (args_map_iter _))
    show wpAny _ _ (ret (.ref M)) _ _ s
    exact wpAny_pure ⟨_, rfl, "map", _, hT, slot_map_next.lookup, hQ⟩
section
variable {prog : Program} {w : World} {A : Around} {E : Value → Shared → Prop} {s : Shared} {I : Addr} {fp wr : List Addr} {G : Array GenState → Array GenState → Prop} {n : Nat} {P : Nat → Value → Prop} {St : Nat → Shared → Prop}
/-- what a map still has, in one list -/
theorem collect_map {Q : List Value → Shared → Prop} (W : WalksS prog w A.in1 I fp wr G n P St) (hT : ∀ i s, St i s → s.TypeIs (.ref I) "map") (hst : St 0 s) (hfp : ∀ b ∈ fp, b < s.heap.objs.size) (hI : I ∈ fp) (hn : n ≤ sizeLine)
    (hQ : ∀ s' acc, Moved wr G s s' → ItemsOf P acc n → Q acc.toList s') : wpAny (model prog w) A (collect (.ref I)) Q E s := by
  have hnew : s.heap.objs.size ∉ fp := fun hm => Nat.lt_irrefl _ (hfp _ hm)
  have hne : s.heap.objs.size ≠ I := fun e => hnew (e ▸ hI)
  generalize ho : ({ cls := .type "list", data := .seq ([] : List Value).toArray } : Obj) = o₀
  have same : Builtin.List.listSameRef (.ref s.heap.objs.size) (.ref I) = false := by simp [Builtin.List.listSameRef, hne]
  unfold collect
  refine wpAny_bind (wpAny_runValue (codeAny_builtin F.entry_proto_collect ?_))
  rw [Around.under_plainId F.plain_proto_collect _]
  show wpAny _ A.in1 (newList [] >>= fun l => again (.builtin "list.__iadd__" ⟨[l, .ref I], []⟩)) _ _ s
  refine wpAny_bind (wpAny_newObj_type ?_)
  rw [ho]
  refine wpAny_pure ⟨plainId_quiet F.plain_list_iadd _, codeAny_builtin F.entry_list_iadd ?_⟩
  rw [Around.under_plainId F.plain_list_iadd _]
  have st1 := W.frame 0 s (s.heap.push o₀) s.toks hst (Nat.le_refl _) fun b _ o e => Heap.get?_push_of_some _ e
  have at1 : (s.heap.push o₀).get? s.heap.objs.size = some o₀ := Heap.get?_push_size _ (by rw [← ho]; rfl)
  show wpAny _ A.in1 (Builtin.List.listExtendWith (.ref s.heap.objs.size) (.ref I) (.ref s.heap.objs.size)) _ _ _
  unfold Builtin.List.listExtendWith
  refine wpAny_bind (wpAny_typeOf (hT 0 _ st1) ?_)
  simp only [same, show (Value.type "map" == Value.type "list") = false from by decide, show (Value.type "map" == Value.type "tuple") = false from by decide, Bool.or_false, Bool.false_eq_true, if_false]
  refine wpAny_bind (W.self 0 _ _ _ st1 (wpAny_bind (wpAny_holding ?_)))
  unfold Builtin.List.listLengthHint
  refine wpAny_bind (wpAny_specialOf (hT 0 _ st1) map_no_len ?_)
  show wpAny _ A.in1 (specialOf (Value.ref I) (Str.ofString "__length_hint__") >>= _) _ _ _
  refine wpAny_bind (wpAny_specialOf (hT 0 _ st1) map_no_hint (wpAny_pure ?_))
  show wpAny _ A.in1 (rule "list.extend.makes-room" >>= fun _ => Builtin.List.listTouch (.ref s.heap.objs.size) >>= fun _ => again (.builtin "list.extend.loop" ⟨[.ref s.heap.objs.size, .ref I, .ref s.heap.objs.size], []⟩)) _ _ _
  refine wpAny_bind (wpAny_rule (wpAny_bind ?_))
  show wpAny _ A.in1 (updateSeq s.heap.objs.size (·.push .none) >>= fun _ => updateSeq s.heap.objs.size (·.pop)) _ _ _
  have hd0 : o₀.data = .seq #[] := by rw [← ho]
  subst ho
  refine wpAny_bind (wpAny_updateSeq at1 rfl ?_)
  have at2 := Heap.get?_update_self (Obj.mapSeq (·.push Value.none)) at1 rfl
  refine wpAny_updateSeq at2 rfl ?_
  have at3 := Heap.get?_update_self (Obj.mapSeq (·.pop)) at2 rfl
  have other : ∀ b o, b ≠ s.heap.objs.size → s.heap.get? b = some o → (((s.heap.push { cls := .type "list", data := .seq ([] : List Value).toArray }).update s.heap.objs.size (Obj.mapSeq (·.push Value.none))).update s.heap.objs.size (Obj.mapSeq (·.pop))).get? b = some o :=
    fun b o hb e => (Heap.get?_update_other _ _ (Ne.symm hb)).trans ((Heap.get?_update_other _ _ (Ne.symm hb)).trans (Heap.get?_push_of_some _ e))
  have st3 := W.frame 0 s _ s.toks hst (Nat.le_refl _) fun b hb o e => other b o (fun q => hnew (q ▸ hb)) e
  refine wpAny_pure ⟨plainId_quiet F.plain_extend_loop _, codeAny_extend_loopS W hn _ hnew _ n 0 _ _ _ rfl (Nat.zero_le _) st3 at3 (ItemsOf.nil P) fun s' acc' c' hm at' hacc => ?_⟩
  show wpAny _ A (load s.heap.objs.size >>= _) _ _ s'
  refine wpAny_bind (wpAny_load at' (wpAny_pure (hQ s' acc' ⟨fun b o hb e => ?_, hm.gens, hm.drawn, hm.os, hm.toks⟩ hacc)))
  have hbs : b ≠ s.heap.objs.size := Nat.ne_of_lt (Heap.lt_size e)
  exact hm.heap b o (by simp only [List.mem_cons, not_or]; exact ⟨hbs, hb⟩) (other b o hbs e)
/-- tuple(..) of a map -/
theorem tuple_map {Q : Value → Shared → Prop} (W : WalksS prog w A.in1.in1.in1 I fp wr G n P St) (hT : ∀ i s, St i s → s.TypeIs (.ref I) "map") (hst : St 0 s) (hfp : ∀ b ∈ fp, b < s.heap.objs.size) (hI : I ∈ fp) (hn : n ≤ sizeLine)
    (hQ : ∀ s' acc, Moved wr G s s' → ItemsOf P acc n → Q (.ref s'.heap.objs.size) { s' with heap := s'.heap.push { cls := .type "tuple", data := .seq acc } }) :
    wpAny (model prog w) A (call (.type "tuple") [.ref I]) Q E s := by
  refine callType_codes (Q₁ := fun obj s₁ => s₁.TypeIs obj "tuple" ∧ Q obj s₁) F.called_tuple (F.typeCall_tuple_1 _) F.entry_object_init ?_ fun obj s₁ h₁ => ⟨h₁.1, F.args_object_init_2 obj _, object_init_meets F.called_tuple.init.lookup F.called_tuple.made (by decide) prog w A.in1 _ s₁ ⟨h₁.1, rfl, h₁.2⟩⟩
  refine codeAny_of_tree ?_
  show wpAny _ _ (do checkBuiltinCall "tuple.__new__" ⟨[.type "tuple", .ref I], []⟩; again (.builtin "tuple.__new__" ⟨[.type "tuple", .ref I], []⟩)) _ _ s
  refine wpAny_bind (wpAny_of_eq (F.newCall_tuple_1 _) (wpAny_pure ⟨plainId_quiet F.plain_tuple_new _, codeAny_builtin F.entry_tuple_new ?_⟩))
  rw [Around.under_plainId F.plain_tuple_new _]
  have hsub := sub_tuple_self
  have hinit := init_tuple_lookup
  have hmh := madeHere_tuple
  have hTI := hT 0 s hst
  wp_walk using wpAny_typeOf hTI, collect_map W hT hst hfp hI hn
  intro s' acc hm hacc
  show wpAny _ _ (Builtin.Tuple.tupleExact acc.toList.toArray >>= fun v => ret v) _ _ _
  unfold Builtin.Tuple.tupleExact
  have e : acc.toList.toArray = acc := by simp
  rw [e]
  exact wpAny_bind (wpAny_newObj_type (wpAny_pure ⟨⟨_, Heap.get?_push_size _ rfl, rfl⟩, hQ s' acc hm hacc⟩) (by show acc.size ≤ sizeLine; rw [hacc.1]; exact hn))
end
set_option maxRecDepth 100000 in
theorem map_end {h0 h : Heap} {g : Array GenState} {d : Drawn} {os : OsState} {M tup It l : Addr} {t : Nat} {news : List (Addr × Obj)} (D : Mem h0 h [] ((M, ⟨.type "map", none, .fields #[.ref tup, .ref 94], #[]⟩) :: (tup, ⟨.type "tuple", none, .seq #[.ref It] 0, #[]⟩) :: (It, ⟨.type "list_iterator", none, .fields #[.ref l, .int 0 0], #[]⟩) :: news)) :
    Ans (fun h v => ∃ M om tup ot It oi, v = .ref M ∧ (h.get? M = some om ∧ h0.get? M = none) ∧ (h.get? tup = some ot ∧ h0.get? tup = none) ∧ (h.get? It = some oi ∧ h0.get? It = none) ∧ om = ⟨.type "map", none, .fields #[.ref tup, .ref 94], #[]⟩ ∧ ot = ⟨.type "tuple", none, .seq #[.ref It] 0, #[]⟩ ∧ oi = ⟨.type "list_iterator", none, .fields #[.ref l, .int 0 0], #[]⟩) h0 g d os (.ref M) ⟨h, g, d, t, os⟩ :=
  ans_mk D ⟨_, _, _, _, _, _, rfl, D.nw _ (.head _), D.nw _ (.tail _ (.head _)), D.nw _ (.tail _ (.tail _ (.head _))), rfl, rfl, rfl⟩
section
local macro_rules | `(tactic| x_close) => `(tactic| (exact map_end (by assumption)))
set_option maxHeartbeats 8000000 in
theorem map_g (prog : Program) (w : World) (h0 : Heap) (g d t0 os) (KX : (Mine.KK w.params).In h0) (l : Addr) (its : Array Value) (k : Nat) (hl : h0.get? l = some ⟨.type "list", none, .seq its k, #[]⟩) :
   CallG prog w 300 (.type "map") [.ref 94, .ref l] (fun h v => ∃ M om tup ot It oi, v = .ref M ∧ (h.get? M = some om ∧ h0.get? M = none) ∧ (h.get? tup = some ot ∧ h0.get? tup = none) ∧ (h.get? It = some oi ∧ h0.get? It = none) ∧ om = ⟨.type "map", none, .fields #[.ref tup, .ref 94], #[]⟩ ∧ ot = ⟨.type "tuple", none, .seq #[.ref It] 0, #[]⟩ ∧ oi = ⟨.type "list_iterator", none, .fields #[.ref l, .int 0 0], #[]⟩) ⟨h0, g, d, t0, os⟩ := by
  unfold CallG; dsimp only; x_run
theorem map_x (w : World) (h0 : Heap) (g d t0 os) (KX : (Mine.KK w.params).In h0) (l : Addr) (its : Array Value) (k : Nat) (hl : h0.get? l = some ⟨.type "list", none, .seq its k, #[]⟩) :
   Call w 300 (.type "map") [.ref 94, .ref l] (fun h v => ∃ M om tup ot It oi, v = .ref M ∧ (h.get? M = some om ∧ h0.get? M = none) ∧ (h.get? tup = some ot ∧ h0.get? tup = none) ∧ (h.get? It = some oi ∧ h0.get? It = none) ∧ om = ⟨.type "map", none, .fields #[.ref tup, .ref 94], #[]⟩ ∧ ot = ⟨.type "tuple", none, .seq #[.ref It] 0, #[]⟩ ∧ oi = ⟨.type "list_iterator", none, .fields #[.ref l, .int 0 0], #[]⟩) ⟨h0, g, d, t0, os⟩ := map_g pw w h0 g d t0 os KX l its k hl
end

end
section
open PySem PySem.W PySem.W.X PyProof.Rows PySem.Calls
/-- a heap, written out as a fragment -/
noncomputable def fragAt (h : Heap) (l : List Addr) : Frag := l.filterMap fun a => (h.get? a).map fun o => (a, o)
theorem fragAt_lookup {h : Heap} {a : Addr} : ∀ {l : List Addr}, a ∈ l → (fragAt h l).lookup a = h.get? a
  | [], hm => by cases hm
  | b :: l, hm => by
    unfold fragAt
    by_cases hb : a = b
    · subst hb
      cases q : h.get? a with
      | some o => rw [List.filterMap_cons_some (by rw [q]; rfl), List.lookup_cons, beq_self_eq_true]
      | none =>
        rw [List.filterMap_cons_none (by rw [q]; rfl)]
        by_cases hl : a ∈ l
        · exact (fragAt_lookup hl).trans q
        · cases e : List.lookup a (l.filterMap fun a => (h.get? a).map fun o => (a, o)) with
          | none => rfl
          | some o =>
            obtain ⟨c, hc, hc'⟩ := List.mem_filterMap.mp (lookup_memK e)
            obtain ⟨o', ho', e'⟩ := Option.map_eq_some_iff.mp hc'
            cases e'
            exact absurd hc hl
    · have hl : a ∈ l := (List.mem_cons.mp hm).resolve_left hb
      cases q : h.get? b with
      | some o => rw [List.filterMap_cons_some (by rw [q]; rfl), List.lookup_cons, beq_eq_false_iff_ne.mpr hb]; exact fragAt_lookup hl
      | none => rw [List.filterMap_cons_none (by rw [q]; rfl)]; exact fragAt_lookup hl
theorem fragOf_lookup {h : Heap} {a : Addr} {o : Obj} (e : h.get? a = some o) : (fragAt h (List.range h.objs.size)).lookup a = some o := (fragAt_lookup (List.mem_range.mpr (Heap.lt_size e))).trans e
theorem fragAt_in {h : Heap} {l : List Addr} : (fragAt h l).In h := fun a o e => by
  obtain ⟨c, _, hc'⟩ := List.mem_filterMap.mp (lookup_memK e)
  obtain ⟨o', ho', e'⟩ := Option.map_eq_some_iff.mp hc'
  cases e'
  exact ho'
theorem tuple_k {p : Program} {loose : List Str} {mean : ExcName → Option Value} {mg mb : Str → Option Value} {w : World} {A : Around} {s : Shared} {Q E : Value → Shared → Prop} {h₀ : Heap} {L : Addr} {m : Str → Option Value} {news : List (Addr × Obj)} {M tup It l : Addr} {ts : List (Str × Tok)} {k : Nat} (R : Rm A 190) (F : Fr h₀ L s.heap m) (N : News h₀ L s.heap news) (KX : (Mine.KK w.params).In h₀) (T : Top p loose mean mg mb h₀)
    (hM : s.heap.get? M = some ⟨.type "map", none, .fields #[.ref tup, .ref 94], #[]⟩) (ht : s.heap.get? tup = some ⟨.type "tuple", none, .seq #[.ref It] 0, #[]⟩) (hIt : s.heap.get? It = some ⟨.type "list_iterator", none, .fields #[.ref l, .int 0 0], #[]⟩) (hI0 : h₀.get? It = none) (hIL : It ≠ L)
    (hl : s.heap.get? l = some (listOf (sv ts).toArray k)) (hnI : ∀ p ∈ news, p.1 ≠ It) (hsz : ts.length ≤ sizeLine)
    (h : ∀ a h' tk, Fr h₀ L h' m → News h₀ L h' ((a, { cls := .type "tuple", data := .seq (sv ts).toArray }) :: news) → (∀ p ∈ news, p.1 ≠ a) → Q (.ref a) { s with heap := h', toks := tk }) :
    wpAny (model pw w) A (call (.type "tuple") [.ref M]) Q E s := by
  have hne : ∀ {a : Addr} {o : Obj}, s.heap.get? a = some o → o.cls ≠ .type "list_iterator" → a ≠ It := fun e hc q => by
    rw [q, hIt] at e; cases e; exact hc rfl
  obtain ⟨KH, hKH⟩ : ∃ K, fragAt h₀ (List.range h₀.objs.size) = K := ⟨_, rfl⟩
  have KI : KH.In h₀ := hKH ▸ fragAt_in
  have KA : ∀ b o, h₀.get? b = some o → KH.lookup b = some o := fun b o e => hKH ▸ fragOf_lookup e
  have hKI : KH.lookup It = none := by
    cases e : KH.lookup It with
    | none => rfl
    | some o => have := KI _ _ e; rw [hI0] at this; cases this
  have KXs := KI.keeps F.keep
  have W := map_walks (w := w) (A := A.in1.in1.in1) (K := KH) (f := .ref 94) (M := M) (tup := tup) (It := It) (l := l) (vs := sv ts) (Rm.le R.in1.in1.in1 (by decide)) (hne hM (show (Value.type "map") ≠ .type "list_iterator" from by decide)) (hne ht (show (Value.type "tuple") ≠ .type "list_iterator" from by decide)) (hne hl (show (Value.type "list") ≠ .type "list_iterator" from by decide)) hKI fun s' v hv hK => by
    obtain ⟨z, _, rfl⟩ := List.mem_map.mp hv
    exact fspath_x _ (KX.keeps fun b o e => hK b o (KA b o e)) (T.keeps fun b o e => hK b o (KA b o e)) _ _
  refine tuple_map W (fun i s' st => let ⟨o, ho, hc, _⟩ := st.m; ⟨o, ho, hc⟩) ⟨⟨_, hM, rfl, rfl⟩, ⟨_, ht, rfl, _, rfl⟩, ⟨_, hIt, rfl, rfl⟩, ⟨_, hl, rfl, _, rfl⟩, KXs⟩ (fun b hb => ?_) (.head _) (by simpa [sv] using hsz) ?_
  · simp only [List.mem_cons] at hb
    rcases hb with rfl | rfl | rfl | rfl | hb
    · exact Heap.lt_size hM
    · exact Heap.lt_size ht
    · exact Heap.lt_size hIt
    · exact Heap.lt_size hl
    · obtain ⟨o, ho⟩ : ∃ o, KH.lookup b = some o := by
        obtain ⟨⟨b', o'⟩, hp, rfl⟩ := List.mem_map.mp hb
        clear KXs W KX hKI hb hKH KI KA
        revert hp
        generalize KH = K
        intro hp
        induction K with
        | nil => cases hp
        | cons q K ih =>
          obtain ⟨c, o''⟩ := q
          by_cases e : b' = c
          · exact ⟨o'', by rw [List.lookup_cons, beq_iff_eq.mpr e]⟩
          · rcases List.mem_cons.mp hp with z | hp
            · cases z; exact absurd rfl e
            · obtain ⟨o, ho⟩ := ih hp
              exact ⟨o, by rw [List.lookup_cons, beq_eq_false_iff_ne.mpr e]; exact ho⟩
      exact Heap.lt_size (KXs _ _ ho)
  · intro s' acc hm hacc
    obtain ⟨hh, g', d', tk', os'⟩ := s'
    obtain ⟨h1, h2, h3, h4, h5⟩ := hm
    dsimp only at h1 h2 h3 h4 h5 ⊢
    subst h2 h3 h4
    have e : acc = (sv ts).toArray := by
      apply Array.ext_getElem?
      intro i
      cases q : acc[i]? with
      | none =>
        have : (sv ts).length ≤ i := by rw [← hacc.1]; simpa using q
        simp [this]
      | some v => simpa using (hacc.2 i v q).symm
    subst e
    have up : ∀ b o, b ≠ It → s.heap.get? b = some o → (hh.push { cls := .type "tuple", data := .seq (sv ts).toArray }).get? b = some o := fun b o hb e => Heap.get?_push_of_some _ (h1 b o (by simpa using hb) e)
    have F1 : Fr h₀ L (hh.push { cls := .type "tuple", data := .seq (sv ts).toArray }) m := ⟨F.ns.at' fun o e => up _ o hIL.symm e, fun b o e => up b o (fun q => by rw [q, hI0] at e; cases e) (F.keep b o e), F.above⟩
    have old : ∀ b o, s.heap.get? b = some o → b ≠ It → b < hh.objs.size := fun b o e hb => Heap.lt_size (h1 b o (by simpa using hb) e)
    refine h _ _ tk' F1 (fun p hp => ?_) fun p hp => Nat.ne_of_lt (old _ _ (N p hp).1 (hnI p hp))
    rcases List.mem_cons.mp hp with rfl | hp
    · refine ⟨Heap.get?_push_size _ rfl, fun q => ?_, ?_⟩
      · obtain ⟨oL, _, _, hL, _⟩ := F.ns
        have := old _ _ hL hIL.symm
        rw [← q] at this
        exact Nat.lt_irrefl _ this
      · cases q : h₀.get? hh.objs.size with
        | none => rfl
        | some o =>
          have := old _ _ (F.keep _ _ q) (fun z => by rw [z, hI0] at q; cases q)
          exact absurd this (Nat.lt_irrefl _)
    · exact ⟨up _ _ (hnI p hp) (N p hp).1, (N p hp).2⟩

end
section
open PySem PySem.W PySem.W.X PyProof.Rows PySem.Calls PySem.MeetsSeq3
noncomputable def sizesB (op : CmpOp) (m n : Nat) : Bool := match op with | .Eq => m == n | .NotEq => m != n | .Lt => m < n | .LtE => m ≤ n | .Gt => m > n | _ => m ≥ n
noncomputable def lne {α : Type} (c : CmpOp → α → α → Bool) (op : CmpOp) (x y : α) : Bool := match op with | .Eq => false | .NotEq => true | op => c op x y
noncomputable def lcmp {α : Type} [DecidableEq α] (c : CmpOp → α → α → Bool) (op : CmpOp) : List α → List α → Bool
  | x :: xs, y :: ys => if x = y then lcmp c op xs ys else lne c op x y
  | xs, ys => sizesB op xs.length ys.length
/-- plain values that compare as c says -/
structure CmpK {α : Type} [DecidableEq α] (el : α → Tok → Value) (c : CmpOp → α → α → Bool) : Prop where
  eq : ∀ {prog : Program} {w : World} {A : Around} {s : Shared} {E : Value → Shared → Prop} {x y : α} {t u : Tok} {Q : Bool → Shared → Prop}, Q (decide (x = y)) s → wpAny (model prog w) A (eqBool (el x t) (el y u)) Q E s
  rc : ∀ {prog : Program} {w : World} {A : Around} {s : Shared} {E : Value → Shared → Prop} {op : CmpOp} {x y : α} {t u : Tok} {Q : Value → Shared → Prop}, op = .Lt ∨ op = .LtE ∨ op = .Gt ∨ op = .GtE → Q (.bool (c op x y)) s → wpAny (model prog w) A (richCompare op (el x t) (el y u)) Q E s
noncomputable def vl {α : Type} (el : α → Tok → Value) (l : List (α × Tok)) : List Value := l.map fun z => el z.1 z.2
theorem lcmp_cons {α : Type} [DecidableEq α] {c : CmpOp → α → α → Bool} {op : CmpOp} (x y : α) (xs ys : List α) : lcmp c op (x :: xs) (y :: ys) = if x = y then lcmp c op xs ys else lne c op x y := rfl
theorem lcmp_nil {α : Type} [DecidableEq α] {c : CmpOp → α → α → Bool} {op : CmpOp} (l : List α) : lcmp c op [] l = sizesB op 0 l.length := by cases l <;> rfl
theorem lcmp_nil' {α : Type} [DecidableEq α] {c : CmpOp → α → α → Bool} {op : CmpOp} (l : List α) : lcmp c op l [] = sizesB op l.length 0 := by cases l <;> rfl
noncomputable abbrev OpCode (op : CmpOp) (code : Int) : Prop := (op = .Lt ∧ code = 0) ∨ (op = .LtE ∧ code = 1) ∨ (op = .Gt ∧ code = 4) ∨ (op = .GtE ∧ code = 5) ∨ (op = .Eq ∧ code = 2) ∨ (op = .NotEq ∧ code = 3)
theorem sizes_shift {op : CmpOp} {code : Int} (hop : OpCode op code) (i m n : Nat) : sizesB op (i + m) (i + n) = sizesB op m n := by
  rcases hop with ⟨rfl, rfl⟩ | ⟨rfl, rfl⟩ | ⟨rfl, rfl⟩ | ⟨rfl, rfl⟩ | ⟨rfl, rfl⟩ | ⟨rfl, rfl⟩ <;> simp [sizesB, Bool.beq_eq_decide_eq, bne]
theorem cmp_end {α : Type} [DecidableEq α] {c : CmpOp → α → α → Bool} {op : CmpOp} {code : Int} (hop : OpCode op code) (xs ys : List α) (i : Nat) (hx : i ≤ xs.length) (hy : i ≤ ys.length) (h : i = xs.length ∨ i = ys.length) : lcmp c op (xs.drop i) (ys.drop i) = sizesB op xs.length ys.length := by
  rcases h with h | h
  · rw [show xs.drop i = [] from by simp [h], lcmp_nil, ← sizes_shift hop i, List.length_drop]
    congr 1 <;> omega
  · rw [show ys.drop i = [] from by simp [h], lcmp_nil', ← sizes_shift hop i, List.length_drop]
    congr 1 <;> omega
theorem listItems_at {prog : Program} {w : World} {A : Around} {s : Shared} {E : Value → Shared → Prop} {Q : Array Value → Shared → Prop} {a : Addr} {o : Obj} {items : Array Value} {n : Nat} (ho : s.heap.get? a = some o) (hd : o.data = .seq items n) (h : Q items s) : wpAny (model prog w) A (Builtin.List.listItems (.ref a)) Q E s :=
  wpAny_bind (wpAny_seqItems ho hd (wpAny_pure h))
set_option maxHeartbeats 4000000 in
theorem cmp_loop {α : Type} [DecidableEq α] {el : α → Tok → Value} {c : CmpOp → α → α → Bool} (C : CmpK el c) (op : CmpOp) (code : Int) (hop : OpCode op code)
    (a b : Addr) (xs ys : List (α × Tok)) (n m : Nat) (k : Nat) :
    ∀ i : Nat, xs.length - i = k → ∀ (w : World) (A : Around) (R : Result → Shared → Prop) (s : Shared), s.heap.get? a = some { cls := .type "list", dict := none, data := .seq (vl el xs).toArray n, slots := #[] } → s.heap.get? b = some { cls := .type "list", dict := none, data := .seq (vl el ys).toArray m, slots := #[] } → i ≤ ys.length → i ≤ xs.length →
      R (.ok (.ret (.bool (lcmp c op ((xs.map (·.1)).drop i) ((ys.map (·.1)).drop i))))) s → codeAny (model pw w) A (.builtin "list.__eq__.loop" ⟨[.ref a, .ref b, rawInt i, rawInt code], []⟩) R s := by
  have szx : (vl el xs).toArray.size = xs.length := by simp [vl]
  have szy : (vl el ys).toArray.size = ys.length := by simp [vl]
  induction k with
  | zero =>
    intro i hk w A R s ha hb hi1 hi2 hR
    refine codeAny_builtin entry_eq_loop ?_
    rw [Around.under_plainId plain_eq_loop _]
    have e1 : (vl el xs).toArray[((i : Nat) : Int).toNat]? = none := by simp [vl]; omega
    rw [cmp_end hop _ _ i (by simpa using hi2) (by simpa using hi1) (.inl (by simp; omega)), List.length_map, List.length_map, ← szx, ← szy] at hR
    rcases hop with ⟨rfl, rfl⟩ | ⟨rfl, rfl⟩ | ⟨rfl, rfl⟩ | ⟨rfl, rfl⟩ | ⟨rfl, rfl⟩ | ⟨rfl, rfl⟩
    all_goals
      (show wpAny _ _ (Builtin.List.listItems (.ref a) >>= fun l1 => Builtin.List.listItems (.ref b) >>= fun l2 => _) _ _ s); refine wpAny_bind (listItems_at ha rfl (wpAny_bind (listItems_at hb rfl ?_)))
      rw [e1]
      cases (vl el ys).toArray[((i : Nat) : Int).toNat]? <;>
      · dsimp only
        refine wpAny_bind (listItems_at ha rfl (wpAny_bind (listItems_at hb rfl (wpAny_pure hR))))
  | succ k ih =>
    intro i hk w A R s ha hb hi1 hi2 hR
    refine codeAny_builtin entry_eq_loop ?_
    rw [Around.under_plainId plain_eq_loop _]
    have hlt : i < xs.length := by omega
    have e1 : (vl el xs).toArray[((i : Nat) : Int).toNat]? = some (el xs[i].1 xs[i].2) := by simp [vl, hlt]
    by_cases hy : i < ys.length
    · have e2 : (vl el ys).toArray[((i : Nat) : Int).toNat]? = some (el ys[i].1 ys[i].2) := by simp [vl, hy]
      have hc : ((i : Int) + 1) = ((i + 1 : Nat) : Int) := by push_cast; rfl
      have d1 : (xs.map (·.1)).drop i = xs[i].1 :: (xs.map (·.1)).drop (i + 1) := by rw [List.drop_eq_getElem_cons (by simpa using hlt)]; simp
      have d2 : (ys.map (·.1)).drop i = ys[i].1 :: (ys.map (·.1)).drop (i + 1) := by rw [List.drop_eq_getElem_cons (by simpa using hy)]; simp
      rw [d1, d2, lcmp_cons] at hR
      rcases hop with ⟨rfl, rfl⟩ | ⟨rfl, rfl⟩ | ⟨rfl, rfl⟩ | ⟨rfl, rfl⟩ | ⟨rfl, rfl⟩ | ⟨rfl, rfl⟩
      all_goals
        (show wpAny _ _ (Builtin.List.listItems (.ref a) >>= fun l1 => Builtin.List.listItems (.ref b) >>= fun l2 => _) _ _ s); refine wpAny_bind (listItems_at ha rfl (wpAny_bind (listItems_at hb rfl ?_)))
        rw [e1, e2]
        refine wpAny_bind (C.eq ?_)
        by_cases hxy : xs[i].1 = ys[i].1
        · rw [if_pos hxy] at hR
          rw [decide_eq_true hxy]
          rw [if_pos rfl, hc]
          exact wpAny_pure ⟨plainId_quiet plain_eq_loop _, ih (i + 1) (by omega) w A R s ha hb (by omega) (by omega) hR⟩
        · rw [if_neg hxy] at hR
          rw [decide_eq_false hxy, if_neg Bool.false_ne_true]
          refine wpAny_bind (listItems_at ha rfl (wpAny_bind (listItems_at hb rfl ?_)))
          rw [e1, e2]
          first
            | exact wpAny_pure hR
            | (refine wpAny_bind (C.rc (by simp) ?_); exact wpAny_pure hR)
    · have e2 : (vl el ys).toArray[((i : Nat) : Int).toNat]? = none := by simp [vl]; omega
      rw [cmp_end hop _ _ i (by simpa using hi2) (by simpa using hi1) (.inr (by simp; omega)), List.length_map, List.length_map, ← szx, ← szy] at hR
      rcases hop with ⟨rfl, rfl⟩ | ⟨rfl, rfl⟩ | ⟨rfl, rfl⟩ | ⟨rfl, rfl⟩ | ⟨rfl, rfl⟩ | ⟨rfl, rfl⟩
      all_goals
        (show wpAny _ _ (Builtin.List.listItems (.ref a) >>= fun l1 => Builtin.List.listItems (.ref b) >>= fun l2 => _) _ _ s); refine wpAny_bind (listItems_at ha rfl (wpAny_bind (listItems_at hb rfl ?_)))
        rw [e1, e2]
        dsimp only
        refine wpAny_bind (listItems_at ha rfl (wpAny_bind (listItems_at hb rfl (wpAny_pure hR))))
theorem list_sub_list : isSubtype (.type "list") (.type "list") = pure true := AutoSeq1.sub_list_list
section
variable {α : Type} [DecidableEq α] {el : α → Tok → Value} {c : CmpOp → α → α → Bool} {w : World} {A : Around} {s : Shared} {E Q : Value → Shared → Prop} {a b : Addr} {xs ys : List (α × Tok)} {n m : Nat}
theorem lcmp_len : lcmp c .Eq (xs.map (·.1)) (ys.map (·.1)) = false ∨ xs.length = ys.length := by
  by_cases h : xs.length = ys.length
  · exact .inr h
  · refine .inl ?_
    have : ∀ (l r : List α), l.length ≠ r.length → lcmp c .Eq l r = false := by
      intro l
      induction l with
      | nil => intro r hr; rw [lcmp_nil]; simpa [sizesB] using hr
      | cons x l ih => intro r hr; cases r with
        | nil => rfl
        | cons y r =>
          rw [lcmp_cons]
          split
          · exact ih r (by simpa using hr)
          · rfl
    exact this _ _ (by simpa using h)
theorem lcmp_len' : lcmp c .NotEq (xs.map (·.1)) (ys.map (·.1)) = true ∨ xs.length = ys.length := by
  by_cases h : xs.length = ys.length
  · exact .inr h
  · refine .inl ?_
    have : ∀ (l r : List α), l.length ≠ r.length → lcmp c .NotEq l r = true := by
      intro l
      induction l with
      | nil => intro r hr; rw [lcmp_nil]; simpa [sizesB] using hr
      | cons x l ih => intro r hr; cases r with
        | nil => rfl
        | cons y r =>
          rw [lcmp_cons]
          split
          · exact ih r (by simpa using hr)
          · rfl
    exact this _ _ (by simpa using h)
theorem list_cmp (C : CmpK el c) {op : CmpOp} {code : Int} (hop : OpCode op code) (ha : s.heap.get? a = some { cls := .type "list", data := .seq (vl el xs).toArray n }) (hb : s.heap.get? b = some { cls := .type "list", data := .seq (vl el ys).toArray m }) (hu : A.units < cLine)
    (h : Q (.bool (lcmp c op (xs.map (·.1)) (ys.map (·.1)))) s) : wpAny (model pw w) A (richCompare op (.ref a) (.ref b)) Q E s := by
  have hTa : s.TypeIs (.ref a) "list" := ⟨_, ha, rfl⟩
  have hTb : s.TypeIs (.ref b) "list" := ⟨_, hb, rfl⟩
  have go : ∀ (R : Result → Shared → Prop), R (.ok (.ret (.bool (lcmp c op (xs.map (·.1)) (ys.map (·.1)))))) s → codeAny (model pw w) A (.builtin "list.__eq__.loop" ⟨[.ref a, .ref b, rawInt (0 : Nat), rawInt code], []⟩) R s := fun R hR =>
    cmp_loop C op code hop a b xs ys n m _ 0 rfl w A R s ha hb (Nat.zero_le _) (Nat.zero_le _) hR
  have szx : (vl el xs).toArray.size = xs.length := by simp [vl]
  have szy : (vl el ys).toArray.size = ys.length := by simp [vl]
  rcases hop with ⟨rfl, rfl⟩ | ⟨rfl, rfl⟩ | ⟨rfl, rfl⟩ | ⟨rfl, rfl⟩ | ⟨rfl, rfl⟩ | ⟨rfl, rfl⟩
  · refine wpAny_richCompare_same_room hTa hTb F.slot_list_lt (wpAny_call (codeAny_call_builtin F.slot_list_lt.plain F.entry_list_lt (F.slot_list_lt.check _ _ _ _ _ _ _ _ hTa (F.args_list_lt_2 _ _) ?_))) hu
    show wpAny _ _ (isInstance (.ref b) (.type "list") >>= _) _ _ s
    refine wpAny_bind (wpAny_isInstance (b := true) hTb list_sub_list ?_)
    exact wpAny_pure ⟨plainId_quiet plain_eq_loop _, go _ ⟨by simp, h⟩⟩
  · refine wpAny_richCompare_same_room hTa hTb F.slot_list_le (wpAny_call (codeAny_call_builtin F.slot_list_le.plain F.entry_list_le (F.slot_list_le.check _ _ _ _ _ _ _ _ hTa (F.args_list_le_2 _ _) ?_))) hu
    show wpAny _ _ (isInstance (.ref b) (.type "list") >>= _) _ _ s
    refine wpAny_bind (wpAny_isInstance (b := true) hTb list_sub_list ?_)
    exact wpAny_pure ⟨plainId_quiet plain_eq_loop _, go _ ⟨by simp, h⟩⟩
  · refine wpAny_richCompare_same_room hTa hTb F.slot_list_gt (wpAny_call (codeAny_call_builtin F.slot_list_gt.plain F.entry_list_gt (F.slot_list_gt.check _ _ _ _ _ _ _ _ hTa (F.args_list_gt_2 _ _) ?_))) hu
    show wpAny _ _ (isInstance (.ref b) (.type "list") >>= _) _ _ s
    refine wpAny_bind (wpAny_isInstance (b := true) hTb list_sub_list ?_)
    exact wpAny_pure ⟨plainId_quiet plain_eq_loop _, go _ ⟨by simp, h⟩⟩
  · refine wpAny_richCompare_same_room hTa hTb F.slot_list_ge (wpAny_call (codeAny_call_builtin F.slot_list_ge.plain F.entry_list_ge (F.slot_list_ge.check _ _ _ _ _ _ _ _ hTa (F.args_list_ge_2 _ _) ?_))) hu
    show wpAny _ _ (isInstance (.ref b) (.type "list") >>= _) _ _ s
    refine wpAny_bind (wpAny_isInstance (b := true) hTb list_sub_list ?_)
    exact wpAny_pure ⟨plainId_quiet plain_eq_loop _, go _ ⟨by simp, h⟩⟩
  · refine wpAny_richCompare_same_room hTa hTb F.slot_list_eq (wpAny_call (codeAny_call_builtin F.slot_list_eq.plain F.entry_list_eq (F.slot_list_eq.check _ _ _ _ _ _ _ _ hTa (F.args_list_eq_2 _ _) ?_))) hu
    show wpAny _ _ (isInstance (.ref b) (.type "list") >>= _) _ _ s
    refine wpAny_bind (wpAny_isInstance (b := true) hTb list_sub_list ?_)
    show wpAny _ _ (Builtin.List.listItems (.ref a) >>= fun l1 => Builtin.List.listItems (.ref b) >>= fun l2 => _) _ _ s
    refine wpAny_bind (listItems_at ha rfl (wpAny_bind (listItems_at hb rfl ?_)))
    rw [szx, szy]
    by_cases hl : xs.length = ys.length
    · rw [if_neg (by simp [hl])]
      exact wpAny_pure ⟨plainId_quiet plain_eq_loop _, go _ ⟨by simp, h⟩⟩
    · rw [if_pos (by simpa using hl)]
      have e := (lcmp_len (c := c) (xs := xs) (ys := ys)).resolve_right hl
      rw [e] at h
      exact wpAny_bind (wpAny_rule (wpAny_pure ⟨by simp, h⟩))
  · refine wpAny_richCompare_same_room hTa hTb F.slot_list_ne (wpAny_call (codeAny_call_builtin F.slot_list_ne.plain F.entry_list_ne (F.slot_list_ne.check _ _ _ _ _ _ _ _ hTa (F.args_list_ne_2 _ _) ?_))) hu
    show wpAny _ _ (isInstance (.ref b) (.type "list") >>= _) _ _ s
    refine wpAny_bind (wpAny_isInstance (b := true) hTb list_sub_list ?_)
    show wpAny _ _ (Builtin.List.listItems (.ref a) >>= fun l1 => Builtin.List.listItems (.ref b) >>= fun l2 => _) _ _ s
    refine wpAny_bind (listItems_at ha rfl (wpAny_bind (listItems_at hb rfl ?_)))
    rw [szx, szy]
    by_cases hl : xs.length = ys.length
    · rw [if_neg (by simp [hl])]
      exact wpAny_pure ⟨plainId_quiet plain_eq_loop _, go _ ⟨by simp, h⟩⟩
    · rw [if_pos (by simpa using hl)]
      have e := (lcmp_len' (c := c) (xs := xs) (ys := ys)).resolve_right hl
      rw [e] at h
      exact wpAny_bind (wpAny_rule (wpAny_pure ⟨by simp, h⟩))
end
theorem cmpK_str : CmpK (fun (x : Str) t => .str x t) (fun op x y => match op with | .Lt => decide (x.cps.toList < y.cps.toList) | .LtE => !decide (y.cps.toList < x.cps.toList) | .Gt => decide (y.cps.toList < x.cps.toList) | _ => !decide (x.cps.toList < y.cps.toList)) where
  eq := fun h => wpAny_eqBool_str h
  rc := fun hop h => by
    rcases hop with rfl | rfl | rfl | rfl
    · exact PyProof.Rows.lt_str h
    · exact P.le_str h
    · exact P.gt_str h
    · exact P.ge_str h
theorem cmpK_int : CmpK (fun (x : Int) t => .int x t) (fun op x y => match op with | .Lt => decide (x < y) | .LtE => decide (x ≤ y) | .Gt => decide (y < x) | _ => decide (y ≤ x)) where
  eq := fun h => wpAny_eqBool_int (by have e : ∀ a b : Int, (a == b) = decide (a = b) := fun a b => by by_cases h : a = b <;> simp [h]
                                      rw [e]; exact h)
  rc := fun hop h => by
    rcases hop with rfl | rfl | rfl | rfl
    · exact PyProof.Rows.lt_int h
    · exact PyProof.Rows.le_int h
    · exact PyProof.Rows.gt_int h
    · exact PyProof.Rows.ge_int h

end
section
open PySem PySem.W PySem.W.X PyProof.Rows PySem.Calls PySem.MeetsSeq3
/-- the values compare as bt says, where what h0 holds still stands -/
noncomputable def CmpIn (w : World) (A : Around) (op : CmpOp) (h0 : Heap) (vs : List Value) (bt : Nat → Nat → Bool) : Prop :=
  ∀ i j vi vj (s : Shared) (Q : Value → Shared → Prop) (E : Value → Shared → Prop), Stays h0 s.heap → vs[i]? = some vi → vs[j]? = some vj → Q (.bool (bt i j)) s → wpAny (model pw w) A (richCompare op vi vj) Q E s
section
variable {w : World} {A : Around} {h0 : Heap} {I l S : Addr} {vs : List Value} {bt : Nat → Nat → Bool} {KK : Nat} {R : Result → Shared → Prop}
theorem best_min (hh : A.handled = none) (hl : h0.get? l = some { cls := .type "list", data := .seq vs.toArray KK }) (hI : h0.get? I = none) (hS0 : h0.get? S = none) (hSI : S ≠ I) (hcmp : CmpIn w A.in1 .Lt h0 vs bt) :
    ∀ (k j : Nat) (s : Shared) (vb : Value) (c : Nat), vs.length - (j + 1) = k → j + 1 ≤ vs.length → Stays h0 s.heap → s.heap.IsListIter I l (j + 1) → vs[argBest bt j]? = some vb → s.heap.get? S = some { cls := .type "list", dict := none, data := .seq #[vb, vb] c, slots := #[] } →
    (∀ v h' tk, vs[argBest bt (vs.length - 1)]? = some v → Stays h0 h' → R (.ok (.ret v)) { s with heap := h', toks := tk }) →
    codeAny (model pw w) A (.builtin "min.loop" ⟨[.ref I, .none, .ref S], []⟩) R s := by
  have hname : (toString "min" ++ toString ".loop" : String) = "min.loop" := by decide
  have hlI : l ≠ I := fun q => by rw [q, hI] at hl; cases hl
  have up : ∀ {h h' : Heap} {a : Addr}, h0.get? a = none → (∀ b o, b ≠ a → h.get? b = some o → h'.get? b = some o) → Stays h0 h → Stays h0 h' := fun ha hk st b o e => hk b o (fun q => by rw [q, ha] at e; cases e) (st b o e)
  have ils : ∀ {h : Heap}, Stays h0 h → h.IsList l vs.toArray := fun st => ⟨_, st _ _ hl, rfl, _, rfl⟩
  have W := Walks.list (prog := pw) (w := w) (A := A.in1) hh I l hlI vs.toArray
  have hsz : vs.toArray.size = vs.length := List.size_toArray ..
  intro k
  induction k with
  | zero =>
    intro j s vb c hk hj st hit hvb hS hR
    refine codeAny_builtin F.entry_min_loop ?_
    rw [Around.under_plainId F.plain_min_loop _]
    show wpAny _ A.in1 (seqItems? (.ref S) >>= _) _ _ s
    refine wpAny_bind (wpAny_seqItems hS rfl ?_)
    show wpAny _ A.in1 (tryCatch (pyNext (.ref I)) _ >>= _) _ _ s
    refine wpAny_bind (wpAny_tryCatch (W.done s _ _ ⟨by rw [hsz, show vs.length = j + 1 from by omega]; exact hit, ils st⟩ fun h' tk hk' => ?_))
    have st' : Stays h0 h' := up hI (fun b o hb e => hk' b o (by simpa using hb) e) st
    have hS' := hk' S _ (by simpa using hSI) hS
    show wpAny _ A.in1 (updateSeq S (fun _ => #[]) >>= _) _ _ _
    refine wpAny_bind (wpAny_updateSeq hS' rfl (wpAny_bind (wpAny_letGo (wpAny_pure ?_))))
    exact hR vb _ tk (by rw [show vs.length - 1 = j from by omega]; exact hvb) (up hS0 (fun b o hb e => (Heap.get?_update_other _ _ (Ne.symm hb)).trans e) st')
  | succ k ih =>
    intro j s vb c hk hj st hit hvb hS hR
    have hlt : j + 1 < vs.length := by omega
    refine codeAny_builtin F.entry_min_loop ?_
    rw [Around.under_plainId F.plain_min_loop _]
    show wpAny _ A.in1 (seqItems? (.ref S) >>= _) _ _ s
    refine wpAny_bind (wpAny_seqItems hS rfl ?_)
    show wpAny _ A.in1 (tryCatch (pyNext (.ref I)) _ >>= _) _ _ s
    refine wpAny_bind (wpAny_tryCatch (W.item (j + 1) s _ _ (by rw [hsz]; exact hlt) ⟨hit, ils st⟩ fun v h' tk hP hst' hk' => ?_))
    have hv : vs[j + 1]? = some v := by simpa using hP
    have st' : Stays h0 h' := up hI (fun b o hb e => hk' b o (by simpa using hb) e) st
    have hS' := hk' S _ (by simpa using hSI) hS
    show wpAny _ A.in1 (tryCatch (holding [v, v] (richCompare .Lt v vb >>= _)) _ >>= _) _ _ _
    refine wpAny_bind (wpAny_tryCatch (wpAny_holding (wpAny_bind (hcmp (j + 1) (argBest bt j) v vb _ _ _ st' hv hvb ?_))))
    refine wpAny_bind (wpAny_holding (wpAny_truthy_bool (wpAny_bind (wpAny_letGo (wpAny_pure ?_)))))
    cases hb : bt (j + 1) (argBest bt j) with
    | true =>
      simp only [if_true]
      refine wpAny_bind (wpAny_updateSeq hS' rfl (wpAny_bind (wpAny_letGo ?_)))
      rw [hname]
      obtain ⟨oI, hoI, r⟩ := hst'.1
      refine wpAny_pure ⟨plainId_quiet F.plain_min_loop _, ih (j + 1) _ v _ (by omega) hlt (up hS0 (fun b o hb e => (Heap.get?_update_other _ _ (Ne.symm hb)).trans e) st') ⟨oI, (Heap.get?_update_other _ _ hSI).trans hoI, r⟩ (by simp only [argBest, hb, if_true]; exact hv) (Heap.get?_update_self _ hS' rfl) fun v' h'' tk'' hv' st'' => hR v' h'' tk'' hv' st''⟩
    | false =>
      simp only [Bool.false_eq_true, if_false]
      refine wpAny_bind (wpAny_letGo ?_)
      rw [hname]
      exact wpAny_pure ⟨plainId_quiet F.plain_min_loop _, ih (j + 1) _ vb c (by omega) hlt st' hst'.1 (by simp only [argBest, hb, Bool.false_eq_true, if_false]; exact hvb) hS' fun v' h'' tk'' hv' st'' => hR v' h'' tk'' hv' st''⟩
theorem min_list {s : Shared} {E Q : Value → Shared → Prop} (hh : A.handled = none) (hl : s.heap.get? l = some { cls := .type "list", data := .seq vs.toArray KK }) (hn : 0 < vs.length) (hcmp : CmpIn w A.in1 .Lt s.heap vs bt)
    (h : ∀ v h' tk, vs[argBest bt (vs.length - 1)]? = some v → Stays s.heap h' → Q v { s with heap := h', toks := tk }) : wpAny (model pw w) A (call (.builtin "min") [.ref l]) Q E s := by
  have hname : (toString "min" ++ toString ".loop" : String) = "min.loop" := by decide
  refine call_function_tree F.kind_min F.plain_min F.entry_min (F.args_min1 _) ?_
  show wpAny _ A.in1 (Builtin.Builtins.bindParams "min" ["key", "default"] 0 ⟨[], []⟩ >>= _) _ _ s
  refine wpAny_bind (wpAny_of_eq (show Builtin.Builtins.bindParams "min" ["key", "default"] 0 ⟨[], []⟩ = pure [none, none] from rfl) (wpAny_bind (wpAny_pure ?_)))
  have hls : s.heap.IsList l vs.toArray := ⟨_, hl, rfl, _, rfl⟩
  refine wpAny_bind (wpAny_pyIter_list hls ?_)
  refine wpAny_bind (wpAny_newObj_type ?_)
  rw [hname]
  dsimp only
  generalize hH1 : s.heap.push _ = H1
  have hz1 : H1.objs.size = s.heap.objs.size + 1 := by rw [← hH1, Heap.size_push]
  have st1 : Stays s.heap H1 := fun b o e => by rw [← hH1]; exact Heap.get?_push_of_some _ e
  have hI1 : H1.IsListIter s.heap.objs.size l 0 := by rw [← hH1]; exact ⟨_, Heap.get?_push_size _ rfl, rfl, rfl⟩
  generalize hH2 : H1.push _ = H2
  have st2 : Stays H1 H2 := fun b o e => by rw [← hH2]; exact Heap.get?_push_of_some _ e
  have hS2 : H2.get? H1.objs.size = some { cls := .type "list", dict := none, data := .seq #[] 0, slots := #[] } := by rw [← hH2]; exact Heap.get?_push_size _ rfl
  have hI0 : s.heap.get? s.heap.objs.size = none := none_above (Nat.le_refl _)
  have hS0 : s.heap.get? H1.objs.size = none := none_above (by rw [hz1]; exact Nat.le_succ _)
  have hSI : H1.objs.size ≠ s.heap.objs.size := by rw [hz1]; exact Nat.succ_ne_self _
  have hlI : l ≠ s.heap.objs.size := Nat.ne_of_lt (Heap.lt_size hl)
  refine wpAny_pure ⟨plainId_quiet F.plain_min_loop _, ?_⟩
  have W := Walks.list (prog := pw) (w := w) (A := A.in1) hh s.heap.objs.size l hlI vs.toArray
  refine codeAny_builtin F.entry_min_loop ?_
  rw [Around.under_plainId F.plain_min_loop _]
  show wpAny _ _ (seqItems? (.ref H1.objs.size) >>= _) _ _ _
  refine wpAny_bind (wpAny_seqItems hS2 rfl ?_)
  show wpAny _ _ (tryCatch (pyNext (.ref s.heap.objs.size)) _ >>= _) _ _ _
  refine wpAny_bind (wpAny_tryCatch (W.item 0 _ _ _ (by simpa using hn) ⟨hI1.at fun o e => st2 _ _ e, ((hls.at fun o e => st1 _ _ e).at fun o e => st2 _ _ e)⟩ fun v h' tk hP hst' hk' => ?_))
  have hv : vs[0]? = some v := by simpa using hP
  have hS' := hk' _ _ (by simpa using hSI) hS2
  show wpAny _ _ (updateSeq H1.objs.size (fun _ => #[v, v]) >>= _) _ _ _
  refine wpAny_bind (wpAny_updateSeq hS' rfl ?_)
  rw [hname]
  obtain ⟨oI, hoI, r⟩ := hst'.1
  have st' : Stays s.heap h' := fun b o e => hk' b o (by simp only [List.mem_singleton]; exact Nat.ne_of_lt (Heap.lt_size e)) (st2 _ _ (st1 _ _ e))
  refine wpAny_pure ⟨plainId_quiet F.plain_min_loop _, best_min hh hl hI0 hS0 hSI hcmp _ 0 _ v _ rfl hn (fun b o e => (Heap.get?_update_other _ _ (fun q => by rw [← q, hS0] at e; cases e)).trans (st' b o e)) ⟨oI, (Heap.get?_update_other _ _ hSI).trans hoI, r⟩ hv (Heap.get?_update_self _ hS' rfl) fun v' h'' tk'' hv' st'' => h v' h'' tk'' hv' st''⟩
theorem best_max (hh : A.handled = none) (hl : h0.get? l = some { cls := .type "list", data := .seq vs.toArray KK }) (hI : h0.get? I = none) (hS0 : h0.get? S = none) (hSI : S ≠ I) (hcmp : CmpIn w A.in1 .Gt h0 vs bt) :
    ∀ (k j : Nat) (s : Shared) (vb : Value) (c : Nat), vs.length - (j + 1) = k → j + 1 ≤ vs.length → Stays h0 s.heap → s.heap.IsListIter I l (j + 1) → vs[argBest bt j]? = some vb → s.heap.get? S = some { cls := .type "list", dict := none, data := .seq #[vb, vb] c, slots := #[] } →
    (∀ v h' tk, vs[argBest bt (vs.length - 1)]? = some v → Stays h0 h' → R (.ok (.ret v)) { s with heap := h', toks := tk }) →
    codeAny (model pw w) A (.builtin "max.loop" ⟨[.ref I, .none, .ref S], []⟩) R s := by
  have hname : (toString "max" ++ toString ".loop" : String) = "max.loop" := by decide
  have hlI : l ≠ I := fun q => by rw [q, hI] at hl; cases hl
  have up : ∀ {h h' : Heap} {a : Addr}, h0.get? a = none → (∀ b o, b ≠ a → h.get? b = some o → h'.get? b = some o) → Stays h0 h → Stays h0 h' := fun ha hk st b o e => hk b o (fun q => by rw [q, ha] at e; cases e) (st b o e)
  have ils : ∀ {h : Heap}, Stays h0 h → h.IsList l vs.toArray := fun st => ⟨_, st _ _ hl, rfl, _, rfl⟩
  have W := Walks.list (prog := pw) (w := w) (A := A.in1) hh I l hlI vs.toArray
  have hsz : vs.toArray.size = vs.length := List.size_toArray ..
  intro k
  induction k with
  | zero =>
    intro j s vb c hk hj st hit hvb hS hR
    refine codeAny_builtin F.entry_max_loop ?_
    rw [Around.under_plainId F.plain_max_loop _]
    show wpAny _ A.in1 (seqItems? (.ref S) >>= _) _ _ s
    refine wpAny_bind (wpAny_seqItems hS rfl ?_)
    show wpAny _ A.in1 (tryCatch (pyNext (.ref I)) _ >>= _) _ _ s
    refine wpAny_bind (wpAny_tryCatch (W.done s _ _ ⟨by rw [hsz, show vs.length = j + 1 from by omega]; exact hit, ils st⟩ fun h' tk hk' => ?_))
    have st' : Stays h0 h' := up hI (fun b o hb e => hk' b o (by simpa using hb) e) st
    have hS' := hk' S _ (by simpa using hSI) hS
    show wpAny _ A.in1 (updateSeq S (fun _ => #[]) >>= _) _ _ _
    refine wpAny_bind (wpAny_updateSeq hS' rfl (wpAny_bind (wpAny_letGo (wpAny_pure ?_))))
    exact hR vb _ tk (by rw [show vs.length - 1 = j from by omega]; exact hvb) (up hS0 (fun b o hb e => (Heap.get?_update_other _ _ (Ne.symm hb)).trans e) st')
  | succ k ih =>
    intro j s vb c hk hj st hit hvb hS hR
    have hlt : j + 1 < vs.length := by omega
    refine codeAny_builtin F.entry_max_loop ?_
    rw [Around.under_plainId F.plain_max_loop _]
    show wpAny _ A.in1 (seqItems? (.ref S) >>= _) _ _ s
    refine wpAny_bind (wpAny_seqItems hS rfl ?_)
    show wpAny _ A.in1 (tryCatch (pyNext (.ref I)) _ >>= _) _ _ s
    refine wpAny_bind (wpAny_tryCatch (W.item (j + 1) s _ _ (by rw [hsz]; exact hlt) ⟨hit, ils st⟩ fun v h' tk hP hst' hk' => ?_))
    have hv : vs[j + 1]? = some v := by simpa using hP
    have st' : Stays h0 h' := up hI (fun b o hb e => hk' b o (by simpa using hb) e) st
    have hS' := hk' S _ (by simpa using hSI) hS
    show wpAny _ A.in1 (tryCatch (holding [v, v] (richCompare .Gt v vb >>= _)) _ >>= _) _ _ _
    refine wpAny_bind (wpAny_tryCatch (wpAny_holding (wpAny_bind (hcmp (j + 1) (argBest bt j) v vb _ _ _ st' hv hvb ?_))))
    refine wpAny_bind (wpAny_holding (wpAny_truthy_bool (wpAny_bind (wpAny_letGo (wpAny_pure ?_)))))
    cases hb : bt (j + 1) (argBest bt j) with
    | true =>
      simp only [if_true]
      refine wpAny_bind (wpAny_updateSeq hS' rfl (wpAny_bind (wpAny_letGo ?_)))
      rw [hname]
      obtain ⟨oI, hoI, r⟩ := hst'.1
      refine wpAny_pure ⟨plainId_quiet F.plain_max_loop _, ih (j + 1) _ v _ (by omega) hlt (up hS0 (fun b o hb e => (Heap.get?_update_other _ _ (Ne.symm hb)).trans e) st') ⟨oI, (Heap.get?_update_other _ _ hSI).trans hoI, r⟩ (by simp only [argBest, hb, if_true]; exact hv) (Heap.get?_update_self _ hS' rfl) fun v' h'' tk'' hv' st'' => hR v' h'' tk'' hv' st''⟩
    | false =>
      simp only [Bool.false_eq_true, if_false]
      refine wpAny_bind (wpAny_letGo ?_)
      rw [hname]
      exact wpAny_pure ⟨plainId_quiet F.plain_max_loop _, ih (j + 1) _ vb c (by omega) hlt st' hst'.1 (by simp only [argBest, hb, Bool.false_eq_true, if_false]; exact hvb) hS' fun v' h'' tk'' hv' st'' => hR v' h'' tk'' hv' st''⟩
theorem max_list {s : Shared} {E Q : Value → Shared → Prop} (hh : A.handled = none) (hl : s.heap.get? l = some { cls := .type "list", data := .seq vs.toArray KK }) (hn : 0 < vs.length) (hcmp : CmpIn w A.in1 .Gt s.heap vs bt)
    (h : ∀ v h' tk, vs[argBest bt (vs.length - 1)]? = some v → Stays s.heap h' → Q v { s with heap := h', toks := tk }) : wpAny (model pw w) A (call (.builtin "max") [.ref l]) Q E s := by
  have hname : (toString "max" ++ toString ".loop" : String) = "max.loop" := by decide
  refine call_function_tree F.kind_max F.plain_max F.entry_max (F.args_max1 _) ?_
  show wpAny _ A.in1 (Builtin.Builtins.bindParams "max" ["key", "default"] 0 ⟨[], []⟩ >>= _) _ _ s
  refine wpAny_bind (wpAny_of_eq (show Builtin.Builtins.bindParams "max" ["key", "default"] 0 ⟨[], []⟩ = pure [none, none] from rfl) (wpAny_bind (wpAny_pure ?_)))
  have hls : s.heap.IsList l vs.toArray := ⟨_, hl, rfl, _, rfl⟩
  refine wpAny_bind (wpAny_pyIter_list hls ?_)
  refine wpAny_bind (wpAny_newObj_type ?_)
  rw [hname]
  dsimp only
  generalize hH1 : s.heap.push _ = H1
  have hz1 : H1.objs.size = s.heap.objs.size + 1 := by rw [← hH1, Heap.size_push]
  have st1 : Stays s.heap H1 := fun b o e => by rw [← hH1]; exact Heap.get?_push_of_some _ e
  have hI1 : H1.IsListIter s.heap.objs.size l 0 := by rw [← hH1]; exact ⟨_, Heap.get?_push_size _ rfl, rfl, rfl⟩
  generalize hH2 : H1.push _ = H2
  have st2 : Stays H1 H2 := fun b o e => by rw [← hH2]; exact Heap.get?_push_of_some _ e
  have hS2 : H2.get? H1.objs.size = some { cls := .type "list", dict := none, data := .seq #[] 0, slots := #[] } := by rw [← hH2]; exact Heap.get?_push_size _ rfl
  have hI0 : s.heap.get? s.heap.objs.size = none := none_above (Nat.le_refl _)
  have hS0 : s.heap.get? H1.objs.size = none := none_above (by rw [hz1]; exact Nat.le_succ _)
  have hSI : H1.objs.size ≠ s.heap.objs.size := by rw [hz1]; exact Nat.succ_ne_self _
  have hlI : l ≠ s.heap.objs.size := Nat.ne_of_lt (Heap.lt_size hl)
  refine wpAny_pure ⟨plainId_quiet F.plain_max_loop _, ?_⟩
  have W := Walks.list (prog := pw) (w := w) (A := A.in1) hh s.heap.objs.size l hlI vs.toArray
  refine codeAny_builtin F.entry_max_loop ?_
  rw [Around.under_plainId F.plain_max_loop _]
  show wpAny _ _ (seqItems? (.ref H1.objs.size) >>= _) _ _ _
  refine wpAny_bind (wpAny_seqItems hS2 rfl ?_)
  show wpAny _ _ (tryCatch (pyNext (.ref s.heap.objs.size)) _ >>= _) _ _ _
  refine wpAny_bind (wpAny_tryCatch (W.item 0 _ _ _ (by simpa using hn) ⟨hI1.at fun o e => st2 _ _ e, ((hls.at fun o e => st1 _ _ e).at fun o e => st2 _ _ e)⟩ fun v h' tk hP hst' hk' => ?_))
  have hv : vs[0]? = some v := by simpa using hP
  have hS' := hk' _ _ (by simpa using hSI) hS2
  show wpAny _ _ (updateSeq H1.objs.size (fun _ => #[v, v]) >>= _) _ _ _
  refine wpAny_bind (wpAny_updateSeq hS' rfl ?_)
  rw [hname]
  obtain ⟨oI, hoI, r⟩ := hst'.1
  have st' : Stays s.heap h' := fun b o e => hk' b o (by simp only [List.mem_singleton]; exact Nat.ne_of_lt (Heap.lt_size e)) (st2 _ _ (st1 _ _ e))
  refine wpAny_pure ⟨plainId_quiet F.plain_max_loop _, best_max hh hl hI0 hS0 hSI hcmp _ 0 _ v _ rfl hn (fun b o e => (Heap.get?_update_other _ _ (fun q => by rw [← q, hS0] at e; cases e)).trans (st' b o e)) ⟨oI, (Heap.get?_update_other _ _ hSI).trans hoI, r⟩ hv (Heap.get?_update_self _ hS' rfl) fun v' h'' tk'' hv' st'' => h v' h'' tk'' hv' st''⟩
end

end
section
open PySem PySem.W PySem.W.X PyProof.Rows PySem.Calls PySem.Spec
/-- how a turn of a for over an enumerate ends -/
noncomputable def EnumEnd (h₀ : Heap) (L : Addr) (J : (Str → Option Value) → Prop) (e it : Addr) (eo io : Obj) (nx : List (Addr × Obj)) (s : Shared) (Q : Flow → Shared → Prop) (fl : Flow) (s' : Shared) : Prop := match fl with
  | .ret v => Q (.ret v) s'
  | .brk => Q .next s'
  | _ => ∃ h' tk m', s' = { s with heap := h', toks := tk } ∧ Fr h₀ L h' m' ∧ News h₀ L h' ((e, eo) :: (it, io) :: nx) ∧ J m'
theorem EnumEnd.intro {h₀ : Heap} {L : Addr} {J : (Str → Option Value) → Prop} {e it : Addr} {eo io : Obj} {nx : List (Addr × Obj)} {s : Shared} {Q : Flow → Shared → Prop} {h' : Heap} {tk : Nat} {m' : Str → Option Value} (F : Fr h₀ L h' m') (N : News h₀ L h' ((e, eo) :: (it, io) :: nx)) (hj : J m') :
    EnumEnd h₀ L J e it eo io nx s Q .next { s with heap := h', toks := tk } := ⟨h', tk, m', rfl, F, N, hj⟩
inductive EnumAtS (prog : Program) (w : World) (A : Around) (h₀ : Heap) (env : Env) (xi xv : Str) (body : List Stmt) (Q : Flow → Shared → Prop) (xval : Value) (s₁ : Shared)
    (e it l : Addr) (lo io : Obj) (vs : List Value) (k : Nat) (m : Str → Option Value) (nx : List (Addr × Obj)) (J : Nat → (Str → Option Value) → Prop) : Prop where
  | mk (hx : xval = .ref e) (hei : e ≠ it) (hlo : lo = { cls := .type "list", data := .seq vs.toArray k }) (he : IsEnum s₁.heap e it 0 .none) (hio : s₁.heap.get? it = some io) (hit : s₁.heap.IsListIter it l 0) (hl : h₀.get? l = some lo ∨ (l, lo) ∈ nx) (he0 : h₀.get? e = none) (hi0 : h₀.get? it = none) (heL : e ≠ env.locals) (hiL : it ≠ env.locals) (F : Fr h₀ env.locals s₁.heap m) (N : News h₀ env.locals s₁.heap nx) (hn : ∀ p ∈ nx, p.1 ≠ e ∧ p.1 ≠ it) (j0 : J 0 m) (turn : ∀ i v t m₁ h tk eo io, vs[i]? = some v → J i m₁ → Fr h₀ env.locals h (fun y => if y = xv then some v else if y = xi then some (.int i t) else m₁ y) → News h₀ env.locals h ((e, eo) :: (it, io) :: nx) → wpAny (model prog w) A (execs body env) (EnumEnd h₀ env.locals (J (i + 1)) e it eo io nx s₁ Q) Nope { s₁ with heap := h, toks := tk }) (done : ∀ h tk m₁, Fr h₀ env.locals h m₁ → News h₀ env.locals h nx → J vs.length m₁ → Q .next { s₁ with heap := h, toks := tk })
noncomputable def EnumAt (prog : Program) (w : World) (A : Around) (h₀ : Heap) (env : Env) (xi xv : Str) (body : List Stmt) (Q : Flow → Shared → Prop) (xval : Value) (s₁ : Shared) : Prop :=
      ∃ (e it l : Addr) (lo io : Obj) (vs : List Value) (k : Nat) (m : Str → Option Value) (nx : List (Addr × Obj)) (J : Nat → (Str → Option Value) → Prop), EnumAtS prog w A h₀ env xi xv body Q xval s₁ e it l lo io vs k m nx J
inductive EnumSt (h₀ : Heap) (L : Addr) (s₁ : Shared) (e it l : Addr) (vs : List Value) (nx : List (Addr × Obj)) (J : Nat → (Str → Option Value) → Prop) (k : Nat) (s' : Shared) (h' : Heap) (tk : Nat) (m' : Str → Option Value) (i : Nat) (old : Value) (io' : Obj) : Prop where
  | mk (hs : s' = { s₁ with heap := h', toks := tk }) (en : IsEnum h' e it ((i : Nat) : Int) old) (io : h'.get? it = some io') (li : h'.IsListIter it l i) (F : Fr h₀ L h' m') (N : News h₀ L h' nx) (hJ : J i m') (hi : i ≤ vs.length) (hk : k = vs.length + 1 - i)
section
variable {prog : Program} {w : World} {A : Around} {s : Shared} {env : Env} {h₀ : Heap} {Q : Flow → Shared → Prop} {body : List Stmt}
theorem for_enum {xi xv : Str} {pi pv pt pos : Pos} {x1} {iter : Expr} (hxi : env.kindOf xi = some .local) (hxv : env.kindOf xv = some .local) (hp : (env.scope.kind == .class || (env.scope.kind == .module && env.locals != env.globals)) = false) (hh : A.handled = none)
    (h : wpAny (model prog w) A (eval iter env) (fun xval s₁ => EnumAt prog w A h₀ env xi xv body Q xval s₁) Nope s)
    (hs : ∀ x, foldedSetIterable iter env x = pure x := by intro _; rfl) :
    wpAny (model prog w) A (exec (.For (.Tuple [.Name xi pi, .Name xv pv] x1 pt) iter body [] pos) env) Q Nope s := by
  refine wpAny_For (wpAny_mono h (fun xval s₁ h₁ => ?_) fun _ _ x => x) hs
  obtain ⟨e, it, l, lo, io, vs, kk, m, nx, J, rfl, hei, hlo, he, hio, hit, hlw, he0, hi0, heL, hiL, F, N, hnx, h0, turn, done⟩ := h₁
  have hls : ∀ {h m}, Fr h₀ env.locals h m → News h₀ env.locals h nx → h.get? l = some lo := fun F N => hlw.elim (fun q => F.keep _ _ q) fun q => (N _ q).1
  have hle : l ≠ e := fun q => hlw.elim (fun z => by rw [q, he0] at z; cases z) fun z => (hnx _ z).1 q
  have hli : l ≠ it := fun q => hlw.elim (fun z => by rw [q, hi0] at z; cases z) fun z => (hnx _ z).2 q
  have lst : ∀ {h : Heap}, h.get? l = some lo → h.IsList l vs.toArray := fun z => ⟨_, z, by rw [hlo], kk, by rw [hlo]⟩
  refine wpAny_pyIter_enum he (codeAny_forLoop_any
    (fun k s' => ∃ h' tk m' i old io', EnumSt h₀ env.locals s₁ e it l vs nx J k s' h' tk m' i old io') ?_ (vs.length + 1)
    ⟨s₁.heap, s₁.toks, m, 0, .none, io, rfl, he, hio, hit, F, N, h0, Nat.zero_le _, rfl⟩)
  rintro k s' ⟨H, tk, m', i, old, io', rfl, he', hio', hit', F', N', hJ, hi, rfl⟩
  have hl' := hls F' N'
  have keepL : ∀ {h h' : Heap} {m}, Fr h₀ env.locals h m → (∀ b o, b ≠ e → b ≠ it → h.get? b = some o → h'.get? b = some o) → Fr h₀ env.locals h' m := fun F hk =>
    ⟨F.ns.at' fun o z => hk _ o heL.symm hiL.symm z, fun b o z => hk b o (fun q => by rw [q, he0] at z; cases z) (fun q => by rw [q, hi0] at z; cases z) (F.keep b o z), F.above⟩
  have keepN : ∀ {h h' : Heap}, News h₀ env.locals h nx → (∀ b o, b ≠ e → b ≠ it → h.get? b = some o → h'.get? b = some o) → News h₀ env.locals h' nx := fun N hk p hp => ⟨hk _ _ (hnx p hp).1 (hnx p hp).2 (N p hp).1, (N p hp).2⟩
  cases hv : vs.toArray[i]? with
  | none =>
    have hsz : i = vs.length := Nat.le_antisymm hi (by simpa using hv)
    refine nope_noted (env := env) (wpAny_pyNext_enum_end hh he' hit' (lst hl') hv fun h₁ he₁ => wpAny_execs_nil ?_)
    exact done h₁ tk m' (keepL F' fun b o _ hb z => he₁ b o hb z) (keepN N' fun b o _ hb z => he₁ b o hb z) (hsz ▸ hJ)
  | some v =>
    have hlt : i < vs.length := by simpa using (Array.getElem?_eq_some_iff.mp hv).1
    have heH : e < H.objs.size := Heap.lt_size he'
    refine nope_noted (env := env) (wpAny_pyNext_enum_item he' hit' (lst hl') hv hei fun h₁ heo hit₁ ht₁ hz₁ hk₁ => ?_)
    refine wpAny_letOwnedTupleGo_enum heo fun h₂ he₂ hs₂ => ?_
    replace hs₂ : Heap.SameBut e h₁ h₂ := hs₂
    have ht₂ : h₂.IsTuple H.objs.size #[.int i tk, v] := ⟨_, (hs₂.2 _ (Nat.ne_of_gt heH)).trans ht₁, rfl, _, rfl⟩
    have hz₂ : h₂.objs.size = H.objs.size + 1 := hs₂.1.trans hz₁
    refine nope_noted (env := env) (wpAny_assign_Tuple hh ht₂ rfl rfl fun h₃ hx₃ => ?_)
    replace hx₃ : Heap.ExtBut h₂.objs.size h₂ h₃ := hx₃
    have old₃ : ∀ b o, b < H.objs.size → h₂.get? b = some o → h₃.get? b = some o := fun b o hb z => hx₃ b o (by rw [hz₂]; exact Nat.ne_of_lt (Nat.lt_succ_of_lt hb)) z
    have k3 : ∀ b o, b ≠ e → b ≠ it → H.get? b = some o → h₃.get? b = some o := fun b o hb1 hb2 z => old₃ b o (Heap.lt_size z) (hs₂.extBut b o hb1 (hk₁ b o hb1 hb2 z))
    obtain ⟨io₁, hio₁, r₁⟩ := id hit₁
    have hio₃ : h₃.get? it = some io₁ := old₃ it io₁ (Heap.lt_size hio') (hs₂.extBut _ _ (Ne.symm hei) hio₁)
    obtain ⟨eo₃, hE⟩ : ∃ o, ∀ g : Heap, g.get? e = some o ↔ IsEnum g e it ((i : Int) + 1) v := ⟨_, fun g => Iff.rfl⟩
    have he₃ : h₃.get? e = some eo₃ := old₃ e _ heH ((hE _).mpr he₂)
    have F₃ := keepL F' k3
    have N₃ := keepN N' k3
    show wpAny _ A (do holding [v] (assign (.Name xi pi) env (.int i tk)); do holding [] (assign (.Name xv pv) env v); pure ()) _ _ _
    refine wpAny_bind (wpAny_holding (wpAny_assign_Name (wpAny_storeName_local hxi F₃.ns (fun h₄ hn₄ hs₄ => ?_) hp)))
    replace hs₄ : Heap.SameBut env.locals h₃ h₄ := hs₄
    have F₄ := F₃.set hn₄ hs₄
    have N₄ := N₃.set hs₄
    refine wpAny_bind (wpAny_holding (wpAny_assign_Name (wpAny_storeName_local hxv F₄.ns (fun h₅ hn₅ hs₅ => wpAny_pure ?_) hp)))
    replace hs₅ : Heap.SameBut env.locals h₄ h₅ := hs₅
    have F₅ := F₄.set hn₅ hs₅
    have N₅ := N₄.set hs₅
    have up : ∀ b, b ≠ env.locals → ∀ o, h₃.get? b = some o → h₅.get? b = some o := fun b hb o z => (hs₅.2 b hb).trans ((hs₄.2 b hb).trans z)
    refine nope_noted (env := env) (wpAny_mono (turn i v tk m' h₅ _ eo₃ io₁ (by simpa using hv) hJ F₅ (fun p hp => ?_)) (fun f s₃ h₃ => ?_) fun _ _ x => x)
    · rcases List.mem_cons.mp hp with rfl | hp
      · exact ⟨up e heL _ he₃, heL, he0⟩
      · rcases List.mem_cons.mp hp with rfl | hp
        · exact ⟨up it hiL _ hio₃, hiL, hi0⟩
        · exact N₅ p hp
    · cases f with
      | ret v => exact h₃
      | brk => exact h₃
      | _ =>
        obtain ⟨h₆, tk₆, m₆, rfl, F₆, N₆, hJ₆⟩ := h₃
        have hc : ((i + 1 : Nat) : Int) = (i : Int) + 1 := by push_cast; rfl
        refine ⟨vs.length + 1 - (i + 1), by omega, h₆, tk₆, m₆, i + 1, v, io₁, rfl, ?_, (N₆ _ (.tail _ (.head _))).1, ⟨io₁, (N₆ _ (.tail _ (.head _))).1, r₁⟩, F₆, (fun p hp => N₆ p (.tail _ (.tail _ hp))), hJ₆, hlt, rfl⟩
        rw [hc]
        exact (hE _).mp (N₆ _ (.head _)).1
end

end
section
open PySem PySem.W PySem.W.X PyProof.Rows PySem.Calls PySem.Spec
section
variable {prog : Program} {w : World} {A : Around} {E : Value → Shared → Prop} {s : Shared}
theorem hash_true {Q : Int → Shared → Prop} (h : Q 1 { s with toks := s.toks + 1 }) : wpAny (model prog w) A (pyHash (.bool true)) Q E s := by
  have hT : s.TypeIs (.bool true) "bool" := rfl
  unfold pyHash pyHashByItsType
  refine wpAny_bind ?_
  rw [cRoomFor, if_neg (by decide)]
  refine wpAny_pure ?_
  refine wpAny_bind (wpAny_specialOf hT F.slot_bool_hash.lookup ?_)
  rw [if_neg (by decide)]
  refine wpAny_bind (wpAny_specialOf hT F.slot_bool_hash.lookup ?_)
  show wpAny _ _ (callSpecialIfBoundUnlessNone? (.bool true) "__hash__" _ >>= _) Q E s
  refine wpAny_bind (wpAny_callSpecialIfBoundUnlessNone?_slot hT F.slot_bool_hash
    (wpAny_call_entry F.slot_bool_hash hT entry_int_hash
      (show wpAny _ _ (do ret (← mkInt 1)) _ _ s from wpAny_ret_mkInt ?_) (args_int_hash _)))
  exact wpAny_pure h
/-- the one key True -/
noncomputable def trueKind (prog : Program) (w : World) : KeyKind prog w Unit where
  is := fun _ v => match v with | .bool true => true | _ => false
  hash := fun _ => 1
  inj := fun _ _ _ _ _ => rfl
  byValue := fun _ v h => by
    cases v with
    | bool b => rfl
    | _ => exact absurd h Bool.false_ne_true
  pyHash := fun {A E s k v Q} h hq => by
    cases v with
    | bool b => cases b with
      | true => exact hash_true hq
      | false => exact absurd h Bool.false_ne_true
    | _ => exact absurd h Bool.false_ne_true
  eqBool := fun {A E s a b u v Q} hu hv hq => by
    have e : ∀ {z : Value}, (match z with | .bool true => true | _ => false) = true → z = .bool true := fun {z} hz => by
      cases z with
      | bool b => cases b with
        | true => rfl
        | false => exact absurd hz Bool.false_ne_true
      | _ => exact absurd hz Bool.false_ne_true
    rw [e hu, e hv]
    unfold PySem.eqBool
    refine wpAny_holding ?_
    rw [if_pos (by decide)]
    exact wpAny_bind (wpAny_rule (wpAny_pure hq))
  «strs» := fun k x t v h => absurd h Bool.false_ne_true
/-- a set of True alone; led or not as the setting says -/
noncomputable def OneAt (w : World) (h : Heap) (D : Addr) (ep : Nat) (t : SetTable) (j : Nat) : Prop := h.get? D = some { cls := .type "set", dict := none, data := .set #[(1, .bool true)] ep t, slots := #[] } ∧ t.place = #[j] ∧ t.fits 1 = true ∧ t.led = !(w.params.followText "set-order")
noncomputable def OneSet (w : World) (h : Heap) (D : Addr) : Prop := ∃ ep t j, OneAt w h D ep t j
noncomputable def NoSet (w : World) (h : Heap) (D : Addr) : Prop := h.get? D = some { cls := .type "set", dict := none, data := .set #[] 0 (.fresh 0 0 (!(w.params.followText "set-order"))), slots := #[] }
theorem new_set {Q : Value → Shared → Prop} (h : NoSet w (s.heap.push { cls := .type "set", dict := none, data := .set #[] 0 (.fresh 0 0 (!(w.params.followText "set-order"))) }) s.heap.objs.size → Q (.ref s.heap.objs.size) { s with heap := s.heap.push { cls := .type "set", dict := none, data := .set #[] 0 (.fresh 0 0 (!(w.params.followText "set-order"))) } }) :
    wpAny (model prog w) A (newSet (.type "set")) Q E s := by
  unfold newSet setsByText
  refine wpAny_bind (wpAny_bind (wpAny_askSetting (wpAny_pure ?_)))
  dsimp only
  simp only [newObj]
  exact wpAny_bind (wpAny_alloc (wpAny_pure (h (Heap.get?_push_size _ rfl))))
theorem add_start {a : Addr} {Q : Value → Shared → Prop} (hT : s.TypeIs (.ref a) "set") (h : wpAny (model prog w) A.in1 (setAddHashed a (.bool true) 1) (fun _ s' => Q .none s') E { s with toks := s.toks + 1 }) :
    wpAny (model prog w) A (call (.builtin "set.add") [.ref a, .bool true]) Q E s := by
  refine wpAny_call_entry F.slot_set_add hT F.entry_set_add ?_ (F.args_set_add_2 _ _)
  unfold Builtin.«set.add» Builtin.Frozenset.oneOther
  simp only [List.isEmpty_nil, bind_assoc]
  unfold Builtin.Frozenset.addrOf setAdd
  refine wpAny_bind (wpAny_pure ?_)
  try dsimp only
  refine wpAny_bind (wpAny_pure ?_)
  try dsimp only
  refine wpAny_bind (wpAny_holding (wpAny_bind (hash_true ?_)))
  refine wpAny_mono h (fun _ s' h' => ?_) fun _ _ x => x
  exact wpAny_pure ⟨_, rfl, h'⟩
theorem add_again {D : Addr} {Q : Value → Shared → Prop} (hD : OneSet w s.heap D) (h : Q .none { s with toks := s.toks + 1 }) : wpAny (model prog w) A (call (.builtin "set.add") [.ref D, .bool true]) Q E s := by
  obtain ⟨ep, t, j, ho, hp, hf, hl⟩ := hD
  refine add_start ⟨_, ho, rfl⟩ ?_
  have hel : ElemsOf (trueKind prog w) [(1, Value.bool true)] := fun e he => by rw [List.mem_singleton.mp he]; exact ⟨⟨(), rfl, rfl⟩, rfl⟩
  unfold setAddHashed setAddHashedIn
  refine wpAny_holding (wpAny_bind (wpAny_setState_of ho rfl hf ?_))
  dsimp only
  rw [byScan_of (knd := trueKind prog w) rfl (by decide) hel]
  simp only [↓reduceIte]
  unfold setAddByScan
  refine wpAny_bind (wpAny_bind (wpAny_rule (wpAny_bind (wpAny_setScan_of (knd := trueKind prog w) (k := ()) rfl ho rfl hf hel ?_))))
  exact wpAny_pure (wpAny_pure h)
theorem add_first {D : Addr} {Q : Value → Shared → Prop} (hD : NoSet w s.heap D) (h : ∀ h', Heap.SameBut D s.heap h' → OneSet w h' D → Q .none { s with heap := h', toks := s.toks + 1 }) : wpAny (model prog w) A (call (.builtin "set.add") [.ref D, .bool true]) Q E s := by
  have ho := hD
  unfold NoSet at ho
  refine add_start ⟨_, ho, rfl⟩ ?_
  generalize hled : (!(w.params.followText "set-order")) = led at ho
  have hel : ElemsOf (trueKind prog w) ([] : List (Int × Value)) := fun e he => nomatch he
  have hlay : layNew (.fresh 0 0 led) #[] 1 (.bool true) = (#[(1, .bool true)], ⟨7, #[1], #[], 0, led, 0, true⟩, false, false) := by cases led <;> rfl
  unfold setAddHashed setAddHashedIn
  refine wpAny_holding (wpAny_bind (wpAny_setState_of ho rfl rfl ?_))
  dsimp only
  rw [byScan_of (knd := trueKind prog w) rfl (by decide) hel]
  simp only [↓reduceIte]
  unfold setAddByScan
  refine wpAny_bind (wpAny_bind (wpAny_rule (wpAny_bind (wpAny_setScan_of (knd := trueKind prog w) (k := ()) rfl ho rfl rfl hel ?_))))
  rw [hlay]
  show wpAny _ _ (pure () >>= fun _ => (hashByValue 8 (.bool true) >>= fun b => _)) _ _ _
  refine wpAny_bind (wpAny_pure (wpAny_bind (wpAny_pure ?_)))
  refine wpAny_bind (wpAny_storeSet_of ho rfl ?_ (by decide))
  rw [if_neg (by cases led <;> decide)]
  refine wpAny_pure (wpAny_pure (h _ (Heap.SameBut.update ..) ⟨_, _, 1, Heap.get?_update_self _ ho rfl, rfl, rfl, hled.symm⟩))
end
theorem slot_setit_next : Slot "set_iterator" "__next__" "set_iterator.__next__" :=
  .of (owner := "set_iterator") (n := "__next__") (by rw [typeLookup_type, builtinLookup_eq_fast]; kernel_rfl) (by decide +kernel) (by decide +kernel) (by decide +kernel)
    (by first | exact .inl (by decide +kernel) | exact .inr (by decide +kernel)) (by rw [isSubtype_type]; kernel_rfl)
theorem entry_setit_next : entryFor table "set_iterator.__next__" = some Builtin.«set_iterator.__next__» := entryFor_of_fast (by kernel_rfl)
theorem args_setit_next (a : Value) : argsOk "set_iterator.__next__" ⟨[a], []⟩ := by unfold argsOk; kernel_rfl
theorem entry_set_iter : entryFor table "set.__iter__" = some Builtin.«frozenset.__iter__» :=
  entryFor_alias (id' := "frozenset.__iter__") (by kernel_rfl) (by first | rfl | decide +kernel | (unfold String.splitOn; simp +decide [String.splitOnAux])) (by decide +kernel) (by kernel_rfl)
theorem args_set_iter (a : Value) : argsOk "set.__iter__" ⟨[a], []⟩ := by unfold argsOk; kernel_rfl
section
variable {prog : Program} {w : World} {A : Around} {E : Value → Shared → Prop} {s : Shared}
noncomputable def SetIt (h : Heap) (I D : Addr) (n i : Nat) (ep : Nat) : Prop := h.get? I = some { cls := .type "set_iterator", dict := none, data := .fields #[rawInt n, rawInt i, .ref D, rawInt 1, rawInt ep], slots := #[] }
theorem iter_set {D : Addr} {ep : Nat} {t : SetTable} {j : Nat} {Q : Value → Shared → Prop} (hD : OneAt w s.heap D ep t j) (h : SetIt (s.heap.push { cls := .type "set_iterator", data := .fields #[rawInt 0, rawInt 0, .ref D, rawInt 1, rawInt (ep : Nat)] }) s.heap.objs.size D 0 0 ep → Q (.ref s.heap.objs.size) { s with heap := s.heap.push { cls := .type "set_iterator", data := .fields #[rawInt 0, rawInt 0, .ref D, rawInt 1, rawInt (ep : Nat)] } }) :
    wpAny (model prog w) A (pyIter (.ref D)) Q E s := by
  obtain ⟨ho, hp, hf, hl⟩ := hD
  have hT : s.TypeIs (.ref D) "set" := ⟨_, ho, rfl⟩
  refine wpAny_pyIter_slot hT F.slot_set_iter (wpAny_call_entry F.slot_set_iter hT entry_set_iter ?_ (args_set_iter _))
  unfold Builtin.«frozenset.__iter__»
  refine wpAny_bind (m := Builtin.Frozenset.slot0 _ _) (wpAny_of_eq (a := D) rfl ?_)
  show wpAny _ _ ((setEntries D >>= fun es => pure es.size) >>= _) _ _ s
  refine wpAny_bind (wpAny_bind (wpAny_setEntries_of ho rfl hf (wpAny_pure ?_)))
  refine wpAny_bind ?_
  unfold setDrawn setsByText
  refine wpAny_bind (wpAny_setState_of ho rfl hf (wpAny_bind (wpAny_bind (wpAny_askSetting (wpAny_pure (wpAny_pure ?_))))))
  dsimp only
  refine wpAny_ite_split (fun hc => absurd hc (show ¬ ((!_ && (!_ && decide (1 > 1))) = true) from by simp)) (fun _ => ?_)
  refine wpAny_bind (wpAny_pure ?_)
  unfold setEpoch
  refine wpAny_bind (wpAny_bind (wpAny_setState_of ho rfl hf (wpAny_pure ?_)))
  show wpAny _ _ (newFields "set_iterator" [rawInt 0, rawInt 0, .ref D, rawInt 1, rawInt (ep : Nat)] >>= _) _ _ s
  unfold newFields
  refine wpAny_bind (wpAny_newObj_type ?_)
  exact wpAny_pure ⟨_, rfl, "set_iterator", _, ⟨_, Heap.get?_push_size _ rfl, rfl⟩, slot_setit_next.lookup, h (Heap.get?_push_size _ rfl)⟩
theorem walk_one {D : Addr} {ep : Nat} {t : SetTable} {j : Nat} {Q : Array (Int × Value) → Shared → Prop} (hD : OneAt w s.heap D ep t j) (hb : w.params.followText "set-order" = true) (h : Q #[(1, .bool true)] s) : wpAny (model prog w) A (setWalk D) Q E s := by
  obtain ⟨ho, hp, hf, hl⟩ := hD
  unfold setWalk setsByText
  refine wpAny_bind (wpAny_setState_of ho rfl hf (wpAny_bind (wpAny_bind (wpAny_askSetting (wpAny_pure ?_)))))
  dsimp only
  refine wpAny_ite_split (fun _ => ?_) (fun hc => absurd hb hc)
  refine wpAny_bind (wpAny_askSetting (wpAny_pure ?_))
  have e : ∀ f : Nat → Nat, pickOrder f #[((1 : Int), Value.bool true)] = #[(1, .bool true)] := fun f => by
    show pickOrder.go f 1 0 [((1 : Int), Value.bool true)] #[] = _
    unfold pickOrder.go
    simp [Nat.mod_one, pickOrder.go]
  rw [e]
  exact h
theorem next_of {D : Addr} {ep : Nat} {t : SetTable} {j : Nat} {n i : Nat} {Q : Option (Value × Nat) → Shared → Prop} (hD : OneAt w s.heap D ep t j) (h1 : w.params.followText "set-order" = true → Q ((#[((1 : Int), Value.bool true)][i]?).map fun e => (e.2, n)) s)
    (h2 : w.params.followText "set-order" = false → Q (match (#[((1 : Int), Value.bool true)])[SetTable.below #[j] n]?, (#[j] : Array Nat)[SetTable.below #[j] n]? with | some (_, x), some j => some (x, j + 1) | _, _ => none) s) : wpAny (model prog w) A (setNext D n i ep) Q E s := by
  have hD' := hD
  obtain ⟨ho, hp, hf, hl⟩ := hD
  unfold setNext setsByText
  refine wpAny_bind (wpAny_setState_of ho rfl hf (wpAny_bind (wpAny_bind (wpAny_askSetting (wpAny_pure ?_)))))
  dsimp only
  refine wpAny_ite_split (fun hb => ?_) (fun hb => ?_)
  · refine wpAny_ite_split (fun hc => absurd hc (by simp)) (fun _ => ?_)
    refine wpAny_bind (walk_one hD' hb (wpAny_pure (h1 hb)))
  · refine wpAny_ite_split (fun hc => absurd hc (show ¬ ((!_ && decide (1 > 1)) = true) from by simp)) (fun _ => ?_)
    have hb' : w.params.followText "set-order" = false := (Bool.not_eq_true _).mp hb
    show wpAny _ _ ((if (!t.led && !false) = true then _ else _) >>= _) _ _ s
    rw [hl, hb', hp]
    refine wpAny_bind (wpAny_pure (wpAny_pure (h2 hb')))
theorem next_set {D I : Addr} {ep : Nat} {t : SetTable} {j : Nat} {Q : Option Value → Shared → Prop} (hD : OneAt w s.heap D ep t j) (hI : SetIt s.heap I D 0 0 ep)
    (h : ∀ h' n, Heap.SameBut I s.heap h' → SetIt h' I D n 1 ep → (w.params.followText "set-order" = false → n = j + 1) → Q (some (.bool true)) { s with heap := h' }) : wpAny (model prog w) A (pyNext (.ref I)) Q E s := by
  have hT : s.TypeIs (.ref I) "set_iterator" := ⟨_, hI, rfl⟩
  have hIo := hI
  unfold SetIt at hIo
  unfold pyNext
  refine wpAny_bind (wpAny_attempt (wpAny_callSpecial?_slot (name := Str.ofString "__next__") hT slot_setit_next (wpAny_call_entry slot_setit_next hT entry_setit_next ?_ (args_setit_next _))))
  show wpAny _ _ (fieldsOf (.ref I) >>= _) _ _ s
  refine wpAny_bind (wpAny_fieldsOf hIo rfl ?_)
  show wpAny _ _ (setEntries D >>= _) _ _ s
  refine wpAny_bind (wpAny_setEntries_of hD.1 rfl hD.2.2.1 ?_)
  dsimp only
  refine wpAny_ite_split (fun hc => absurd hc (by decide)) (fun _ => ?_)
  show wpAny _ _ (setNext D 0 0 ep >>= _) _ _ s
  have key : ∀ n : Nat, (w.params.followText "set-order" = false → n = j + 1) → wpAny (model prog w) A.in1 (setField (.ref I) 0 (rawInt n) >>= fun _ => setField (.ref I) 1 (rawInt 1) >>= fun _ => ret (.bool true)) (fun fin s' => ∃ v, fin = .done (.ret v) ∧ wpAny (model prog w) A (pure (some v)) Q E s') (fun _ _ => False) s := fun n hn => by
    refine wpAny_bind (wpAny_setField_rec hIo (by simp) fun h₁ he₁ hs₁ => ?_)
    refine wpAny_bind (wpAny_setField_rec he₁ (by simp) fun h₂ he₂ hs₂ => ?_)
    exact wpAny_pure ⟨_, rfl, wpAny_pure (h _ n ⟨hs₂.1.trans hs₁.1, fun b hb => (hs₂.2 b hb).trans (hs₁.2 b hb)⟩ he₂ hn)⟩
  refine wpAny_bind (next_of hD (fun hb => ?_) fun hb => ?_)
  · exact wpAny_mono (key 0 fun q => by rw [hb] at q; cases q) (fun _ _ x => x) fun _ _ x => x.elim
  · exact wpAny_mono (key (j + 1) fun _ => rfl) (fun _ _ x => x) fun _ _ x => x.elim
theorem end_set {D I : Addr} {ep : Nat} {t : SetTable} {j n : Nat} {Q : Option Value → Shared → Prop} (hh : A.handled = none) (hD : OneAt w s.heap D ep t j) (hI : SetIt s.heap I D n 1 ep) (hn : w.params.followText "set-order" = false → n = j + 1)
    (h : ∀ h', Heap.ExtBut I s.heap h' → Q none { s with heap := h' }) : wpAny (model prog w) A (pyNext (.ref I)) Q E s := by
  have hT : s.TypeIs (.ref I) "set_iterator" := ⟨_, hI, rfl⟩
  have hIo := hI
  unfold SetIt at hIo
  unfold pyNext
  refine wpAny_bind (wpAny_attempt (wpAny_callSpecial?_slot (name := Str.ofString "__next__") hT slot_setit_next (wpAny_call_entry slot_setit_next hT entry_setit_next ?_ (args_setit_next _))))
  show wpAny _ _ (fieldsOf (.ref I) >>= _) _ _ s
  refine wpAny_bind (wpAny_fieldsOf hIo rfl ?_)
  show wpAny _ _ (setEntries D >>= _) _ _ s
  refine wpAny_bind (wpAny_setEntries_of hD.1 rfl hD.2.2.1 ?_)
  dsimp only
  refine wpAny_ite_split (fun hc => absurd hc (by decide)) (fun _ => ?_)
  show wpAny _ _ (setNext D n 1 ep >>= _) _ _ s
  have key : ∀ R : PySem.Fin → Shared → Prop, wpAny (model prog w) A.in1 (setField (.ref I) 2 .none >>= fun _ => newExc (.type "StopIteration") [] >>= fun e => (raiseNew e : Sem PySem.Fin)) R (fun e s' => wpAny (model prog w) A (isInstance e (.type "StopIteration") >>= fun b => if b = true then pure none else throw e) Q E s') s := fun R => by
    refine wpAny_bind (wpAny_setField_rec hIo (by simp) fun h₁ he₁ hs₁ => ?_)
    refine wpAny_bind ?_
    simp only [newExc, newTuple]
    refine wpAny_bind (wpAny_newObj_type ?_ (by size_fits))
    refine wpAny_bind (m := firstArgMember _ _) (wpAny_of_eq (a := Value.none) (by first | rfl | (simp only [firstArgMember]; rfl)) ?_)
    refine wpAny_newObj_type ?_ (by size_fits)
    simp only [raiseNew]
    refine wpAny_bind (wpAny_handled ?_)
    rw [show A.in1.handled = none from hh]
    refine wpAny_bind (wpAny_pure (wpAny_throw ?_))
    refine wpAny_bind (wpAny_isInstance (T := "StopIteration") (b := true) ⟨_, Heap.get?_push_size _ rfl, rfl⟩ isSubtype_stop ?_)
    exact wpAny_pure (h _ ((hs₁.extBut.push _).push _))
  refine wpAny_bind (next_of hD (fun hb => ?_) fun hb => ?_)
  · exact key _
  · rw [hn hb, show SetTable.below #[j] (j + 1) = 1 from by
      show SetTable.below.go #[j] (j + 1) 1 0 1 = 1
      simp [SetTable.below.go]]
    exact key _
/-- x, = {True} -/
theorem unpack_one {env : Env} {x : Str} {px pos : Pos} {x1} {D : Addr} {Q : Unit → Shared → Prop} (hh : A.handled = none) (hD : OneSet w s.heap D) (h : ∀ h', Stays s.heap h' → wpAny (model prog w) A (assign (.Name x px) env (.bool true)) Q E { s with heap := h' }) :
    wpAny (model prog w) A (assign (.Tuple [.Name x px] x1 pos) env (.ref D)) Q E s := by
  obtain ⟨ep, t, j, hD⟩ := hD
  have hT : s.TypeIs (.ref D) "set" := ⟨_, hD.1, rfl⟩
  rw [arm_assign_Tuple]
  refine wpAny_bind (wpAny_standAt ?_)
  unfold unpack
  refine wpAny_bind (wpAny_holding ?_)
  show wpAny _ _ (unpackItems (.ref D) 1 none) _ _ _
  unfold unpackItems notIterableAtAll
  refine wpAny_bind (wpAny_bind (wpAny_specialOf hT F.slot_set_iter.lookup ?_))
  refine wpAny_ite_split (fun _ => ?_) (fun hc => absurd rfl hc)
  refine wpAny_pure ?_
  refine wpAny_ite_split (fun hc => absurd hc (by decide)) (fun _ => ?_)
  refine wpAny_bind (wpAny_holding (iter_set hD fun hI => ?_))
  dsimp only
  generalize hH : s.heap.push _ = H at hI ⊢
  have st1 : Stays s.heap H := fun b o e => by rw [← hH]; exact Heap.get?_push_of_some _ e
  have hI0 : s.heap.get? s.heap.objs.size = none := none_above (Nat.le_refl _)
  have at1 : ∀ {h : Heap}, Stays s.heap h → OneAt w h D ep t j := fun st => ⟨st _ _ hD.1, hD.2⟩
  refine wpAny_bind (wpAny_holding ?_)
  show wpAny _ _ (pyNext (.ref s.heap.objs.size) >>= _) _ _ _
  refine wpAny_bind (next_set (at1 st1) hI fun h₂ n hs₂ hI₂ hn => ?_)
  have st2 : Stays s.heap h₂ := fun b o e => (hs₂.2 b (fun q => by rw [q, hI0] at e; cases e)).trans (st1 b o e)
  refine wpAny_bind (wpAny_holding (wpAny_pure (wpAny_pure ?_)))
  show wpAny _ _ (do if (← holding [.bool true] (pyNext (.ref s.heap.objs.size))).isSome then _ else _) _ _ _
  refine wpAny_bind (wpAny_holding (end_set hh (at1 st2) hI₂ hn fun h₃ he₃ => ?_))
  rw [if_neg (by decide)]
  refine wpAny_pure ?_
  show wpAny _ A (do holding [] (assign (.Name x px) env (.bool true)); pure ()) _ _ _
  refine wpAny_bind (wpAny_holding (wpAny_mono (h h₃ fun b o e => he₃ b o (fun q => by rw [q, hI0] at e; cases e) (st2 b o e)) (fun _ _ x => wpAny_pure x) fun _ _ x => x))
end

end
section
open PySem PySem.W PySem.W.X PyProof.Rows PySem.Calls PySem.Spec
section
variable {prog : Program} {w : World} {A : Around} {s : Shared} {env : Env} {R : Result → Shared → Prop}
theorem start_set {elt target iter ifs rest scope pos it acc} {E : Value → Shared → Prop}
    (h0 : codeAny (model prog w) A (.compLoop (.SetComp elt (⟨target, iter, ifs, 0⟩ :: rest) scope pos) 0 it acc env) R s)
    (h : wpAny (model prog w) A (pyIter it) (fun it' s' => codeAny (model prog w) A (.compLoop (.SetComp elt (⟨target, iter, ifs, 0⟩ :: rest) scope pos) 0 it' acc env) R s')
      (notedBy (model prog w) A env fun x s' => R (.error x) s') s) :
    codeAny (model prog w) A (.compStart (.SetComp elt (⟨target, iter, ifs, 0⟩ :: rest) scope pos) 0 it acc env) R s := by
  refine codeAny_of_tree ?_
  show wpAny _ _ ((compStart (.SetComp elt (⟨target, iter, ifs, 0⟩ :: rest) scope pos) 0 it acc env).onRaise (fun x => do noteFrame x env; standAt theWindowsPlace)) _ _ s
  refine wpAny_notedAt ?_
  unfold compStart
  show wpAny _ _ (ask >>= _) _ _ s
  refine wpAny_bind (wpAny_askSetting (wpAny_ite ?_))
  split
  · first
      | exact wpAny_bind (wpAny_pure (wpAny_pure (And.intro rfl h0)))
      | exact wpAny_pure (And.intro rfl h0)
  · first
      | exact wpAny_bind (wpAny_rule (wpAny_bind (wpAny_standAt (wpAny_bind (wpAny_mono h (fun it' s' h' => wpAny_pure (And.intro rfl h')) fun _ _ x => x)))))
      | (refine wpAny_bind (wpAny_rule ?_); show wpAny _ _ (standAt iter.pos >>= _) _ _ s; exact wpAny_bind (wpAny_standAt (wpAny_bind (wpAny_mono h (fun it' s' h' => wpAny_pure (And.intro rfl h')) fun _ _ x => x))))
theorem loop_set {elt target iter : Expr} {scope : Scope} {pos : Pos} {it acc : Value} (I : Nat → Shared → Prop)
    (turn : ∀ n s, I n s → wpAny (model prog w) A (pyNext it) (fun r s₁ => match r with
      | none => R (.ok .next) s₁
      | some v => wpAny (model prog w) A (assign target env v) (fun _ s₂ => wpAny (model prog w) A (eval elt env) (fun x s₄ =>
              wpAny (model prog w) A (call (.builtin "set.add") [acc, x]) (fun _ s₅ => ∃ m, m < n ∧ I m s₅) (notedBy (model prog w) A env fun e s' => R (.error e) s') s₄) (notedBy (model prog w) A env fun e s' => R (.error e) s') s₂) (notedBy (model prog w) A env fun e s' => R (.error e) s') s₁) (notedBy (model prog w) A env fun e s' => R (.error e) s') s)
    (n : Nat) (h : I n s) (ht : ∀ v, letOwnedTupleGo target it v = pure () := by intro _; rfl) :
    codeAny (model prog w) A (.compLoop (.SetComp elt [⟨target, iter, [], 0⟩] scope pos) 0 it acc env) R s := by
  refine codeAny_loop rfl I (fun n s hI => ?_) n h
  show wpAny _ A ((compTurn (.SetComp elt [⟨target, iter, [], 0⟩] scope pos) 0 it acc env).onRaise (fun x => do noteFrame x env; theTreesLotGoes x)) _ _ s
  refine wpAny_noted ?_
  show wpAny _ A (standAt iter.pos >>= fun _ => pyNext it >>= fun r => match r with
      | none => pure (.done .next)
      | some v => letOwnedTupleGo target it v >>= fun _ => assign target env v >>= fun _ =>
        (eval elt env >>= fun x => standAt elt.pos >>= fun _ => call (.builtin "set.add") [acc, x] >>= fun _ => pure ()) >>= fun _ =>
          again (.compLoop (.SetComp elt [⟨target, iter, [], 0⟩] scope pos) 0 it acc env)) _ _ s
  refine wpAny_bind (wpAny_standAt (wpAny_bind (wpAny_mono (turn n s hI) (fun r s₁ h₁ => ?_) fun _ _ h' => h')))
  cases r with
  | none => exact wpAny_pure h₁
  | some v =>
    refine wpAny_bind (wpAny_of_eq (ht v) ?_)
    refine wpAny_bind (wpAny_mono h₁ (fun _ s₂ h₂ => wpAny_bind (wpAny_bind (wpAny_mono h₂ (fun x s₄ h₄ => wpAny_bind (wpAny_standAt (wpAny_bind (wpAny_mono h₄ (fun _ s₅ h₅ => wpAny_pure (wpAny_pure ⟨rfl, h₅⟩)) fun _ _ h' => h')))) fun _ _ h' => h'))) fun _ _ h' => h')
end
inductive SetSt (w : World) (h₀ : Heap) (C : Addr) (s : Shared) (I D l : Addr) (n k : Nat) (s' : Shared) (h' : Heap) (tk : Nat) (m' : Str → Option Value) (i : Nat) : Prop where
  | mk (hs : s' = { s with heap := h', toks := tk }) (it : h'.IsTupleIter I l i) (F : Fr h₀ C h' m') (h0 : i = 0 → NoSet w h' D) (h1 : 0 < i → OneSet w h' D) (hi : i ≤ n) (hk : k = n + 1 - i)
section
variable {prog : Program} {w : World} {A : Around} {s : Shared} {env : Env}
noncomputable def TrueEnd (s₁ : Shared) (C : Addr) (led : List (Addr × Obj)) (y : Value) (s' : Shared) : Prop := y = .bool true ∧ ∃ h' tk' m', s' = { s₁ with heap := h', toks := tk' } ∧ Fr s₁.heap C h' m' ∧ News s₁.heap C h' led
noncomputable def SetAt (prog : Program) (w : World) (A : Around) (env : Env) (scope : Scope) (cl : List (Str × Addr)) (x : Str) (elt : Expr) (Q : Value → Shared → Prop) (xv : Value) (s₁ : Shared) : Prop := ∃ (l : Addr) (vs : List Value) (k : Nat), xv = .ref l ∧ s₁.heap.get? l = some { cls := .type "tuple", data := .seq vs.toArray k } ∧ 0 < vs.length ∧
      (∀ (C : Addr) (i : Nat) (v : Value) (m : Str → Option Value) (h : Heap) (tk : Nat) (led : List (Addr × Obj)), vs[i]? = some v → Fr s₁.heap C h (fun y => if y = x then some v else m y) → News s₁.heap C h led →
        wpAny (model prog w) A (eval elt (compEnvC scope cl C env)) (TrueEnd s₁ C led) Nope { s₁ with heap := h, toks := tk }) ∧
      ∀ (D : Addr) (h' : Heap) (tk : Nat), Stays s₁.heap h' → OneSet w h' D → s₁.heap.get? D = none → Q (.ref D) { s₁ with heap := h', toks := tk }
theorem set_own {elt iter : Expr} {x : Str} {px : Pos} {scope : Scope} {cl : List (Str × Addr)} {pos : Pos} {Q : Value → Shared → Prop} (hh : A.handled = none)
    (hclos : closureFor scope env = pure cl) (hcell : ∀ y ∈ scope.names, y.2 ≠ .cell) (hkind : scope.kind = .function)
    (hnames : ∀ y ∈ scope.names, y.2 = .local → scope.names.lookup y.1 = some .local) (hx : scope.names.lookup x = some .local)
    (h : wpAny (model prog w) A (eval iter env) (fun xv s₁ => SetAt prog w A env scope cl x elt Q xv s₁) Nope s)
    (hs : ∀ x, foldedSetIterable iter env x = pure x := by intro _; rfl) :
    wpAny (model prog w) A (eval (.SetComp elt [⟨.Name x px, iter, [], 0⟩] scope pos) env) Q Nope s := by
  rw [arm_eval_SetComp]
  refine wpAny_comprehension_free (use := none) rfl hs hclos hkind hnames (wpAny_mono h (fun xv s₁ h₁ => ?_) fun _ _ e => e)
  obtain ⟨l, vs, kk, rfl, hl, hn, turn, done⟩ := h₁
  have hls : s₁.heap.IsTuple l vs.toArray := ⟨_, hl, rfl, kk, rfl⟩
  refine wpAny_pyIter_tuple hls (new_set fun hNo => ?_)
  dsimp only at hNo ⊢
  generalize hH1 : s₁.heap.push _ = H1 at hNo ⊢
  have z1 : H1.objs.size = s₁.heap.objs.size + 1 := by rw [← hH1, Heap.size_push]
  have st1 : Stays s₁.heap H1 := fun b o e => by rw [← hH1]; exact Heap.get?_push_of_some _ e
  have hI1 : H1.IsTupleIter s₁.heap.objs.size l 0 := by rw [← hH1]; exact ⟨_, Heap.get?_push_size _ rfl, rfl, rfl⟩
  generalize hH2 : H1.push _ = H2 at hNo ⊢
  have z2 : H2.objs.size = s₁.heap.objs.size + 2 := by rw [← hH2, Heap.size_push, z1]
  have st2 : Stays H1 H2 := fun b o e => by rw [← hH2]; exact Heap.get?_push_of_some _ e
  refine wpAny_newFunctionEnv hcell (by intro y hy; simp at hy) (fun h₁ hns₁ hsb₁ => ?_) hkind
  dsimp only at hns₁ hsb₁ ⊢
  generalize hI : s₁.heap.objs.size = I at *
  have hDz : H1.objs.size = I + 1 := by rw [z1]
  generalize hD : H1.objs.size = D at *
  generalize hC : H2.objs.size = C at *
  have nI : s₁.heap.get? I = none := none_above (Nat.le_of_eq hI)
  have nD : s₁.heap.get? D = none := none_above (by omega)
  have old : ∀ b o, H2.get? b = some o → h₁.get? b = some o := fun b o e => hsb₁.extBut b o (fun q => absurd (Heap.lt_size e) (by rw [q, hC]; exact Nat.lt_irrefl _)) (Heap.get?_push_of_some _ e)
  have F : Fr s₁.heap C h₁ _ := ⟨hns₁, fun b o e => old b o (st2 b o (st1 b o e)), by rw [hI, z2]; exact Nat.le_add_right _ _⟩
  have hNo1 : NoSet w h₁ D := old _ _ hNo
  have hI2 : h₁.IsTupleIter I l 0 := hI1.at fun o e => old _ _ (st2 _ _ e)
  have hlI : l ≠ I := fun q => absurd (Heap.lt_size hl) (by rw [q, hI]; exact Nat.lt_irrefl _)
  have W := Walks.tuple (prog := prog) (w := w) hh I l hlI vs.toArray
  have hsz : vs.toArray.size = vs.length := List.size_toArray ..
  have tup : ∀ {h : Heap} {m}, Fr s₁.heap C h m → h.IsTuple l vs.toArray := fun F => hls.at fun o e => F.keep _ _ e
  have loop : codeAny (model prog w) A (.compLoop (.SetComp elt [⟨.Name x px, iter, [], 0⟩] scope pos) 0 (.ref I) (.ref D) (compEnvC scope cl C env))
        (compPost (model prog w) A Nope none Q (.ref D) C) { s₁ with heap := h₁, toks := s₁.toks + ([] : List (Str × Value)).length } := by
    refine loop_set (fun k s' => ∃ h' tk m' i, SetSt w s₁.heap C s₁ I D l vs.length k s' h' tk m' i) ?_ (vs.length + 1)
      ⟨h₁, _, _, 0, rfl, hI2, F, fun _ => hNo1, fun q => absurd q (Nat.lt_irrefl _), Nat.zero_le _, rfl⟩
    rintro k s' ⟨h', tk, m', i, rfl, hit, F', hno, hone, hi, rfl⟩
    have cI : C ≠ I := by omega
    have cD : C ≠ D := by omega
    have dI : D ≠ I := by omega
    by_cases hlt : i < vs.length
    · refine W.item i _ _ _ (by rw [hsz]; exact hlt) ⟨hit, tup F'⟩ fun v h₂ tk₂ hP hst₂ hk₂ => ?_
      have hv : vs[i]? = some v := by simpa using hP
      have k2 : ∀ b o, b ≠ I → h'.get? b = some o → h₂.get? b = some o := fun b o hb e => hk₂ b o (by simpa using hb) e
      have F₂ : Fr s₁.heap C h₂ m' := ⟨F'.ns.at' fun o e => k2 _ o cI e, fun b o e => k2 b o (fun q => by rw [q, nI] at e; cases e) (F'.keep b o e), F'.above⟩
      refine nope_noted (env := compEnvC scope cl C env) (wpAny_assign_Name (wpAny_storeName_local (lookup_relabel_local hx) F₂.ns (fun h₃ hn₃ hs₃ => ?_) (by simp [compEnvC, relabel, hkind])))
      have F₃ : Fr s₁.heap C h₃ _ := F₂.set hn₃ hs₃
      obtain ⟨oI, hoI, hcI, hdI⟩ := id hst₂.1
      have hoI₃ : h₃.get? I = some oI := (hs₃.2 I cI.symm).trans hoI
      obtain ⟨oD, hoD, hD₁, hD₂⟩ : ∃ oD, h₃.get? D = some oD ∧ (∀ g : Heap, i = 0 → g.get? D = some oD → NoSet w g D) ∧ (∀ g : Heap, 0 < i → g.get? D = some oD → OneSet w g D) := by
        rcases Nat.eq_zero_or_pos i with e | e
        · exact ⟨_, (hs₃.2 D cD.symm).trans (k2 D _ dI (hno e)), fun g _ hg => hg, fun _ q => by omega⟩
        · obtain ⟨ep, t, j, ho, r⟩ := hone e
          exact ⟨_, (hs₃.2 D cD.symm).trans (k2 D _ dI ho), fun _ q => by omega, fun g _ hg => ⟨ep, t, j, hg, r⟩⟩
      have N₃ : News s₁.heap C h₃ [(I, oI), (D, oD)] := fun p hp => by
        rcases List.mem_cons.mp hp with rfl | hp
        · exact ⟨hoI₃, cI.symm, nI⟩
        · rw [List.mem_singleton.mp hp]; exact ⟨hoD, cD.symm, nD⟩
      refine nope_noted (env := compEnvC scope cl C env) (wpAny_mono (turn C i v m' h₃ (tk₂ + 1) _ hv F₃ N₃) ?_ fun _ _ e => e)
      rintro y s₄ ⟨rfl, h₄, tk₄, m₄, rfl, F₄, N₄⟩
      have hI₄ := (N₄ _ (.head _)).1
      have hD₄ := (N₄ _ (.tail _ (.head _))).1
      rcases Nat.eq_zero_or_pos i with e | e
      · refine add_first (hD₁ _ e hD₄) fun h₅ hs₅ hone₅ => ?_
        refine ⟨vs.length + 1 - (i + 1), by omega, h₅, _, m₄, i + 1, rfl, ⟨oI, (hs₅.2 I dI.symm).trans hI₄, hcI, hdI⟩, ⟨F₄.ns.sameBut hs₅ cD, fun b o e => (hs₅.2 b (fun q => by rw [q, nD] at e; cases e)).trans (F₄.keep b o e), F₄.above⟩, fun q => by omega, fun _ => hone₅, hlt, rfl⟩
      · refine add_again (hD₂ _ e hD₄) ?_
        exact ⟨vs.length + 1 - (i + 1), by omega, h₄, _, m₄, i + 1, rfl, ⟨oI, hI₄, hcI, hdI⟩, F₄, fun q => by omega, fun _ => hD₂ _ e hD₄, hlt, rfl⟩
    · have hin : i = vs.length := by omega
      subst hin
      refine W.done _ _ _ (by rw [hsz]; exact ⟨hit, tup F'⟩) fun h₂ tk₂ hk₂ => ?_
      have k2 : ∀ b o, b ≠ I → h'.get? b = some o → h₂.get? b = some o := fun b o hb e => hk₂ b o (by simpa using hb) e
      obtain ⟨ep, t, j, ho, r⟩ := hone hn
      refine ⟨m', F'.ns.at' fun o e => k2 _ o cI e, fun h₃ hs₃ => ?_⟩
      refine done D h₃ tk₂ (fun b o e => (hs₃.2 b (fun q => ?_)).trans (k2 b o (fun q => by rw [q, nI] at e; cases e) (F'.keep b o e))) ⟨ep, t, j, (hs₃.2 D cD.symm).trans (k2 D _ dI ho), r⟩ nD
      have h1 := Heap.lt_size e
      rw [q, hI, z2] at h1
      exact absurd h1 (Nat.not_lt.mpr (Nat.le_add_right _ _))
  exact start_set (E := Nope) loop (W.self 0 _ _ _ ⟨hI2, tup F⟩ loop)
end

end
theorem calm_G5 : True := by
  w_top off
  trivial
open PySem PySem.W PySem.W.X PyProof.Rows PySem.Calls PySem.Spec
noncomputable abbrev DoneS (env : Env) (y : Str) (s : Shared) (m : Str → Option Value) (n : Nat) (J : Nat → List Value → List (Addr × Obj) → Prop) (Q : Flow → Shared → Prop) : Prop :=
  ∀ (D : Addr) (h' : Heap) (tk : Nat) (ys : List Value) (nx : List (Addr × Obj)) (e : Nat), (∀ b o, b ≠ env.locals → s.heap.get? b = some o → h'.get? b = some o) → h'.Ns env.locals (fun z => if z = y then some (.ref D) else m z) →
    h'.get? D = some (listOf ys.toArray e) → s.heap.get? D = none → (∀ p ∈ nx, h'.get? p.1 = some p.2 ∧ s.heap.get? p.1 = none ∧ p.1 ≠ D) → J n ys nx → Q .next { s with heap := h', toks := tk }
inductive CompAtR (prog : Program) (w : World) (A : Around) (env : Env) (scope : Scope) (cl : List (Str × Addr)) (x y : Str) (ifs : List Expr) (elt : Expr) (Q : Flow → Shared → Prop) (it : Value) (s : Shared)
    (s₁ : Shared) (I : Addr) (fp : List Addr) (n : Nat) (P : Nat → Value → Prop) (St : Nat → Heap → Prop) (J : Nat → List Value → List (Addr × Obj) → Prop) (m : Str → Option Value) : Prop where
  | mk (it : it = .ref I) (hs : s = { s₁ with heap := s.heap }) (W : Walks prog w A I fp [I] n P St) (hz : n ≤ sizeLine) (h0I : s₁.heap.get? I = none) (hst : Stays s₁.heap s.heap) (hbs : s₁.heap.objs.size ≤ s.heap.objs.size) (hf : ∀ b ∈ fp, b < s.heap.objs.size) (hff : ∀ b ∈ fp, b = I ∨ ∃ o, s₁.heap.get? b = some o) (hI : ∀ i h, St i h → ∃ o, h.get? I = some o) (st : St 0 s.heap) (j0 : J 0 [] []) (hn : s₁.heap.Ns env.locals m) (turn : Turn prog w A env scope cl x ifs elt s₁ n P J) (done : DoneS env y s₁ m n J Q)
noncomputable def CompAtS (prog : Program) (w : World) (A : Around) (env : Env) (scope : Scope) (cl : List (Str × Addr)) (x y : Str) (ifs : List Expr) (elt : Expr) (Q : Flow → Shared → Prop) (it : Value) (s : Shared) : Prop :=
  ∃ (s₁ : Shared) (I : Addr) (fp : List Addr) (n : Nat) (P : Nat → Value → Prop) (St : Nat → Heap → Prop) (J : Nat → List Value → List (Addr × Obj) → Prop) (m : Str → Option Value), CompAtR prog w A env scope cl x y ifs elt Q it s s₁ I fp n P St J m
section
variable {prog : Program} {w : World} {A : Around} {s : Shared} {env : Env}
theorem comp_assign {elt iter : Expr} {x y : Str} {px py : Pos} {ifs : List Expr} {scope : Scope} {cl : List (Str × Addr)} {pos spos : Pos} {Q : Flow → Shared → Prop}
    (hsw : swapsWith (.ListComp elt [⟨.Name x px, iter, ifs, 0⟩] scope pos) (some (.Name y py)) spos.line env = pure true)
    (hclos : closureFor scope env = pure cl) (hcell : ∀ y ∈ scope.names, y.2 ≠ .cell) (hkind : scope.kind = .function)
    (hnames : ∀ y ∈ scope.names, y.2 = .local → scope.names.lookup y.1 = some .local) (hx : scope.names.lookup x = some .local)
    (hy : env.kindOf y = some .local) (hp : (env.scope.kind == .class || (env.scope.kind == .module && env.locals != env.globals)) = false)
    (h : wpAny (model prog w) A (eval iter env) (fun xv s₁ => wpAny (model prog w) A (pyIter xv) (fun it s₂ => CompAtS prog w A env scope cl x y ifs elt Q it s₂) Nope s₁) Nope s)
    (hs : ∀ x, foldedSetIterable iter env x = pure x := by intro _; rfl) :
    wpAny (model prog w) A (exec (.Assign [.Name y py] (.ListComp elt [⟨.Name x px, iter, ifs, 0⟩] scope pos) spos) env) Q Nope s := by
  rw [exec_Assign_Name_used _ _ _ _ hsw]
  refine wpAny_bind (wpAny_standAt (wpAny_bind ?_))
  show wpAny _ A (do let _ ← comprehension (.ListComp elt [⟨.Name x px, iter, ifs, 0⟩] scope pos) scope env _ (newList []) false (eval iter env) (some (assign (.Name y py) env))) _ _ s
  refine wpAny_bind (wpAny_mono (wpAny_comprehension_free (use := some (assign (.Name y py) env)) (Q := fun _ s' => Q .next s') rfl hs hclos hkind hnames
    (wpAny_mono h (fun xv s₁ h₁ => wpAny_mono h₁ (fun it s₂ h₂ => ?_) fun _ _ e => e) fun _ _ e => e)) (fun _ s' hq => wpAny_pure (wpAny_pure hq)) fun _ _ e => e)
  obtain ⟨sb, I, fp, n, P, St, J, mL, rfl, hsb, W, hsz, hI0, hbs, hbz, hfs, hfp, hIh, hst, h0, hL, turn, done⟩ := h₂
  generalize hbh : sb.heap = hb at *
  refine wpAny_newObj_type (wpAny_newFunctionEnv hcell (by intro y hy; simp at hy) (fun h₁ hns₁ hsb₁ => ?_) hkind)
  dsimp only at hns₁ hsb₁ ⊢
  generalize hH2 : s₂.heap.push { cls := .type "list", dict := none, data := .seq ([] : List Value).toArray } = H2 at hns₁ hsb₁ ⊢
  have hC : H2.objs.size = s₂.heap.objs.size + 1 := by rw [← hH2, Heap.size_push]
  have hDC : s₂.heap.objs.size ≠ H2.objs.size := by rw [hC]; exact Nat.ne_of_lt (Nat.lt_succ_self _)
  have below : ∀ b, b < s₂.heap.objs.size → b ≠ H2.objs.size ∧ b ≠ s₂.heap.objs.size := fun b hb => ⟨by rw [hC]; exact Nat.ne_of_lt (Nat.lt_succ_of_lt hb), Nat.ne_of_lt hb⟩
  have hDf : s₂.heap.objs.size ∉ fp := fun hm => Nat.lt_irrefl _ (hfs _ hm)
  have hCf : H2.objs.size ∉ fp := fun hm => by have := hfs _ hm; rw [hC] at this; exact Nat.lt_irrefl _ (Nat.lt_of_succ_lt this)
  have old : ∀ b o, s₂.heap.get? b = some o → h₁.get? b = some o := fun b o e => hsb₁.extBut b o (below b (Heap.lt_size e)).1 (Heap.get?_push_of_some _ (hH2 ▸ Heap.get?_push_of_some _ e))
  have hacc : h₁.PlainList s₂.heap.objs.size #[] := ⟨_, hsb₁.extBut _ _ hDC (Heap.get?_push_of_some _ (hH2 ▸ Heap.get?_push_size _ rfl))⟩
  have hst₁ : St 0 h₁ := W.frame _ _ _ hst fun b _ o e => old b o e
  have fresh : ∀ a, s₂.heap.objs.size ≤ a → hb.get? a = none := fun a ha => by
    cases e : hb.get? a with
    | none => rfl
    | some o' => exact absurd (Heap.lt_size (hbs _ _ e)) (Nat.not_lt.mpr ha)
  have F : Fr hb H2.objs.size h₁ _ := ⟨hns₁, fun b o e => old b o (hbs b o e), by rw [hC]; exact Nat.le_succ_of_le hbz⟩
  have hLold : ∃ o, hb.get? env.locals = some o := let ⟨o, _, _, ho, _⟩ := hL; ⟨o, ho⟩
  have hLC : env.locals ≠ H2.objs.size := fun q => by obtain ⟨o, ho⟩ := hLold; rw [q, fresh _ (by rw [hC]; exact Nat.le_succ _)] at ho; cases ho
  have hLD : env.locals ≠ s₂.heap.objs.size := fun q => by obtain ⟨o, ho⟩ := hLold; rw [q, fresh _ (Nat.le_refl _)] at ho; cases ho
  have loop : ∀ s₃ : Shared, s₃ = { s₂ with heap := h₁, toks := s₂.toks + ([] : List (Str × Value)).length } →
      codeAny (model prog w) A (.compLoop (.ListComp elt [⟨.Name x px, iter, ifs, 0⟩] scope pos) 0 (.ref I) (.ref s₂.heap.objs.size) (compEnvC scope cl H2.objs.size env))
        (compPost (model prog w) A Nope (some (assign (.Name y py) env)) (fun _ s' => Q .next s') (.ref s₂.heap.objs.size) H2.objs.size) s₃ := by
    rintro s₃ rfl
    have htks : sb.toks = s₂.toks := by rw [hsb]
    refine comp_loop (cenv := compEnvC scope cl H2.objs.size env) W hsz (lookup_relabel_local hx) (by simp [compEnvC, relabel, hkind]) hDC hDf hCf hI0 (fresh _ (Nat.le_refl _)) hfp hIh hst₁ hacc F h0 ?_ ?_
    · intro i v ys nx m h tk io lo htk hi hP hJ hnx hDI F' N'
      have := turn H2.objs.size s₂.heap.objs.size I i v ys nx m h tk io lo (by rw [htks]; exact htk) hi hP hJ hnx hDI (hbh ▸ F') (hbh ▸ N')
      rw [hbh] at this
      rw [hsb]
      exact this
    · intro h' tk m' ys nx e htk F' hD hnx hJ
      show wpAny _ A (assign (.Name y py) env (.ref s₂.heap.objs.size)) _ _ _
      refine wpAny_assign_Name (wpAny_storeName_local hy (hL.at' fun o e => F'.keep _ o e) (fun h₂ hn₂ hs₂ => ?_) hp)
      refine ⟨m', F'.ns.sameBut hs₂ (Ne.symm hLC), fun h₃ hs₃ => ?_⟩
      have up : ∀ b o, b ≠ env.locals → b ≠ H2.objs.size → h'.get? b = some o → h₃.get? b = some o := fun b o h1 h2 e => hs₃.extBut b o h2 (hs₂.extBut b o h1 e)
      have nC : ∀ b o, hb.get? b = some o → b ≠ H2.objs.size := fun b o e q => by rw [q, fresh _ (by rw [hC]; exact Nat.le_succ _)] at e; cases e
      have fin := done s₂.heap.objs.size h₃ (tk + 1) ys nx e (fun b o hb' e => up b o hb' (nC b o (hbh ▸ e)) (F'.keep b o (hbh ▸ e))) (hn₂.sameBut hs₃ hLC) (up _ _ hLD.symm hDC hD) (hbh ▸ fresh _ (Nat.le_refl _))
        (fun p hp => ⟨up _ _ (fun q => by obtain ⟨o, ho⟩ := hLold; rw [← q, (hnx p hp).2.1] at ho; cases ho) (hnx p hp).2.2.1 (hnx p hp).1, hbh ▸ (hnx p hp).2.1, (hnx p hp).2.2.2⟩) hJ
      rw [hsb]
      exact fin
  exact codeAny_compStart_list (loop _ rfl) (W.self 0 _ _ _ hst₁ (loop _ rfl))
theorem comp_assignP {elt iter : Expr} {x y : Str} {px py : Pos} {ifs : List Expr} {scope : Scope} {cl : List (Str × Addr)} {pos spos : Pos} {Q : Flow → Shared → Prop}
    (hy : env.kindOf y = some .local) (hsw : swapsWith (.ListComp elt [⟨.Name x px, iter, ifs, 0⟩] scope pos) (some (.Name y py)) spos.line env = pure true)
    (hclos : closureFor scope env = pure cl) (hkind : scope.kind = .function) (hx : scope.names.lookup x = some .local) (hp : (env.scope.kind == .class || (env.scope.kind == .module && env.locals != env.globals)) = false)
    (hcell : ∀ y ∈ scope.names, y.2 ≠ .cell) (hnames : ∀ y ∈ scope.names, y.2 = .local → scope.names.lookup y.1 = some .local) (hs : ∀ x, foldedSetIterable iter env x = pure x)
    (h : wpAny (model prog w) A (eval iter env) (fun xv s₁ => wpAny (model prog w) A (pyIter xv) (fun it s₂ => CompAtS prog w A env scope cl x y ifs elt Q it s₂) Nope s₁) Nope s) :
    wpAny (model prog w) A (exec (.Assign [.Name y py] (.ListComp elt [⟨.Name x px, iter, ifs, 0⟩] scope pos) spos) env) Q Nope s :=
  comp_assign hsw hclos hcell hkind hnames hx hy hp h hs
end
section
variable {prog : Program} {w : World} {A : Around} {s : Shared} {env : Env} {scope : Scope} {cl : List (Str × Addr)} {x y : Str} {ifs : List Expr} {elt : Expr} {Q : Flow → Shared → Prop} {mL : Str → Option Value}
theorem comp_srcS {io₀ : Obj} {fp : List Addr} {n : Nat} {P : Nat → Value → Prop} {St : Nat → Heap → Prop} {J : Nat → List Value → List (Addr × Obj) → Prop}
    (W : Walks prog w A s.heap.objs.size fp [s.heap.objs.size] n P St) (hsz : n ≤ sizeLine) (hfs : ∀ b ∈ fp, b = s.heap.objs.size ∨ ∃ o, s.heap.get? b = some o) (hIh : ∀ i h, St i h → ∃ o, h.get? s.heap.objs.size = some o) (hst : St 0 (s.heap.push io₀))
    (h0 : J 0 [] []) (hL : s.heap.Ns env.locals mL) (turn : Turn prog w A env scope cl x ifs elt s n P J) (done : DoneS env y s mL n J Q) :
    CompAtS prog w A env scope cl x y ifs elt Q (.ref s.heap.objs.size) { s with heap := s.heap.push io₀ } := by
  refine ⟨s, s.heap.objs.size, fp, n, P, St, J, mL, rfl, rfl, W, hsz, none_above (Nat.le_refl _), fun b o e => Heap.get?_push_of_some _ e, by show _ ≤ (s.heap.push io₀).objs.size; rw [Heap.size_push]; exact Nat.le_succ _, fun b hb => ?_, hfs, hIh, hst, h0, hL, turn, done⟩
  show b < (s.heap.push io₀).objs.size
  rw [Heap.size_push]
  rcases hfs b hb with rfl | ⟨o, e⟩
  · exact Nat.lt_succ_self _
  · exact Nat.lt_succ_of_lt (Heap.lt_size e)
theorem comp_listS {l : Addr} {vs : List Value} {k : Nat} (J : Nat → List Value → List (Addr × Obj) → Prop) (hh : A.handled = none) (hl : s.heap.get? l = some { cls := .type "list", data := .seq vs.toArray k }) (hsz : vs.length ≤ sizeLine)
    (h0 : J 0 [] []) (hL : s.heap.Ns env.locals mL) (turn : Turn prog w A env scope cl x ifs elt s vs.length (fun i v => vs[i]? = some v) J) (done : DoneS env y s mL vs.length J Q) :
    wpAny (model prog w) A (pyIter (.ref l)) (fun it s₂ => CompAtS prog w A env scope cl x y ifs elt Q it s₂) Nope s := by
  have hls : s.heap.IsList l vs.toArray := ⟨_, hl, rfl, k, rfl⟩
  have hne : l ≠ s.heap.objs.size := Nat.ne_of_lt (Heap.lt_size hl)
  refine wpAny_pyIter_list hls ?_
  have W := Walks.list (prog := prog) (w := w) hh s.heap.objs.size l hne vs.toArray
  refine comp_srcS W (by simpa using hsz) ?_ ?_ ⟨⟨_, Heap.get?_push_size _ rfl, rfl, rfl⟩, hls.at fun o e => Heap.get?_push_of_some _ e⟩ h0 hL ?_ ?_
  · intro b hb
    rcases List.mem_cons.mp hb with e | hb
    · exact .inl e
    · rw [List.mem_singleton.mp hb]; exact .inr ⟨_, hl⟩
  · rintro i h ⟨⟨o, ho, _⟩, _⟩
    exact ⟨o, ho⟩
  · intro C D I i v ys nx m h tk io lo htk hi hP hJ hnx hDI F N
    exact turn C D I i v ys nx m h tk io lo htk (by simpa using hi) (by simpa using hP) hJ hnx hDI F N
  · intro D h' tk ys nx e st hn hD hD0 hnx hJ
    exact done D h' tk ys nx e st hn hD hD0 hnx (by simpa using hJ)
theorem comp_tupS {l : Addr} {vs : List Value} {k : Nat} (J : Nat → List Value → List (Addr × Obj) → Prop) (hh : A.handled = none) (hl : s.heap.get? l = some { cls := .type "tuple", data := .seq vs.toArray k }) (hsz : vs.length ≤ sizeLine)
    (h0 : J 0 [] []) (hL : s.heap.Ns env.locals mL) (turn : Turn prog w A env scope cl x ifs elt s vs.length (fun i v => vs[i]? = some v) J) (done : DoneS env y s mL vs.length J Q) :
    wpAny (model prog w) A (pyIter (.ref l)) (fun it s₂ => CompAtS prog w A env scope cl x y ifs elt Q it s₂) Nope s := by
  have hls : s.heap.IsTuple l vs.toArray := ⟨_, hl, rfl, k, rfl⟩
  have hne : l ≠ s.heap.objs.size := Nat.ne_of_lt (Heap.lt_size hl)
  refine wpAny_pyIter_tuple hls ?_
  have W := Walks.tuple (prog := prog) (w := w) hh s.heap.objs.size l hne vs.toArray
  refine comp_srcS W (by simpa using hsz) ?_ ?_ ⟨⟨_, Heap.get?_push_size _ rfl, rfl, rfl⟩, hls.at fun o e => Heap.get?_push_of_some _ e⟩ h0 hL ?_ ?_
  · intro b hb
    rcases List.mem_cons.mp hb with e | hb
    · exact .inl e
    · rw [List.mem_singleton.mp hb]; exact .inr ⟨_, hl⟩
  · rintro i h ⟨⟨o, ho, _⟩, _⟩
    exact ⟨o, ho⟩
  · intro C D I i v ys nx m h tk io lo htk hi hP hJ hnx hDI F N
    exact turn C D I i v ys nx m h tk io lo htk (by simpa using hi) (by simpa using hP) hJ hnx hDI F N
  · intro D h' tk ys nx e st hn hD hD0 hnx hJ
    exact done D h' tk ys nx e st hn hD hD0 hnx (by simpa using hJ)
theorem comp_rangeS {r : Addr} {a c : Int} {b : Int} {t u v : Tok} {n : Nat} (J : Nat → List Value → List (Addr × Obj) → Prop) (hh : A.handled = none) (hr : IsRange s.heap r a b c t u v) (hsm : Builtin.Range.small a b c = true) (hn : Builtin.Range.rangeSize a b c = (n : Int)) (hsz : n ≤ sizeLine)
    (h0 : J 0 [] []) (hL : s.heap.Ns env.locals mL) (turn : Turn prog w A env scope cl x ifs elt s n (fun i v => ∃ t, v = .int (a + (i : Int) * c) t) J) (done : DoneS env y s mL n J Q) :
    wpAny (model prog w) A (pyIter (.ref r)) (fun it s₂ => CompAtS prog w A env scope cl x y ifs elt Q it s₂) Nope s := by
  refine wpAny_pyIter_range hr hsm ?_
  have W := Walks.range (prog := prog) (w := w) hh s.heap.objs.size a c n
  refine comp_srcS W hsz ?_ ?_ (by show IsRangeIter _ _ _ _ _; rw [hn]; simpa using Heap.get?_push_size _ rfl) h0 hL turn done
  · intro b hb
    exact .inl (List.mem_singleton.mp hb)
  · intro i h ho
    exact ⟨_, ho⟩
/-- the frame and the ledger behind an assigned comprehension -/
theorem doneS_fr {h₀ h h' : Heap} {L : Addr} {m : Str → Option Value} {y : Str} {v : Value} (F : Fr h₀ L h m) (st : ∀ b o, b ≠ L → h.get? b = some o → h'.get? b = some o) (hn : h'.Ns L (fun z => if z = y then some v else m z)) : Fr h₀ L h' (fun z => if z = y then some v else m z) :=
  ⟨hn, fun b o e => st b o (fun q => absurd (Heap.lt_size e) (Nat.not_lt.mpr (q ▸ F.above))) (F.keep b o e), F.above⟩
theorem doneS_news {h₀ h h' : Heap} {L D : Addr} {m : Str → Option Value} {lo : Obj} {news nx : List (Addr × Obj)} (F : Fr h₀ L h m) (N : News h₀ L h news) (st : ∀ b o, b ≠ L → h.get? b = some o → h'.get? b = some o) (hD : h'.get? D = some lo) (hD0 : h.get? D = none) (hnx : ∀ p ∈ nx, h'.get? p.1 = some p.2 ∧ h.get? p.1 = none ∧ p.1 ≠ D) :
    News h₀ L h' ((D, lo) :: news ++ nx) := by
  have nw : ∀ a, h.get? a = none → a ≠ L ∧ h₀.get? a = none := fun a ha => ⟨fun q => by
    obtain ⟨oL, _, _, hL, _⟩ := F.ns
    rw [q] at ha; exact absurd (hL.symm.trans ha) (by simp), by
    cases q : h₀.get? a with
    | none => rfl
    | some o => exact absurd ((F.keep _ _ q).symm.trans ha) (by simp)⟩
  intro p hp
  rcases List.mem_append.mp hp with hp | hp
  · rcases List.mem_cons.mp hp with rfl | hp
    · exact ⟨hD, nw _ hD0⟩
    · exact ⟨st _ _ (N p hp).2.1 (N p hp).1, (N p hp).2⟩
  · exact ⟨(hnx p hp).1, nw _ (hnx p hp).2.1⟩
end
local macro_rules | `(tactic| walk_at "eval Name") => `(tactic| (k_here; (with_reducible show wpAny _ _ (eval _ (envOfC _ _ _ _ _)) _ _ _); k_dflt (first
  | walk_at "nmL"
  | (refine' nmN _ _ _ _ _ _ _ _; rotate_left 6; walk_at "n4"; (· exact rfl); (· k_mem); (· assumption); k_whole)
  | walk_at "nm")))
local macro_rules | `(tactic| walk_at "swap") => `(tactic| (refine' comp_assignP _ _ _ _ _ _ _ _ _ _; rotate_left; (iterate 6 (· exact rfl)); (· decide); (· decide); (· (intro _; exact rfl))))


theorem calm_M17 : True := by
  w_top off
  trivial
section
open PySem PySem.W PySem.W.X PyProof.Rows PySem.Calls
theorem one_test {prog : Program} {w : World} {A : Around} {cenv : Env} {e : Expr} {Q : Bool → Shared → Prop} {s : Shared} (h : wpAny (model prog w) A (isTrue e cenv (eval e cenv)) Q Nope s) : wpAny (model prog w) A (testsOf [e] cenv) Q Nope s := by
  unfold testsOf
  rw [List.forIn_cons, if_pos rfl]
  refine wpAny_bind (wpAny_bind (wpAny_mono h (fun b s' hb => wpAny_pure ?_) fun _ _ x => x))
  show wpAny _ _ (pure b) _ _ _
  exact wpAny_pure hb
theorem Rm.line {A : Around} {d : Nat} (R : Rm A d) (hd : d ≤ 3000) : A.in1.units < cLine := by
  have := R.hu
  show A.units + 1 < 9900
  omega
noncomputable def keepPy (c : Str) : Bool := decide ((c.length : Int) ≠ 0) && (c != Str.ofString ".")
noncomputable def strC (op : CmpOp) (x y : Str) : Bool := match op with | .Lt => decide (x.cps.toList < y.cps.toList) | .LtE => !decide (y.cps.toList < x.cps.toList) | .Gt => decide (y.cps.toList < x.cps.toList) | _ => !decide (x.cps.toList < y.cps.toList)
noncomputable def btOf (op : CmpOp) (ks : List (List Str)) (i j : Nat) : Bool := lcmp strC op (ks.getD i []) (ks.getD j [])
noncomputable def bestPy (op : CmpOp) (ks : List (List Str)) : List Str := ks.getD (argBest (btOf op ks) (ks.length - 1)) []
theorem strs_cmpIn {w : World} {A : Around} {h0 : Heap} {qs : List (Addr × List (Str × Tok) × Nat)} {op : CmpOp} {code : Int} (hop : OpCode op code) (hq : ∀ q ∈ qs, h0.get? q.1 = some (listOf (sv q.2.1).toArray q.2.2)) (hu : A.units < cLine) :
    CmpIn w A op h0 (qs.map fun q => Value.ref q.1) (btOf op (qs.map fun q => q.2.1.map (·.1))) := by
  intro i j vi vj s Q E st hi hj h
  rw [List.getElem?_map] at hi hj
  obtain ⟨q1, e1, rfl⟩ := Option.map_eq_some_iff.mp hi
  obtain ⟨q2, e2, rfl⟩ := Option.map_eq_some_iff.mp hj
  refine list_cmp (xs := q1.2.1) (ys := q2.2.1) cmpK_str hop (st _ _ (hq _ (List.mem_of_getElem? e1))) (st _ _ (hq _ (List.mem_of_getElem? e2))) hu ?_
  have f : ∀ {k : Nat} {q : Addr × List (Str × Tok) × Nat}, qs[k]? = some q → (qs.map fun q => q.2.1.map (·.1)).getD k [] = q.2.1.map (·.1) := fun e => by rw [List.getD_eq_getElem?_getD, List.getElem?_map, e]; rfl
  rw [btOf, f e1, f e2] at h
  exact h
theorem best_is {qs : List (Addr × List (Str × Tok) × Nat)} {op : CmpOp} {v : Value} (h : (qs.map fun q => Value.ref q.1)[argBest (btOf op (qs.map fun q => q.2.1.map (·.1))) ((qs.map fun q => Value.ref q.1).length - 1)]? = some v) :
    ∃ q ∈ qs, v = .ref q.1 ∧ q.2.1.map (·.1) = bestPy op (qs.map fun q => q.2.1.map (·.1)) := by
  rw [List.getElem?_map] at h
  obtain ⟨q, e, rfl⟩ := Option.map_eq_some_iff.mp h
  refine ⟨q, List.mem_of_getElem? e, rfl, ?_⟩
  rw [bestPy, List.length_map]
  rw [List.length_map] at e
  rw [List.getD_eq_getElem?_getD, List.getElem?_map, e]
  rfl
noncomputable def cprePy : List Str → List Str → List Str
  | x :: xs, y :: ys => if x = y then x :: cprePy xs ys else []
  | _, _ => []
noncomputable def commonPy (xs : List Str) : Str :=
  let ks := xs.map fun x => (Txt.split x (Str.ofString "/")).filter keepPy
  Str.ofString "/" ++ Txt.join (Str.ofString "/") (cprePy (bestPy .Lt ks) (bestPy .Gt ks))
theorem common_eq (ts : List (Str × Tok)) : commonPy (ts.map (·.1)) = Str.ofString "/" ++ Txt.join (Str.ofString "/") (cprePy (bestPy .Lt (ts.map fun z => (Txt.split z.1 (Str.ofString "/")).filter keepPy)) (bestPy .Gt (ts.map fun z => (Txt.split z.1 (Str.ofString "/")).filter keepPy))) := by
  rw [commonPy, List.map_map]; rfl
/-- the greatest is no proper beginning of the least -/
noncomputable def PreOk (k1 k2 : List Str) : Prop := ∀ i, i < k1.length → (∀ j, j < i → k1[j]? = k2[j]?) → i < k2.length
theorem cpre_at : ∀ (k1 k2 : List Str) (i : Nat) (a b : Str), (∀ j, j < i → k1[j]? = k2[j]?) → k1[i]? = some a → k2[i]? = some b → a ≠ b → k1.take i = cprePy k1 k2
  | x :: xs, y :: ys, 0, a, b, _, h1, h2, hne => by
    have e1 : x = a := by simpa using h1
    have e2 : y = b := by simpa using h2
    rw [cprePy, if_neg (by rw [e1, e2]; exact hne)]
    rfl
  | x :: xs, y :: ys, i + 1, a, b, h, h1, h2, hne => by
    have e : x = y := by simpa using h 0 (Nat.succ_pos _)
    rw [cprePy, if_pos e, List.take_succ_cons, cpre_at xs ys i a b (fun j hj => by simpa using h (j + 1) (by omega)) (by simpa using h1) (by simpa using h2) hne]
  | [], _, _, _, _, _, h1, _, _ => by simp at h1
  | _ :: _, [], _, _, _, _, _, h2, _ => by simp at h2
theorem cpre_all : ∀ (k1 k2 : List Str), (∀ j, j < k1.length → k1[j]? = k2[j]?) → cprePy k1 k2 = k1
  | [], _, _ => rfl
  | x :: xs, [], h => by have := h 0 (Nat.succ_pos _); simp at this
  | x :: xs, y :: ys, h => by
    have e : x = y := by simpa using h 0 (Nat.succ_pos _)
    rw [cprePy, if_pos e, cpre_all xs ys fun j hj => by simpa using h (j + 1) (by simpa using hj)]
theorem txt_small {us : List (Str × Tok)} (h : ∀ a ∈ us.map (·.1), a.length < 200) (hn : us.length ≤ 300) : (((us.map (·.1)).map (·.length)).sum + (us.map (·.1)).length * (Str.ofString "/").length ≤ 16777216) ∧ (Txt.join (Str.ofString "/") (us.map (·.1))).length ≤ 70000 := by
  have h1 := StrLaws.sumLen_le (B := 200) (us.map (·.1)) fun a ha => Nat.le_of_lt (h a ha)
  have h2 := StrLaws.join_length_le (Str.ofString "/") (us.map (·.1))
  have e : (Str.ofString "/").length = 1 := rfl
  rw [List.length_map] at h1 h2 ⊢
  rw [e] at h2 ⊢
  refine ⟨by omega, ?_⟩
  have h3 : (Txt.join (Str.ofString "/") (us.map (·.1))).length = (Str.join (Str.ofString "/") (us.map (·.1))).length := by unfold Txt.join; rw [StrLaws.glued_eq_join]
  omega
theorem same_next {l1 l2 : List (Str × Tok)} {i : Nat} {z z2 : Str × Tok} (h : (∀ j, j < i → (l1.map (·.1))[j]? = (l2.map (·.1))[j]?) ∧ l1[i]? = some z ∧ l2[i]? = some z2) (he : (z.1 != z2.1) = false) (j : Nat) (hj : j < i + 1) : (l1.map (·.1))[j]? = (l2.map (·.1))[j]? := by
  rcases Nat.lt_or_ge j i with q | q
  · exact h.1 j q
  · have e : j = i := by omega
    subst e
    rw [List.getElem?_map, List.getElem?_map, h.2.1, h.2.2]
    have : z.1 = z2.1 := by simpa only [bne_eq_false_iff_eq] using he
    simp [this]
theorem keep_one {us l : List (Str × Tok)} {j : Nat} {z : Str × Tok} (h : us.map (·.1) = ((l.take j).map (·.1)).filter keepPy ∧ l[j]? = some z) (h1 : (z.1.length : Int) ≠ 0) (h2 : (z.1 != Str.ofString ".") = true) : (us ++ [z]).map (·.1) = ((l.take (j + 1)).map (·.1)).filter keepPy := by
  rw [List.take_add_one, h.2, List.map_append, List.map_append, List.filter_append, h.1]
  congr 1
  show [z.1] = List.filter keepPy [z.1]
  rw [List.filter_cons_of_pos (by rw [keepPy, h2, decide_eq_true h1]; rfl)]
  rfl
theorem keep_dot {us l : List (Str × Tok)} {j : Nat} {z : Str × Tok} (h : us.map (·.1) = ((l.take j).map (·.1)).filter keepPy ∧ l[j]? = some z) (h2 : (z.1 != Str.ofString ".") = false) : us.map (·.1) = ((l.take (j + 1)).map (·.1)).filter keepPy := by
  rw [List.take_add_one, h.2, List.map_append, List.filter_append, h.1]
  show _ = _ ++ List.filter keepPy [z.1]
  rw [List.filter_cons_of_neg (by rw [keepPy, h2, Bool.and_false]; exact Bool.false_ne_true)]
  simp
theorem keep_none {us l : List (Str × Tok)} {j : Nat} {z : Str × Tok} (h : us.map (·.1) = ((l.take j).map (·.1)).filter keepPy ∧ l[j]? = some z) (h1 : (z.1.length : Int) = 0) : us.map (·.1) = ((l.take (j + 1)).map (·.1)).filter keepPy := by
  rw [List.take_add_one, h.2, List.map_append, List.filter_append, h.1]
  show _ = _ ++ List.filter keepPy [z.1]
  rw [List.filter_cons_of_neg (by rw [keepPy, decide_eq_false (fun q => q h1), Bool.false_and]; exact Bool.false_ne_true)]
  simp
local macro_rules | `(tactic| walk_at "eval ListComp") => `(tactic| walk_at "H")
local macro_rules | `(tactic| walk_at "exec Assign cons ListComp") => `(tactic| walk_at "H")
local macro_rules | `(tactic| walk_at "eval SetComp") => `(tactic| walk_at "H")
local macro_rules | `(tactic| walk_at "subscriptTail Name Name ref int") => `(tactic| walk_at "H")
local macro_rules | `(tactic| walk_at "subscriptTail Name Constant ref int") => `(tactic| walk_at "H")
local macro_rules | `(tactic| walk_at "subscriptTail Name Slice ref ref") => `(tactic| walk_at "H")
local macro_rules | `(tactic| walk_at "subscriptTail Name Slice ref") => `(tactic| walk_at "H")
local macro_rules | `(tactic| walk_at "subscriptTail") => `(tactic| walk_at "H")
local macro_rules | `(tactic| walk_at "call builtin:str.join") => `(tactic| walk_at "H")
local macro_rules | `(tactic| walk_at "call type:map") => `(tactic| walk_at "H")
local macro_rules | `(tactic| walk_at "call type:tuple") => `(tactic| walk_at "H")
local macro_rules | `(tactic| walk_at "call builtin:min") => `(tactic| walk_at "H")
local macro_rules | `(tactic| walk_at "call builtin:max") => `(tactic| walk_at "H")
local macro_rules | `(tactic| walk_at "call type:enumerate") => `(tactic| walk_at "H")
local macro_rules | `(tactic| walk_at "exec For Tuple Call cons nil") => `(tactic| walk_at "H")
set_option maxRecDepth 100000 in
set_option maxHeartbeats 8000000 in
theorem common_c (w : World) {s : Shared} {p : Program} {loose : List Str} {mean : ExcName → Option Value} {mg mb : Str → Option Value} (KX : (Mine.KK w.params).In s.heap) (T : Top p loose mean mg mb s.heap) 
   (l : Addr) (z0 : Str × Tok) (ts : List (Str × Tok)) (k : Nat) (hl : s.heap.get? l = some (listOf (sv (z0 :: ts)).toArray k)) (hn4 : ts.length < 4) (hab : ∀ z ∈ z0 :: ts, Txt.startswith z.1 (Str.ofString "/") = true) (hsz : ∀ z ∈ z0 :: ts, z.1.length < 200) (hpre : PreOk (bestPy .Lt ((z0 :: ts).map fun z => (Txt.split z.1 (Str.ofString "/")).filter keepPy)) (bestPy .Gt ((z0 :: ts).map fun z => (Txt.split z.1 (Str.ofString "/")).filter keepPy))) :
   Call w 170 (.ref 141) [.ref l] (fun h r => ∃ t, r = .str (commonPy ((z0 :: ts).map (·.1))) t) s := by
  k_dflt (refine' enterC (binds := [(Str.ofString "paths", .ref l)]) ?k1 ?k2 ?k3 ?k4 ?k5 ?k6 ?k7 ?k8 ?k9 ?k10 ?k11 ?_; (case k1 => decide); (case k2 => k_asm); (case k3 => k_asm); (case k4 => k_is); (case k5 => k_is); (case k6 => exact .of_eq rfl); (case k7 => (intro n y hy; rw [List.mem_singleton.mp hy]; exact .inl rfl)); (case k8 => decide +kernel); (case k9 => exact rfl); (case k10 => exact rfl); (case k11 => exact rfl); k_whole)
  intro L' h' tk' cells' F' N' Y'
  obtain ⟨o1, o2, rfl, d1, d2⟩ := CellsAre.two Y'
  replace d1 : o1.data = .cell none := d1
  replace d2 : o2.data = .cell none := d2
  replace F' : Fr s.heap L' h' (fun y => if y = Str.ofString "paths" then some (.ref l) else none) := F'
  clear Y'
  (try dsimp only at N' ⊢); dsimp only [S.p, S.sep, S.i, S.head, S.tail, S.fspath, S.uugetusep, S.len, S.rfind, S.rstrip, S.a, S.b, S.path, S.startswith, S.endswith, S.join, S.TypeError, S.AttributeError, S.BytesWarning, S.uucheckuargutypes, S.isinstance, S.bytes, S.empty, S.splitroot, S.normpath, S.dot, S.dotdot, S.uu, S.initial_slashes, S.comps, S.new_comps, S.comp, S.split, S.append, S.pop, S.paths, S.tuple, S.map, S.ValueError, S.split_paths, S.isabs, S.s, S.c, S.curdir, S.s1, S.s2, S.common, S.enumerate, S.min, S.max, S.prefix, S.commonpath, S.count, S.K, S.mycmp, S.obj, S.other, S.self, S.function, S.sequence, S.initial, S.uuinitialumissing, S.it, S.iter, S.value, S.next, S.StopIteration, S.element, S.reduce, S.cell, S.kinds, S.k, S.range, S.uulawupieces, S.pair, S.piece, S.n, S.d, S.add, S.sub, S.uulawustep, S.names, S.uulawunames, S.place, S.uulawuupward, S.replace, S.name, S.one, S.uulawuacross, S.mul, S.low, S.high, S.uulawusimplest, S.uulawumeet, S.script, S.key, S.places, S.sides, S.cmp_to_key, S.pieces, S.sum, S.crooked, S.values, S.keys, S.countOf, S.j, S.x, S.y, S.t, S.told, S.due, S.lt, S.le, S.eq, S.ne, S.ge, S.gt, S.m, S.mask, S.chosen, S.row, S.sorted, S.lowest, S.some, S.os]; (try k_fold)
  refine wpAny_q ?_
  intro Q0 hQ0
  k_steps
  show wpAny _ _ _ _ _ _
  rename Fr _ _ _ _ => F
  rename News _ _ _ _ => N
  refine' ans_k (d := 300) ?r F N (map_x w _ _ _ _ _ (KX.keeps F.keep) l _ _ (F.keep _ _ hl)) ?_
  case r => walk_at "rm"
  rintro v h1 tk1 ⟨M, om, tup, ot, It, oi, rfl, ⟨hM, hM0⟩, ⟨ht, ht0⟩, ⟨hIt, hIt0⟩, rfl, rfl, rfl⟩ st F1 N1
  have hIL : It ≠ L' := fun q => by
    obtain ⟨oL, _, _, hL, _⟩ := F.ns
    rw [q] at hIt0; exact absurd (hL.symm.trans hIt0) (by simp)
  have hI0 : s.heap.get? It = none := by
    cases q : s.heap.get? It with
    | none => rfl
    | some o => exact absurd ((F.keep _ _ q).symm.trans hIt0) (by simp)
  have hnI : ∀ p ∈ [(L' + 1 + 1, o1), (L' + 1, o2)], p.1 ≠ It := fun p hp q => by
    have := (N p hp).1
    rw [q] at this; exact absurd (this.symm.trans hIt0) (by simp)
  clear F N st hM0 ht0 hIt0
  (try dsimp only)
  k_steps
  show wpAny _ _ _ _ _ _
  refine' tuple_k ?r F1 N1 KX T hM ht hIt hI0 hIL (F1.keep _ _ hl) hnI (Nat.le_trans hn4 (by decide)) ?_
  case r => walk_at "rm"
  intro P h2 tk2 F2 N2 hPn
  clear F1 N1 hM ht hIt hI0 hIL hnI
  (try dsimp only); (try k_fold)
  k_steps
  show wpAny _ _ _ _ _ _
  refine truthy_tuple (items := (sv (z0 :: ts)).toArray) (News.isTup (by assumption) (by k_mem)) (by simp [sv]; omega) ?_
  rw [show (sv (z0 :: ts)).toArray.isEmpty = false from by simp [sv], Bool.not_false]
  k_steps
  show wpAny _ _ _ _ _ _
  refine item_tuple (items := (sv (z0 :: ts)).toArray) (j := 0) (x := .str z0.1 z0.2) (News.isTup (by assumption) (by k_mem)) (by decide) (by decide) (seqIndex?_zero (by simp [sv])) rfl ?_
  k_steps
  rename Fr _ _ _ _ => F
  rename News _ _ _ _ => N
  simp only [List.cons_append, List.nil_append] at N
  show wpAny _ _ _ _ _ _
  refine comp_assign rfl rfl (by decide) rfl (by decide) rfl rfl rfl ?_
  k_steps
  have hP := (N _ (.head _)).1
  have hc2 := (N _ (.tail _ (.head _))).1
  have hc1 := (N _ (.tail _ (.tail _ (.head _)))).1
  dsimp only at hP hc1 hc2
  have KX1 := KX.keeps F.keep
  have T1 := T.keeps F.keep
  refine comp_tupS (vs := sv (z0 :: ts)) (fun i ys nx => ∃ ps : List (Addr × List (Str × Tok)), ys = ps.map (fun p => Value.ref p.1) ∧ nx = ps.map (fun p => (p.1, ({ cls := .type "list", data := .seq (strValues p.2).toArray } : Obj))) ∧ ps.map (fun p => p.2.map (·.1)) = ((z0 :: ts).take i).map (fun z => Txt.split z.1 (Str.ofString "/")) ∧ ∀ p ∈ ps, ∀ a ∈ p.2.map (·.1), a.length < 200) rfl hP (by simp only [sv, List.length_map, List.length_cons]; exact Nat.le_trans hn4 (by decide)) ⟨[], rfl, rfl, rfl, fun _ h => nomatch h⟩ F.ns ?_ ?_
  · rintro C D I i v ys nx m h tk io lo htk hi hv ⟨ps, rfl, rfl, hps, hpl⟩ hnx hDI F1 N1
    obtain ⟨z, hz, rfl⟩ : ∃ z : Str × Tok, (z0 :: ts)[i]? = some z ∧ v = .str z.1 z.2 := by
      rw [sv, List.getElem?_map] at hv
      obtain ⟨z, hz, rfl⟩ := Option.map_eq_some_iff.mp hv
      exact ⟨z, hz, rfl⟩
    generalize hnxe : (ps.map fun p => (p.1, ({ cls := .type "list", data := .seq (strValues p.2).toArray } : Obj))) = nx at N1 hnx
    have hid := Hid.mk (And.intro hps (And.intro hz (And.intro hnxe hpl)))
    have hzl := hsz z (List.mem_of_getElem? hz)
    replace F1 : Fr _ C h _ := F1
    replace N1 : News _ C h _ := N1
    have hIlt : I < h.objs.size := Heap.lt_size (N1 _ (.head _)).1
    have hDlt : D < h.objs.size := Heap.lt_size (N1 _ (.tail _ (.head _))).1
    clear hps hz hv hi htk hab hsz hnxe hpl
    refine test_q ?_
    intro QE QS hQE hQS
    refine no_tests ?_
    rw [if_pos rfl]
    k_steps
    rename List.map _ _ = Txt.split _ _ => hls
    rename_i lz _ _ _ hle _ _ _
    refine hQE.out _ _ ?_
    refine' ElemEnd.intro (nx ++ [(h.objs.size, { cls := .type "list", data := .seq (strValues lz).toArray })]) ?F ?N (.tail _ (.head _)) (.tail _ (.tail _ (.head _))) ?S ?J
    case F => assumption
    case N => assumption
    case S =>
      intro p hp
      rcases List.mem_append.mp hp with hp | hp
      · exact ⟨.tail _ (.tail _ (.tail _ hp)), hnx p hp⟩
      · rw [List.mem_singleton.mp hp]
        exact ⟨.head _, Nat.ne_of_gt hIlt, Nat.ne_of_gt hDlt⟩
    case J => exact ⟨ps ++ [(h.objs.size, lz)], by simp, by simp [← hid.out.2.2.1], by
      rw [List.take_add_one, hid.out.2.1, List.map_append, List.map_append, hid.out.1]
      show _ ++ [lz.map (·.1)] = _ ++ [Txt.split z.1 (Str.ofString "/")]
      rw [hls], by
      intro p hp a ha
      rcases List.mem_append.mp hp with hp | hp
      · exact hid.out.2.2.2 p hp a ha
      · rw [List.mem_singleton.mp hp] at ha
        exact Nat.lt_of_le_of_lt (hle a ha) hzl⟩
  · rintro D h3 tk3 ys nx e st hn hD hD0 hnx ⟨ps, rfl, hnxe, hps, hpl⟩
    rw [show (sv (z0 :: ts)).length = (z0 :: ts).length from by simp [sv], List.take_length] at hps
    have F3 := doneS_fr F st hn
    have N3 := doneS_news F N st hD hD0 hnx
    simp only [List.cons_append, List.nil_append] at N3
    replace F3 : Fr s.heap L' h3 _ := F3
    replace N3 : News s.heap L' h3 _ := N3
    clear F N st hn hD hD0 hnx hP hc2 hc1 KX1 T1
    have hid := Hid.mk (And.intro hnxe (And.intro hps hpl))
    clear hnxe hps hpl
    (try dsimp only); (try k_fold)
    k_steps
    show wpAny _ _ _ _ _ _
    refine set_own rfl rfl (by decide) rfl (by decide) rfl ?_
    k_steps
    have hP := (N3 _ (.tail _ (.head _))).1
    have hc1 := (N3 _ (.tail _ (.tail _ (.tail _ (.head _))))).1
    dsimp only at hP hc1
    have KX1 := KX.keeps F3.keep
    have T1 := T.keeps F3.keep
    refine ⟨P, sv (z0 :: ts), 0, rfl, hP, by simp [sv], ?_, ?_⟩
    · intro C i v m h tk led hv F1 N1
      obtain ⟨z, hz, rfl⟩ : ∃ z : Str × Tok, (z0 :: ts)[i]? = some z ∧ v = .str z.1 z.2 := by
        rw [sv, List.getElem?_map] at hv
        obtain ⟨z, hz, rfl⟩ := Option.map_eq_some_iff.mp hv
        exact ⟨z, hz, rfl⟩
      have hza := hab z (List.mem_of_getElem? hz)
      replace F1 : Fr _ C h _ := F1
      replace N1 : News _ C h _ := N1
      clear hv hz hab hsz hid
      k_steps
      exact ⟨by rw [hza], _, _, _, rfl, by assumption, by assumption⟩
    · intro D2 h4 tk4 st4 hone hD20
      have F4 := stays_fr F3 st4
      have N4 := stays_news N3 st4
      clear F3 N3 hP hc1 KX1 T1 hab
      (try dsimp only); (try k_fold)
      k_steps
      refine unpack_one rfl hone ?_
      intro h5 st5
      have F5 := stays_fr F4 st5
      have N5 := stays_news N4 st5
      clear F4 N4 hone hD20 st4 st5
      (try dsimp only); (try k_fold)
      k_steps
      rename Fr _ _ _ _ => F
      rename News _ _ _ _ => N
      show wpAny _ _ _ _ _ _
      refine comp_assign rfl rfl (by decide) rfl (by decide) rfl rfl rfl ?_
      k_steps
      have hD := (N _ (.head _)).1
      have hc2 := (N _ (.tail _ (.tail _ (.head _)))).1
      have hps : ∀ p ∈ ps, _ := fun p hp => (N (p.1, ({ cls := .type "list", data := .seq (strValues p.2).toArray } : Obj)) (.tail _ (.tail _ (.tail _ (.tail _ (by rw [hid.out.1]; exact List.mem_map.mpr ⟨p, hp, rfl⟩)))))).1
      dsimp only at hD hc2 hps
      have KX1 := KX.keeps F.keep
      have T1 := T.keeps F.keep
      have hpl : ps.length = (z0 :: ts).length := by have := congrArg List.length hid.out.2.1; simpa using this
      refine comp_listS (vs := ps.map fun p => Value.ref p.1) (fun i ys nx => ∃ qs : List (Addr × List (Str × Tok) × Nat), ys = qs.map (fun q => Value.ref q.1) ∧ nx = qs.map (fun q => (q.1, listOf (sv q.2.1).toArray q.2.2)) ∧ qs.map (fun q => q.2.1.map (·.1)) = (ps.take i).map (fun p => (p.2.map (·.1)).filter keepPy)) rfl hD (by rw [List.length_map, hpl]; exact Nat.le_trans hn4 (by decide)) ⟨[], rfl, rfl, rfl⟩ F.ns ?_ ?_
      · rintro C D I i v ys nx m h tk io lo htk hi hv ⟨qs, rfl, hnxe, hqs⟩ hnx hDI F1 N1
        obtain ⟨p, hp, rfl⟩ : ∃ p : Addr × List (Str × Tok), ps[i]? = some p ∧ v = .ref p.1 := by
          rw [List.getElem?_map] at hv
          obtain ⟨z, hz, rfl⟩ := Option.map_eq_some_iff.mp hv
          exact ⟨z, hz, rfl⟩
        have hpl := hps p (List.mem_of_getElem? hp)
        have hsp : ∃ z ∈ z0 :: ts, p.2.map (·.1) = Txt.split z.1 (Str.ofString "/") := by
          have h1 := hid.out.2.1
          have h2 : p.2.map (·.1) ∈ ps.map fun p => p.2.map (·.1) := List.mem_map_of_mem (List.mem_of_getElem? hp)
          rw [h1] at h2
          obtain ⟨z, hz, e⟩ := List.mem_map.mp h2
          exact ⟨z, hz, e.symm⟩
        have hpsz : p.2.length ≤ 300 := by
          obtain ⟨z, hz, e⟩ := hsp
          have h1 := congrArg List.length e
          rw [List.length_map] at h1
          have h2 := split_len z.1 (Str.ofString "/")
          have h3 := hsz z hz
          omega
        have hpz := hid.out.2.2 p (List.mem_of_getElem? hp)
        have hid2 := Hid.mk (And.intro hnxe (And.intro hqs hp))
        replace F1 : Fr _ C h _ := F1
        replace N1 : News _ C h _ := N1
        have hpl1 := F1.keep _ _ hpl
        have hc21 := F1.keep _ _ hc2
        have KX2 := KX1.keeps F1.keep
        have T2 := T1.keeps F1.keep
        clear hv hp hsp hqs hnxe hid htk hi hsz
        refine test_q ?_
        intro QE QS hQE hQS
        refine no_tests ?_
        rw [if_pos rfl]
        k_steps
        show wpAny _ _ _ _ _ _
        refine comp_own rfl (by decide) rfl (by decide) rfl ?_
        k_steps
        refine comp_list (vs := strValues p.2) (fun j ys nx' => ∃ us : List (Str × Tok), ys = sv us ∧ nx' = [] ∧ us.map (·.1) = ((p.2.take j).map (·.1)).filter keepPy) rfl hpl1 (by rw [strValues, List.length_map]; exact Nat.le_trans hpsz (by decide)) ⟨[], rfl, rfl, rfl⟩ ?_ ?_
        · rintro C2 D2 I2 j v ys nx' m2 h6 tk6 io2 lo2 - hj hv ⟨us, rfl, rfl, hus⟩ - hDI2 F6 N6
          obtain ⟨z, hz, rfl⟩ : ∃ z : Str × Tok, p.2[j]? = some z ∧ v = .str z.1 z.2 := by
            rw [strValues, List.getElem?_map] at hv
            obtain ⟨z, hz, rfl⟩ := Option.map_eq_some_iff.mp hv
            exact ⟨z, hz, rfl⟩
          replace F6 : Fr _ C2 h6 _ := F6
          replace N6 : News _ C2 h6 _ := N6
          have hid3 := Hid.mk (And.intro hus hz)
          have hzl : z.1.length < 200 := hpz _ (List.mem_map.mpr ⟨z, List.mem_of_getElem? hz, rfl⟩)
          clear hv hz hus hid2 hj hnx hpz
          refine test_q ?_
          intro QE QS hQE hQS
          refine one_test ?_
          k_steps
          · refine hQE.out _ _ ?_
            refine' ElemEnd.intro [] ?F ?N (.head _) (.tail _ (.head _)) ?S ?J
            case F => assumption
            case N => assumption
            case S => exact fun _ h => nomatch h
            case J => exact ⟨us ++ [z], by simp [sv], rfl, keep_one hid3.out (by assumption) (by assumption)⟩
          · refine hQS.out _ ?_
            refine' SkipEnd.intro [] ?F ?N (.head _) (.tail _ (.head _)) ?S ?J
            case F => assumption
            case N => assumption
            case S => exact fun _ h => nomatch h
            case J => exact ⟨us, rfl, rfl, keep_dot hid3.out (by assumption)⟩
          · refine hQS.out _ ?_
            refine' SkipEnd.intro [] ?F ?N (.head _) (.tail _ (.head _)) ?S ?J
            case F => assumption
            case N => assumption
            case S => exact fun _ h => nomatch h
            case J => exact ⟨us, rfl, rfl, keep_none hid3.out (by assumption)⟩
        · rintro D3 h7 tk7 ys nx' e3 - st7 hD7 hD70 - ⟨us, rfl, rfl, hus⟩
          rw [show (strValues p.2).length = p.2.length from by simp [strValues], List.take_length] at hus
          have F7 := stays_fr F1 st7
          have N7 := news_one F1 (stays_news N1 st7) hD7 hD70
          refine hQE.out _ _ ?_
          refine' ElemEnd.intro (nx ++ [(D3, listOf (sv us).toArray e3)]) F7 N7 (.tail _ (.head _)) (.tail _ (.tail _ (.head _))) ?S ?J
          case S =>
            intro q hq
            rcases List.mem_append.mp hq with hq | hq
            · exact ⟨.tail _ (.tail _ (.tail _ hq)), hnx q hq⟩
            · rw [List.mem_singleton.mp hq]
              exact ⟨.head _, fun z => by have := (N1 _ (.head _)).1; rw [← z] at this; exact absurd (this.symm.trans hD70) (by simp), fun z => by have := (N1 _ (.tail _ (.head _))).1; rw [← z] at this; exact absurd (this.symm.trans hD70) (by simp)⟩
          case J => exact ⟨qs ++ [(D3, us, e3)], by simp, by simp [← hid2.out.1], by
            rw [List.take_add_one, hid2.out.2.2, List.map_append, List.map_append, hid2.out.2.1]
            show _ ++ [us.map (·.1)] = _ ++ [(p.2.map (·.1)).filter keepPy]
            rw [hus]⟩
      · rintro D4 h8 tk8 ys nx8 e8 st8 hn8 hD8 hD80 hnx8 ⟨qs, rfl, hnxe, hqs⟩
        rw [List.length_map, List.take_length] at hqs
        have F8 := doneS_fr F st8 hn8
        have N8 := doneS_news F N st8 hD8 hD80 hnx8
        simp only [List.cons_append, List.nil_append] at N8
        replace F8 : Fr s.heap L' h8 _ := F8
        replace N8 : News s.heap L' h8 _ := N8
        have hqs2 : qs.map (fun q => q.2.1.map (·.1)) = (z0 :: ts).map fun z => (Txt.split z.1 (Str.ofString "/")).filter keepPy := by
          rw [hqs, show (fun p : Addr × List (Str × Tok) => (p.2.map (·.1)).filter keepPy) = (List.filter keepPy) ∘ (fun p => p.2.map (·.1)) from rfl, ← List.map_map, hid.out.2.1, List.map_map]
          rfl
        have N9 : News s.heap L' h8 ((D4, listOf (qs.map fun q => Value.ref q.1).toArray e8) :: (L' + 1 + 1, _) :: (L' + 1, _) :: nx8) := fun p hp => N8 p (by
          rcases List.mem_cons.mp hp with rfl | hp
          · exact .head _
          · rcases List.mem_cons.mp hp with rfl | hp
            · exact .tail _ (.tail _ (.tail _ (.head _)))
            · rcases List.mem_cons.mp hp with rfl | hp
              · exact .tail _ (.tail _ (.tail _ (.tail _ (.head _))))
              · exact .tail _ (.tail _ (.tail _ (.tail _ (.tail _ (List.mem_append_right _ hp))))))
        have hid4 := Hid.mk (And.intro hnxe hqs2)
        clear F N st8 hn8 hD8 hD80 hnx8 hqs hnxe hqs2 N8 hps hpl hD hc2 KX1 T1 hid
        (try dsimp only); (try k_fold)
        k_steps
        rename Fr _ _ _ _ => F
        rename News _ _ _ _ => N
        have hD := (N _ (.head _)).1
        have hq : ∀ q ∈ qs, _ := fun q hq => (N (q.1, listOf (sv q.2.1).toArray q.2.2) (.tail _ (.tail _ (.tail _ (by rw [hid4.out.1]; exact List.mem_map.mpr ⟨q, hq, rfl⟩))))).1
        have hql : 0 < (qs.map fun q => Value.ref q.1).length := by have := congrArg List.length hid4.out.2; simp at this ⊢; omega
        dsimp only at hD hq
        show wpAny _ _ _ _ _ _
        refine min_list (bt := btOf .Lt (qs.map fun q => q.2.1.map (·.1))) rfl hD hql (strs_cmpIn (code := 0) (.inl ⟨rfl, rfl⟩) hq (Rm.line (d := 200) (by walk_at "rm") (by decide))) ?_
        intro v1 h9 tk9 hv1 st9
        obtain ⟨q1, hq1, rfl, hk1⟩ := best_is hv1
        have F9 := stays_fr F st9
        have N9 := stays_news N st9
        clear F N hv1 st9 hD hq
        (try dsimp only); (try k_fold)
        k_steps
        rename Fr _ _ _ _ => F
        rename News _ _ _ _ => N
        have hD := (N _ (.head _)).1
        have hq : ∀ q ∈ qs, _ := fun q hq => (N (q.1, listOf (sv q.2.1).toArray q.2.2) (.tail _ (.tail _ (.tail _ (by rw [hid4.out.1]; exact List.mem_map.mpr ⟨q, hq, rfl⟩))))).1
        dsimp only at hD hq
        show wpAny _ _ _ _ _ _
        refine max_list (bt := btOf .Gt (qs.map fun q => q.2.1.map (·.1))) rfl hD hql (strs_cmpIn (code := 4) (.inr (.inr (.inl ⟨rfl, rfl⟩))) hq (Rm.line (d := 200) (by walk_at "rm") (by decide))) ?_
        intro v2 h10 tk10 hv2 st10
        obtain ⟨q2, hq2, rfl, hk2⟩ := best_is hv2
        have F10 := stays_fr F st10
        have N10 := stays_news N st10
        clear F N hv2 st10 hD hq hql
        (try dsimp only); (try k_fold)
        k_steps
        rename Fr _ _ _ _ => F
        rename News _ _ _ _ => N
        have hb1 := N (q1.1, listOf (sv q1.2.1).toArray q1.2.2) (.tail _ (.tail _ (.tail _ (by rw [hid4.out.1]; exact List.mem_map.mpr ⟨q1, hq1, rfl⟩))))
        have hb2 := N (q2.1, listOf (sv q2.2.1).toArray q2.2.2) (.tail _ (.tail _ (.tail _ (by rw [hid4.out.1]; exact List.mem_map.mpr ⟨q2, hq2, rfl⟩))))
        have hb3 := N _ (.tail _ (.tail _ (.head _)))
        rw [hid4.out.2] at hk1 hk2
        dsimp only at hb1 hb2 hb3
        have hlen : ∀ q ∈ qs, q.2.1.length ≤ 300 := fun q hq => by
          have h1 : q.2.1.map (·.1) ∈ qs.map fun q => q.2.1.map (·.1) := List.mem_map.mpr ⟨q, hq, rfl⟩
          rw [hid4.out.2] at h1
          obtain ⟨z, hz, e⟩ := List.mem_map.mp h1
          have h2 := congrArg List.length e
          rw [List.length_map] at h2
          have h3 := List.length_filter_le keepPy (Txt.split z.1 (Str.ofString "/"))
          have h4 := split_len z.1 (Str.ofString "/")
          have h5 := hsz z hz
          omega
        have hlz : ∀ a ∈ q1.2.1.map (·.1), a.length < 200 := fun a ha => by
          have h1 : q1.2.1.map (·.1) ∈ qs.map fun q => q.2.1.map (·.1) := List.mem_map.mpr ⟨q1, hq1, rfl⟩
          rw [hid4.out.2] at h1
          obtain ⟨z, hz, e⟩ := List.mem_map.mp h1
          rw [← e] at ha
          exact Nat.lt_of_le_of_lt (part_short (List.mem_filter.mp ha).1) (hsz z hz)
        have hl1 := hlen q1 hq1
        have hl2 := hlen q2 hq2
        clear hid4 hq1 hq2 hlen
        show wpAny _ _ _ _ _ _
        refine for_enum (h₀ := s.heap) rfl rfl rfl rfl ?_
        k_steps
        show wpAny _ _ _ _ _ _
        refine call_enumerate_1 hb1.1 ?_
        intro h11 he hit hzz st11
        dsimp only at he hit hzz st11 ⊢
        have hLs := F.ns.lt
        have hss := Nat.le_of_lt (Nat.lt_of_le_of_lt F.above F.ns.lt)
        have lt1 := Heap.lt_size hb1.1
        have lt2 := Heap.lt_size hb2.1
        have lt3 := Heap.lt_size hb3.1
        replace st11 : Stays _ h11 := st11
        have F11 := stays_fr F st11
        have N11 : News s.heap L' h11 [(q1.1, listOf (sv q1.2.1).toArray q1.2.2), (q2.1, listOf (sv q2.2.1).toArray q2.2.2), (L' + 1, _)] := fun p hp => by
          rcases List.mem_cons.mp hp with rfl | hp
          · exact ⟨st11 _ _ hb1.1, hb1.2⟩
          · rcases List.mem_cons.mp hp with rfl | hp
            · exact ⟨st11 _ _ hb2.1, hb2.2⟩
            · rw [List.mem_singleton.mp hp]; exact ⟨st11 _ _ hb3.1, hb3.2⟩
        clear F N hb1 hb2 hb3
        generalize (Heap.objs _).size = Z at he hit hzz hLs hss lt1 lt2 lt3 ⊢
        obtain ⟨io, hio, hioc⟩ := id hit
        have hk12 := Hid.mk (And.intro hk1 hk2)
        have hpre2 : PreOk (q1.2.1.map (·.1)) (q2.2.1.map (·.1)) := by rw [hk1, hk2]; exact hpre
        clear hk1 hk2
        refine ⟨Z + 1, Z, q1.1, listOf (sv q1.2.1).toArray q1.2.2, io, sv q1.2.1, q1.2.2, _, _, fun i m => m (Str.ofString "s2") = some (.ref q2.1) ∧ m (Str.ofString "s1") = some (.ref q1.1) ∧ m (Str.ofString "common") = some (.ref q1.1) ∧ m (Str.ofString "isabs") = some (.bool true) ∧ ∀ j, j < i → (q1.2.1.map (·.1))[j]? = (q2.2.1.map (·.1))[j]?,
          rfl, Nat.succ_ne_self _, rfl, he, hio, hit, .inr (.head _), none_above (Nat.le_succ_of_le hss), none_above hss, Nat.ne_of_gt (Nat.lt_succ_of_lt hLs), Nat.ne_of_gt hLs, F11, N11, ?_, ⟨by walk_at "look", by walk_at "look", by walk_at "look", by walk_at "look", fun j hj => absurd hj (Nat.not_lt_zero _)⟩, ?_, ?_⟩
        · intro p hp
          have : p.1 < Z := by
            rcases List.mem_cons.mp hp with rfl | hp
            · exact lt1
            · rcases List.mem_cons.mp hp with rfl | hp
              · exact lt2
              · rw [List.mem_singleton.mp hp]; exact lt3
          exact ⟨Nat.ne_of_lt (Nat.lt_succ_of_lt this), Nat.ne_of_lt this⟩
        · rintro i v t m₁ h12 tk12 eo io' hv ⟨hm1, hm2, hm3, hm4, hpr⟩ F12 N12
          obtain ⟨z, hz, rfl⟩ : ∃ z : Str × Tok, q1.2.1[i]? = some z ∧ v = .str z.1 z.2 := by
            rw [sv, List.getElem?_map] at hv
            obtain ⟨z, hz, rfl⟩ := Option.map_eq_some_iff.mp hv
            exact ⟨z, hz, rfl⟩
          replace F12 : Fr s.heap L' h12 _ := F12
          replace N12 : News s.heap L' h12 _ := N12
          have hil : i < (q1.2.1.map (·.1)).length := by rw [List.length_map]; exact (List.getElem?_eq_some_iff.mp hz).1
          have hi2 := hpre2 i hil hpr
          obtain ⟨z2, hz2⟩ : ∃ z2, q2.2.1[i]? = some z2 := ⟨_, List.getElem?_eq_getElem (by simpa using hi2)⟩
          have hid5 := Hid.mk (And.intro hpr (And.intro hz hz2))
          clear hv hz hz2 hpr hi2 hil F11 N11 he hit hzz hLs hss lt1 lt2 lt3 hio hioc hpre2
          have hi300 : i < 300 := by have h1 := (List.getElem?_eq_some_iff.mp hid5.out.2.1).1; omega
          refine wpAny_q ?_
          intro Q1 hQ1
          (try dsimp only); (try k_fold)
          k_steps
          show wpAny _ _ _ _ _ _
          refine item_at (i := (i : Int)) (items := (sv q2.2.1).toArray) (v := .str z2.1 z2.2) (News.isList (by assumption) (by k_mem)) (Int.natCast_nonneg _) (by omega) (by rw [Int.toNat_natCast]; simp [sv, hid5.out.2.2]) ?_ rfl (by intro _; rfl)
          k_steps
          · show wpAny _ _ _ _ _ _
            rename Fr _ _ _ _ => F
            rename News _ _ _ _ => N
            refine slice_list (lo := none) (hi := some (i : Int)) (items := (sv q1.2.1).toArray) F N (News.isList N (by k_mem)) (by constructor) (by constructor) ?_ (by with_unfolding_all rfl) (by intro _; with_unfolding_all rfl) (by simp only [sv, List.size_toArray, List.length_map]; exact Nat.le_trans hl1 (by decide))
            intro h13 F13 N13
            have hib : i ≤ (sv q1.2.1).toArray.size := by simp only [sv, List.size_toArray, List.length_map]; exact Nat.le_of_lt (List.getElem?_eq_some_iff.mp hid5.out.2.1).1
            rw [slicePick_upto _ _ hib, show ((sv q1.2.1).toArray.toList.take i).toArray = (sv (q1.2.1.take i)).toArray from by simp [sv, List.map_take]] at N13
            have hne : z.1 ≠ z2.1 := by rename (z.1 != z2.1) = true => hz12; simpa using hz12
            have hsm := Hid.mk (txt_small (us := q1.2.1.take i) (fun a ha => hlz a (by rw [List.map_take] at ha; exact List.mem_of_mem_take ha)) (Nat.le_trans (List.length_take_le _ _) (Nat.le_of_lt hi300)))
            have hres : (q1.2.1.take i).map (·.1) = cprePy (q1.2.1.map (·.1)) (q2.2.1.map (·.1)) := by
              rw [List.map_take]
              exact cpre_at _ _ i z.1 z2.1 hid5.out.1 (by rw [List.getElem?_map, hid5.out.2.1]; rfl) (by rw [List.getElem?_map, hid5.out.2.2]; rfl) hne
            have hid6 := Hid.mk hres
            clear F N hres hne hib hlz
            k_steps
            refine hQ1.out _ _ ?_
            show wpAny _ _ (execs _ _) _ _ _
            k_steps
            show wpAny _ _ _ _ _ _
            rename Fr _ _ _ _ => F
            rename News _ _ _ _ => N
            refine join_list (ys := (q1.2.1.take i).map (·.1)) (News.isList N (.head _)) (by rw [List.toList_toArray]; exact strs_are (q1.2.1.take i)) hsm.out.1 ?_
            intro tj kj
            have hql := hsm.out.2
            generalize hq : Txt.join (Str.ofString "/") ((q1.2.1.take i).map (·.1)) = q at hql ⊢
            have hqq := Hid.mk hq
            clear hq hsm
            (try dsimp only); (try k_fold)
            k_steps
            refine hQ0.out _ _ ?_
            dsimp only
            walk_at "done"
            exact ⟨_, by rw [common_eq, ← hqq.out, hid6.out, hk12.out.1, hk12.out.2]⟩
          · exact hQ1.out _ _ <| EnumEnd.intro (by assumption) (by assumption) ⟨by walk_at "look", by walk_at "look", by walk_at "look", by walk_at "look", fun j hj => same_next hid5.out (by assumption) j hj⟩
        · rintro h12 tk12 m₁ F12 N12 ⟨hm1, hm2, hm3, hm4, hpr⟩
          replace F12 : Fr s.heap L' h12 _ := F12
          replace N12 : News s.heap L' h12 _ := N12
          have hid6 := Hid.mk (cpre_all (q1.2.1.map (·.1)) (q2.2.1.map (·.1)) fun j hj => hpr j (by simpa [sv] using hj))
          have hsm := Hid.mk (txt_small (us := q1.2.1) hlz (Nat.le_trans hl1 (by decide)))
          clear hpr F11 N11 he hit hzz hLs hss lt1 lt2 lt3 hio hioc hpre2 hlz
          k_steps
          show wpAny _ _ _ _ _ _
          rename Fr _ _ _ _ => F
          rename News _ _ _ _ => N
          refine join_list (ys := (q1.2.1).map (·.1)) (News.isList N (.head _)) (by rw [List.toList_toArray]; exact strs_are (q1.2.1)) hsm.out.1 ?_
          intro tj kj
          have hql := hsm.out.2
          generalize hq : Txt.join (Str.ofString "/") ((q1.2.1).map (·.1)) = q at hql ⊢
          have hqq := Hid.mk hq
          clear hq hsm
          (try dsimp only); (try k_fold)
          k_steps
          refine hQ0.out _ _ ?_
          dsimp only
          walk_at "done"
          exact ⟨_, by rw [common_eq, ← hqq.out, ← hid6.out, hk12.out.1, hk12.out.2]⟩

end
theorem calm_M19 : True := by
  w_top off
  trivial
section
open PySem PySem.W PySem.W.X PyProof.Rows PySem.Calls
noncomputable def meetPy (x y : Str) : Str := commonPy [Txt.replace x (Str.ofString "/") (Str.ofString "//./"), Txt.replace y (Str.ofString "/") (Str.ofString "/.//")]
structure MeetOk (x y : Str) : Prop where
  lx : x.length < 40
  ly : y.length < 40
  rx : (Txt.replace x (Str.ofString "/") (Str.ofString "//./")).length < 200
  ry : (Txt.replace y (Str.ofString "/") (Str.ofString "/.//")).length < 200
  ax : Txt.startswith (Txt.replace x (Str.ofString "/") (Str.ofString "//./")) (Str.ofString "/") = true
  ay : Txt.startswith (Txt.replace y (Str.ofString "/") (Str.ofString "/.//")) (Str.ofString "/") = true
  pre : ∀ a b : Str, PreOk (bestPy .Lt ([a, b].map fun z => (Txt.split z (Str.ofString "/")).filter keepPy)) (bestPy .Gt ([a, b].map fun z => (Txt.split z (Str.ofString "/")).filter keepPy))
set_option maxRecDepth 100000 in
set_option maxHeartbeats 8000000 in
theorem meet_c (w : World) {s : Shared} {p : Program} {loose : List Str} {mean : ExcName → Option Value} {mg mb : Str → Option Value} (KX : (Mine.KK w.params).In s.heap) (T : Top p loose mean mg mb s.heap) (x : Str) (t : Tok) (y : Str) (u : Tok) (ok : MeetOk x y) :
   Call w 150 (.ref 274) [.str x t, .str y u] (fun _ r => ∃ t', r = .str (meetPy x y) t') s := by
  have hlx := ok.lx
  have hly := ok.ly
  k_dflt (refine' enter2 (Str.ofString "one") (Str.ofString "other") ?k1 ?k2 ?k3 ?k4 ?k5 ?k6 ?k7 ?k72 ?k8 ?k9 ?k10 ?k11 ?_; (case k1 => decide); (case k2 => k_asm); (case k3 => k_asm); (case k4 => k_is); (case k5 => k_is); (case k6 => exact rfl); (case k7 => exact rfl); (case k72 => exact rfl); (case k8 => decide); (case k9 => exact rfl); (case k10 => exact rfl); (case k11 => exact rfl); k_whole; intro L' h' F' N'; (try dsimp only); dsimp only [S.p, S.sep, S.i, S.head, S.tail, S.fspath, S.uugetusep, S.len, S.rfind, S.rstrip, S.a, S.b, S.path, S.startswith, S.endswith, S.join, S.TypeError, S.AttributeError, S.BytesWarning, S.uucheckuargutypes, S.isinstance, S.bytes, S.empty, S.splitroot, S.normpath, S.dot, S.dotdot, S.uu, S.initial_slashes, S.comps, S.new_comps, S.comp, S.split, S.append, S.pop, S.paths, S.tuple, S.map, S.ValueError, S.split_paths, S.isabs, S.s, S.c, S.curdir, S.s1, S.s2, S.common, S.enumerate, S.min, S.max, S.prefix, S.commonpath, S.count, S.K, S.mycmp, S.obj, S.other, S.self, S.function, S.sequence, S.initial, S.uuinitialumissing, S.it, S.iter, S.value, S.next, S.StopIteration, S.element, S.reduce, S.cell, S.kinds, S.k, S.range, S.uulawupieces, S.pair, S.piece, S.n, S.d, S.add, S.sub, S.uulawustep, S.names, S.uulawunames, S.place, S.uulawuupward, S.replace, S.name, S.one, S.uulawuacross, S.mul, S.low, S.high, S.uulawusimplest, S.uulawumeet, S.script, S.key, S.places, S.sides, S.cmp_to_key, S.pieces, S.sum, S.crooked, S.values, S.keys, S.countOf, S.j, S.x, S.y, S.t, S.told, S.due, S.lt, S.le, S.eq, S.ne, S.ge, S.gt, S.m, S.mask, S.chosen, S.row, S.sorted, S.lowest, S.some, S.os])
  have htk : 1 ≤ s.toks + 2 := by omega
  generalize s.toks + 2 = tk0 at htk ⊢
  (try k_fold)
  k_steps
  refine toks_up 1 (by show 1 ≤ _ + 1 + 1; omega) ?_
  refine SC.replaceW (by (show @Ne Nat _ _); omega) (by (show @Ne Nat _ _); omega) (by (show @Ne Nat _ _); omega) (by decide) (by omega) (by decide) ?_
  intro t1 tk1 htk1
  dsimp only at htk1 ⊢
  generalize hX : Txt.replace x _ _ = X
  k_steps
  refine SC.replaceW (by (show @Ne Nat _ _); omega) (by (show @Ne Nat _ _); omega) (by (show @Ne Nat _ _); omega) (by decide) (by omega) (by decide) ?_
  intro t2 tk2
  generalize hY : Txt.replace y _ _ = Y
  k_steps
  rename Fr _ _ _ _ => F
  rename News _ _ _ _ => N
  have hX' : Txt.replace x (Str.ofString "/") (Str.ofString "//./") = X := hX
  have hY' : Txt.replace y (Str.ofString "/") (Str.ofString "/.//") = Y := hY
  refine' ans_k (d := 170) ?r F N (common_c w (KX.keeps F.keep) (T.keeps F.keep) _ (X, t1) [(Y, t2)] 0 (N _ (.head _)).1 (by show 1 < 4; decide) ?ab ?sz (ok.pre X Y)) ?_
  case r => walk_at "rm"
  case ab =>
    intro z hz
    rcases List.mem_cons.mp hz with rfl | hz
    · exact hX' ▸ ok.ax
    · rw [List.mem_singleton.mp hz]; exact hY' ▸ ok.ay
  case sz =>
    intro z hz
    rcases List.mem_cons.mp hz with rfl | hz
    · exact hX' ▸ ok.rx
    · rw [List.mem_singleton.mp hz]; exact hY' ▸ ok.ry
  rintro v h1 tk3 ⟨t', rfl⟩ - F1 N1
  exact ans_fr F1 ⟨t', by rw [meetPy, hX', hY']; rfl⟩

end
local macro_rules | `(tactic| walk_at "no such line 4") => `(tactic| skip)
theorem calm_M20 : True := by
  w_top off
  trivial
section
open PySem PySem.W PySem.W.X PyProof.Rows PySem.Calls
set_option maxRecDepth 100000 in
set_option maxHeartbeats 8000000 in
theorem mul_c (w : World) {s : Shared} {p : Program} {loose : List Str} {mean : ExcName → Option Value} {mg mb : Str → Option Value} (KX : (Mine.KK w.params).In s.heap) (T : Top p loose mean mg mb s.heap) (a b : Int) (ha : 0 ≤ a ∧ a < 100) (hb : 0 ≤ b ∧ b < 100) (ta tb : Tok) :
   Call w 200 (.ref 197) [.int a ta, .int b tb] (fun _ r => ∃ t, r = .int (a * b) t) s := by
  k_dflt (refine' enter2 (Str.ofString "a") (Str.ofString "b") ?k1 ?k2 ?k3 ?k4 ?k5 ?k6 ?k7 ?k72 ?k8 ?k9 ?k10 ?k11 ?_; (case k1 => decide); (case k2 => k_asm); (case k3 => k_asm); (case k4 => k_is); (case k5 => k_is); (case k6 => exact rfl); (case k7 => exact rfl); (case k72 => exact rfl); (case k8 => decide); (case k9 => exact rfl); (case k10 => exact rfl); (case k11 => exact rfl); k_whole; intro L' h' F' N'; (try dsimp only); dsimp only [S.p, S.sep, S.i, S.head, S.tail, S.fspath, S.uugetusep, S.len, S.rfind, S.rstrip, S.a, S.b, S.path, S.startswith, S.endswith, S.join, S.TypeError, S.AttributeError, S.BytesWarning, S.uucheckuargutypes, S.isinstance, S.bytes, S.empty, S.splitroot, S.normpath, S.dot, S.dotdot, S.uu, S.initial_slashes, S.comps, S.new_comps, S.comp, S.split, S.append, S.pop, S.paths, S.tuple, S.map, S.ValueError, S.split_paths, S.isabs, S.s, S.c, S.curdir, S.s1, S.s2, S.common, S.enumerate, S.min, S.max, S.prefix, S.commonpath, S.count, S.K, S.mycmp, S.obj, S.other, S.self, S.function, S.sequence, S.initial, S.uuinitialumissing, S.it, S.iter, S.value, S.next, S.StopIteration, S.element, S.reduce, S.cell, S.kinds, S.k, S.range, S.uulawupieces, S.pair, S.piece, S.n, S.d, S.add, S.sub, S.uulawustep, S.names, S.uulawunames, S.place, S.uulawuupward, S.replace, S.name, S.one, S.uulawuacross, S.mul, S.low, S.high, S.uulawusimplest, S.uulawumeet, S.script, S.key, S.places, S.sides, S.cmp_to_key, S.pieces, S.sum, S.crooked, S.values, S.keys, S.countOf, S.j, S.x, S.y, S.t, S.told, S.due, S.lt, S.le, S.eq, S.ne, S.ge, S.gt, S.m, S.mask, S.chosen, S.row, S.sorted, S.lowest, S.some, S.os]; (try k_fold))
  k_steps
  walk_at "done"
  exact ⟨_, rfl⟩
set_option maxRecDepth 100000 in
set_option maxHeartbeats 8000000 in
theorem sub_c (w : World) {s : Shared} {p : Program} {loose : List Str} {mean : ExcName → Option Value} {mg mb : Str → Option Value} (KX : (Mine.KK w.params).In s.heap) (T : Top p loose mean mg mb s.heap) (a b : Int) (ta tb : Tok) :
   Call w 200 (.ref 204) [.int a ta, .int b tb] (fun _ r => ∃ t, r = .int (a - b) t) s := by
  k_dflt (refine' enter2 (Str.ofString "a") (Str.ofString "b") ?k1 ?k2 ?k3 ?k4 ?k5 ?k6 ?k7 ?k72 ?k8 ?k9 ?k10 ?k11 ?_; (case k1 => decide); (case k2 => k_asm); (case k3 => k_asm); (case k4 => k_is); (case k5 => k_is); (case k6 => exact rfl); (case k7 => exact rfl); (case k72 => exact rfl); (case k8 => decide); (case k9 => exact rfl); (case k10 => exact rfl); (case k11 => exact rfl); k_whole; intro L' h' F' N'; (try dsimp only); dsimp only [S.p, S.sep, S.i, S.head, S.tail, S.fspath, S.uugetusep, S.len, S.rfind, S.rstrip, S.a, S.b, S.path, S.startswith, S.endswith, S.join, S.TypeError, S.AttributeError, S.BytesWarning, S.uucheckuargutypes, S.isinstance, S.bytes, S.empty, S.splitroot, S.normpath, S.dot, S.dotdot, S.uu, S.initial_slashes, S.comps, S.new_comps, S.comp, S.split, S.append, S.pop, S.paths, S.tuple, S.map, S.ValueError, S.split_paths, S.isabs, S.s, S.c, S.curdir, S.s1, S.s2, S.common, S.enumerate, S.min, S.max, S.prefix, S.commonpath, S.count, S.K, S.mycmp, S.obj, S.other, S.self, S.function, S.sequence, S.initial, S.uuinitialumissing, S.it, S.iter, S.value, S.next, S.StopIteration, S.element, S.reduce, S.cell, S.kinds, S.k, S.range, S.uulawupieces, S.pair, S.piece, S.n, S.d, S.add, S.sub, S.uulawustep, S.names, S.uulawunames, S.place, S.uulawuupward, S.replace, S.name, S.one, S.uulawuacross, S.mul, S.low, S.high, S.uulawusimplest, S.uulawumeet, S.script, S.key, S.places, S.sides, S.cmp_to_key, S.pieces, S.sum, S.crooked, S.values, S.keys, S.countOf, S.j, S.x, S.y, S.t, S.told, S.due, S.lt, S.le, S.eq, S.ne, S.ge, S.gt, S.m, S.mask, S.chosen, S.row, S.sorted, S.lowest, S.some, S.os]; (try k_fold))
  k_steps
  walk_at "done"
  exact ⟨_, rfl⟩
section
variable {w : World} {A : Around} {s : Shared} {Q : Value → Shared → Prop} {E : Value → Shared → Prop} {h₀ : Heap} {L : Addr} {m : Str → Option Value} {news : List (Addr × Obj)} {p : Program} {loose : List Str} {mean : ExcName → Option Value} {mg mb : Str → Option Value} {a b : Int} {ta tb : Tok}
theorem mul_k (R : Rm A 200) (F : Fr h₀ L s.heap m) (N : News h₀ L s.heap news) (X : (Mine.KK w.params).In h₀) (T : Top p loose mean mg mb h₀) (ha : 0 ≤ a ∧ a < 100) (hb : 0 ≤ b ∧ b < 100)
    (h : ∀ h' tk t, Fr h₀ L h' m → News h₀ L h' news → Q (.int (a * b) t) { s with heap := h', toks := tk }) : wpAny (model pw w) A (call (.ref 197) [.int a ta, .int b tb]) Q E s :=
  ans_k R F N (mul_c w (X.keeps F.keep) (T.keeps F.keep) a b ha hb ta tb) fun v h' tk e _ F' N' => by obtain ⟨t, rfl⟩ := e; exact h h' tk t F' N'
theorem sub_k (R : Rm A 200) (F : Fr h₀ L s.heap m) (N : News h₀ L s.heap news) (X : (Mine.KK w.params).In h₀) (T : Top p loose mean mg mb h₀)
    (h : ∀ h' tk t, Fr h₀ L h' m → News h₀ L h' news → Q (.int (a - b) t) { s with heap := h', toks := tk }) : wpAny (model pw w) A (call (.ref 204) [.int a ta, .int b tb]) Q E s :=
  ans_k R F N (sub_c w (X.keeps F.keep) (T.keeps F.keep) a b ta tb) fun v h' tk e _ F' N' => by obtain ⟨t, rfl⟩ := e; exact h h' tk t F' N'
end
local macro_rules | `(tactic| walk_at "call ref") => `(tactic| ((refine' mul_k _ _ _ _ _ _ _ _; rotate_left 9; walk_at "t5"; (· first | assumption | omega); (· first | assumption | omega); k_whole; intro _ _ _ _ _; (try k_sweep))))
local macro_rules | `(tactic| walk_at "call ref") => `(tactic| ((refine' sub_k _ _ _ _ _ _; rotate_left 9; walk_at "t5"; k_whole; intro _ _ _ _ _; (try k_sweep))))
set_option maxRecDepth 100000 in
set_option maxHeartbeats 8000000 in
theorem across_c (w : World) {s : Shared} {p : Program} {loose : List Str} {mean : ExcName → Option Value} {mg mb : Str → Option Value} (KX : (Mine.KK w.params).In s.heap) (T : Top p loose mean mg mb s.heap)
   (pp qq : Addr) (n d n' d' : Int) (h1 : 0 ≤ n ∧ n < 100) (h2 : 0 ≤ d ∧ d < 100) (h3 : 0 ≤ n' ∧ n' < 100) (h4 : 0 ≤ d' ∧ d' < 100) (ta tb tc td : Tok) (hp : s.heap.get? pp = some { cls := .type "tuple", data := .seq #[.int n ta, .int d tb] }) (hq : s.heap.get? qq = some { cls := .type "tuple", data := .seq #[.int n' tc, .int d' td] }) :
   Call w 97 (.ref 260) [.ref pp, .ref qq] (fun h r => ∃ t, r = .int (n * d' - n' * d) t) s := by
  have hpt : IsTup s.heap pp #[.int n ta, .int d tb] := ⟨_, hp, rfl, _, rfl⟩
  have hqt : IsTup s.heap qq #[.int n' tc, .int d' td] := ⟨_, hq, rfl, _, rfl⟩
  k_dflt (refine' enter2 (Str.ofString "one") (Str.ofString "other") ?k1 ?k2 ?k3 ?k4 ?k5 ?k6 ?k7 ?k72 ?k8 ?k9 ?k10 ?k11 ?_; (case k1 => decide); (case k2 => k_asm); (case k3 => k_asm); (case k4 => k_is); (case k5 => k_is); (case k6 => exact rfl); (case k7 => exact rfl); (case k72 => exact rfl); (case k8 => decide); (case k9 => exact rfl); (case k10 => exact rfl); (case k11 => exact rfl); k_whole; intro L' h' F' N'; (try dsimp only); dsimp only [S.p, S.sep, S.i, S.head, S.tail, S.fspath, S.uugetusep, S.len, S.rfind, S.rstrip, S.a, S.b, S.path, S.startswith, S.endswith, S.join, S.TypeError, S.AttributeError, S.BytesWarning, S.uucheckuargutypes, S.isinstance, S.bytes, S.empty, S.splitroot, S.normpath, S.dot, S.dotdot, S.uu, S.initial_slashes, S.comps, S.new_comps, S.comp, S.split, S.append, S.pop, S.paths, S.tuple, S.map, S.ValueError, S.split_paths, S.isabs, S.s, S.c, S.curdir, S.s1, S.s2, S.common, S.enumerate, S.min, S.max, S.prefix, S.commonpath, S.count, S.K, S.mycmp, S.obj, S.other, S.self, S.function, S.sequence, S.initial, S.uuinitialumissing, S.it, S.iter, S.value, S.next, S.StopIteration, S.element, S.reduce, S.cell, S.kinds, S.k, S.range, S.uulawupieces, S.pair, S.piece, S.n, S.d, S.add, S.sub, S.uulawustep, S.names, S.uulawunames, S.place, S.uulawuupward, S.replace, S.name, S.one, S.uulawuacross, S.mul, S.low, S.high, S.uulawusimplest, S.uulawumeet, S.script, S.key, S.places, S.sides, S.cmp_to_key, S.pieces, S.sum, S.crooked, S.values, S.keys, S.countOf, S.j, S.x, S.y, S.t, S.told, S.due, S.lt, S.le, S.eq, S.ne, S.ge, S.gt, S.m, S.mask, S.chosen, S.row, S.sorted, S.lowest, S.some, S.os]; (try k_fold))
  have hpt' := hpt.keeps (Fr.keep (by assumption))
  have hqt' := hqt.keeps (Fr.keep (by assumption))
  k_steps
  walk_at "done"
  exact ⟨_, rfl⟩

end
section
open PySem PySem.W PySem.W.X PyProof.Rows PySem.Calls
/-- the heap's part that a tree of new objects gives -/
noncomputable def newK (n : Nat) : List Nat → BT → Frag
  | [], _ => []
  | i :: l, T => match T.get i with
    | some o => (n + i, o) :: newK n l T
    | none => newK n l T
noncomputable def is64 : List Nat := List.range 64
noncomputable def clsK (T : BT) (P : Params) : Frag := newK 288 is64 T ++ KK P
/-- what the class K must be like -/
noncomputable def chkMake (K : Frag) : Bool := makesIn K 348 && findIn K (.ref 348) "__init__" == some (some (.ref 304)) && typeIn K (.ref 304) == some (.type "function")
noncomputable def chkSlot (K : Frag) : Bool := findIn K (.ref 348) "__setattr__" == some (some (.builtin "object.__setattr__")) && plainOver K 348 && takerIn K 348 "obj" == some (some (.ref 349)) && typeIn K (.ref 349) == some (.type "member_descriptor") && slotIn K 349 348 == some 0
noncomputable def chkGet (K : Frag) : Bool := plainGet K 348 "obj" && isClsIn K 348 && findIn K (.ref 348) "obj" == some (some (.ref 349)) && specialIn K (.ref 349) "__get__" == some (some (.builtin "member_descriptor.__get__")) && takesIn K (.ref 349) == some true
noncomputable def chkCmp1 (K : Frag) (op : CmpOp) (f : Addr) : Bool := findIn K (.ref 348) (cmpInfo op).2.1 == some (some (.ref f)) && isFn K (.ref f)
noncomputable def chkCmp (K : Frag) : Bool := chkCmp1 K .Lt 312 && chkCmp1 K .Gt 320 && chkCmp1 K .Eq 328 && chkCmp1 K .LtE 336 && chkCmp1 K .GtE 344
noncomputable def chkNe (K : Frag) : Bool := findIn K (.ref 348) "__ne__" == some (some (.builtin "object.__ne__"))

end
section
open PySem PySem.W PySem.W.X PyProof.Rows PySem.Calls
/-- the function record at f -/
noncomputable def fdOf (K : Frag) (f : Addr) : FuncData := match K.lookup f with
  | some ⟨_, _, .func fd, _⟩ => fd
  | _ => default
theorem fn_at {K : Frag} {f : Addr} (h : fnIn K f = true) : ∃ oc od osl, K.lookup f = some ⟨oc, od, .func (fdOf K f), osl⟩ := by
  unfold fnIn at h
  unfold fdOf
  split at h
  · rename_i e; rw [e]; exact ⟨_, _, _, rfl⟩
  · cases h
/-- the places of a method's words: read off, never typed -/
noncomputable def posE : Expr → Pos
  | .Name _ p => p
  | .Attribute _ _ p => p
  | .Call _ _ _ p => p
  | .Compare _ _ _ p => p
  | .Constant _ _ p => p
  | _ => default
noncomputable def valE : Expr → Expr
  | .Attribute e _ _ => e
  | .Call e _ _ _ => e
  | .Compare e _ _ _ => e
  | e => e
noncomputable def argE : Nat → Expr → Expr
  | i, .Call _ l _ _ => l.getD i default
  | i, .Compare _ _ l _ => l.getD i default
  | _, e => e
noncomputable def kE : Expr → Nat
  | .Constant _ k _ => k
  | _ => 0
noncomputable def retE : FuncBody → Expr
  | .stmts [.Return (some e) _] => e
  | _ => default
noncomputable def retP : FuncBody → Pos
  | .stmts [.Return _ p] => p
  | _ => default
noncomputable def selfS : Str := Str.ofString "self"
noncomputable def otherS : Str := Str.ofString "other"
noncomputable def objS : Str := Str.ofString "obj"
noncomputable def mycS : Str := Str.ofString "mycmp"
/-- a comparing's body: the two things' crosswise figure against 0 -/
noncomputable def cmpBody (op : CmpOp) (e : Expr) (p : Pos) : Stmt :=
  .Return (some (.Compare (.Call (.Name mycS (posE (valE (valE e)))) [.Attribute (.Name selfS (posE (valE (argE 0 (valE e))))) objS (posE (argE 0 (valE e))), .Attribute (.Name otherS (posE (valE (argE 1 (valE e))))) objS (posE (argE 1 (valE e)))] [] (posE (valE e))) [op] [.Constant (.int 0) (kE (argE 0 e)) (posE (argE 0 e))] (posE e))) p

noncomputable def chkScope (sc : Scope) (x y : Str) : Bool := sc.kind == .function && !sc.isCoroutine && !sc.isGenerator && sc.names.all (fun p => p.2 != .cell) && sc.names.lookup x == some .local && sc.names.lookup y == some .local
structure Fn2 (K : Frag) (f : Addr) (x y : Str) : Prop where
  fn : fnIn K f = true
  bind : ∀ a b, bindArgs (fdOf K f) ⟨[a, b], []⟩ = pure [(x, a), (y, b)]
  sc : chkScope (fdOf K f).scope x y = true
  code : codeIn K (fdOf K f).code (fdOf K f).qualname = true
structure Mth (K : Frag) (op : CmpOp) (f : Addr) : Prop extends Fn2 K f selfS otherS where
  body : (fdOf K f).body = .stmts [cmpBody op (retE (fdOf K f).body) (retP (fdOf K f).body)]
  clos : (fdOf K f).closure = [(mycS, 289)]
  free : (fdOf K f).scope.names.lookup mycS = some .free
section
variable {w : World} {d : Nat} {E : Value → Shared → Prop} {s : Shared} {p : Program} {loose : List Str} {mean : ExcName → Option Value} {mg mb : Str → Option Value} {K : Frag}
/-- into a method of two names -/
theorem enterM {P : Heap → Value → Prop} {f : Addr} {x y : Str} {a b : Value} {body : List Stmt} (M : Fn2 K f x y) (hb : (fdOf K f).body = .stmts body) (hroom : d + 400 < recursionLimit) (X : K.In s.heap) (hn : s.heap.NoLimit)
    (h : ∀ L h₁, Fr s.heap L h₁ (lk [(y, b), (x, a)]) → News s.heap L h₁ [] →
      wpAny (model pw w) ((AA d).deeper (callEnv (fdOf K f) L f)) (execs body (callEnv (fdOf K f) L f))
        (fun fl s' => Ans P s.heap s.gens s.drawn s.os (match fl with | .ret v => v | _ => .none) s') (fun _ _ => False)
        { s with heap := h₁, toks := s.toks + 2 }) :
    Call w d (.ref f) [a, b] P s := by
  obtain ⟨oc, od, osl, ho⟩ := fn_at M.fn
  have hs := M.sc
  simp only [chkScope, Bool.and_eq_true, beq_iff_eq, Bool.not_eq_true'] at hs
  obtain ⟨⟨⟨⟨⟨h1, h2⟩, h3⟩, h4⟩, h5⟩, h6⟩ := hs
  refine wpAny_call (codeAny_call_def (fd := fdOf K f) (body := body) (binds := [(x, a), (y, b)]) hroom (X _ _ ho) rfl hn (codeRec_of X M.code) hb (.of_eq (M.bind a b)) ?_ ?_ (fun h₁ hns hk₁ => ?_) h2 h3 h1)
  · intro z hz q
    have := List.all_eq_true.mp h4 z hz
    rw [q] at this
    cases this
  · intro z hz
    rcases List.mem_cons.mp hz with rfl | hz
    · exact h5
    · rw [List.mem_singleton.mp hz]; exact h6
  · exact wpAny_mono (h _ h₁ ⟨hns, hk₁, Nat.le_refl _⟩ fun _ hm => (nomatch hm)) (fun _ _ x => x) (fun _ _ x => x.elim)
end

/-- two figures, compared -/
noncomputable def opB : CmpOp → Int → Int → Bool
  | .Eq, a, b => a == b
  | .NotEq, a, b => a != b
  | .Lt, a, b => decide (a < b)
  | .LtE, a, b => decide (a ≤ b)
  | .Gt, a, b => decide (a > b)
  | .GtE, a, b => decide (a ≥ b)
  | _, _, _ => false
noncomputable def fiveOps : List CmpOp := [.Eq, .Lt, .LtE, .Gt, .GtE]
theorem five_int {prog : Program} {w : World} {A : Around} {E : Value → Shared → Prop} {s : Shared} {op : CmpOp} (ho : op ∈ fiveOps) {a b : Int} {t u : Tok} {Q : Value → Shared → Prop} (h : Q (.bool (opB op a b)) s) :
    wpAny (model prog w) A (compareOp op (.int a t) (.int b u)) Q E s := by
  simp only [fiveOps, List.mem_cons, List.not_mem_nil, or_false] at ho
  rcases ho with rfl | rfl | rfl | rfl | rfl
  · exact PySem.P.eq_int h
  · exact PySem.P.lt_int h
  · exact PySem.P.le_int h
  · exact PySem.P.gt_int h
  · exact PySem.P.ge_int h
theorem five_marks {op : CmpOp} (ho : op ∈ fiveOps) (c : Const) (k : Nat) (p : Pos) : behindInMarks op (.Constant c k p) = false := by
  simp only [fiveOps, List.mem_cons, List.not_mem_nil, or_false] at ho
  rcases ho with rfl | rfl | rfl | rfl | rfl <;> with_unfolding_all rfl
/-- a key: an object of K that holds v -/
noncomputable def keyO (dx : Addr) (v : Value) : Obj := { cls := .ref 348, dict := some dx, data := .plain, slots := #[some v] }
structure IsKey (h : Heap) (x : Addr) (v : Value) : Prop where
  at_ : ∃ dx, h.get? x = some (keyO dx v) ∧ h.get? dx = some emptyDict
theorem IsKey.stays {h h' : Heap} {x : Addr} {v : Value} (I : IsKey h x v) (st : Stays h h') : IsKey h' x v := by
  obtain ⟨dx, a, b⟩ := I.at_
  exact ⟨dx, st _ _ a, st _ _ b⟩
section
variable {prog : Program} {w : World} {A : Around} {E : Value → Shared → Prop} {s : Shared} {K : Frag} {x L : Addr} {h₀ : Heap} {m : Str → Option Value} {v : Value}
theorem IsKey.inst {h : Heap} (I : IsKey h x v) : ∃ dx, InstAt h x (keyO dx v) 348 (some emptyDict) := by
  obtain ⟨dx, a, b⟩ := I.at_
  exact ⟨dx, a, rfl, rfl, b⟩
theorem get_obj {expr : Bool} {Q : Value → Shared → Prop} (F : Fr h₀ L s.heap m) (X₀ : K.In h₀) (I : IsKey s.heap x v) (hg : chkGet K = true) (hs : chkSlot K = true) (hh : handedIn v = true) (h : Q v { s with toks := s.toks + 1 }) :
    wpAny (model prog w) A (getAttr (.ref x) objS expr) Q E s := by
  simp only [chkGet, Bool.and_eq_true, beq_iff_eq] at hg
  simp only [chkSlot, Bool.and_eq_true, beq_iff_eq] at hs
  obtain ⟨⟨⟨⟨g1, g2⟩, g3⟩, g4⟩, g5⟩ := hg
  obtain ⟨dx, J⟩ := I.inst
  exact get_slot F X₀ J g1 g2 g3 g4 g5 hs.2 rfl hh h
/-- a name of a method -/
theorem nmM {env : Env} {y : Str} {pos : Pos} {u : Value} {Q : Value → Shared → Prop} (F : Fr h₀ env.locals s.heap m) (hv : m y = some u) (h : Q u s) (hk : env.scope.kind = .function) (hl : env.kindOf y = some .local) (hd : (y == ("__debug__" : Str)) = false) :
    wpAny (model prog w) A (eval (.Name y pos) env) Q E s := wpAny_Name (wpAny_loadName_local hk hl F.ns hv h) hd
end
/-- the facts of the class K -/
structure KProps (K : Frag) : Prop where
  make : chkMake K = true
  slot : chkSlot K = true
  get : chkGet K = true
  cmp : chkCmp K = true
  ne : chkNe K = true
  cell : K.lookup 289 = some { cls := .type "cell", data := .cell (some (.ref 260)) }
  lt : Mth K .Lt 312
  gt : Mth K .Gt 320
  eq : Mth K .Eq 328
  le : Mth K .LtE 336
  ge : Mth K .GtE 344
section
variable {w : World} {K : Frag} {s : Shared} {p : Program} {loose : List Str} {mean : ExcName → Option Value} {mg mb : Str → Option Value}
/-- a pair of small figures at a -/
structure PairO (h : Heap) (a : Addr) (n d : Int) : Prop where
  at_ : ∃ t u, h.get? a = some { cls := .type "tuple", data := .seq #[.int n t, .int d u] }
  n0 : 0 ≤ n ∧ n < 100
  d0 : 0 ≤ d ∧ d < 100
theorem PairO.stays {h h' : Heap} {a : Addr} {n d : Int} (P : PairO h a n d) (st : Stays h h') : PairO h' a n d := by
  obtain ⟨⟨t, u, e⟩, x, y⟩ := P
  exact ⟨⟨t, u, st _ _ e⟩, x, y⟩
theorem keep260 : keepIn (KK w.params) (.ref 260) = true := by kernel_rfl
theorem mth_c {op : CmpOp} {f : Addr} (ho : op ∈ fiveOps) (M : Mth K op f) (Y : KProps K) (X : K.In s.heap) (KX : (Mine.KK w.params).In s.heap) (T : Top p loose mean mg mb s.heap) {x y a b : Addr} {n d n' d' : Int}
    (hx : IsKey s.heap x (.ref a)) (hy : IsKey s.heap y (.ref b)) (ha : PairO s.heap a n d) (hb : PairO s.heap b n' d') :
    Call w 90 (.ref f) [.ref x, .ref y] (fun _ r => r = .bool (opB op (n * d' - n' * d) 0)) s := by
  refine enterM M.toFn2 M.body (by decide) X T.nolimit fun L h₁ F N => ?_
  have hs := M.sc
  simp only [chkScope, Bool.and_eq_true, beq_iff_eq, Bool.not_eq_true'] at hs
  obtain ⟨⟨⟨⟨⟨h1, h2⟩, h3⟩, h4⟩, h5⟩, h6⟩ := hs
  have F' : Fr s.heap (callEnv (fdOf K f) L f).locals h₁ (lk [(otherS, .ref y), (selfS, .ref x)]) := F
  have hk : (callEnv (fdOf K f) L f).scope.kind = .function := h1
  have st := F.keep
  refine wpAny_execs_cons (wpAny_Return_some ?_)
  refine wpAny_Compare1 ?_ (five_marks ho _ _ _)
  refine Call_ ?_
  refine wpAny_Name (wpAny_loadName_free (c := 289) (v := .ref 260) hk M.free (by show (fdOf K f).closure.lookup mycS = _; rw [M.clos]; rfl) ⟨_, X.keeps st _ _ Y.cell, rfl⟩ ?_ (by decide +kernel)) (by decide +kernel)
  refine callWith_K (K := KK w.params) KX keep260 ?_
  refine spliced_more (Attribute_Name_ (nmM F' (by rfl) ?_ hk h5 (by decide +kernel)))
  refine get_obj F' X (hx.stays st) Y.get Y.slot rfl ?_
  refine spliced_more (Attribute_Name_ (nmM F' (by rfl) ?_ hk h6 (by decide +kernel)))
  refine get_obj F' X (hy.stays st) Y.get Y.slot rfl ?_
  refine spliced_none ⟨KX.keeps st, ?_⟩
  obtain ⟨⟨ta, tb, ea⟩, ha1, ha2⟩ := ha.stays st
  obtain ⟨⟨tc, td, eb⟩, hb1, hb2⟩ := hb.stays st
  refine ans_k (s := { s with heap := h₁, toks := _ }) (d := 97) (Rm.le (Rm.deeper (Rm.mk' 90) _) (by decide)) F' (fun _ hm => (nomatch hm) : News s.heap L h₁ []) (across_c w (KX.keeps st) (T.keeps st) a b n d n' d' ha1 ha2 hb1 hb2 ta tb tc td ea eb) ?_
  rintro v h' tk ⟨t, rfl⟩ - F1 N1
  refine wpAny_Constant_int (five_int ho ?_)
  exact ans_fr F1 rfl
end

end
section
open PySem PySem.W PySem.W.X PyProof.Rows PySem.Calls
noncomputable def stP : FuncBody → Pos
  | .stmts [.Assign _ _ p] => p
  | _ => default
noncomputable def stT : FuncBody → Expr
  | .stmts [.Assign [t] _ _] => t
  | _ => default
noncomputable def stV : FuncBody → Expr
  | .stmts [.Assign _ v _] => v
  | _ => default
/-- self.obj = obj -/
noncomputable def iniBody (b : FuncBody) : List Stmt := [.Assign [.Attribute (.Name selfS (posE (valE (stT b)))) objS (posE (stT b))] (.Name objS (posE (stV b))) (stP b)]
structure Ini (K : Frag) (f : Addr) : Prop extends Fn2 K f selfS objS where
  body : (fdOf K f).body = .stmts (iniBody (fdOf K f).body)
section
variable {w : World} {d : Nat} {s : Shared} {K : Frag}
theorem key_c (Y : KProps K) (I : Ini K 304) (X : K.In s.heap) (hn : s.heap.NoLimit) (v : Value) :
    Call w 90 (.ref 348) [v] (fun h r => ∃ x dx, r = .ref x ∧ h.get? x = some (keyO dx v) ∧ h.get? dx = some emptyDict ∧ s.heap.get? x = none ∧ s.heap.get? dx = none ∧ x ≠ dx) s := by
  have hm := Y.make
  simp only [chkMake, Bool.and_eq_true, beq_iff_eq] at hm
  obtain ⟨⟨m1, m2⟩, m3⟩ := hm
  have hsl := Y.slot
  simp only [chkSlot, Bool.and_eq_true, beq_iff_eq] at hsl
  obtain ⟨⟨⟨⟨s1, s2⟩, s3⟩, s4⟩, s5⟩ := hsl
  obtain ⟨hh, g, dr, t, os⟩ := s
  dsimp only at X hn
  refine wpAny_call (make_core (makes_of X m1) (looks_findIn X m2) (fun self => bind_fn X self m3) (.inl rfl) ?_)
  obtain ⟨oc, od, osl, ho⟩ := fn_at I.fn
  have hs := I.sc
  simp only [chkScope, Bool.and_eq_true, beq_iff_eq, Bool.not_eq_true'] at hs
  obtain ⟨⟨⟨⟨⟨h1, h2⟩, h3⟩, h4⟩, h5⟩, h6⟩ := hs
  generalize hH : (hh.push emptyDict).push (instObj 348 hh.objs.size) = H
  have k0 : Stays hh H := fun b o e => by rw [← hH]; exact Heap.get?_push_of_some _ (Heap.get?_push_of_some _ e)
  have hx : H.get? (hh.objs.size + 1) = some (instObj 348 hh.objs.size) := by rw [← hH]; heap_get
  have hd : H.get? hh.objs.size = some emptyDict := by rw [← hH]; exact Heap.get?_push_of_some _ (Heap.get?_push_size _ rfl)
  have hz : H.objs.size = hh.objs.size + 2 := by rw [← hH]; simp [Heap.size_push]
  have nn : ∀ a, hh.objs.size ≤ a → hh.get? a = none := fun a ha => by
    cases q : hh.get? a with
    | none => rfl
    | some o => exact absurd (Heap.lt_size q) (Nat.not_lt.mpr ha)
  refine codeAny_call_def (s := ⟨H, g, dr, t, os⟩) (fd := fdOf K 304) (body := iniBody (fdOf K 304).body) (binds := [(selfS, .ref (hh.objs.size + 1)), (objS, v)]) (by show 90 + 400 + 1 < recursionLimit; decide) (X.keeps k0 _ _ ho) rfl (hn.keeps k0) (codeRec_of (X.keeps k0) I.code) I.body (.of_eq (I.bind _ _)) ?_ ?_ (fun h₁ hns hk₁ => ?_) h2 h3 h1
  · intro z hz q
    have := List.all_eq_true.mp h4 z hz
    rw [q] at this
    cases this
  · intro z hz
    rcases List.mem_cons.mp hz with rfl | hz
    · exact h5
    · rw [List.mem_singleton.mp hz]; exact h6
  · have k1 : Stays hh h₁ := k0.trans hk₁
    have F : Fr hh H.objs.size h₁ (lk [(objS, v), (selfS, .ref (hh.objs.size + 1))]) := ⟨hns, k1, by rw [hz]; omega⟩
    have F' : Fr hh (callEnv (fdOf K 304) H.objs.size 304).locals h₁ (lk [(objS, v), (selfS, .ref (hh.objs.size + 1))]) := F
    have N : News hh H.objs.size h₁ [(hh.objs.size + 1, instObj 348 hh.objs.size), (hh.objs.size, emptyDict)] := fun p hp => by
      rcases List.mem_cons.mp hp with rfl | hp
      · exact ⟨hk₁ _ _ hx, by rw [hz]; show hh.objs.size + 1 ≠ _; omega, nn _ (by show _ ≤ hh.objs.size + 1; omega)⟩
      · rw [List.mem_singleton.mp hp]; exact ⟨hk₁ _ _ hd, by rw [hz]; show hh.objs.size ≠ _; omega, nn _ (Nat.le_refl _)⟩
    have hk : (callEnv (fdOf K 304) H.objs.size 304).scope.kind = .function := h1
    refine wpAny_execs_cons (plainObj_wpAny_Assign_Attribute ?_ (by with_unfolding_all rfl))
    refine nmM F' (by rfl) ?_ hk h6 (by decide +kernel)
    refine nmM F' (by rfl) ?_ hk h5 (by decide +kernel)
    refine set_slot F X N ⟨(N _ (.head _)).1, rfl, rfl, (N _ (.tail _ (.head _))).1⟩ s1 s2 s3 s4 s5 (by decide) rfl rfl (Upd.head ?_) ?_
    · intro p hp
      rw [List.mem_singleton.mp hp]
      show hh.objs.size ≠ _
      omega
    · intro h' F1 N1
      refine wpAny_execs_nil ⟨rfl, ?_⟩
      exact ⟨h', _, rfl, F1.keep, _, _, rfl, (N1 _ (.head _)).1, (N1 _ (.tail _ (.head _))).1, nn (hh.objs.size + 1) (Nat.le_succ _), nn _ (Nat.le_refl _), Nat.succ_ne_self _⟩
end

end
section
open PySem PySem.W PySem.W.X PyProof.Rows PySem.Calls
noncomputable def sixOps : List CmpOp := [.Eq, .NotEq, .Lt, .LtE, .Gt, .GtE]
theorem ne_bind (self : Value) : bindSpecial (.builtin "object.__ne__") self = pure (.builtin "object.__ne__", [self]) :=
  (Slot.of (T := "object") (name := "__ne__") (owner := "object") (n := "__ne__") (by rw [typeLookup_type, builtinLookup_eq_fast]; kernel_rfl) (by decide +kernel) (by decide +kernel) (by decide +kernel)
    (.inl (by decide +kernel)) (by rw [isSubtype_type]; kernel_rfl)).bind self
theorem ne_plain : plainId "object.__ne__" = true := by decide +kernel
/-- the fact that one of the five methods is the class's own -/
theorem five_at {K : Frag} (Y : KProps K) {op : CmpOp} (ho : op ∈ fiveOps) : ∃ f, findIn K (.ref 348) (cmpInfo op).2.1 = some (some (.ref f)) ∧ isFn K (.ref f) = true ∧ Mth K op f := by
  have hc := Y.cmp
  simp only [chkCmp, chkCmp1, Bool.and_eq_true, beq_iff_eq] at hc
  obtain ⟨⟨⟨⟨⟨a1, a2⟩, b1, b2⟩, c1, c2⟩, d1, d2⟩, e1, e2⟩ := hc
  simp only [fiveOps, List.mem_cons, List.not_mem_nil, or_false] at ho
  rcases ho with rfl | rfl | rfl | rfl | rfl
  · exact ⟨_, c1, c2, Y.eq⟩
  · exact ⟨_, a1, a2, Y.lt⟩
  · exact ⟨_, d1, d2, Y.le⟩
  · exact ⟨_, b1, b2, Y.gt⟩
  · exact ⟨_, e1, e2, Y.ge⟩
section
variable {w : World} {K : Frag} {A : Around} {s : Shared} {p : Program} {loose : List Str} {mean : ExcName → Option Value} {mg mb : Str → Option Value} {Q : Value → Shared → Prop} {E : Value → Shared → Prop} {h₀ : Heap} {L : Addr} {m : Str → Option Value} {news : List (Addr × Obj)} {x y a b : Addr} {n d n' d' : Int}
/-- one way of the comparing: the class's own method is asked -/
theorem rich_try {op : CmpOp} {v : Value} (hu : A.units < cLine) (X : K.In s.heap) {u u' : Value} (hx : IsKey s.heap x u) (hy : IsKey s.heap y u') (one : wpAny (model pw w) A (callSpecialIfBound? (.ref x) (cmpInfo op).2.1 [.ref y]) (fun r s' => ∃ v, r = some v ∧ v ≠ .notImplemented ∧ Q v s') E s) :
    wpAny (model pw w) A (richCompare op (.ref x) (.ref y)) Q E s := by
  obtain ⟨dx, I⟩ := hx.inst
  obtain ⟨dy, J⟩ := hy.inst
  have two : wpAny (model pw w) A (tryCompare (.ref x) (cmpInfo op).2.1 (.ref y)) (fun r s' => ∃ v, r = some v ∧ Q v s') E s := by
    unfold tryCompare
    refine wpAny_bind (wpAny_mono one (fun r s' hr => ?_) fun _ _ e => e)
    obtain ⟨v, rfl, hv, hq⟩ := hr
    cases v <;> first | exact (hv rfl).elim | exact wpAny_pure ⟨_, rfl, hq⟩
  unfold richCompare
  simp only [oneThing_ref]
  refine wpAny_holding (wpAny_bind (wpAny_cRoomFor hu ?_))
  refine wpAny_bind (I.type.here (wpAny_bind (J.type.here ?_)))
  rw [show (Value.ref 348 != Value.ref 348) = false from by simp]
  simp only [Bool.false_eq_true, if_false]
  refine wpAny_bind (wpAny_pure ?_)
  simp only [Bool.false_eq_true, if_false]
  refine wpAny_bind (wpAny_mono two (fun r s' z => ?_) fun _ _ e => e)
  obtain ⟨v, rfl, hq⟩ := z
  exact wpAny_pure hq
theorem rich_five {op : CmpOp} (ho : op ∈ fiveOps) (R : Rm A 90) (Y : KProps K) (F : Fr h₀ L s.heap m) (N : News h₀ L s.heap news) (X : K.In s.heap) (KX : (Mine.KK w.params).In h₀) (T : Top p loose mean mg mb h₀)
    (hx : IsKey s.heap x (.ref a)) (hy : IsKey s.heap y (.ref b)) (ha : PairO s.heap a n d) (hb : PairO s.heap b n' d')
    (h : ∀ h' tk, Stays s.heap h' → Fr h₀ L h' m → News h₀ L h' news → Q (.bool (opB op (n * d' - n' * d) 0)) { s with heap := h', toks := tk }) : wpAny (model pw w) A (richCompare op (.ref x) (.ref y)) Q E s := by
  obtain ⟨f, f1, f2, M⟩ := five_at Y ho
  obtain ⟨dx, I⟩ := hx.inst
  refine rich_try (v := .none) (Nat.lt_of_le_of_lt R.hu (by decide)) X hx hy (ifBound_K X I f1 f2 ?_)
  refine ans_k R F N (mth_c ho M Y X (KX.keeps F.keep) (T.keeps F.keep) hx hy ha hb) ?_
  rintro v h' tk rfl st F' N'
  exact ⟨_, rfl, fun e => (by cases e), h h' tk st F' N'⟩
theorem ne_body (R : Rm A 90) (Y : KProps K) (F : Fr h₀ L s.heap m) (N : News h₀ L s.heap news) (X : K.In s.heap) (KX : (Mine.KK w.params).In h₀) (T : Top p loose mean mg mb h₀)
    (hx : IsKey s.heap x (.ref a)) (hy : IsKey s.heap y (.ref b)) (ha : PairO s.heap a n d) (hb : PairO s.heap b n' d') {Q : Fin → Shared → Prop}
    (h : ∀ h' tk, Stays s.heap h' → Fr h₀ L h' m → News h₀ L h' news → Q (.done (.ret (.bool (opB .NotEq (n * d' - n' * d) 0)))) { s with heap := h', toks := tk }) :
    wpAny (model pw w) A (Builtin.«object.__ne__» ⟨[.ref x, .ref y], []⟩) Q E s := by
  obtain ⟨f, f1, f2, M⟩ := five_at Y (op := .Eq) (by decide)
  obtain ⟨dx, I⟩ := hx.inst
  have hu : A.units < cLine := Nat.lt_of_le_of_lt R.hu (by decide)
  have hcall : wpAny (model pw w) A (callSpecialIfBound? (.ref x) (Str.ofString "__eq__") [.ref y]) (fun r s' => ∃ c, r = some (.bool c) ∧ Q (.done (.ret (.bool (!c)))) s') E s := by
    refine ifBound_K X I f1 f2 ?_
    refine ans_k R F N (mth_c (by decide) M Y X (KX.keeps F.keep) (T.keeps F.keep) hx hy ha hb) ?_
    rintro v h' tk rfl st F' N'
    exact ⟨_, rfl, h h' tk st F' N'⟩
  unfold Builtin.«object.__ne__»
  obtain ⟨hh, g, dr, t, os⟩ := s
  repeat (first
    | with_reducible refine wpAny_cRoomFor hu ?_
    | (refine wpAny_bind (m := callSpecialIfBound? (.ref x) (Str.ofString "__eq__") [.ref y])
        (wpAny_mono hcall (fun r s' hr => by
          obtain ⟨b, rfl, hq⟩ := hr
          repeat (first | exact hq | exact wpAny_pure hq | exact wpAny_truthy_bool hq | (refine wpAny_bind (m := truthy (.bool _)) (wpAny_truthy_bool ?_)) | wp_step)) fun _ _ e => e))
    | wp_step)
theorem rich_ne (R : Rm A 89) (Y : KProps K) (F : Fr h₀ L s.heap m) (N : News h₀ L s.heap news) (X : K.In s.heap) (KX : (Mine.KK w.params).In h₀) (T : Top p loose mean mg mb h₀)
    (hx : IsKey s.heap x (.ref a)) (hy : IsKey s.heap y (.ref b)) (ha : PairO s.heap a n d) (hb : PairO s.heap b n' d')
    (h : ∀ h' tk, Stays s.heap h' → Fr h₀ L h' m → News h₀ L h' news → Q (.bool (opB .NotEq (n * d' - n' * d) 0)) { s with heap := h', toks := tk }) : wpAny (model pw w) A (richCompare .NotEq (.ref x) (.ref y)) Q E s := by
  obtain ⟨dx, I⟩ := hx.inst
  have hne : findIn K (.ref 348) "__ne__" = some (some (.builtin "object.__ne__")) := by have := Y.ne; exact beq_iff_eq.mp this
  have hm := Y.make
  simp only [chkMake, Bool.and_eq_true, beq_iff_eq] at hm
  have hu : A.units < cLine := Nat.lt_of_le_of_lt R.hu (by decide)
  have ty : Looks (model pw w) s.heap (isInstance (.ref x) (.type "object")) true := I.type.andThen (makes_of X hm.1.1).top
  have body : wpAny (model pw w) A (call (.builtin "object.__ne__") [.ref x, .ref y]) (fun v s' => v ≠ .notImplemented ∧ Q v s') E s := by
    refine wpAny_call (codeAny_call_builtin ne_plain PySem.F.cmpEntry_ne (check_slot (owner := "object") (n := "__ne__") PySem.F.cmpKind_ne PySem.F.cmpSplit_ne ty (PySem.F.cmpArgs_ne _ _) ?_))
    exact ne_body (R.in1.le (by decide)) Y F N X KX T hx hy ha hb fun h' tk st F' N' => ⟨fun e => (by cases e), h h' tk st F' N'⟩
  have fin : wpAny (model pw w) A (call (.builtin "object.__ne__") ([.ref x] ++ [.ref y]) >>= fun v => pure (some v)) (fun r s' => ∃ v, r = some v ∧ v ≠ .notImplemented ∧ Q v s') E s := wpAny_bind (wpAny_mono body (fun v s' h' => wpAny_pure ⟨v, rfl, h'⟩) fun _ _ h' => h')
  refine rich_try (v := .none) hu X hx hy ?_
  simp only [callSpecialIfBound?, bindSpecialIfBound?]
  refine wpAny_holding (wpAny_bind (wpAny_bind (wpAny_bind (I.type.here ((looks_findIn X hne).here ?_)))))
  refine wpAny_bind (wpAny_askSetting (wpAny_ite ?_))
  split
  · rw [ne_bind]
    exact wpAny_bind (wpAny_pure (wpAny_pure (by exact fin)))
  · rw [ne_bind]
    exact wpAny_tryCatch (wpAny_bind (wpAny_pure (wpAny_pure (by exact fin))))
theorem key_cmp {op : CmpOp} (ho : op ∈ sixOps) (R : Rm A 89) (Y : KProps K) (F : Fr h₀ L s.heap m) (N : News h₀ L s.heap news) (X : K.In s.heap) (KX : (Mine.KK w.params).In h₀) (T : Top p loose mean mg mb h₀)
    (hx : IsKey s.heap x (.ref a)) (hy : IsKey s.heap y (.ref b)) (ha : PairO s.heap a n d) (hb : PairO s.heap b n' d')
    (h : ∀ h' tk, Stays s.heap h' → Fr h₀ L h' m → News h₀ L h' news → Q (.bool (opB op (n * d' - n' * d) 0)) { s with heap := h', toks := tk }) : wpAny (model pw w) A (compareOp op (.ref x) (.ref y)) Q E s := by
  simp only [sixOps, List.mem_cons, List.not_mem_nil, or_false] at ho
  rcases ho with rfl | rfl | rfl | rfl | rfl | rfl <;> unfold compareOp
  · exact rich_five (by decide) (R.le (by decide)) Y F N X KX T hx hy ha hb h
  · exact rich_ne R Y F N X KX T hx hy ha hb h
  · exact rich_five (by decide) (R.le (by decide)) Y F N X KX T hx hy ha hb h
  · exact rich_five (by decide) (R.le (by decide)) Y F N X KX T hx hy ha hb h
  · exact rich_five (by decide) (R.le (by decide)) Y F N X KX T hx hy ha hb h
  · exact rich_five (by decide) (R.le (by decide)) Y F N X KX T hx hy ha hb h
end

end
theorem calm_M24 : True := by
  w_top off
  trivial
section
open PySem PySem.W PySem.W.X PyProof.Rows PySem.Calls
local macro_rules | `(tactic| walk_at "compareOp Lt ref ref") => `(tactic| walk_at "H")
local macro_rules | `(tactic| walk_at "compareOp LtE ref ref") => `(tactic| walk_at "H")
local macro_rules | `(tactic| walk_at "compareOp Gt ref ref") => `(tactic| walk_at "H")
local macro_rules | `(tactic| walk_at "compareOp GtE ref ref") => `(tactic| walk_at "H")
local macro_rules | `(tactic| walk_at "compareOp Eq ref ref") => `(tactic| walk_at "H")
local macro_rules | `(tactic| walk_at "compareOp NotEq ref ref") => `(tactic| walk_at "H")
section
variable (w : World) {s : Shared} {p : Program} {loose : List Str} {mean : ExcName → Option Value} {mg mb : Str → Option Value} {K : Frag} (Y : KProps K) (X : K.In s.heap) (KX : (Mine.KK w.params).In s.heap) (T : Top p loose mean mg mb s.heap) {x y a b : Addr} {n d n' d' : Int}
    (hx : IsKey s.heap x (.ref a)) (hy : IsKey s.heap y (.ref b)) (ha : PairO s.heap a n d) (hb : PairO s.heap b n' d')
include Y X KX T hx hy ha hb
set_option maxRecDepth 100000 in
set_option maxHeartbeats 8000000 in
theorem lt_c : Call w 80 (.ref 148) [.ref x, .ref y] (fun _ r => r = .bool (opB .Lt (n * d' - n' * d) 0)) s := by
  k_dflt (refine' enter2 (Str.ofString "a") (Str.ofString "b") ?k1 ?k2 ?k3 ?k4 ?k5 ?k6 ?k7 ?k72 ?k8 ?k9 ?k10 ?k11 ?_; ((case k1 => decide); (case k2 => k_asm); (case k3 => k_asm); (case k4 => k_is); (case k5 => k_is); (case k6 => exact rfl); (case k7 => exact rfl); (case k72 => exact rfl); (case k8 => decide); (case k9 => exact rfl); (case k10 => exact rfl); (case k11 => exact rfl); k_whole; intro L' h' F' N'; (try dsimp only); dsimp only [S.p, S.sep, S.i, S.head, S.tail, S.fspath, S.uugetusep, S.len, S.rfind, S.rstrip, S.a, S.b, S.path, S.startswith, S.endswith, S.join, S.TypeError, S.AttributeError, S.BytesWarning, S.uucheckuargutypes, S.isinstance, S.bytes, S.empty, S.splitroot, S.normpath, S.dot, S.dotdot, S.uu, S.initial_slashes, S.comps, S.new_comps, S.comp, S.split, S.append, S.pop, S.paths, S.tuple, S.map, S.ValueError, S.split_paths, S.isabs, S.s, S.c, S.curdir, S.s1, S.s2, S.common, S.enumerate, S.min, S.max, S.prefix, S.commonpath, S.count, S.K, S.mycmp, S.obj, S.other, S.self, S.function, S.sequence, S.initial, S.uuinitialumissing, S.it, S.iter, S.value, S.next, S.StopIteration, S.element, S.reduce, S.cell, S.kinds, S.k, S.range, S.uulawupieces, S.pair, S.piece, S.n, S.d, S.add, S.sub, S.uulawustep, S.names, S.uulawunames, S.place, S.uulawuupward, S.replace, S.name, S.one, S.uulawuacross, S.mul, S.low, S.high, S.uulawusimplest, S.uulawumeet, S.script, S.key, S.places, S.sides, S.cmp_to_key, S.pieces, S.sum, S.crooked, S.values, S.keys, S.countOf, S.j, S.x, S.y, S.t, S.told, S.due, S.lt, S.le, S.eq, S.ne, S.ge, S.gt, S.m, S.mask, S.chosen, S.row, S.sorted, S.lowest, S.some, S.os]; (try k_fold)))
  k_steps
  show wpAny _ _ _ _ _ _
  refine key_cmp (by decide) (by walk_at "rm") Y (by assumption) (by assumption) (X.keeps (Fr.keep (by assumption))) KX T (hx.stays (Fr.keep (by assumption))) (hy.stays (Fr.keep (by assumption))) (ha.stays (Fr.keep (by assumption))) (hb.stays (Fr.keep (by assumption))) ?_
  intro h2 tk2 _ F2 N2
  exact ans_fr F2 rfl
set_option maxRecDepth 100000 in
set_option maxHeartbeats 8000000 in
theorem le_c : Call w 80 (.ref 155) [.ref x, .ref y] (fun _ r => r = .bool (opB .LtE (n * d' - n' * d) 0)) s := by
  k_dflt (refine' enter2 (Str.ofString "a") (Str.ofString "b") ?k1 ?k2 ?k3 ?k4 ?k5 ?k6 ?k7 ?k72 ?k8 ?k9 ?k10 ?k11 ?_; ((case k1 => decide); (case k2 => k_asm); (case k3 => k_asm); (case k4 => k_is); (case k5 => k_is); (case k6 => exact rfl); (case k7 => exact rfl); (case k72 => exact rfl); (case k8 => decide); (case k9 => exact rfl); (case k10 => exact rfl); (case k11 => exact rfl); k_whole; intro L' h' F' N'; (try dsimp only); dsimp only [S.p, S.sep, S.i, S.head, S.tail, S.fspath, S.uugetusep, S.len, S.rfind, S.rstrip, S.a, S.b, S.path, S.startswith, S.endswith, S.join, S.TypeError, S.AttributeError, S.BytesWarning, S.uucheckuargutypes, S.isinstance, S.bytes, S.empty, S.splitroot, S.normpath, S.dot, S.dotdot, S.uu, S.initial_slashes, S.comps, S.new_comps, S.comp, S.split, S.append, S.pop, S.paths, S.tuple, S.map, S.ValueError, S.split_paths, S.isabs, S.s, S.c, S.curdir, S.s1, S.s2, S.common, S.enumerate, S.min, S.max, S.prefix, S.commonpath, S.count, S.K, S.mycmp, S.obj, S.other, S.self, S.function, S.sequence, S.initial, S.uuinitialumissing, S.it, S.iter, S.value, S.next, S.StopIteration, S.element, S.reduce, S.cell, S.kinds, S.k, S.range, S.uulawupieces, S.pair, S.piece, S.n, S.d, S.add, S.sub, S.uulawustep, S.names, S.uulawunames, S.place, S.uulawuupward, S.replace, S.name, S.one, S.uulawuacross, S.mul, S.low, S.high, S.uulawusimplest, S.uulawumeet, S.script, S.key, S.places, S.sides, S.cmp_to_key, S.pieces, S.sum, S.crooked, S.values, S.keys, S.countOf, S.j, S.x, S.y, S.t, S.told, S.due, S.lt, S.le, S.eq, S.ne, S.ge, S.gt, S.m, S.mask, S.chosen, S.row, S.sorted, S.lowest, S.some, S.os]; (try k_fold)))
  k_steps
  show wpAny _ _ _ _ _ _
  refine key_cmp (by decide) (by walk_at "rm") Y (by assumption) (by assumption) (X.keeps (Fr.keep (by assumption))) KX T (hx.stays (Fr.keep (by assumption))) (hy.stays (Fr.keep (by assumption))) (ha.stays (Fr.keep (by assumption))) (hb.stays (Fr.keep (by assumption))) ?_
  intro h2 tk2 _ F2 N2
  exact ans_fr F2 rfl
set_option maxRecDepth 100000 in
set_option maxHeartbeats 8000000 in
theorem eq_c : Call w 80 (.ref 162) [.ref x, .ref y] (fun _ r => r = .bool (opB .Eq (n * d' - n' * d) 0)) s := by
  k_dflt (refine' enter2 (Str.ofString "a") (Str.ofString "b") ?k1 ?k2 ?k3 ?k4 ?k5 ?k6 ?k7 ?k72 ?k8 ?k9 ?k10 ?k11 ?_; ((case k1 => decide); (case k2 => k_asm); (case k3 => k_asm); (case k4 => k_is); (case k5 => k_is); (case k6 => exact rfl); (case k7 => exact rfl); (case k72 => exact rfl); (case k8 => decide); (case k9 => exact rfl); (case k10 => exact rfl); (case k11 => exact rfl); k_whole; intro L' h' F' N'; (try dsimp only); dsimp only [S.p, S.sep, S.i, S.head, S.tail, S.fspath, S.uugetusep, S.len, S.rfind, S.rstrip, S.a, S.b, S.path, S.startswith, S.endswith, S.join, S.TypeError, S.AttributeError, S.BytesWarning, S.uucheckuargutypes, S.isinstance, S.bytes, S.empty, S.splitroot, S.normpath, S.dot, S.dotdot, S.uu, S.initial_slashes, S.comps, S.new_comps, S.comp, S.split, S.append, S.pop, S.paths, S.tuple, S.map, S.ValueError, S.split_paths, S.isabs, S.s, S.c, S.curdir, S.s1, S.s2, S.common, S.enumerate, S.min, S.max, S.prefix, S.commonpath, S.count, S.K, S.mycmp, S.obj, S.other, S.self, S.function, S.sequence, S.initial, S.uuinitialumissing, S.it, S.iter, S.value, S.next, S.StopIteration, S.element, S.reduce, S.cell, S.kinds, S.k, S.range, S.uulawupieces, S.pair, S.piece, S.n, S.d, S.add, S.sub, S.uulawustep, S.names, S.uulawunames, S.place, S.uulawuupward, S.replace, S.name, S.one, S.uulawuacross, S.mul, S.low, S.high, S.uulawusimplest, S.uulawumeet, S.script, S.key, S.places, S.sides, S.cmp_to_key, S.pieces, S.sum, S.crooked, S.values, S.keys, S.countOf, S.j, S.x, S.y, S.t, S.told, S.due, S.lt, S.le, S.eq, S.ne, S.ge, S.gt, S.m, S.mask, S.chosen, S.row, S.sorted, S.lowest, S.some, S.os]; (try k_fold)))
  k_steps
  show wpAny _ _ _ _ _ _
  refine key_cmp (by decide) (by walk_at "rm") Y (by assumption) (by assumption) (X.keeps (Fr.keep (by assumption))) KX T (hx.stays (Fr.keep (by assumption))) (hy.stays (Fr.keep (by assumption))) (ha.stays (Fr.keep (by assumption))) (hb.stays (Fr.keep (by assumption))) ?_
  intro h2 tk2 _ F2 N2
  exact ans_fr F2 rfl
set_option maxRecDepth 100000 in
set_option maxHeartbeats 8000000 in
theorem ne_c : Call w 80 (.ref 169) [.ref x, .ref y] (fun _ r => r = .bool (opB .NotEq (n * d' - n' * d) 0)) s := by
  k_dflt (refine' enter2 (Str.ofString "a") (Str.ofString "b") ?k1 ?k2 ?k3 ?k4 ?k5 ?k6 ?k7 ?k72 ?k8 ?k9 ?k10 ?k11 ?_; ((case k1 => decide); (case k2 => k_asm); (case k3 => k_asm); (case k4 => k_is); (case k5 => k_is); (case k6 => exact rfl); (case k7 => exact rfl); (case k72 => exact rfl); (case k8 => decide); (case k9 => exact rfl); (case k10 => exact rfl); (case k11 => exact rfl); k_whole; intro L' h' F' N'; (try dsimp only); dsimp only [S.p, S.sep, S.i, S.head, S.tail, S.fspath, S.uugetusep, S.len, S.rfind, S.rstrip, S.a, S.b, S.path, S.startswith, S.endswith, S.join, S.TypeError, S.AttributeError, S.BytesWarning, S.uucheckuargutypes, S.isinstance, S.bytes, S.empty, S.splitroot, S.normpath, S.dot, S.dotdot, S.uu, S.initial_slashes, S.comps, S.new_comps, S.comp, S.split, S.append, S.pop, S.paths, S.tuple, S.map, S.ValueError, S.split_paths, S.isabs, S.s, S.c, S.curdir, S.s1, S.s2, S.common, S.enumerate, S.min, S.max, S.prefix, S.commonpath, S.count, S.K, S.mycmp, S.obj, S.other, S.self, S.function, S.sequence, S.initial, S.uuinitialumissing, S.it, S.iter, S.value, S.next, S.StopIteration, S.element, S.reduce, S.cell, S.kinds, S.k, S.range, S.uulawupieces, S.pair, S.piece, S.n, S.d, S.add, S.sub, S.uulawustep, S.names, S.uulawunames, S.place, S.uulawuupward, S.replace, S.name, S.one, S.uulawuacross, S.mul, S.low, S.high, S.uulawusimplest, S.uulawumeet, S.script, S.key, S.places, S.sides, S.cmp_to_key, S.pieces, S.sum, S.crooked, S.values, S.keys, S.countOf, S.j, S.x, S.y, S.t, S.told, S.due, S.lt, S.le, S.eq, S.ne, S.ge, S.gt, S.m, S.mask, S.chosen, S.row, S.sorted, S.lowest, S.some, S.os]; (try k_fold)))
  k_steps
  show wpAny _ _ _ _ _ _
  refine key_cmp (by decide) (by walk_at "rm") Y (by assumption) (by assumption) (X.keeps (Fr.keep (by assumption))) KX T (hx.stays (Fr.keep (by assumption))) (hy.stays (Fr.keep (by assumption))) (ha.stays (Fr.keep (by assumption))) (hb.stays (Fr.keep (by assumption))) ?_
  intro h2 tk2 _ F2 N2
  exact ans_fr F2 rfl
set_option maxRecDepth 100000 in
set_option maxHeartbeats 8000000 in
theorem ge_c : Call w 80 (.ref 176) [.ref x, .ref y] (fun _ r => r = .bool (opB .GtE (n * d' - n' * d) 0)) s := by
  k_dflt (refine' enter2 (Str.ofString "a") (Str.ofString "b") ?k1 ?k2 ?k3 ?k4 ?k5 ?k6 ?k7 ?k72 ?k8 ?k9 ?k10 ?k11 ?_; ((case k1 => decide); (case k2 => k_asm); (case k3 => k_asm); (case k4 => k_is); (case k5 => k_is); (case k6 => exact rfl); (case k7 => exact rfl); (case k72 => exact rfl); (case k8 => decide); (case k9 => exact rfl); (case k10 => exact rfl); (case k11 => exact rfl); k_whole; intro L' h' F' N'; (try dsimp only); dsimp only [S.p, S.sep, S.i, S.head, S.tail, S.fspath, S.uugetusep, S.len, S.rfind, S.rstrip, S.a, S.b, S.path, S.startswith, S.endswith, S.join, S.TypeError, S.AttributeError, S.BytesWarning, S.uucheckuargutypes, S.isinstance, S.bytes, S.empty, S.splitroot, S.normpath, S.dot, S.dotdot, S.uu, S.initial_slashes, S.comps, S.new_comps, S.comp, S.split, S.append, S.pop, S.paths, S.tuple, S.map, S.ValueError, S.split_paths, S.isabs, S.s, S.c, S.curdir, S.s1, S.s2, S.common, S.enumerate, S.min, S.max, S.prefix, S.commonpath, S.count, S.K, S.mycmp, S.obj, S.other, S.self, S.function, S.sequence, S.initial, S.uuinitialumissing, S.it, S.iter, S.value, S.next, S.StopIteration, S.element, S.reduce, S.cell, S.kinds, S.k, S.range, S.uulawupieces, S.pair, S.piece, S.n, S.d, S.add, S.sub, S.uulawustep, S.names, S.uulawunames, S.place, S.uulawuupward, S.replace, S.name, S.one, S.uulawuacross, S.mul, S.low, S.high, S.uulawusimplest, S.uulawumeet, S.script, S.key, S.places, S.sides, S.cmp_to_key, S.pieces, S.sum, S.crooked, S.values, S.keys, S.countOf, S.j, S.x, S.y, S.t, S.told, S.due, S.lt, S.le, S.eq, S.ne, S.ge, S.gt, S.m, S.mask, S.chosen, S.row, S.sorted, S.lowest, S.some, S.os]; (try k_fold)))
  k_steps
  show wpAny _ _ _ _ _ _
  refine key_cmp (by decide) (by walk_at "rm") Y (by assumption) (by assumption) (X.keeps (Fr.keep (by assumption))) KX T (hx.stays (Fr.keep (by assumption))) (hy.stays (Fr.keep (by assumption))) (ha.stays (Fr.keep (by assumption))) (hb.stays (Fr.keep (by assumption))) ?_
  intro h2 tk2 _ F2 N2
  exact ans_fr F2 rfl
set_option maxRecDepth 100000 in
set_option maxHeartbeats 8000000 in
theorem gt_c : Call w 80 (.ref 183) [.ref x, .ref y] (fun _ r => r = .bool (opB .Gt (n * d' - n' * d) 0)) s := by
  k_dflt (refine' enter2 (Str.ofString "a") (Str.ofString "b") ?k1 ?k2 ?k3 ?k4 ?k5 ?k6 ?k7 ?k72 ?k8 ?k9 ?k10 ?k11 ?_; ((case k1 => decide); (case k2 => k_asm); (case k3 => k_asm); (case k4 => k_is); (case k5 => k_is); (case k6 => exact rfl); (case k7 => exact rfl); (case k72 => exact rfl); (case k8 => decide); (case k9 => exact rfl); (case k10 => exact rfl); (case k11 => exact rfl); k_whole; intro L' h' F' N'; (try dsimp only); dsimp only [S.p, S.sep, S.i, S.head, S.tail, S.fspath, S.uugetusep, S.len, S.rfind, S.rstrip, S.a, S.b, S.path, S.startswith, S.endswith, S.join, S.TypeError, S.AttributeError, S.BytesWarning, S.uucheckuargutypes, S.isinstance, S.bytes, S.empty, S.splitroot, S.normpath, S.dot, S.dotdot, S.uu, S.initial_slashes, S.comps, S.new_comps, S.comp, S.split, S.append, S.pop, S.paths, S.tuple, S.map, S.ValueError, S.split_paths, S.isabs, S.s, S.c, S.curdir, S.s1, S.s2, S.common, S.enumerate, S.min, S.max, S.prefix, S.commonpath, S.count, S.K, S.mycmp, S.obj, S.other, S.self, S.function, S.sequence, S.initial, S.uuinitialumissing, S.it, S.iter, S.value, S.next, S.StopIteration, S.element, S.reduce, S.cell, S.kinds, S.k, S.range, S.uulawupieces, S.pair, S.piece, S.n, S.d, S.add, S.sub, S.uulawustep, S.names, S.uulawunames, S.place, S.uulawuupward, S.replace, S.name, S.one, S.uulawuacross, S.mul, S.low, S.high, S.uulawusimplest, S.uulawumeet, S.script, S.key, S.places, S.sides, S.cmp_to_key, S.pieces, S.sum, S.crooked, S.values, S.keys, S.countOf, S.j, S.x, S.y, S.t, S.told, S.due, S.lt, S.le, S.eq, S.ne, S.ge, S.gt, S.m, S.mask, S.chosen, S.row, S.sorted, S.lowest, S.some, S.os]; (try k_fold)))
  k_steps
  show wpAny _ _ _ _ _ _
  refine key_cmp (by decide) (by walk_at "rm") Y (by assumption) (by assumption) (X.keeps (Fr.keep (by assumption))) KX T (hx.stays (Fr.keep (by assumption))) (hy.stays (Fr.keep (by assumption))) (ha.stays (Fr.keep (by assumption))) (hb.stays (Fr.keep (by assumption))) ?_
  intro h2 tk2 _ F2 N2
  exact ans_fr F2 rfl
end

end
theorem calm_M25 : True := by
  w_top off
  trivial
section
open PySem PySem.W PySem.W.X PyProof.Rows PySem.Calls
/-- a key's own: its address, its pair's, and the pair -/
structure KeyD where
  x : Addr
  a : Addr
  n : Int
  d : Int
structure KeyOk (h : Heap) (k : KeyD) : Prop where
  key : IsKey h k.x (.ref k.a)
  pair : PairO h k.a k.n k.d
theorem KeyOk.stays {h h' : Heap} {k : KeyD} (I : KeyOk h k) (st : Stays h h') : KeyOk h' k := ⟨I.key.stays st, I.pair.stays st⟩
noncomputable def KeyD.cross (k k' : KeyD) : Int := k.n * k'.d - k'.n * k.d
noncomputable def sameKey (b k : KeyD) : Bool := opB .Eq (k.cross b) 0
noncomputable def countK (b : KeyD) (ks : List KeyD) : Int := (ks.countP (sameKey b) : Nat)
theorem same_self {h : Heap} {b k : KeyD} (hb : KeyOk h b) (hk : KeyOk h k) (e : k.x = b.x) : sameKey b k = true := by
  obtain ⟨⟨dx, h1, _⟩, ⟨⟨t, u, h2⟩, _, _⟩⟩ := hb
  obtain ⟨⟨dy, h3, _⟩, ⟨⟨t', u', h4⟩, _, _⟩⟩ := hk
  rw [e, h1] at h3
  have ea : b.a = k.a := by simpa [keyO] using (congrArg Obj.slots (Option.some.inj h3))
  rw [← ea, h2] at h4
  have := congrArg Obj.data (Option.some.inj h4)
  simp at this
  obtain ⟨⟨hn, _⟩, hd, _⟩ := this
  show (_ == _) = true
  rw [beq_iff_eq]
  unfold KeyD.cross
  rw [hn, hd]; omega
theorem cnt_end {o : Option Value} {z z' : Int} {t : Tok} (h : o = some (.int z t)) (e : z' = z) : ∃ t, o = some (.int z' t) := ⟨t, e ▸ h⟩
theorem is_keys {M : Model} {A : Around} {E Q : Value → Shared → Prop} {s : Shared} {x y : Addr} {u v : Value} (hx : IsKey s.heap x u) (hy : IsKey s.heap y v) (h1 : x = y → Q (.bool true) s) (h2 : x ≠ y → Q (.bool false) s) : wpAny M A (compareOp .Is (.ref x) (.ref y)) Q E s := by
  obtain ⟨dx, a, _⟩ := hx.at_
  obtain ⟨dy, b, _⟩ := hy.at_
  by_cases e : x = y
  · subst e; exact wpAny_is_ref_self (h1 rfl)
  · exact kto_is a b e (by intro q; cases q) (h2 e)
local macro_rules | `(tactic| walk_at "compareOp Eq ref ref") => `(tactic| walk_at "H")
local macro_rules | `(tactic| walk_at "compareOp Is ref ref") => `(tactic| walk_at "H")
set_option maxRecDepth 100000 in
set_option maxHeartbeats 8000000 in
theorem countOf_c (w : World) {s : Shared} {p : Program} {loose : List Str} {mean : ExcName → Option Value} {mg mb : Str → Option Value} {K : Frag} (Y : KProps K) (X : K.In s.heap) (KX : (Mine.KK w.params).In s.heap) (T : Top p loose mean mg mb s.heap)
    (l : Addr) (e : Nat) (ks : List KeyD) (b : KeyD) (hl : s.heap.get? l = some (listOf (ks.map (fun k => Value.ref k.x)).toArray e)) (hz : ks.length ≤ 4) (hk : ∀ k ∈ ks, KeyOk s.heap k) (hb : KeyOk s.heap b) :
    Call w 80 (.ref 211) [.ref l, .ref b.x] (fun _ r => ∃ t, r = .int (countK b ks) t) s := by
  k_dflt (refine' enter2 (Str.ofString "a") (Str.ofString "b") ?k1 ?k2 ?k3 ?k4 ?k5 ?k6 ?k7 ?k72 ?k8 ?k9 ?k10 ?k11 ?_; (case k1 => decide); (case k2 => k_asm); (case k3 => k_asm); (case k4 => k_is); (case k5 => k_is); (case k6 => exact rfl); (case k7 => exact rfl); (case k72 => exact rfl); (case k8 => decide); (case k9 => exact rfl); (case k10 => exact rfl); (case k11 => exact rfl); k_whole; intro L' h' F' N'; (try dsimp only); dsimp only [S.p, S.sep, S.i, S.head, S.tail, S.fspath, S.uugetusep, S.len, S.rfind, S.rstrip, S.a, S.b, S.path, S.startswith, S.endswith, S.join, S.TypeError, S.AttributeError, S.BytesWarning, S.uucheckuargutypes, S.isinstance, S.bytes, S.empty, S.splitroot, S.normpath, S.dot, S.dotdot, S.uu, S.initial_slashes, S.comps, S.new_comps, S.comp, S.split, S.append, S.pop, S.paths, S.tuple, S.map, S.ValueError, S.split_paths, S.isabs, S.s, S.c, S.curdir, S.s1, S.s2, S.common, S.enumerate, S.min, S.max, S.prefix, S.commonpath, S.count, S.K, S.mycmp, S.obj, S.other, S.self, S.function, S.sequence, S.initial, S.uuinitialumissing, S.it, S.iter, S.value, S.next, S.StopIteration, S.element, S.reduce, S.cell, S.kinds, S.k, S.range, S.uulawupieces, S.pair, S.piece, S.n, S.d, S.add, S.sub, S.uulawustep, S.names, S.uulawunames, S.place, S.uulawuupward, S.replace, S.name, S.one, S.uulawuacross, S.mul, S.low, S.high, S.uulawusimplest, S.uulawumeet, S.script, S.key, S.places, S.sides, S.cmp_to_key, S.pieces, S.sum, S.crooked, S.values, S.keys, S.countOf, S.j, S.x, S.y, S.t, S.told, S.due, S.lt, S.le, S.eq, S.ne, S.ge, S.gt, S.m, S.mask, S.chosen, S.row, S.sorted, S.lowest, S.some, S.os]; (try k_fold))
  k_steps
  rename Fr _ _ _ _ => F
  rename News _ _ _ _ => N
  refine for_list (vs := ks.map (fun k => Value.ref k.x)) (k := e) (fun i m nx => (∃ t, m (Str.ofString "count") = some (.int (countK b (ks.take i)) t)) ∧ m (Str.ofString "b") = some (.ref b.x) ∧ nx = []) rfl rfl F N (.inl hl) ⟨⟨_, by walk_at "look"⟩, by walk_at "look", rfl⟩ ?_ ?_
  · rintro I i v m₁ nx h tk io - hv ⟨⟨tc, hc⟩, hbm, rfl⟩ hoff F N
    replace F : Fr s.heap L' h _ := F
    replace N : News s.heap L' h _ := N
    rw [List.getElem?_map] at hv
    obtain ⟨k, hki, rfl⟩ := Option.map_eq_some_iff.mp hv
    have hst : ks.take (i + 1) = ks.take i ++ [k] := by rw [List.take_add_one, hki]; rfl
    have hkk : KeyOk s.heap k := hk k (List.mem_of_getElem? hki)
    have hcn : countK b (ks.take (i + 1)) = countK b (ks.take i) + (if sameKey b k then 1 else 0) := by
      rw [hst, countK, countK, List.countP_append, List.countP_singleton]; split <;> simp
    have hid := Hid.mk hcn
    clear hcn hst hv
    (try dsimp only); (try k_fold)
    k_steps
    rename Fr _ _ _ _ => F
    rename News _ _ _ _ => N
    show wpAny _ _ _ _ _ _
    refine is_keys (hkk.key.stays F.keep) (hb.key.stays F.keep) (fun ex => ?_) (fun ex => ?_)
    · have hse : sameKey b k = true := same_self hb hkk ex
      k_steps
      walk_at "turned"
      exact TurnEnd.intro [] (by assumption) (by assumption) (.head _) (fun _ h => nomatch h) ⟨cnt_end (by walk_at "look") (by rw [hid.out, hse]; rfl), by walk_at "look", rfl⟩
    · k_steps
      rename Fr _ _ _ _ => F
      rename News _ _ _ _ => N
      show wpAny _ _ _ _ _ _
      refine key_cmp (n := k.n) (d := k.d) (n' := b.n) (d' := b.d) (by decide) (by walk_at "rm") Y F N (X.keeps F.keep) KX T (hkk.key.stays F.keep) (hb.key.stays F.keep) (hkk.pair.stays F.keep) (hb.pair.stays F.keep) ?_
      intro h2 tk2 _ F2 N2
      rw [show opB .Eq (k.n * b.d - b.n * k.d) 0 = sameKey b k from rfl]
      have kF := F2
      have kN := N2
      clear F N
      cases hse : sameKey b k
      · k_steps
        walk_at "turned"
        exact TurnEnd.intro [] (by assumption) (by assumption) (.head _) (fun _ h => nomatch h) ⟨cnt_end (by walk_at "look") (by rw [hid.out, hse]; exact Int.add_zero _), by walk_at "look", rfl⟩
      · k_steps
        walk_at "turned"
        exact TurnEnd.intro [] (by assumption) (by assumption) (.head _) (fun _ h => nomatch h) ⟨cnt_end (by walk_at "look") (by rw [hid.out, hse]; rfl), by walk_at "look", rfl⟩
  · rintro h tk m₁ nx - F N ⟨⟨t, hc⟩, -, rfl⟩
    rw [List.length_map, List.take_of_length_le (Nat.le_refl _)] at hc
    k_steps
    walk_at "done"
    exact ⟨_, rfl⟩

end
section
open PySem PySem.W PySem.W.X PyProof.Rows PySem.Calls
/-- the sort's tree, answered by lt, as long as it asks of places under n -/
noncomputable def evT {α : Type} (n : Nat) (lt : Nat → Nat → Bool) : KasT α → Option α
  | .ret a => some a
  | .ask i j k => if i < n ∧ j < n then evT n lt (k (lt i j)) else none
theorem ev_wp {α : Type} {n : Nat} {lt : Nat → Nat → Bool} {cmp : Nat → Nat → (Bool → Shared → Prop) → Shared → Prop} {I : Shared → Prop} {Q : α → Shared → Prop} (hc : ∀ i j C s, i < n → j < n → I s → (∀ s', I s' → C (lt i j) s') → cmp i j C s) :
    ∀ (t : KasT α) (a : α) (s : Shared), evT n lt t = some a → I s → (∀ s', I s' → Q a s') → t.kasWp cmp Q s
  | .ret b, a, s, e, hi, hq => by cases e; exact hq s hi
  | .ask i j k, a, s, e, hi, hq => by
    unfold evT at e
    split at e
    · rename_i hij
      exact hc i j _ s hij.1 hij.2 hi fun s' hi' => ev_wp hc (k (lt i j)) a s' e hi' hq
    · cases e
noncomputable def ranks : Nat → Nat → List (List Nat)
  | 0, _ => [[]]
  | n + 1, m => (ranks n m).flatMap fun r => (List.range m).map fun i => i :: r
noncomputable def sortOk (n : Nat) (r : List Nat) : Bool := match evT n (fun i j => decide (r.getD i 0 < r.getD j 0)) (kas_sort n) with
  | some p => p.size == n && (List.range n).all (fun i => p.toList.contains i && decide (p.getD i 0 < n) && decide (r.getD (p.getD 0 0) 0 ≤ r.getD i 0) && decide (r.getD i 0 ≤ r.getD (p.getD (n - 1) 0) 0))
  | none => false
set_option maxRecDepth 100000 in
theorem sorts2 : (ranks 2 2).all (sortOk 2) = true := by decide +kernel
set_option maxRecDepth 100000 in
theorem sorts3 : (ranks 3 3).all (sortOk 3) = true := by decide +kernel
set_option maxRecDepth 100000 in
theorem sorts4 : (ranks 4 4).all (sortOk 4) = true := by decide +kernel

end
section
open PySem PySem.W PySem.W.X PyProof.Rows PySem.Calls
/-- a value: its address and its two figures -/
structure VD where
  a : Addr
  n : Int
  d : Int
  deriving Inhabited
noncomputable def VD.lt (p q : VD) : Bool := decide (p.n * q.d - q.n * p.d < 0)
theorem VD.lt_iff {p q : VD} : p.lt q = true ↔ p.n * q.d < q.n * p.d := by
  unfold VD.lt
  rw [decide_eq_true_eq]
  omega
theorem cross_trans {a b c d e f : Int} (hd : 0 < d) (_hb : 0 < b) (hf : 0 < f) (h1 : a * d < c * b) (h2 : c * f ≤ e * d) (hb : 0 < b) : a * f < e * b := by
  have x1 : a * d * f < c * b * f := Int.mul_lt_mul_of_pos_right h1 hf
  have x2 : c * f * b ≤ e * d * b := Int.mul_le_mul_of_nonneg_right h2 (Int.le_of_lt hb)
  have x3 : (a * f) * d < (e * b) * d := by
    have e1 : a * d * f = (a * f) * d := by rw [Int.mul_assoc, Int.mul_comm d f, ← Int.mul_assoc]
    have e2 : c * b * f = c * f * b := by rw [Int.mul_assoc, Int.mul_comm b f, ← Int.mul_assoc]
    have e3 : e * d * b = (e * b) * d := by rw [Int.mul_assoc, Int.mul_comm d b, ← Int.mul_assoc]
    omega
  exact Int.lt_of_mul_lt_mul_right x3 (Int.le_of_lt hd)
theorem cross_trans' {a b c d e f : Int} (hb : 0 < b) (hd : 0 < d) (hf : 0 < f) (h1 : a * d ≤ c * b) (h2 : c * f < e * d) : a * f < e * b := by
  have x1 : a * d * f ≤ c * b * f := Int.mul_le_mul_of_nonneg_right h1 (Int.le_of_lt hf)
  have x2 : c * f * b < e * d * b := Int.mul_lt_mul_of_pos_right h2 hb
  have x3 : (a * f) * d < (e * b) * d := by
    have e1 : a * d * f = (a * f) * d := by rw [Int.mul_assoc, Int.mul_comm d f, ← Int.mul_assoc]
    have e2 : c * b * f = c * f * b := by rw [Int.mul_assoc, Int.mul_comm b f, ← Int.mul_assoc]
    have e3 : e * d * b = (e * b) * d := by rw [Int.mul_assoc, Int.mul_comm d b, ← Int.mul_assoc]
    omega
  exact Int.lt_of_mul_lt_mul_right x3 (Int.le_of_lt hd)
noncomputable def rank (ps : List VD) (q : VD) : Nat := ps.countP (fun p => p.lt q)
theorem rank_le {ps : List VD} (hd : ∀ p ∈ ps, 0 < p.d) {p q : VD} (hp : 0 < p.d) (hq : 0 < q.d) (h : p.lt q = false) : rank ps q ≤ rank ps p := by
  refine List.countP_mono_left fun x hx hxq => ?_
  rw [VD.lt_iff] at hxq ⊢
  have h' : ¬ (p.n * q.d < q.n * p.d) := fun e => by rw [VD.lt_iff.mpr e] at h; cases h
  exact cross_trans hq (hd x hx) hp hxq (by omega) (hd x hx)
theorem countP_lt {α : Type} {p q : α → Bool} {l : List α} (h : ∀ x ∈ l, p x = true → q x = true) {y : α} (hy : y ∈ l) (h1 : p y = false) (h2 : q y = true) : l.countP p < l.countP q := by
  induction l with
  | nil => cases hy
  | cons z l ih =>
    have hm : l.countP p ≤ l.countP q := List.countP_mono_left fun x hx => h x (.tail _ hx)
    rw [List.countP_cons, List.countP_cons]
    rcases List.mem_cons.mp hy with rfl | hy
    · rw [h1, h2]; simp; omega
    · have := ih (fun x hx => h x (.tail _ hx)) hy
      have hz := h z (.head _)
      cases hpz : p z
      · simp; omega
      · rw [hz hpz]; simp; omega
theorem rank_lt {ps : List VD} (hd : ∀ p ∈ ps, 0 < p.d) {p q : VD} (hp : p ∈ ps) (hq : 0 < q.d) (h : p.lt q = true) : rank ps p < rank ps q := by
  have hpd := hd p hp
  refine countP_lt (fun x hx hxp => ?_) hp ?_ h
  · rw [VD.lt_iff] at hxp h ⊢
    exact cross_trans hpd (hd x hx) hq hxp (Int.le_of_lt h) (hd x hx)
  · unfold VD.lt; rw [decide_eq_false_iff_not]; omega
theorem lt_rank {ps : List VD} (hd : ∀ p ∈ ps, 0 < p.d) {p q : VD} (hp : p ∈ ps) (hq : q ∈ ps) : p.lt q = decide (rank ps p < rank ps q) := by
  cases h : p.lt q
  · exact (decide_eq_false (Nat.not_lt.mpr (rank_le hd (hd p hp) (hd q hq) h))).symm
  · exact (decide_eq_true (rank_lt hd hp (hd q hq) h)).symm
theorem mem_ranks : ∀ {n m : Nat} {r : List Nat}, r.length = n → (∀ x ∈ r, x < m) → r ∈ ranks n m
  | 0, _, r, h, _ => by rw [List.length_eq_zero_iff.mp h]; exact .head _
  | n + 1, m, [], h, _ => by cases h
  | n + 1, m, x :: r, h, hx => List.mem_flatMap.mpr ⟨r, mem_ranks (Nat.succ.inj h) fun y hy => hx y (.tail _ hy), List.mem_map.mpr ⟨x, List.mem_range.mpr (hx x (.head _)), rfl⟩⟩
/-- qs: of ps, the least first and the greatest last -/
structure SortedOf (ps qs : List VD) : Prop where
  len : qs.length = ps.length
  mem : ∀ q ∈ qs, q ∈ ps
  low : ∀ p ∈ ps, ∀ q, qs[0]? = some q → p.lt q = false
  high : ∀ p ∈ ps, ∀ q, qs[qs.length - 1]? = some q → q.lt p = false
set_option maxRecDepth 100000 in
theorem sorts2' : (ranks 2 3).all (sortOk 2) = true := by decide +kernel
set_option maxRecDepth 100000 in
theorem sorts3' : (ranks 3 4).all (sortOk 3) = true := by decide +kernel
set_option maxRecDepth 100000 in
theorem sorts4' : (ranks 4 5).all (sortOk 4) = true := by decide +kernel
theorem evT_congr {α : Type} {n : Nat} {f g : Nat → Nat → Bool} (h : ∀ i j, i < n → j < n → f i j = g i j) : ∀ t : KasT α, evT n f t = evT n g t
  | .ret _ => rfl
  | .ask i j k => by
    unfold evT
    split
    · rename_i q; rw [h i j q.1 q.2]; exact evT_congr h _
    · rfl
theorem sort_pure {ps : List VD} (h2 : 2 ≤ ps.length) (h4 : ps.length ≤ 4) (hd : ∀ p ∈ ps, 0 < p.d) :
    ∃ p : Array Nat, evT ps.length (fun i j => (ps.getD i default).lt (ps.getD j default)) (kas_sort ps.length) = some p ∧ (∀ i ∈ p.toList, i < ps.length) ∧ SortedOf ps (p.toList.map fun i => ps.getD i default) := by
  have hr : (ps.map (rank ps)) ∈ ranks ps.length (ps.length + 1) := mem_ranks (List.length_map _) fun x hx => by
    obtain ⟨q, _, rfl⟩ := List.mem_map.mp hx
    exact Nat.lt_succ_of_le List.countP_le_length
  have hok : sortOk ps.length (ps.map (rank ps)) = true := by
    have : ps.length = 2 ∨ ps.length = 3 ∨ ps.length = 4 := by omega
    rcases this with e | e | e <;> rw [e] at hr ⊢
    · exact List.all_eq_true.mp sorts2' _ hr
    · exact List.all_eq_true.mp sorts3' _ hr
    · exact List.all_eq_true.mp sorts4' _ hr
  have hget : ∀ i, i < ps.length → (ps.map (rank ps)).getD i 0 = rank ps (ps.getD i default) := fun i hi => by simp [hi]
  have hmem : ∀ i, i < ps.length → ps.getD i default ∈ ps := fun i hi => by simp [hi]
  have hlt : ∀ i j, i < ps.length → j < ps.length → (ps.getD i default).lt (ps.getD j default) = decide ((ps.map (rank ps)).getD i 0 < (ps.map (rank ps)).getD j 0) := fun i j hi hj => by
    rw [hget i hi, hget j hj]; exact lt_rank hd (hmem i hi) (hmem j hj)
  unfold sortOk at hok
  rw [evT_congr hlt]
  cases e : evT ps.length (fun i j => decide ((ps.map (rank ps)).getD i 0 < (ps.map (rank ps)).getD j 0)) (kas_sort ps.length) with
  | none => rw [e] at hok; cases hok
  | some p =>
    rw [e] at hok
    simp only [Bool.and_eq_true, beq_iff_eq, List.all_eq_true, List.mem_range, decide_eq_true_eq] at hok
    obtain ⟨hsz, hall⟩ := hok
    have hb : ∀ i ∈ p.toList, i < ps.length := fun i hi => by
      obtain ⟨k, hk, rfl⟩ := List.mem_iff_getElem.mp hi
      have hk' : k < p.size := by simpa using hk
      have := (hall k (hsz ▸ hk')).1.1.2
      have e : p.getD k 0 = p.toList[k] := by simp [Array.getD, hk']
      rw [e] at this; exact this
    have h0 : 0 < p.size := by omega
    have hl : p.size - 1 < p.size := by omega
    have g0 : p.getD 0 0 < ps.length := (hall 0 (by omega)).1.1.2
    have gl : p.getD (ps.length - 1) 0 < ps.length := (hall (ps.length - 1) (by omega)).1.1.2
    refine ⟨p, rfl, hb, ⟨by simp [hsz], fun q hq => ?_, fun q hq x hx => ?_, fun q hq x hx => ?_⟩⟩
    · obtain ⟨i, hi, rfl⟩ := List.mem_map.mp hq
      exact hmem i (hb i hi)
    · rw [List.getElem?_map] at hx
      obtain ⟨i, hi, rfl⟩ := Option.map_eq_some_iff.mp hx
      have ei : p.getD 0 0 = i := by
        rw [Array.getElem?_toList] at hi
        simp [Array.getD_eq_getD_getElem?, hi]
      obtain ⟨j, hj, rfl⟩ := List.mem_iff_getElem.mp hq
      have hle := (hall j hj).1.2
      have e1 : ps[j] = ps.getD j default := by simp [hj]
      rw [ei] at hle g0
      rw [hget i g0, hget j hj] at hle
      rw [e1, lt_rank hd (hmem j hj) (hmem i g0)]
      exact decide_eq_false (Nat.not_lt.mpr hle)
    · rw [List.getElem?_map] at hx
      obtain ⟨i, hi, rfl⟩ := Option.map_eq_some_iff.mp hx
      have ei : p.getD (ps.length - 1) 0 = i := by
        rw [List.length_map, Array.length_toList, hsz, Array.getElem?_toList] at hi
        simp [Array.getD_eq_getD_getElem?, hi]
      obtain ⟨j, hj, rfl⟩ := List.mem_iff_getElem.mp hq
      have hle := (hall j hj).2
      have e1 : ps[j] = ps.getD j default := by simp [hj]
      rw [ei] at hle gl
      rw [hget i gl, hget j hj] at hle
      rw [e1, lt_rank hd (hmem i gl) (hmem j hj)]
      exact decide_eq_false (Nat.not_lt.mpr hle)

end
section
open PySem PySem.W PySem.W.X PyProof.Rows PySem.Calls
section
variable {w : World} {K : Frag} {A : Around} {s : Shared} {p : Program} {loose : List Str} {mean : ExcName → Option Value} {mg mb : Str → Option Value} {Q : Value → Shared → Prop} {E : Value → Shared → Prop} {h₀ : Heap} {L : Addr} {m : Str → Option Value} {news : List (Addr × Obj)}
theorem key_k {v : Value} (R : Rm A 90) (Y : KProps K) (I : Ini K 304) (F : Fr h₀ L s.heap m) (N : News h₀ L s.heap news) (X : K.In s.heap) (hn : h₀.NoLimit)
    (h : ∀ x dx h' tk, Fr h₀ L h' m → News h₀ L h' ((x, keyO dx v) :: (dx, emptyDict) :: news) → (∀ q ∈ news, q.1 ≠ x ∧ q.1 ≠ dx) → x ≠ dx → Stays s.heap h' → Q (.ref x) { s with heap := h', toks := tk }) :
    wpAny (model pw w) A (call (.ref 348) [v]) Q E s := by
  refine ans_k R F N (key_c Y I X (hn.keeps F.keep) v) ?_
  rintro r h' tk ⟨x, dx, rfl, e1, e2, e3, e4, e5⟩ st F' N'
  refine h x dx h' tk F' (news_one F (news_one F N' e2 e4) e1 e3) (fun q hq => ⟨fun e => ?_, fun e => ?_⟩) e5 st
  · have := (N q hq).1; rw [e, e3] at this; cases this
  · have := (N q hq).1; rw [e, e4] at this; cases this
/-- keys and where their own dicts stand -/
noncomputable abbrev KL := List (KeyD × Addr)
noncomputable def objsK (l : KL) : List (Addr × Obj) := l.flatMap fun k => [(k.1.x, keyO k.2 (.ref k.1.a)), (k.2, emptyDict)]
noncomputable def KeyD.vd (k : KeyD) : VD := ⟨k.a, k.n, k.d⟩
noncomputable def refsK (l : KL) : List Value := l.map fun k => .ref k.1.x
theorem objsK_push (l : KL) (k : KeyD × Addr) : objsK (l ++ [k]) = objsK l ++ [(k.1.x, keyO k.2 (.ref k.1.a)), (k.2, emptyDict)] := by simp [objsK]
theorem objsK_at {l : KL} {k : KeyD × Addr} (h : k ∈ l) : (k.1.x, keyO k.2 (.ref k.1.a)) ∈ objsK l ∧ (k.2, emptyDict) ∈ objsK l :=
  ⟨List.mem_flatMap.mpr ⟨k, h, .head _⟩, List.mem_flatMap.mpr ⟨k, h, .tail _ (.head _)⟩⟩
theorem keys_loop (R : Rm A 90) (Y : KProps K) (I : Ini K 304) (X : ∀ h, Fr h₀ L h m → News h₀ L h news → K.In h) (hn : h₀.NoLimit) {kS D : Addr} {dO : Obj} {Fin : List Value → Nat → Shared → Prop} (hkD : kS ≠ D) : ∀ (r : List VD) (ks : KL) (e : Nat) (s : Shared), Fr h₀ L s.heap m →
    News h₀ L s.heap ((kS, seqObj "list" (List.toArray (refsK ks)) e) :: (D, dO) :: (objsK ks ++ news)) → (∀ q ∈ objsK ks ++ news, q.1 ≠ kS ∧ q.1 ≠ D) →
    (∀ ks' e' h' tk, ks'.map (fun k => k.1.vd) = ks.map (fun k => k.1.vd) ++ r → Fr h₀ L h' m → News h₀ L h' ((kS, seqObj "list" (List.toArray (refsK ks')) e') :: (D, dO) :: (objsK ks' ++ news)) → (∀ q ∈ objsK ks' ++ news, q.1 ≠ kS ∧ q.1 ≠ D) → Fin (refsK ks') e' { s with heap := h', toks := tk }) →
    KatKeys pw w A h₀ L m kS (.ref 348) Fin (r.map fun v => .ref v.a) (refsK ks) e s
  | [], ks, e, s, F, N, hne, h => KatKeys.nil (h ks e s.heap s.toks (by simp) F N hne)
  | v :: r, ks, e, s, F, N, hne, h => by
    refine KatKeys.cons (key_k R Y I F N (X _ F fun q hq => N q (.tail _ (.tail _ (List.mem_append_right _ hq)))) hn fun x dx h' tk F' N' hx hxd _ => ?_)
    have hkx := hx _ (.head _)
    have hDx := hx _ (.tail _ (.head _))
    have N1 : News h₀ L h' ((kS, seqObj "list" (List.toArray (refsK ks)) e) :: (D, dO) :: (objsK (ks ++ [(⟨x, v.a, v.n, v.d⟩, dx)]) ++ news)) := fun q hq => N' q (by
      rw [objsK_push] at hq
      rcases List.mem_cons.mp hq with rfl | hq
      · exact .tail _ (.tail _ (.head _))
      rcases List.mem_cons.mp hq with rfl | hq
      · exact .tail _ (.tail _ (.tail _ (.head _)))
      rcases List.mem_append.mp hq with hq | hq
      · rcases List.mem_append.mp hq with hq | hq
        · exact .tail _ (.tail _ (.tail _ (.tail _ (List.mem_append_left _ hq))))
        · rcases List.mem_cons.mp hq with rfl | hq
          · exact .head _
          · rw [List.mem_singleton.mp hq]; exact .tail _ (.head _)
      · exact .tail _ (.tail _ (.tail _ (.tail _ (List.mem_append_right _ hq)))))
    have hne1 : ∀ q ∈ objsK (ks ++ [(⟨x, v.a, v.n, v.d⟩, dx)]) ++ news, q.1 ≠ kS ∧ q.1 ≠ D := fun q hq => by
      rw [objsK_push] at hq
      rcases List.mem_append.mp hq with hq | hq
      · rcases List.mem_append.mp hq with hq | hq
        · exact hne q (List.mem_append_left _ hq)
        · rcases List.mem_cons.mp hq with rfl | hq
          · exact ⟨fun z => hkx.1 z.symm, fun z => hDx.1 z.symm⟩
          · rw [List.mem_singleton.mp hq]; exact ⟨fun z => hkx.2 z.symm, fun z => hDx.2 z.symm⟩
      · exact hne q (List.mem_append_right _ hq)
    refine KatBack.intro F' N1 (UpdF.head fun q hq => ?_) fun h2 c F2 N2 => ?_
    · rcases List.mem_cons.mp hq with rfl | hq
      · exact hkD.symm
      · exact (hne1 q hq).1
    · have er : refsK ks ++ [Value.ref x] = refsK (ks ++ [(⟨x, v.a, v.n, v.d⟩, dx)]) := by simp [refsK]
      rw [er] at N2 ⊢
      refine keys_loop R Y I X hn hkD r (ks ++ [(⟨x, v.a, v.n, v.d⟩, dx)]) c { s with heap := h2, toks := tk } F2 N2 hne1 fun ks' e' h3 tk3 hk F3 N3 hn3 => h ks' e' h3 tk3 ?_ F3 N3 hn3
      rw [hk]; simp [KeyD.vd]
theorem lt_key {x y a b : Addr} {n d n' d' : Int} {Q : Bool → Shared → Prop} (R : Rm A 90) (Y : KProps K) (F : Fr h₀ L s.heap m) (N : News h₀ L s.heap news) (X : K.In s.heap) (KX : (Mine.KK w.params).In h₀) (T : Top p loose mean mg mb h₀)
    (hx : IsKey s.heap x (.ref a)) (hy : IsKey s.heap y (.ref b)) (ha : PairO s.heap a n d) (hb : PairO s.heap b n' d')
    (h : ∀ h' tk, Fr h₀ L h' m → News h₀ L h' news → Q (opB .Lt (n * d' - n' * d) 0) { s with heap := h', toks := tk }) : wpAny (model pw w) A (keyLt' oneType' (.ref x) (.ref y)) Q E s := by
  obtain ⟨f, f1, f2, M⟩ := five_at Y (op := .Lt) (by decide)
  obtain ⟨dx, I⟩ := hx.inst
  rw [keyLt'_oneType, oneLt'_eq]
  simp only [if_true]
  refine wpAny_bind (wpAny_cRoomFor (Nat.lt_of_le_of_lt R.hu (by decide)) ?_)
  refine wpAny_bind (ifBound_K X I f1 f2 ?_)
  refine ans_k R F N (mth_c (by decide) M Y X (KX.keeps F.keep) (T.keeps F.keep) hx hy ha hb) ?_
  rintro v h' tk rfl st F' N'
  exact wpAny_truthy_bool (h h' tk F' N')
/-- the keys' facts, once more, at any heap of this frame -/
noncomputable def PairsAt (h₀ : Heap) (L : Addr) (m : Str → Option Value) (news : List (Addr × Obj)) (ps : List VD) : Prop := ∀ h, Fr h₀ L h m → News h₀ L h news → ∀ p ∈ ps, PairO h p.a p.n p.d
theorem getD_map {α β : Type} (f : α → β) (l : List α) (i : Nat) (x : α) (y : β) (h : i < l.length) : (l.map f).getD i y = f (l.getD i x) := by simp [h]
theorem sorted_two (R : Rm A 88) (Y : KProps K) (I : Ini K 304) (F : Fr h₀ L s.heap m) (N : News h₀ L s.heap news) (X : ∀ h, Fr h₀ L h m → News h₀ L h news → K.In h) (KX : (Mine.KK w.params).In h₀) (T : Top p loose mean mg mb h₀) {l : Addr} {ps : List VD}
    (hl : s.heap.IsList l (ps.map fun v => Value.ref v.a).toArray) (h2 : 2 ≤ ps.length) (h4 : ps.length ≤ 4) (hd : ∀ q ∈ ps, 0 < q.d) (hP : PairsAt h₀ L m news ps)
    (h : ∀ D c qs h' tk, Fr h₀ L h' m → News h₀ L h' ((D, listOf (List.toArray (qs.map fun (v : VD) => Value.ref v.a)) c) :: news) → (∀ q ∈ news, q.1 ≠ D) → SortedOf ps qs → Q (.ref D) { s with heap := h', toks := tk }) :
    wpAny (model pw w) A (call (.builtin "sorted") [.ref l] [(Str.ofString "key", .ref 348)]) Q E s := by
  have R2 : Rm A.in1.in1 90 := R.in1.in1.le (by decide)
  refine kat_sortedK F N hl (by simpa using h2) (by simp; omega) (ksk_s1 _ _) (fun x => ksk_l1 _ _) (fun x => ksk_t1 _ _) ?_
  intro D kS e1 h' F' N' hDk hnews
  refine keys_loop R2 Y I X (T.nolimit) (Nat.ne_of_gt hDk) ps [] 0 _ F' N' (fun q hq => ⟨Nat.ne_of_lt (Nat.lt_trans (hnews q hq) hDk), Nat.ne_of_lt (hnews q hq)⟩) ?_
  intro ks e h2' tk2 hks F2 N2 hne
  rw [List.map_nil, List.nil_append] at hks
  have hlen : ks.length = ps.length := by rw [← hks, List.length_map]
  have hat : ∀ h3, News h₀ L h3 ((kS, seqObj "list" (List.toArray (refsK ks)) e) :: (D, seqObj "list" #[] e1) :: (objsK ks ++ news)) → ∀ k ∈ ks, IsKey h3 k.1.x (.ref k.1.a) := fun h3 N3 k hk =>
    ⟨⟨k.2, (N3 _ (.tail _ (.tail _ (List.mem_append_left _ (objsK_at hk).1)))).1, (N3 _ (.tail _ (.tail _ (List.mem_append_left _ (objsK_at hk).2)))).1⟩⟩
  have hpr : ∀ h3, Fr h₀ L h3 m → News h₀ L h3 ((kS, seqObj "list" (List.toArray (refsK ks)) e) :: (D, seqObj "list" #[] e1) :: (objsK ks ++ news)) → ∀ k ∈ ks, PairO h3 k.1.a k.1.n k.1.d := fun h3 F3 N3 k hk =>
    hP h3 F3 (fun q hq => N3 q (.tail _ (.tail _ (List.mem_append_right _ hq)))) k.1.vd (by rw [← hks]; exact List.mem_map_of_mem (f := fun k => k.1.vd) hk)
  refine kas_kind (T := .ref 348) (by rw [refsK, List.length_map, hlen]; exact h2) (fun v hv => ?_) (by decide) (by decide) ?_
  · obtain ⟨k, hk, rfl⟩ := List.mem_map.mp hv
    obtain ⟨dx, J⟩ := (hat h2' N2 k hk).inst
    exact J.type
  obtain ⟨pa, hev, hbd, hso⟩ := sort_pure h2 h4 hd
  rw [show (List.map (fun v => Value.ref v.a) ps).length = ps.length from List.length_map _]
  have hkv : ∀ i, i < ps.length → ∃ k ∈ ks, (refsK ks).getD i Value.none = .ref k.1.x ∧ ps.getD i default = k.1.vd := fun i hi => by
    have hi' : i < ks.length := hlen ▸ hi
    refine ⟨ks[i], List.getElem_mem hi', by simp [refsK, hi'], ?_⟩
    rw [← hks]; simp [hi']
  refine ev_wp (n := ps.length) (lt := fun i j => (ps.getD i default).lt (ps.getD j default)) (I := fun s' => ∃ h3 tk3, s' = { s with heap := h3, toks := tk3 } ∧ Fr h₀ L h3 m ∧ News h₀ L h3 ((kS, seqObj "list" (List.toArray (refsK ks)) e) :: (D, seqObj "list" #[] e1) :: (objsK ks ++ news))) ?_ _ pa _ hev ⟨h2', tk2, rfl, F2, N2⟩ ?_
  · rintro i j C s' hi hj ⟨h3, tk3, rfl, F3, N3⟩ hC
    obtain ⟨k, hk, e1', e2⟩ := hkv i hi
    obtain ⟨k', hk', e3, e4⟩ := hkv j hj
    unfold kas_ask
    show wpAny _ _ (keyLt' oneType' ((refsK ks).getD i Value.none) ((refsK ks).getD j Value.none)) _ _ _
    rw [e1', e3]
    refine lt_key (s := { s with heap := h3, toks := tk3 }) R2 Y F3 N3 (X h3 F3 fun q hq => N3 q (.tail _ (.tail _ (List.mem_append_right _ hq)))) KX T (hat h3 N3 k hk) (hat h3 N3 k' hk') (hpr h3 F3 N3 k hk) (hpr h3 F3 N3 k' hk') fun h4 tk4 F4 N4 => ?_
    have := hC { s with heap := h4, toks := tk4 } ⟨h4, tk4, rfl, F4, N4⟩
    rw [e2, e4] at this
    exact this
  · rintro s' ⟨h3, tk3, rfl, F3, N3⟩
    refine KatFin.intro (s := { s with heap := h3, toks := tk3 }) F3 N3 (UpdF.head fun q hq => ?_) fun h4 c4 F4 N4 => ?_
    · rcases List.mem_cons.mp hq with rfl | hq
      · exact Nat.ne_of_lt hDk
      · exact (hne q hq).1
    refine KasFin.intro F4 N4 (UpdF.tail (Nat.ne_of_gt hDk) (UpdF.head fun q hq => (hne q hq).2)) fun h5 c5 F5 N5 => ?_
    have eout : (katRev false (pa.toList.map fun i => (katRev false (ps.map fun v => Value.ref v.a)).getD i Value.none)) = (pa.toList.map fun i => ps.getD i default).map fun (v : VD) => Value.ref v.a := by
      show (pa.toList.map fun i => (ps.map fun v => Value.ref v.a).getD i Value.none) = _
      rw [List.map_map]
      exact List.map_congr_left fun i hi => getD_map _ ps i default _ (hbd i hi)
    rw [eout] at N5
    refine h D c5 _ h5 tk3 F5 (fun q hq => N5 q ?_) (fun q hq => Nat.ne_of_lt (hnews q hq)) hso
    rcases List.mem_cons.mp hq with rfl | hq
    · exact .tail _ (.head _)
    · exact .tail _ (.tail _ (List.mem_append_right _ hq))
end

end
section
open PySem PySem.W PySem.W.X PyProof.Rows PySem.Calls Builtin Builtin.List
section
variable {prog : Program} {w : World} {A : Around} {E : Value → Shared → Prop} {s : Shared} {h₀ : Heap} {L kS a l : Addr} {m : Str → Option Value} {news : List (Addr × Obj)}
theorem one_end {e e1 : Nat} {k v : Value} {P : PySem.Fin → Shared → Prop} (h : KatFin h₀ L m kS a [k] e e1 [v] (fun s' => P (.done (.ret .none)) s') s) :
    wpAny (model prog w) A (ksk_end a false (List.toArray [v]) e1 (.ref kS) (List.toArray [k])) P E s := by
  have hn1 : (List.toArray [v]).size < 2 := by show 1 < 2; decide
  have hq : wpAny (model prog w) A (ksk_tail a false e1 (.ref kS) (SortSt.mk' general' ((List.toArray [k]).zip (List.toArray [v])) #[] 7 none)) P E s := kat_tail (b := false) (out := [v]) (by show Array.map (fun x => x.2) ((List.toArray [k]).zip (List.toArray [v])) = _; simp) (by show 1 < 64; decide) (by show 1 < 64; decide) rfl h
  unfold ksk_end
  simp only [Bool.false_eq_true, if_false]
  rw [if_pos hn1, if_pos hn1]
  exact wpAny_bind (wpAny_pure (wpAny_bind (wpAny_pure hq)))
theorem one_rest {f v : Value} {e1 : Nat} {P : PySem.Fin → Shared → Prop} (hk : s.heap.get? kS = some (seqObj "list" #[] 0))
    (h : KatKeys prog w A h₀ L m kS f (fun ks e s' => ∃ k, ks = [k] ∧ KatFin h₀ L m kS a [k] e e1 [v] (fun s4 => P (.done (.ret .none)) s4) s') [v] [] 0 s) :
    wpAny (model prog w) A (ksk_rest a f false (List.toArray [v]) e1 (.ref kS)) P E s := by
  unfold ksk_rest
  refine wpAny_bind (wpAny_rule ?_)
  first
    | rw [List.forIn_toArray]
    | (rw [← Array.forIn_toList]; simp only [List.toList_toArray])
    | rw [← Array.forIn_toList]
  refine wpAny_bind (wpAny_mono (kat_fold (n := 1) (by decide) (fun x ks e s' C hz hx => ?_) [v] [] 0 s (by simp) hk h) (fun _ s' hd => ?_) fun _ _ x => x)
  · refine wpAny_bind (wpAny_attempt (wpAny_mono hx (fun k s'' hk => ?_) fun _ _ hF => hF.elim))
    obtain ⟨news', g, F', N', U, c⟩ := hk
    obtain ⟨pre, post, e0, hg, x1, x2⟩ := U.split
    rw [e0] at N'
    have nk := N' (kS, seqObj "list" (List.toArray ks) e) (List.mem_append_right _ (.head _))
    have s1 := Heap.SameBut.update s''.heap kS (Obj.mapSeq (·.push k))
    have ea : (List.toArray ks).push k = List.toArray (ks ++ [k]) := by simp
    obtain ⟨c2, hc2⟩ : ∃ c2, (s''.heap.update kS (Obj.mapSeq (·.push k))).get? kS = some (seqObj "list" (List.toArray (ks ++ [k])) c2) := ⟨_, by rw [← ea]; exact get?_update_seq nk.1 (·.push k)⟩
    try dsimp only
    refine wpAny_bind (listUpdate_at nk.1 rfl ?_ (by rw [List.size_toArray, sizeLine_eq]; omega) (Nat.le_trans (Nat.le_of_eq (Array.size_push ..)) (by rw [List.size_toArray, sizeLine_eq]; omega)))
    exact wpAny_pure ⟨rfl, k, c2, hc2, c _ c2 (kas_fr F' s1 nk.2.1 nk.2.2) (by rw [hg]; exact news_set N' x1 x2 s1 hc2)⟩
  · obtain ⟨ks, e, hk', hl, k, rfl, fin⟩ := hd
    try dsimp only
    refine wpAny_bind (listItems_at hk' rfl ?_)
    exact one_end fin
theorem one_tree {f v : Value} {n : Nat} {P : PySem.Fin → Shared → Prop} (F : Fr h₀ L s.heap m) (N : News h₀ L s.heap news) (ho : s.heap.get? a = some (seqObj "list" (List.toArray [v]) n)) (haL : a ≠ L) (ha0 : h₀.get? a = none) (hna : ∀ p ∈ news, p.1 ≠ a)
    (h : ∀ kS e1 h', Fr h₀ L h' m → News h₀ L h' ((kS, seqObj "list" #[] 0) :: (a, seqObj "list" #[] e1) :: news) → a < kS → (∀ q ∈ news, q.1 < kS) →
      KatKeys prog w A h₀ L m kS f (fun ks e s' => ∃ k, ks = [k] ∧ KatFin h₀ L m kS a [k] e e1 [v] (fun s4 => P (.done (.ret .none)) s4) s') [v] [] 0 { s with heap := h' }) :
    wpAny (model prog w) A (ksk_tree a f false) P E s := by
  have ha : a < s.heap.objs.size := Heap.lt_size ho
  have s1 := Heap.SameBut.update s.heap a (Obj.mapSeq fun _ => (#[] : Array Value))
  obtain ⟨e1, ho1⟩ : ∃ e1, (s.heap.update a (Obj.mapSeq fun _ => (#[] : Array Value))).get? a = some (seqObj "list" #[] e1) := ⟨_, get?_update_seq ho fun _ => #[]⟩
  have F1 := kas_fr F s1 haL ha0
  have N1 := kas_news N s1 hna
  have hkS : ((s.heap.update a (Obj.mapSeq fun _ => (#[] : Array Value))).push (seqObj "tuple" (List.toArray [v]) 0)).objs.size = s.heap.objs.size + 1 := by rw [size_push', Heap.size_update]
  have hLk : L < ((s.heap.update a (Obj.mapSeq fun _ => (#[] : Array Value))).push (seqObj "tuple" (List.toArray [v]) 0)).objs.size := (F1.push _).ns.lt
  unfold ksk_tree
  refine wpAny_bind (listItems_at ho rfl ?_)
  refine wpAny_bind (listUpdate_at ho rfl ?_ (by rw [sizeLine_eq]; show 1 ≤ _; omega) (Nat.zero_le _))
  refine wpAny_bind (seqEpoch_at ho1 rfl ?_)
  refine wpAny_bind (wpAny_newTuple ?_ (by show 1 ≤ _; rw [sizeLine_eq]; omega))
  refine wpAny_bind (wpAny_newList ?_ (Nat.zero_le _))
  refine wpAny_holding ?_
  refine one_rest (s := { s with heap := ((s.heap.update a (Obj.mapSeq fun _ => (#[] : Array Value))).push (seqObj "tuple" (List.toArray [v]) 0)).push (seqObj "list" #[] 0) }) (kS := ((s.heap.update a (Obj.mapSeq fun _ => (#[] : Array Value))).push (seqObj "tuple" (List.toArray [v]) 0)).objs.size)
    (Heap.get?_push_size _ rfl) (h _ e1 _ ((F1.push _).push _) (fun p hp => ?_) (by rw [hkS]; exact Nat.lt_succ_of_lt ha) fun q hq => by rw [hkS]; exact Nat.lt_succ_of_lt (Heap.lt_size (N q hq).1))
  rcases List.mem_cons.mp hp with rfl | hp
  · exact ⟨Heap.get?_push_size _ rfl, Nat.ne_of_gt hLk, Heap.get?_none_of_le (Nat.le_trans F.above (Nat.le_of_lt hLk))⟩
  · rcases List.mem_cons.mp hp with rfl | hp
    · exact ⟨Heap.get?_push_of_some _ (Heap.get?_push_of_some _ ho1), haL, ha0⟩
    · exact ⟨Heap.get?_push_of_some _ (Heap.get?_push_of_some _ (N1 p hp).1), (N1 p hp).2⟩
theorem one_sorted {f v : Value} {kw : List (Str × Value)} {Q : Value → Shared → Prop} (F : Fr h₀ L s.heap m) (N : News h₀ L s.heap news) (hl : s.heap.IsList l (List.toArray [v]))
    (ha1 : argsOk "sorted" ⟨[.ref l], kw⟩) (ha2 : ∀ x, argsOk "list.sort" ⟨[.ref x], kw⟩) (ht : ∀ x, Builtin.«list.sort» ⟨[.ref x], kw⟩ = ksk_tree x f false)
    (h : ∀ D kS e1 h', Fr h₀ L h' m → News h₀ L h' ((kS, seqObj "list" #[] 0) :: (D, seqObj "list" #[] e1) :: news) → D < kS → (∀ q ∈ news, q.1 < D) →
      KatKeys prog w A.in1.in1 h₀ L m kS f (fun ks e s' => ∃ k, ks = [k] ∧ KatFin h₀ L m kS D [k] e e1 [v] (fun s4 => Q (.ref D) s4) s') [v] [] 0 { s with heap := h' }) :
    wpAny (model prog w) A (call (.builtin "sorted") [.ref l] kw) Q E s := by
  refine call_function_entry_kw kind_sorted plain_sorted entry_sorted ha1 ?_
  unfold Builtin.«sorted»
  refine wpAny_bind (m := checkCount "sorted" 1 1 _) (wpAny_pure ?_)
  refine wpAny_bind (collect_list hl ?_ (by rw [sizeLine_eq]; show 1 ≤ _; omega))
  refine wpAny_bind (wpAny_newList ?_ (by rw [sizeLine_eq]; show 1 ≤ _; omega))
  have hsz : ((s.heap.push (seqObj "list" #[] 0)).update s.heap.objs.size (Obj.mapSeq (· ++ List.toArray [v]))).objs.size = s.heap.objs.size + 1 := by
    rw [Heap.size_update, size_push']
  have hoL : (((s.heap.push (seqObj "list" #[] 0)).update s.heap.objs.size (Obj.mapSeq (· ++ List.toArray [v]))).push (seqObj "list" (List.toArray [v]) 0)).get? (s.heap.objs.size + 1) = some (seqObj "list" (List.toArray [v]) 0) := by
    rw [← hsz]; exact Heap.get?_push_size _ rfl
  have keep : ∀ b o, s.heap.get? b = some o → (((s.heap.push (seqObj "list" #[] 0)).update s.heap.objs.size (Obj.mapSeq (· ++ List.toArray [v]))).push (seqObj "list" (List.toArray [v]) 0)).get? b = some o := fun b o q => by
    have hlt : b < s.heap.objs.size := Heap.lt_size q
    rw [Heap.get?_push_ne _ _ _ (by rw [hsz]; exact Nat.ne_of_lt (Nat.lt_succ_of_lt hlt)), Heap.get?_update_ne _ _ _ _ (Nat.ne_of_lt hlt), Heap.get?_push_ne _ _ _ (Nat.ne_of_lt hlt)]
    exact q
  have hL : L < s.heap.objs.size := F.ns.lt
  show wpAny _ _ _ _ _ { s with heap := ((s.heap.push (seqObj "list" #[] 0)).update s.heap.objs.size (Obj.mapSeq (· ++ List.toArray [v]))).push (seqObj "list" (List.toArray [v]) 0) }
  rw [hsz]
  refine wpAny_bind (wpAny_holding (wpAny_call_entry_kw slot_list_sort ⟨_, hoL, rfl⟩ entry_list_sort ?body (ha2 _)))
  case body =>
    have ht' := ht (s.heap.objs.size + 1)
    show wpAny (model prog w) A.in1.in1 (Builtin.«list.sort» ⟨[.ref (s.heap.objs.size + 1)], kw⟩) _ _ _
    rw [ht']
    refine one_tree (s := { s with heap := ((s.heap.push (seqObj "list" #[] 0)).update s.heap.objs.size (Obj.mapSeq (· ++ List.toArray [v]))).push (seqObj "list" (List.toArray [v]) 0) })
      (F.kept keep) (N.grown keep) hoL (Nat.ne_of_gt (Nat.lt_succ_of_lt hL)) (Heap.get?_none_of_le (Nat.le_trans F.above (Nat.le_succ_of_le (Nat.le_of_lt hL))))
      (fun p hp => Nat.ne_of_lt (Nat.lt_succ_of_lt (Heap.lt_size (N p hp).1))) fun kS e1 h' F' N' l0 l1 => ?_
    refine kat_keys_mono (h _ kS e1 h' F' N' l0 fun q hq => Nat.lt_succ_of_lt (Heap.lt_size (N q hq).1)) fun ks e s' hl' hd => ?_
    obtain ⟨k, rfl, hd⟩ := hd
    exact ⟨k, rfl, hd.mono fun s4 hq => ⟨_, rfl, wpAny_pure ⟨_, rfl, hq⟩⟩⟩
end

end
section
open PySem PySem.W PySem.W.X PyProof.Rows PySem.Calls
section
variable {w : World} {K : Frag} {A : Around} {s : Shared} {p : Program} {loose : List Str} {mean : ExcName → Option Value} {mg mb : Str → Option Value} {Q : Value → Shared → Prop} {E : Value → Shared → Prop} {h₀ : Heap} {L : Addr} {m : Str → Option Value} {news : List (Addr × Obj)}
theorem lt_self (v : VD) : v.lt v = false := by unfold VD.lt; rw [decide_eq_false_iff_not]; omega
theorem sorted_k (R : Rm A 88) (Y : KProps K) (I : Ini K 304) (F : Fr h₀ L s.heap m) (N : News h₀ L s.heap news) (X : ∀ h, Fr h₀ L h m → News h₀ L h news → K.In h) (KX : (Mine.KK w.params).In h₀) (T : Top p loose mean mg mb h₀) {l : Addr} {ps : List VD}
    (hl : s.heap.IsList l (ps.map fun v => Value.ref v.a).toArray) (h1 : 1 ≤ ps.length) (h4 : ps.length ≤ 4) (hd : ∀ q ∈ ps, 0 < q.d) (hP : PairsAt h₀ L m news ps)
    (h : ∀ D c qs h' tk, Fr h₀ L h' m → News h₀ L h' ((D, listOf (List.toArray (qs.map fun (v : VD) => Value.ref v.a)) c) :: news) → (∀ q ∈ news, q.1 ≠ D) → SortedOf ps qs → Q (.ref D) { s with heap := h', toks := tk }) :
    wpAny (model pw w) A (call (.builtin "sorted") [.ref l] [(Str.ofString "key", .ref 348)]) Q E s := by
  by_cases h2 : 2 ≤ ps.length
  · exact sorted_two R Y I F N X KX T hl h2 h4 hd hP h
  obtain ⟨v, rfl⟩ : ∃ v, ps = [v] := by
    match ps, h1, h2 with
    | [v], _, _ => exact ⟨v, rfl⟩
    | _ :: _ :: _, _, h2 => simp at h2
  have R2 : Rm A.in1.in1 90 := R.in1.in1.le (by decide)
  refine one_sorted F N hl (ksk_s1 _ _) (fun x => ksk_l1 _ _) (fun x => ksk_t1 _ _) ?_
  intro D kS e1 h' F' N' hDk hnews
  refine keys_loop R2 Y I X (T.nolimit) (Nat.ne_of_gt hDk) [v] [] 0 _ F' N' (fun q hq => ⟨Nat.ne_of_lt (Nat.lt_trans (hnews q hq) hDk), Nat.ne_of_lt (hnews q hq)⟩) ?_
  intro ks e h2' tk2 hks F2 N2 hne
  rw [List.map_nil, List.nil_append] at hks
  obtain ⟨k, rfl⟩ : ∃ k, ks = [k] := by
    have hlen : ks.length = 1 := by rw [← List.length_map (fun k : KeyD × Addr => k.1.vd), hks]; rfl
    match ks, hlen with
    | [k], _ => exact ⟨k, rfl⟩
  refine ⟨.ref k.1.x, rfl, ?_⟩
  refine KatFin.intro (s := { s with heap := h2', toks := tk2 }) F2 N2 (UpdF.head fun q hq => ?_) fun h4 c4 F4 N4 => ?_
  · rcases List.mem_cons.mp hq with rfl | hq
    · exact Nat.ne_of_lt hDk
    · exact (hne q hq).1
  refine KasFin.intro F4 N4 (UpdF.tail (Nat.ne_of_gt hDk) (UpdF.head fun q hq => (hne q hq).2)) fun h5 c5 F5 N5 => ?_
  refine h D c5 [v] h5 tk2 F5 (fun q hq => N5 q ?_) (fun q hq => Nat.ne_of_lt (hnews q hq)) ⟨rfl, fun _ h => h, fun q hq x hx => ?_, fun q hq x hx => ?_⟩
  · rcases List.mem_cons.mp hq with rfl | hq
    · exact .tail _ (.head _)
    · exact .tail _ (.tail _ (List.mem_append_right _ hq))
  · cases hx; rw [List.mem_singleton.mp hq]; exact lt_self _
  · cases hx; rw [List.mem_singleton.mp hq]; exact lt_self _
end

end
theorem calm_K2 : True := by
  w_top off
  trivial
section
open PySem PySem.W PySem.W.X PyProof.Rows PySem.Calls
theorem lookup_app {K1 K2 : Frag} {a : Addr} : (K1 ++ K2).lookup a = (K1.lookup a).or (K2.lookup a) := by
  induction K1 with
  | nil => rfl
  | cons p K1 ih =>
    obtain ⟨b, o⟩ := p
    rw [List.cons_append, List.lookup_cons, List.lookup_cons]
    split
    · rfl
    · exact ih
theorem newK_in {h : Heap} {n : Nat} {T : BT} (H : ∀ i o, T.get i = some o → h.get? (n + i) = some o) : ∀ l : List Nat, (newK n l T).In h
  | [], _, _, e => by cases e
  | i :: l, a, o, e => by
    unfold newK at e
    split at e
    · rename_i o' ho
      rw [List.lookup_cons] at e
      split at e
      · rename_i q; cases e; rw [beq_iff_eq.mp q]; exact H i _ ho
      · exact newK_in H l a o e
    · exact newK_in H l a o e
theorem newK_mem {h : Heap} {n : Nat} {T : BT} (H : ∀ i o, T.get i = some o → h.get? (n + i) = some o) : ∀ l : List Nat, ∀ q ∈ newK n l T, h.get? q.1 = some q.2 ∧ n ≤ q.1
  | [], _, hq => by cases hq
  | i :: l, q, hq => by
    unfold newK at hq
    split at hq
    · rename_i o' ho
      rcases List.mem_cons.mp hq with rfl | hq
      · exact ⟨H i _ ho, Nat.le_add_right _ _⟩
      · exact newK_mem H l q hq
    · exact newK_mem H l q hq
theorem clsC_in {h : Heap} {C K : Frag} (H : ∀ q ∈ C, h.get? q.1 = some q.2) (X : K.In h) : (C ++ K).In h := fun b o e => by
  rw [lookup_app] at e
  cases q : C.lookup b with
  | some o' => rw [q] at e; cases e; exact H _ (lookup_memK q)
  | none => rw [q] at e; exact X b o e
/-- what stands behind cmp_to_key -/
structure CtkEnd (h0 h : Heap) (P : Params) (C : Frag) : Prop where
  mem : ∀ q ∈ C, h.get? q.1 = some q.2 ∧ 288 ≤ q.1
  props : KProps (C ++ KK P)
  ini : Ini (C ++ KK P) 304
  keep : ∀ b o, b ≠ 213 → h0.get? b = some o → h.get? b = some o
  old : OldK h0 h
noncomputable def After (P : Params) (h0 : Heap) (d : Drawn) (t0 : Nat) (os : OsState) (Q : Value → Shared → Prop) : Prop := ∀ h tk C, CtkEnd h0 h P C → t0 ≤ tk → Q (.ref 348) ⟨h, #[], d, tk, os⟩
theorem fin_ctk {Q : Value → Shared → Prop} {V : XV} {h : Heap} {T : BT} {m a : Nat} {vs : Array Value} {d' : Drawn} {os' : OsState} {t' : Nat} {P : Params} (D : Rep V h T m [(213, vs)]) (A : After P V.h₀ V.d V.t₀ V.os Q)
    (e1 : a = 348) (e2 : V.n₁ = 288) (ed : d' = V.d) (eo : os' = V.os) (et : V.t₀ ≤ t') (hp : KProps (clsK T P)) (hi : Ini (clsK T P) 304) : Q (.ref a) ⟨h, #[], d', t', os'⟩ := by
  subst e1 ed eo
  have one : ∀ b, b ≠ 213 → chLook [(213, vs)] b = none := fun b hb => by
    show (match Nat.beq 213 b with | true => some vs | false => chLook [] b) = none
    rw [BT.beq_eq, decide_eq_false fun q => hb q.symm]; rfl
  obtain ⟨y, c, ps, more, ht, hv⟩ := D.ch 213 vs rfl
  refine A h t' (newK 288 is64 T) ⟨newK_mem (fun i o hi => e2 ▸ (D.own i o hi).2) _, hp, hi, fun b o hb e => D.keep b o e (one b hb), ⟨fun b o e => ?_, fun b o e => ?_⟩⟩ et
  · by_cases hb : b = 213
    · subst hb
      have : o = tableObj ps := Option.some.inj (e.symm.trans ht.2)
      subst this
      exact .inr (.inl ⟨ht.isCodeTable, rfl, ps, more, rfl, by rw [y, hv]; rfl⟩)
    · exact .inl (D.keep b o e (one b hb))
  · by_cases hb : b = 213
    · subst hb; exact ⟨_, y⟩
    · exact ⟨o, D.keep b o e (one b hb)⟩
local macro_rules | `(tactic| walk_at "ctk end") => `(tactic| (repeat' first | exact Nat.le_add_right _ _ | kernel_rfl | constructor | (intro a b; kernel_rfl)))
local macro_rules | `(tactic| exfalso) => `(tactic| (refine fin_ctk (by assumption) (by assumption) (by rfl) (by rfl) (by rfl) (by rfl) ?_ ?_ ?_ <;> walk_at "ctk end"))
local macro_rules | `(tactic| omega) => `(tactic| done)
set_option maxRecDepth 100000 in
set_option maxHeartbeats 0 in
theorem ctk_c (w : World) (h0 : Heap) (d t0 os) (ht : 500 ≤ t0) (hs : h0.objs.size = 288) (ZH : KT.Holds h0 1 0 (Mine.hz.ktop_543 w.params)) (Q : Value → Shared → Prop) (hQ : After w.params h0 d t0 os Q) :
   wpAny (model pw w) (AA 100) (call (.ref 218) [.ref 260]) Q (fun _ _ => False) ⟨h0, #[], d, t0, os⟩ := by
  generalize hg : (#[] : Array GenState) = g
  replace hg := hg.symm
  z_run

end
theorem calm_M5 : True := by
  w_top off
  trivial
section
open PySem PySem.W PySem.W.X PyProof.Rows PySem.Calls
/-- what _law_step gives -/
noncomputable def lawStep (p : Int × Int) (s : Str) : Int × Int :=
  if s = Str.ofString "/a-" then (2, 1) else if s = Str.ofString "a" then (p.1, p.1 + p.2) else if s = Str.ofString "a-" then (p.1 + p.2, p.2)
  else if s = Str.ofString ".." ∧ p.1 < p.2 then (p.1, p.2 - p.1) else if s = Str.ofString ".." ∧ p.1 > p.2 then (p.1 - p.2, p.2) else p
noncomputable def tupO (n d : Int) (t1 t2 : Tok) : Obj := { cls := .type "tuple", data := .seq #[.int n t1, .int d t2] }
/-- a pair of ints stands at v -/
noncomputable def PairAt (v : Value) (p : Int × Int) (objs : List (Addr × Obj)) : Prop := ∃ a t1 t2, v = .ref a ∧ objs = [(a, tupO p.1 p.2 t1 t2)]
noncomputable def stepV (p : Int × Int) (e : Value) : Int × Int := match e with | .str s _ => lawStep p s | _ => p
noncomputable def pieceKinds : List Str := [Str.ofString "a", Str.ofString "a-", Str.ofString "..", Str.ofString ".//", Str.ofString "/a-"]
noncomputable abbrev StepP (h0 : Heap) (p : Addr) (o : Obj) (q : Int × Int) (h : Heap) (r : Value) : Prop := ∃ objs', PairAt r q objs' ∧ ∀ z ∈ objs', h.get? z.1 = some z.2 ∧ (h0.get? z.1 = none ∨ z ∈ [(p, o)])
theorem step_1 (x y : Int) : lawStep (x, y) (Str.ofString "a") = (x, x + y) := rfl
theorem step_2 (x y : Int) : lawStep (x, y) (Str.ofString "a-") = (x + y, y) := rfl
theorem step_3 {x y : Int} (h : x < y) : lawStep (x, y) (Str.ofString "..") = (x, y - x) := (show (if Str.ofString ".." = Str.ofString ".." ∧ x < y then (x, y - x) else _) = _ from if_pos ⟨rfl, h⟩)
theorem step_4 {x y : Int} (h : x > y) : lawStep (x, y) (Str.ofString "..") = (x - y, y) := (show (if Str.ofString ".." = Str.ofString ".." ∧ x < y then (x, y - x) else if Str.ofString ".." = Str.ofString ".." ∧ x > y then (x - y, y) else _) = _ from (if_neg (by omega)).trans (if_pos ⟨rfl, h⟩))
theorem step_5 {x y : Int} (h : ¬ x < y) (h' : ¬ x > y) : lawStep (x, y) (Str.ofString "..") = (x, y) := (show (if Str.ofString ".." = Str.ofString ".." ∧ x < y then (x, y - x) else if Str.ofString ".." = Str.ofString ".." ∧ x > y then (x - y, y) else (x, y)) = _ from (if_neg (by omega)).trans (if_neg (by omega)))
theorem step_6 (x y : Int) : lawStep (x, y) (Str.ofString ".//") = (x, y) := rfl
theorem step_7 (x y : Int) : lawStep (x, y) (Str.ofString "/a-") = (2, 1) := rfl
theorem step_newN {h₀ h : Heap} {L p a : Addr} {o : Obj} {x y : Int} {t1 t2 : Tok} {q : Int × Int} {news : List (Addr × Obj)} (N : News h₀ L h news) (hm : (a, ({ cls := .type "tuple", data := .seq #[.int x t1, .int y t2] } : Obj)) ∈ news) (e : q = (x, y)) : StepP h₀ p o q h (.ref a) := by
  subst e
  exact ⟨_, ⟨a, t1, t2, rfl, rfl⟩, fun z hz => by rw [List.mem_singleton.mp hz]; exact ⟨(N _ hm).1, .inl (N _ hm).2.2⟩⟩
theorem step_oldN {h₀ h : Heap} {L p : Addr} {m : Str → Option Value} {x y : Int} {t1 t2 : Tok} {q : Int × Int} (F : Fr h₀ L h m) (hp : h₀.get? p = some (tupO x y t1 t2)) (e : q = (x, y)) : StepP h₀ p (tupO x y t1 t2) q h (.ref p) := by
  subst e
  exact ⟨_, ⟨p, t1, t2, rfl, rfl⟩, fun z hz => by rw [List.mem_singleton.mp hz]; exact ⟨F.keep _ _ hp, .inr (.head _)⟩⟩
theorem step_7' {x y : Int} {z : Str} (h : (z == (⟨⟨[47, 97, 45]⟩⟩ : Str)) = true) : lawStep (x, y) z = (2, 1) := by rw [eq_of_beq h]; rfl
theorem step_1' {x y : Int} {z : Str} (h : (z == Str.ofString "a") = true) : lawStep (x, y) z = (x, x + y) := by rw [eq_of_beq h]; rfl
theorem step_2' {x y : Int} {z : Str} (h : (z == (⟨⟨[97, 45]⟩⟩ : Str)) = true) : lawStep (x, y) z = (x + y, y) := by rw [eq_of_beq h]; rfl
theorem step_3' {x y : Int} {z : Str} (h : (z == (⟨⟨[46, 46]⟩⟩ : Str)) = true) (h2 : x < y) : lawStep (x, y) z = (x, y - x) := by rw [eq_of_beq h]; exact step_3 h2
theorem step_4' {x y : Int} {z : Str} (h : (z == (⟨⟨[46, 46]⟩⟩ : Str)) = true) (h2 : x > y) : lawStep (x, y) z = (x - y, y) := by rw [eq_of_beq h]; exact step_4 h2
theorem step_5' {x y : Int} {z : Str} (h : (z == (⟨⟨[46, 46]⟩⟩ : Str)) = true) (h2 : ¬ x < y) (h3 : ¬ x > y) : lawStep (x, y) z = (x, y) := by rw [eq_of_beq h]; exact step_5 h2 h3
theorem step_6' {x y : Int} {z : Str} (hz : z ∈ pieceKinds) (h1 : (z == (⟨⟨[47, 97, 45]⟩⟩ : Str)) = false) (h2 : (z == Str.ofString "a") = false) (h3 : (z == (⟨⟨[97, 45]⟩⟩ : Str)) = false) (h4 : (z == (⟨⟨[46, 46]⟩⟩ : Str)) = false) : lawStep (x, y) z = (x, y) := by
  simp only [pieceKinds, List.mem_cons, List.not_mem_nil, or_false] at hz
  rcases hz with rfl | rfl | rfl | rfl | rfl
  · exact absurd h2 (by decide)
  · exact absurd h3 (by decide)
  · exact absurd h4 (by decide)
  · exact step_6 x y
  · exact absurd h1 (by decide)
set_option maxRecDepth 100000 in
set_option maxHeartbeats 8000000 in
theorem add_c (w : World) {s : Shared} {p : Program} {loose : List Str} {mean : ExcName → Option Value} {mg mb : Str → Option Value} (KX : (Mine.KK w.params).In s.heap) (T : Top p loose mean mg mb s.heap) (a b : Int) (ta tb : Tok) :
   Call w 200 (.ref 190) [.int a ta, .int b tb] (fun _ r => ∃ t, r = .int (a + b) t) s := by
  k_dflt (refine' enter2 (Str.ofString "a") (Str.ofString "b") ?k1 ?k2 ?k3 ?k4 ?k5 ?k6 ?k7 ?k72 ?k8 ?k9 ?k10 ?k11 ?_; (case k1 => decide); (case k2 => k_asm); (case k3 => k_asm); (case k4 => k_is); (case k5 => k_is); (case k6 => exact rfl); (case k7 => exact rfl); (case k72 => exact rfl); (case k8 => decide); (case k9 => exact rfl); (case k10 => exact rfl); (case k11 => exact rfl); k_whole; intro L' h' F' N'; (try dsimp only); dsimp only [S.p, S.sep, S.i, S.head, S.tail, S.fspath, S.uugetusep, S.len, S.rfind, S.rstrip, S.a, S.b, S.path, S.startswith, S.endswith, S.join, S.TypeError, S.AttributeError, S.BytesWarning, S.uucheckuargutypes, S.isinstance, S.bytes, S.empty, S.splitroot, S.normpath, S.dot, S.dotdot, S.uu, S.initial_slashes, S.comps, S.new_comps, S.comp, S.split, S.append, S.pop, S.paths, S.tuple, S.map, S.ValueError, S.split_paths, S.isabs, S.s, S.c, S.curdir, S.s1, S.s2, S.common, S.enumerate, S.min, S.max, S.prefix, S.commonpath, S.count, S.K, S.mycmp, S.obj, S.other, S.self, S.function, S.sequence, S.initial, S.uuinitialumissing, S.it, S.iter, S.value, S.next, S.StopIteration, S.element, S.reduce, S.cell, S.kinds, S.k, S.range, S.uulawupieces, S.pair, S.piece, S.n, S.d, S.add, S.sub, S.uulawustep, S.names, S.uulawunames, S.place, S.uulawuupward, S.replace, S.name, S.one, S.uulawuacross, S.mul, S.low, S.high, S.uulawusimplest, S.uulawumeet, S.script, S.key, S.places, S.sides, S.cmp_to_key, S.pieces, S.sum, S.crooked, S.values, S.keys, S.countOf, S.j, S.x, S.y, S.t, S.told, S.due, S.lt, S.le, S.eq, S.ne, S.ge, S.gt, S.m, S.mask, S.chosen, S.row, S.sorted, S.lowest, S.some, S.os]; (try k_fold))
  k_steps
  walk_at "done"
  exact ⟨_, rfl⟩
section
variable {w : World} {A : Around} {s : Shared} {Q : Value → Shared → Prop} {E : Value → Shared → Prop} {h₀ : Heap} {L : Addr} {m : Str → Option Value} {news : List (Addr × Obj)} {p : Program} {loose : List Str} {mean : ExcName → Option Value} {mg mb : Str → Option Value} {a b : Int} {ta tb : Tok}
theorem add_k (R : Rm A 200) (F : Fr h₀ L s.heap m) (N : News h₀ L s.heap news) (X : (Mine.KK w.params).In h₀) (T : Top p loose mean mg mb h₀)
    (h : ∀ h' tk t, Fr h₀ L h' m → News h₀ L h' news → Q (.int (a + b) t) { s with heap := h', toks := tk }) : wpAny (model pw w) A (call (.ref 190) [.int a ta, .int b tb]) Q E s :=
  ans_k R F N (add_c w (X.keeps F.keep) (T.keeps F.keep) a b ta tb) fun v h' tk e _ F' N' => by obtain ⟨t, rfl⟩ := e; exact h h' tk t F' N'
end
local macro_rules | `(tactic| walk_at "call ref") => `(tactic| ((refine' add_k _ _ _ _ _ _; rotate_left 9; walk_at "t5"; k_whole; intro _ _ _ _ _; (try k_sweep))))
local macro_rules | `(tactic| walk_at "call ref") => `(tactic| ((refine' sub_k _ _ _ _ _ _; rotate_left 9; walk_at "t5"; k_whole; intro _ _ _ _ _; (try k_sweep))))
set_option maxRecDepth 100000 in
set_option maxHeartbeats 8000000 in
theorem step_c (w : World) {s : Shared} {p : Program} {loose : List Str} {mean : ExcName → Option Value} {mg mb : Str → Option Value} (KX : (Mine.KK w.params).In s.heap) (T : Top p loose mean mg mb s.heap) (x y : Int) (pp : Addr) (ta tb tc : Tok) (hp : s.heap.get? pp = some ⟨.type "tuple", none, .seq #[.int x ta, .int y tb], #[]⟩) (z : Str) (hz : z ∈ pieceKinds) :
   Call w 150 (.ref 239) [.ref pp, .str z tc] (StepP s.heap pp (tupO x y ta tb) (lawStep (x, y) z)) s := by
  have hpt : IsTup s.heap pp #[.int x ta, .int y tb] := ⟨_, hp, rfl, _, rfl⟩
  k_dflt (refine' enter2 (Str.ofString "pair") (Str.ofString "piece") ?k1 ?k2 ?k3 ?k4 ?k5 ?k6 ?k7 ?k72 ?k8 ?k9 ?k10 ?k11 ?_; (case k1 => decide); (case k2 => k_asm); (case k3 => k_asm); (case k4 => k_is); (case k5 => k_is); (case k6 => exact rfl); (case k7 => exact rfl); (case k72 => exact rfl); (case k8 => decide); (case k9 => exact rfl); (case k10 => exact rfl); (case k11 => exact rfl); k_whole; intro L' h' F' N'; (try dsimp only); dsimp only [S.p, S.sep, S.i, S.head, S.tail, S.fspath, S.uugetusep, S.len, S.rfind, S.rstrip, S.a, S.b, S.path, S.startswith, S.endswith, S.join, S.TypeError, S.AttributeError, S.BytesWarning, S.uucheckuargutypes, S.isinstance, S.bytes, S.empty, S.splitroot, S.normpath, S.dot, S.dotdot, S.uu, S.initial_slashes, S.comps, S.new_comps, S.comp, S.split, S.append, S.pop, S.paths, S.tuple, S.map, S.ValueError, S.split_paths, S.isabs, S.s, S.c, S.curdir, S.s1, S.s2, S.common, S.enumerate, S.min, S.max, S.prefix, S.commonpath, S.count, S.K, S.mycmp, S.obj, S.other, S.self, S.function, S.sequence, S.initial, S.uuinitialumissing, S.it, S.iter, S.value, S.next, S.StopIteration, S.element, S.reduce, S.cell, S.kinds, S.k, S.range, S.uulawupieces, S.pair, S.piece, S.n, S.d, S.add, S.sub, S.uulawustep, S.names, S.uulawunames, S.place, S.uulawuupward, S.replace, S.name, S.one, S.uulawuacross, S.mul, S.low, S.high, S.uulawusimplest, S.uulawumeet, S.script, S.key, S.places, S.sides, S.cmp_to_key, S.pieces, S.sum, S.crooked, S.values, S.keys, S.countOf, S.j, S.x, S.y, S.t, S.told, S.due, S.lt, S.le, S.eq, S.ne, S.ge, S.gt, S.m, S.mask, S.chosen, S.row, S.sorted, S.lowest, S.some, S.os]; (try k_fold))
  have hpt' := hpt.keeps (Fr.keep (by assumption))
  k_steps
  all_goals (rename Fr _ _ _ _ => F; rename News _ _ _ _ => N)
  · walk_at "done"
    exact step_newN N (.head _) (step_7' (by assumption))
  · walk_at "done"
    exact step_newN N (.head _) (step_1' (by assumption))
  · walk_at "done"
    exact step_newN N (.head _) (step_2' (by assumption))
  · walk_at "done"
    exact step_newN N (.head _) (step_3' (by assumption) (by assumption))
  · walk_at "done"
    exact step_newN N (.head _) (step_4' (by assumption) (by assumption))
  · walk_at "done"
    exact step_oldN F hp (step_5' (by assumption) (by omega) (by omega))
  · walk_at "done"
    exact step_oldN F hp (step_6' hz (by assumption) (by assumption) (by assumption) (by assumption))

end
section
open PySem PySem.W PySem.W.X PyProof.Rows PySem.Calls
noncomputable def cellsN (names : List (Str × NameKind)) : Nat := (names.filter fun p => p.2 == .cell).length
theorem pushCells_size : ∀ (names : List (Str × NameKind)) (h : Heap), (pushCells h names).objs.size = h.objs.size + cellsN names
  | [], _ => rfl
  | (x, kind) :: r, h => by
    unfold pushCells cellsN
    cases q : kind == NameKind.cell
    · simp only [q, List.filter_cons, Bool.false_eq_true, if_false]
      exact pushCells_size r h
    · simp only [q, List.filter_cons, if_true, List.length_cons]
      rw [pushCells_size r, Heap.size_push]
      show h.objs.size + 1 + (r.filter fun p => p.2 == .cell).length = _
      omega
section
variable {w : World} {d : Nat} {E : Value → Shared → Prop} {s : Shared} {p : Program} {loose : List Str} {mean : ExcName → Option Value} {mg mb : Str → Option Value} {K : Frag} {Q : Value → Shared → Prop}
/-- into a def of one plain name that has cell variables; its heap's size is told -/
theorem enterL {name qual : Str} {params : Arguments} {body : List Stmt} {scope : Scope} {dV kV doc pm cdv ct oc : Value} {an od : Option Addr} {osl : Array (Option Value)} {f : Addr} {x : Str} {v : Value}
    (hroom : d + 400 < recursionLimit) (X : K.In s.heap) (T : Top p loose mean mg mb s.heap)
    (ho : K.lookup f = some ⟨oc, od, .func (fnOf name qual params body scope dV kV doc pm an cdv ct), osl⟩) (hcd : codeIn K cdv qual = true)
    (hbind : BindsTo s (fnOf name qual params body scope dV kV doc pm an cdv ct) ⟨[v], []⟩ [(x, v)])
    (hl : scope.names.lookup x = some .local) (hnd : ((cellsFrom 0 scope.names []).map (·.1)).Nodup)
    (hco : scope.isCoroutine = false) (hgen : scope.isGenerator = false) (hk : scope.kind = .function)
    (h : ∀ L h₁ cells, L = s.heap.objs.size → h₁.objs.size = s.heap.objs.size + 1 + cellsN scope.names → Fr s.heap L h₁ (lk [(x, v)]) → News s.heap L h₁ cells → CellsAre (fun _ => none) (cellsFrom (L + 1) scope.names []) cells →
      wpAny (model pw w) ((AA d).deeper (envOfC qual scope L f cdv)) (execs body (envOfC qual scope L f cdv))
        (fun fl s' => Q (match fl with | .ret v => v | _ => .none) s') (fun _ _ => False)
        { s with heap := h₁, toks := s.toks + 1 }) :
    wpAny (model pw w) (AA d) (call (.ref f) [v]) Q (fun _ _ => False) s := by
  refine wpAny_call (codeAny_call_function (fd := fnOf name qual params body scope dV kV doc pm an cdv ct) hroom (X _ _ ho) rfl hco hgen rfl (codeRec_of X hcd) (hbind _ _ _ _ ?_))
  simp only [newFunctionEnv, Option.isSome_none, Bool.false_eq_true, if_false]
  refine wpAny_bind (wpAny_alloc ?_)
  refine wpAny_bind (wpAny_layCells _ (fun name kind cells => by cases hkc : kind == NameKind.cell <;> simp [hkc]) _ _ _ _ ?_)
  have ok := cellsFrom_ok scope.names (s.heap.push { cls := .type "frame", data := .dict #[] }) (s.heap.objs.size + 1) [] ⟨fun _ _ hm => (nomatch hm), List.Pairwise.nil⟩ (by rw [Heap.size_push]; exact Nat.le_refl _)
  rw [Heap.size_push] at ok
  rw [show ({ s with heap := s.heap.push { cls := .type "frame", data := .dict #[] } } : Shared).heap.objs.size = s.heap.objs.size + 1 from Heap.size_push ..]
  have hsz := pushCells_size scope.names (s.heap.push { cls := .type "frame", data := .dict #[] })
  rw [Heap.size_push] at hsz
  have hns : (pushCells (s.heap.push { cls := .type "frame", data := .dict #[] }) scope.names).Ns s.heap.objs.size (fun _ => none) := (Heap.Ns.new s.heap (.type "frame")).keeps (pushCells_keeps _ _)
  have hkp : Stays s.heap (pushCells (s.heap.push { cls := .type "frame", data := .dict #[] }) scope.names) := fun b o e => pushCells_keeps _ _ b o (Heap.get?_push_of_some _ e)
  generalize hH : pushCells (s.heap.push { cls := .type "frame", data := .dict #[] }) scope.names = H at hsz hns hkp ok
  rw [List.forIn_cons]
  dsimp only
  refine wpAny_bind (wpAny_bind (wpAny_bind (wpAny_storeName_local (env := envOfC qual scope s.heap.objs.size f cdv) hl hns (fun h' hn' hs' => wpAny_pure ?_) (by show ((scope.kind == ScopeKind.class) || (scope.kind == ScopeKind.module && _)) = false; rw [hk]; rfl))))
  dsimp only
  rw [List.forIn_nil]
  refine wpAny_pure (wpAny_pure ?_)
  have kp : Stays s.heap h' := fun b o e => hs'.extBut b o (Nat.ne_of_lt (Heap.lt_size e)) (hkp b o e)
  refine ⟨T.nolimit.keeps kp, codeAny_func ?_⟩
  have F : Fr s.heap s.heap.objs.size h' (lk [(x, v)]) := by
    refine ⟨?_, kp, Nat.le_refl _⟩
    have e : (fun y => if y = x then some v else none) = lk [(x, v)] := by
      funext y
      show _ = List.lookup y [(x, v)]
      by_cases q : y = x
      · subst q; simp
      · rw [if_neg q, List.lookup_cons, beq_eq_false_iff_ne.mpr q]; rfl
    rw [← e]; exact hn'
  obtain ⟨cells, NC, Y⟩ := Cl.news (h₀ := s.heap) (L := s.heap.objs.size) (h := h') (cm := fun _ => none) (Nat.le_refl _) fun n c hm =>
    ⟨((ok.empty n c hm).1).sameBut hs' (Nat.ne_of_gt (ok.empty n c hm).2), (ok.empty n c hm).2⟩
  exact wpAny_mono (h _ h' cells rfl (hs'.1.trans hsz) F NC Y) (fun _ _ x => x) (fun _ _ x => x.elim)
end

end
section
open PySem PySem.W PySem.W.X PyProof.Rows PySem.Calls
noncomputable abbrev sl : Str := Str.ofString "/"
noncomputable abbrev nil0 : Str := Str.ofString ""
theorem str_ext {a b : Str} (h : a.cps.toList = b.cps.toList) : a = b := by
  cases a with | mk a => cases b with | mk b => exact congrArg Str.mk (Array.toList_inj.mp h)
theorem cps_append (a b : Str) : (a ++ b).cps.toList = a.cps.toList ++ b.cps.toList := by
  show (a.cps ++ b.cps).toList = _
  exact Array.toList_append
theorem sl_cps : sl.cps.toList = [47] := rfl
/-- without a slash -/
noncomputable def Fre (x : Str) : Prop := 47 ∉ x.cps.toList
theorem app_assoc (a b c : Str) : a ++ b ++ c = a ++ (b ++ c) := str_ext (by simp only [cps_append, List.append_assoc])
theorem nil_app (a : Str) : nil0 ++ a = a := str_ext (by rw [cps_append]; rfl)
theorem app_nil (a : Str) : a ++ nil0 = a := str_ext (by rw [cps_append]; exact List.append_nil _)
theorem join2 (x y : Str) (r : List Str) : Str.join sl (x :: y :: r) = x ++ (sl ++ Str.join sl (y :: r)) := app_assoc _ _ _
theorem cut_eq {a b c d : List Nat} (ha : 47 ∉ a) (hc : 47 ∉ c) (h : a ++ 47 :: b = c ++ 47 :: d) : a = c ∧ b = d := by
  induction a generalizing c with
  | nil =>
    cases c with
    | nil => simpa using h
    | cons x c => simp at h; exact absurd (List.mem_cons_self (a := x) (l := c)) (h.1 ▸ hc)
  | cons x a ih =>
    cases c with
    | nil => simp at h; exact absurd (List.mem_cons_self (a := x) (l := a)) (h.1 ▸ ha)
    | cons y c =>
      simp at h
      obtain ⟨e1, e2⟩ := ih (fun m => ha (.tail _ m)) (fun m => hc (.tail _ m)) h.2
      exact ⟨by rw [h.1, e1], e2⟩
theorem join_inj : ∀ {ps qs : List Str}, ps ≠ [] → qs ≠ [] → (∀ p ∈ ps, Fre p) → (∀ q ∈ qs, Fre q) → Str.join sl ps = Str.join sl qs → ps = qs
  | [], _, h, _, _, _, _ => absurd rfl h
  | _, [], _, h, _, _, _ => absurd rfl h
  | [x], [y], _, _, _, _, e => by rw [show x = y from e]
  | [x], y :: z :: r, _, _, hp, hq, e => by
    rw [join2] at e
    have : (47 : Nat) ∈ x.cps.toList := by rw [show x = _ from e]; simp [cps_append, sl_cps]
    exact absurd this (hp x (.head _))
  | x :: z :: r, [y], _, _, hp, hq, e => by
    rw [join2] at e
    have : (47 : Nat) ∈ y.cps.toList := by rw [← show _ = y from e]; simp [cps_append, sl_cps]
    exact absurd this (hq y (.head _))
  | x :: z :: r, y :: z' :: r', _, _, hp, hq, e => by
    rw [join2, join2] at e
    have e' := congrArg (fun s : Str => s.cps.toList) e
    simp only [cps_append, sl_cps, List.singleton_append] at e'
    obtain ⟨e1, e2⟩ := cut_eq (hp x (.head _)) (hq y (.head _)) e'
    have := join_inj (ps := z :: r) (qs := z' :: r') (by simp) (by simp) (fun p h => hp p (.tail _ h)) (fun p h => hq p (.tail _ h)) (str_ext e2)
    rw [str_ext e1, this]
theorem split_join {ps : List Str} (hne : ps ≠ []) (hf : ∀ p ∈ ps, Fre p) : Txt.split (Str.join sl ps) sl = ps := by
  have h := StrLaws.split_free (Str.join sl ps) 47
  refine join_inj ?_ hne h hf (StrLaws.join_split _ _)
  intro e
  have := split_pos (Str.join sl ps) sl
  rw [e] at this
  exact absurd this (by decide)
theorem join_app : ∀ {ps qs : List Str}, ps ≠ [] → qs ≠ [] → Str.join sl (ps ++ qs) = Str.join sl ps ++ (sl ++ Str.join sl qs)
  | [], _, h, _ => absurd rfl h
  | [x], y :: r, _, _ => join2 x y r
  | [_], [], _, h => absurd rfl h
  | x :: y :: r, qs, _, h => by
    rw [List.cons_append, List.cons_append, join2, join2, ← List.cons_append, join_app (ps := y :: r) (by simp) h]
    simp only [app_assoc]

end
section
open PySem PySem.W PySem.W.X PyProof.Rows PySem.Calls
theorem snoc {α : Type} (l : List α) : l = [] ∨ ∃ r c, l = r ++ [c] := by
  rcases List.eq_nil_or_concat l with h | ⟨r, c, h⟩
  · exact .inl h
  · exact .inr ⟨r, c, by rw [h, List.concat_eq_append]⟩
theorem len_cps (a : Str) : a.length = a.cps.toList.length := by show a.cps.size = _; simp
theorem ends_sl (a : Str) : Txt.endswith a sl = (a.cps.toList.getLast? == some 47) := by
  unfold Txt.endswith Builtin.Str.subAt
  rw [StrLaws.beq_toList, Array.toList_extract, show Str.length sl = 1 from rfl, len_cps a]
  generalize a.cps.toList = l
  rcases snoc l with rfl | ⟨r, c, rfl⟩
  · rfl
  · have e : (List.extract (r ++ [c]) ((r ++ [c]).length - 1) ((r ++ [c]).length - 1 + 1)) = [c] := by
      rw [List.length_append, List.length_singleton, Nat.add_sub_cancel, List.extract_eq_take_drop]
      simp
    rw [e, List.getLast?_concat]
    simp [sl_cps]
theorem ends_app {a b : Str} (h : b.cps.toList ≠ []) : Txt.endswith (a ++ b) sl = Txt.endswith b sl := by
  rw [ends_sl, ends_sl, cps_append, List.getLast?_append]
  cases q : b.cps.toList.getLast? with
  | none => exact absurd (List.getLast?_eq_none_iff.mp q) h
  | some c => rfl
theorem ends_sl_nil (a : Str) : Txt.endswith (a ++ sl) sl = true := by rw [ends_app (by decide)]; decide
theorem ends_free {a : Str} (h : Fre a) (hne : a.cps.toList ≠ []) : Txt.endswith a sl = false := by
  rw [ends_sl]
  cases q : a.cps.toList.getLast? with
  | none => rfl
  | some c =>
    have hm := List.mem_of_getLast? q
    rw [beq_eq_false_iff_ne]
    intro e
    cases e
    exact h hm
/-- parts, one after another: a path's parts and a piece's -/
noncomputable def jp (P Q : List Str) : List Str := if P.getLast? = some nil0 then P.dropLast ++ Q else P ++ Q
theorem ne_nil_cps {a : Str} (h : a ≠ nil0) : a.cps.toList ≠ [] := fun e => h (str_ext e)
theorem ends_join {x : Str} {P : List Str} (hf : ∀ p ∈ P, Fre p) (hne : P ≠ []) : Txt.endswith (Str.join sl (x :: P)) sl = decide (P.getLast? = some nil0) := by
  rcases snoc P with rfl | ⟨R, y, rfl⟩
  · exact absurd rfl hne
  · rw [List.getLast?_concat, ← List.cons_append, join_app (by simp) (by simp)]
    show Txt.endswith (Str.join sl (x :: R) ++ (sl ++ y)) sl = _
    by_cases hy : y = nil0
    · subst hy
      rw [app_nil, ends_sl_nil, decide_eq_true rfl]
    · rw [← app_assoc, ends_app (ne_nil_cps hy), ends_free (hf y (by simp)) (ne_nil_cps hy), decide_eq_false fun e => hy (Option.some.inj e)]
theorem joinPy_parts {x : Str} {P Q : List Str} {p : Str} (hf : ∀ p ∈ P, Fre p) (hne : P ≠ []) (hQ : Q ≠ []) (hp : p = Str.join sl Q) (h1 : Txt.startswith p sl = false) : joinPy (Str.join sl (x :: P)) p = Str.join sl (jp (x :: P) Q) := by
  unfold joinPy
  have hl : ((Str.join sl (x :: P)).length : Int) ≠ 0 := by
    obtain ⟨y, r, rfl⟩ : ∃ y r, P = y :: r := by cases P with | nil => exact absurd rfl hne | cons y r => exact ⟨y, r, rfl⟩
    rw [join2, len_cps, cps_append, cps_append, sl_cps]
    simp only [List.length_append, List.length_singleton]
    omega
  rw [if_neg (by rintro (e | e); · rw [show Str.ofString "/" = sl from rfl, h1] at e; cases e
                 · exact hl e)]
  rw [show Str.ofString "/" = sl from rfl, ends_join hf hne]
  unfold jp
  have hg : (x :: P).getLast? = P.getLast? := by
    obtain ⟨y, r, rfl⟩ : ∃ y r, P = y :: r := by cases P with | nil => exact absurd rfl hne | cons y r => exact ⟨y, r, rfl⟩
    rfl
  rw [hg]
  by_cases hy : P.getLast? = some nil0
  · rw [decide_eq_true hy, if_pos rfl, if_pos hy, hp]
    rcases snoc P with rfl | ⟨R, y, rfl⟩
    · exact absurd rfl hne
    · rw [List.getLast?_concat] at hy
      cases hy
      rw [← List.cons_append, join_app (by simp) (by simp), List.dropLast_concat, join_app (by simp) hQ]
      show Str.join sl (x :: R) ++ (sl ++ nil0) ++ Str.join sl Q = _
      rw [app_nil, app_assoc]
  · rw [decide_eq_false hy, if_neg (by decide), if_neg hy, hp, join_app (by simp) hQ]

end
section
open PySem PySem.W PySem.W.X PyProof.Rows PySem.Calls
theorem root_of {x : Str} {c : Nat} {r : List Nat} (h : x.cps.toList = 47 :: c :: r) (hc : c ≠ 47) : rootPy x = (nil0, sl, ⟨(c :: r).toArray⟩) := by
  have hl : x.cps.toList.length = r.length + 2 := by rw [h]; rfl
  have e1 : Txt.slice x none (some 1) = sl := by
    show StrLaws.sliceText x none (some 1) = _
    rw [StrLaws.sliceText_to (by omega), h]; rfl
  have e2 : Txt.slice x (some 1) (some 2) = ⟨#[c]⟩ := by
    show StrLaws.sliceText x (some 1) (some 2) = _
    rw [StrLaws.sliceText_plain (by omega), h]; rfl
  have e3 : Txt.slice x (some 1) none = ⟨(c :: r).toArray⟩ := by
    show StrLaws.sliceText x (some 1) none = _
    rw [StrLaws.sliceText_from (by omega), h]
    exact str_ext (by simp)
  unfold rootPy
  rw [e1, if_neg (by rw [bne_self_eq_false]; decide), e2, e3, if_pos]
  left
  rw [bne_iff_ne]
  intro e
  have := congrArg (fun s : Str => s.cps.toList) e
  simp [sl_cps] at this
  exact hc this
theorem root_sl : rootPy sl = (nil0, sl, nil0) := by decide +kernel
/-- what stands between the slashes of a path with one root: not nothing at the front, or nothing at all -/
noncomputable def Rest (P : List Str) : Prop := P = [nil0] ∨ ∃ y r, P = y :: r ∧ y ≠ nil0
noncomputable def comps (P : List Str) : List Str := P.foldl (normStep sl) []
theorem join_ne {y : Str} {r : List Str} (hy : y ≠ nil0) (hf : Fre y) : ∃ c t, (Str.join sl (y :: r)).cps.toList = c :: t ∧ c ≠ 47 := by
  obtain ⟨c, t, e⟩ : ∃ c t, y.cps.toList = c :: t := by
    cases q : y.cps.toList with
    | nil => exact absurd q (ne_nil_cps hy)
    | cons c t => exact ⟨c, t, rfl⟩
  have hc : c ≠ 47 := fun q => hf (by rw [e, q]; exact .head _)
  cases r with
  | nil => exact ⟨c, t, e, hc⟩
  | cons z r => rw [join2]; exact ⟨c, t ++ _, by rw [cps_append, e]; rfl, hc⟩
theorem norm_join {P : List Str} (hf : ∀ p ∈ P, Fre p) (hr : Rest P) : (rootPy (Str.join sl (nil0 :: P))).2.1 = sl ∧ normPy (Str.join sl (nil0 :: P)) = sl ++ Txt.join sl (comps P) := by
  rcases hr with rfl | ⟨y, r, rfl, hy⟩
  · rw [show Str.join sl [nil0, nil0] = sl from by decide +kernel]
    exact ⟨by rw [root_sl], by decide +kernel⟩
  · obtain ⟨c, t, e, hc⟩ := join_ne (r := r) hy (hf y (.head _))
    have hx : (Str.join sl (nil0 :: y :: r)).cps.toList = 47 :: c :: t := by rw [join2, nil_app, cps_append, e]; rfl
    have hro := root_of hx hc
    have hs : (⟨(c :: t).toArray⟩ : Str) = Str.join sl (y :: r) := str_ext (by rw [e])
    rw [hs] at hro
    refine ⟨by rw [hro], ?_⟩
    unfold normPy
    rw [hro]
    dsimp only
    rw [show Str.ofString "/" = sl from rfl, split_join (by simp) hf, if_neg]
    · rfl
    · rw [len_cps, cps_append, sl_cps]
      simp only [List.length_append, List.length_singleton]
      omega

end
section
open PySem PySem.W PySem.W.X PyProof.Rows PySem.Calls
theorem rev_ind {α : Type} {C : List α → Prop} (h0 : C []) (h1 : ∀ v n, C v → C (v ++ [n])) : ∀ l, C l := fun l => by
  have : ∀ m : List α, C m.reverse := by
    intro m
    induction m with
    | nil => exact h0
    | cons x m ih => rw [List.reverse_cons]; exact h1 _ _ ih
  rw [← List.reverse_reverse l]; exact this _
theorem fre_of {x : Str} (h : x.cps.toList.contains 47 = false) : Fre x := fun q => by rw [List.contains_iff_mem.mpr q] at h; cases h
noncomputable abbrev na : Str := Str.ofString "a"
noncomputable abbrev nb : Str := Str.ofString "a-"
/-- a word: names a and a- -/
noncomputable def Wd (w : List Str) : Prop := ∀ n ∈ w, n = na ∨ n = nb
noncomputable def pw' (w : List Str) : Int × Int := w.foldl lawStep (1, 1)
theorem pw_snoc (w : List Str) (n : Str) : pw' (w ++ [n]) = lawStep (pw' w) n := by simp [pw']
theorem pw_pos : ∀ {w : List Str}, Wd w → 1 ≤ (pw' w).1 ∧ 1 ≤ (pw' w).2 := by
  intro w
  refine rev_ind (C := fun w => Wd w → 1 ≤ (pw' w).1 ∧ 1 ≤ (pw' w).2) ?_ ?_ w
  · intro _; exact ⟨by decide, by decide⟩
  · intro v n ih h
    have hv := ih fun m hm => h m (List.mem_append_left _ hm)
    rw [pw_snoc]
    rcases h n (by simp) with rfl | rfl
    · show 1 ≤ (pw' v).1 ∧ 1 ≤ (pw' v).1 + (pw' v).2; omega
    · show 1 ≤ (pw' v).1 + (pw' v).2 ∧ 1 ≤ (pw' v).2; omega
theorem pw_up {v : List Str} {n : Str} (h : Wd (v ++ [n])) : lawStep (pw' (v ++ [n])) (Str.ofString "..") = pw' v := by
  have hv := pw_pos (w := v) fun m hm => h m (List.mem_append_left _ hm)
  rw [pw_snoc]
  generalize pw' v = q at hv
  obtain ⟨x, y⟩ := q
  dsimp only at hv
  rcases h n (by simp) with rfl | rfl
  · rw [show lawStep (x, y) na = (x, x + y) from rfl, step_3 (by omega)]; exact Prod.ext rfl (by show x + y - x = y; omega)
  · rw [show lawStep (x, y) nb = (x + y, y) from rfl, step_4 (by omega)]; exact Prod.ext (by show x + y - y = x; omega) rfl
theorem names_pw : ∀ (w : List Str) (k : Nat), Wd w → w.length ≤ k → namesF k (pw' w).1 (pw' w).2 = w.reverse := by
  intro w
  refine rev_ind (C := fun w => ∀ k, Wd w → w.length ≤ k → namesF k (pw' w).1 (pw' w).2 = w.reverse) ?_ ?_ w
  · intro k _ _
    cases k with
    | zero => rfl
    | succ k => exact if_pos rfl
  · intro v n ih k h hk
    have hw : Wd v := fun m hm => h m (List.mem_append_left _ hm)
    have hv := pw_pos hw
    rw [List.length_append, List.length_singleton] at hk
    obtain ⟨k, rfl⟩ : ∃ j, k = j + 1 := ⟨k - 1, by omega⟩
    have e := ih k hw (by omega)
    rw [pw_snoc, List.reverse_append]
    generalize pw' v = q at hv e
    obtain ⟨x, y⟩ := q
    dsimp only at hv e
    rcases h n (by simp) with rfl | rfl
    · show namesF (k + 1) x (x + y) = na :: v.reverse
      rw [namesF, if_neg (by omega), if_pos (by omega), show x + y - x = y by omega, e]
    · show namesF (k + 1) (x + y) y = nb :: v.reverse
      rw [namesF, if_neg (by omega), if_neg (by omega), show x + y - y = x by omega, e]
noncomputable def jpr (P Q : List Str) : List Str := if P.getLast? = some nil0 then P.dropLast ++ Q else P ++ Q
theorem jp_cons {P Q : List Str} (hne : P ≠ []) : jp (nil0 :: P) Q = nil0 :: jpr P Q := by
  obtain ⟨y, r, rfl⟩ : ∃ y r, P = y :: r := by cases P with | nil => exact absurd rfl hne | cons y r => exact ⟨y, r, rfl⟩
  unfold jp jpr
  rw [show (nil0 :: y :: r).getLast? = (y :: r).getLast? from rfl]
  split <;> rfl
theorem comps_jpr (P Q : List Str) : comps (jpr P Q) = Q.foldl (normStep sl) (comps P) := by
  unfold jpr comps
  split
  · rename_i h
    rcases snoc P with rfl | ⟨R, y, rfl⟩
    · cases h
    · rw [List.getLast?_concat] at h
      cases h
      rw [List.dropLast_concat, List.foldl_append, List.foldl_append]
      rfl
  · rw [List.foldl_append]
structure Inv (x : Str) (w : List Str) (P : List Str) : Prop where
  eq : x = Str.join sl (nil0 :: P)
  fre : ∀ p ∈ P, Fre p
  rest : Rest P
  com : comps P = w
  wd : Wd w
theorem Rest.ne {P : List Str} (h : Rest P) : P ≠ [] := by rcases h with rfl | ⟨y, r, rfl, _⟩ <;> simp
theorem jpr_rest {P Q : List Str} (h : Rest P) (hQ : ∃ y r, Q = y :: r ∧ y ≠ nil0) : Rest (jpr P Q) := by
  obtain ⟨z, q, rfl, hz⟩ := hQ
  rcases h with rfl | ⟨y, r, rfl, hy⟩
  · exact .inr ⟨z, q, rfl, hz⟩
  · right
    unfold jpr
    split
    · rename_i h
      cases r with
      | nil => simp at h; exact absurd h hy
      | cons y2 r => exact ⟨y, _, rfl, hy⟩
    · exact ⟨y, _, rfl, hy⟩
theorem jpr_fre {P Q : List Str} (h : ∀ p ∈ P, Fre p) (hQ : ∀ p ∈ Q, Fre p) : ∀ p ∈ jpr P Q, Fre p := by
  intro p hp
  unfold jpr at hp
  split at hp
  · rcases List.mem_append.mp hp with hp | hp
    · exact h p (List.dropLast_subset _ hp)
    · exact hQ p hp
  · rcases List.mem_append.mp hp with hp | hp
    · exact h p hp
    · exact hQ p hp
theorem inv_join {x p : Str} {w P Q : List Str} (I : Inv x w P) (hQ : ∃ y r, Q = y :: r ∧ y ≠ nil0) (hf : ∀ p ∈ Q, Fre p) (hp : p = Str.join sl Q) (h1 : Txt.startswith p sl = false) {w' : List Str} (hw : Q.foldl (normStep sl) w = w') (hwd : Wd w') : Inv (joinPy x p) w' (jpr P Q) := by
  refine ⟨?_, jpr_fre I.fre hf, jpr_rest I.rest hQ, by rw [comps_jpr, I.com, hw], hwd⟩
  rw [I.eq, joinPy_parts I.fre I.rest.ne (by obtain ⟨y, r, rfl, _⟩ := hQ; simp) hp h1, jp_cons I.rest.ne]
theorem wd_snoc {w : List Str} {n : Str} (h : Wd w) (hn : n = na ∨ n = nb) : Wd (w ++ [n]) := fun m hm => by
  rcases List.mem_append.mp hm with hm | hm
  · exact h m hm
  · rw [List.mem_singleton.mp hm]; exact hn
theorem ns_name {w : List Str} {n : Str} (hn : n = na ∨ n = nb) : normStep sl w n = w ++ [n] := by
  rcases hn with rfl | rfl <;> rfl
theorem ns_dd {w : List Str} (h : Wd w) : normStep sl w (Str.ofString "..") = w.dropLast := by
  unfold normStep
  rw [if_neg (by decide), if_neg]
  rintro (e | ⟨e, _⟩ | e)
  · exact e rfl
  · exact absurd e (by decide)
  · have := h _ (List.mem_of_getLast? e)
    rcases this with e | e <;> exact absurd e (by decide)
/-- one piece more -/
theorem inv_step {x z : Str} {w P : List Str} (I : Inv x w P) (hz : z ∈ pieceKinds) : ∃ w' P', Inv (joinPy x z) w' P' ∧ lawStep (pw' w) z = pw' w' ∧ w'.length ≤ w.length + 1 := by
  simp only [pieceKinds, List.mem_cons, List.not_mem_nil, or_false] at hz
  rcases hz with rfl | rfl | rfl | rfl | rfl
  · exact ⟨w ++ [na], _, inv_join I (Q := [na]) ⟨na, [], rfl, by decide⟩ (fun p hp => by rw [List.mem_singleton.mp hp]; exact fre_of (by decide)) rfl (by decide +kernel) (ns_name (.inl rfl)) (wd_snoc I.wd (.inl rfl)), (pw_snoc w na).symm, by simp⟩
  · exact ⟨w ++ [nb], _, inv_join I (Q := [nb]) ⟨nb, [], rfl, by decide⟩ (fun p hp => by rw [List.mem_singleton.mp hp]; exact fre_of (by decide)) rfl (by decide +kernel) (ns_name (.inr rfl)) (wd_snoc I.wd (.inr rfl)), (pw_snoc w nb).symm, by simp⟩
  · refine ⟨w.dropLast, _, inv_join I (Q := [Str.ofString ".."]) ⟨_, [], rfl, by decide⟩ (fun p hp => by rw [List.mem_singleton.mp hp]; exact fre_of (by decide)) rfl (by decide +kernel) (ns_dd I.wd) (fun m hm => I.wd m (List.dropLast_subset _ hm)), ?_, by simp; omega⟩
    rcases snoc w with rfl | ⟨v, n, rfl⟩
    · decide +kernel
    · rw [List.dropLast_concat]; exact pw_up I.wd
  · exact ⟨w, _, inv_join I (Q := [Str.ofString ".", nil0, nil0]) ⟨_, _, rfl, by decide⟩ (fun p hp => by
      rcases List.mem_cons.mp hp with rfl | hp
      · exact fre_of (by decide)
      rcases List.mem_cons.mp hp with rfl | hp
      · exact fre_of (by decide)
      · rw [List.mem_singleton.mp hp]; exact fre_of (by decide)) (by decide +kernel) (by decide +kernel) rfl I.wd, rfl, by omega⟩
  · refine ⟨[nb], [nb], ⟨?_, fun p hp => by rw [List.mem_singleton.mp hp]; exact fre_of (by decide), .inr ⟨nb, [], rfl, by decide⟩, rfl, wd_snoc (w := []) (fun _ h => nomatch h) (.inr rfl)⟩, by rw [show lawStep (pw' w) (Str.ofString "/a-") = (2, 1) from rfl]; decide +kernel, by simp⟩
    unfold joinPy
    rw [if_pos (.inl (by decide +kernel))]
    decide +kernel
theorem inv_start : Inv sl [] [nil0] := ⟨by decide +kernel, fun p hp => by rw [List.mem_singleton.mp hp]; exact fre_of (by decide), .inl rfl, rfl, fun _ h => nomatch h⟩
theorem inv_all : ∀ (ps : List Str) {x : Str} {w P : List Str}, Inv x w P → (∀ z ∈ ps, z ∈ pieceKinds) → ∃ w' P', Inv (ps.foldl joinPy x) w' P' ∧ ps.foldl lawStep (pw' w) = pw' w' ∧ w'.length ≤ w.length + ps.length
  | [], x, w, P, I, _ => ⟨w, P, I, rfl, Nat.le_refl _⟩
  | z :: ps, x, w, P, I, h => by
    obtain ⟨w1, P1, I1, e1, l1⟩ := inv_step I (h z (.head _))
    obtain ⟨w2, P2, I2, e2, l2⟩ := inv_all ps I1 fun y hy => h y (.tail _ hy)
    exact ⟨w2, P2, I2, by rw [List.foldl_cons, e1, e2], by rw [List.length_cons]; omega⟩
/-- the place of a word -/
noncomputable def placeW (w : List Str) : Str := sl ++ Txt.join sl w
/-- five pieces and what comes of them -/
theorem pieces_word {ps : List Str} (h : ∀ z ∈ ps, z ∈ pieceKinds) (h5 : ps.length ≤ 5) : ∃ w, Wd w ∧ w.length ≤ 5 ∧ ps.foldl lawStep (1, 1) = pw' w ∧ (namesF 64 (ps.foldl lawStep (1, 1)).1 (ps.foldl lawStep (1, 1)).2).reverse = w ∧ (rootPy (ps.foldl joinPy sl)).2.1 = sl ∧ normPy (ps.foldl joinPy sl) = placeW w := by
  obtain ⟨w, P, I, e, l⟩ := inv_all ps inv_start h
  have e' : ps.foldl lawStep (1, 1) = pw' w := e
  obtain ⟨a, b⟩ := norm_join I.fre I.rest
  rw [← I.eq] at a b
  refine ⟨w, I.wd, by simp at l; omega, e', ?_, a, ?_⟩
  · rw [e', names_pw w 64 I.wd (by simp at l; omega), List.reverse_reverse]
  · rw [b, I.com]; rfl

end
section
open PySem PySem.W PySem.W.X PyProof.Rows PySem.Calls
noncomputable def wordsN : Nat → List (List Str)
  | 0 => [[]]
  | n + 1 => [] :: [na, nb].flatMap fun x => (wordsN n).map fun w => x :: w
noncomputable def allW : List (List Str) := wordsN 5
theorem wd_mem : ∀ {n : Nat} {w : List Str}, Wd w → w.length ≤ n → w ∈ wordsN n
  | 0, w, _, h => by rw [List.length_eq_zero_iff.mp (Nat.le_zero.mp h)]; exact .head _
  | n + 1, [], _, _ => .head _
  | n + 1, x :: w, hw, h => by
    refine .tail _ (List.mem_flatMap.mpr ⟨x, ?_, List.mem_map.mpr ⟨w, wd_mem (fun m hm => hw m (.tail _ hm)) (by simpa using h), rfl⟩⟩)
    rcases hw x (.head _) with rfl | rfl
    · exact .head _
    · exact .tail _ (.head _)
/-- a word's value: its names, the last first -/
noncomputable def vw (w : List Str) : Int × Int := w.reverse.foldl lawStep (1, 1)
noncomputable def sideW (w : List Str) : List Int := w.map (fun n => if n = na then 0 else 2) ++ [1]
noncomputable def crossW (w v : List Str) : Int := (vw w).1 * (vw v).2 - (vw v).1 * (vw w).2
noncomputable def intC (op : CmpOp) (x y : Int) : Bool := match op with | .Lt => decide (x < y) | .LtE => decide (x ≤ y) | .Gt => decide (y < x) | _ => decide (y ≤ x)
noncomputable def six : List CmpOp := [.Lt, .LtE, .Eq, .NotEq, .GtE, .Gt]
/-- what two words tell of each other -/
noncomputable def pairOk (w v : List Str) : Bool := six.all (fun op => opB op (crossW w v) 0 == lcmp intC op (sideW w) (sideW v)) && (decide (crossW v w < 0) || decide (namesF 64 (simpPy (vw w).1 (vw w).2 (vw v).1 (vw v).2).1 (simpPy (vw w).1 (vw w).2 (vw v).1 (vw v).2).2 = cprePy w v))
noncomputable def smallOk (w : List Str) : Bool := decide (0 < (vw w).1) && decide ((vw w).1 < 100) && decide (0 < (vw w).2) && decide ((vw w).2 < 100) && decide ((placeW w).length < 40)
set_option maxRecDepth 100000 in
theorem t1 : allW.all smallOk = true := by decide +kernel
set_option maxRecDepth 100000 in
theorem pr0 : ((allW.drop 0).take 7).all (fun w => allW.all (pairOk w)) = true := by decide +kernel
set_option maxRecDepth 100000 in
theorem pr1 : ((allW.drop 7).take 7).all (fun w => allW.all (pairOk w)) = true := by decide +kernel
set_option maxRecDepth 100000 in
theorem pr2 : ((allW.drop 14).take 7).all (fun w => allW.all (pairOk w)) = true := by decide +kernel
set_option maxRecDepth 100000 in
theorem pr3 : ((allW.drop 21).take 7).all (fun w => allW.all (pairOk w)) = true := by decide +kernel
set_option maxRecDepth 100000 in
theorem pr4 : ((allW.drop 28).take 7).all (fun w => allW.all (pairOk w)) = true := by decide +kernel
set_option maxRecDepth 100000 in
theorem pr5 : ((allW.drop 35).take 7).all (fun w => allW.all (pairOk w)) = true := by decide +kernel
set_option maxRecDepth 100000 in
theorem pr6 : ((allW.drop 42).take 7).all (fun w => allW.all (pairOk w)) = true := by decide +kernel
set_option maxRecDepth 100000 in
theorem pr7 : ((allW.drop 49).take 7).all (fun w => allW.all (pairOk w)) = true := by decide +kernel
set_option maxRecDepth 100000 in
theorem pr8 : ((allW.drop 56).take 7).all (fun w => allW.all (pairOk w)) = true := by decide +kernel
theorem all_pairs {w v : List Str} (hw : w ∈ allW) (hv : v ∈ allW) : pairOk w v = true := by
  have h : ∀ k, k < 9 → ((allW.drop (7 * k)).take 7).all (fun w => allW.all (pairOk w)) = true := fun k hk => by
    have : k = 0 ∨ k = 1 ∨ k = 2 ∨ k = 3 ∨ k = 4 ∨ k = 5 ∨ k = 6 ∨ k = 7 ∨ k = 8 := by omega
    rcases this with rfl | rfl | rfl | rfl | rfl | rfl | rfl | rfl | rfl
    · exact pr0
    · exact pr1
    · exact pr2
    · exact pr3
    · exact pr4
    · exact pr5
    · exact pr6
    · exact pr7
    · exact pr8
  obtain ⟨i, hi, rfl⟩ := List.mem_iff_getElem.mp hw
  have hlen : allW.length = 63 := by decide +kernel
  have hk : i / 7 < 9 := by omega
  refine List.all_eq_true.mp (List.all_eq_true.mp (h (i / 7) hk) _ ?_) v hv
  refine List.mem_iff_getElem.mpr ⟨i % 7, ?_, ?_⟩
  · rw [List.length_take, List.length_drop]; omega
  · rw [List.getElem_take, List.getElem_drop]
    congr 1
    omega
theorem small_all {w : List Str} (hw : w ∈ allW) : smallOk w = true := List.all_eq_true.mp t1 w hw

end
section
open PySem PySem.W PySem.W.X PyProof.Rows PySem.Calls
/-- a strict total order -/
structure TotC {α : Type} (c : CmpOp → α → α → Bool) : Prop where
  irr : ∀ x, c .Lt x x = false
  tr : ∀ x y z, c .Lt x y = true → c .Lt y z = true → c .Lt x z = true
  tri : ∀ x y, c .Lt x y = false → c .Lt y x = false → x = y
  gt : ∀ x y, c .Gt x y = c .Lt y x
theorem totI : TotC intC := ⟨fun x => decide_eq_false (by omega), fun x y z h1 h2 => decide_eq_true (by have := of_decide_eq_true h1; have := of_decide_eq_true h2; omega), fun x y h1 h2 => by have := of_decide_eq_false h1; have := of_decide_eq_false h2; omega, fun x y => rfl⟩
theorem totS : TotC strC := by
  refine ⟨fun x => decide_eq_false (List.lt_irrefl _), fun x y z h1 h2 => decide_eq_true (List.lt_trans (of_decide_eq_true h1) (of_decide_eq_true h2)), fun x y h1 h2 => ?_, fun x y => rfl⟩
  have a := of_decide_eq_false h1
  have b := of_decide_eq_false h2
  exact str_ext (List.le_antisymm (List.not_lt.mp b) (List.not_lt.mp a))
section
variable {α : Type} [DecidableEq α] {c : CmpOp → α → α → Bool}
noncomputable abbrev lex (c : CmpOp → α → α → Bool) (x y : List α) : Bool := lcmp c .Lt x y
theorem lex_nil (x : List α) : lex c x [] = false := by cases x <;> simp [lex, lcmp, sizesB]
theorem lex_nc (y : α) (ys : List α) : lex c [] (y :: ys) = true := by simp [lex, lcmp, sizesB]
theorem lex_cc (x y : α) (xs ys : List α) : lex c (x :: xs) (y :: ys) = if x = y then lex c xs ys else c .Lt x y := rfl
theorem lcmp_gt (T : TotC c) : ∀ x y : List α, lcmp c .Gt x y = lex c y x
  | [], [] => rfl
  | [], _ :: _ => by simp [lex, lcmp, sizesB]
  | _ :: _, [] => by simp [lex, lcmp, sizesB]
  | x :: xs, y :: ys => by
    rw [lex_cc, lcmp_cons]
    by_cases h : x = y
    · rw [if_pos h, if_pos h.symm, lcmp_gt T xs ys]
    · rw [if_neg h, if_neg (fun e => h e.symm)]; exact T.gt x y
theorem lex_irr (T : TotC c) : ∀ x : List α, lex c x x = false
  | [] => lex_nil []
  | x :: xs => by rw [lex_cc, if_pos rfl]; exact lex_irr T xs
theorem lex_tr (T : TotC c) : ∀ x y z : List α, lex c x y = true → lex c y z = true → lex c x z = true
  | _, _, [], _, h => by rw [lex_nil] at h; cases h
  | [], _, z :: zs, _, _ => lex_nc z zs
  | x :: xs, [], _, h, _ => by rw [lex_nil] at h; cases h
  | x :: xs, y :: ys, z :: zs, h1, h2 => by
    rw [lex_cc] at h1 h2 ⊢
    by_cases e1 : x = y
    · rw [if_pos e1] at h1
      by_cases e2 : y = z
      · rw [if_pos e2] at h2
        rw [if_pos (e1.trans e2)]; exact lex_tr T xs ys zs h1 h2
      · rw [if_neg e2] at h2
        rw [e1, if_neg e2]; exact h2
    · rw [if_neg e1] at h1
      by_cases e2 : y = z
      · rw [← e2, if_neg e1]; exact h1
      · rw [if_neg e2] at h2
        have := T.tr x y z h1 h2
        rw [if_neg (fun e => by rw [e, T.irr] at this; cases this)]; exact this
/-- what two lists begin with, each list between them begins with -/
theorem lex_between (T : TotC c) : ∀ (p x y z : List α), p <+: x → p <+: z → lex c y x = false → lex c z y = false → p <+: y
  | [], _, _, _, _, _, _, _ => List.nil_prefix
  | a :: p, x, y, z, hx, hz, h1, h2 => by
    obtain ⟨x', rfl⟩ := hx
    obtain ⟨z', rfl⟩ := hz
    rw [List.cons_append] at h1 h2
    cases y with
    | nil => rw [lex_nc] at h1; cases h1
    | cons b y =>
      rw [lex_cc] at h1 h2
      have e : b = a := by
        by_cases e : b = a
        · exact e
        · rw [if_neg e] at h1
          rw [if_neg fun q => e q.symm] at h2
          exact T.tri b a h1 h2
      subst e
      rw [if_pos rfl] at h1 h2
      exact List.cons_prefix_cons.mpr ⟨rfl, lex_between T p _ y _ (List.prefix_append _ _) (List.prefix_append _ _) h1 h2⟩
end
theorem best_of {bt : Nat → Nat → Bool} (irr : ∀ i, bt i i = false) (tr : ∀ i j k, bt i j = true → bt j k = true → bt i k = true) : ∀ n, argBest bt n ≤ n ∧ ∀ i, i ≤ n → bt i (argBest bt n) = false
  | 0 => ⟨Nat.le_refl _, fun i hi => by rw [Nat.le_zero.mp hi]; exact irr 0⟩
  | n + 1 => by
    obtain ⟨hb, ih⟩ := best_of irr tr n
    show (if bt (n + 1) (argBest bt n) = true then n + 1 else argBest bt n) ≤ n + 1 ∧ ∀ i, i ≤ n + 1 → bt i (if bt (n + 1) (argBest bt n) = true then n + 1 else argBest bt n) = false
    cases q : bt (n + 1) (argBest bt n) with
    | true =>
      rw [if_pos rfl]
      refine ⟨Nat.le_refl _, fun i hi => ?_⟩
      rcases Nat.lt_or_ge n i with h | h
      · rw [show i = n + 1 by omega]; exact irr _
      · cases z : bt i (n + 1) with
        | false => rfl
        | true => have := tr i (n + 1) _ z q; rw [ih i h] at this; cases this
    | false =>
      rw [if_neg (by decide)]
      refine ⟨Nat.le_succ_of_le hb, fun i hi => ?_⟩
      rcases Nat.lt_or_ge n i with h | h
      · rw [show i = n + 1 by omega]; exact q
      · exact ih i h
theorem best_mem {op : CmpOp} {ks : List (List Str)} (hne : ks ≠ []) (irr : ∀ i, btOf op ks i i = false) (tr : ∀ i j k, btOf op ks i j = true → btOf op ks j k = true → btOf op ks i k = true) : bestPy op ks ∈ ks ∧ ∀ k ∈ ks, lcmp strC op k (bestPy op ks) = false := by
  obtain ⟨hb, h⟩ := best_of irr tr (ks.length - 1)
  have hl : 0 < ks.length := List.length_pos_iff.mpr hne
  have hb' : argBest (btOf op ks) (ks.length - 1) < ks.length := by omega
  constructor
  · unfold bestPy; simp [hb']
  · intro k hk
    obtain ⟨i, hi, rfl⟩ := List.mem_iff_getElem.mp hk
    have := h i (by omega)
    unfold btOf at this
    unfold bestPy btOf
    rwa [show ks.getD i [] = ks[i] by simp [hi]] at this
theorem best_lt {ks : List (List Str)} (hne : ks ≠ []) : bestPy .Lt ks ∈ ks ∧ ∀ k ∈ ks, lex strC k (bestPy .Lt ks) = false :=
  best_mem hne (fun i => lex_irr totS _) fun i j k h1 h2 => lex_tr totS _ _ _ h1 h2
theorem best_gt {ks : List (List Str)} (hne : ks ≠ []) : bestPy .Gt ks ∈ ks ∧ ∀ k ∈ ks, lex strC (bestPy .Gt ks) k = false := by
  obtain ⟨a, b⟩ := best_mem (op := .Gt) hne (fun i => by rw [btOf, lcmp_gt totS]; exact lex_irr totS _) fun i j k h1 h2 => by
    rw [btOf, lcmp_gt totS] at h1 h2 ⊢
    exact lex_tr totS _ _ _ h2 h1
  exact ⟨a, fun k hk => by rw [← lcmp_gt totS]; exact b k hk⟩
theorem cpre_pre : ∀ x y : List Str, cprePy x y <+: x ∧ cprePy x y <+: y
  | [], _ => ⟨List.nil_prefix, List.nil_prefix⟩
  | _ :: _, [] => ⟨List.nil_prefix, List.nil_prefix⟩
  | x :: xs, y :: ys => by
    rw [cprePy]
    by_cases h : x = y
    · rw [if_pos h]
      obtain ⟨a, b⟩ := cpre_pre xs ys
      exact ⟨List.cons_prefix_cons.mpr ⟨rfl, a⟩, List.cons_prefix_cons.mpr ⟨h, b⟩⟩
    · rw [if_neg h]; exact ⟨List.nil_prefix, List.nil_prefix⟩
theorem cpre_max : ∀ p x y : List Str, p <+: x → p <+: y → p <+: cprePy x y
  | [], _, _, _, _ => List.nil_prefix
  | a :: p, x, y, hx, hy => by
    obtain ⟨x', rfl⟩ := hx
    obtain ⟨y', rfl⟩ := hy
    rw [List.cons_append, List.cons_append, cprePy, if_pos rfl]
    exact List.cons_prefix_cons.mpr ⟨rfl, cpre_max p _ _ (List.prefix_append _ _) (List.prefix_append _ _)⟩
/-- p is the longest beginning that all share -/
structure IsLcp (ws : List (List Str)) (p : List Str) : Prop where
  pre : ∀ w ∈ ws, p <+: w
  max : ∀ q, (∀ w ∈ ws, q <+: w) → q <+: p
theorem lcp_unique {ws : List (List Str)} {p q : List Str} (h1 : IsLcp ws p) (h2 : IsLcp ws q) : p = q := (h2.max p h1.pre).eq_of_length (Nat.le_antisymm (h2.max p h1.pre).length_le (h1.max q h2.pre).length_le)
theorem lcp_best {ks : List (List Str)} (hne : ks ≠ []) : IsLcp ks (cprePy (bestPy .Lt ks) (bestPy .Gt ks)) := by
  obtain ⟨a1, a2⟩ := best_lt hne
  obtain ⟨b1, b2⟩ := best_gt hne
  obtain ⟨c1, c2⟩ := cpre_pre (bestPy .Lt ks) (bestPy .Gt ks)
  exact ⟨fun w hw => lex_between totS _ _ _ _ c1 c2 (a2 w hw) (b2 w hw), fun q hq => cpre_max q _ _ (hq _ a1) (hq _ b1)⟩
theorem lcp_two (u v : List Str) : IsLcp [u, v] (cprePy u v) := by
  obtain ⟨a, b⟩ := cpre_pre u v
  refine ⟨fun w hw => ?_, fun q hq => cpre_max q _ _ (hq _ (.head _)) (hq _ (.tail _ (.head _)))⟩
  rcases List.mem_cons.mp hw with rfl | hw
  · exact a
  · rw [List.mem_singleton.mp hw]; exact b
theorem lcp_snoc {ws : List (List Str)} {p : List Str} (h : IsLcp ws p) (w : List Str) : IsLcp (ws ++ [w]) (cprePy p w) := by
  obtain ⟨a, b⟩ := cpre_pre p w
  refine ⟨fun v hv => ?_, fun q hq => cpre_max q _ _ (h.max q fun v hv => hq v (List.mem_append_left _ hv)) (hq w (by simp))⟩
  rcases List.mem_append.mp hv with hv | hv
  · exact a.trans (h.pre v hv)
  · rw [List.mem_singleton.mp hv]; exact b
/-- the least of all is no proper beginning's fellow: what commonpath's second list wants -/
theorem pre_ok {ks : List (List Str)} (hne : ks ≠ []) : PreOk (bestPy .Lt ks) (bestPy .Gt ks) := by
  obtain ⟨a1, a2⟩ := best_lt hne
  obtain ⟨b1, b2⟩ := best_gt hne
  have h := a2 _ b1
  generalize bestPy .Lt ks = x at h
  generalize bestPy .Gt ks = y at h
  clear a1 a2 b1 b2
  intro i
  induction i generalizing x y with
  | zero =>
    intro hi _
    cases y with
    | nil =>
      cases x with
      | nil => exact hi
      | cons a x => rw [lex_nc] at h; cases h
    | cons b y => exact Nat.succ_pos _
  | succ i ih =>
    intro hi hj
    cases x with
    | nil => simp at hi
    | cons a x =>
      cases y with
      | nil => rw [lex_nc] at h; cases h
      | cons b y =>
        have e : a = b := by simpa using hj 0 (Nat.succ_pos _)
        subst e
        rw [lex_cc, if_pos rfl] at h
        have := ih x y h (by simpa using hi) fun j hji => by simpa using hj (j + 1) (Nat.succ_lt_succ hji)
        simpa using this

end
section
open PySem PySem.W PySem.W.X PyProof.Rows PySem.Calls
noncomputable def partsW (w : List Str) : List Str := if w = [] then [nil0] else w
theorem place_join (w : List Str) : placeW w = Str.join sl (nil0 :: partsW w) := by
  unfold placeW partsW
  rw [show Txt.join sl w = Str.join sl w from StrLaws.glued_eq_join sl w]
  cases w with
  | nil => rw [if_pos rfl]; decide +kernel
  | cons x r => rw [if_neg (by simp), join2, nil_app]
theorem wd_free {w : List Str} (h : Wd w) : ∀ p ∈ w, Fre p := fun p hp => by
  rcases h p hp with rfl | rfl <;> exact fre_of (by decide)
theorem parts_free {w : List Str} (h : Wd w) : ∀ p ∈ nil0 :: partsW w, Fre p := fun p hp => by
  rcases List.mem_cons.mp hp with rfl | hp
  · exact fre_of (by decide)
  · unfold partsW at hp
    split at hp
    · rw [List.mem_singleton.mp hp]; exact fre_of (by decide)
    · exact wd_free h p hp
theorem keep_wd : ∀ {w : List Str}, Wd w → w.filter keepPy = w
  | [], _ => rfl
  | x :: w, h => by
    have hx : keepPy x = true := by rcases h x (.head _) with rfl | rfl <;> decide
    rw [List.filter_cons, if_pos hx, keep_wd fun m hm => h m (.tail _ hm)]
theorem keep_parts {w : List Str} (h : Wd w) : (nil0 :: partsW w).filter keepPy = w := by
  rw [List.filter_cons, if_neg (by decide)]
  unfold partsW
  split
  · rename_i e; subst e; decide
  · exact keep_wd h
theorem split_place {w : List Str} (h : Wd w) : (Txt.split (placeW w) sl).filter keepPy = w := by
  rw [place_join, split_join (by simp) (parts_free h), keep_parts h]
/-- other parts stuck between -/
noncomputable def weave (M : List Str) : List Str → List Str
  | [] => []
  | [x] => [x]
  | x :: y :: r => x :: (M ++ weave M (y :: r))
theorem weave_ne {M : List Str} {x : Str} {r : List Str} : weave M (x :: r) ≠ [] := by cases r <;> simp [weave]
theorem weave_join {M : List Str} (hM : M ≠ []) {z : Str} (hz : z = sl ++ (Str.join sl M ++ sl)) : ∀ ps : List Str, Str.join z ps = Str.join sl (weave M ps)
  | [] => rfl
  | [x] => rfl
  | x :: y :: r => by
    show x ++ z ++ Str.join z (y :: r) = _
    rw [weave_join hM hz (y :: r), hz]
    show _ = Str.join sl ([x] ++ (M ++ weave M (y :: r)))
    rw [join_app (by simp) (by simp [hM]), join_app hM weave_ne]
    simp only [app_assoc]
    rfl
theorem weave_keep {M : List Str} (hM : M.filter keepPy = []) : ∀ ps : List Str, (weave M ps).filter keepPy = ps.filter keepPy
  | [] => rfl
  | [x] => rfl
  | x :: y :: r => by
    show (x :: (M ++ weave M (y :: r))).filter keepPy = _
    rw [List.filter_cons, List.filter_append, hM, List.nil_append, weave_keep hM (y :: r)]
    exact (List.filter_cons ..).symm
theorem weave_fre {M : List Str} (hM : ∀ p ∈ M, Fre p) : ∀ ps : List Str, (∀ p ∈ ps, Fre p) → ∀ p ∈ weave M ps, Fre p
  | [], h, p, hp => h p hp
  | [x], h, p, hp => h p hp
  | x :: y :: r, h, p, hp => by
    rcases List.mem_cons.mp hp with rfl | hp
    · exact h p (.head _)
    · rcases List.mem_append.mp hp with hp | hp
      · exact hM p hp
      · exact weave_fre hM (y :: r) (fun q hq => h q (.tail _ hq)) p hp
theorem split_replaced {w M : List Str} (h : Wd w) (hM : M ≠ []) (hf : ∀ p ∈ M, Fre p) (hk : M.filter keepPy = []) {z : Str} (hz : z = sl ++ (Str.join sl M ++ sl)) : (Txt.split (Txt.replace (placeW w) sl z) sl).filter keepPy = w := by
  rw [show sl = (⟨#[47]⟩ : Str) from rfl, StrLaws.replace_one, show (⟨#[47]⟩ : Str) = sl from rfl, place_join, split_join (by simp) (parts_free h), weave_join hM hz, split_join weave_ne (weave_fre hf _ (parts_free h)), weave_keep hk, keep_parts h]
theorem split_meet1 {w : List Str} (h : Wd w) : (Txt.split (Txt.replace (placeW w) sl (Str.ofString "//./")) sl).filter keepPy = w :=
  split_replaced h (M := [nil0, Str.ofString "."]) (by simp) (fun p hp => by
    rcases List.mem_cons.mp hp with rfl | hp
    · exact fre_of (by decide)
    · rw [List.mem_singleton.mp hp]; exact fre_of (by decide)) (by decide) (by decide +kernel)
theorem split_meet2 {w : List Str} (h : Wd w) : (Txt.split (Txt.replace (placeW w) sl (Str.ofString "/.//")) sl).filter keepPy = w :=
  split_replaced h (M := [Str.ofString ".", nil0]) (by simp) (fun p hp => by
    rcases List.mem_cons.mp hp with rfl | hp
    · exact fre_of (by decide)
    · rw [List.mem_singleton.mp hp]; exact fre_of (by decide)) (by decide) (by decide +kernel)
/-- commonpath of words' places: the place of what the words begin with -/
theorem common_words {ws : List (List Str)} (hne : ws ≠ []) (hw : ∀ w ∈ ws, Wd w) : ∃ p, IsLcp ws p ∧ commonPy (ws.map placeW) = placeW p := by
  have e : ((ws.map placeW).map fun x => (Txt.split x sl).filter keepPy) = ws := by
    rw [List.map_map]
    exact (List.map_congr_left fun w h => split_place (hw w h)).trans (List.map_id _)
  refine ⟨_, lcp_best hne, ?_⟩
  unfold commonPy
  dsimp only
  rw [show Str.ofString "/" = sl from rfl, e]
  rfl
theorem meet_words {u v : List Str} (hu : Wd u) (hv : Wd v) : meetPy (placeW u) (placeW v) = placeW (cprePy u v) := by
  have e : ([Txt.replace (placeW u) sl (Str.ofString "//./"), Txt.replace (placeW v) sl (Str.ofString "/.//")].map fun x => (Txt.split x sl).filter keepPy) = [u, v] := by
    rw [List.map_cons, List.map_cons, List.map_nil, split_meet1 hu, split_meet2 hv]
  unfold meetPy commonPy
  dsimp only
  rw [show Str.ofString "/" = sl from rfl, e]
  rw [lcp_unique (lcp_best (ks := [u, v]) (by simp)) (lcp_two u v)]
  rfl
theorem wd_pre {p w : List Str} (h : Wd w) (hp : p <+: w) : Wd p := fun m hm => h m (hp.subset hm)
/-- the fold of meetings -/
theorem meets_words : ∀ (vs : List (List Str)) {ws : List (List Str)} {p : List Str}, IsLcp ws p → Wd p → (∀ v ∈ vs, Wd v) → ∃ q, IsLcp (ws ++ vs) q ∧ (vs.map placeW).foldl meetPy (placeW p) = placeW q
  | [], ws, p, h, _, _ => ⟨p, by rw [List.append_nil]; exact h, rfl⟩
  | v :: vs, ws, p, h, hp, hv => by
    obtain ⟨q, h1, h2⟩ := meets_words vs (lcp_snoc h v) (wd_pre hp (cpre_pre p v).1) fun x hx => hv x (.tail _ hx)
    refine ⟨q, by rw [List.append_assoc] at h1; exact h1, ?_⟩
    rw [List.map_cons, List.foldl_cons, meet_words hp (hv v (.head _))]
    exact h2
theorem place_inj {u v : List Str} (hu : Wd u) (hv : Wd v) (h : placeW u = placeW v) : u = v := by rw [← split_place hu, h, split_place hv]
/-- the climb, and what a meeting wants -/
noncomputable def upOk (w : List Str) : Bool := decide (upPy 64 (placeW w) = w.reverse) && decide ((Txt.replace (placeW w) sl (Str.ofString "//")).length < 100) && decide ((Txt.replace (placeW w) sl (Str.ofString "//./")).length < 200) && decide ((Txt.replace (placeW w) sl (Str.ofString "/.//")).length < 200) &&
  Txt.startswith (Txt.replace (placeW w) sl (Str.ofString "//./")) sl && Txt.startswith (Txt.replace (placeW w) sl (Str.ofString "/.//")) sl && Txt.startswith (placeW w) sl
set_option maxRecDepth 100000 in
theorem ur0 : ((allW.drop 0).take 7).all upOk = true := by decide +kernel
set_option maxRecDepth 100000 in
theorem ur1 : ((allW.drop 7).take 7).all upOk = true := by decide +kernel
set_option maxRecDepth 100000 in
theorem ur2 : ((allW.drop 14).take 7).all upOk = true := by decide +kernel
set_option maxRecDepth 100000 in
theorem ur3 : ((allW.drop 21).take 7).all upOk = true := by decide +kernel
set_option maxRecDepth 100000 in
theorem ur4 : ((allW.drop 28).take 7).all upOk = true := by decide +kernel
set_option maxRecDepth 100000 in
theorem ur5 : ((allW.drop 35).take 7).all upOk = true := by decide +kernel
set_option maxRecDepth 100000 in
theorem ur6 : ((allW.drop 42).take 7).all upOk = true := by decide +kernel
set_option maxRecDepth 100000 in
theorem ur7 : ((allW.drop 49).take 7).all upOk = true := by decide +kernel
set_option maxRecDepth 100000 in
theorem ur8 : ((allW.drop 56).take 7).all upOk = true := by decide +kernel
theorem chunk7 {f : List Str → Bool} (h : ∀ k, k < 9 → ((allW.drop (7 * k)).take 7).all f = true) {w : List Str} (hw : w ∈ allW) : f w = true := by
  obtain ⟨i, hi, rfl⟩ := List.mem_iff_getElem.mp hw
  have hlen : allW.length = 63 := by decide +kernel
  have hk : i / 7 < 9 := by omega
  refine List.all_eq_true.mp (h (i / 7) hk) _ ?_
  refine List.mem_iff_getElem.mpr ⟨i % 7, ?_, ?_⟩
  · rw [List.length_take, List.length_drop]; omega
  · rw [List.getElem_take, List.getElem_drop]
    congr 1
    omega
theorem up_all {w : List Str} (hw : w ∈ allW) : upOk w = true := chunk7 (fun k hk => by
  have : k = 0 ∨ k = 1 ∨ k = 2 ∨ k = 3 ∨ k = 4 ∨ k = 5 ∨ k = 6 ∨ k = 7 ∨ k = 8 := by omega
  rcases this with rfl | rfl | rfl | rfl | rfl | rfl | rfl | rfl | rfl
  · exact ur0
  · exact ur1
  · exact ur2
  · exact ur3
  · exact ur4
  · exact ur5
  · exact ur6
  · exact ur7
  · exact ur8) hw
/-- a word of at most five names -/
structure Word (w : List Str) : Prop where
  wd : Wd w
  len : w.length ≤ 5
theorem Word.mem {w : List Str} (h : Word w) : w ∈ allW := wd_mem h.wd h.len
theorem Word.pre {p w : List Str} (h : Word w) (hp : p <+: w) : Word p := ⟨wd_pre h.wd hp, Nat.le_trans hp.length_le h.len⟩
theorem meet_ok {u v : List Str} (hu : Word u) (hv : Word v) : MeetOk (placeW u) (placeW v) := by
  have a := up_all hu.mem
  have b := up_all hv.mem
  have c := small_all hu.mem
  have d := small_all hv.mem
  simp only [upOk, smallOk, Bool.and_eq_true, decide_eq_true_eq] at a b c d
  exact ⟨c.2, d.2, a.1.1.1.1.2, b.1.1.1.2, a.1.1.2, b.1.2, fun x y => pre_ok (by simp)⟩

end
section
open PySem PySem.W PySem.W.X PyProof.Rows PySem.Calls
section
variable {w : World} {A : Around} {s : Shared} {Q : Value → Shared → Prop} {E : Value → Shared → Prop} {h₀ : Heap} {L : Addr} {m : Str → Option Value} {news : List (Addr × Obj)} {p : Program} {loose : List Str} {mean : ExcName → Option Value} {mg mb : Str → Option Value}
theorem not_in {h : Heap} {a : Addr} (N : News h₀ L h news) (e : h.get? a = none) : ∀ q ∈ news, q.1 ≠ a := fun q hq z => by
  have := (N q hq).1
  rw [z, e] at this
  cases this
/-- a call that gives a new list of texts -/
theorem strs_k {d : Nat} {f : Value} {args : List Value} {xs : List Str} (R : Rm A d) (F : Fr h₀ L s.heap m) (N : News h₀ L s.heap news) (c : Call w d f args (fun h r => StrsL s.heap h r xs) s)
    (h : ∀ a ts e h' tk, ts.map (·.1) = xs → Fr h₀ L h' m → News h₀ L h' ((a, listOf (sv ts).toArray e) :: news) → (∀ q ∈ news, q.1 ≠ a) → Q (.ref a) { s with heap := h', toks := tk }) : wpAny (model pw w) A (call f args) Q E s := by
  refine ans_k R F N c ?_
  rintro v h' tk ⟨a, ts, e, rfl, ha, hn, hx⟩ st F' N'
  exact h a ts e h' tk hx F' (news_one F N' ha hn) (not_in N hn)
theorem kinds_all : ∀ k, k < 10 → kinds10.getD k (Str.ofString "") ∈ pieceKinds := by decide +kernel
theorem pieces_kinds (c : Int) : ∀ z ∈ piecesPy c, z ∈ pieceKinds := fun z hz => by
  obtain ⟨k, _, rfl⟩ := List.mem_map.mp hz
  obtain ⟨h0, h1⟩ := fmod10 (c.fdiv ((10 : Int) ^ k))
  exact kinds_all _ (by omega)
theorem pieces_len (c : Int) : (piecesPy c).length = 5 := by simp [piecesPy]
theorem fold_stepV (ts : List (Str × Tok)) (a : Int × Int) : (sv ts).foldl stepV a = (ts.map (·.1)).foldl lawStep a := by
  induction ts generalizing a with
  | nil => rfl
  | cons z ts ih => exact ih (lawStep a z.1)
noncomputable def stepOk (_ : Int × Int) (e : Value) : Prop := ∃ z t, e = .str z t ∧ z ∈ pieceKinds
theorem steps_step : Steps w (fun h => (Mine.KK w.params).In h ∧ Top p loose mean mg mb h) 150 239 PairAt stepV stepOk := by
  rintro s v a objs e ⟨KX, T⟩ ⟨pp, t1, t2, rfl, rfl⟩ ho ⟨z, t, rfl, hz⟩
  exact step_c w KX T a.1 a.2 pp t1 t2 t (ho _ (.head _)) z hz
theorem keep239 : keepIn (KK w.params) (.ref 239) = true := by kernel_rfl
theorem keep115 : keepIn (KK w.params) (.ref 115) = true := by kernel_rfl
theorem keep274 : keepIn (KK w.params) (.ref 274) = true := by kernel_rfl
/-- reduce(_law_step, texts, pair) -/
theorem fold_k {l t : Addr} {ts : List (Str × Tok)} {e : Nat} {x y : Int} {t1 t2 : Tok} (R : Rm A 100) (F : Fr h₀ L s.heap m) (N : News h₀ L s.heap news) (KX : (Mine.KK w.params).In h₀) (T : Top p loose mean mg mb h₀)
    (hl : s.heap.get? l = some (listOf (sv ts).toArray e)) (ht : s.heap.get? t = some (tupO x y t1 t2)) (hk : ∀ z ∈ ts.map (·.1), z ∈ pieceKinds)
    (h : ∀ q u1 u2 h' tk, Fr h₀ L h' m → News h₀ L h' news → h'.get? q = some (tupO ((ts.map (·.1)).foldl lawStep (x, y)).1 ((ts.map (·.1)).foldl lawStep (x, y)).2 u1 u2) → (s.heap.get? q = none ∨ q = t) → Stays s.heap h' → Q (.ref q) { s with heap := h', toks := tk }) :
    wpAny (model pw w) A (call (.ref 227) [.ref 239, .ref l, .ref t]) Q E s := by
  have KX' := KX.keeps F.keep
  have T' := T.keeps F.keep
  refine ans_k R F N (reduce_c w KX' T' 239 l (.ref t) (sv ts) PairAt stepV stepOk _ ⟨KX', T'⟩ (fun h h' st hp => ⟨hp.1.keeps st, hp.2.keeps st⟩) steps_step keep239 (x, y) [(t, tupO x y t1 t2)] ⟨t, t1, t2, rfl, rfl⟩ (fun z hz => by rw [List.mem_singleton.mp hz]; exact ht) (.inr ⟨t, _, rfl, ht⟩) (fun i v hv => ?_) hl) ?_
  · obtain ⟨z, hz, rfl⟩ := List.mem_map.mp (List.mem_of_getElem? hv)
    exact ⟨z.1, z.2, rfl, hk _ (List.mem_map.mpr ⟨z, hz, rfl⟩)⟩
  · rintro r h' tk ⟨objs', ⟨q, u1, u2, rfl, rfl⟩, ho⟩ st F' N'
    obtain ⟨a, b⟩ := ho _ (.head _)
    rw [fold_stepV] at a
    refine h q u1 u2 h' tk F' N' a (b.imp id fun hm => ?_) st
    exact (Prod.mk.inj (List.mem_singleton.mp hm)).1
noncomputable def joinV (a : Str) (e : Value) : Str := match e with | .str z _ => joinPy a z | _ => a
noncomputable def RepS (v : Value) (a : Str) (objs : List (Addr × Obj)) : Prop := (∃ t, v = .str a t) ∧ objs = []
noncomputable def joinOk (a : Str) (e : Value) : Prop := ∃ z t, e = .str z t ∧ z.length ≤ 100 ∧ a.length < 800
theorem fold_joinV (ts : List (Str × Tok)) (a : Str) : (sv ts).foldl joinV a = (ts.map (·.1)).foldl joinPy a := by
  induction ts generalizing a with
  | nil => rfl
  | cons z ts ih => exact ih (joinPy a z.1)
theorem steps_join : Steps w (fun h => (Mine.KK w.params).In h ∧ Top p loose mean mg mb h) 150 115 RepS joinV joinOk := by
  rintro s v a objs e ⟨KX, T⟩ ⟨⟨t1, rfl⟩, rfl⟩ ho ⟨z, t, rfl, hz, ha⟩
  refine wpAny_mono (around_le (d := 200) (Rm.le (Rm.mk' 150) (by decide)) (join_c w KX T a z t1 t [] (by simp; omega) (fun y hy => by rw [List.mem_singleton.mp hy]; exact hz))) ?_ fun _ _ x => x
  rintro v s' ⟨h', tk, rfl, st, t2, rfl⟩
  exact ⟨h', tk, rfl, st, [], ⟨⟨t2, rfl⟩, rfl⟩, fun _ h => (nomatch h)⟩
theorem kinds_len : ∀ z ∈ pieceKinds, z.length ≤ 3 := by decide +kernel
theorem fold_len : ∀ (ps : List Str) (a : Str), (∀ z ∈ ps, z ∈ pieceKinds) → (ps.foldl joinPy a).length ≤ a.length + 4 * ps.length
  | [], a, _ => by simp
  | z :: ps, a, h => by
    have h1 := fold_len ps (joinPy a z) fun y hy => h y (.tail _ hy)
    have h2 := joinPy_len a z
    have h3 := kinds_len z (h z (.head _))
    rw [List.foldl_cons, List.length_cons]
    omega
/-- reduce(join, texts, text) -/
theorem foldj_k {l : Addr} {ts : List (Str × Tok)} {e : Nat} {x : Str} {tx : Tok} (R : Rm A 100) (F : Fr h₀ L s.heap m) (N : News h₀ L s.heap news) (KX : (Mine.KK w.params).In h₀) (T : Top p loose mean mg mb h₀)
    (hl : s.heap.get? l = some (listOf (sv ts).toArray e)) (hk : ∀ z ∈ ts.map (·.1), z ∈ pieceKinds) (h5 : ts.length ≤ 5) (hx : x.length ≤ 5)
    (h : ∀ t' h' tk, Fr h₀ L h' m → News h₀ L h' news → Q (.str ((ts.map (·.1)).foldl joinPy x) t') { s with heap := h', toks := tk }) :
    wpAny (model pw w) A (call (.ref 227) [.ref 115, .ref l, .str x tx]) Q E s := by
  have KX' := KX.keeps F.keep
  have T' := T.keeps F.keep
  refine ans_k R F N (reduce_c w KX' T' 115 l (.str x tx) (sv ts) RepS joinV joinOk _ ⟨KX', T'⟩ (fun h h' st hp => ⟨hp.1.keeps st, hp.2.keeps st⟩) steps_join keep115 x [] ⟨⟨tx, rfl⟩, rfl⟩ (fun z hz => nomatch hz) (.inl ⟨x, tx, rfl⟩) (fun i v hv => ?_) hl) ?_
  · obtain ⟨z, hz, rfl⟩ := List.mem_map.mp (List.mem_of_getElem? hv)
    have hzk := hk _ (List.mem_map.mpr ⟨z, hz, rfl⟩)
    refine ⟨z.1, z.2, rfl, Nat.le_trans (kinds_len _ hzk) (by decide), ?_⟩
    have e1 : (sv ts).take i = sv (ts.take i) := by simp [sv]
    rw [e1, fold_joinV]
    have := fold_len ((ts.take i).map (·.1)) x fun y hy => by
      obtain ⟨y', hy', rfl⟩ := List.mem_map.mp hy
      exact hk _ (List.mem_map.mpr ⟨y', List.mem_of_mem_take hy', rfl⟩)
    rw [List.length_map, List.length_take] at this
    omega
  · rintro r h' tk ⟨objs', ⟨⟨t', rfl⟩, _⟩, _⟩ st F' N'
    rw [fold_joinV]
    exact h t' h' tk F' N'
end

end
section
open PySem PySem.W PySem.W.X PyProof.Rows PySem.Calls
theorem raw_sl : (⟨⟨[47]⟩⟩ : Str) = Str.ofString "/" := by decide +kernel
theorem len_sl : (Str.ofString "/").length = 1 := by decide +kernel
theorem ne_same {w : World} {A : Around} {s : Shared} {Q E : Value → Shared → Prop} {x y : Str} {t u : Tok} (e : x = y) (h : Q (.bool false) s) : wpAny (model pw w) A (compareOp .NotEq (.str x t) (.str y u)) Q E s := by
  subst e
  refine PySem.P.ne_str ?_
  rw [bne_self_eq_false]
  exact h
section
variable {w : World} {A : Around} {s : Shared} {Q : Value → Shared → Prop} {E : Value → Shared → Prop} {h₀ : Heap} {L : Addr} {m : Str → Option Value} {news : List (Addr × Obj)} {p : Program} {loose : List Str} {mean : ExcName → Option Value} {mg mb : Str → Option Value}
/-- reduce(join, texts, '/') -/
theorem foldc_k {l : Addr} {ts : List (Str × Tok)} {e : Nat} {cr : Str} {tx : Tok} (R : Rm A 100) (F : Fr h₀ L s.heap m) (N : News h₀ L s.heap news) (KX : (Mine.KK w.params).In h₀) (T : Top p loose mean mg mb h₀)
    (hl : s.heap.get? l = some (listOf (sv ts).toArray e)) (hk : ∀ z ∈ ts.map (·.1), z ∈ pieceKinds) (h5 : ts.length = 5) (hc : (ts.map (·.1)).foldl joinPy sl = cr)
    (h : ∀ t' h' tk, Fr h₀ L h' m → News h₀ L h' news → Q (.str cr t') { s with heap := h', toks := tk }) :
    wpAny (model pw w) A (call (.ref 227) [.ref 115, .ref l, .str ⟨⟨[47]⟩⟩ tx]) Q E s := by
  subst hc
  refine foldj_k R F N KX T hl hk (Nat.le_of_eq h5) (by rw [raw_sl, len_sl]; omega) ?_
  rw [raw_sl]
  exact h
/-- join('', piece) -/
theorem joine_k {z : Str} {t u : Tok} (R : Rm A 200) (F : Fr h₀ L s.heap m) (N : News h₀ L s.heap news) (KX : (Mine.KK w.params).In h₀) (T : Top p loose mean mg mb h₀) (hz : z ∈ pieceKinds)
    (h : ∀ t' h' tk, Fr h₀ L h' m → News h₀ L h' news → Q (.str z t') { s with heap := h', toks := tk }) :
    wpAny (model pw w) A (call (.ref 115) [.str ⟨⟨[]⟩⟩ t, .str z u]) Q E s := by
  refine ans_k R F N (join_c w (KX.keeps F.keep) (T.keeps F.keep) _ z t u [] (by show 0 + 1 * 101 < 1000; decide) (fun y hy => by rw [List.mem_singleton.mp hy]; exact Nat.le_trans (kinds_len _ hz) (by decide))) ?_
  rintro v h' tk ⟨t', rfl⟩ - F' N'
  have e : (((z, u) :: ([] : List (Str × Tok))).map (·.1)).foldl joinPy (⟨⟨[]⟩⟩ : Str) = z := if_pos (.inr rfl)
  rw [e]
  exact h t' h' tk F' N'
/-- join('/', the five pieces) -/
theorem join5_k {p0 p1 p2 p3 p4 : Str × Tok} {cr : Str} {t : Tok} (R : Rm A 200) (F : Fr h₀ L s.heap m) (N : News h₀ L s.heap news) (KX : (Mine.KK w.params).In h₀) (T : Top p loose mean mg mb h₀)
    (hk : ∀ z ∈ [p0, p1, p2, p3, p4].map (·.1), z ∈ pieceKinds) (hc : ([p0, p1, p2, p3, p4].map (·.1)).foldl joinPy sl = cr)
    (h : ∀ t' h' tk, Fr h₀ L h' m → News h₀ L h' news → Q (.str cr t') { s with heap := h', toks := tk }) :
    wpAny (model pw w) A (call (.ref 115) [.str ⟨⟨[47]⟩⟩ t, .str p0.1 p0.2, .str p1.1 p1.2, .str p2.1 p2.2, .str p3.1 p3.2, .str p4.1 p4.2]) Q E s := by
  subst hc
  refine ans_k R F N (join_c w (KX.keeps F.keep) (T.keeps F.keep) _ p0.1 t p0.2 [p1, p2, p3, p4] (by rw [raw_sl, len_sl]; show 1 + 5 * 101 < 1000; decide) (fun y hy => ?_)) ?_
  · have : y.1 ∈ [p0, p1, p2, p3, p4].map (·.1) := by
      rcases List.mem_cons.mp hy with rfl | hy
      · exact .head _
      · exact .tail _ (List.mem_map_of_mem (f := fun z : Str × Tok => z.1) hy)
    exact Nat.le_trans (kinds_len _ (hk _ this)) (by decide)
  · rintro v h' tk ⟨t', rfl⟩ - F' N'
    rw [raw_sl]
    exact h t' h' tk F' N'
/-- normpath -/
theorem norm_k {x y : Str} {t : Tok} (R : Rm A 100) (F : Fr h₀ L s.heap m) (N : News h₀ L s.heap news) (KX : (Mine.KK w.params).In h₀) (T : Top p loose mean mg mb h₀) (hx : x.length < 100) (hx0 : x.length ≠ 0) (hroot : (rootPy x).2.1 = sl) (hy : normPy x = y)
    (h : ∀ t' h' tk, Fr h₀ L h' m → News h₀ L h' news → Q (.str y t') { s with heap := h', toks := tk }) :
    wpAny (model pw w) A (call (.ref 136) [.str x t]) Q E s := by
  subst hy
  refine ans_k R F N (norm_c w (KX.keeps F.keep) (T.keeps F.keep) x t hx hx0 hroot) ?_
  rintro v h' tk ⟨t', rfl⟩ - F' N'
  exact h t' h' tk F' N'
end

end
section
open PySem PySem.W PySem.W.X PyProof.Rows PySem.Calls
section
variable {h₀ sh h' : Heap} {L : Addr} {m : Str → Option Value} {news : List (Addr × Obj)}
/-- the object that a fold gives: a new one, or the one it began with -/
theorem news_fold {t q : Addr} {o o' : Obj} (F : Fr h₀ L sh m) (N : News h₀ L h' news) (hm : (t, o') ∈ news) (hq : h'.get? q = some o) (hor : sh.get? q = none ∨ q = t) : News h₀ L h' ((q, o) :: news) := by
  rcases hor with e | rfl
  · exact news_one F N hq e
  · intro p hp
    rcases List.mem_cons.mp hp with rfl | hp
    · have h := N _ hm
      exact ⟨hq, h.2⟩
    · exact N p hp
theorem news_add {D : Addr} {nx : List (Addr × Obj)} (F : Fr h₀ L sh m) (N : News h₀ L h' news) (hx : ∀ p ∈ nx, h'.get? p.1 = some p.2 ∧ sh.get? p.1 = none ∧ p.1 ≠ D) : News h₀ L h' (nx ++ news) := fun p hp => by
  rcases List.mem_append.mp hp with hp | hp
  · obtain ⟨a, b, _⟩ := hx p hp
    exact news_one F N a b p (.head _)
  · exact N p hp
theorem news_mid {h : Heap} {V A R : List (Addr × Obj)} (N : News h₀ L h (V ++ (A ++ R))) : News h₀ L h (A ++ (V ++ R)) := fun p hp => N p (by
  rcases List.mem_append.mp hp with hp | hp
  · exact List.mem_append_right _ (List.mem_append_left _ hp)
  · rcases List.mem_append.mp hp with hp | hp
    · exact List.mem_append_left _ hp
    · exact List.mem_append_right _ (List.mem_append_right _ hp))
theorem news_end {h : Heap} {V A R : List (Addr × Obj)} (N : News h₀ L h ((A ++ R) ++ V)) : News h₀ L h (A ++ (V ++ R)) := fun p hp => N p (by
  rcases List.mem_append.mp hp with hp | hp
  · exact List.mem_append_left _ (List.mem_append_left _ hp)
  · rcases List.mem_append.mp hp with hp | hp
    · exact List.mem_append_right _ hp
    · exact List.mem_append_left _ (List.mem_append_right _ hp))
theorem mem5 {α : Type} {q a b c d e : α} {l : List α} (h : q ∈ l) : q ∈ a :: b :: c :: d :: e :: l := .tail _ (.tail _ (.tail _ (.tail _ (.tail _ h))))
end
theorem keep348 {K : Frag} (Y : KProps K) : keepIn K (.ref 348) = true := by
  have h := Y.make
  unfold chkMake at h
  rw [Bool.and_eq_true, Bool.and_eq_true] at h
  have h1 := h.1.1
  unfold makesIn at h1
  unfold keepIn
  dsimp only
  split at h1
  · rename_i q
    rw [q]
    simp only [Bool.and_eq_true] at h1
    exact h1.1.2
  · cases h1
/-- apart from the law's cells -/
structure Off (R : List (Addr × Obj)) : Prop where
  off : ∀ p ∈ R, ∀ a : Nat, 282 ≤ a → a ≤ 287 → p.1 ≠ a
theorem off_ne {R : List (Addr × Obj)} {d : Addr} (h : Off R) (hd : 282 ≤ (d : Nat) ∧ (d : Nat) ≤ 287) : ∀ p ∈ R, p.1 ≠ d := fun p hp => h.off p hp d hd.1 hd.2
theorem six_off {h₀ h : Heap} {L : Addr} {news nx R : List (Addr × Obj)} {o1 o2 o3 o4 o5 o6 : Obj} (N : News h₀ L h news) (hR : Off R) (m1 : (287, o1) ∈ news) (m2 : (286, o2) ∈ news) (m3 : (285, o3) ∈ news) (m4 : (284, o4) ∈ news) (m5 : (283, o5) ∈ news) (m6 : (282, o6) ∈ news) (hx : ∀ p ∈ nx, h.get? p.1 = none) : Off (nx ++ R) :=
  ⟨fun p hp a h1 h2 e => by
    rcases List.mem_append.mp hp with hp | hp
    · have z := hx p hp
      rw [e] at z
      have : a = 282 ∨ a = 283 ∨ a = 284 ∨ a = 285 ∨ a = 286 ∨ a = 287 := by omega
      rcases this with rfl | rfl | rfl | rfl | rfl | rfl
      · rw [(N _ m6).1] at z; cases z
      · rw [(N _ m5).1] at z; cases z
      · rw [(N _ m4).1] at z; cases z
      · rw [(N _ m3).1] at z; cases z
      · rw [(N _ m2).1] at z; cases z
      · rw [(N _ m1).1] at z; cases z
    · exact hR.off p hp a h1 h2 e⟩
/-- the values' pairs -/
noncomputable abbrev PR := List (Addr × (Int × Int) × Tok × Tok)
noncomputable def objsV (l : PR) : List (Addr × Obj) := l.map fun q => (q.1, tupO q.2.1.1 q.2.1.2 q.2.2.1 q.2.2.2)
noncomputable def refsV (l : PR) : List Value := l.map fun q => .ref q.1
theorem objsV_push (l : PR) (q : Addr × (Int × Int) × Tok × Tok) : objsV (l ++ [q]) = objsV l ++ [(q.1, tupO q.2.1.1 q.2.1.2 q.2.2.1 q.2.2.2)] := by simp [objsV]
theorem refsV_push (l : PR) (q : Addr × (Int × Int) × Tok × Tok) : refsV l ++ [.ref q.1] = refsV (l ++ [q]) := by simp [refsV]
theorem wd_kinds {w : List Str} (h : Wd w) : ∀ z ∈ w.reverse, z ∈ pieceKinds := fun z hz => by
  rcases h z (List.mem_reverse.mp hz) with rfl | rfl <;> decide
theorem take_map_push {α β γ : Type} {l : List α} {f : α → β} {g : γ → β} {r : List γ} {i : Nat} {a : α} {c : γ} (h : r.map g = (l.take i).map f) (ha : l[i]? = some a) (hc : g c = f a) : (r ++ [c]).map g = (l.take (i + 1)).map f := by
  rw [List.map_append, h, List.take_add_one, ha]
  simp [hc]
/-- one value more -/
theorem pr_push {prs : PR} {ws : List (List Str)} {j : Nat} {wz : List Str} {q : Addr} {u1 u2 : Tok} {pz : List Str} (h : prs.map (fun q => q.2.1) = (ws.take j).map vw) (hz : ws[j]? = some wz) (hp : pz = wz.reverse) :
    (prs ++ [(q, (pz.foldl lawStep (1, 1)), u1, u2)]).map (fun q => q.2.1) = (ws.take (j + 1)).map vw := take_map_push h hz (by subst hp; rfl)

end
open PySem PySem.W PySem.W.X PyProof.Rows PySem.Calls
theorem cells1 {cm : Str → Option Value} {n : Str} {c : Addr} {l : List (Str × Addr)} {cells : List (Addr × Obj)} (x : CellsAre cm ((n, c) :: l) cells) : ∃ o r, cells = (c, o) :: r ∧ o.data = .cell (cm n) ∧ CellsAre cm l r := by
  cases x with | cons h x => exact ⟨_, _, rfl, h, x⟩
theorem CellsAre.six {cm : Str → Option Value} {n1 n2 n3 n4 n5 n6 : Str} {c1 c2 c3 c4 c5 c6 : Addr} {cells : List (Addr × Obj)} (x : CellsAre cm [(n1, c1), (n2, c2), (n3, c3), (n4, c4), (n5, c5), (n6, c6)] cells) :
    ∃ o1 o2 o3 o4 o5 o6, cells = [(c1, o1), (c2, o2), (c3, o3), (c4, o4), (c5, o5), (c6, o6)] ∧ o1.data = .cell (cm n1) ∧ o2.data = .cell (cm n2) ∧ o3.data = .cell (cm n3) ∧ o4.data = .cell (cm n4) ∧ o5.data = .cell (cm n5) ∧ o6.data = .cell (cm n6) :=
  (cells1 x).elim fun o1 y => y.elim fun _ y => (cells1 y.2.2).elim fun o2 z => z.elim fun _ z => (cells1 z.2.2).elim fun o3 u => u.elim fun _ u => (cells1 u.2.2).elim fun o4 v => v.elim fun _ v => v.2.2.two.elim fun o5 a => a.elim fun o6 a =>
    ⟨o1, o2, o3, o4, o5, o6, by rw [y.1, z.1, u.1, v.1, a.1], y.2.1, z.2.1, u.2.1, v.2.1, a.2.1, a.2.2⟩
/-- a program of one line, that makes no names: what the walk asks of a program after the class is made -/
noncomputable def p0 : Program := { pw with main := { pw.main with body := [.Import [⟨"sys", none, default⟩] default] } }
/-- what the law's names stand on, with one object set aside -/
theorem top_but {p : Program} {loose : List Str} {mean : ExcName → Option Value} {mg mb : Str → Option Value} {h : Heap} (T : Top p loose mean mg mb h) {o213 : Obj} (h213 : h.get? 213 = some o213) (hc : o213.cls = .none) :
    Top p0 (loose ++ ((recsOf p).map (·.name) ++ ((litsOf p).map (·.1) ++ (clssOf p loose).map (·.name)))) mean mg mb (butFor h 213) := by
  have k : ∀ b o, b ≠ 213 → h.get? b = some o → (butFor h 213).get? b = some o := fun b o hb e => by rw [butFor_ne hb]; exact e
  have kn : ∀ a m, a ≠ 213 → h.Ns a m → (butFor h 213).Ns a m := fun a m ha hn => hn.at' fun o e => k _ _ ha e
  refine ⟨kn _ _ (by decide) T.g, kn _ _ (by decide) T.b, ?_, ?_, fun d hd => (by cases hd), fun o ho => (by cases ho), fun x d e => (by cases e), fun x a b c d' e => ?_, T.builtins, fun d hd => (by cases hd), ?_, fun h => (by cases h)⟩
  · obtain ⟨mc, a, b⟩ := T.nolimit
    exact ⟨mc, kn _ _ (by decide) a, b⟩
  · obtain ⟨mc, a, b⟩ := T.nodigits
    exact ⟨mc, kn _ _ (by decide) a, b⟩
  · simp only [List.mem_append, not_or] at b
    exact T.free x a b.1 b.2.1 b.2.2.1 b.2.2.2
  · obtain ⟨bm, ob, e1, e2, e3, e4, e5, e6⟩ := T.bmain
    refine ⟨bm, ob, e1, e2, k _ _ (fun q => ?_) e3, e4, e5, e6⟩
    subst q
    rw [h213] at e3
    cases e3
    rw [hc] at e4
    cases e4
theorem in_but {K : Frag} {h : Heap} (X : K.In h) (hK : ∀ p ∈ K, p.1 ≠ 213) : K.In (butFor h 213) := fun b o e => by
  rw [butFor_ne (hK _ (lookup_memK e))]
  exact X b o e
/-- what the law stands on behind cmp_to_key -/
structure Based (w : World) (h1 B h : Heap) (C : Frag) (o213 : Obj) (m : Str → Option Value) (cells : List (Addr × Obj)) : Prop where
  fr : Fr B 281 h m
  news : News B 281 h (cells ++ (213, o213) :: C)
  kx : (KK w.params).In B
  old : ∀ h', (∀ b o, B.get? b = some o → h'.get? b = some o) → h'.get? 213 = some o213 → OldK h1 h'
theorem based {w : World} {h1 h2 h3 : Heap} {C : Frag} {m : Str → Option Value} {cells : List (Addr × Obj)} {o213 : Obj} (F : Fr h1 281 h2 m) (N : News h1 281 h2 cells) (hs : h1.objs.size = 281) (KX : (KK w.params).In h1) (E : CtkEnd h2 h3 w.params C) (h213 : h1.get? 213 = some o213) (hct : isCodeTable h1 213) :
    ∃ o', Based w h1 (butFor h1 213) h3 C o' m cells := by
  obtain ⟨o', ho'⟩ := E.old.there 213 o213 (F.keep _ _ h213)
  have kp : ∀ b o, (butFor h1 213).get? b = some o → b ≠ 213 ∧ h1.get? b = some o := fun b o e => by
    by_cases hb : b = 213
    · subst hb; rw [butFor_none] at e; cases e
    · rw [butFor_ne hb] at e; exact ⟨hb, e⟩
  have nn : ∀ b, h1.get? b = none → (butFor h1 213).get? b = none := fun b e => by
    cases q : (butFor h1 213).get? b with
    | none => rfl
    | some o => rw [(kp b o q).2] at e; cases e
  refine ⟨o', ⟨F.ns.at' fun o e => E.keep _ _ (by decide) e, fun b o e => E.keep b o (kp b o e).1 (F.keep b o (kp b o e).2), by rw [butFor_size, hs]; exact Nat.le_refl _⟩, fun q hq => ?_, in_but KX fun p hp => (kk_mem hp).2, fun h' k e => ?_⟩
  · rcases List.mem_append.mp hq with hq | hq
    · obtain ⟨a, b, c⟩ := N q hq
      refine ⟨E.keep _ _ (fun e => ?_) a, b, nn _ c⟩
      rw [e, h213] at c; cases c
    · rcases List.mem_cons.mp hq with rfl | hq
      · exact ⟨ho', (by show (213 : Nat) ≠ 281; decide), butFor_none ..⟩
      · obtain ⟨a, b⟩ := E.mem q hq
        have b' : (288 : Nat) ≤ (q.1 : Nat) := b
        refine ⟨a, fun e => ?_, nn _ ?_⟩
        · rw [e] at b'; exact absurd b' (by decide)
        cases q' : h1.get? q.1 with
        | none => rfl
        | some o =>
          have := Heap.lt_size q'
          rw [hs] at this
          exact absurd (Nat.lt_of_le_of_lt b' this) (by decide)
  · have main : ∀ b o, h1.get? b = some o → b ≠ 213 → h'.get? b = some o := fun b o e' hb => k b o (by rw [butFor_ne hb]; exact e')
    refine ⟨fun b o e' => ?_, fun b o e' => ?_⟩
    · by_cases hb : b = 213
      · subst hb
        rcases E.old.old 213 o (F.keep _ _ e') with q | ⟨_, q1, vs, more, q2, q3⟩ | ⟨q, _⟩
        · left; rw [e, ← ho', q]
        · exact .inr (.inl ⟨hct, q1, vs, more, q2, by rw [e, ← ho', q3]⟩)
        · cases q
      · exact .inl (main b o e' hb)
    · by_cases hb : b = 213
      · subst hb; exact ⟨_, e⟩
      · exact ⟨o, main b o e' hb⟩
/-- the class's objects stand above the law's frame and cells -/
structure Far (C : Frag) : Prop where
  far : ∀ p ∈ C, 288 ≤ p.1
theorem far_ne {C : Frag} {d : Addr} (h : Far C) (hd : d < 288) : ∀ p ∈ C, p.1 ≠ d := fun p hp => Nat.ne_of_gt (Nat.lt_of_lt_of_le hd (h.far p hp))
theorem allLt_ne : ∀ {C : List (Addr × Obj)} {d : Addr}, AllLt d C → ∀ p ∈ C, p.1 ≠ d
  | [], _, _, _, h => by cases h
  | q :: C, d, h, p, hp => by
    rcases List.mem_cons.mp hp with rfl | hp
    · exact Nat.ne_of_lt h.1
    · exact allLt_ne h.2 p hp
local macro_rules | `(tactic| k_all) => `(tactic| (refine' far_ne ?ka ?kb; (case ka => assumption); (case kb => decide)))
local macro_rules | `(tactic| k_all) => `(tactic| (refine' allLt_ne ?ka; (case ka => assumption)))
local macro_rules | `(tactic| k_all) => `(tactic| assumption)
theorem sum_any {w : World} {A : Around} {s : Shared} {Q E : Value → Shared → Prop} {h₀ : Heap} {L l : Addr} {m : Str → Option Value} {news : List (Addr × Obj)} {xs : List Value} {ns : List Int} (hh : A.handled = none) (F : Fr h₀ L s.heap m) (N : News h₀ L s.heap news) (hl : s.heap.IsList l xs.toArray) (hi : IntsAre xs ns)
    (h : ∀ c t h' tk, Fr h₀ L h' m → News h₀ L h' news → Q (.int c t) { s with heap := h', toks := tk }) : wpAny (model pw w) A (call (.builtin "sum") [.ref l]) Q E s := by
  obtain ⟨ys, hy⟩ := hi.allInts.items
  rw [hy] at hl
  exact sum_intListG hh hl fun h' tk t' k => h _ _ h' tk (stays_fr F k) (stays_news N k)
/-- an int as a value -/
noncomputable abbrev elI (x : Int) (t : Tok) : Value := .int x t
theorem cons_ne {d a : Addr} {o : Obj} {l : List (Addr × Obj)} (h : a ≠ d) (hl : ∀ q ∈ l, q.1 ≠ d) : ∀ q ∈ (a, o) :: l, q.1 ≠ d := fun q hq => by
  rcases List.mem_cons.mp hq with rfl | hq
  · exact h
  · exact hl q hq
theorem cells_ne {d : Addr} {o1 o2 o3 o4 o5 o6 o7 : Obj} {R : List (Addr × Obj)} (hd : 287 < d) (hR : ∀ q ∈ R, q.1 ≠ d) : ∀ q ∈ (287, o1) :: (286, o2) :: (285, o3) :: (284, o4) :: (283, o5) :: (282, o6) :: (213, o7) :: R, q.1 ≠ d := by
  have g : ∀ a : Nat, a ≤ 287 → a ≠ d := fun a ha e => by
    have hd' : (287 : Nat) < d := hd
    omega
  exact cons_ne (g _ (by decide)) (cons_ne (g _ (by decide)) (cons_ne (g _ (by decide)) (cons_ne (g _ (by decide)) (cons_ne (g _ (by decide)) (cons_ne (g _ (by decide)) (cons_ne (g _ (by decide)) hR))))))
theorem wd_len2 : ∀ {w : List Str}, Wd w → (w.map (·.length)).sum ≤ 2 * w.length
  | [], _ => Nat.le_refl _
  | x :: w, h => by
    have h1 : x.length ≤ 2 := by rcases h x (.head _) with rfl | rfl <;> decide
    have h2 := wd_len2 (w := w) fun m hm => h m (.tail _ hm)
    rw [List.map_cons, List.sum_cons, List.length_cons]
    omega
theorem join_small {w : List Str} (h : Wd w) (h5 : w.length ≤ 5) : ((w.map (·.length)).sum + w.length * (Str.ofString "/").length ≤ 16777216) ∧ (Txt.join (Str.ofString "/") w).length ≤ 20000 := by
  have h1 := wd_len2 h
  have h2 := StrLaws.join_length_le (Str.ofString "/") w
  have h3 : (Txt.join (Str.ofString "/") w).length = (Str.join (Str.ofString "/") w).length := by unfold Txt.join; rw [StrLaws.glued_eq_join]
  rw [len_sl] at *
  omega
theorem joinN_k {w : World} {A : Around} {s : Shared} {Q E : Value → Shared → Prop} {nl : Addr} {ms : List (Str × Tok)} {k : Nat} {t : Tok} {wd : List Str} {jn : Str} (hl : s.heap.get? nl = some (listOf (sv ms).toArray k)) (hm : ms.map (·.1) = wd) (hw : Wd wd) (h5 : wd.length ≤ 5) (hj : Txt.join sl wd = jn)
    (h : ∀ t' tk, Q (.str jn t') { s with toks := tk }) : wpAny (model pw w) A (call (.builtin "str.join") [.str ⟨⟨[47]⟩⟩ t, .ref nl]) Q E s := by
  subst hj hm
  rw [raw_sl]
  exact join_list (ys := ms.map (·.1)) ⟨_, hl, rfl, _, rfl⟩ (by rw [List.toList_toArray]; exact strs_are ms) (join_small hw h5).1 h
/-- one side more -/
theorem side_more {us : List (Int × Tok)} {ms : List (Str × Tok)} {wd : List Str} {j : Nat} {z : Str × Tok} {a : Int} {t : Tok} (h : us.map (·.1) = (wd.take j).map (fun n => if n = na then (0 : Int) else 2) ∧ ms[j]? = some z) (hm : ms.map (·.1) = wd) (ha : (if z.1 = na then (0 : Int) else 2) = a) :
    (us ++ [(a, t)]).map (·.1) = (wd.take (j + 1)).map (fun n => if n = na then (0 : Int) else 2) := by
  have hw : wd[j]? = some z.1 := by rw [← hm, List.getElem?_map, h.2]; rfl
  rw [List.map_append, h.1, List.take_add_one, hw]
  simp [ha]
theorem vl_push (us : List (Int × Tok)) (a : Int) (t : Tok) : vl elI us ++ [.int a t] = vl elI (us ++ [(a, t)]) := by simp [vl]
theorem root_ne {x : Str} (h : (rootPy x).2.1 = sl) : x.length ≠ 0 := fun e => by
  have : x = nil0 := str_nil (by rw [e]; rfl)
  rw [this] at h
  exact absurd h (by decide +kernel)
/-- the lists of the places' sides -/
noncomputable abbrev SD := List (Addr × List (Int × Tok) × Nat)
noncomputable def objsS (sd : SD) : List (Addr × Obj) := sd.map fun q => (q.1, listOf (vl elI q.2.1).toArray q.2.2)
noncomputable def refsS (sd : SD) : List Value := sd.map fun q => .ref q.1
/-- what stands after some of the four places -/
structure PSt (C : Frag) (cells : List (Addr × Obj)) (Dp Ds : Addr) (ws : List (List Str)) (m : Str → Option Value) (nx : List (Addr × Obj)) (ts : List (Str × Tok)) (sd : SD) (e e' : Nat) : Prop where
  wd : ∀ w ∈ ws, Word w
  htx : ts.map (·.1) = ws.map placeW
  hsx : sd.map (fun q => q.2.1.map (·.1)) = ws.map sideW
  script : m (Str.ofString "script") = some (.ref 280)
  sides : m (Str.ofString "sides") = some (.ref Ds)
  hnx : nx = (Dp, listOf (sv ts).toArray e) :: (Ds, listOf (refsS sd).toArray e') :: (cells ++ (objsS sd ++ C))
  ap : ∀ q ∈ objsS sd ++ C, q.1 ≠ Dp ∧ q.1 ≠ Ds ∧ 288 ≤ q.1
theorem Far.offs {R : Frag} (h : Far R) : Off R := ⟨fun p hp a _ h2 e => by have := h.far p hp; rw [e] at this; exact absurd (Nat.le_trans this h2) (by decide)⟩
local macro_rules | `(tactic| k_all) => `(tactic| (refine' off_ne ?ka ?kb; (case ka => assumption); (case kb => decide)))


section
open PySem PySem.W PySem.W.X PyProof.Rows PySem.Calls
theorem lcmp_eqI : ∀ (x y : List Int), lcmp intC .Eq x y = true → x = y
  | [], [], _ => rfl
  | [], _ :: _, h => by cases h
  | _ :: _, [], h => by cases h
  | a :: x, b :: y, h => by
    rw [lcmp_cons] at h
    by_cases e : a = b
    · rw [if_pos e] at h; rw [e, lcmp_eqI x y h]
    · rw [if_neg e] at h; cases h
theorem sideW_inj : ∀ {w v : List Str}, Wd w → Wd v → sideW w = sideW v → w = v := by
  intro w v hw hv h
  have h' := List.append_cancel_right h
  clear h
  induction w generalizing v with
  | nil => cases v with
    | nil => rfl
    | cons b v => cases h'
  | cons a w ih => cases v with
    | nil => cases h'
    | cons b v =>
      rw [List.map_cons, List.map_cons] at h'
      have h1 := (List.cons.inj h').1
      have h2 := ih (fun m hm => hw m (.tail _ hm)) (fun m hm => hv m (.tail _ hm)) (List.cons.inj h').2
      rcases hw a (.head _) with rfl | rfl <;> rcases hv b (.head _) with rfl | rfl <;> first | exact congrArg _ h2 | exact absurd h1 (by decide)
theorem ops_pair {w v : List Str} (hw : Word w) (hv : Word v) {op : CmpOp} (ho : op ∈ six) : opB op (crossW w v) 0 = lcmp intC op (sideW w) (sideW v) := by
  have h := all_pairs hw.mem hv.mem
  unfold pairOk at h
  rw [Bool.and_eq_true] at h
  exact eq_of_beq (List.all_eq_true.mp h.1 op ho)
theorem same_place {w v : List Str} (hw : Word w) (hv : Word v) : opB .Eq (crossW w v) 0 = decide (placeW w = placeW v) := by
  by_cases e : placeW w = placeW v
  · rw [decide_eq_true e, place_inj hw.wd hv.wd e]
    unfold crossW
    rw [Int.sub_self]; rfl
  · rw [decide_eq_false e]
    cases q : opB .Eq (crossW w v) 0 with
    | false => rfl
    | true =>
      rw [ops_pair hw hv (by decide)] at q
      exact absurd (by rw [sideW_inj hw.wd hv.wd (lcmp_eqI _ _ q)]) e
/-- what stands when the keys are made -/
structure All4 (ws : List (List Str)) (ts : List (Str × Tok)) (sd : SD) (prs : PR) (kl : KL) : Prop where
  n : ws.length = 4
  wd : ∀ w ∈ ws, Word w
  ht : ts.map (·.1) = ws.map placeW
  hs : sd.map (fun q => q.2.1.map (·.1)) = ws.map sideW
  hv : prs.map (fun q => q.2.1) = ws.map vw
  hk : kl.map (fun k => (k.1.a, k.1.n, k.1.d)) = prs.map (fun q => (q.1, q.2.1.1, q.2.1.2))
theorem at_map {α β γ : Type} {l : List α} {r : List γ} {f : α → β} {g : γ → β} {i : Nat} {a : α} (h : r.map g = l.map f) (ha : l[i]? = some a) : ∃ c, r[i]? = some c ∧ g c = f a := by
  have := congrArg (fun l : List β => l[i]?) h
  rw [List.getElem?_map, List.getElem?_map, ha] at this
  cases q : r[i]? with
  | none => rw [q] at this; cases this
  | some c => rw [q] at this; exact ⟨c, rfl, Option.some.inj this⟩
/-- one of the four -/
structure At4 (ws : List (List Str)) (ts : List (Str × Tok)) (sd : SD) (prs : PR) (kl : KL) (i : Nat) (w : List Str) (t : Str × Tok) (s : Addr × List (Int × Tok) × Nat) (q : Addr × (Int × Int) × Tok × Tok) (k : KeyD × Addr) : Prop where
  hw : ws[i]? = some w
  ht : ts[i]? = some t
  hs : sd[i]? = some s
  hq : prs[i]? = some q
  hk : kl[i]? = some k
  word : Word w
  et : t.1 = placeW w
  es : s.2.1.map (·.1) = sideW w
  eq : q.2.1 = vw w
  ea : k.1.a = q.1
  ek : (k.1.n, k.1.d) = vw w
theorem All4.at {ws : List (List Str)} {ts : List (Str × Tok)} {sd : SD} {prs : PR} {kl : KL} (A : All4 ws ts sd prs kl) {i : Nat} (hi : i < 4) : ∃ w t s q k, At4 ws ts sd prs kl i w t s q k := by
  obtain ⟨w, hw⟩ : ∃ w, ws[i]? = some w := ⟨_, List.getElem?_eq_getElem (by rw [A.n]; exact hi)⟩
  obtain ⟨t, t1, t2⟩ := at_map A.ht hw
  obtain ⟨s, s1, s2⟩ := at_map A.hs hw
  obtain ⟨q, q1, q2⟩ := at_map A.hv hw
  obtain ⟨k, k1, k2⟩ := at_map A.hk q1
  have k3 := Prod.mk.inj k2
  exact ⟨w, t, s, q, k, hw, t1, s1, q1, k1, A.wd w (List.mem_of_getElem? hw), t2, s2, q2, k3.1, k3.2.trans q2⟩
theorem All4.len {ws : List (List Str)} {ts : List (Str × Tok)} {sd : SD} {prs : PR} {kl : KL} (A : All4 ws ts sd prs kl) : ts.length = 4 ∧ sd.length = 4 ∧ prs.length = 4 ∧ kl.length = 4 := by
  have h1 := congrArg List.length A.ht
  have h2 := congrArg List.length A.hs
  have h3 := congrArg List.length A.hv
  have h4 := congrArg List.length A.hk
  simp only [List.length_map, A.n] at h1 h2 h3 h4
  exact ⟨h1, h2, h3, h4.trans h3⟩
theorem vw_small {w : List Str} (h : Word w) : (0 < (vw w).1 ∧ (vw w).1 < 100) ∧ (0 < (vw w).2 ∧ (vw w).2 < 100) := by
  have := small_all h.mem
  simp only [smallOk, Bool.and_eq_true, decide_eq_true_eq] at this
  exact ⟨⟨this.1.1.1.1, this.1.1.1.2⟩, ⟨this.1.1.2, this.1.2⟩⟩
theorem pair_at {h : Heap} {w : List Str} {q : Addr × (Int × Int) × Tok × Tok} (hw : Word w) (e : q.2.1 = vw w) (hq : h.get? q.1 = some (tupO q.2.1.1 q.2.1.2 q.2.2.1 q.2.2.2)) : PairO h q.1 (vw w).1 (vw w).2 := by
  rw [e] at hq
  obtain ⟨⟨a, b⟩, ⟨c, d⟩⟩ := vw_small hw
  exact ⟨⟨_, _, hq⟩, ⟨Int.le_of_lt a, b⟩, ⟨Int.le_of_lt c, d⟩⟩
theorem At4.keyOk {ws : List (List Str)} {ts : List (Str × Tok)} {sd : SD} {prs : PR} {kl : KL} {i : Nat} {w : List Str} {t : Str × Tok} {s : Addr × List (Int × Tok) × Nat} {q : Addr × (Int × Int) × Tok × Tok} {k : KeyD × Addr} (A : At4 ws ts sd prs kl i w t s q k) {h : Heap}
    (hV : ∀ p ∈ objsV prs, h.get? p.1 = some p.2) (hK : ∀ p ∈ objsK kl, h.get? p.1 = some p.2) : KeyOk h k.1 := by
  obtain ⟨a, b⟩ := objsK_at (List.mem_of_getElem? A.hk)
  refine ⟨⟨⟨k.2, hK _ a, hK _ b⟩⟩, ?_⟩
  have h1 := pair_at A.word A.eq (hV (q.1, _) (List.mem_map.mpr ⟨q, List.mem_of_getElem? A.hq, rfl⟩))
  have e := Prod.mk.inj A.ek
  rw [A.ea, e.1, e.2]
  exact h1
theorem All4.keysOk {ws : List (List Str)} {ts : List (Str × Tok)} {sd : SD} {prs : PR} {kl : KL} (A : All4 ws ts sd prs kl) {h : Heap}
    (hV : ∀ p ∈ objsV prs, h.get? p.1 = some p.2) (hK : ∀ p ∈ objsK kl, h.get? p.1 = some p.2) : ∀ k ∈ kl.map (·.1), KeyOk h k := fun k hk => by
  obtain ⟨k', hk', rfl⟩ := List.mem_map.mp hk
  obtain ⟨i, hi⟩ := List.getElem?_of_mem hk'
  have hlt : i < 4 := by
    have := (List.getElem?_eq_some_iff.mp hi).1
    rw [A.len.2.2.2] at this; exact this
  obtain ⟨w, t, s, q, k2, B⟩ := A.at hlt
  have := B.hk
  rw [hi] at this
  cases this
  exact B.keyOk hV hK
theorem countIn_str (x : Str) : ∀ l : List Str, PySem.Spec.countIn (.str x) (l.map PyData.str) = ((l.countP (fun y => decide (y = x)) : Nat) : Int)
  | [] => rfl
  | y :: l => by
    rw [List.map_cons, PySem.Spec.countIn, countIn_str x l, List.countP_cons]
    simp only [PySem.Spec.same]
    by_cases h : y = x
    · subst h; simp; omega
    · simp [h]
theorem All4.count {ws : List (List Str)} {ts : List (Str × Tok)} {sd : SD} {prs : PR} {kl : KL} (A : All4 ws ts sd prs kl) {i : Nat} {w : List Str} {t : Str × Tok} {s : Addr × List (Int × Tok) × Nat} {q : Addr × (Int × Int) × Tok × Tok} {k : KeyD × Addr} (B : At4 ws ts sd prs kl i w t s q k) :
    countK k.1 (kl.map (·.1)) = PySem.Spec.countIn (.str t.1) ((ts.map (·.1)).map PyData.str) := by
  have e1 : (kl.map (fun k => (k.1.n, k.1.d))) = ws.map vw := by
    have := congrArg (List.map Prod.snd) A.hk
    rw [List.map_map, List.map_map] at this
    exact this.trans A.hv
  have ek := Prod.mk.inj B.ek
  have h1 : (kl.map (·.1)).countP (sameKey k.1) = (kl.map (fun k => (k.1.n, k.1.d))).countP (fun z => opB .Eq (z.1 * (vw w).2 - (vw w).1 * z.2) 0) := by
    rw [List.countP_map, List.countP_map]
    refine List.countP_congr fun x _ => ?_
    simp only [Function.comp, sameKey, KeyD.cross, ek.1, ek.2]
    exact Iff.rfl
  unfold countK
  rw [countIn_str, h1, e1, B.et, A.ht, List.countP_map, List.countP_map]
  congr 1
  refine List.countP_congr fun x hx => ?_
  have := same_place (A.wd x hx) B.word
  simp only [Function.comp]
  show opB .Eq (crossW x w) 0 = true ↔ _
  rw [this]
section
variable {w : World} {A : Around} {s : Shared} {Q : Value → Shared → Prop} {E : Value → Shared → Prop} {h₀ : Heap} {L : Addr} {m : Str → Option Value} {news : List (Addr × Obj)} {p : Program} {loose : List Str} {mean : ExcName → Option Value} {mg mb : Str → Option Value}
/-- two sides compared -/
theorem sides_cmp {op : CmpOp} {code : Int} {x y : List (Int × Tok)} {a b : Addr} {n m : Nat} {r : Bool} (ho : op ∈ six) (hop : OpCode op code) (hu : A.units < cLine) (ha : s.heap.get? a = some (listOf (vl elI x).toArray n)) (hb : s.heap.get? b = some (listOf (vl elI y).toArray m))
    (hr : lcmp intC op (x.map (·.1)) (y.map (·.1)) = r) (h : Q (.bool r) s) : wpAny (model pw w) A (compareOp op (.ref a) (.ref b)) Q E s := by
  subst hr
  simp only [six, List.mem_cons, List.not_mem_nil, or_false] at ho
  rcases ho with rfl | rfl | rfl | rfl | rfl | rfl <;> unfold compareOp <;> exact list_cmp cmpK_int hop ha hb hu h
end

end
section
open PySem PySem.W PySem.W.X PyProof.Rows PySem.Calls
section
variable {w : World} {A : Around} {s : Shared} {Q : Value → Shared → Prop} {E : Value → Shared → Prop} {h₀ : Heap} {L : Addr} {m : Str → Option Value} {news : List (Addr × Obj)} {p : Program} {loose : List Str} {mean : ExcName → Option Value} {mg mb : Str → Option Value}
theorem refsK_eq (kl : KL) : refsK kl = (kl.map (·.1)).map (fun k => Value.ref k.x) := by simp [refsK]
/-- countOf(keys, keys[i]) -/
theorem countOf_k {K : Frag} (R : Rm A 80) (F : Fr h₀ L s.heap m) (N : News h₀ L s.heap news) (Y : KProps K) (X : K.In s.heap) (KX : (Mine.KK w.params).In h₀) (T : Top p loose mean mg mb h₀)
    {ws : List (List Str)} {ts : List (Str × Tok)} {sd : SD} {prs : PR} {kl : KL} (A4 : All4 ws ts sd prs kl) {i : Nat} {wi : List Str} {t : Str × Tok} {si : Addr × List (Int × Tok) × Nat} {q : Addr × (Int × Int) × Tok × Tok} {k : KeyD × Addr} (B : At4 ws ts sd prs kl i wi t si q k)
    (hV : ∀ p ∈ objsV prs, s.heap.get? p.1 = some p.2) (hK : ∀ p ∈ objsK kl, s.heap.get? p.1 = some p.2) {l : Addr} {e : Nat} (hl : s.heap.get? l = some (listOf (refsK kl).toArray e)) {c : Int} (hc : countK k.1 (kl.map (·.1)) = c)
    (h : ∀ u h' tk, Fr h₀ L h' m → News h₀ L h' news → Q (.int c u) { s with heap := h', toks := tk }) : wpAny (model pw w) A (call (.ref 211) [.ref l, .ref k.1.x]) Q E s := by
  subst hc
  rw [refsK_eq] at hl
  refine ans_k R F N (countOf_c w Y X (KX.keeps F.keep) (T.keeps F.keep) l e (kl.map (·.1)) k.1 hl (by rw [List.length_map, A4.len.2.2.2]; exact Nat.le_refl _) (A4.keysOk hV hK) (B.keyOk hV hK)) ?_
  rintro r h' tk ⟨u, rfl⟩ _ F' N'
  exact h u h' tk F' N'
/-- places.count(text) -/
theorem count_k {ts : List (Str × Tok)} {l : Addr} {e : Nat} {x : Str} {t : Tok} {c : Int} (hl : s.heap.get? l = some (listOf (sv ts).toArray e)) (hc : c = PySem.Spec.countIn (.str x) ((ts.map (·.1)).map PyData.str)) (h : ∀ u tk, Q (.int c u) { s with toks := tk }) :
    wpAny (model pw w) A (call (.builtin "list.count") [.ref l, .str x t]) Q E s := by
  subst hc
  exact count_list_strs ⟨_, hl, rfl, _, rfl⟩ (strs_are ts) (h _ _)
theorem ne_same_int {c : Int} {t u : Tok} (h : Q (.bool false) s) : wpAny (model pw w) A (compareOp .NotEq (.int c t) (.int c u)) Q E s := by
  have e : (c != c) = false := by simp
  rw [← e] at h
  exact PySem.P.ne_int h
theorem isnot_same {b : Bool} (h : Q (.bool false) s) : wpAny (model pw w) A (compareOp .IsNot (.bool b) (.bool b)) Q E s := wpAny_isNot_self (by cases b <;> rfl) h
/-- the six answers -/
noncomputable def boolsO (f : CmpOp → Bool) : Obj := listOf #[.bool (f .Lt), .bool (f .LtE), .bool (f .Eq), .bool (f .NotEq), .bool (f .GtE), .bool (f .Gt)] 0
theorem bools_at (f : CmpOp → Bool) {j : Nat} (hj : j < 6) : ∃ b, (#[.bool (f .Lt), .bool (f .LtE), .bool (f .Eq), .bool (f .NotEq), .bool (f .GtE), .bool (f .Gt)] : Array Value)[(j : Int).toNat]? = some (.bool b) := by
  have : j = 0 ∨ j = 1 ∨ j = 2 ∨ j = 3 ∨ j = 4 ∨ j = 5 := by omega
  rcases this with rfl | rfl | rfl | rfl | rfl | rfl <;> exact ⟨_, rfl⟩
theorem range_size (i : Nat) : Builtin.Range.rangeSize 0 ((i : Int) + 1) 1 = ((i + 1 : Nat) : Int) := by
  unfold Builtin.Range.rangeSize
  rw [if_pos (by decide), if_pos (by omega)]
  omega
theorem range_small {i : Nat} (hi : i < 4) : Builtin.Range.small 0 ((i : Int) + 1) 1 = true := by
  have : i = 0 ∨ i = 1 ∨ i = 2 ∨ i = 3 := by omega
  rcases this with rfl | rfl | rfl | rfl <;> decide
/-- one of the six comparings -/
theorem told_k {f : Addr} {op : CmpOp} {ki kj : KeyD} {b : Bool} (R : Rm A 80) (F : Fr h₀ L s.heap m) (N : News h₀ L s.heap news) (Ki : KeyOk s.heap ki) (Kj : KeyOk s.heap kj) (c : Call w 80 (.ref f) [.ref ki.x, .ref kj.x] (fun _ r => r = .bool (opB op (ki.n * kj.d - kj.n * ki.d) 0)) s)
    (hr : opB op (ki.n * kj.d - kj.n * ki.d) 0 = b) (h : ∀ h' tk, Fr h₀ L h' m → News h₀ L h' news → KeyOk h' ki → KeyOk h' kj → Q (.bool b) { s with heap := h', toks := tk }) : wpAny (model pw w) A (call (.ref f) [.ref ki.x, .ref kj.x]) Q E s := by
  subst hr
  refine ans_k R F N c ?_
  rintro _ h' tk rfl st F' N'
  exact h h' tk F' N' (Ki.stays st) (Kj.stays st)
end

end
section
open PySem PySem.W PySem.W.X PyProof.Rows PySem.Calls
/-- a for whose name is a cell: the turn stores it -/
inductive ForAtCS (prog : Program) (w : World) (A : Around) (h₀ : Heap) (env : Env) (x : Str) (body : List Stmt) (Q : Flow → Shared → Prop) (it : Value) (s : Shared)
    (I : Addr) (fp : List Addr) (n : Nat) (P : Nat → Value → Prop) (St : Nat → Heap → Prop) (m : Str → Option Value) (nx : List (Addr × Obj)) (J : Nat → (Str → Option Value) → List (Addr × Obj) → Prop) : Prop where
  | mk (it : it = .ref I) (W : Walks prog w A I fp [I] n P St) (hL : env.locals ∉ fp) (h0I : h₀.get? I = none) (hI : ∀ i h, St i h → ∃ o, h.get? I = some o) (hf : ∀ b ∈ fp, b = I) (st : St 0 s.heap) (F : Fr h₀ env.locals s.heap m) (N : News h₀ env.locals s.heap nx) (hn : ∀ p ∈ nx, p.1 ≠ I) (j0 : J 0 m nx) (turn : ∀ i v m₁ nx₁ h tk io, s.toks ≤ tk → i < n → P i v → J i m₁ nx₁ → (∀ p ∈ nx₁, p.1 ≠ I) → Fr h₀ env.locals h m₁ → News h₀ env.locals h ((I, io) :: nx₁) → wpAny (model prog w) A (storeName env x v) (fun _ s₃ => wpAny (model prog w) A (execs body env) (TurnEnd h₀ env.locals (J (i + 1)) I io s Q) Nope s₃) Nope { s with heap := h, toks := tk }) (done : ∀ h tk m₁ nx₁, s.toks ≤ tk → Fr h₀ env.locals h m₁ → News h₀ env.locals h nx₁ → (∀ p ∈ nx₁, p.1 ≠ I) → J n m₁ nx₁ → Q .next { s with heap := h, toks := tk })
noncomputable def ForAtC (prog : Program) (w : World) (A : Around) (h₀ : Heap) (env : Env) (x : Str) (body : List Stmt) (Q : Flow → Shared → Prop) (it : Value) (s : Shared) : Prop :=
  ∃ (I : Addr) (fp : List Addr) (n : Nat) (P : Nat → Value → Prop) (St : Nat → Heap → Prop) (m : Str → Option Value) (nx : List (Addr × Obj)) (J : Nat → (Str → Option Value) → List (Addr × Obj) → Prop), ForAtCS prog w A h₀ env x body Q it s I fp n P St m nx J
section
variable {prog : Program} {w : World} {A : Around} {s : Shared} {env : Env} {h₀ : Heap} {x : Str} {body : List Stmt} {Q : Flow → Shared → Prop}
theorem for_ownC {px pos : Pos} {iter : Expr} {m : Str → Option Value} (_F : Fr h₀ env.locals s.heap m) (_hx : env.kindOf x = some .cell)
    (h : wpAny (model prog w) A (eval iter env) (fun xv s₁ => wpAny (model prog w) A (pyIter xv) (fun it s₂ => ForAtC prog w A h₀ env x body Q it s₂) Nope s₁) Nope s)
    (hs : ∀ x, foldedSetIterable iter env x = pure x := by intro _; rfl) :
    wpAny (model prog w) A (exec (.For (.Name x px) iter body [] pos) env) Q Nope s := by
  refine wpAny_For (wpAny_mono h (fun xv s₁ h₁ => wpAny_mono h₁ (fun it s₂ h₂ => ?_) fun _ _ e => e) fun _ _ e => e) hs
  obtain ⟨I, fp, n, P, St, m, nx, J, rfl, W, hLf, hI0, hIh, hfp, hst, F, N, hnx, h0, turn, done⟩ := h₂
  have hLI : env.locals ≠ I := fun q => hLf (by rw [q]; exact W.sub _ (.head _))
  refine codeAny_forLoop
    (fun k s' => ∃ h' tk m' nx' i, ForSt h₀ env.locals s₂ I n St J k s' h' tk m' nx' i) ?_ (n + 1)
    ⟨s₂.heap, s₂.toks, m, nx, 0, rfl, Nat.le_refl _, hst, F, N, hnx, h0, Nat.zero_le _, rfl⟩
  rintro k s' ⟨h', tk, m', nx', i, rfl, htk, hst', F', N', hnx', hJ, hi, rfl⟩
  have next : ∀ h₁ : Heap, (∀ b o, b ∉ [I] → h'.get? b = some o → h₁.get? b = some o) → Fr h₀ env.locals h₁ m' ∧ News h₀ env.locals h₁ nx' := fun h₁ hk₁ =>
    ⟨⟨F'.ns.at' fun o e => hk₁ _ o (by simpa using hLI) e, fun b o e => hk₁ b o (fun hb => by rw [List.mem_singleton.mp hb, hI0] at e; cases e) (F'.keep b o e), F'.above⟩,
      fun p hp => ⟨hk₁ _ _ (by simpa using hnx' p hp) (N' p hp).1, (N' p hp).2⟩⟩
  by_cases hlt : i < n
  · refine toks_up s₂.toks htk ?_
    refine W.item i _ _ _ hlt hst' fun v h₁ tk₁ hP hst₁ hk₁ => ?_
    intro htk₁
    obtain ⟨F₁, N₁⟩ := next h₁ hk₁
    obtain ⟨io, hio⟩ := hIh _ _ hst₁
    have N₂ : News h₀ env.locals h₁ ((I, io) :: nx') := fun p hp => by
      rcases List.mem_cons.mp hp with rfl | hp
      · exact ⟨hio, fun q => hLI q.symm, hI0⟩
      · exact N₁ p hp
    refine nope_noted (env := env) (wpAny_assign_Name ?_)
    refine toks_up s₂.toks (by exact htk₁) ?_
    refine wpAny_mono (turn i v m' nx' h₁ tk₁ io htk₁ hlt hP hJ hnx' F₁ N₂) (fun _ s₃ h₃ => ?_) fun _ _ e => e
    intro htk₂
    refine toks_up s₂.toks htk₂ ?_
    refine nope_noted (env := env) (wpAny_mono h₃ (fun f s₄ h₄ => ?_) fun _ _ e => e)
    intro htk₃
    have go : (∃ h' tk m' led nx, TurnAt h₀ env.locals (J (i + 1)) I io s₂.gens s₂.drawn s₂.os s₄ h' tk m' led nx) → ∃ m, m < n + 1 - i ∧ ∃ h' tk m' nx' i, ForSt h₀ env.locals s₂ I n St J m s₄ h' tk m' nx' i := by
      rintro ⟨h₃', tk₃, m₃, led, nx₃, rfl, F₃, N₃, hIl, hnl, hJ₃⟩
      refine ⟨n + 1 - (i + 1), by omega, h₃', tk₃, m₃, nx₃, i + 1, rfl, htk₃, ?_, F₃, fun p hp => N₃ p (hnl p hp).1, fun p hp => (hnl p hp).2, hJ₃, hlt, rfl⟩
      refine W.frame _ _ _ hst₁ fun b hb o e => ?_
      have hb' := hfp b hb
      subst hb'
      have : o = io := Option.some.inj (e.symm.trans hio)
      exact this ▸ (N₃ _ hIl).1
    cases f with
    | ret v => exact h₄
    | brk => exact h₄
    | cont => exact go h₄
    | next => exact go h₄
  · have hin : i = n := by omega
    subst hin
    refine toks_up s₂.toks htk ?_
    refine W.done _ _ _ hst' fun h₁ tk₁ hk₁ => ?_
    intro htk₁
    refine wpAny_execs_nil ?_
    obtain ⟨F₁, N₁⟩ := next h₁ hk₁
    exact done h₁ tk₁ m' nx' htk₁ F₁ N₁ hnx' hJ
theorem for_rangeC {r : Addr} {a c : Int} {b : Int} {t u v : Tok} {n : Nat} {m : Str → Option Value} {nx : List (Addr × Obj)} (J : Nat → (Str → Option Value) → List (Addr × Obj) → Prop)
    (hh : A.handled = none) (hr : IsRange s.heap r a b c t u v) (hsm : Builtin.Range.small a b c = true) (hn : Builtin.Range.rangeSize a b c = (n : Int)) (F : Fr h₀ env.locals s.heap m) (N : News h₀ env.locals s.heap nx) (h0 : J 0 m nx)
    (turn : ∀ I i v tv m₁ nx₁ h tk io, s.toks ≤ tk → i < n → v = .int (a + (i : Int) * c) tv → J i m₁ nx₁ → (∀ p ∈ nx₁, p.1 ≠ I) → Fr h₀ env.locals h m₁ → News h₀ env.locals h ((I, io) :: nx₁) →
      wpAny (model prog w) A (storeName env x v) (fun _ s₃ => wpAny (model prog w) A (execs body env) (TurnEnd h₀ env.locals (J (i + 1)) I io s Q) Nope s₃) Nope { s with heap := h, toks := tk })
    (done : ∀ h tk m₁ nx₁, s.toks ≤ tk → Fr h₀ env.locals h m₁ → News h₀ env.locals h nx₁ → J n m₁ nx₁ → Q .next { s with heap := h, toks := tk }) :
    wpAny (model prog w) A (pyIter (.ref r)) (fun it s₂ => ForAtC prog w A h₀ env x body Q it s₂) Nope s := by
  have fresh : ∀ {g : Heap} {a : Addr}, g.objs.size ≤ a → g.get? a = none := fun {g a} ha => by
    cases e : g.get? a with
    | none => rfl
    | some o' => exact absurd (Heap.lt_size e) (Nat.not_lt.mpr ha)
  refine wpAny_pyIter_range hr hsm ?_
  have W := Walks.range (prog := prog) (w := w) hh s.heap.objs.size a c n
  refine ⟨_, _, _, _, _, m, nx, J, rfl, W, ?_, fresh (Nat.le_of_lt (Nat.lt_of_le_of_lt F.above F.ns.lt)), ?_, ?_, (by show IsRangeIter _ _ _ _ _; rw [hn]; simpa using Heap.get?_push_size _ rfl), F.push _,
    (fun p hp => ⟨Heap.get?_push_of_some _ (N p hp).1, (N p hp).2⟩), (fun p hp => Nat.ne_of_lt (Heap.lt_size (N p hp).1)), h0, ?_, ?_⟩
  · intro hm
    exact absurd F.ns.lt (List.mem_singleton.mp hm ▸ Nat.lt_irrefl _)
  · intro i h ho
    exact ⟨_, ho⟩
  · intro b hb
    exact List.mem_singleton.mp hb
  · rintro i v m₁ nx₁ h tk io htk hi ⟨tv, hP⟩ hJ hoff F₁ N₁
    exact turn _ i v tv m₁ nx₁ h tk io htk hi hP hJ hoff F₁ N₁
  · intro h tk m₁ nx₁ htk F₁ N₁ _ hJ
    exact done h tk m₁ nx₁ htk F₁ N₁ hJ
end

end
section
open PySem PySem.W PySem.W.X PyProof.Rows PySem.Calls
noncomputable def bitN (m k : Nat) : Bool := decide (((m : Int) >>> k) % 2 ≠ 0)
/-- a name's side -/
noncomputable def sideN (n : Str) : Int := if n = na then 0 else 2
theorem sides_pre : ∀ {p w : List Str}, Wd p → Wd w → p.map sideN <+: w.map sideN ++ [1] → p <+: w
  | [], _, _, _, _ => List.nil_prefix
  | a :: p, [], hp, _, h => by
    obtain ⟨r, e⟩ := h
    have h1 := (List.cons.inj e).1
    rcases hp a (.head _) with rfl | rfl <;> exact absurd h1 (by decide)
  | a :: p, b :: w, hp, hw, h => by
    obtain ⟨r, e⟩ := h
    have h1 := (List.cons.inj e).1
    have h2 : p <+: w := sides_pre (fun m hm => hp m (.tail _ hm)) (fun m hm => hw m (.tail _ hm)) ⟨r, (List.cons.inj e).2⟩
    have h3 : a = b := by
      rcases hp a (.head _) with rfl | rfl <;> rcases hw b (.head _) with rfl | rfl <;> first | rfl | exact absurd h1 (by decide)
    subst h3
    obtain ⟨t, rfl⟩ := h2
    exact ⟨t, rfl⟩
theorem cpre_word {u v : List Str} (hu : Word u) : Word (cprePy u v) := hu.pre (cpre_pre u v).1
theorem lt_lex {w v : List Str} (hw : Word w) (hv : Word v) (h : ¬ crossW w v < 0) : lex intC (sideW w) (sideW v) = false := by
  have := ops_pair hw hv (op := .Lt) (by decide)
  exact this.symm.trans (decide_eq_false h)
/-- the greatest beginning of all is that of the least and the greatest -/
theorem lcp_ends {cw : List (List Str)} (hw : ∀ w ∈ cw, Word w) {wl wh : List Str} (hl : wl ∈ cw) (hh : wh ∈ cw) (low : ∀ w ∈ cw, ¬ crossW w wl < 0) (high : ∀ w ∈ cw, ¬ crossW wh w < 0) : IsLcp cw (cprePy wl wh) := by
  obtain ⟨c1, c2⟩ := cpre_pre wl wh
  have pr : ∀ {u : List Str}, cprePy wl wh <+: u → (cprePy wl wh).map sideN <+: sideW u := fun {u} h => by
    obtain ⟨r, e⟩ := h
    exact ⟨r.map sideN ++ [1], by rw [← List.append_assoc, ← List.map_append, e]; rfl⟩
  refine ⟨fun w h => ?_, fun q hq => cpre_max q _ _ (hq _ hl) (hq _ hh)⟩
  exact sides_pre (cpre_word (hw _ hl)).wd (hw w h).wd (lex_between totI _ _ _ _ (pr c1) (pr c2) (lt_lex (hw w h) (hw _ hl) (low w h)) (lt_lex (hw _ hh) (hw w h) (high w h)))
theorem low_names {wl wh : List Str} (hl : Word wl) (hh : Word wh) (h : ¬ crossW wh wl < 0) : namesF 64 (simpPy (vw wl).1 (vw wl).2 (vw wh).1 (vw wh).2).1 (simpPy (vw wl).1 (vw wl).2 (vw wh).1 (vw wh).2).2 = cprePy wl wh := by
  have := all_pairs hl.mem hh.mem
  unfold pairOk at this
  rw [Bool.and_eq_true, Bool.or_eq_true, decide_eq_true_eq, decide_eq_true_eq] at this
  exact this.2.resolve_left h
theorem lcp_one (w : List Str) : IsLcp [w] w := ⟨fun v hv => by rw [List.mem_singleton.mp hv]; exact List.prefix_refl _, fun q hq => hq w (.head _)⟩
theorem low_law {w0 : List Str} {cw : List (List Str)} (hw : ∀ w ∈ w0 :: cw, Word w) {wl wh : List Str} (hl : wl ∈ w0 :: cw) (hh : wh ∈ w0 :: cw) (low : ∀ w ∈ w0 :: cw, ¬ crossW w wl < 0) (high : ∀ w ∈ w0 :: cw, ¬ crossW wh w < 0) :
    commonPy ((w0 :: cw).map placeW) = placeW (cprePy wl wh) ∧ (cw.map placeW).foldl meetPy (placeW w0) = placeW (cprePy wl wh) := by
  have L := lcp_ends hw hl hh low high
  constructor
  · obtain ⟨p, h1, h2⟩ := common_words (ws := w0 :: cw) (by simp) fun w h => (hw w h).wd
    rw [h2, lcp_unique h1 L]
  · obtain ⟨q, h1, h2⟩ := meets_words cw (lcp_one w0) (hw _ (.head _)).wd fun v hv => (hw v (.tail _ hv)).wd
    rw [h2, lcp_unique h1 L]
section
variable {w : World} {A : Around} {s : Shared} {Q : Value → Shared → Prop} {E : Value → Shared → Prop} {h₀ : Heap} {L : Addr} {m : Str → Option Value} {news : List (Addr × Obj)} {p : Program} {loose : List Str} {mean : ExcName → Option Value} {mg mb : Str → Option Value}
/-- commonpath(places) -/
theorem common_k {l : Addr} {z0 : Str × Tok} {ts : List (Str × Tok)} {k : Nat} {cw : List (List Str)} {r : Str} (R : Rm A 170) (F : Fr h₀ L s.heap m) (N : News h₀ L s.heap news) (KX : (Mine.KK w.params).In h₀) (T : Top p loose mean mg mb h₀) (hl : s.heap.get? l = some (listOf (sv (z0 :: ts)).toArray k))
    (h4 : ts.length < 4) (hc : (z0 :: ts).map (·.1) = cw.map placeW) (hw : ∀ w ∈ cw, Word w) (hr : commonPy (cw.map placeW) = r) (h : ∀ t h' tk, Fr h₀ L h' m → News h₀ L h' news → Q (.str r t) { s with heap := h', toks := tk }) : wpAny (model pw w) A (call (.ref 141) [.ref l]) Q E s := by
  have hz : ∀ z ∈ z0 :: ts, ∃ w, Word w ∧ z.1 = placeW w := fun z hz => by
    have : z.1 ∈ cw.map placeW := by rw [← hc]; exact List.mem_map.mpr ⟨z, hz, rfl⟩
    obtain ⟨w, h1, h2⟩ := List.mem_map.mp this
    exact ⟨w, hw w h1, h2.symm⟩
  subst hr
  rw [← hc] at h
  refine ans_k R F N (common_c w (KX.keeps F.keep) (T.keeps F.keep) l z0 ts k hl h4 (fun z hz' => ?_) (fun z hz' => ?_) (pre_ok (by simp))) ?_
  · obtain ⟨w, h1, h2⟩ := hz z hz'
    have := up_all h1.mem
    simp only [upOk, Bool.and_eq_true, decide_eq_true_eq] at this
    rw [h2]; exact this.2
  · obtain ⟨w, h1, h2⟩ := hz z hz'
    have := small_all h1.mem
    simp only [smallOk, Bool.and_eq_true, decide_eq_true_eq] at this
    rw [h2]; have := this.2; omega
  · rintro _ h' tk ⟨t, rfl⟩ _ F' N'
    exact h t h' tk F' N'
/-- reduce(_law_meet, iter(places)) -/
theorem meets_k {I l : Addr} {z0 : Str × Tok} {ts : List (Str × Tok)} {k : Nat} {w0 : List Str} {cw : List (List Str)} {r : Str} (R : Rm A 100) (F : Fr h₀ L s.heap m) (N : News h₀ L s.heap ((I, ⟨.type "list_iterator", none, .fields #[.ref l, .int 0 0], #[]⟩) :: news)) (hoff : ∀ q ∈ news, q.1 ≠ I) (KX : (Mine.KK w.params).In h₀) (T : Top p loose mean mg mb h₀)
    (hl : (l, listOf (sv (z0 :: ts)).toArray k) ∈ news) (e0 : z0.1 = placeW w0) (hc : ts.map (·.1) = cw.map placeW) (hw : ∀ w ∈ w0 :: cw, Word w) (hr : (cw.map placeW).foldl meetPy (placeW w0) = r) (h : ∀ t h' tk, Fr h₀ L h' m → News h₀ L h' news → Q (.str r t) { s with heap := h', toks := tk }) : wpAny (model pw w) A (call (.ref 227) [.ref 274, .ref I]) Q E s := by
  subst hr
  have hI := N _ (.head _)
  have keepB : ∀ b o, h₀.get? b = some o → (butFor s.heap I).get? b = some o := fun b o e => by
    rw [butFor_ne (fun q => by rw [q, hI.2.2] at e; cases e)]; exact F.keep b o e
  obtain ⟨z1, z2⟩ := z0
  rw [← hc, ← e0] at h
  have hok : ∀ z ∈ (z1, z2) :: ts, ∃ w, Word w ∧ z.1 = placeW w := fun z hz => by
    have : z.1 ∈ (w0 :: cw).map placeW := by rw [List.map_cons, ← hc, ← e0]; exact List.mem_map.mpr ⟨z, hz, rfl⟩
    obtain ⟨w, h1, h2⟩ := List.mem_map.mp this
    exact ⟨w, hw w h1, h2.symm⟩
  refine around_le R (wpAny_mono (reduce2_c w (h₀ := butFor s.heap I) (KX.keeps keepB) (T.keeps keepB) (butFor_stays _ _) (by rw [butFor_size]; exact Nat.le_refl _) 274 l I _ hI.1 (butFor_none ..) ⟨rfl, rfl⟩ z1 z2 ts k (by rw [butFor_ne (hoff _ hl)]; exact (N _ (.tail _ hl)).1) meetPy (fun x => ∃ w, Word w ∧ x = placeW w) ?_ keep274 hok ?_) ?_ fun _ _ x => x.elim)
  · rintro s' x t y u KX' T' htk ⟨w1, h1, rfl⟩ ⟨w2, h2, rfl⟩
    exact meet_c w KX' T' _ t _ u (meet_ok h1 h2)
  · rintro x y ⟨w1, h1, rfl⟩ ⟨w2, h2, rfl⟩
    exact ⟨_, cpre_word (v := w2) h1, meet_words h1.wd h2.wd⟩
  · rintro _ s' ⟨h', tk, rfl, st, t, rfl⟩
    refine h t h' tk ⟨F.ns.at' fun o e => st _ o (by rw [butFor_ne (fun q => hI.2.1 q.symm)]; exact e), fun b o e => st b o (keepB b o e), F.above⟩ fun q hq => ?_
    have hq2 := N q (.tail _ hq)
    exact ⟨st _ _ (by rw [butFor_ne (hoff q hq)]; exact hq2.1), hq2.2⟩
end

end
section
open PySem PySem.W PySem.W.X PyProof.Rows PySem.Calls
noncomputable def bitM (m k : Nat) : Bool := decide (Builtin.bitAnd ((m : Int).fdiv (2 ^ (k : Int).toNat)) 1 ≠ 0)
theorem bits_some : ∀ i, i < 15 → (List.range 4).filter (bitM (i + 1)) ≠ [] := by decide +kernel
theorem bit_in {cs : List (Nat × Tok)} {m j : Nat} {t : Tok} (h : cs.map (·.1) = (List.range j).filter (bitM m)) (hb : Builtin.bitAnd ((m : Int).fdiv (2 ^ (j : Int).toNat)) 1 ≠ 0) : (cs ++ [(j, t)]).map (·.1) = (List.range (j + 1)).filter (bitM m) := by
  rw [List.range_succ, List.filter_append, List.map_append, h]
  congr 1
  rw [List.filter_cons_of_pos (by exact decide_eq_true hb)]
  rfl
theorem bit_out {cs : List (Nat × Tok)} {m j : Nat} (h : cs.map (·.1) = (List.range j).filter (bitM m)) (hb : Builtin.bitAnd ((m : Int).fdiv (2 ^ (j : Int).toNat)) 1 = 0) : cs.map (·.1) = (List.range (j + 1)).filter (bitM m) := by
  rw [List.range_succ, List.filter_append, h]
  rw [List.filter_cons_of_neg (by unfold bitM; rw [decide_eq_true_eq]; exact fun q => q hb)]
  simp
/-- the chosen places' numbers -/
structure Chosen (cs : List (Nat × Tok)) : Prop where
  ne : cs ≠ []
  lt : ∀ z ∈ cs, z.1 < 4
  len : cs.length ≤ 4
theorem chosen_of {cs : List (Nat × Tok)} {i : Nat} (hi : i < 15) (h : cs.map (·.1) = (List.range 4).filter (bitM (i + 1))) : Chosen cs := by
  refine ⟨fun e => ?_, fun z hz => ?_, ?_⟩
  · subst e
    exact bits_some i hi h.symm
  · have : z.1 ∈ (List.range 4).filter (bitM (i + 1)) := by rw [← h]; exact List.mem_map.mpr ⟨z, hz, rfl⟩
    exact List.mem_range.mp (List.mem_filter.mp this).1
  · have := congrArg List.length h
    rw [List.length_map] at this
    rw [this]
    exact Nat.le_trans (List.length_filter_le _ _) (by simp)
noncomputable def intsV (cs : List (Nat × Tok)) : List Value := cs.map fun z => .int (z.1 : Int) z.2
theorem intsV_push (cs : List (Nat × Tok)) (j : Nat) (t : Tok) : intsV cs ++ [.int (j : Int) t] = intsV (cs ++ [(j, t)]) := by simp [intsV]
noncomputable def pickQ (prs : PR) (k : Nat) : Addr × (Int × Int) × Tok × Tok := (prs[k]?).getD (0, (0, 0), 0, 0)
noncomputable def pickW (ws : List (List Str)) (k : Nat) : List Str := (ws[k]?).getD []
noncomputable def pickT (ts : List (Str × Tok)) (k : Nat) : Str × Tok := (ts[k]?).getD (nil0, 0)
noncomputable def pickV (ws : List (List Str)) (prs : PR) (k : Nat) : VD := ⟨(pickQ prs k).1, (vw (pickW ws k)).1, (vw (pickW ws k)).2⟩
theorem take_push {α β : Type} {f : α → β} {l : List α} {j : Nat} {z : α} (h : l[j]? = some z) : (l.take j).map f ++ [f z] = (l.take (j + 1)).map f := by
  rw [List.take_add_one, h, List.map_append]
  rfl
theorem row_list {ws : List (List Str)} {prs : PR} {cs : List (Nat × Tok)} : (cs.take (intsV cs).length).map (fun z => Value.ref (pickV ws prs z.1).a) = (cs.map fun z => pickV ws prs z.1).map (fun v => Value.ref v.a) := by
  rw [intsV, List.length_map, List.take_length, List.map_map]
  rfl
theorem some_list {ts : List (Str × Tok)} {z0 : Nat × Tok} {cs : List (Nat × Tok)} : ((z0 :: cs).take (intsV (z0 :: cs)).length).map (fun z => Value.str (pickT ts z.1).1 (pickT ts z.1).2) = sv (pickT ts z0.1 :: cs.map fun z => pickT ts z.1) := by
  rw [intsV, List.length_map, List.take_length, sv, List.map_cons, List.map_cons, List.map_map]
  rfl
section
variable {ws : List (List Str)} {ts : List (Str × Tok)} {sd : SD} {prs : PR} {kl : KL}
/-- the four, by number -/
structure Pick (ws : List (List Str)) (ts : List (Str × Tok)) (prs : PR) (k : Nat) : Prop where
  hq : prs[k]? = some (pickQ prs k)
  ht : ts[k]? = some (pickT ts k)
  hw : pickW ws k ∈ ws
  word : Word (pickW ws k)
  et : (pickT ts k).1 = placeW (pickW ws k)
  eq : (pickQ prs k).2.1 = vw (pickW ws k)
theorem All4.pick (A : All4 ws ts sd prs kl) {k : Nat} (hk : k < 4) : Pick ws ts prs k := by
  obtain ⟨w, t, s, q, k', B⟩ := A.at hk
  have e1 : pickQ prs k = q := by unfold pickQ; rw [B.hq]; rfl
  have e2 : pickW ws k = w := by unfold pickW; rw [B.hw]; rfl
  have e3 : pickT ts k = t := by unfold pickT; rw [B.ht]; rfl
  refine ⟨by rw [e1]; exact B.hq, by rw [e3]; exact B.ht, by rw [e2]; exact List.mem_of_getElem? B.hw, by rw [e2]; exact B.word, by rw [e3, e2]; exact B.et, by rw [e1, e2]; exact B.eq⟩
theorem All4.pairAt (A : All4 ws ts sd prs kl) {k : Nat} (hk : k < 4) {h : Heap} (hV : ∀ p ∈ objsV prs, h.get? p.1 = some p.2) : PairO h (pickV ws prs k).a (pickV ws prs k).n (pickV ws prs k).d := by
  have P := A.pick hk
  exact pair_at P.word P.eq (hV (_, _) (List.mem_map.mpr ⟨_, List.mem_of_getElem? P.hq, rfl⟩))
theorem All4.placesOf (A : All4 ws ts sd prs kl) {cs : List (Nat × Tok)} (h : ∀ z ∈ cs, z.1 < 4) : (cs.map fun z => pickT ts z.1).map (·.1) = (cs.map fun z => pickW ws z.1).map placeW := by
  rw [List.map_map, List.map_map]
  exact List.map_congr_left fun z hz => (A.pick (h z hz)).et
/-- what the least and the greatest of the row are -/
theorem All4.ends (A : All4 ws ts sd prs kl) {z0 : Nat × Tok} {cs : List (Nat × Tok)} (hc : Chosen (z0 :: cs)) {qs : List VD} (S : SortedOf ((z0 :: cs).map fun z => pickV ws prs z.1) qs) :
    ∃ kl kh qr qi, kl < 4 ∧ kh < 4 ∧ qs = pickV ws prs kl :: qr ∧ qs = qi ++ [pickV ws prs kh] ∧
      namesF 64 (simpPy (vw (pickW ws kl)).1 (vw (pickW ws kl)).2 (vw (pickW ws kh)).1 (vw (pickW ws kh)).2).1 (simpPy (vw (pickW ws kl)).1 (vw (pickW ws kl)).2 (vw (pickW ws kh)).1 (vw (pickW ws kh)).2).2 = cprePy (pickW ws kl) (pickW ws kh) ∧
      Word (cprePy (pickW ws kl) (pickW ws kh)) ∧
      commonPy ((pickW ws z0.1 :: cs.map fun z => pickW ws z.1).map placeW) = placeW (cprePy (pickW ws kl) (pickW ws kh)) ∧
      ((cs.map fun z => pickW ws z.1).map placeW).foldl meetPy (placeW (pickW ws z0.1)) = placeW (cprePy (pickW ws kl) (pickW ws kh)) := by
  have hlen : qs.length = cs.length + 1 := by have := S.len; simpa using this
  obtain ⟨q0, qr, rfl⟩ : ∃ q0 qr, qs = q0 :: qr := by
    cases qs with
    | nil => simp at hlen
    | cons a b => exact ⟨a, b, rfl⟩
  have hne : q0 :: qr ≠ [] := by simp
  have hlast := (List.dropLast_concat_getLast hne).symm
  generalize hqi : (q0 :: qr).dropLast = qi at hlast
  generalize hqn : (q0 :: qr).getLast hne = qn at hlast
  have hfrom : ∀ q ∈ q0 :: qr, ∃ k, k < 4 ∧ q = pickV ws prs k ∧ pickW ws k ∈ pickW ws z0.1 :: cs.map fun z => pickW ws z.1 := fun q hq => by
    obtain ⟨z, hz, rfl⟩ := List.mem_map.mp (S.mem q hq)
    exact ⟨z.1, hc.lt z hz, rfl, by rw [show (pickW ws z0.1 :: cs.map fun z => pickW ws z.1) = (z0 :: cs).map fun z => pickW ws z.1 from rfl]; exact List.mem_map.mpr ⟨z, hz, rfl⟩⟩
  obtain ⟨kl', h1, rfl, h1m⟩ := hfrom q0 (.head _)
  obtain ⟨kh, h2, rfl, h2m⟩ := hfrom qn (by rw [hlast]; simp)
  have hw : ∀ w ∈ pickW ws z0.1 :: cs.map fun z => pickW ws z.1, ∃ z ∈ z0 :: cs, w = pickW ws z.1 := fun w h => by
    rw [show (pickW ws z0.1 :: cs.map fun z => pickW ws z.1) = (z0 :: cs).map fun z => pickW ws z.1 from rfl] at h
    obtain ⟨z, hz, rfl⟩ := List.mem_map.mp h
    exact ⟨z, hz, rfl⟩
  have hword : ∀ w ∈ pickW ws z0.1 :: cs.map fun z => pickW ws z.1, Word w := fun w h => by
    obtain ⟨z, hz, rfl⟩ := hw w h
    exact (A.pick (hc.lt z hz)).word
  have low : ∀ w ∈ pickW ws z0.1 :: cs.map fun z => pickW ws z.1, ¬ crossW w (pickW ws kl') < 0 := fun w h => by
    obtain ⟨z, hz, rfl⟩ := hw w h
    have := S.low _ (List.mem_map.mpr ⟨z, hz, rfl⟩) _ rfl
    exact of_decide_eq_false this
  have hlastAt : (pickV ws prs kl' :: qr)[(pickV ws prs kl' :: qr).length - 1]? = some (pickV ws prs kh) := by
    rw [hlast]; simp
  have high : ∀ w ∈ pickW ws z0.1 :: cs.map fun z => pickW ws z.1, ¬ crossW (pickW ws kh) w < 0 := fun w h => by
    obtain ⟨z, hz, rfl⟩ := hw w h
    have := S.high _ (List.mem_map.mpr ⟨z, hz, rfl⟩) _ hlastAt
    exact of_decide_eq_false this
  obtain ⟨g1, g2⟩ := low_law hword h1m h2m low high
  exact ⟨kl', kh, qr, qi, h1, h2, rfl, hlast, low_names (hword _ h1m) (hword _ h2m) (high _ h1m), cpre_word (hword _ h1m), g1, g2⟩
end

end
theorem calm_W3 : True := by
  w_top off
  trivial
section
open PySem PySem.W PySem.W.X PyProof.Rows PySem.Calls
theorem haltN {M : Model} {A : Around} {env : Env} {Q : Flow → Shared → Prop} {E : Value → Shared → Prop} {s : Shared} {x : String} {p q : Pos} {v : Expr} (h : Halt (wpAny M A (exec (.Assign [.Name (Str.ofString x) p] v q) env) Q E s)) : wpAny M A (exec (.Assign [.Name (Str.ofString x) p] v q) env) Q E s := h
theorem item_atP {prog : Program} {w : World} {A : Around} {s : Shared} {E : Value → Shared → Prop} {value slice : Expr} {l : Addr} {items : Array Value} {v : Value} {i : Int} {u : Tok} {Q : Value → Shared → Prop} {h₀ : Heap} {L : Addr} {news : List (Addr × Obj)} {n : Nat} {d : Option Addr} {sl : Array (Option Value)}
    (N : News h₀ L s.heap news) (hm : (l, { cls := .type "list", dict := d, data := .seq items n, slots := sl }) ∈ news) (h0 : 0 ≤ i) (h1 : i < 2 ^ 63) (hx : items[i.toNat]? = some v)
    (hs : subscripted slice false (.ref l) (.int i u) = operate [.ref l, .int i u] (getItem (.ref l) (.int i u))) (hg : ∀ r, letTemporaryGo value (.ref l) r = pure ()) (h : Q v s) :
    wpAny (model prog w) A (subscriptTail value slice (.ref l) (.int i u)) Q E s := item_at (News.isList N hm) h0 h1 hx h hs hg
theorem callWith_348 {M : Model} {A : Around} {pos : Pos} {first : List Value} {env : Env} {Q : Value → Shared → Prop} {E : Value → Shared → Prop} {s : Shared} {h₀ : Heap} {K : Frag} {e : Expr} {rest : List Expr} (Y : KProps K) (X : K.In h₀) (h : wpAny M A (spliced (backTo pos (starEach (e :: rest) env))) (fun vs s₁ => K.In s₁.heap ∧ wpAny M A (call (.ref 348) (first ++ vs)) Q E s₁) E s)
    (he : starEach (e :: rest) env = (false, eval e env) :: starEach rest env := by rfl) (hplain : (backTo pos (starEach rest env)).any (·.1) = false := by rfl) :
    wpAny M A (callWith pos (.ref 348) first (backTo pos (starEach (e :: rest) env)) []) Q E s := callWith_K X (keep348 Y) h he hplain
structure Pre4 (ws : List (List Str)) (ts : List (Str × Tok)) (sd : SD) (A : Prop) : Prop where
  tx : ts.map (·.1) = ws.map placeW
  sx : sd.map (fun q => q.2.1.map (·.1)) = ws.map sideW
  wd : ∀ w ∈ ws, Word w
  ap : A
structure WdL (w : List Str) : Prop where
  wd : Wd w
  len : w.length ≤ 5
structure In4 (V K S C R : List (Addr × Obj)) : Prop where
  v : ∀ p ∈ V, p ∈ R
  k : ∀ p ∈ K, p ∈ R
  s : ∀ p ∈ S, p ∈ R
  c : ∀ p ∈ C, p ∈ R
local macro_rules | `(tactic| walk_at "exec For Name Call cons nil") => `(tactic| walk_at "own for")
local macro_rules | `(tactic| walk_at "exec For Name Call cons nil") => `(tactic| (k_dflt (refine' for_ownC ?F ?hx ?_; (case hx => exact rfl); (case F => k_asm))))
local macro_rules | `(tactic| walk_at "pyIter ref") => `(tactic| walk_at "H")
local macro_rules | `(tactic| walk_at "callWith ref") => `(tactic| (k_here; k_dflt (refine' callWith_348 (by assumption) _ _; rotate_left; (· k_asm); k_whole)))
local macro_rules | `(tactic| walk_at "call ref") => `(tactic| walk_at "H")
local macro_rules | `(tactic| walk_at "subscriptTail Name Slice ref ref") => `(tactic| walk_at "H")
local macro_rules | `(tactic| walk_at "subscriptTail Call Slice ref ref") => `(tactic| walk_at "H")
local macro_rules | `(tactic| walk_at "subscriptTail List Name ref int") => `(tactic| walk_at "H")
local macro_rules | `(tactic| walk_at "compareOp IsNot bool bool") => `(tactic| walk_at "H")
local macro_rules | `(tactic| walk_at "call builtin:list.count") => `(tactic| walk_at "H")
local macro_rules | `(tactic| walk_at "compareOp NotEq int int") => `(tactic| walk_at "H")
local macro_rules | `(tactic| walk_at "compareOp Lt ref ref") => `(tactic| walk_at "H")
local macro_rules | `(tactic| walk_at "compareOp LtE ref ref") => `(tactic| walk_at "H")
local macro_rules | `(tactic| walk_at "compareOp Gt ref ref") => `(tactic| walk_at "H")
local macro_rules | `(tactic| walk_at "compareOp GtE ref ref") => `(tactic| walk_at "H")
local macro_rules | `(tactic| walk_at "compareOp Eq ref ref") => `(tactic| walk_at "H")
local macro_rules | `(tactic| walk_at "compareOp NotEq ref ref") => `(tactic| walk_at "H")
local macro_rules | `(tactic| walk_at "call builtin:sorted") => `(tactic| walk_at "H")
local macro_rules | `(tactic| walk_at "subscriptTail Name UnaryOp ref int") => `(tactic| walk_at "H")
local macro_rules | `(tactic| walk_at "call builtin:sum") => `(tactic| walk_at "H")
local macro_rules | `(tactic| walk_at "exec Assign cons ListComp") => `(tactic| (k_here; k_dflt (walk_at "swap"; k_whole)))
local macro_rules | `(tactic| walk_at "exec Assign cons ListComp") => `(tactic| with_reducible first | refine haltN (x := "chosen") ?_ | refine haltN (x := "some") ?_)
local macro_rules | `(tactic| walk_at "eval ListComp") => `(tactic| walk_at "H")
local macro_rules | `(tactic| walk_at "subscriptTail Name Constant ref int") => `(tactic| (k_dflt (refine' item_atP _ _ _ _ _ _ _ _; rotate_left 8; (· k_asm); (· k_mem); (· decide); (· decide); (· exact rfl); (· with_unfolding_all rfl); (· (intro _; with_unfolding_all rfl)))))
local macro_rules | `(tactic| walk_at "compareOp NotEq str str") => `(tactic| walk_at "H")
local macro_rules | `(tactic| walk_at "call builtin:list.append") => `(tactic| walk_at "H")
local macro_rules | `(tactic| walk_at "binaryOp Add ref ref") => `(tactic| walk_at "H")
local macro_rules | `(tactic| walk_at "call builtin:str.join") => `(tactic| walk_at "H")
local macro_rules | `(tactic| walk_at "subscriptTail Name Name ref int") => `(tactic| walk_at "H")
set_option maxRecDepth 100000 in
set_option maxHeartbeats 8000000 in
theorem law_c (w : World) (h1 : Heap) (d0 : Drawn) (os : OsState) (t0 : Nat) {p : Program} {loose : List Str} {mean : ExcName → Option Value} {mg mb : Str → Option Value} (KX : (Mine.KK w.params).In h1) (ZH : KT.Holds h1 1 0 (Mine.hz.ktop_543 w.params)) (T : Top p loose mean mg mb h1) (hs : h1.objs.size = 281) (ht : 500 ≤ t0) {o213 : Obj} (h213 : h1.get? 213 = some o213) (hc213 : o213.cls = .none) (hct : isCodeTable h1 213) {vs : List Value} {zs : List Int} {e0 : Nat} (hsl : h1.get? 280 = some (listOf vs.toArray e0)) (hzs : IntsAre vs zs) (hlen : zs.length ≤ 63) :
   wpAny (model pw w) (AA 2) (call (.ref 279) [.ref 280]) (fun v s' => v = .bool true ∧ ∃ h' tk, s' = ⟨h', #[], d0, tk, os⟩ ∧ OldK h1 h') (fun _ _ => False) ⟨h1, #[], d0, t0, os⟩ := by
  refine wpAny_q ?_
  intro Q0 hQ0
  k_dflt (refine' enterL (x := Str.ofString "script") ?k1 ?k2 ?k3 ?k4 ?k5 ?k6 ?k7 ?k8 ?k9 ?k10 ?k11 ?_; (case k1 => decide); (case k2 => k_asm); (case k3 => k_asm); (case k4 => k_is); (case k5 => k_is); (case k6 => exact .of_eq rfl); (case k7 => exact rfl); (case k8 => decide +kernel); (case k9 => exact rfl); (case k10 => exact rfl); (case k11 => exact rfl); k_whole)
  intro L h2 cells hL hsz F N Y
  dsimp only at hL hsz F N ⊢
  rw [hs] at hL hsz
  subst hL
  (try dsimp only); dsimp only [S.p, S.sep, S.i, S.head, S.tail, S.fspath, S.uugetusep, S.len, S.rfind, S.rstrip, S.a, S.b, S.path, S.startswith, S.endswith, S.join, S.TypeError, S.AttributeError, S.BytesWarning, S.uucheckuargutypes, S.isinstance, S.bytes, S.empty, S.splitroot, S.normpath, S.dot, S.dotdot, S.uu, S.initial_slashes, S.comps, S.new_comps, S.comp, S.split, S.append, S.pop, S.paths, S.tuple, S.map, S.ValueError, S.split_paths, S.isabs, S.s, S.c, S.curdir, S.s1, S.s2, S.common, S.enumerate, S.min, S.max, S.prefix, S.commonpath, S.count, S.K, S.mycmp, S.obj, S.other, S.self, S.function, S.sequence, S.initial, S.uuinitialumissing, S.it, S.iter, S.value, S.next, S.StopIteration, S.element, S.reduce, S.cell, S.kinds, S.k, S.range, S.uulawupieces, S.pair, S.piece, S.n, S.d, S.add, S.sub, S.uulawustep, S.names, S.uulawunames, S.place, S.uulawuupward, S.replace, S.name, S.one, S.uulawuacross, S.mul, S.low, S.high, S.uulawusimplest, S.uulawumeet, S.script, S.key, S.places, S.sides, S.cmp_to_key, S.pieces, S.sum, S.crooked, S.values, S.keys, S.countOf, S.j, S.x, S.y, S.t, S.told, S.due, S.lt, S.le, S.eq, S.ne, S.ge, S.gt, S.m, S.mask, S.chosen, S.row, S.sorted, S.lowest, S.some, S.os]; (try k_fold)
  replace hsz : h2.objs.size = 288 := hsz
  obtain ⟨o1, o2, o3, o4, o5, o6, rfl, d1, d2, d3, d4, d5, d6⟩ := CellsAre.six Y
  clear Y
  refine execs_toks 1 (by show 1 ≤ _ + _; omega) ?_
  k_steps
  show wpAny _ _ _ _ _ _
  refine around_le (d := 100) (by walk_at "rm") (wpAny_mono (ctk_c w h2 d0 _ os (by omega) hsz (ZH.keeps F.keep) _ (fun h3 tk3 C E htk => ?_)) (fun _ _ x => x) fun _ _ x => x.elim)
  obtain ⟨o', F3, N3, KX3, hold⟩ := based F N hs KX E h213 hct
  have T3 := top_but T h213 hc213
  have hsl3 : (butFor h1 213).get? 280 = some (listOf vs.toArray e0) := by rw [butFor_ne (by decide)]; exact hsl
  have hP := E.props
  have hI := E.ini
  have htk3 : 1 ≤ tk3 := by omega
  have hC : Far C := ⟨fun p hp => (E.mem p hp).2⟩
  replace N3 : News (butFor h1 213) 281 h3 ((287, o1) :: (286, o2) :: (285, o3) :: (284, o4) :: (283, o5) :: (282, o6) :: (213, o') :: C) := N3
  generalize butFor h1 213 = B at F3 N3 KX3 hold T3 hsl3
  clear F N KX T ZH E hsl h213 hc213 hct hs hsz ht htk
  k_steps
  unfold Halt
  intro htka
  refine execs_toks 1 htka ?_
  clear htka
  k_steps
  unfold Halt
  intro htka
  refine execs_toks 1 htka ?_
  clear htka
  k_steps
  rename Fr _ _ _ _ => F
  rename News _ _ _ _ => N
  rename_i h7 oK dK Dp h6 lDp Ds h5 lDs DT h4 lDT h3' h2' oP dP h1' F' N' h0' tk0 t1 u1 v1 hr keep
  show wpAny _ _ _ _ _ _
  have hDC : ∀ q ∈ C, q.1 ≠ Dp ∧ q.1 ≠ Ds ∧ 288 ≤ q.1 := fun q hq => ⟨allLt_ne lDp.2.2.2.2.2.2.2 q hq, allLt_ne lDs.2.2.2.2.2.2.2.2 q hq, hC.far q hq⟩
  have hDD : Dp ≠ Ds := Nat.ne_of_lt lDs.1
  have hDp : 287 < Dp := lDp.1
  have hDs : 287 < Ds := lDs.2.1
  clear lDp lDs
  have N0 : News B 281 h0' ((Dp, listOf #[] 0) :: (Ds, listOf #[] 0) :: (287, o1) :: (286, o2) :: (285, o3) :: (284, o4) :: (283, oP) :: (282, oK) :: (213, o') :: C) := fun q hq => N q (by
    rcases List.mem_cons.mp hq with rfl | hq
    · exact .tail _ (.tail _ (.head _))
    rcases List.mem_cons.mp hq with rfl | hq
    · exact .tail _ (.head _)
    · exact .tail _ (.tail _ (.tail _ hq)))
  clear N
  refine for_range (n := 4) (fun i m nx => ∃ ws ts sd e e', ws.length = i ∧ PSt C [(287, o1), (286, o2), (285, o3), (284, o4), (283, oP), (282, oK), (213, o')] Dp Ds ws m nx ts sd e e') rfl hr (by decide) (by decide) F N0 ⟨[], [], [], 0, 0, rfl, ⟨fun _ h => (nomatch h), rfl, rfl, by walk_at "look", by walk_at "look", rfl, hDC⟩⟩ ?_ ?_
  · rintro I i v tv m₁ nx h tk io - hi rfl ⟨ws, ts, sd, e, e', hws, P⟩ hoff F N
    obtain ⟨hwd, htx, hsx, hsc, hsi, rfl, hap⟩ := P
    have hIp := hoff _ (.head _)
    have hIs := hoff _ (.tail _ (.head _))
    have hIc : ∀ q ∈ [(287, o1), (286, o2), (285, o3), (284, o4), (283, oP), (282, oK), (213, o')], q.1 ≠ I := fun q hq => hoff q (.tail _ (.tail _ (List.mem_append_left _ hq)))
    have hI1 := hIc _ (.head _)
    have hI2 := hIc _ (.tail _ (.head _))
    have hI3 := hIc _ (.tail _ (.tail _ (.head _)))
    have hI4 := hIc _ (.tail _ (.tail _ (.tail _ (.head _))))
    have hI5 := hIc _ (.tail _ (.tail _ (.tail _ (.tail _ (.head _)))))
    have hI6 := hIc _ (.tail _ (.tail _ (.tail _ (.tail _ (.tail _ (.head _))))))
    have hI7 := hIc _ (.tail _ (.tail _ (.tail _ (.tail _ (.tail _ (.tail _ (.head _)))))))
    have hRI : ∀ q ∈ objsS sd ++ C, q.1 ≠ I := fun q hq => hoff q (.tail _ (.tail _ (List.mem_append_right _ hq)))
    have hRp : ∀ q ∈ objsS sd ++ C, q.1 ≠ Dp := fun q hq => (hap q hq).1
    have hRs : ∀ q ∈ objsS sd ++ C, q.1 ≠ Ds := fun q hq => (hap q hq).2.1
    have hRf : Far (objsS sd ++ C) := ⟨fun q hq => (hap q hq).2.2⟩
    replace F : Fr B 281 h _ := F
    replace N : News B 281 h ((I, io) :: (Dp, listOf (sv ts).toArray e) :: (Ds, listOf (refsS sd).toArray e') :: (287, o1) :: (286, o2) :: (285, o3) :: (284, o4) :: (283, oP) :: (282, oK) :: (213, o') :: (objsS sd ++ C)) := N
    clear hoff hIc hC hDC
    generalize hR : objsS sd ++ C = R at N hRI hRp hRs hRf
    dsimp only at hIp hIs hI1 hI2 hI3 hI4 hI5 hI6 hI7 F
    replace hIp := neN hIp
    replace hIs := neN hIs
    replace hI1 := neN hI1
    replace hI2 := neN hI2
    replace hI3 := neN hI3
    replace hI4 := neN hI4
    replace hI5 := neN hI5
    replace hI6 := neN hI6
    replace hI7 := neN hI7
    have hDD' := neN hDD
    rw [Int.zero_add, Int.mul_one] at F
    refine wpAny_q ?_
    intro Q1 hQ1
    (try dsimp only); (try k_fold)
    k_steps
    rename Fr _ _ _ _ => F
    rename News _ _ _ _ => N
    show wpAny _ _ _ _ _ _
    refine slice_list3 F N ⟨_, F.keep _ _ hsl3, rfl, _, rfl⟩ (.int _ _) .none (.int _ _) (by decide) (fun h4 F4 N4 => ?_) (by with_unfolding_all rfl) (by intro _; with_unfolding_all rfl) (by rw [List.size_toArray, hzs.length, sizeLine_eq]; omega)
    have hsum := hzs.pick (some (i : Int)) none (some 4)
    clear F N
    k_steps
    show wpAny _ _ _ _ _ _
    refine sum_any rfl F4 N4 ⟨_, (N4 _ (.head _)).1, rfl, _, rfl⟩ hsum ?_
    intro cs tcs h5 tk5 F5 N5
    clear F4 N4 hsum
    k_steps
    rename Fr _ _ _ _ => F
    rename News _ _ _ _ => N
    show wpAny _ _ _ _ _ _
    refine strs_k (d := 100) (by walk_at "rm") F N (pieces_c w (KX3.keeps F.keep) (T3.keeps F.keep) _ _) ?_
    intro pa pts pe h6 tk6 hpx F6 N6 hpa
    generalize cs + _ = c at hpx
    replace N6 : News B 281 h6 ((pa, listOf (sv pts).toArray pe) :: (I, io) :: (Dp, listOf (sv ts).toArray e) :: (Ds, listOf (refsS sd).toArray e') :: (287, o1) :: (286, o2) :: (285, o3) :: (284, o4) :: (283, oP) :: (282, oK) :: (213, o') :: R) := fun q hq => N6 q (by
      rcases List.mem_cons.mp hq with rfl | hq
      · exact .head _
      · exact .tail _ (.tail _ (.tail _ hq)))
    have hpI := hpa _ (.tail _ (.tail _ (.head _)))
    have hpp := hpa _ (.tail _ (.tail _ (.tail _ (.head _))))
    have hps := hpa _ (.tail _ (.tail _ (.tail _ (.tail _ (.head _)))))
    dsimp only at hpI hpp hps
    replace hpI := neN hpI
    replace hpp := neN hpp
    replace hps := neN hps
    clear F N hpa
    obtain ⟨p0, p1, p2, p3, p4, rfl⟩ : ∃ p0 p1 p2 p3 p4, pts = [p0, p1, p2, p3, p4] := by
      have hl := congrArg List.length hpx
      rw [List.length_map, pieces_len] at hl
      match pts, hl with
      | [p0, p1, p2, p3, p4], _ => exact ⟨p0, p1, p2, p3, p4, rfl⟩
    have hkd : ∀ z ∈ [p0, p1, p2, p3, p4].map (·.1), z ∈ pieceKinds := by rw [hpx]; exact pieces_kinds c
    obtain ⟨wd, hwf⟩ := pieces_word hkd (by simp)
    have hid := Hid.mk hwf
    have hkh := Hid.mk hkd
    have hpre := Pre4.mk htx hsx hwd hap
    have hwl : WdL wd := ⟨hid.out.1, hid.out.2.1⟩
    clear hwf hkd hpx htx hsx hwd hap hzs
    k_steps
    rename Fr _ _ _ _ => F
    rename News _ _ _ _ => N
    show wpAny _ _ _ _ _ _
    refine fold_k (by walk_at "rm") F N KX3 T3 (N _ (.tail _ (.head _))).1 (N _ (.head _)).1 hkh.out ?_
    intro q u1 u2 h7 tk7 F7 N7 hq hqn st7
    have hw4 := hid.out.2.2.2.1
    clear F N st7 hqn
    have hqq := Hid.mk hq
    clear hq
    have hw4h := Hid.mk hw4
    clear hw4
    k_steps
    rename Fr _ _ _ _ => F
    rename News _ _ _ _ => N
    show wpAny _ _ _ _ _ _
    refine strs_k (d := 100) (by walk_at "rm") F N (names_c w (KX3.keeps F.keep) (T3.keeps F.keep) q _ _ u1 u2 hqq.out) ?_
    intro na' nts ne h8 tk8 hnx F8 N8 hna
    replace hnx : nts.map (·.1) = wd.reverse := by rw [← hw4h.out, List.reverse_reverse]; exact hnx
    clear hw4h hqq
    replace N8 : News B 281 h8 ((na', listOf (sv nts).toArray ne) :: (pa, listOf (sv [p0, p1, p2, p3, p4]).toArray pe) :: (I, io) :: (Dp, listOf (sv ts).toArray e) :: (Ds, listOf (refsS sd).toArray e') :: (287, o1) :: (286, o2) :: (285, o3) :: (284, o4) :: (283, oP) :: (282, oK) :: (213, o') :: R) := fun q hq => N8 q (by
      rcases List.mem_cons.mp hq with rfl | hq
      · exact .head _
      · exact .tail _ (.tail _ hq))
    clear F N hna
    k_steps
    rename Fr _ _ _ _ => F
    rename News _ _ _ _ => N
    show wpAny _ _ _ _ _ _
    have hnl : nts.length ≤ 5 := by
      have := congrArg List.length hnx
      rw [List.length_map, List.length_reverse] at this
      rw [this]; exact hwl.len
    refine krv_lit F N ⟨_, (N _ (.head _)).1, rfl, _, rfl⟩ (.int _ _) (zs := sv nts.reverse) (by simp [sv]) (fun nl h9 F9 N9 l9 => ?_) (by with_unfolding_all rfl) (by intro _; with_unfolding_all rfl) (by rw [List.size_toArray, sv, List.length_map, sizeLine_eq]; omega)
    have hnr := Hid.mk (show nts.reverse.map (·.1) = wd by rw [List.map_reverse, hnx, List.reverse_reverse])
    have hnp := l9 _ (.tail _ (.tail _ (.tail _ (.head _))))
    have hns := l9 _ (.tail _ (.tail _ (.tail _ (.tail _ (.head _)))))
    have hnI := l9 _ (.tail _ (.tail _ (.head _)))
    dsimp only at hnp hns hnI
    replace hnp := neN (Nat.ne_of_lt hnp)
    replace hns := neN (Nat.ne_of_lt hns)
    replace hnI := neN (Nat.ne_of_lt hnI)
    replace N9 : News B 281 h9 ((nl, listOf (sv nts.reverse).toArray 0) :: (pa, listOf (sv [p0, p1, p2, p3, p4]).toArray pe) :: (I, io) :: (Dp, listOf (sv ts).toArray e) :: (Ds, listOf (refsS sd).toArray e') :: (287, o1) :: (286, o2) :: (285, o3) :: (284, o4) :: (283, oP) :: (282, oK) :: (213, o') :: R) := fun q hq => N9 q (by
      rcases List.mem_cons.mp hq with rfl | hq
      · exact .head _
      · exact .tail _ (.tail _ hq))
    have hml : nts.reverse.length ≤ 5 := by rw [List.length_reverse]; exact hnl
    clear F N l9 hnx hnl
    generalize nts.reverse = ms at N9 hnr hml
    k_steps
    rename Fr _ _ _ _ => F
    rename News _ _ _ _ => N
    show wpAny _ _ _ _ _ _
    obtain ⟨cr, hcr⟩ : ∃ cr, ([p0, p1, p2, p3, p4].map (·.1)).foldl joinPy sl = cr := ⟨_, rfl⟩
    have hcl : cr.length ≤ 21 := by
      have := fold_len _ sl hkh.out
      rw [hcr, len_sl] at this
      exact this
    have hcn := Hid.mk (show (rootPy cr).2.1 = sl ∧ normPy cr = placeW wd by rw [← hcr]; exact ⟨hid.out.2.2.2.2.1, hid.out.2.2.2.2.2⟩)
    refine foldc_k (by walk_at "rm") F N KX3 T3 (N _ (.tail _ (.head _))).1 hkh.out rfl hcr ?_
    intro tcr h10 tk10 F10 N10
    replace hcr := Hid.mk hcr
    clear F N
    k_steps
    rename Fr _ _ _ _ => F
    rename News _ _ _ _ => N
    show wpAny _ _ _ _ _ _
    refine joine_k (by walk_at "rm") F N KX3 T3 (hkh.out p0.1 (.head _)) ?_
    intro tj h11 tk11 F11 N11
    clear F N
    k_steps
    rename Fr _ _ _ _ => F
    rename News _ _ _ _ => N
    show wpAny _ _ _ _ _ _
    refine ne_same rfl ?_
    k_steps
    rename Fr _ _ _ _ => F
    rename News _ _ _ _ => N
    show wpAny _ _ _ _ _ _
    refine join5_k (by walk_at "rm") F N KX3 T3 hkh.out hcr.out ?_
    intro tj5 h12 tk12 F12 N12
    clear F N
    k_steps
    rename Fr _ _ _ _ => F
    rename News _ _ _ _ => N
    show wpAny _ _ _ _ _ _
    refine ne_same rfl ?_
    k_steps
    rename Fr _ _ _ _ => F
    rename News _ _ _ _ => N
    show wpAny _ _ _ _ _ _
    refine norm_k (by walk_at "rm") F N KX3 T3 (by omega) (root_ne hcn.out.1) hcn.out.1 hcn.out.2 ?_
    intro tpl h13 tk13 F13 N13
    clear F N
    have htz : (sv ts).toArray.size ≤ 4 := by
      have := congrArg List.length hpre.tx
      rw [List.length_map, List.length_map] at this
      simp [sv, this]; omega
    k_steps
    rename Fr _ _ _ _ => F
    rename News _ _ _ _ => N
    show wpAny _ _ _ _ _ _
    refine append_K F N (.tail (fun z => hnp z.symm) (.tail (fun z => hpp z.symm) (.tail (fun z => hIp z.symm) (.head (cons_ne (fun z => hDD z.symm) (cells_ne hDp hRp)))))) ?_ (by rw [sizeLine_eq]; omega)
    intro h14 F14 N14
    have hpush : ((sv ts).toArray.push (.str (placeW wd) tpl)) = (sv (ts ++ [(placeW wd, tpl)])).toArray := sv_push ts _ _
    rw [hpush] at N14
    have htl : ts.length = i := by
      have := congrArg List.length hpre.tx
      rw [List.length_map, List.length_map] at this
      rw [this]; exact hws
    clear F N htz hpush
    k_steps
    rename Fr _ _ _ _ => F
    rename News _ _ _ _ => N
    show wpAny _ _ _ _ _ _
    refine item_at (v := .str (placeW wd) tpl) (News.isList N (.tail _ (.tail _ (.tail _ (.head _))))) (by omega) (by omega) (by rw [Int.toNat_natCast, ← htl]; simp [sv]) ?_ (by with_unfolding_all rfl) (by intro _; with_unfolding_all rfl)
    k_steps
    rename Fr _ _ _ _ => F
    rename News _ _ _ _ => N
    show wpAny _ _ _ _ _ _
    obtain ⟨jn, hjn⟩ : ∃ jn, Txt.join sl wd = jn := ⟨_, rfl⟩
    have hjl : jn.length ≤ 20000 := by rw [← hjn]; exact (join_small hwl.wd hwl.len).2
    refine joinN_k (N _ (.head _)).1 hnr.out hwl.wd hwl.len hjn ?_
    intro tjn tk15
    replace hjn := Hid.mk hjn
    k_steps
    show wpAny _ _ _ _ _ _
    refine ne_same (by rw [raw_sl, ← hjn.out]; rfl) ?_
    k_steps
    show wpAny _ _ _ _ _ _
    refine comp_own rfl (by decide) rfl (by decide) rfl ?_
    k_steps
    show wpAny _ _ _ _ _ _
    have KXc := KX3.keeps F.keep
    have Tc := T3.keeps F.keep
    have hmw := Hid.mk (And.intro hnr.out (And.intro hwl.wd hwl.len))
    refine comp_list (vs := sv ms) (k := 0) (fun i ys nx => ∃ us : List (Int × Tok), ys = vl elI us ∧ us.map (·.1) = (wd.take i).map (fun n => if n = na then (0 : Int) else 2) ∧ nx = []) rfl (N _ (.head _)).1 (by rw [sv, List.length_map, sizeLine_eq]; omega) ⟨[], rfl, rfl, rfl⟩ ?_ ?_
    · rintro Cc D I' j v ys nx mc hc tkc ioc lo htk hj hv ⟨us, rfl, hus, rfl⟩ - hDI F1 N1
      replace F1 : Fr _ Cc hc _ := F1
      replace N1 : News _ Cc hc _ := N1
      refine no_tests ?_
      rw [if_pos rfl]
      rw [sv, List.getElem?_map] at hv
      obtain ⟨z, hz, rfl⟩ := Option.map_eq_some_iff.mp hv
      have hzs' := Hid.mk (And.intro hus hz)
      clear hus hz hv
      k_steps
      · rename Fr _ _ _ _ => F2
        rename News _ _ _ _ => N2
        exact ElemEnd.intro [] F2 N2 (.head _) (.tail _ (.head _)) (fun _ h => nomatch h) ⟨_, vl_push us 0 _, side_more hzs'.out hmw.out.1 (if_pos (eq_of_beq (by assumption))), rfl⟩
      · rename Fr _ _ _ _ => F2
        rename News _ _ _ _ => N2
        exact ElemEnd.intro [] F2 N2 (.head _) (.tail _ (.head _)) (fun _ h => nomatch h) ⟨_, vl_push us 2 _, side_more hzs'.out hmw.out.1 (if_neg (beq_eq_false_iff_ne.mp (by assumption))), rfl⟩
    · rintro D h16 tk16 ys nx e16 - st16 hD hD0 - ⟨us, rfl, hus, rfl⟩
      have hus' := Hid.mk (show us.map (·.1) = wd.map (fun n => if n = na then (0 : Int) else 2) by rw [hus, List.take_of_length_le]; have := congrArg List.length hmw.out.1; rw [List.length_map] at this; simp [sv, this])
      have F16 := stays_fr F st16
      have N16 := news_one F (stays_news N st16) hD hD0
      have hDp' := not_in N hD0 _ (.tail _ (.tail _ (.tail _ (.head _))))
      have hDs' := not_in N hD0 _ (.tail _ (.tail _ (.tail _ (.tail _ (.head _)))))
      dsimp only at hDp' hDs'
      clear F N hus st16 hD hD0 KXc Tc
      k_steps
      rename Fr _ _ _ _ => F
      rename News _ _ _ _ => N
      show wpAny _ _ _ _ _ _
      have hul : us.length ≤ 5 := by
        have := congrArg List.length hus'.out
        rw [List.length_map, List.length_map] at this
        rw [this]; exact hwl.len
      refine kmk_add_lit F N (News.isList N (.tail _ (.head _))) (News.isList N (.head _)) (zs := vl elI (us ++ [(1, tk16)])) (by simp [vl]) (fun DS h17 F17 N17 l17 => ?_) (by rw [List.toList_toArray, vl, List.length_map, sizeLine_eq]; show us.length + 1 ≤ _; omega)
      have lDp := l17 _ (.tail _ (.tail _ (.tail _ (.tail _ (.tail _ (.head _))))))
      have lDs := l17 _ (.tail _ (.tail _ (.tail _ (.tail _ (.tail _ (.tail _ (.head _)))))))
      have l287 := l17 _ (.tail _ (.tail _ (.tail _ (.tail _ (.tail _ (.tail _ (.tail _ (.head _))))))))
      have lI := l17 _ (.tail _ (.tail _ (.tail _ (.tail _ (.head _)))))
      replace N17 : News B 281 h17 ((DS, listOf (vl elI (us ++ [(1, tk16)])).toArray 0) :: (I, io) :: (Dp, listOf (sv (ts ++ [(placeW wd, tpl)])).toArray (e + 1)) :: (Ds, listOf (refsS sd).toArray e') :: (287, o1) :: (286, o2) :: (285, o3) :: (284, o4) :: (283, oP) :: (282, oK) :: (213, o') :: R) := fun q hq => N17 q (by
        rcases List.mem_cons.mp hq with rfl | hq
        · exact .head _
        · exact .tail _ (.tail _ (.tail _ (.tail _ (.tail _ hq)))))
      dsimp only at lDp lDs l287 lI
      have hsl' : (refsS sd).toArray.size ≤ 4 := by
        have := congrArg List.length hpre.sx
        rw [List.length_map, List.length_map] at this
        simp [refsS, this]; omega
      clear F N l17
      k_steps
      show wpAny _ _ _ _ _ _
      refine append_K F17 N17 (.tail (Nat.ne_of_gt lDs) (.tail (fun z => hIs z.symm) (.tail hDD (.head (cells_ne hDs hRs))))) ?_ (by rw [sizeLine_eq]; omega)
      intro h18 F18 N18
      refine wpAny_execs_nil ?_
      have hq1 : (refsS sd).toArray.push (Value.ref DS) = (refsS (sd ++ [(DS, us ++ [(1, tk16)], 0)])).toArray := by simp [refsS]
      have hq2 : objsS (sd ++ [(DS, us ++ [(1, tk16)], 0)]) = objsS sd ++ [(DS, listOf (vl elI (us ++ [(1, tk16)])).toArray 0)] := by simp [objsS]
      rw [hq1] at N18
      have hmem : ∀ q ∈ objsS (sd ++ [(DS, us ++ [(1, tk16)], 0)]) ++ C, q = (DS, listOf (vl elI (us ++ [(1, tk16)])).toArray 0) ∨ q ∈ R := fun q hq => by
        rw [hq2, List.append_assoc] at hq
        rw [← hR]
        rcases List.mem_append.mp hq with hq | hq
        · exact .inr (List.mem_append_left _ hq)
        · rcases List.mem_append.mp hq with hq | hq
          · exact .inl (List.mem_singleton.mp hq)
          · exact .inr (List.mem_append_right _ hq)
      refine hQ1.out _ _ (TurnEnd.intro ((Dp, listOf (sv (ts ++ [(placeW wd, tpl)])).toArray (e + 1)) :: (Ds, listOf (refsS (sd ++ [(DS, us ++ [(1, tk16)], 0)])).toArray (e' + 1)) :: ([(287, o1), (286, o2), (285, o3), (284, o4), (283, oP), (282, oK), (213, o')] ++ (objsS (sd ++ [(DS, us ++ [(1, tk16)], 0)]) ++ C))) F18 N18 (.tail _ (.head _)) (fun q hq => ?_) ⟨ws ++ [wd], ts ++ [(placeW wd, tpl)], sd ++ [(DS, us ++ [(1, tk16)], 0)], e + 1, e' + 1, by rw [List.length_append, hws]; rfl, ⟨fun w hw => ?_, by rw [List.map_append, List.map_append, hpre.tx]; rfl, ?_, by walk_at "look", by walk_at "look", rfl, fun q hq => ?_⟩⟩)
      · rcases List.mem_cons.mp hq with rfl | hq
        · exact ⟨.tail _ (.tail _ (.head _)), hIp⟩
        rcases List.mem_cons.mp hq with rfl | hq
        · exact ⟨.tail _ (.tail _ (.tail _ (.head _))), hIs⟩
        rcases List.mem_append.mp hq with hq | hq
        · refine ⟨.tail _ (.tail _ (.tail _ (.tail _ (List.mem_append_left (bs := R) hq)))), ?_⟩
          simp only [List.mem_cons, List.not_mem_nil, or_false] at hq
          rcases hq with rfl | rfl | rfl | rfl | rfl | rfl | rfl
          · exact hI1
          · exact hI2
          · exact hI3
          · exact hI4
          · exact hI5
          · exact hI6
          · exact hI7
        · rcases hmem q hq with rfl | hq
          · exact ⟨.head _, Nat.ne_of_gt lI⟩
          · exact ⟨.tail _ (.tail _ (.tail _ (.tail _ (.tail _ (.tail _ (.tail _ (.tail _ (.tail _ (.tail _ (.tail _ hq)))))))))), hRI q hq⟩
      · rcases List.mem_append.mp hw with hw | hw
        · exact hpre.wd w hw
        · rw [List.mem_singleton.mp hw]; exact ⟨hwl.wd, hwl.len⟩
      · rw [List.map_append, List.map_append, hpre.sx]
        show _ ++ [(us ++ [(1, tk16)]).map (fun z : Int × Tok => z.1)] = _ ++ [sideW wd]
        rw [List.map_append, hus'.out]
        rfl
      · rcases hmem q hq with rfl | hq
        · exact ⟨Nat.ne_of_gt lDp, Nat.ne_of_gt lDs, l287⟩
        · exact ⟨hRp q hq, hRs q hq, hRf.far q hq⟩
  · rintro h19 tk19 m₁ nx htk19 F N ⟨ws, ts, sd, e, e', hws, hwd, htx, hsx, hsc, hsi, rfl, hap⟩
    have hRf : Far (objsS sd ++ C) := ⟨fun q hq => (hap q hq).2.2⟩
    replace F : Fr B 281 h19 _ := F
    replace N : News B 281 h19 ((Dp, listOf (sv ts).toArray e) :: (Ds, listOf (refsS sd).toArray e') :: (287, o1) :: (286, o2) :: (285, o3) :: (284, o4) :: (283, oP) :: (282, oK) :: (213, o') :: (objsS sd ++ C)) := N
    have hpre := Pre4.mk htx hsx hwd hws
    generalize hR : objsS sd ++ C = R at N hRf
    replace hR := Hid.mk hR
    clear htx hsx hwd hap hzs hC hDC N0 hr keep
    have hRo := hRf.offs
    unfold Halt
    intro htk1
    replace htk1 : 1 ≤ tk19 := htk1
    k_steps
    show wpAny _ _ _ _ _ _
    refine comp_own rfl (by decide) rfl (by decide) rfl ?_
    k_steps
    show wpAny _ _ _ _ _ _
    have KXc := KX3.keeps F.keep
    have Tc := T3.keeps F.keep
    have htz : ts.length = 4 := by
      have := congrArg List.length hpre.tx
      rw [List.length_map, List.length_map] at this
      rw [this]; exact hpre.ap
    refine comp_list (vs := sv ts) (k := e) (fun i ys nx => ∃ prs : PR, ys = refsV prs ∧ nx = objsV prs ∧ prs.map (fun q => q.2.1) = (ws.take i).map vw) rfl (N _ (.head _)).1 (by rw [sv, List.length_map, sizeLine_eq]; omega) ⟨[], rfl, rfl, rfl⟩ ?_ ?_
    · rintro Cc D I' j v ys nx mc hc tkc ioc lo htk hj hv ⟨prs, rfl, rfl, hprs⟩ hnx hDI F1 N1
      replace F1 : Fr _ Cc hc _ := F1
      replace N1 : News _ Cc hc _ := N1
      refine no_tests ?_
      rw [if_pos rfl]
      rw [sv, List.getElem?_map] at hv
      obtain ⟨z, hz, rfl⟩ := Option.map_eq_some_iff.mp hv
      obtain ⟨wz, hwz, hzw⟩ : ∃ wz, ws[j]? = some wz ∧ z.1 = placeW wz := by
        have := congrArg (fun l : List Str => l[j]?) hpre.tx
        rw [List.getElem?_map, hz, List.getElem?_map] at this
        cases q : ws[j]? with
        | none => rw [q] at this; cases this
        | some wz => rw [q] at this; exact ⟨wz, rfl, Option.some.inj this⟩
      have hww := hpre.wd wz (List.mem_of_getElem? hwz)
      have hprs' := Hid.mk (And.intro hprs hwz)
      have hnx' := Hid.mk hnx
      have hww' := Hid.mk hww
      obtain ⟨z1, z2⟩ := z
      obtain rfl : z1 = placeW wz := hzw
      have hup := up_all hww.mem
      have hsm := small_all hww.mem
      simp only [upOk, smallOk, Bool.and_eq_true, decide_eq_true_eq] at hup hsm
      have hup' := Hid.mk (And.intro hup.1.1.1.1.1.1 (And.intro hup.1.1.1.1.1.2 hsm.2))
      clear hprs hwz hnx hww hz hv hup hsm hj
      have htkc : 1 ≤ tkc := Nat.le_trans htk1 htk
      generalize hnv : objsV prs = nv at N1
      replace hnv := Hid.mk hnv
      k_steps
      rename Fr _ _ _ _ => F2
      rename News _ _ _ _ => N2
      show wpAny _ _ _ _ _ _
      rename_i tD htD hlD
      refine strs_k (d := 100) (by walk_at "rm") F2 N2 (upward_c w (KXc.keeps F2.keep) (Tc.keeps F2.keep) 64 rfl _ _ htkc hup'.out.2.2 hup'.out.2.1) ?_
      intro pa pts pe h3 tk3 hpx F3 N3 hpa
      replace hpx : pts.map (·.1) = wz.reverse := hpx.trans hup'.out.1
      have hkd : ∀ z ∈ pts.map (·.1), z ∈ pieceKinds := by rw [hpx]; exact wd_kinds hww'.out.wd
      clear F2 N2 hup'
      k_steps
      rename Fr _ _ _ _ => F4
      rename News _ _ _ _ => N4
      rename_i l5
      show wpAny _ _ _ _ _ _
      refine fold_k (by walk_at "rm") F4 N4 (KX3.keeps F.keep) (T3.keeps F.keep) (N4 _ (.tail _ (.head _))).1 (N4 _ (.head _)).1 hkd ?_
      intro q u1 u2 h5 tk5 F5 N5 hq hqn _
      have N6 := news_fold F4 N5 (.head _) hq hqn
      have hq2 : q ≠ I' ∧ q ≠ D := by
        rcases hqn with e | rfl
        · exact ⟨fun z => not_in N4 e _ (.tail _ (.tail _ (.head _))) z.symm, fun z => not_in N4 e _ (.tail _ (.tail _ (.tail _ (.head _)))) z.symm⟩
        · exact ⟨Nat.ne_of_gt l5.2.1, Nat.ne_of_gt l5.2.2.1⟩
      refine ElemEnd.intro (nv ++ [(q, tupO ((pts.map (·.1)).foldl lawStep (1, 1)).1 ((pts.map (·.1)).foldl lawStep (1, 1)).2 u1 u2)]) F5 N6 (.tail _ (.tail _ (.tail _ (.head _)))) (.tail _ (.tail _ (.tail _ (.tail _ (.head _))))) (fun p hp => ?_) ⟨prs ++ [(q, (pts.map (·.1)).foldl lawStep (1, 1), u1, u2)], refsV_push _ (q, _, u1, u2), (by rw [objsV_push, hnv.out]), pr_push hprs'.out.1 hprs'.out.2 hpx⟩
      rcases List.mem_append.mp hp with hp | hp
      · exact ⟨.tail _ (.tail _ (.tail _ (.tail _ (.tail _ hp)))), hnx'.out p (hnv.out ▸ hp)⟩
      · rw [List.mem_singleton.mp hp]
        exact ⟨.head _, hq2⟩
    · rintro D h20 tk20 ys nx e20 htk st20 hD hD0 hnx ⟨prs, rfl, rfl, hprs⟩
      have F20 := stays_fr F st20
      have N20 := news_mid (A := [(D, _), (Dp, _), (Ds, _), (287, _), (286, _), (285, _), (284, _), (283, _), (282, _), (213, _)]) (news_add F (news_one F (stays_news N st20) hD hD0) hnx)
      have hRo2 : Off (objsV prs ++ R) := six_off N hRo (by k_mem) (by k_mem) (by k_mem) (by k_mem) (by k_mem) (by k_mem) fun p hp => (hnx p hp).2.1
      have hD4 := not_in N hD0
      have hDc4 := neN (hD4 (284, o4) (by k_mem)).symm
      have hDc5 := neN (hD4 (285, o3) (by k_mem)).symm
      have hDc6 := neN (hD4 (286, o2) (by k_mem)).symm
      have hDc7 := neN (hD4 (287, o1) (by k_mem)).symm
      dsimp only at hDc4 hDc5 hDc6 hDc7
      have hDpn : (287 : Nat) < Dp := hDp
      have hDsn : (287 : Nat) < Ds := hDs
      clear lDT htk19 htk
      clear hnx N hD0 st20 hD F KXc Tc
      have hpr := Hid.mk (And.intro hprs (show ∀ p ∈ objsV prs, p ∈ objsV prs ++ R from fun p hp => List.mem_append_left _ hp))
      have hR2 := Hid.mk (show (∀ p ∈ objsS sd, p ∈ objsV prs ++ R) ∧ ∀ p ∈ C, p ∈ objsV prs ++ R from ⟨fun p hp => List.mem_append_right _ (hR.out ▸ List.mem_append_left _ hp), fun p hp => List.mem_append_right _ (hR.out ▸ List.mem_append_right _ hp)⟩)
      clear hprs hRf hR hRo
      generalize objsV prs ++ R = R2 at N20 hRo2 hpr hR2
      simp only [List.cons_append, List.nil_append] at N20
      clear hD4 F' N'
      (try dsimp only); (try k_fold)
      k_steps
      rename Fr _ _ _ _ => F
      rename News _ _ _ _ => N
      show wpAny _ _ _ _ _ _
      rename_i h21 oV dV
      clear F20 N20
      replace N : News B 281 h21 ((D, listOf (refsV prs).toArray e20) :: (Dp, listOf (sv ts).toArray e) :: (Ds, listOf (refsS sd).toArray e') :: (287, o1) :: (286, o2) :: (285, o3) :: (284, oV) :: (283, oP) :: (282, oK) :: (213, o') :: R2) := N
      have hc282 : h21.get? 282 = some oK := (N (282, oK) (by k_mem)).1
      have hlen : prs.length = 4 := by
        have := congrArg List.length hpr.out.1
        rw [List.length_map, List.length_map, sv, List.length_map, htz, List.take_of_length_le (by rw [hpre.ap]; exact Nat.le_refl _), hpre.ap] at this
        exact this
      have KC := clsC_in (fun q hq => (N q (mem5 (mem5 (hR2.out.2 q hq)))).1) (KX3.keeps F.keep)
      have Tc := T3.keeps F.keep
      refine comp_listS (vs := refsV prs) (k := e20) (fun i ys nx => ∃ kl : KL, ys = refsK kl ∧ nx = objsK kl ∧ kl.map (fun k => (k.1.a, k.1.n, k.1.d)) = (prs.take i).map (fun q => (q.1, q.2.1.1, q.2.1.2))) rfl (N _ (.head _)).1 (by rw [refsV, List.length_map, hlen, sizeLine_eq]; omega) ⟨[], rfl, rfl, rfl⟩ F.ns ?_ ?_
      · rintro Cc D' I' j v ys nx mc hc tkc ioc lo htk hj hv ⟨kl, rfl, rfl, hkl⟩ hnx hDI F1 N1
        replace F1 : Fr _ Cc hc _ := F1
        replace N1 : News _ Cc hc _ := N1
        refine no_tests ?_
        rw [if_pos rfl]
        rw [refsV, List.getElem?_map] at hv
        obtain ⟨z, hz, rfl⟩ := Option.map_eq_some_iff.mp hv
        have hkl' := Hid.mk (And.intro hkl hz)
        have hnx' := Hid.mk hnx
        clear hkl hnx hz hv hj htk
        generalize hnv : objsK kl = nv at N1
        replace hnv := Hid.mk hnv
        k_steps
        rename Fr _ _ _ _ => F2
        rename News _ _ _ _ => N2
        show wpAny _ _ _ _ _ _
        refine' key_k (K := C ++ KK w.params) ?r hP hI F2 N2 ?X Tc.nolimit ?_
        case r => walk_at "rm"
        case X => exact KC.keeps F2.keep
        intro x dx h3 tk3 F3 N3 hx hxd _
        have hxI := hx _ (.head _)
        have hxD := hx _ (.tail _ (.head _))
        refine ElemEnd.intro (nv ++ [(x, keyO dx (.ref z.1)), (dx, emptyDict)]) F3 N3 (.tail _ (.tail _ (.head _))) (.tail _ (.tail _ (.tail _ (.head _)))) (fun p hp => ?_) ⟨kl ++ [(⟨x, z.1, z.2.1.1, z.2.1.2⟩, dx)], (by simp [refsK]), (by rw [objsK_push, hnv.out]), take_map_push hkl'.out.1 hkl'.out.2 rfl⟩
        rcases List.mem_append.mp hp with hp | hp
        · exact ⟨.tail _ (.tail _ (.tail _ (.tail _ hp))), hnx'.out p (hnv.out ▸ hp)⟩
        · rcases List.mem_cons.mp hp with rfl | hp
          · exact ⟨.head _, fun z => hxI.1 z.symm, fun z => hxD.1 z.symm⟩
          · rw [List.mem_singleton.mp hp]
            exact ⟨.tail _ (.head _), fun z => hxI.2 z.symm, fun z => hxD.2 z.symm⟩
      · rintro D2 h22 tk22 ys nx e22 st22 hn22 hD hD0 hnx ⟨kl, rfl, rfl, hkl⟩
        have F22 := doneS_fr F st22 hn22
        have N22 := news_end (A := [(D2, _), (D, _), (Dp, _), (Ds, _), (287, _), (286, _), (285, _), (284, _), (283, _), (282, _), (213, _)]) (doneS_news F N st22 hD hD0 hnx)
        have hRo3 : Off (objsK kl ++ R2) := six_off N hRo2 (by k_mem) (by k_mem) (by k_mem) (by k_mem) (by k_mem) (by k_mem) fun p hp => (hnx p hp).2.1
        have hD4 := not_in N hD0
        have hEc4 := neN (hD4 (284, oV) (by k_mem)).symm
        have hEc5 := neN (hD4 (285, o3) (by k_mem)).symm
        have hEc6 := neN (hD4 (286, o2) (by k_mem)).symm
        have hEc7 := neN (hD4 (287, o1) (by k_mem)).symm
        dsimp only at hEc4 hEc5 hEc6 hEc7
        replace F22 : Fr B 281 h22 _ := F22
        replace N22 : News B 281 h22 _ := N22
        clear hnx N hD0 st22 hD F KC Tc hD4 hn22 hc282
        have hkk := Hid.mk (And.intro hkl (And.intro (show ∀ p ∈ objsV prs, p ∈ objsK kl ++ R2 from fun p hp => List.mem_append_right _ (hpr.out.2 p hp)) (And.intro (show ∀ p ∈ objsK kl, p ∈ objsK kl ++ R2 from fun p hp => List.mem_append_left _ hp) (And.intro (show ∀ p ∈ objsS sd, p ∈ objsK kl ++ R2 from fun p hp => List.mem_append_right _ (hR2.out.1 p hp)) (show ∀ p ∈ C, p ∈ objsK kl ++ R2 from fun p hp => List.mem_append_right _ (hR2.out.2 p hp))))))
        clear hkl hR2 hRo2
        generalize objsK kl ++ R2 = R3 at N22 hRo3 hkk
        simp only [List.cons_append, List.nil_append] at N22
        (try dsimp only); (try k_fold)
        k_steps
        rename Fr _ _ _ _ => F
        rename News _ _ _ _ => N
        rename IsRange _ _ _ _ _ _ _ _ => hr
        show wpAny _ _ _ _ _ _
        have hA := Hid.mk (show All4 ws ts sd prs kl from ⟨hpre.ap, hpre.wd, hpre.tx, hpre.sx, by rw [hpr.out.1, List.take_of_length_le]; rw [sv, List.length_map, htz, hpre.ap]; exact Nat.le_refl _, by rw [hkk.out.1, List.take_of_length_le]; rw [refsV, List.length_map]; exact Nat.le_refl _⟩)
        replace hkk : In4 (objsV prs) (objsK kl) (objsS sd) C R3 := ⟨hkk.out.2.1, hkk.out.2.2.1, hkk.out.2.2.2.1, hkk.out.2.2.2.2⟩
        clear hpre hpr hlen htz hws
        refine for_range (n := 4) (fun i m nx => m (Str.ofString "keys") = some (.ref D2) ∧ m (Str.ofString "sides") = some (.ref Ds) ∧ ∃ oT oD xT xD, oT.data = .cell xT ∧ oD.data = .cell xD ∧ nx = (D2, listOf (refsK kl).toArray e22) :: (D, listOf (refsV prs).toArray e20) :: (Dp, listOf (sv ts).toArray e) :: (Ds, listOf (refsS sd).toArray e') :: (287, o1) :: (286, oD) :: (285, oT) :: (284, oV) :: (283, oP) :: (282, oK) :: (213, o') :: R3) rfl hr (by decide) (by decide) F N ⟨by walk_at "look", by walk_at "look", o3, o2, none, none, d3, d2, rfl⟩ ?_ ?_
        · clear F N hr
          rintro I i v tv m1 nx h3 tk3 io htk3 hi rfl ⟨hmk, hms, oT, oD, xT, xD, dT, dD, rfl⟩ hoff F N
          replace F : Fr B 281 h3 _ := F
          replace N : News B 281 h3 _ := N
          rw [Int.zero_add, Int.mul_one] at F
          (try dsimp only); (try k_fold)
          have hoffA := Hid.mk (show ∀ a ∈ [D2, D, Dp, Ds, 287, 286, 285, 284, 283, 282, 213] ++ R3.map (·.1), a ≠ I from fun a ha => by
            have ha' : a ∈ ((D2, listOf (refsK kl).toArray e22) :: (D, listOf (refsV prs).toArray e20) :: (Dp, listOf (sv ts).toArray e) :: (Ds, listOf (refsS sd).toArray e') :: (287, o1) :: (286, oD) :: (285, oT) :: (284, oV) :: (283, oP) :: (282, oK) :: (213, o') :: R3).map (·.1) := ha
            obtain ⟨q, hq, rfl⟩ := List.mem_map.mp ha'
            exact hoff q hq)
          have hI5 := neN (hoff (285, oT) (by k_mem)).symm
          have hI6 := neN (hoff (286, oD) (by k_mem)).symm
          dsimp only at hI5 hI6
          clear hoff htk3
          obtain ⟨wi, ti, si, qi, ki, B4⟩ := hA.out.at hi
          replace B4 := Hid.mk B4
          refine wpAny_q ?_
          intro Q2 hQ2
          k_steps
          rename Fr _ _ _ _ => F
          rename News _ _ _ _ => N
          show wpAny _ _ _ _ _ _
          refine item_at (v := .ref ki.1.x) (News.isList N (by k_mem)) (by omega) (by omega) (by simp [refsK, B4.out.hk]) ?_ (by with_unfolding_all rfl) (by intro _; with_unfolding_all rfl)
          k_steps
          rename Fr _ _ _ _ => F
          rename News _ _ _ _ => N
          show wpAny _ _ _ _ _ _
          obtain ⟨cn, hcn⟩ : ∃ c, countK ki.1 (kl.map (·.1)) = c := ⟨_, rfl⟩
          refine countOf_k (by walk_at "rm") F N hP (clsC_in (fun q hq => (N q (by have hh := hkk.c q hq; repeat (first | exact hh | apply List.Mem.tail))).1) (KX3.keeps F.keep)) KX3 T3 hA.out B4.out (fun q hq => (N q (by have hh := hkk.v q hq; repeat (first | exact hh | apply List.Mem.tail))).1) (fun q hq => (N q (by have hh := hkk.k q hq; repeat (first | exact hh | apply List.Mem.tail))).1) (N (D2, _) (by k_mem)).1 hcn ?_
          intro uc h4 tk4 F4 N4
          have hcn2 := Hid.mk (show cn = PySem.Spec.countIn (.str ti.1) ((ts.map (·.1)).map PyData.str) by rw [← hcn]; exact hA.out.count B4.out)
          clear F N hcn
          k_steps
          rename Fr _ _ _ _ => F
          rename News _ _ _ _ => N
          show wpAny _ _ _ _ _ _
          refine item_at (v := .str ti.1 ti.2) (News.isList N (by k_mem)) (by omega) (by omega) (by simp [sv, B4.out.ht]) ?_ (by with_unfolding_all rfl) (by intro _; with_unfolding_all rfl)
          k_steps
          rename Fr _ _ _ _ => F
          rename News _ _ _ _ => N
          show wpAny _ _ _ _ _ _
          refine count_k (N (Dp, _) (by k_mem)).1 hcn2.out ?_
          intro ux tk5
          k_steps
          show wpAny _ _ _ _ _ _
          refine ne_same_int ?_
          k_steps
          rename Fr _ _ _ _ => F
          rename News _ _ _ _ => N
          rename IsRange _ _ _ _ _ _ _ _ => hr2
          show wpAny _ _ _ _ _ _
          refine for_range (n := i + 1) (fun j m nx => m (Str.ofString "i") = some (.int (i : Int) tv) ∧ m (Str.ofString "keys") = some (.ref D2) ∧ m (Str.ofString "sides") = some (.ref Ds) ∧ ∃ oT oD xT xD, oT.data = .cell xT ∧ oD.data = .cell xD ∧ nx = (I, io) :: (D2, listOf (refsK kl).toArray e22) :: (D, listOf (refsV prs).toArray e20) :: (Dp, listOf (sv ts).toArray e) :: (Ds, listOf (refsS sd).toArray e') :: (287, o1) :: (286, oD) :: (285, oT) :: (284, oV) :: (283, oP) :: (282, oK) :: (213, o') :: R3) rfl hr2 (range_small hi) (range_size i) F N ⟨by walk_at "look", by walk_at "look", by walk_at "look", oT, oD, xT, xD, dT, dD, rfl⟩ ?_ ?_
          · clear F N hr2 hcn2 dT dD
            rename Fr _ _ _ _ => Fx
            rename News _ _ _ _ => Nx
            clear Fx Nx
            clear xT xD oT oD
            rintro J j v tw m2 nx h5 tk6 jo htk6 hj rfl ⟨hmi, hmk, hms, oT, oD, xT, xD, dT, dD, rfl⟩ hoff F N
            replace F : Fr B 281 h5 _ := F
            replace N : News B 281 h5 _ := N
            rw [Int.zero_add, Int.mul_one] at F
            (try dsimp only); (try k_fold)
            have hoffJ := Hid.mk (show ∀ a ∈ [I, D2, D, Dp, Ds, 287, 286, 285, 284, 283, 282, 213] ++ R3.map (·.1), a ≠ J from fun a ha => by
              have ha' : a ∈ ((I, io) :: (D2, listOf (refsK kl).toArray e22) :: (D, listOf (refsV prs).toArray e20) :: (Dp, listOf (sv ts).toArray e) :: (Ds, listOf (refsS sd).toArray e') :: (287, o1) :: (286, oD) :: (285, oT) :: (284, oV) :: (283, oP) :: (282, oK) :: (213, o') :: R3).map (·.1) := ha
              obtain ⟨q, hq, rfl⟩ := List.mem_map.mp ha'
              exact hoff q hq)
            have hJ5 := neN (hoff (285, oT) (by k_mem)).symm
            have hJ6 := neN (hoff (286, oD) (by k_mem)).symm
            dsimp only at hJ5 hJ6
            clear hoff htk6
            obtain ⟨wj, tj, sj, qj, kj, C4⟩ := hA.out.at (show j < 4 by omega)
            replace C4 := Hid.mk C4
            refine wpAny_q ?_
            intro Q3 hQ3
            k_steps
            rename Fr _ _ _ _ => F
            rename News _ _ _ _ => N
            show wpAny _ _ _ _ _ _
            refine item_at (v := .ref ki.1.x) (News.isList N (by k_mem)) (by omega) (by omega) (by simp [refsK, B4.out.hk]) ?_ (by with_unfolding_all rfl) (by intro _; with_unfolding_all rfl)
            k_steps
            show wpAny _ _ _ _ _ _
            refine item_at (v := .ref kj.1.x) (News.isList N (by k_mem)) (by omega) (by omega) (by simp [refsK, C4.out.hk]) ?_ (by with_unfolding_all rfl) (by intro _; with_unfolding_all rfl)
            k_steps
            show wpAny _ _ _ _ _ _
            refine item_at (v := .ref si.1) (News.isList N (by k_mem)) (by omega) (by omega) (by simp [refsS, B4.out.hs]) ?_ (by with_unfolding_all rfl) (by intro _; with_unfolding_all rfl)
            k_steps
            show wpAny _ _ _ _ _ _
            refine item_at (v := .ref sj.1) (News.isList N (by k_mem)) (by omega) (by omega) (by simp [refsS, C4.out.hs]) ?_ (by with_unfolding_all rfl) (by intro _; with_unfolding_all rfl)
            k_steps
            rename Fr _ _ _ _ => F
            rename News _ _ _ _ => N
            show wpAny _ _ _ _ _ _
            obtain ⟨tb, htb⟩ : ∃ f : CmpOp → Bool, Hid ((∀ op, opB op (ki.1.n * kj.1.d - kj.1.n * ki.1.d) 0 = f op) ∧ ∀ op ∈ six, lcmp intC op (si.2.1.map (·.1)) (sj.2.1.map (·.1)) = f op) := ⟨fun op => opB op (crossW wi wj) 0, ⟨⟨fun op => by
              have e1 := Prod.mk.inj B4.out.ek
              have e2 := Prod.mk.inj C4.out.ek
              rw [e1.1, e1.2, e2.1, e2.2]; rfl, fun op ho => by rw [B4.out.es, C4.out.es]; exact (ops_pair B4.out.word C4.out.word ho).symm⟩⟩⟩
            have hV : ∀ q ∈ objsV prs, _ := fun q hq => (N q (by have hh := hkk.v q hq; repeat (first | exact hh | apply List.Mem.tail))).1
            have hK : ∀ q ∈ objsK kl, _ := fun q hq => (N q (by have hh := hkk.k q hq; repeat (first | exact hh | apply List.Mem.tail))).1
            have Ki := B4.out.keyOk hV hK
            have Kj := C4.out.keyOk hV hK
            have hsi2 : (si.1, listOf (vl elI si.2.1).toArray si.2.2) ∈ R3 := hkk.s _ (List.mem_map.mpr ⟨si, List.mem_of_getElem? B4.out.hs, rfl⟩)
            have hsj2 : (sj.1, listOf (vl elI sj.2.1).toArray sj.2.2) ∈ R3 := hkk.s _ (List.mem_map.mpr ⟨sj, List.mem_of_getElem? C4.out.hs, rfl⟩)
            replace hsi2 := Hid.mk hsi2
            replace hsj2 := Hid.mk hsj2
            clear hV hK
            refine told_k (op := .Lt) (by walk_at "rm") F N Ki Kj (lt_c w hP (clsC_in (fun q hq => (N q (by have hh := hkk.c q hq; repeat (first | exact hh | apply List.Mem.tail))).1) (KX3.keeps F.keep)) (KX3.keeps F.keep) (T3.keeps F.keep) Ki.key Kj.key Ki.pair Kj.pair) (htb.out.1 _) ?_
            clear Ki Kj
            intro h7 tk7 F7 N7 Ki Kj
            clear F N
            k_steps
            rename Fr _ _ _ _ => F
            rename News _ _ _ _ => N
            show wpAny _ _ _ _ _ _
            refine told_k (op := .LtE) (by walk_at "rm") F N Ki Kj (le_c w hP (clsC_in (fun q hq => (N q (by have hh := hkk.c q hq; repeat (first | exact hh | apply List.Mem.tail))).1) (KX3.keeps F.keep)) (KX3.keeps F.keep) (T3.keeps F.keep) Ki.key Kj.key Ki.pair Kj.pair) (htb.out.1 _) ?_
            clear Ki Kj
            intro h7 tk7 F7 N7 Ki Kj
            clear F N
            k_steps
            rename Fr _ _ _ _ => F
            rename News _ _ _ _ => N
            show wpAny _ _ _ _ _ _
            refine told_k (op := .Eq) (by walk_at "rm") F N Ki Kj (eq_c w hP (clsC_in (fun q hq => (N q (by have hh := hkk.c q hq; repeat (first | exact hh | apply List.Mem.tail))).1) (KX3.keeps F.keep)) (KX3.keeps F.keep) (T3.keeps F.keep) Ki.key Kj.key Ki.pair Kj.pair) (htb.out.1 _) ?_
            clear Ki Kj
            intro h7 tk7 F7 N7 Ki Kj
            clear F N
            k_steps
            rename Fr _ _ _ _ => F
            rename News _ _ _ _ => N
            show wpAny _ _ _ _ _ _
            refine told_k (op := .NotEq) (by walk_at "rm") F N Ki Kj (ne_c w hP (clsC_in (fun q hq => (N q (by have hh := hkk.c q hq; repeat (first | exact hh | apply List.Mem.tail))).1) (KX3.keeps F.keep)) (KX3.keeps F.keep) (T3.keeps F.keep) Ki.key Kj.key Ki.pair Kj.pair) (htb.out.1 _) ?_
            clear Ki Kj
            intro h7 tk7 F7 N7 Ki Kj
            clear F N
            k_steps
            rename Fr _ _ _ _ => F
            rename News _ _ _ _ => N
            show wpAny _ _ _ _ _ _
            refine told_k (op := .GtE) (by walk_at "rm") F N Ki Kj (ge_c w hP (clsC_in (fun q hq => (N q (by have hh := hkk.c q hq; repeat (first | exact hh | apply List.Mem.tail))).1) (KX3.keeps F.keep)) (KX3.keeps F.keep) (T3.keeps F.keep) Ki.key Kj.key Ki.pair Kj.pair) (htb.out.1 _) ?_
            clear Ki Kj
            intro h7 tk7 F7 N7 Ki Kj
            clear F N
            k_steps
            rename Fr _ _ _ _ => F
            rename News _ _ _ _ => N
            show wpAny _ _ _ _ _ _
            refine told_k (op := .Gt) (by walk_at "rm") F N Ki Kj (gt_c w hP (clsC_in (fun q hq => (N q (by have hh := hkk.c q hq; repeat (first | exact hh | apply List.Mem.tail))).1) (KX3.keeps F.keep)) (KX3.keeps F.keep) (T3.keeps F.keep) Ki.key Kj.key Ki.pair Kj.pair) (htb.out.1 _) ?_
            clear Ki Kj
            intro h7 tk7 F7 N7 Ki Kj
            clear F N
            k_steps
            rename Fr _ _ _ _ => F
            rename News _ _ _ _ => N
            show wpAny _ _ _ _ _ _
            clear Ki Kj
            refine sides_cmp (op := .Lt) (code := 0) (by decide) (.inl ⟨rfl, rfl⟩) ?u (N (si.1, _) (by have hh := hsi2.out; repeat (first | exact hh | apply List.Mem.tail))).1 (N (sj.1, _) (by have hh := hsj2.out; repeat (first | exact hh | apply List.Mem.tail))).1 (htb.out.2 _ (by decide)) ?_
            case u => decide
            k_steps
            show wpAny _ _ _ _ _ _
            refine sides_cmp (op := .LtE) (code := 1) (by decide) (.inr (.inl ⟨rfl, rfl⟩)) ?u (N (si.1, _) (by have hh := hsi2.out; repeat (first | exact hh | apply List.Mem.tail))).1 (N (sj.1, _) (by have hh := hsj2.out; repeat (first | exact hh | apply List.Mem.tail))).1 (htb.out.2 _ (by decide)) ?_
            case u => decide
            k_steps
            show wpAny _ _ _ _ _ _
            refine sides_cmp (op := .Eq) (code := 2) (by decide) (.inr (.inr (.inr (.inr (.inl ⟨rfl, rfl⟩))))) ?u (N (si.1, _) (by have hh := hsi2.out; repeat (first | exact hh | apply List.Mem.tail))).1 (N (sj.1, _) (by have hh := hsj2.out; repeat (first | exact hh | apply List.Mem.tail))).1 (htb.out.2 _ (by decide)) ?_
            case u => decide
            k_steps
            show wpAny _ _ _ _ _ _
            refine sides_cmp (op := .NotEq) (code := 3) (by decide) (.inr (.inr (.inr (.inr (.inr ⟨rfl, rfl⟩))))) ?u (N (si.1, _) (by have hh := hsi2.out; repeat (first | exact hh | apply List.Mem.tail))).1 (N (sj.1, _) (by have hh := hsj2.out; repeat (first | exact hh | apply List.Mem.tail))).1 (htb.out.2 _ (by decide)) ?_
            case u => decide
            k_steps
            show wpAny _ _ _ _ _ _
            refine sides_cmp (op := .GtE) (code := 5) (by decide) (.inr (.inr (.inr (.inl ⟨rfl, rfl⟩)))) ?u (N (si.1, _) (by have hh := hsi2.out; repeat (first | exact hh | apply List.Mem.tail))).1 (N (sj.1, _) (by have hh := hsj2.out; repeat (first | exact hh | apply List.Mem.tail))).1 (htb.out.2 _ (by decide)) ?_
            case u => decide
            k_steps
            show wpAny _ _ _ _ _ _
            refine sides_cmp (op := .Gt) (code := 4) (by decide) (.inr (.inr (.inl ⟨rfl, rfl⟩))) ?u (N (si.1, _) (by have hh := hsi2.out; repeat (first | exact hh | apply List.Mem.tail))).1 (N (sj.1, _) (by have hh := hsj2.out; repeat (first | exact hh | apply List.Mem.tail))).1 (htb.out.2 _ (by decide)) ?_
            case u => decide
            k_steps
            show wpAny _ _ _ _ _ _
            rename Fr _ _ _ _ => F
            rename News _ _ _ _ => N
            refine comp_own rfl (by decide) rfl (by decide) rfl ?_
            k_steps
            rename Fr _ _ _ _ => F
            rename News _ _ _ _ => N
            rename IsRange _ _ _ _ _ _ _ _ => hr3
            show wpAny _ _ _ _ _ _
            rename_i TL hA1 lTL hA2 oT' dT' tkA DL hA3 lDL hA4 oD' Fy Ny dD' h8 tk8 x1 x2 x3 keep3
            clear Fy Ny keep3
            have hc285 : h8.get? 285 = some oT' := (N (285, oT') (by k_mem)).1
            have hc286 : h8.get? 286 = some oD' := (N (286, oD') (by k_mem)).1
            have hTL : h8.get? TL = some (boolsO tb) := (N (TL, boolsO tb) (by k_mem)).1
            have hDL : h8.get? DL = some (boolsO tb) := (N (DL, boolsO tb) (by k_mem)).1
            refine comp_range (n := 6) (fun i ys nx => ys = [] ∧ nx = []) rfl hr3 (by decide) (by decide) (by rw [sizeLine_eq]; omega) ⟨rfl, rfl⟩ ?_ ?_
            · rintro Cc D' I' jm v ys nx mc hc tkc ioc lo htk hjm ⟨tz, rfl⟩ ⟨rfl, rfl⟩ hnx hDI F1 N1
              replace F1 : Fr _ Cc hc _ := F1
              replace N1 : News _ Cc hc _ := N1
              rw [Int.zero_add, Int.mul_one] at F1
              clear F N hnx htk
              obtain ⟨b, hb⟩ := bools_at tb hjm
              refine one_test ?_
              k_steps
              rename Fr _ _ _ _ => F2
              show wpAny _ _ _ _ _ _
              refine item_at (v := .bool b) ⟨_, F2.keep _ _ hTL, rfl, _, rfl⟩ (by omega) (by omega) hb ?_ (by with_unfolding_all rfl) (by intro _; with_unfolding_all rfl)
              k_steps
              rename Fr _ _ _ _ => F2
              show wpAny _ _ _ _ _ _
              refine item_at (v := .bool b) ⟨_, F2.keep _ _ hDL, rfl, _, rfl⟩ (by omega) (by omega) hb ?_ (by with_unfolding_all rfl) (by intro _; with_unfolding_all rfl)
              k_steps
              show wpAny _ _ _ _ _ _
              refine isnot_same ?_
              k_steps
              exact SkipEnd.intro [] F2 N1 (.head _) (.tail _ (.head _)) (fun _ h => nomatch h) ⟨rfl, rfl⟩
            · rintro D5 h9 tk9 ys nx e5 - st9 hD5 hD50 - ⟨rfl, rfl⟩
              have F9 := stays_fr F st9
              have N9 := news_one F (stays_news N st9) hD5 hD50
              clear F N st9 hD50 hD5 hr3 hc285 hc286 hTL hDL
              (try dsimp only); (try k_fold)
              k_steps
              rename Fr _ _ _ _ => F
              rename News _ _ _ _ => N
              rename_i E0 hA5 lE0
              show wpAny _ _ _ _ _ _
              refine sides_cmp (op := .NotEq) (code := 3) (x := []) (y := []) (r := false) (by decide) (.inr (.inr (.inr (.inr (.inr ⟨rfl, rfl⟩))))) ?u (N (D5, _) (by k_mem)).1 (N (E0, _) (by k_mem)).1 rfl ?_
              case u => decide
              k_steps
              exact hQ3.out _ _ (TurnEnd.intro ((I, io) :: (D2, listOf (refsK kl).toArray e22) :: (D, listOf (refsV prs).toArray e20) :: (Dp, listOf (sv ts).toArray e) :: (Ds, listOf (refsS sd).toArray e') :: (287, o1) :: (286, oD') :: (285, oT') :: (284, oV) :: (283, oP) :: (282, oK) :: (213, o') :: R3) F N (by k_mem) (fun q hq => ⟨by have hh := hq; repeat (first | exact hh | apply List.Mem.tail), hoffJ.out q.1 (List.mem_map_of_mem hq)⟩) ⟨by walk_at "look", by walk_at "look", by walk_at "look", oT', oD', _, _, dT', dD', rfl⟩)
          · clear F N hr2 dT dD
            rename Fr _ _ _ _ => Fx
            rename News _ _ _ _ => Nx
            clear Fx Nx
            rintro h6 tk6 m3 nx - F N ⟨hmi, hmk, hms, oT, oD, xT, xD, dT, dD, rfl⟩
            replace F : Fr B 281 h6 _ := F
            replace N : News B 281 h6 _ := N
            (try dsimp only); (try k_fold)
            k_steps
            exact hQ2.out _ _ (TurnEnd.intro ((D2, listOf (refsK kl).toArray e22) :: (D, listOf (refsV prs).toArray e20) :: (Dp, listOf (sv ts).toArray e) :: (Ds, listOf (refsS sd).toArray e') :: (287, o1) :: (286, oD) :: (285, oT) :: (284, oV) :: (283, oP) :: (282, oK) :: (213, o') :: R3) F N (.head _) (fun q hq => ⟨.tail _ hq, hoffA.out q.1 (List.mem_map_of_mem hq)⟩) ⟨hmk, hms, oT, oD, xT, xD, dT, dD, rfl⟩)
        · clear F N hr
          rename Fr _ _ _ _ => Fx
          rename News _ _ _ _ => Nx
          clear Fx Nx
          rintro h6 tk6 m3 nx - F N ⟨-, -, oT, oD, xT, xD, -, -, rfl⟩
          replace F : Fr B 281 h6 _ := F
          replace N : News B 281 h6 _ := N
          (try dsimp only); (try k_fold)
          k_steps
          rename Fr _ _ _ _ => F
          rename News _ _ _ _ => N
          rename IsRange _ _ _ _ _ _ _ _ => hr4
          show wpAny _ _ _ _ _ _
          refine for_rangeC (n := 15) (fun i m nx => ∃ oM xM, oM.data = .cell xM ∧ nx = (D2, listOf (refsK kl).toArray e22) :: (D, listOf (refsV prs).toArray e20) :: (Dp, listOf (sv ts).toArray e) :: (Ds, listOf (refsS sd).toArray e') :: (287, oM) :: (286, oD) :: (285, oT) :: (284, oV) :: (283, oP) :: (282, oK) :: (213, o') :: R3) rfl hr4 (by decide) (by decide) F N ⟨o1, none, d1, rfl⟩ ?_ ?_
          · clear F N hr4
            rename Fr _ _ _ _ => Fx
            rename News _ _ _ _ => Nx
            clear Fx Nx
            rintro I i v tv m1 nx h3 tk3 io htk3 hi rfl ⟨oM, xM, dM, rfl⟩ hoff F N
            replace F : Fr B 281 h3 _ := F
            replace N : News B 281 h3 _ := N
            have hoffA := Hid.mk (show ∀ a ∈ [D2, D, Dp, Ds, 287, 286, 285, 284, 283, 282, 213] ++ R3.map (·.1), a ≠ I from fun a ha => by
              have ha' : a ∈ ((D2, listOf (refsK kl).toArray e22) :: (D, listOf (refsV prs).toArray e20) :: (Dp, listOf (sv ts).toArray e) :: (Ds, listOf (refsS sd).toArray e') :: (287, oM) :: (286, oD) :: (285, oT) :: (284, oV) :: (283, oP) :: (282, oK) :: (213, o') :: R3).map (·.1) := ha
              obtain ⟨q, hq, rfl⟩ := List.mem_map.mp ha'
              exact hoff q hq)
            have hI7 := neN (hoff (287, oM) (by k_mem)).symm
            dsimp only at hI7
            clear hoff htk3
            refine wpAny_q2 ?_
            intro Q4 hQ4
            (try dsimp only); (try k_fold)
            k_steps
            rename Fr _ _ _ _ => F
            rename News _ _ _ _ => N
            show wpAny _ _ _ _ _ _
            walk_at "swap"
            k_steps
            rename Fr _ _ _ _ => F
            rename News _ _ _ _ => N
            rename IsRange _ _ _ _ _ _ _ _ => hr5
            show wpAny _ _ _ _ _ _
            rename_i hB1 oN Fz Nz dN h8 tk8 x1 x2 x3 keep5
            clear Fz Nz keep5
            rw [show (1 + (i : Int) * 1) = ((i + 1 : Nat) : Int) by omega] at dN
            have hc287 : h8.get? 287 = some oN := (N (287, oN) (by k_mem)).1
            refine comp_rangeS (n := 4) (fun j ys nx => ∃ cs : List (Nat × Tok), ys = intsV cs ∧ nx = [] ∧ cs.map (·.1) = (List.range j).filter (bitM (i + 1))) rfl hr5 (by decide) (by decide) (by rw [sizeLine_eq]; omega) ⟨[], rfl, rfl, rfl⟩ F.ns ?_ ?_
            · rintro Cc D' I' jm v ys nx mc hc tkc ioc lo htk hjm ⟨tz, rfl⟩ ⟨cs, rfl, rfl, hcs⟩ hnx hDI F1 N1
              replace F1 : Fr _ Cc hc _ := F1
              replace N1 : News _ Cc hc _ := N1
              rw [Int.zero_add, Int.mul_one] at F1
              clear F N hnx htk
              replace hcs := Hid.mk hcs
              refine one_test ?_
              k_steps
              · exact ElemEnd.intro [] F1 N1 (.head _) (.tail _ (.head _)) (fun _ h => nomatch h) ⟨cs ++ [(jm, tz)], intsV_push _ _ _, rfl, bit_in hcs.out (by assumption)⟩
              · exact SkipEnd.intro [] F1 N1 (.head _) (.tail _ (.head _)) (fun _ h => nomatch h) ⟨cs, rfl, rfl, bit_out hcs.out (by assumption)⟩
            · rintro D4 h9 tk9 ys nx e9 st9 hn9 hD9 hD90 hnx9 ⟨cs, rfl, rfl, hcs⟩
              have F9 := doneS_fr F st9 hn9
              have N9 : News B 281 h9 ((D4, listOf (intsV cs).toArray e9) :: (I, io) :: (D2, listOf (refsK kl).toArray e22) :: (D, listOf (refsV prs).toArray e20) :: (Dp, listOf (sv ts).toArray e) :: (Ds, listOf (refsS sd).toArray e') :: (287, oN) :: (286, oD) :: (285, oT) :: (284, oV) :: (283, oP) :: (282, oK) :: (213, o') :: R3) := fun p hp => doneS_news F N st9 hD9 hD90 hnx9 p (List.mem_append_left _ hp)
              replace F9 : Fr B 281 h9 _ := F9
              have hCh := chosen_of hi hcs
              obtain ⟨z0, cs, rfl⟩ : ∃ a b, cs = a :: b := by
                cases cs with
                | nil => exact absurd rfl hCh.ne
                | cons a b => exact ⟨a, b, rfl⟩
              replace hCh := Hid.mk hCh
              clear hcs F N hr5 st9 hn9 hD9 hD90 hnx9 hc287
              (try dsimp only); (try k_fold)
              k_steps
              rename Fr _ _ _ _ => F
              rename News _ _ _ _ => N
              show wpAny _ _ _ _ _ _
              refine comp_own rfl (by decide) rfl (by decide) rfl ?_
              k_steps
              rename Fr _ _ _ _ => F
              rename News _ _ _ _ => N
              show wpAny _ _ _ _ _ _
              have hc284 : h9.get? 284 = some oV := (N (284, oV) (by k_mem)).1
              have hDl : h9.get? D = some (listOf (refsV prs).toArray e20) := (N (D, _) (by k_mem)).1
              refine comp_list (vs := intsV (z0 :: cs)) (k := e9) (fun j ys nx => ys = ((z0 :: cs).take j).map (fun z => Value.ref (pickV ws prs z.1).a) ∧ nx = []) rfl (N (D4, _) (.head _)).1 (by rw [intsV, List.length_map, sizeLine_eq]; have := hCh.out.len; omega) ⟨rfl, rfl⟩ ?_ ?_
              · rintro Cc D' I' jm v ys nx mc hc tkc ioc lo htk hjm hv ⟨rfl, rfl⟩ hnx hDI F1 N1
                replace F1 : Fr _ Cc hc _ := F1
                replace N1 : News _ Cc hc _ := N1
                rw [intsV, List.getElem?_map] at hv
                obtain ⟨z, hz, rfl⟩ := Option.map_eq_some_iff.mp hv
                have hz4 := hCh.out.lt z (List.mem_of_getElem? hz)
                have P := Hid.mk (hA.out.pick hz4)
                replace hz := Hid.mk hz
                clear F N hnx htk hv hjm
                refine no_tests ?_
                rw [if_pos rfl]
                k_steps
                rename Fr _ _ _ _ => F2
                show wpAny _ _ _ _ _ _
                refine item_at (v := .ref (pickV ws prs z.1).a) ⟨_, F2.keep _ _ hDl, rfl, _, rfl⟩ (by omega) (by omega) (by simp [refsV, P.out.hq, pickV]) ?_ (by with_unfolding_all rfl) (by intro _; with_unfolding_all rfl)
                k_steps
                exact ElemEnd.intro [] F2 N1 (.head _) (.tail _ (.head _)) (fun _ h => nomatch h) ⟨take_push (f := fun z : Nat × Tok => Value.ref (pickV ws prs z.1).a) hz.out, rfl⟩
              · rintro D5 h10 tk10 ys nx e10 - st10 hD10 hD100 - ⟨rfl, rfl⟩
                have F10 := stays_fr F st10
                have N10 := news_one F (stays_news N st10) hD10 hD100
                clear F N st10 hD10 hD100 hc284 hDl
                rw [row_list] at N10
                (try dsimp only); (try k_fold)
                k_steps
                rename Fr _ _ _ _ => F
                rename News _ _ _ _ => N
                show wpAny _ _ (call (.builtin "sorted") [.ref D5] [(Str.ofString "key", .ref 348)]) _ _ _
                refine' sorted_k (K := C ++ KK w.params) (ps := (z0 :: cs).map fun z => pickV ws prs z.1) ?R hP hI F N ?X KX3 T3 ?hl ?h1 ?h4 ?hd ?hP ?h
                case R => walk_at "rm"
                case X => exact fun h F N => clsC_in (fun q hq => (N q (by have hh := hkk.c q hq; repeat (first | exact hh | apply List.Mem.tail))).1) (KX3.keeps F.keep)
                case hl => exact ⟨_, (N (D5, _) (.head _)).1, rfl, _, rfl⟩
                case h1 => rw [List.length_map]; exact Nat.succ_pos _
                case h4 => rw [List.length_map]; exact hCh.out.len
                case hd =>
                  intro q hq
                  obtain ⟨z, hz, rfl⟩ := List.mem_map.mp hq
                  exact (vw_small (hA.out.pick (hCh.out.lt z hz)).word).2.1
                case hP =>
                  intro h F N q hq
                  obtain ⟨z, hz, rfl⟩ := List.mem_map.mp hq
                  exact hA.out.pairAt (hCh.out.lt z hz) (fun q hq => (N q (by have hh := hkk.v q hq; repeat (first | exact hh | apply List.Mem.tail))).1)
                intro D6 c6 qs h11 tk11 F11 N11 h6 S
                obtain ⟨il, ih, qr, qi, hil, hih, rfl, hlast, hnm, hpw, hcom, hmee⟩ := hA.out.ends hCh.out S
                replace hnm := Hid.mk hnm
                replace hpw := Hid.mk hpw
                replace hcom := Hid.mk hcom
                replace hmee := Hid.mk hmee
                replace hlast := Hid.mk (congrArg (List.map fun v : VD => Value.ref v.a) hlast)
                clear F N S h6
                k_steps
                rename Fr _ _ _ _ => F
                rename News _ _ _ _ => N
                show wpAny _ _ _ _ _ _
                rename_i h12
                have hD6 : h12.get? D6 = some (listOf ((qi.map fun v : VD => Value.ref v.a) ++ [Value.ref (pickV ws prs ih).a]).toArray c6) := by
                  have e := (N (D6, _) (.head _)).1
                  dsimp only at e
                  rw [hlast.out, List.map_append] at e
                  exact e
                refine item_last ⟨_, hD6, rfl, _, rfl⟩ ?_
                clear hD6
                k_steps
                show wpAny _ _ _ _ _ _
                have hV : ∀ q ∈ objsV prs, _ := fun q hq => (N q (by have hh := hkk.v q hq; repeat (first | exact hh | apply List.Mem.tail))).1
                obtain ⟨⟨u1, u2, e1⟩, n1, m1'⟩ := hA.out.pairAt hil hV
                obtain ⟨⟨u3, u4, e2⟩, n2, m2'⟩ := hA.out.pairAt hih hV
                have hpos := (vw_small (hA.out.pick hil).word).2.1
                refine ans_k (d := 100) (by walk_at "rm") F N (simplest_c w (KX3.keeps F.keep) (T3.keeps F.keep) _ _ _ _ _ _ u1 u2 u3 u4 n1 ⟨hpos, m1'.2⟩ n2 e1 e2) ?_
                clear hV e1 e2 n1 n2 m1' m2' hpos
                rintro _ h13 tk13 ⟨q, t1, t2, rfl, hq⟩ _ F13 N13
                replace hq := Hid.mk hq
                clear F N
                k_steps
                rename Fr _ _ _ _ => F
                rename News _ _ _ _ => N
                show wpAny _ _ _ _ _ _
                refine strs_k (d := 100) (by walk_at "rm") F N (names_c w (KX3.keeps F.keep) (T3.keeps F.keep) q _ _ t1 t2 hq.out) ?_
                intro pa pts pe h14 tk14 hpx F14 N14 hpa
                replace hpx := Hid.mk (hpx.trans hnm.out)
                clear F N hq hnm
                k_steps
                rename Fr _ _ _ _ => F
                rename News _ _ _ _ => N
                show wpAny _ _ _ _ _ _
                obtain ⟨jn, hjn⟩ : ∃ jn, Txt.join sl (cprePy (pickW ws il) (pickW ws ih)) = jn := ⟨_, rfl⟩
                have hjl : jn.length ≤ 20000 := by rw [← hjn]; exact (join_small hpw.out.wd hpw.out.len).2
                refine joinN_k (N (pa, _) (.head _)).1 hpx.out hpw.out.wd hpw.out.len hjn ?_
                intro tjn tk15
                replace hjn := Hid.mk hjn
                k_steps
                rename Fr _ _ _ _ => F
                rename News _ _ _ _ => N
                show wpAny _ _ _ _ _ _
                rename_i h15
                walk_at "swap"
                k_steps
                rename Fr _ _ _ _ => F
                rename News _ _ _ _ => N
                show wpAny _ _ _ _ _ _
                have hc283 : h15.get? 283 = some oP := (N (283, oP) (by k_mem)).1
                have hDl : h15.get? Dp = some (listOf (sv ts).toArray e) := (N (Dp, _) (by k_mem)).1
                refine comp_listS (vs := intsV (z0 :: cs)) (k := e9) (fun j ys nx => ys = ((z0 :: cs).take j).map (fun z => Value.str (pickT ts z.1).1 (pickT ts z.1).2) ∧ nx = []) rfl (N (D4, _) (by k_mem)).1 (by rw [intsV, List.length_map, sizeLine_eq]; have := hCh.out.len; omega) ⟨rfl, rfl⟩ F.ns ?_ ?_
                · rintro Cc D' I' jm v ys nx mc hc tkc ioc lo htk hjm hv ⟨rfl, rfl⟩ hnx hDI F1 N1
                  replace F1 : Fr _ Cc hc _ := F1
                  replace N1 : News _ Cc hc _ := N1
                  rw [intsV, List.getElem?_map] at hv
                  obtain ⟨z, hz, rfl⟩ := Option.map_eq_some_iff.mp hv
                  have hz4 := hCh.out.lt z (List.mem_of_getElem? hz)
                  have P := Hid.mk (hA.out.pick hz4)
                  replace hz := Hid.mk hz
                  clear F N hnx htk hv hjm
                  refine no_tests ?_
                  rw [if_pos rfl]
                  k_steps
                  rename Fr _ _ _ _ => F2
                  show wpAny _ _ _ _ _ _
                  refine item_at (v := .str (pickT ts z.1).1 (pickT ts z.1).2) ⟨_, F2.keep _ _ hDl, rfl, _, rfl⟩ (by omega) (by omega) (by simp [sv, P.out.ht]) ?_ (by with_unfolding_all rfl) (by intro _; with_unfolding_all rfl)
                  k_steps
                  exact ElemEnd.intro [] F2 N1 (.head _) (.tail _ (.head _)) (fun _ h => nomatch h) ⟨take_push (f := fun z : Nat × Tok => Value.str (pickT ts z.1).1 (pickT ts z.1).2) hz.out, rfl⟩
                · rintro D7 h16 tk16 ys nx e16 st16 hn16 hD16 hD160 hnx16 ⟨rfl, rfl⟩
                  have F16 := doneS_fr F st16 hn16
                  have N16 := doneS_news F N st16 hD16 hD160 hnx16
                  simp only [List.append_nil] at N16
                  replace F16 : Fr B 281 h16 _ := F16
                  replace N16 : News B 281 h16 _ := N16
                  rw [some_list] at N16
                  clear F N st16 hn16 hD16 hD160 hnx16 hc283 hDl hpa
                  obtain ⟨pl, hpl⟩ : ∃ x, placeW (cprePy (pickW ws il) (pickW ws ih)) = x := ⟨_, rfl⟩
                  have hlow := Hid.mk (show pl = Str.ofString "/" ++ jn by rw [← hpl, ← hjn.out]; rfl)
                  replace hcom := Hid.mk (hcom.out.trans hpl)
                  replace hmee := Hid.mk (hmee.out.trans hpl)
                  clear hpl hjn hpx
                  (try dsimp only); (try k_fold)
                  k_steps
                  rename Fr _ _ _ _ => F
                  rename News _ _ _ _ => N
                  show wpAny _ _ _ _ _ _
                  have hlt4 : ∀ z ∈ cs, z.1 < 4 := fun z hz => hCh.out.lt z (.tail _ hz)
                  have h04 := hCh.out.lt z0 (.head _)
                  have hcl : (cs.map fun z => pickT ts z.1).length < 4 := by rw [List.length_map]; have := hCh.out.len; rw [List.length_cons] at this; omega
                  have hwd : ∀ w ∈ pickW ws z0.1 :: cs.map (fun z => pickW ws z.1), Word w := fun w hw => by
                    rcases List.mem_cons.mp hw with rfl | hw
                    · exact (hA.out.pick h04).word
                    · obtain ⟨z, hz, rfl⟩ := List.mem_map.mp hw
                      exact (hA.out.pick (hlt4 z hz)).word
                  have hpt := hA.out.placesOf hlt4
                  have hp0 := (hA.out.pick h04).et
                  refine common_k (by walk_at "rm") F N KX3 T3 (N (D7, _) (.head _)).1 hcl (by rw [List.map_cons, List.map_cons, hpt, hp0]) hwd hcom.out ?_
                  intro tcp h17 tk17 F17 N17
                  clear F N
                  replace hlt4 := Hid.mk hlt4
                  replace hwd := Hid.mk hwd
                  replace hpt := Hid.mk hpt
                  replace hp0 := Hid.mk hp0
                  clear hcom hcl h04
                  k_steps
                  rename Fr _ _ _ _ => F
                  rename News _ _ _ _ => N
                  show wpAny _ _ _ _ _ _
                  refine ne_same hlow.out ?_
                  k_steps
                  rename Fr _ _ _ _ => F
                  rename News _ _ _ _ => N
                  show wpAny _ _ _ _ _ _
                  rename_i It h18 tk18 l18
                  refine meets_k (by walk_at "rm") F N l18 KX3 T3 (.head _) hp0.out hpt.out hwd.out hmee.out ?_
                  intro tmp h19 tk19 F19 N19
                  clear F N l18
                  k_steps
                  rename Fr _ _ _ _ => F
                  rename News _ _ _ _ => N
                  show wpAny _ _ _ _ _ _
                  refine ne_same hlow.out ?_
                  k_steps
                  exact hQ4.out _ _ (TurnEnd.intro ((D2, listOf (refsK kl).toArray e22) :: (D, listOf (refsV prs).toArray e20) :: (Dp, listOf (sv ts).toArray e) :: (Ds, listOf (refsS sd).toArray e') :: (287, oN) :: (286, oD) :: (285, oT) :: (284, oV) :: (283, oP) :: (282, oK) :: (213, o') :: R3) F N (by k_mem) (fun q hq => ⟨by have hh := hq; repeat (first | exact hh | apply List.Mem.tail), hoffA.out q.1 (List.mem_map_of_mem hq)⟩) ⟨oN, _, dN, rfl⟩)
          · clear F N hr4
            rename Fr _ _ _ _ => Fx
            rename News _ _ _ _ => Nx
            clear Fx Nx
            rintro h18 tk18 m4 nx - F N ⟨oM, xM, -, rfl⟩
            replace F : Fr B 281 h18 _ := F
            replace N : News B 281 h18 _ := N
            (try dsimp only); (try k_fold)
            k_steps
            exact hQ0.out _ _ ⟨rfl, _, _, rfl, hold _ F.keep (N (213, o') (by k_mem)).1⟩

end
theorem calm_W4 : True := by
  w_top off
  trivial
section
open PySem PySem.W PySem.W.X PyProof.Rows PySem.Calls

noncomputable def chkTab (K : Frag) : Bool := (match K.lookup 217 with | some ⟨c, _, .fields vs, _⟩ => c == .type "code" && vs[11]? == some (.ref 213) | _ => false) && (match K.lookup 213 with | some ⟨c, _, _, _⟩ => c == .none | _ => false)
theorem tab_of {K : Frag} {h : Heap} (X : K.In h) (c : chkTab K = true) : ∃ o, h.get? 213 = some o ∧ o.cls = .none ∧ isCodeTable h 213 := by
  unfold chkTab at c
  rw [Bool.and_eq_true] at c
  obtain ⟨c1, c2⟩ := c
  split at c1
  · rename_i cl dd vs sl q
    split at c2
    · rename_i cl2 dd2 da2 sl2 q2
      rw [Bool.and_eq_true] at c1
      exact ⟨_, X _ _ q2, eq_of_beq c2, 217, _, vs, X _ _ q, eq_of_beq c1.1, rfl, eq_of_beq c1.2⟩
    · cases c2
  · cases c1
theorem lookup_filter {b : Addr} {o : Obj} : ∀ {l : Frag}, (l.filter (fun p => !Nat.beq p.1 213)).lookup b = some o → l.lookup b = some o
  | [], e => e
  | (a, x) :: l, e => by
    by_cases ha : Nat.beq a 213 = true
    · have hb : b ≠ 213 := fun q => by
        have := (List.mem_filter.mp (lookup_memK e)).2
        rw [q] at this
        have z : (!Nat.beq 213 213) = true := this
        exact absurd z (by decide)
      rw [List.filter_cons_of_neg (by simp [ha])] at e
      have ha' : a = 213 := Nat.eq_of_beq_eq_true ha
      rw [List.lookup_cons, ha', show (b == (213 : Addr)) = false from beq_eq_false_iff_ne.mpr hb]
      exact lookup_filter e
    · rw [List.filter_cons_of_pos (by show (!Nat.beq a 213) = true; cases q : Nat.beq a 213 with | true => exact absurd q ha | false => rfl)] at e
      rw [List.lookup_cons] at e ⊢
      cases q : b == a with
      | true => rw [q] at e; exact e
      | false => rw [q] at e; exact lookup_filter e
theorem kk_in {P : Params} {h : Heap} (X : (Mine.hz.heap_264 P).In h) : (Mine.KK P).In h := fun b o e => X b o (lookup_filter (by rw [kk_of]; exact e))
set_option maxRecDepth 100000 in
theorem tab_264 (P : Params) : chkTab (Mine.hz.heap_264 P) = true := by kernel_rfl
theorem caller2 : Rm callerA 2 := ⟨rfl, by decide, by decide⟩
theorem good_true {c : ClaimW} {cl : Str → Option Addr} {mean : ExcName → Option Value} {args : List WData} {s₁ : Shared} {h : Heap} {d : Drawn} {t : Nat} (O : OldK s₁.heap h) (hr : ∀ cls, c.raises args cls = false) (hp : c.post args (.bool true) args = true) :
    GoodWG c cl mean args s₁ (.ok (.ret (.bool true))) ⟨h, #[], d, t, s₁.os⟩ := ⟨.inl ⟨_, _, [], rfl, hr, ReadsW.bool true, hp, fun _ => ⟨List.nodup_nil, fun _ hm => (nomatch hm)⟩⟩, O, rfl, AllBare.empty⟩
set_option maxRecDepth 100000 in
set_option maxHeartbeats 8000000 in
theorem walk : Mine.hz.2.1 := by
  show Mine.hz.2.1
  k_fill
  intro w s₀ s₁ mg mb G y fa o pm cd doc dV kV ho hd hcd hD hmg hg args vals as L hpre hlay hrd hwl hlo
  z_open y L KX ZH ZN ZT
  refine Ground.open G ?_
  intro T B D TE TW
  wrow_args hpre hlay hrd hwl hlo
  obtain ⟨hat, hsz⟩ := script_at L
  have htk := script_toks L ZT
  rw [ZN] at hat hsz
  subst hat
  x_fa T KX hmg
  rename Heap.IsList _ _ _ => hli
  rename IntsAre _ _ => hin
  have hob := script_obj L hli
  obtain ⟨o213, h213, hc213, hct⟩ := tab_of KX (tab_264 _)
  obtain ⟨hh, gg, dd, tt, oo⟩ := s₁
  dsimp only at hg
  subst hg
  refine wpAny_mono (around_le (d := 2) caller2 (law_c w hh dd oo tt (kk_in KX) ZH T hsz (by have : 545 ≤ tt := htk; omega) h213 hc213 hct hob hin (by omega))) ?_ fun _ _ x => x.elim
  rintro _ s' ⟨rfl, h', tk, rfl, hO⟩
  exact good_true hO (fun _ => rfl) (by first | rfl | wrow_post)

end
end Mine
set_option maxRecDepth 100000 in
theorem PySem.Challenge.cw_ik0065_01_holds : PySem.Challenge.rw_ik0065_01.Holds := by
  exact Mine.hz.2.2 Mine.left Mine.walk
