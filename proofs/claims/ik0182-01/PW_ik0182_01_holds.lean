import PyProof.Rows.All
import Wide.All
import OpenK.AllK
import Wide.FinOn
import Lean
import PySem.Challenge.RW_ik0182_01
open PySem PySem.W PyProof.Rows PySem.Spec PySem.Calls
set_option Elab.async false
set_option maxRecDepth 100000
namespace Mine
section
local macro_rules | `(tactic| k_head) => `(tactic| z_head)
set_option maxHeartbeats 8000000 in
open_top hd for PySem.Challenge.rw_ik0182_01
end
section
noncomputable def heapK : Params → Frag := fun P =>
    (nat_lit 0, hd.zo_39 P) :: (nat_lit 1, hd.zo_40 P) :: (nat_lit 2, hd.zo_41 P) :: (nat_lit 3, hd.zo_42 P) :: (nat_lit 4, hd.zo_43 P) :: (nat_lit 5, hd.zo_44 P) ::
    (nat_lit 6, hd.zo_45 P) :: (nat_lit 7, hd.zo_46 P) :: (nat_lit 8, hd.zo_47 P) :: (nat_lit 9, hd.zo_48 P) :: (nat_lit 10, hd.zo_49 P) :: (nat_lit 11, hd.zo_50 P) ::
    (nat_lit 12, hd.zo_51 P) :: (nat_lit 13, hd.zo_52 P) :: (nat_lit 14, hd.zo_53 P) :: (nat_lit 15, hd.zo_54 P) :: (nat_lit 16, hd.zo_55 P) :: (nat_lit 17, hd.zo_56 P) ::
    (nat_lit 18, hd.zo_57 P) :: (nat_lit 19, hd.zo_58 P) :: (nat_lit 20, hd.zo_59 P) :: (nat_lit 21, hd.o_454 P) :: (nat_lit 22, hd.zo_61 P) :: (nat_lit 23, hd.zo_62 P) ::
    (nat_lit 24, hd.zo_63 P) :: (nat_lit 25, hd.zo_64 P) :: (nat_lit 26, hd.zo_65 P) :: (nat_lit 27, hd.zo_66 P) :: (nat_lit 28, hd.o_461 P) :: (nat_lit 29, hd.zo_68 P) ::
    (nat_lit 30, hd.zo_69 P) :: (nat_lit 31, hd.zo_70 P) :: (nat_lit 32, hd.zo_71 P) :: (nat_lit 33, hd.zo_72 P) :: (nat_lit 34, hd.zo_73 P) :: (nat_lit 35, hd.o_468 P) ::
    (nat_lit 36, hd.zo_75 P) :: (nat_lit 37, hd.zo_76 P) :: (nat_lit 38, hd.zo_77 P) :: (nat_lit 39, hd.zo_78 P) :: (nat_lit 40, hd.zo_79 P) :: (nat_lit 41, hd.zo_80 P) ::
    (nat_lit 42, hd.o_475 P) :: (nat_lit 43, hd.zo_82 P) :: (nat_lit 44, hd.zo_83 P) :: (nat_lit 45, hd.zo_84 P) :: (nat_lit 46, hd.zo_85 P) :: (nat_lit 47, hd.zo_86 P) ::
    (nat_lit 48, hd.zo_87 P) :: (nat_lit 49, hd.o_482 P) :: (nat_lit 50, hd.zo_89 P) :: (nat_lit 51, hd.zo_90 P) :: (nat_lit 52, hd.zo_91 P) :: (nat_lit 53, hd.zo_92 P) ::
    (nat_lit 54, hd.zo_93 P) :: (nat_lit 55, hd.zo_94 P) :: (nat_lit 56, hd.o_489 P) :: (nat_lit 57, hd.zo_96 P) :: (nat_lit 58, hd.zo_97 P) :: (nat_lit 59, hd.zo_98 P) ::
    (nat_lit 60, hd.zo_99 P) :: (nat_lit 61, hd.zo_100 P) :: (nat_lit 62, hd.zo_101 P) :: (nat_lit 63, hd.zo_102 P) :: (nat_lit 64, hd.o_497 P) ::
    (nat_lit 65, hd.zo_104 P) :: (nat_lit 66, hd.zo_105 P) :: (nat_lit 67, hd.zo_106 P) :: (nat_lit 68, hd.zo_107 P) :: (nat_lit 69, hd.zo_108 P) ::
    (nat_lit 70, hd.zo_109 P) :: (nat_lit 71, hd.o_508 P) :: (nat_lit 72, hd.zo_111 P) :: (nat_lit 79, hd.zo_112 P) :: (nat_lit 80, hd.zo_113 P) ::
    (nat_lit 81, hd.zo_114 P) :: (nat_lit 82, hd.zo_115 P) :: (nat_lit 83, hd.zo_116 P) :: (nat_lit 84, hd.zo_117 P) :: (nat_lit 85, hd.zo_118 P) ::
    (nat_lit 86, hd.zo_119 P) :: (nat_lit 87, hd.zo_120 P) :: (nat_lit 88, hd.zo_121 P) :: (nat_lit 91, hd.zo_122 P) :: (nat_lit 98, hd.zo_123 P) ::
    (nat_lit 99, hd.zo_124 P) :: (nat_lit 100, hd.zo_125 P) :: (nat_lit 101, hd.zo_126 P) :: (nat_lit 102, hd.zo_127 P) :: (nat_lit 103, hd.zo_128 P) ::
    (nat_lit 104, hd.o_544 P) :: (nat_lit 105, hd.zo_130 P) :: (nat_lit 106, hd.zo_131 P) :: (nat_lit 107, hd.zo_132 P) :: (nat_lit 108, hd.zo_133 P) ::
    (nat_lit 109, hd.zo_134 P) :: (nat_lit 110, hd.zo_135 P) :: (nat_lit 111, hd.o_551 P) :: (nat_lit 112, hd.zo_137 P) :: (nat_lit 113, hd.zo_138 P) ::
    (nat_lit 114, hd.zo_139 P) :: (nat_lit 115, hd.zo_140 P) :: (nat_lit 116, hd.zo_141 P) :: (nat_lit 117, hd.zo_142 P) :: (nat_lit 118, hd.zo_143 P) ::
    (nat_lit 119, hd.zo_144 P) :: (nat_lit 120, hd.zo_145 P) :: (nat_lit 121, hd.zo_146 P) :: (nat_lit 124, hd.zo_147 P) :: (nat_lit 125, hd.zo_148 P) ::
    (nat_lit 126, hd.zo_149 P) :: (nat_lit 127, hd.zo_150 P) :: (nat_lit 128, hd.zo_151 P) :: (nat_lit 129, hd.zo_152 P) :: (nat_lit 130, hd.o_570 P) ::
    (nat_lit 131, hd.zo_154 P) :: (nat_lit 132, hd.zo_155 P) :: (nat_lit 133, hd.zo_156 P) :: (nat_lit 134, hd.zo_157 P) :: (nat_lit 135, hd.zo_158 P) ::
    (nat_lit 136, hd.zo_159 P) :: (nat_lit 137, hd.o_577 P) :: (nat_lit 138, hd.zo_161 P) :: (nat_lit 139, hd.zo_162 P) :: (nat_lit 140, hd.zo_163 P) ::
    (nat_lit 141, hd.zo_164 P) :: (nat_lit 142, hd.zo_165 P) :: (nat_lit 143, hd.zo_166 P) :: (nat_lit 144, hd.o_586 P) :: (nat_lit 145, hd.zo_168 P) ::
    (nat_lit 146, hd.zo_169 P) :: (nat_lit 147, hd.zo_170 P) :: (nat_lit 148, hd.zo_171 P) :: (nat_lit 149, hd.zo_172 P) :: (nat_lit 150, hd.zo_173 P) ::
    (nat_lit 151, hd.o_593 P) :: (nat_lit 152, hd.zo_175 P) :: (nat_lit 153, hd.zo_176 P) :: (nat_lit 154, hd.zo_177 P) :: (nat_lit 155, hd.zo_178 P) ::
    (nat_lit 156, hd.zo_179 P) :: (nat_lit 157, hd.zo_180 P) :: (nat_lit 158, hd.o_600 P) :: (nat_lit 159, hd.zo_182 P) :: (nat_lit 160, hd.zo_183 P) ::
    (nat_lit 161, hd.zo_184 P) :: (nat_lit 162, hd.zo_185 P) :: (nat_lit 163, hd.zo_186 P) :: (nat_lit 164, hd.zo_187 P) :: (nat_lit 165, hd.o_607 P) ::
    (nat_lit 166, hd.zo_189 P) :: (nat_lit 167, hd.zo_190 P) :: (nat_lit 168, hd.zo_191 P) :: (nat_lit 169, hd.zo_192 P) :: (nat_lit 170, hd.zo_193 P) ::
    (nat_lit 171, hd.zo_194 P) :: (nat_lit 172, hd.o_614 P) :: (nat_lit 173, hd.zo_196 P) :: (nat_lit 174, hd.zo_197 P) :: (nat_lit 175, hd.zo_198 P) ::
    (nat_lit 176, hd.zo_199 P) :: (nat_lit 177, hd.o_619 P) :: (nat_lit 178, hd.zo_201 P) :: (nat_lit 179, hd.zo_202 P) :: (nat_lit 180, hd.zo_203 P) ::
    (nat_lit 181, hd.zo_204 P) :: (nat_lit 182, hd.o_624 P) :: (nat_lit 183, hd.zo_206 P) :: (nat_lit 184, hd.zo_207 P) :: (nat_lit 185, hd.zo_208 P) ::
    (nat_lit 186, hd.zo_209 P) :: (nat_lit 187, hd.zo_210 P) :: (nat_lit 188, hd.zo_211 P) :: (nat_lit 189, hd.o_631 P) :: (nat_lit 190, hd.zo_213 P) ::
    (nat_lit 191, hd.zo_214 P) :: (nat_lit 192, hd.zo_215 P) :: (nat_lit 193, hd.zo_216 P) :: (nat_lit 194, hd.zo_217 P) :: (nat_lit 195, hd.zo_218 P) ::
    (nat_lit 196, hd.o_638 P) :: (nat_lit 197, hd.zo_220 P) :: (nat_lit 198, hd.zo_221 P) :: (nat_lit 199, hd.zo_222 P) :: (nat_lit 200, hd.zo_223 P) ::
    (nat_lit 201, hd.o_643 P) :: (nat_lit 202, hd.zo_225 P) :: (nat_lit 203, hd.zo_226 P) :: (nat_lit 204, hd.zo_227 P) :: (nat_lit 205, hd.zo_228 P) ::
    (nat_lit 206, hd.o_648 P) :: []
noncomputable def heapV (x0 x1 x2 x3 x4 x5 x6 x7 x8 x9 x10 x11 x12 x13 x14 x15 x16 x17 x18 x19 x20 x21 x22 : Obj) : Params → Frag := fun P =>
    (nat_lit 0, hd.zo_39 P) :: (nat_lit 1, hd.zo_40 P) :: (nat_lit 2, hd.zo_41 P) :: (nat_lit 3, hd.zo_42 P) :: (nat_lit 4, hd.zo_43 P) :: (nat_lit 5, hd.zo_44 P) ::
    (nat_lit 6, hd.zo_45 P) :: (nat_lit 7, hd.zo_46 P) :: (nat_lit 8, hd.zo_47 P) :: (nat_lit 9, hd.zo_48 P) :: (nat_lit 10, hd.zo_49 P) :: (nat_lit 11, hd.zo_50 P) ::
    (nat_lit 12, hd.zo_51 P) :: (nat_lit 13, hd.zo_52 P) :: (nat_lit 14, hd.zo_53 P) :: (nat_lit 15, hd.zo_54 P) :: (nat_lit 16, hd.zo_55 P) :: (nat_lit 17, hd.zo_56 P) ::
    (nat_lit 18, hd.zo_57 P) :: (nat_lit 19, hd.zo_58 P) :: (nat_lit 20, hd.zo_59 P) :: (nat_lit 21, x0) :: (nat_lit 22, hd.zo_61 P) :: (nat_lit 23, hd.zo_62 P) ::
    (nat_lit 24, hd.zo_63 P) :: (nat_lit 25, hd.zo_64 P) :: (nat_lit 26, hd.zo_65 P) :: (nat_lit 27, hd.zo_66 P) :: (nat_lit 28, x1) :: (nat_lit 29, hd.zo_68 P) ::
    (nat_lit 30, hd.zo_69 P) :: (nat_lit 31, hd.zo_70 P) :: (nat_lit 32, hd.zo_71 P) :: (nat_lit 33, hd.zo_72 P) :: (nat_lit 34, hd.zo_73 P) :: (nat_lit 35, x2) ::
    (nat_lit 36, hd.zo_75 P) :: (nat_lit 37, hd.zo_76 P) :: (nat_lit 38, hd.zo_77 P) :: (nat_lit 39, hd.zo_78 P) :: (nat_lit 40, hd.zo_79 P) :: (nat_lit 41, hd.zo_80 P) ::
    (nat_lit 42, x3) :: (nat_lit 43, hd.zo_82 P) :: (nat_lit 44, hd.zo_83 P) :: (nat_lit 45, hd.zo_84 P) :: (nat_lit 46, hd.zo_85 P) :: (nat_lit 47, hd.zo_86 P) ::
    (nat_lit 48, hd.zo_87 P) :: (nat_lit 49, x4) :: (nat_lit 50, hd.zo_89 P) :: (nat_lit 51, hd.zo_90 P) :: (nat_lit 52, hd.zo_91 P) :: (nat_lit 53, hd.zo_92 P) ::
    (nat_lit 54, hd.zo_93 P) :: (nat_lit 55, hd.zo_94 P) :: (nat_lit 56, x5) :: (nat_lit 57, hd.zo_96 P) :: (nat_lit 58, hd.zo_97 P) :: (nat_lit 59, hd.zo_98 P) ::
    (nat_lit 60, hd.zo_99 P) :: (nat_lit 61, hd.zo_100 P) :: (nat_lit 62, hd.zo_101 P) :: (nat_lit 63, hd.zo_102 P) :: (nat_lit 64, x6) :: (nat_lit 65, hd.zo_104 P) ::
    (nat_lit 66, hd.zo_105 P) :: (nat_lit 67, hd.zo_106 P) :: (nat_lit 68, hd.zo_107 P) :: (nat_lit 69, hd.zo_108 P) :: (nat_lit 70, hd.zo_109 P) :: (nat_lit 71, x7) ::
    (nat_lit 72, hd.zo_111 P) :: (nat_lit 79, hd.zo_112 P) :: (nat_lit 80, hd.zo_113 P) :: (nat_lit 81, hd.zo_114 P) :: (nat_lit 82, hd.zo_115 P) ::
    (nat_lit 83, hd.zo_116 P) :: (nat_lit 84, hd.zo_117 P) :: (nat_lit 85, hd.zo_118 P) :: (nat_lit 86, hd.zo_119 P) :: (nat_lit 87, hd.zo_120 P) ::
    (nat_lit 88, hd.zo_121 P) :: (nat_lit 91, hd.zo_122 P) :: (nat_lit 98, hd.zo_123 P) :: (nat_lit 99, hd.zo_124 P) :: (nat_lit 100, hd.zo_125 P) ::
    (nat_lit 101, hd.zo_126 P) :: (nat_lit 102, hd.zo_127 P) :: (nat_lit 103, hd.zo_128 P) :: (nat_lit 104, x8) :: (nat_lit 105, hd.zo_130 P) :: (nat_lit 106, hd.zo_131 P) ::
    (nat_lit 107, hd.zo_132 P) :: (nat_lit 108, hd.zo_133 P) :: (nat_lit 109, hd.zo_134 P) :: (nat_lit 110, hd.zo_135 P) :: (nat_lit 111, x9) :: (nat_lit 112, hd.zo_137 P) ::
    (nat_lit 113, hd.zo_138 P) :: (nat_lit 114, hd.zo_139 P) :: (nat_lit 115, hd.zo_140 P) :: (nat_lit 116, hd.zo_141 P) :: (nat_lit 117, hd.zo_142 P) ::
    (nat_lit 118, hd.zo_143 P) :: (nat_lit 119, hd.zo_144 P) :: (nat_lit 120, hd.zo_145 P) :: (nat_lit 121, hd.zo_146 P) :: (nat_lit 124, hd.zo_147 P) ::
    (nat_lit 125, hd.zo_148 P) :: (nat_lit 126, hd.zo_149 P) :: (nat_lit 127, hd.zo_150 P) :: (nat_lit 128, hd.zo_151 P) :: (nat_lit 129, hd.zo_152 P) ::
    (nat_lit 130, x10) :: (nat_lit 131, hd.zo_154 P) :: (nat_lit 132, hd.zo_155 P) :: (nat_lit 133, hd.zo_156 P) :: (nat_lit 134, hd.zo_157 P) ::
    (nat_lit 135, hd.zo_158 P) :: (nat_lit 136, hd.zo_159 P) :: (nat_lit 137, x11) :: (nat_lit 138, hd.zo_161 P) :: (nat_lit 139, hd.zo_162 P) ::
    (nat_lit 140, hd.zo_163 P) :: (nat_lit 141, hd.zo_164 P) :: (nat_lit 142, hd.zo_165 P) :: (nat_lit 143, hd.zo_166 P) :: (nat_lit 144, x12) ::
    (nat_lit 145, hd.zo_168 P) :: (nat_lit 146, hd.zo_169 P) :: (nat_lit 147, hd.zo_170 P) :: (nat_lit 148, hd.zo_171 P) :: (nat_lit 149, hd.zo_172 P) ::
    (nat_lit 150, hd.zo_173 P) :: (nat_lit 151, x13) :: (nat_lit 152, hd.zo_175 P) :: (nat_lit 153, hd.zo_176 P) :: (nat_lit 154, hd.zo_177 P) ::
    (nat_lit 155, hd.zo_178 P) :: (nat_lit 156, hd.zo_179 P) :: (nat_lit 157, hd.zo_180 P) :: (nat_lit 158, x14) :: (nat_lit 159, hd.zo_182 P) ::
    (nat_lit 160, hd.zo_183 P) :: (nat_lit 161, hd.zo_184 P) :: (nat_lit 162, hd.zo_185 P) :: (nat_lit 163, hd.zo_186 P) :: (nat_lit 164, hd.zo_187 P) ::
    (nat_lit 165, x15) :: (nat_lit 166, hd.zo_189 P) :: (nat_lit 167, hd.zo_190 P) :: (nat_lit 168, hd.zo_191 P) :: (nat_lit 169, hd.zo_192 P) ::
    (nat_lit 170, hd.zo_193 P) :: (nat_lit 171, hd.zo_194 P) :: (nat_lit 172, x16) :: (nat_lit 173, hd.zo_196 P) :: (nat_lit 174, hd.zo_197 P) ::
    (nat_lit 175, hd.zo_198 P) :: (nat_lit 176, hd.zo_199 P) :: (nat_lit 177, x17) :: (nat_lit 178, hd.zo_201 P) :: (nat_lit 179, hd.zo_202 P) ::
    (nat_lit 180, hd.zo_203 P) :: (nat_lit 181, hd.zo_204 P) :: (nat_lit 182, x18) :: (nat_lit 183, hd.zo_206 P) :: (nat_lit 184, hd.zo_207 P) ::
    (nat_lit 185, hd.zo_208 P) :: (nat_lit 186, hd.zo_209 P) :: (nat_lit 187, hd.zo_210 P) :: (nat_lit 188, hd.zo_211 P) :: (nat_lit 189, x19) ::
    (nat_lit 190, hd.zo_213 P) :: (nat_lit 191, hd.zo_214 P) :: (nat_lit 192, hd.zo_215 P) :: (nat_lit 193, hd.zo_216 P) :: (nat_lit 194, hd.zo_217 P) ::
    (nat_lit 195, hd.zo_218 P) :: (nat_lit 196, x20) :: (nat_lit 197, hd.zo_220 P) :: (nat_lit 198, hd.zo_221 P) :: (nat_lit 199, hd.zo_222 P) ::
    (nat_lit 200, hd.zo_223 P) :: (nat_lit 201, x21) :: (nat_lit 202, hd.zo_225 P) :: (nat_lit 203, hd.zo_226 P) :: (nat_lit 204, hd.zo_227 P) ::
    (nat_lit 205, hd.zo_228 P) :: (nat_lit 206, x22) :: []
theorem heapK_in {P : Params} {h : Heap} (X : (hd.heap_229 P).In h) : (heapK P).In h := by
  have e : heapK P = hd.heap_229 P :=
    (show heapK P = heapV (hd.o_454 P) (hd.o_461 P) (hd.o_468 P) (hd.o_475 P) (hd.o_482 P) (hd.o_489 P) (hd.o_497 P) (hd.o_508 P) (hd.o_544 P) (hd.o_551 P) (hd.o_570 P) (hd.o_577 P) (hd.o_586 P) (hd.o_593 P) (hd.o_600 P) (hd.o_607 P) (hd.o_614 P) (hd.o_619 P) (hd.o_624 P) (hd.o_631 P) (hd.o_638 P) (hd.o_643 P) (hd.o_648 P) P from rfl).trans ((congrFun (congr (congr (congr (congr (congr (congr (congr (congr (congr (congr (congr (congr (congr (congr (congr (congr (congr (congr (congr (congr (congr (congr (congr (Eq.refl heapV) (show hd.o_454 P = hd.zo_60 P from (congrFun PySem.W.Fast.te11108263761283441063 P).trans rfl)) (show hd.o_461 P = hd.zo_67 P from (congrFun PySem.W.Fast.te7783732958741208154 P).trans rfl)) (show hd.o_468 P = hd.zo_74 P from (congrFun PySem.W.Fast.te17300597898927385350 P).trans rfl)) (show hd.o_475 P = hd.zo_81 P from (congrFun PySem.W.Fast.te4275521005467322725 P).trans rfl)) (show hd.o_482 P = hd.zo_88 P from (congrFun PySem.W.Fast.te5823794197072137003 P).trans rfl)) (show hd.o_489 P = hd.zo_95 P from (congrFun PySem.W.Fast.te16413264400604254196 P).trans rfl)) (show hd.o_497 P = hd.zo_103 P from (congrFun PySem.W.Fast.te17537794083376710389 P).trans rfl)) (show hd.o_508 P = hd.zo_110 P from (congrFun PySem.W.Fast.te11838138170533393997 P).trans rfl)) (show hd.o_544 P = hd.zo_129 P from (congrFun PySem.W.Fast.te3209381107111851631 P).trans rfl)) (show hd.o_551 P = hd.zo_136 P from (congrFun PySem.W.Fast.te13915792640404377917 P).trans rfl)) (show hd.o_570 P = hd.zo_153 P from (congrFun PySem.W.Fast.te4681523508651956083 P).trans rfl)) (show hd.o_577 P = hd.zo_160 P from (congrFun PySem.W.Fast.te14778209649434054790 P).trans rfl)) (show hd.o_586 P = hd.zo_167 P from (congrFun PySem.W.Fast.te2736616831223182526 P).trans rfl)) (show hd.o_593 P = hd.zo_174 P from (congrFun PySem.W.Fast.te6148621092414575339 P).trans rfl)) (show hd.o_600 P = hd.zo_181 P from (congrFun PySem.W.Fast.te6144853644547557980 P).trans rfl)) (show hd.o_607 P = hd.zo_188 P from (congrFun PySem.W.Fast.te15560853006256673968 P).trans rfl)) (show hd.o_614 P = hd.zo_195 P from (congrFun PySem.W.Fast.te12821735335276811757 P).trans rfl)) (show hd.o_619 P = hd.zo_200 P from (congrFun PySem.W.Fast.te14214133299417103183 P).trans rfl)) (show hd.o_624 P = hd.zo_205 P from (congrFun PySem.W.Fast.te17765544955259793912 P).trans rfl)) (show hd.o_631 P = hd.zo_212 P from (congrFun PySem.W.Fast.te17913803186225011329 P).trans rfl)) (show hd.o_638 P = hd.zo_219 P from (congrFun PySem.W.Fast.te11495947367809530248 P).trans rfl)) (show hd.o_643 P = hd.zo_224 P from (congrFun PySem.W.Fast.te17344680358763864322 P).trans rfl)) (show hd.o_648 P = hd.zo_229 P from (congrFun PySem.W.Fast.te17827458813498177553 P).trans rfl)) P).trans (show heapV (hd.zo_60 P) (hd.zo_67 P) (hd.zo_74 P) (hd.zo_81 P) (hd.zo_88 P) (hd.zo_95 P) (hd.zo_103 P) (hd.zo_110 P) (hd.zo_129 P) (hd.zo_136 P) (hd.zo_153 P) (hd.zo_160 P) (hd.zo_167 P) (hd.zo_174 P) (hd.zo_181 P) (hd.zo_188 P) (hd.zo_195 P) (hd.zo_200 P) (hd.zo_205 P) (hd.zo_212 P) (hd.zo_219 P) (hd.zo_224 P) (hd.zo_229 P) P = _ by kernel_rfl))
  rw [e]
  exact X
end
section
section
variable {α : Type}
noncomputable def swp (f : Nat → α) (i j : Nat) : Nat → α := fun x => if x = i then f j else if x = j then f i else f x
noncomputable def lst (f : Nat → α) (n : Nat) : List α := (List.range n).map f
noncomputable def Heapy (k : α → Int) (f : Nat → α) (n a : Nat) : Prop := ∀ i, i < n → 0 < i → a ≤ (i-1)/2 → k (f ((i-1)/2)) ≤ k (f i)
theorem half_lt {i : Nat} (h : 0 < i) : (i-1)/2 < i := Nat.lt_of_le_of_lt (Nat.div_le_self _ 2) (Nat.sub_lt h (by decide))
theorem half_of {i p : Nat} (h : 0 < i) (e : (i-1)/2 = p) : i = 2*p+1 ∨ i = 2*p+2 := by (first | lia | omega)
theorem half_l (p : Nat) : (2*p+1-1)/2 = p := Nat.mul_div_cancel_left p (by decide)
theorem half_r (p : Nat) : (2*p+2-1)/2 = p := by
  show (2*p+1)/2 = p
  rw [Nat.mul_add_div (by decide)]; rfl
theorem half_small {i n a : Nat} (h : n ≤ 2*a+1) (hi : i < n) (h0 : 0 < i) (hai : a ≤ (i-1)/2) : False := by (first | lia | omega)
inductive Desc (a : Nat) : Nat → Prop
  | self : Desc a a
  | step {i : Nat} : 0 < i → Desc a ((i-1)/2) → Desc a i
theorem Desc.le {a i : Nat} (h : Desc a i) : a ≤ i := by
  induction h with
  | self => exact Nat.le_refl _
  | step h0 _ ih => exact Nat.le_trans ih (Nat.le_of_lt (half_lt h0))
theorem Desc.up {a i : Nat} (h : Desc a i) (hi : a < i) : Desc a ((i-1)/2) := by
  cases h with
  | self => (first | lia | omega)
  | step _ h => exact h
theorem Desc.zero (i : Nat) : Desc 0 i := by
  induction i using Nat.strongRecOn with
  | ind i ih =>
    by_cases h : i = 0
    · subst h; exact .self
    · exact .step (Nat.pos_of_ne_zero h) (ih _ (half_lt (Nat.pos_of_ne_zero h)))
theorem Desc.child {a i c : Nat} (h : Desc a i) (hc : c = 2*i+1 ∨ c = 2*i+2) : Desc a c :=
  .step (by rcases hc with rfl | rfl <;> exact Nat.succ_pos _) (by rcases hc with rfl | rfl; (rw [half_l]; exact h); (rw [half_r]; exact h))
noncomputable def PreSD (k : α → Int) (f : Nat → α) (n a pos : Nat) : Prop :=
  (∀ i, i < n → 0 < i → a ≤ (i-1)/2 → i ≠ pos → k (f ((i-1)/2)) ≤ k (f i)) ∧
  (∀ i, i < n → 0 < i → (i-1)/2 = pos → pos ≠ a → k (f ((pos-1)/2)) ≤ k (f i))
noncomputable def PreSU (k : α → Int) (f : Nat → α) (n a pos : Nat) : Prop :=
  (∀ i, i < n → 0 < i → a ≤ (i-1)/2 → i ≠ pos → (i-1)/2 ≠ pos → k (f ((i-1)/2)) ≤ k (f i)) ∧
  (∀ i, i < n → 0 < i → (i-1)/2 = pos → pos ≠ a → k (f ((pos-1)/2)) ≤ k (f i))
theorem swp_l (f : Nat → α) (i j : Nat) : swp f i j i = f j := by simp [swp]
theorem swp_r (f : Nat → α) (i j : Nat) : swp f i j j = f i := by
  unfold swp; by_cases h : j = i
  · subst h; simp
  · simp [h]
theorem swp_o (f : Nat → α) {i j x : Nat} (h1 : x ≠ i) (h2 : x ≠ j) : swp f i j x = f x := by simp [swp, h1, h2]
theorem sd_step {k : α → Int} {f : Nat → α} {n a pos : Nat} (h : PreSD k f n a pos) (hd : Desc a pos) (ha : a < pos) (hn : pos < n) (hlt : k (f pos) < k (f ((pos-1)/2))) :
    PreSD k (swp f pos ((pos-1)/2)) n a ((pos-1)/2) := by
  have hpp : a ≤ (pos-1)/2 := (hd.up ha).le
  have hup : (pos-1)/2 < pos := half_lt (Nat.lt_of_le_of_lt (Nat.zero_le _) ha)
  refine ⟨fun i hi h0 hai hne => ?_, fun i hi h0 hpi hne => ?_⟩
  · by_cases e : i = pos
    · subst e
      rw [swp_l, swp_r]; exact Int.le_of_lt hlt
    · rw [swp_o f e hne]
      by_cases e1 : (i-1)/2 = pos
      · rw [e1, swp_l]
        exact h.2 i hi h0 e1 (Nat.ne_of_gt ha)
      · by_cases e2 : (i-1)/2 = (pos-1)/2
        · rw [e2, swp_r]
          have := h.1 i hi h0 hai e
          rw [e2] at this; exact Int.le_trans (Int.le_of_lt hlt) this
        · rw [swp_o f e1 e2]; exact h.1 i hi h0 hai e
  · have hlt2 : a < (pos-1)/2 := Nat.lt_of_le_of_ne hpp (Ne.symm hne)
    have hpos : 0 < (pos-1)/2 := Nat.lt_of_le_of_lt (Nat.zero_le _) hlt2
    have hpa : a ≤ ((pos-1)/2-1)/2 := ((hd.up ha).up hlt2).le
    have hh := half_lt hpos
    rw [swp_o f (x := ((pos-1)/2-1)/2) (Nat.ne_of_lt (Nat.lt_trans hh hup)) (Nat.ne_of_lt hh)]
    have h1 := h.1 ((pos-1)/2) (Nat.lt_trans hup hn) hpos hpa (Nat.ne_of_lt hup)
    by_cases e : i = pos
    · subst e; rw [swp_l]; exact h1
    · rw [swp_o f e (Nat.ne_of_gt (hpi ▸ half_lt h0))]
      have := h.1 i hi h0 (hpi ▸ hpp) e
      rw [hpi] at this; exact Int.le_trans h1 this
theorem sd_end {k : α → Int} {f : Nat → α} {n a pos : Nat} (h : PreSD k f n a pos) (hd : Desc a pos) (he : pos ≤ a ∨ k (f ((pos-1)/2)) ≤ k (f pos)) : Heapy k f n a := by
  intro i hi h0 hai
  by_cases e : i = pos
  · subst e
    have := hd.le
    rcases he with he | he
    · exact absurd (Nat.lt_of_le_of_lt hai (half_lt h0)) (Nat.not_lt.mpr he)
    · exact he
  · exact h.1 i hi h0 hai e
theorem su_start {k : α → Int} {f : Nat → α} {n a : Nat} (h : Heapy k f n (a+1)) : PreSU k f n a a :=
  ⟨fun i hi h0 hai _ hne => h i hi h0 (by (first | lia | omega)), fun _ _ _ _ hne => absurd rfl hne⟩
theorem su_step {k : α → Int} {f : Nat → α} {n a pos c o : Nat} (h : PreSU k f n a pos) (hd : Desc a pos) (hc : c < n)
    (hco : (c = 2*pos+1 ∧ o = 2*pos+2) ∨ (c = 2*pos+2 ∧ o = 2*pos+1)) (hmin : o < n → k (f c) ≤ k (f o)) : PreSU k (swp f pos c) n a c := by
  have hap := hd.le
  have e : (c-1)/2 = pos := by
    rcases hco with ⟨rfl, _⟩ | ⟨rfl, _⟩
    · exact half_l _
    · exact half_r _
  have hcp : pos < c := by clear h hmin e; (first | lia | omega)
  have c0 : 0 < c := Nat.lt_of_le_of_lt (Nat.zero_le _) hcp
  refine ⟨fun i hi h0 hai hic hpc => ?_, fun i hi h0 hpi hne => ?_⟩
  · by_cases e2 : i = pos
    · subst e2
      have hh := half_lt h0
      rw [swp_l, swp_o f (x := (i-1)/2) (Nat.ne_of_lt hh) (Nat.ne_of_lt (Nat.lt_trans hh hcp))]
      exact h.2 c hc c0 e (Nat.ne_of_gt (Nat.lt_of_le_of_lt hai hh))
    · rw [swp_o f e2 hic]
      by_cases e1 : (i-1)/2 = pos
      · rw [e1, swp_l]
        have : i = o := by
          rcases hco with ⟨hc', ho'⟩ | ⟨hc', ho'⟩ <;> rcases half_of h0 e1 with h' | h'
          · exact absurd (h'.trans hc'.symm) hic
          · exact h'.trans ho'.symm
          · exact h'.trans ho'.symm
          · exact absurd (h'.trans hc'.symm) hic
        subst this
        exact hmin hi
      · rw [swp_o f e1 hpc]; exact h.1 i hi h0 hai e2 e1
  · have hci : c < i := hpi ▸ half_lt h0
    rw [e, swp_l, swp_o f (x := i) (Nat.ne_of_gt (Nat.lt_trans hcp hci)) (Nat.ne_of_gt hci)]
    have := h.1 i hi h0 (hpi ▸ Nat.le_trans hap (Nat.le_of_lt hcp)) (Nat.ne_of_gt (Nat.lt_trans hcp hci)) (hpi ▸ Nat.ne_of_gt hcp)
    rw [hpi] at this; exact this
theorem su_end {k : α → Int} {f : Nat → α} {n a pos : Nat} (h : PreSU k f n a pos) (he : n ≤ 2*pos+1) : PreSD k f n a pos :=
  ⟨fun i hi h0 hai hne => h.1 i hi h0 hai hne (by (first | lia | omega)), h.2⟩
theorem heap_min {k : α → Int} {f : Nat → α} {n : Nat} (h : Heapy k f n 0) : ∀ i, i < n → k (f 0) ≤ k (f i) := by
  intro i
  induction i using Nat.strongRecOn with
  | ind i ih =>
    intro hi
    by_cases e : i = 0
    · subst e; exact Int.le_refl _
    · have i0 := Nat.pos_of_ne_zero e
      exact Int.le_trans (ih ((i-1)/2) (half_lt i0) (Nat.lt_trans (half_lt i0) hi)) (h i hi i0 (Nat.zero_le _))
theorem heapy_leaf {k : α → Int} {f : Nat → α} {n a : Nat} (h : n ≤ 2*a+1) : Heapy k f n a := fun _ hi h0 hai => (half_small h hi h0 hai).elim
theorem lst_length (f : Nat → α) (n : Nat) : (lst f n).length = n := by simp [lst]
theorem lst_get {f : Nat → α} {n i : Nat} (h : i < n) : (lst f n)[i]? = some (f i) := by simp [lst, h]
theorem lst_succ (f : Nat → α) (n : Nat) : lst f (n+1) = lst f n ++ [f n] := by simp [lst, List.range_succ]
theorem lst_cons (f : Nat → α) (n : Nat) : lst f (n+1) = f 0 :: lst (fun i => f (i+1)) n := by
  simp [lst, List.range_succ_eq_map, Function.comp_def]
theorem lst_congr {f g : Nat → α} {n : Nat} (h : ∀ i, i < n → f i = g i) : lst f n = lst g n := by
  unfold lst; exact List.map_congr_left fun i hi => h i (by simpa [lst_length] using hi)
theorem lst_mem {f : Nat → α} {n : Nat} {x : α} : x ∈ lst f n ↔ ∃ i, i < n ∧ f i = x := by simp [lst]
theorem lst_map {β : Type} (g : α → β) (f : Nat → α) (n : Nat) : (lst f n).map g = lst (fun i => g (f i)) n := by simp [lst, Function.comp_def]
theorem lst_set {f : Nat → α} {n i : Nat} {v : α} : (lst f n).set i v = lst (fun x => if x = i then v else f x) n := by
  apply List.ext_getElem?
  intro j
  rw [List.getElem?_set]
  by_cases hj : j < n
  · rw [lst_get (f := fun x => if x = i then v else f x) hj, lst_get (f := f) hj]
    by_cases e : i = j
    · subst e; simp [lst_length, hj]
    · simp [e, Ne.symm e]
  · have h1 : (lst f n)[j]? = none := List.getElem?_eq_none (by simp [lst_length]; (first | lia | omega))
    have h2 : (lst (fun x => if x = i then v else f x) n)[j]? = none := List.getElem?_eq_none (by simp [lst_length]; (first | lia | omega))
    rw [h1, h2]
    by_cases e : i = j
    · subst e; simp [lst_length, hj]
    · simp [e]
theorem perm_set {l : List α} : ∀ {i : Nat} (h : i < l.length) (v : α), (l[i] :: l.set i v).Perm (v :: l) := by
  induction l with
  | nil => intro i h; simp at h
  | cons x r ih =>
    intro i h v
    cases i with
    | zero => simpa using List.Perm.swap v x r
    | succ i =>
      simp only [List.getElem_cons_succ, List.set_cons_succ]
      have h' : i < r.length := by simpa using h
      refine (List.Perm.swap x r[i] _).trans (((ih h' v).cons x).trans (List.Perm.swap v x r))
theorem swp_lst {f : Nat → α} {i j n : Nat} : lst (swp f i j) n = ((lst f n).set j (f i)).set i (f j) := by
  rw [lst_set, lst_set]; rfl
theorem swp_perm {f : Nat → α} {i j n : Nat} (hi : i < n) (hj : j < n) : (lst (swp f i j) n).Perm (lst f n) := by
  have e := @swp_lst α f i j n
  have p1 := perm_set (l := lst f n) (i := j) (by simpa [lst_length] using hj) (f i)
  have p2 := perm_set (l := (lst f n).set j (f i)) (i := i) (by simpa [lst_length] using hi) (f j)
  have g1 : (lst f n)[j]'(by simpa [lst_length] using hj) = f j := by have := lst_get (f := f) hj; rw [List.getElem?_eq_getElem (by simpa [lst_length] using hj)] at this; exact Option.some.inj this
  have g2 : ((lst f n).set j (f i))[i]'(by simpa [lst_length] using hi) = f i := by
    rw [List.getElem_set]
    by_cases e' : j = i
    · simp [e']
    · have := lst_get (f := f) hi; rw [List.getElem?_eq_getElem (by simpa [lst_length] using hi)] at this
      simp only [e', if_false]; exact Option.some.inj this
  rw [g1] at p1; rw [g2] at p2
  rw [e]
  -- p1 : f j :: set ~ f i :: lst ; p2 : f i :: set' ~ f j :: set
  exact (p2.trans p1).cons_inv
end
end
section
noncomputable def fact : Nat → Nat
  | 0 => 1
  | n + 1 => (n + 1) * fact n
end
section
noncomputable def bitsBelow (n i : Nat) : List Nat := (List.range i).filter fun k => n / 2 ^ k % 2 == 1
noncomputable def bits (n : Nat) : List Nat := bitsBelow n 5
theorem bitsBelow_succ (n i : Nat) : bitsBelow n (i + 1) = bitsBelow n i ++ (if n / 2 ^ i % 2 = 1 then [i] else []) := by
  unfold bitsBelow
  rw [List.range_succ, List.filter_append]
  congr 1
  by_cases h : n / 2 ^ i % 2 = 1 <;> simp [h]
end
section
noncomputable def sl : Str := ⟨#[47]⟩
theorem sl_eq : Str.ofString "/" = sl := by decide +kernel
noncomputable def num (t : Int) : Str := Str.ofString (toString t)
theorem num_free (t : Int) : 47 ∉ (num t).cps.toList := PyProof.Rows.int_text_free' 47 ⟨by decide, by decide⟩ t
theorem num_pos {t : Int} (h : 0 ≤ t) : 1 ≤ (num t).length := KLn.one_le h
theorem num_len {t : Int} (h : 0 ≤ t) (h1 : t < 10 ^ 10) : (num t).length ≤ 10 := KT.len_num h h1
theorem starts_iff (x : Str) : Txt.startswith x sl = true ↔ x.cps.toList[0]? = some 47 := by
  unfold Txt.startswith sl
  rw [Bool.and_eq_true, decide_eq_true_eq]
  exact StrLaws.subAt_one x 47 0
theorem ends_iff (x : Str) : Txt.endswith x sl = true ↔ 1 ≤ x.length ∧ x.cps.toList[x.length - 1]? = some 47 := by
  unfold Txt.endswith sl
  rw [Bool.and_eq_true, decide_eq_true_eq]
  have h := StrLaws.subAt_one x 47 (x.length - 1)
  rw [← h]
  show (0 + 1 ≤ x.length ∧ _) ↔ (1 ≤ x.length ∧ _)
  constructor
  · intro ⟨a, b⟩
    exact ⟨by (first | lia | omega), by show x.length - 1 + 1 ≤ x.length; (first | lia | omega), b⟩
  · intro ⟨a, b, c⟩
    exact ⟨by (first | lia | omega), c⟩
theorem num_ends (t : Int) : Txt.endswith (num t) (Str.ofString "/") = false := by
  rw [sl_eq]
  cases h : Txt.endswith (num t) sl with
  | false => rfl
  | true =>
    have := (ends_iff _).mp h
    exact absurd (List.mem_of_getElem? this.2) (num_free t)
theorem num_starts (t : Int) : Txt.startswith (num t) (Str.ofString "/") = false := by
  rw [sl_eq]
  cases h : Txt.startswith (num t) sl with
  | false => rfl
  | true => exact absurd (List.mem_of_getElem? ((starts_iff _).mp h)) (num_free t)
theorem app_starts {t : Int} (h0 : 0 ≤ t) (y : Str) : Txt.startswith (num t ++ y) (Str.ofString "/") = false := by
  rw [sl_eq]
  cases h : Txt.startswith (num t ++ y) sl with
  | false => rfl
  | true =>
    have := (starts_iff _).mp h
    have hp := num_pos h0
    have e : (num t ++ y).cps.toList = (num t).cps.toList ++ y.cps.toList := by
      show ((num t).cps ++ y.cps).toList = _
      exact Array.toList_append
    rw [e, List.getElem?_append_left (by rw [Array.length_toList]; exact hp)] at this
    exact absurd (List.mem_of_getElem? this) (num_free t)
end
section
structure Room (A : Around) (d : Nat) : Prop where
  hd : A.handled = none
  dp : A.depth + d < recursionLimit
  un : A.units + 8 * d + 40 < cLine
theorem Room.less {A : Around} {d d' : Nat} (r : Room A d) (h : d' ≤ d) : Room A d' := ⟨r.hd, by have := r.dp; (first | lia | omega), by have := r.un; (first | lia | omega)⟩
theorem Room.deeper {A : Around} {env : Env} {d : Nat} (r : Room A (d + 1)) : Room (A.deeper env) d :=
  ⟨r.hd, by have := r.dp; show A.depth + 1 + d < _; (first | lia | omega), by have := r.un; show A.units + 3 + 8 * d + 40 < _; (first | lia | omega)⟩
theorem Room.room {A : Around} {d : Nat} (r : Room A d) : A.depth < recursionLimit := Nat.lt_of_le_of_lt (Nat.le_add_right _ _) r.dp
theorem Room.unitsD {A : Around} {env : Env} {d : Nat} (r : Room A d) : (A.deeper env).units + 1 < cLine := by have := r.un; show A.units + 3 + 1 < _; (first | lia | omega)
theorem let_env0 {M : Model} {A0 : Around} {e : Env} {B : Env → Sem Flow} {Q : Flow → Shared → Prop} {E : Value → Shared → Prop} {s : Shared} (h : let env := e; let A1 := A0.deeper env; wpAny M A1 (B env) Q E s) : wpAny M (A0.deeper e) (B e) Q E s := h
theorem let_env {M : Model} {A0 : Around} {e : Env} {B : Env → Sem Flow} {Q : Flow → Shared → Prop} {E : Value → Shared → Prop} {s : Shared} {h0 : Heap} {t d : Nat} (R : Room A0 (d + 1))
    (h : ∀ tk0, let env := e; let A1 := A0.deeper env; Room A1 d → wpAny M A1 (B env) Q E { s with heap := h0, toks := tk0 }) : wpAny M (A0.deeper e) (B e) Q E { s with heap := h0, toks := t } := h t R.deeper
section
variable {prog : Program} {w : World} {A : Around} {s : Shared} {h₀ : Heap} {L : Addr} {m : Str → Option Value} {news : List (Addr × Obj)} {K : Frag}
  {R : Result → Shared → Prop} {name qual : Str} {params : Arguments} {body : List Stmt} {scope : Scope} {dV kV doc pm cdv ct oc : Value} {an od : Option Addr} {osl : Array (Option Value)} {f : Addr} {args : Args} {binds : List (Str × Value)}
  {p : Program} {loose : List Str} {mean : ExcName → Option Value} {mg mb : Str → Option Value}
theorem ground_g (F : Fr h₀ L s.heap m) (N : News h₀ L s.heap news) :
    Fr h₀ L (hideAll s.heap (news.map (·.1))) m ∧ h₀.StaysIn (hideAll s.heap (news.map (·.1))) ∧
      ∀ v s', LeaveK h₀ L m (hideAll s.heap (news.map (·.1))) R v s' → R (.ok (.ret v)) s' := by
  have nm : ∀ b o, h₀.get? b = some o → b ∉ news.map (·.1) := fun b o e q => by
    obtain ⟨p, hp, rfl⟩ := List.mem_map.mp q
    rw [(N p hp).2.2] at e; cases e
  have st : h₀.StaysIn (hideAll s.heap (news.map (·.1))) := fun b o e => hideAll_get _ (F.keep b o e) (nm b o e)
  obtain ⟨oL, es, ep, hL, hLd, hLk, hLf⟩ := F.ns
  have nL : L ∉ news.map (·.1) := fun q => by
    obtain ⟨p, hp, e⟩ := List.mem_map.mp q
    exact (N p hp).2.1 e
  have hLg := hideAll_get (news.map (·.1)) hL nL
  refine ⟨⟨⟨oL, es, ep, hLg, hLd, hLk, hLf⟩, st, F.above⟩, st, fun v s' hl => ?_⟩
  obtain ⟨L', m', news', F', N', k⟩ := hl
  refine k ⟨⟨oL, es, ep, F'.keep L oL hLg, hLd, hLk, hLf⟩, fun b o e => F'.keep b o (st b o e), F.above⟩ fun p hp => ⟨(N' p hp).1, fun q => ?_, ?_⟩
  · have := (N' p hp).2.2; rw [q, hLg] at this; cases this
  · cases q : h₀.get? p.1 with
    | none => rfl
    | some o => have := (N' p hp).2.2; rw [st _ _ q] at this; cases this
theorem enter (F : Fr h₀ L s.heap m) (X₀ : K.In h₀) (N : News h₀ L s.heap news) (T : Top p loose mean mg mb h₀)
    (ho : K.lookup f = some ⟨oc, od, .func (fnOf name qual params body scope dV kV doc pm an cdv ct), osl⟩) (hcd : codeIn K cdv qual = true) (hroom : A.depth < recursionLimit)
    (hbind : BindsTo s (fnOf name qual params body scope dV kV doc pm an cdv ct) args binds) (hloc : ∀ y ∈ binds, scope.names.lookup y.1 = some .local)
    (h : ∀ g L' h₁, Fr h₀ L g m → Fr g L' h₁ (fun y => binds.reverse.lookup y) → News g L' h₁ news → K.In g → Top p loose mean mg mb g → (∀ p ∈ news, p.1 < L') →
      wpAny (model prog w) (A.deeper (envOf qual scope L' f cdv)) (execs body (envOf qual scope L' f cdv))
        (fun fl s' => LeaveK h₀ L m g R (match fl with | .ret v => v | _ => .none) s') (fun _ _ => False)
        { s with heap := h₁, toks := s.toks + binds.length })
    (hco : scope.isCoroutine = false) (hgen : scope.isGenerator = false) (hk : scope.kind = .function)
    (hcell : ∀ x ∈ scope.names, x.2 ≠ .cell) : codeAny (model prog w) A (.call (.ref f) args) R s := by
  obtain ⟨FG, st, lv⟩ := ground_g (R := R) F N
  refine codeAny_call_def (fd := fnOf name qual params body scope dV kV doc pm an cdv ct) (body := body) (binds := binds) hroom ((X₀.keeps F.keep) _ _ ho) rfl (T.nolimit.keeps F.keep) (codeRec_of (X₀.keeps F.keep) hcd) rfl hbind hcell hloc (fun h₁ hns hk₁ => ?_) hco hgen hk
  exact wpAny_mono (h _ s.heap.objs.size h₁ FG ⟨hns, fun b o e => hk₁ b o (of_hideAll _ e), Nat.le_of_eq (hideAll_size _ _)⟩
    (fun p hp => ⟨hk₁ _ _ (N p hp).1, Nat.ne_of_lt (Heap.lt_size (N p hp).1), hideAll_none _ (List.mem_map_of_mem hp)⟩) (X₀.keeps st) (T.keeps st) (fun p hp => Heap.lt_size (N p hp).1)) (fun fl s' hl => lv _ _ hl) fun _ _ y => y.elim
theorem enterC (F : Fr h₀ L s.heap m) (X₀ : K.In h₀) (N : News h₀ L s.heap news) (T : Top p loose mean mg mb h₀)
    (ho : K.lookup f = some ⟨oc, od, .func (fnOf name qual params body scope dV kV doc pm an cdv ct), osl⟩) (hcd : codeIn K cdv qual = true) (hroom : A.depth < recursionLimit)
    (hbind : BindsTo s (fnOf name qual params body scope dV kV doc pm an cdv ct) args binds) (hkind : (binds.all fun y => scope.names.lookup y.1 == some .local || scope.names.lookup y.1 == some .cell) = true)
    (hnd : ((cellsFrom 0 scope.names []).map (·.1)).Nodup)
    (h : ∀ g L' h₁ tk cells, Fr h₀ L g m → Fr g L' h₁ (bindL (envOfC qual scope L' f cdv).kindOf binds fun _ => none) → News g L' h₁ (cells ++ news) →
      CellsAre (bindC (envOfC qual scope L' f cdv).kindOf binds fun _ => none) (cellsFrom (L' + 1) scope.names []) cells → K.In g → Top p loose mean mg mb g → (∀ p ∈ news, p.1 < L') →
      wpAny (model prog w) (A.deeper (envOfC qual scope L' f cdv)) (execs body (envOfC qual scope L' f cdv))
        (fun fl s' => LeaveK h₀ L m g R (match fl with | .ret v => v | _ => .none) s') (fun _ _ => False)
        { s with heap := h₁, toks := tk })
    (hco : scope.isCoroutine = false) (hgen : scope.isGenerator = false) (hk : scope.kind = .function) : codeAny (model prog w) A (.call (.ref f) args) R s := by
  obtain ⟨FG, st, lv⟩ := ground_g (R := R) F N
  refine codeAny_call_function hroom ((X₀.keeps F.keep) _ _ ho) rfl hco hgen rfl (codeRec_of (X₀.keeps F.keep) hcd) (hbind _ _ _ _ ?_)
  refine wpAny_newFunctionEnv_cells hk (kindsX hkind _) fun env' he s' x => ?_
  subst he
  refine ⟨(T.nolimit.keeps F.keep).keeps x.toInCall.keep, codeAny_func ?_⟩
  obtain ⟨h₁, tk, rfl, _⟩ := x.done
  have hk₁ := x.toInCall.keep
  obtain ⟨cells, NC, Y⟩ := Cl.news (h₀ := s.heap) (Nat.le_refl _) fun n c hm => ⟨x.cell n c (lookup_of_mem_nodup (cellsFrom_names scope.names 0 (s.heap.objs.size + 1) [] [] rfl ▸ hnd) hm), x.above n c hm⟩
  refine wpAny_mono (h _ s.heap.objs.size h₁ tk cells FG ⟨x.toInCall.ns, fun b o e => hk₁ b o (of_hideAll _ e), Nat.le_of_eq (hideAll_size _ _)⟩ (fun p hp => ?_) Y (X₀.keeps st) (T.keeps st) (fun p hp => Heap.lt_size (N p hp).1)) (fun fl s' hl => lv _ _ hl) fun _ _ y => y.elim
  rcases List.mem_append.mp hp with hp | hp
  · refine ⟨(NC p hp).1, (NC p hp).2.1, ?_⟩
    cases q : (hideAll s.heap (news.map (·.1))).get? p.1 with
    | none => rfl
    | some o => have := of_hideAll _ q; rw [(NC p hp).2.2] at this; cases this
  · exact ⟨hk₁ _ _ (N p hp).1, Nat.ne_of_lt (Heap.lt_size (N p hp).1), hideAll_none _ (List.mem_map_of_mem hp)⟩
end
section
variable {prog : Program} {w : World} {A : Around} {s : Shared} {h₀ : Heap} {L : Addr} {m : Str → Option Value} {news : List (Addr × Obj)} {K : Frag}
  {R : Result → Shared → Prop} {name qual : Str} {params : Arguments} {body : List Stmt} {scope : Scope} {dV kV doc pm cdv ct oc : Value} {an od : Option Addr} {osl : Array (Option Value)} {f : Addr} {args : Args} {binds : Value → List (Str × Value)} {vt : List Value}
  {p : Program} {loose : List Str} {mean : ExcName → Option Value} {mg mb : Str → Option Value}
theorem enterV (F : Fr h₀ L s.heap m) (X₀ : K.In h₀) (N : News h₀ L s.heap news) (T : Top p loose mean mg mb h₀)
    (ho : K.lookup f = some ⟨oc, od, .func (fnOf name qual params body scope dV kV doc pm an cdv ct), osl⟩) (hcd : codeIn K cdv qual = true) (hroom : A.depth < recursionLimit)
    (hbind : bindArgs (fnOf name qual params body scope dV kV doc pm an cdv ct) args = (newTuple vt >>= fun t => pure (binds t))) (hvt : vt.length ≤ 1000) (hloc : ∀ t, ∀ y ∈ binds t, scope.names.lookup y.1 = some .local)
    (h : ∀ g L' h₁ D tk, Fr h₀ L g m → Fr g L' h₁ (fun y => (binds (.ref D)).reverse.lookup y) → News g L' h₁ ((D, { cls := .type "tuple", data := .seq vt.toArray }) :: news) → K.In g → Top p loose mean mg mb g → (∀ p ∈ news, p.1 < D) → D < L' →
      wpAny (model prog w) (A.deeper (envOf qual scope L' f cdv)) (execs body (envOf qual scope L' f cdv))
        (fun fl s' => LeaveK h₀ L m g R (match fl with | .ret v => v | _ => .none) s') (fun _ _ => False)
        { s with heap := h₁, toks := tk })
    (hco : scope.isCoroutine = false) (hgen : scope.isGenerator = false) (hk : scope.kind = .function)
    (hcell : ∀ x ∈ scope.names, x.2 ≠ .cell) : codeAny (model prog w) A (.call (.ref f) args) R s := by
  refine codeAny_call_function hroom ((X₀.keeps F.keep) _ _ ho) rfl hco hgen rfl (codeRec_of (X₀.keeps F.keep) hcd) ?_
  rw [hbind]
  refine wpAny_bind (newTuple_N F N (fun h' F₁ N₁ => wpAny_pure ?_) (by rw [show sizeLine = 16777216 from rfl]; (first | lia | omega)))
  have lt : ∀ p ∈ news, p.1 < s.heap.objs.size := fun p hp => Heap.lt_size (N p hp).1
  generalize hs₁ : ({ s with heap := h' } : Shared) = s₁
  have e1 : h' = s₁.heap := by rw [← hs₁]
  rw [e1] at F₁ N₁
  obtain ⟨FG, st, lv⟩ := ground_g (R := R) F₁ N₁
  refine wpAny_newFunctionEnv hcell (hloc _) (fun h₁ hns hsb => ⟨(T.nolimit.keeps F₁.keep).fresh _ hsb, codeAny_func ?_⟩) hk
  have hk₁ : ∀ b o, s₁.heap.get? b = some o → h₁.get? b = some o := fun b o e => hsb.extBut b o (Nat.ne_of_lt (Heap.lt_size e)) (Heap.get?_push_of_some _ e)
  have hD := Heap.lt_size (N₁ _ List.mem_cons_self).1
  have := h _ s₁.heap.objs.size h₁ s.heap.objs.size (s₁.toks + (binds (.ref s.heap.objs.size)).length) FG ⟨hns, fun b o e => hk₁ b o (of_hideAll _ e), Nat.le_of_eq (hideAll_size _ _)⟩
    (fun p hp => ⟨hk₁ _ _ (N₁ p hp).1, Nat.ne_of_lt (Heap.lt_size (N₁ p hp).1), hideAll_none _ (List.mem_map_of_mem hp)⟩) (X₀.keeps st) (T.keeps st) lt hD
  subst hs₁
  exact wpAny_mono this (fun fl s' hl => lv _ _ hl) fun _ _ y => y.elim
end
end
section
section
variable {prog : Program} {w : World} {A : Around} {E : Value → Shared → Prop} {s : Shared}
theorem tuple_lt_tree {x y : Addr} {r1 t1 r2 t2 : Int} {a1 b1 a2 b2 : Tok} {v1 v2 : Value} {n1 n2 : Nat} {ox oy : Obj} {P : Fin → Shared → Prop}
    (hx : s.heap.get? x = some ox) (dx : ox.data = .seq #[.int r1 a1, .int t1 b1, v1] n1)
    (hy : s.heap.get? y = some oy) (cy : oy.cls = .type "tuple") (dy : oy.data = .seq #[.int r2 a2, .int t2 b2, v2] n2) (hne : t1 ≠ t2)
    (h : ∀ tk, P (.done (.ret (.bool (decide (r1 < r2 ∨ (r1 = r2 ∧ t1 < t2)))))) { s with toks := tk }) :
    wpAny (model prog w) A (Builtin.«tuple.__lt__» ⟨[.ref x, .ref y], []⟩) P E s := by
  have hTb : s.TypeIs (.ref y) "tuple" := ⟨oy, hy, cy⟩
  show wpAny _ _ (isInstance (.ref y) (.type "tuple") >>= _) _ _ s
  refine wpAny_bind (wpAny_isInstance hTb isSubtype_tuple_tuple ?_)
  simp only [Bool.not_true, Bool.false_eq_true, if_false]
  refine wpAny_bind (wpAny_tupleItemsOf hx dx ?_)
  refine wpAny_bind (wpAny_tupleItemsOf hy dy ?_)
  refine wpAny_bind ?_
  simp only [List.zip_cons_cons, List.zip_nil_right, List.forIn_cons]
  refine wpAny_bind (wpAny_bind (wpAny_eqBool_int ?_))
  by_cases hr : r1 = r2
  · subst hr
    simp only [beq_self_eq_true, Bool.not_true, Bool.false_eq_true, if_false]
    refine wpAny_pure ?_
    refine wpAny_bind (wpAny_bind (wpAny_eqBool_int ?_))
    have e : (t1 == t2) = false := by simpa using hne
    simp only [e, Bool.not_false, if_true]
    refine wpAny_bind (wpAny_rule (wpAny_bind ?_))
    refine lt_int (Q := fun v s' => _) ?_
    refine wpAny_bind (wpAny_pure (wpAny_pure (wpAny_pure (wpAny_pure ?_))))
    have := h s.toks
    simpa using this
  · have e : (r1 == r2) = false := by simpa using hr
    simp only [e, Bool.not_false, if_true]
    refine wpAny_bind (wpAny_rule (wpAny_bind ?_))
    refine lt_int (Q := fun v s' => _) ?_
    refine wpAny_bind (wpAny_pure (wpAny_pure (wpAny_pure (wpAny_pure ?_))))
    have := h s.toks
    simpa [hr] using this
end
end
section
noncomputable def ovr (l : List (Str × Value)) (u : Str → Option Value) : Str → Option Value := fun x => match l.lookup x with
  | some v => some v
  | none => u x
theorem ovr_of {l : List (Str × Value)} {m : Str → Option Value} (h : ∀ q ∈ l, m q.1 = some q.2) : m = ovr l m := by
  funext x
  unfold ovr
  cases e : l.lookup x with
  | none => rfl
  | some v =>
    induction l with
    | nil => simp at e
    | cons q r ih =>
      rw [List.lookup_cons] at e
      by_cases hq : (x == q.1) = true
      · simp only [hq] at e
        have : x = q.1 := by simpa using hq
        rw [this, h q List.mem_cons_self, Option.some.inj e]
      · simp only [hq] at e
        exact ih (fun q' hq' => h q' (List.mem_cons_of_mem _ hq')) e
structure Tr where
  r : Int
  t : Int
  ps : List Str
noncomputable def TupObj (r t : Int) (a b : Tok) (v : Value) (n : Nat) : Obj := { cls := .type "tuple", data := .seq #[.int r a, .int t b, v] n }
inductive TreeIn (news : List (Addr × Obj)) (v : Value) (x : Tr) : Prop
  | mk (a : _) (t1 : _) (t2 : _) (la : _) (n : _) (n2 : _) (its : _)
    (z1 : v = .ref a)
    (z2 : (a, TupObj x.r x.t t1 t2 (.ref la) n) ∈ news)
    (z3 : (la, listOf (List.toArray its) n2) ∈ news)
    (z4 : StrsAre its x.ps) : TreeIn news v x
theorem TreeIn.mono {news news' : List (Addr × Obj)} {v : Value} {x : Tr} (h : TreeIn news v x) (hs : ∀ p ∈ news, p ∈ news') : TreeIn news' v x := by
  obtain ⟨a, t1, t2, la, n, n2, its, e, h1, h2, h3⟩ := h
  exact ⟨a, t1, t2, la, n, n2, its, e, hs _ h1, hs _ h2, h3⟩
noncomputable def key (x : Value × Tr) : Int := x.2.r * 2 ^ 20 + x.2.t
noncomputable def Small (x : Value × Tr) : Prop := 0 ≤ x.2.r ∧ x.2.r < 64 ∧ 0 ≤ x.2.t ∧ x.2.t < 2 ^ 20
noncomputable def vals (f : Nat → Value × Tr) (n : Nat) : List Value := lst (fun i => (f i).1) n
section
variable {prog : Program} {w : World} {A : Around} {E : Value → Shared → Prop} {s : Shared} {h₀ : Heap} {L : Addr} {m : Str → Option Value} {news rest : List (Addr × Obj)}
theorem lt_tup {x y : Value} {X Y : Tr} {Q : Value → Shared → Prop} (hu : A.units + 1 < cLine) (N : News h₀ L s.heap news) (hx : TreeIn news x X) (hy : TreeIn news y Y) (hne : X.t ≠ Y.t) (sx : Small (x, X)) (sy : Small (y, Y))
    (h : ∀ tk, Q (.bool (decide (key (x, X) < key (y, Y)))) { s with toks := tk }) : wpAny (model prog w) A (compareOp .Lt x y) Q E s := by
  obtain ⟨a, t1, t2, la, n, n2, its, rfl, h1, _⟩ := hx
  obtain ⟨b, u1, u2, lb, k, k2, ots, rfl, h2, _⟩ := hy
  have o1 := (N _ h1).1
  have o2 := (N _ h2).1
  have T1 : s.TypeIs (.ref a) "tuple" := ⟨_, o1, rfl⟩
  have T2 : s.TypeIs (.ref b) "tuple" := ⟨_, o2, rfl⟩
  refine cmp_ofLt (wpAny_richCompare_same_room (op := .Lt) T1 T2 F.slot_tuple_lt ?_ (by (first | lia | omega)))
  refine wpAny_call_entry F.slot_tuple_lt T1 F.entry_tuple_lt ?_ (F.args_tuple_lt_2 _ _)
  refine tuple_lt_tree o1 rfl o2 rfl rfl hne fun tk => ⟨_, rfl, (fun e => nomatch e), ?_⟩
  have := h tk
  have e : decide (X.r < Y.r ∨ (X.r = Y.r ∧ X.t < Y.t)) = decide (key (.ref a, X) < key (.ref b, Y)) := by
    unfold Small at sx sy
    apply decide_eq_decide.mpr
    simp only [key]
    simp only at sx sy
    (first | lia | omega)
  rw [e]; exact this
theorem get_at {value slice : Expr} {ha : Addr} {vs : List Value} {ep i : Nat} {u : Tok} {v : Value} {Q : Value → Shared → Prop} (N : News h₀ L s.heap ((ha, listOf vs.toArray ep) :: rest)) (hi : i < 2 ^ 62) (hx : vs[i]? = some v) (h : Q v s)
    (hs : subscripted slice false (.ref ha) (.int i u) = operate [.ref ha, .int i u] (getItem (.ref ha) (.int i u))) (hg : ∀ r, letTemporaryGo value (.ref ha) r = pure ()) :
    wpAny (model prog w) A (subscriptTail value slice (.ref ha) (.int i u)) Q E s :=
  item_listL ⟨_, (N _ List.mem_cons_self).1, rfl, ep, rfl⟩ (by (first | lia | omega)) (by (first | lia | omega)) (by simpa using hx) h hs hg
theorem set_at {ha : Addr} {vs : List Value} {ep i : Nat} {u : Tok} {v : Value} {Q : Unit → Shared → Prop} (F : Fr h₀ L s.heap m) (N : News h₀ L s.heap ((ha, listOf vs.toArray ep) :: rest)) (hne : ∀ q ∈ rest, q.1 ≠ ha) (hi : i < 2 ^ 62) (hl : i < vs.length)
    (h : ∀ h', Fr h₀ L h' m → News h₀ L h' ((ha, listOf (vs.set i v).toArray ep) :: rest) → Q () { s with heap := h' }) : wpAny (model prog w) A (setItem (.ref ha) (.int i u) v) Q E s := by
  have z := N _ List.mem_cons_self
  refine ki_setAt z.1 (by (first | lia | omega)) (by (first | lia | omega)) (by simpa using hl) ?_
  have e : Obj.mapSeq (·.setIfInBounds ((i : Int)).toNat v) (listOf vs.toArray ep) = listOf (vs.set i v).toArray ep := by
    simp [Obj.mapSeq, W.listOf]
  obtain ⟨F', N'⟩ := news_upd (pre := []) F N (fun _ h => nomatch h) hne e rfl
  exact h _ F' N'
theorem half_at {p : Nat} {t u : Tok} {Q : Value → Shared → Prop} (h0 : 0 < p) (h : ∀ tk tk', Q (.int (((p - 1) / 2 : Nat) : Int) tk) { s with toks := tk' }) :
    wpAny (model prog w) A (binaryOp .RShift (.int ((p : Int) - 1) t) (.int 1 u)) Q E s := by
  refine rshift_int (by decide) ?_
  have e : ((p : Int) - 1).fdiv (2 ^ (1 : Int).toNat) = (((p - 1) / 2 : Nat) : Int) := by
    rw [show (2 : Int) ^ (1 : Int).toNat = 2 from rfl, Int.fdiv_eq_ediv_of_nonneg _ (by decide)]; (first | lia | omega)
  rw [e]; exact h _ _
end
end
section
structure Trees (news : List (Addr × Obj)) (f : Nat → Value × Tr) (n : Nat) : Prop where
  isin : ∀ i, i < n → TreeIn news (f i).1 (f i).2
  small : ∀ i, i < n → Small (f i)
  apart : ∀ i j, i < n → j < n → i ≠ j → (f i).2.t ≠ (f j).2.t
theorem Trees.swap {news : List (Addr × Obj)} {f : Nat → Value × Tr} {n i j : Nat} (h : Trees news f n) (hi : i < n) (hj : j < n) : Trees news (swp f i j) n := by
  have hs : ∀ x, ∃ y, swp f i j x = f y ∧ (x < n → y < n) ∧ (y = if x = i then j else if x = j then i else x) := fun x => by
    unfold swp
    by_cases e1 : x = i
    · exact ⟨j, by simp [e1], fun _ => hj, by simp [e1]⟩
    · by_cases e2 : x = j
      · refine ⟨i, ?_, fun _ => hi, ?_⟩
        · simp only [e1, if_false]; simp [e2]
        · simp only [e1, if_false]; simp [e2]
      · exact ⟨x, by simp [e1, e2], id, by simp [e1, e2]⟩
  refine ⟨fun x hx => ?_, fun x hx => ?_, fun x x' hx hx' hne => ?_⟩
  · obtain ⟨y, e, hy, _⟩ := hs x; rw [e]; exact h.isin y (hy hx)
  · obtain ⟨y, e, hy, _⟩ := hs x; rw [e]; exact h.small y (hy hx)
  · obtain ⟨y, e, hy, q⟩ := hs x
    obtain ⟨y', e', hy', q'⟩ := hs x'
    rw [e, e']
    refine h.apart y y' (hy hx) (hy' hx') fun z => hne ?_
    subst z
    by_cases a1 : x = i <;> by_cases a2 : x' = i <;> by_cases a3 : x = j <;> by_cases a4 : x' = j <;> simp_all
theorem vals_swp {f : Nat → Value × Tr} {its : List Value} {n pos pp : Nat} (e : its.set pos (f pos).1 = vals f n) (hp : pp < n) (hne : pp ≠ pos) :
    (its.set pos (f pp).1).set pp (f pos).1 = vals (swp f pos pp) n := by
  have h1 : (its.set pos (f pp).1) = (its.set pos (f pos).1).set pos (f pp).1 := by rw [List.set_set]
  rw [h1, e]
  unfold vals
  rw [lst_set, lst_set]
  apply lst_congr
  intro i _
  simp only [swp]
  by_cases a : i = pos
  · subst a; simp [Ne.symm hne]
  · by_cases b : i = pp
    · subst b; simp [a]
    · simp [a, b]
theorem vals_get {f : Nat → Value × Tr} {its : List Value} {n pos pp : Nat} {x : Value} (e : its.set pos x = vals f n) (hp : pp < n) (hne : pp ≠ pos) : its[pp]? = some (f pp).1 := by
  have : (its.set pos x)[pp]? = some (f pp).1 := by rw [e]; exact lst_get hp
  rw [List.getElem?_set_ne (Ne.symm hne)] at this; exact this
theorem lt_trees {prog : Program} {w : World} {A : Around} {E : Value → Shared → Prop} {s : Shared} {h₀ : Heap} {L : Addr} {rest news : List (Addr × Obj)} {g : Nat → Value × Tr} {n i j : Nat} {Q : Value → Shared → Prop}
    (hu : A.units + 1 < cLine) (N : News h₀ L s.heap news) (T : Trees rest g n) (hs : ∀ q ∈ rest, q ∈ news) (hi : i < n) (hj : j < n) (hne : i ≠ j)
    (h : ∀ tk, Q (.bool (decide (key (g i) < key (g j)))) { s with toks := tk }) : wpAny (model prog w) A (compareOp .Lt (g i).1 (g j).1) Q E s :=
  lt_tup hu N ((T.isin i hi).mono hs) ((T.isin j hj).mono hs) (T.apart i j hi hj hne) (T.small i hi) (T.small j hj) h
theorem vals_self {f : Nat → Value × Tr} {n pos : Nat} : (vals f n).set pos (f pos).1 = vals f n := by
  unfold vals
  rw [lst_set]
  apply lst_congr
  intro i _
  by_cases h : i = pos
  · subst h; simp
  · simp [h]
section
variable {prog : Program} {w : World} {A : Around} {E : Value → Shared → Prop} {s : Shared} {h₀ : Heap} {L : Addr} {m : Str → Option Value} {news rest : List (Addr × Obj)}
theorem get_atZ {value slice : Expr} {ha : Addr} {vs : List Value} {ep : Nat} {k : Int} {u : Tok} {v : Value} {Q : Value → Shared → Prop} (N : News h₀ L s.heap ((ha, W.listOf vs.toArray ep) :: rest)) (h0 : 0 ≤ k) (hi : k < 2 ^ 62) (hx : vs[k.toNat]? = some v) (h : Q v s)
    (hs : subscripted slice false (.ref ha) (.int k u) = operate [.ref ha, .int k u] (getItem (.ref ha) (.int k u))) (hg : ∀ r, letTemporaryGo value (.ref ha) r = pure ()) :
    wpAny (model prog w) A (subscriptTail value slice (.ref ha) (.int k u)) Q E s :=
  item_listL ⟨_, (N _ List.mem_cons_self).1, rfl, ep, rfl⟩ h0 (by (first | lia | omega)) (by simpa using hx) h hs hg
theorem len_at {ha : Addr} {vs : List Value} {ep n : Nat} {Q : Value → Shared → Prop} (N : News h₀ L s.heap ((ha, W.listOf vs.toArray ep) :: rest)) (hl : vs.length = n) (hn : n < 2 ^ 62) (h : ∀ tk tk', Q (.int (n : Int) tk) { s with toks := tk' }) :
    wpAny (model prog w) A (call (.builtin "len") [.ref ha]) Q E s := by
  refine call_len_list (items := vs.toArray) ⟨_, (N _ List.mem_cons_self).1, rfl, ep, rfl⟩ (by simp [hl]; (first | lia | omega)) ?_
  have := h (s.toks + 1) (s.toks + 1 + 1)
  simpa [hl] using this
end
theorem vals_length {f : Nat → Value × Tr} {n : Nat} : (vals f n).length = n := by simp [vals, lst_length]
theorem nodup_lst {α : Type} {f : Nat → α} {n : Nat} : (lst f n).Nodup ↔ ∀ i j, i < n → j < n → i ≠ j → f i ≠ f j := by
  unfold List.Nodup
  rw [List.pairwise_iff_getElem]
  have g : ∀ i (h : i < (lst f n).length), (lst f n)[i] = f i := fun i h => by
    have := lst_get (f := f) (n := n) (i := i) (by simpa [lst_length] using h)
    rw [List.getElem?_eq_getElem h] at this; exact Option.some.inj this
  constructor
  · intro h i j hi hj hne
    rcases Nat.lt_or_gt_of_ne hne with hl | hl
    · have := h i j (by simpa [lst_length] using hi) (by simpa [lst_length] using hj) hl
      rw [g, g] at this; exact this
    · have := h j i (by simpa [lst_length] using hj) (by simpa [lst_length] using hi) hl
      rw [g, g] at this; exact Ne.symm this
  · intro h i j hi hj hl
    rw [g, g]
    exact h i j (by simpa [lst_length] using hi) (by simpa [lst_length] using hj) (Nat.ne_of_lt hl)
theorem Trees.perm {news : List (Addr × Obj)} {f f' : Nat → Value × Tr} {n n' : Nat} (h : Trees news f n) (hp : (lst f' n').Perm (lst f n)) : Trees news f' n' := by
  have hm : ∀ i, i < n' → ∃ j, j < n ∧ f j = f' i := fun i hi => lst_mem.mp (hp.mem_iff.mp (lst_mem.mpr ⟨i, hi, rfl⟩))
  refine ⟨fun i hi => ?_, fun i hi => ?_, ?_⟩
  · obtain ⟨j, hj, e⟩ := hm i hi; rw [← e]; exact h.isin j hj
  · obtain ⟨j, hj, e⟩ := hm i hi; rw [← e]; exact h.small j hj
  · have h1 : ((lst f n).map fun x => x.2.t).Nodup := by rw [lst_map]; exact nodup_lst.mpr h.apart
    have h2 : ((lst f' n').map fun x => x.2.t).Nodup := (hp.map _).nodup_iff.mpr h1
    rw [lst_map] at h2
    exact nodup_lst.mp h2
theorem Trees.mono {news news' : List (Addr × Obj)} {f : Nat → Value × Tr} {n : Nat} (h : Trees news f n) (hs : ∀ p ∈ news, p ∈ news') : Trees news' f n :=
  ⟨fun i hi => (h.isin i hi).mono hs, h.small, h.apart⟩
theorem Trees.less {news : List (Addr × Obj)} {f : Nat → Value × Tr} {n n' : Nat} (h : Trees news f n) (hn : n' ≤ n) : Trees news f n' :=
  ⟨fun i hi => h.isin i (by (first | lia | omega)), fun i hi => h.small i (by (first | lia | omega)), fun i j hi hj => h.apart i j (by (first | lia | omega)) (by (first | lia | omega))⟩
theorem News.sub {h₀ h : Heap} {L : Addr} {news news' : List (Addr × Obj)} (N : PyProof.Rows.News h₀ L h news) (hs : ∀ p ∈ news', p ∈ news) : PyProof.Rows.News h₀ L h news' := fun p hp => N p (hs p hp)
theorem mem_swap {α : Type} {a b : α} {l : List α} : ∀ p ∈ a :: b :: l, p ∈ b :: a :: l := fun p hp => by
  simp only [List.mem_cons] at hp ⊢
  rcases hp with h | h | h
  · exact .inr (.inl h)
  · exact .inl h
  · exact .inr (.inr h)
end
section
section
variable {prog : Program} {w : World} {A : Around} {E : Value → Shared → Prop} {s : Shared} {env : Env} {h₀ : Heap} {m : Str → Option Value} {news : List (Addr × Obj)}
inductive TurnEnd (h₀ : Heap) (L : Addr) (s : Shared) (I : Addr) (oI : Obj) (J : (Str → Option Value) → List (Addr × Obj) → Prop) (s₂ : Shared) : Prop
  | mk (h' : Heap) (tk : Nat) (m' : Str → Option Value) (news' : List (Addr × Obj)) (z1 : s₂ = { s with heap := h', toks := tk }) (z2 : Fr h₀ L h' m') (z3 : News h₀ L h' ((I, oI) :: news')) (z4 : ∀ p ∈ news', p.1 ≠ I) (z5 : J m' news') : TurnEnd h₀ L s I oI J s₂
theorem TurnEnd.base {L I : Addr} {oI : Obj} {J : (Str → Option Value) → List (Addr × Obj) → Prop} {a : Heap} {b : Nat} {s₂ : Shared} (h : TurnEnd h₀ L { s with heap := a, toks := b } I oI J s₂) : TurnEnd h₀ L s I oI J s₂ := by
  obtain ⟨h', tk, m', nw, e, F, N, o, j⟩ := h
  exact ⟨h', tk, m', nw, e, F, N, o, j⟩
noncomputable def TurnMy (h₀ : Heap) (L : Addr) (s : Shared) (I : Addr) (oI : Obj) (J : (Str → Option Value) → List (Addr × Obj) → Prop) (Q : Flow → Shared → Prop) (f : Flow) (s₂ : Shared) : Prop :=
  match f with
  | .brk => Q .next s₂
  | .ret v => Q (.ret v) s₂
  | _ => TurnEnd h₀ L s I oI J s₂
theorem TurnMy.intro {L I : Addr} {oI : Obj} {J : (Str → Option Value) → List (Addr × Obj) → Prop} {Q : Flow → Shared → Prop} {f : Flow} {h' : Heap} {tk : Nat} {m' : Str → Option Value} {news' : List (Addr × Obj)}
    (hf : f = .next ∨ f = .cont) (F : Fr h₀ L h' m') (N : News h₀ L h' ((I, oI) :: news')) (hn : ∀ p ∈ news', p.1 ≠ I) (hJ : J m' news') :
    TurnMy h₀ L s I oI J Q f { s with heap := h', toks := tk } := by
  rcases hf with rfl | rfl <;> exact ⟨h', tk, m', news', rfl, F, N, hn, hJ⟩
inductive LoopMy (prog : Program) (w : World) (A : Around) (h₀ : Heap) (env : Env) (x : Str) (body orelse : List Stmt) (Q : Flow → Shared → Prop) (E : Value → Shared → Prop) (it : Value) (s : Shared) : Prop
  | mk (I : Addr) (fp : List Addr) (n : Nat) (P : Nat → Value → Prop) (St : Nat → Heap → Prop) (S : List (Addr × Obj) → Prop) (m : Str → Option Value) (news : List (Addr × Obj)) (J : Nat → (Str → Option Value) → List (Addr × Obj) → Prop)
    (z1 : it = .ref I)
    (z2 : Walks prog w A I fp [I] n P St)
    (z3 : (∀ i h, St i h → ∃ o, h.get? I = some o))
    (z4 : (∀ i h h' o nw, St i h → h.get? I = some o → h'.get? I = some o → (∀ b o, h₀.get? b = some o → h'.get? b = some o) → News h₀ env.locals h' nw → S nw → St i h'))
    (z5 : (∀ i m nw, J i m nw → S nw))
    (z6 : env.locals ≠ I)
    (z7 : h₀.get? I = none)
    (z8 : St 0 s.heap)
    (z9 : Fr h₀ env.locals s.heap m)
    (z10 : News h₀ env.locals s.heap news)
    (z11 : (∀ p ∈ news, p.1 ≠ I))
    (z12 : J 0 m news)
    (z13 : (∀ i v m₁ news₁ h tk oI, i < n → P i v → J i m₁ news₁ → (∀ p ∈ news₁, p.1 ≠ I) → Fr h₀ env.locals h (fun y => if y = x then some v else m₁ y) → News h₀ env.locals h ((I, oI) :: news₁) → wpAny (model prog w) A (execs body env) (TurnMy h₀ env.locals { s with heap := h, toks := tk } I oI (J (i + 1)) Q) E { s with heap := h, toks := tk }))
    (z14 : ∀ h tk m₁ news₁, J n m₁ news₁ → Fr h₀ env.locals h m₁ → News h₀ env.locals h news₁ → wpAny (model prog w) A (execs orelse env) Q E { s with heap := h, toks := tk }) : LoopMy prog w A h₀ env x body orelse Q E it s
theorem tick {n i : Nat} (h : i < n) : n + 1 - (i + 1) < n + 1 - i := Nat.sub_lt_sub_left (Nat.lt_succ_of_lt h) (Nat.lt_succ_self i)
inductive ForInv (h₀ : Heap) (L I : Addr) (s₂ : Shared) (n : Nat) (St : Nat → Heap → Prop) (J : Nat → (Str → Option Value) → List (Addr × Obj) → Prop) (k : Nat) (s' : Shared) : Prop
  | mk (h' : Heap) (tk : Nat) (m' : Str → Option Value) (news' : List (Addr × Obj)) (i : Nat) (z1 : s' = { s₂ with heap := h', toks := tk }) (z2 : St i h') (z3 : Fr h₀ L h' m') (z4 : News h₀ L h' news') (z5 : ∀ p ∈ news', p.1 ≠ I) (z6 : J i m' news') (z7 : i ≤ n) (z8 : k = n + 1 - i) :
    ForInv h₀ L I s₂ n St J k s'
theorem For_my {x : Str} {px pos : Pos} {iter : Expr} {body orelse : List Stmt} {Q : Flow → Shared → Prop} (h₀ : Heap) (hx : env.kindOf x = some .local)
    (hp : (env.scope.kind == .class || (env.scope.kind == .module && env.locals != env.globals)) = false)
    (h : wpAny (model prog w) A (eval iter env) (fun xv s₁ => wpAny (model prog w) A (pyIter xv) (fun it s₂ => LoopMy prog w A h₀ env x body orelse Q E it s₂) E s₁) E s)
    (hs : ∀ x, foldedSetIterable iter env x = pure x)
    (hE : PassesOwn (model prog w) A env E) :
    wpAny (model prog w) A (exec (.For (.Name x px) iter body orelse pos) env) Q E s := by
  refine wpAny_For (wpAny_mono h (fun xv s₁ h₁ => wpAny_mono h₁ (fun it s₂ h₂ => ?_) fun _ _ e => e) fun _ _ e => e) hs
  obtain ⟨I, fp, n, P, St, S, m, news, J, rfl, W, hIo, hSt, hS, hLI, hI₀, hst, F, N, off, h0, step, fin⟩ := h₂
  refine codeAny_forLoop
    (ForInv h₀ env.locals I s₂ n St J) ?_ (n + 1)
    ⟨s₂.heap, s₂.toks, m, news, 0, rfl, hst, F, N, off, h0, Nat.zero_le _, rfl⟩
  rintro k s' ⟨h', tk, m', news', i, rfl, hst', F', N', off', hJ, hi, rfl⟩
  by_cases hlt : i < n
  · refine W.item i _ _ _ hlt hst' fun v h₁ tk₁ hP hst₁ hk₁ => ?_
    have F₁ : Fr h₀ env.locals h₁ m' := LCg.fr_but F' hk₁ hLI hI₀
    have N₁ : News h₀ env.locals h₁ news' := LCg.news_but N' hk₁ off'
    refine wpAny_assign_Name (wpAny_storeName_local hx F₁.ns (fun h₂ hn₂ hs₂ => ?_) hp)
    have F₂ := F₁.set hn₂ hs₂
    have N₂ := N₁.set hs₂
    obtain ⟨oI, heI⟩ := hIo _ _ hst₁
    have heI₂ : h₂.get? I = some oI := (hs₂.2 I (Ne.symm hLI)).trans heI
    refine wpAny_mono (step i v m' news' h₂ _ oI hlt hP hJ off' F₂ fun p hp => ?_) (fun f s₃ h₃ => ?_) hE
    · rcases List.mem_cons.mp hp with rfl | hp
      · exact ⟨heI₂, Ne.symm hLI, hI₀⟩
      · exact N₂ p hp
    have go : TurnEnd h₀ env.locals s₂ I oI (J (i + 1)) s₃ → ∃ q, q < n + 1 - i ∧ ForInv h₀ env.locals I s₂ n St J q s₃ := by
      rintro ⟨h₃', tk₃, m₃, news₃, rfl, F₃, N₃, off₃, hJ₃⟩
      refine ⟨n + 1 - (i + 1), tick hlt, h₃', tk₃, m₃, news₃, i + 1, rfl, ?_, F₃, fun p hp => N₃ p (List.mem_cons_of_mem _ hp), off₃, hJ₃, hlt, rfl⟩
      exact hSt _ _ _ _ _ hst₁ heI (N₃ (I, oI) List.mem_cons_self).1 F₃.keep (fun p hp => N₃ p (List.mem_cons_of_mem _ hp)) (hS _ _ _ hJ₃)
    cases f with
    | ret v => exact h₃
    | brk => exact h₃
    | cont => exact go (TurnEnd.base h₃)
    | next => exact go (TurnEnd.base h₃)
  · have hin : i = n := by (first | lia | omega)
    subst hin
    refine W.done _ _ _ hst' fun h₁ tk₁ hk₁ => ?_
    exact wpAny_mono (fin h₁ tk₁ m' news' hJ (LCg.fr_but F' hk₁ hLI hI₀) (LCg.news_but N' hk₁ off')) (fun _ _ x => x) hE
theorem For_myF {x : Str} {px pos : Pos} {iter : Expr} {body orelse : List Stmt} {Q : Flow → Shared → Prop} (_F : Fr h₀ env.locals s.heap m) (hx : env.kindOf x = some .local)
    (hp : (env.scope.kind == .class || (env.scope.kind == .module && env.locals != env.globals)) = false)
    (h : wpAny (model prog w) A (eval iter env) (fun xv s₁ => wpAny (model prog w) A (pyIter xv) (fun it s₂ => LoopMy prog w A h₀ env x body orelse Q E it s₂) E s₁) E s)
    (hs : ∀ x, foldedSetIterable iter env x = pure x)
    (hE : PassesOwn (model prog w) A env E) :
    wpAny (model prog w) A (exec (.For (.Name x px) iter body orelse pos) env) Q E s := For_my h₀ hx hp h hs hE
theorem while_go {L : Addr} {J : Nat → (Str → Option Value) → List (Addr × Obj) → Prop} {Q : Flow → Shared → Prop} {n n' : Nat} {f : Flow} {h' : Heap} {tk : Nat} {m₂ : Str → Option Value} {news₂ : List (Addr × Obj)} (hf : f = .next ∨ f = .cont)
    (F : Fr h₀ L h' m₂) (N : News h₀ L h' news₂) (hn : n' < n) (hJ : J n' m₂ news₂) : WhileStep2 h₀ L s J Q n f { s with heap := h', toks := tk } := by
  rcases hf with rfl | rfl <;> exact ⟨h', tk, m₂, news₂, n', rfl, F, N, hn, hJ⟩
theorem LoopMy.rangeIter {x : Str} {body orelse : List Stmt} {Q : Flow → Shared → Prop} {I : Addr} {a c : Int} {n : Nat} (J : Nat → (Str → Option Value) → List (Addr × Obj) → Prop)
    (hh : A.handled = none) (hit : IsRangeIter s.heap I a n c) (F : Fr h₀ env.locals s.heap m) (N : News h₀ env.locals s.heap news) (hLI : env.locals ≠ I) (hI₀ : h₀.get? I = none) (off : ∀ p ∈ news, p.1 ≠ I) (hJ : J 0 m news)
    (turn : ∀ i t m₁ news₁ h tk oI, i < n → J i m₁ news₁ → (∀ p ∈ news₁, p.1 ≠ I) → Fr h₀ env.locals h (fun y => if y = x then some (.int (a + (i : Nat) * c) t) else m₁ y) → News h₀ env.locals h ((I, oI) :: news₁) →
      wpAny (model prog w) A (execs body env) (TurnMy h₀ env.locals { s with heap := h, toks := tk } I oI (J (i + 1)) Q) E { s with heap := h, toks := tk })
    (fin : ∀ h tk m₁ news₁, J n m₁ news₁ → Fr h₀ env.locals h m₁ → News h₀ env.locals h news₁ → wpAny (model prog w) A (execs orelse env) Q E { s with heap := h, toks := tk }) :
    LoopMy prog w A h₀ env x body orelse Q E (.ref I) s := by
  refine ⟨I, [I], n, _, _, fun _ => True, m, news, J, rfl, Walks.range hh I a c n, fun i h st => ⟨_, st⟩, fun i h h' o nw st e e' _ _ _ => ?_, fun _ _ _ _ => trivial, hLI, hI₀, by simpa using hit, F, N, off, hJ, ?_, fin⟩
  · have st' : h.get? I = some _ := st
    show h'.get? I = some _
    rw [e', ← e]; exact st'
  · rintro i v m₁ news₁ h tk oI hi ⟨t, rfl⟩ hJ' off' F' N'
    exact turn i t m₁ news₁ h tk oI hi hJ' off' F' N'
theorem LoopMy.range {x : Str} {body orelse : List Stmt} {Q : Flow → Shared → Prop} {r : Addr} {a b : Int} {t u v : Tok} {n : Nat} (J : Nat → (Str → Option Value) → List (Addr × Obj) → Prop)
    (hh : A.handled = none) (hr : IsRange s.heap r a b 1 t u v) (hsm : Builtin.Range.small a b 1 = true) (hn : Builtin.Range.rangeSize a b 1 = ((n : Nat) : Int)) (F : Fr h₀ env.locals s.heap m) (N : News h₀ env.locals s.heap news) (hJ : J 0 m news)
    (turn : ∀ I i t m₁ news₁ h tk oI, i < n → J i m₁ news₁ → (∀ p ∈ news₁, p.1 ≠ I) → Fr h₀ env.locals h (fun y => if y = x then some (.int (a + (i : Nat)) t) else m₁ y) → News h₀ env.locals h ((I, oI) :: news₁) →
      wpAny (model prog w) A (execs body env) (TurnMy h₀ env.locals { s with heap := h, toks := tk } I oI (J (i + 1)) Q) E { s with heap := h, toks := tk })
    (fin : ∀ h tk m₁ news₁, J n m₁ news₁ → Fr h₀ env.locals h m₁ → News h₀ env.locals h news₁ → wpAny (model prog w) A (execs orelse env) Q E { s with heap := h, toks := tk }) :
    wpAny (model prog w) A (pyIter (.ref r)) (fun it s₂ => LoopMy prog w A h₀ env x body orelse Q E it s₂) E s := by
  refine wpAny_pyIter_range hr hsm ?_
  refine LoopMy.rangeIter (c := 1) J hh (by rw [hn]; exact Heap.get?_push_size _ rfl) (F.push _) (N.grown fun _ _ e => Heap.get?_push_of_some _ e) (Nat.ne_of_lt F.ns.lt) (next_is_new F) (fun p hp => Nat.ne_of_lt (Heap.lt_size (N p hp).1)) hJ ?_ fin
  intro i t' m₁ news₁ h tk oI hi hJ' off F' N'
  rw [Int.mul_one] at F'
  exact turn _ i t' m₁ news₁ h tk oI hi hJ' off F' N'
theorem LoopMy.list {x : Str} {body orelse : List Stmt} {Q : Flow → Shared → Prop} {ax : Addr} {vs : List Value} {ep : Nat} (J : Nat → (Str → Option Value) → List (Addr × Obj) → Prop)
    (hh : A.handled = none) (F : Fr h₀ env.locals s.heap m) (N : News h₀ env.locals s.heap news) (hS : ∀ i m nw, J i m nw → (ax, W.listOf vs.toArray ep) ∈ nw) (hJ : J 0 m news)
    (turn : ∀ I i v m₁ news₁ h tk oI, i < vs.length → vs[i]? = some v → J i m₁ news₁ → (∀ p ∈ news₁, p.1 ≠ I) → Fr h₀ env.locals h (fun y => if y = x then some v else m₁ y) → News h₀ env.locals h ((I, oI) :: news₁) →
      wpAny (model prog w) A (execs body env) (TurnMy h₀ env.locals { s with heap := h, toks := tk } I oI (J (i + 1)) Q) E { s with heap := h, toks := tk })
    (fin : ∀ h tk m₁ news₁, J vs.length m₁ news₁ → Fr h₀ env.locals h m₁ → News h₀ env.locals h news₁ → wpAny (model prog w) A (execs orelse env) Q E { s with heap := h, toks := tk }) :
    wpAny (model prog w) A (pyIter (.ref ax)) (fun it s₂ => LoopMy prog w A h₀ env x body orelse Q E it s₂) E s := by
  have hl : s.heap.IsList ax vs.toArray := ⟨_, (N _ (hS _ _ _ hJ)).1, rfl, ep, rfl⟩
  have hlt : ax < s.heap.objs.size := Heap.lt_size (N _ (hS _ _ _ hJ)).1
  refine wpAny_pyIter_list hl ?_
  have up : ∀ b o, s.heap.get? b = some o → (s.heap.push { cls := .type "list_iterator", data := .fields #[.ref ax, .int 0 0] }).get? b = some o := fun b o e => Heap.get?_push_of_some _ e
  have Wk := Walks.list (prog := prog) (w := w) hh s.heap.objs.size ax (Nat.ne_of_lt hlt) vs.toArray
  have hsz : vs.toArray.size = vs.length := by simp
  rw [hsz] at Wk
  refine ⟨s.heap.objs.size, [s.heap.objs.size, ax], vs.length, _, _, fun nw => (ax, W.listOf vs.toArray ep) ∈ nw, m, news, J, rfl, Wk, fun i h st => by obtain ⟨o, e, _⟩ := st.1; exact ⟨o, e⟩,
    fun i h h' o nw st e e' _ N' S => ⟨by obtain ⟨o', q, r⟩ := st.1; rw [e] at q; cases q; exact ⟨o, e', r⟩, ⟨_, (N' _ S).1, rfl, ep, rfl⟩⟩, hS, Nat.ne_of_lt F.ns.lt, next_is_new F, ⟨⟨_, Heap.get?_push_size _ rfl, rfl, rfl⟩, hl.push _⟩, F.push _, N.grown up, fun p hp => Nat.ne_of_lt (Heap.lt_size (N p hp).1), hJ, ?_, fin⟩
  intro i v m₁ news₁ h tk oI hi hP hJ' off' F' N'
  exact turn _ i v m₁ news₁ h tk oI hi (by simpa using hP) hJ' off' F' N'
theorem LoopMy.tuple {x : Str} {body orelse : List Stmt} {Q : Flow → Shared → Prop} {ax : Addr} {vs : List Value} {ep : Nat} (J : Nat → (Str → Option Value) → List (Addr × Obj) → Prop)
    (hh : A.handled = none) (F : Fr h₀ env.locals s.heap m) (N : News h₀ env.locals s.heap news) (hS : ∀ i m nw, J i m nw → (ax, ({ cls := .type "tuple", data := .seq vs.toArray ep } : Obj)) ∈ nw) (hJ : J 0 m news)
    (turn : ∀ I i v m₁ news₁ h tk oI, i < vs.length → vs[i]? = some v → J i m₁ news₁ → (∀ p ∈ news₁, p.1 ≠ I) → Fr h₀ env.locals h (fun y => if y = x then some v else m₁ y) → News h₀ env.locals h ((I, oI) :: news₁) →
      wpAny (model prog w) A (execs body env) (TurnMy h₀ env.locals { s with heap := h, toks := tk } I oI (J (i + 1)) Q) E { s with heap := h, toks := tk })
    (fin : ∀ h tk m₁ news₁, J vs.length m₁ news₁ → Fr h₀ env.locals h m₁ → News h₀ env.locals h news₁ → wpAny (model prog w) A (execs orelse env) Q E { s with heap := h, toks := tk }) :
    wpAny (model prog w) A (pyIter (.ref ax)) (fun it s₂ => LoopMy prog w A h₀ env x body orelse Q E it s₂) E s := by
  have hl : s.heap.IsTuple ax vs.toArray := ⟨_, (N _ (hS _ _ _ hJ)).1, rfl, ep, rfl⟩
  have hlt : ax < s.heap.objs.size := Heap.lt_size (N _ (hS _ _ _ hJ)).1
  refine wpAny_pyIter_tuple hl ?_
  have up : ∀ b o, s.heap.get? b = some o → (s.heap.push { cls := .type "tuple_iterator", data := .fields #[.ref ax, .int 0 0] }).get? b = some o := fun b o e => Heap.get?_push_of_some _ e
  have Wk := Walks.tuple (prog := prog) (w := w) hh s.heap.objs.size ax (Nat.ne_of_lt hlt) vs.toArray
  have hsz : vs.toArray.size = vs.length := by simp
  rw [hsz] at Wk
  refine ⟨s.heap.objs.size, [s.heap.objs.size, ax], vs.length, _, _, fun nw => (ax, ({ cls := .type "tuple", data := .seq vs.toArray ep } : Obj)) ∈ nw, m, news, J, rfl, Wk, fun i h st => by obtain ⟨o, e, _⟩ := st.1; exact ⟨o, e⟩,
    fun i h h' o nw st e e' _ N' S => ⟨by obtain ⟨o', q, r⟩ := st.1; rw [e] at q; cases q; exact ⟨o, e', r⟩, ⟨_, (N' _ S).1, rfl, ep, rfl⟩⟩, hS, Nat.ne_of_lt F.ns.lt, next_is_new F, ⟨⟨_, Heap.get?_push_size _ rfl, rfl, rfl⟩, hl.push _⟩, F.push _, N.grown up, fun p hp => Nat.ne_of_lt (Heap.lt_size (N p hp).1), hJ, ?_, fin⟩
  intro i v m₁ news₁ h tk oI hi hP hJ' off' F' N'
  exact turn _ i v m₁ news₁ h tk oI hi (by simpa using hP) hJ' off' F' N'
theorem fits_long {i : Int} (h : i.natAbs < 4000000000) : Builtin.Range.rangeFitsLong i = true := by
  unfold Builtin.Range.rangeFitsLong
  rw [Bool.and_eq_true, decide_eq_true_eq, decide_eq_true_eq]
  (first | lia | omega)
theorem fits_nat {n : Nat} (h : n < 4000000000) : Builtin.Range.rangeFitsLong (n : Int) = true := fits_long (by rw [Int.natAbs_natCast]; exact h)
theorem call_range_reversed {r : Addr} {b : Int} {t u v : Tok} {n : Nat} {Q : Value → Shared → Prop} (hr : IsRange s.heap r 0 b 1 t u v) (hn : Builtin.Range.rangeSize 0 b 1 = ((n : Nat) : Int)) (hb : b.natAbs < 2 ^ 31) (hn2 : n < 2 ^ 31)
    (h : Q (.ref s.heap.objs.size) { s with heap := s.heap.push { cls := .type "range_iterator", data := .fields #[rawInt ((n : Int) - 1), rawInt n, rawInt (-1)] } }) : wpAny (model prog w) A (call (.builtin "range.__reversed__") [.ref r]) Q E s := by
  have hT : s.TypeIs (.ref r) "range" := ⟨_, hr, rfl⟩
  refine wpAny_call_entry F.slot_range_reversed hT F.entry_range_reversed ?_ (F.args_range_reversed_1 _)
  obtain ⟨hp, g, d, tk, os⟩ := s
  have hsm : (Builtin.Range.rangeFitsLong 0 && Builtin.Range.rangeFitsLong b && Builtin.Range.rangeFitsLong 1 && Builtin.Range.rangeFitsLong (-1) && Builtin.Range.rangeFitsLong (0 - 1) && Builtin.Range.rangeFitsLong (n : Int)) = true := by
    rw [fits_long (i := b) (Nat.lt_trans hb (by decide)), fits_nat (n := n) (Nat.lt_trans hn2 (by decide)), fits_long (i := 0) (by decide), fits_long (i := 1) (by decide), fits_long (i := -1) (by decide), fits_long (i := 0 - 1) (by decide)]
    rfl
  unfold Builtin.«range.__reversed__»
  dsimp only at hr
  wp_walk using wpAny_loadPart' hr
  rw [hn, hsm]
  simp only [Bool.not_true, Bool.false_eq_true, if_false, if_true]
  refine wpAny_bind (wpAny_newObj_type (wpAny_pure ⟨_, rfl, ?_⟩))
  have e : (0 : Int) + ((n : Int) - 1) * 1 = n - 1 := by rw [Int.zero_add, Int.mul_one]
  rw [e]; exact h
theorem code_reversed_range {r : Addr} {b : Int} {t u v : Tok} {n : Nat} {Q₁ : Value → Shared → Prop} (hr : IsRange s.heap r 0 b 1 t u v) (hn : Builtin.Range.rangeSize 0 b 1 = ((n : Nat) : Int)) (hb : b.natAbs < 2 ^ 31) (hn2 : n < 2 ^ 31)
    (h : Q₁ (.ref s.heap.objs.size) { s with heap := s.heap.push { cls := .type "range_iterator", data := .fields #[rawInt ((n : Int) - 1), rawInt n, rawInt (-1)] } }) :
    codeAny (model prog w) A (.call (.builtin "reversed.__new__") ⟨[.type "reversed", .ref r], []⟩) (wants Q₁ E) s := by
  have hT : s.TypeIs (.ref r) "range" := ⟨_, hr, rfl⟩
  refine codeAny_of_tree ?_
  show wpAny _ A.in1 (do checkBuiltinCall "reversed.__new__" ⟨[.type "reversed", .ref r], []⟩; again (.builtin "reversed.__new__" ⟨[.type "reversed", .ref r], []⟩)) _ _ s
  refine wpAny_bind (wpAny_of_eq (F.newCall_reversed_1 _) (wpAny_pure ⟨plainId_quiet F.plain_reversed_new _, codeAny_builtin F.entry_reversed_new ?_⟩))
  rw [Around.under_plainId F.plain_reversed_new _]
  unfold Builtin.«reversed.__new__»
  refine wpAny_bind (wpAny_of_eq (newClass_reversed _) ?_)
  try dsimp only
  refine wpAny_bind (wpAny_of_eq (a := ()) (by first | rfl | kernel_rfl) ?_)
  refine wpAny_bind (wpAny_of_eq (a := ()) (by first | rfl | kernel_rfl) ?_)
  try dsimp only
  refine wpAny_bind (wpAny_specialOf hT F.slot_range_reversed.lookup ?_)
  try dsimp only
  refine wpAny_bind (wpAny_of_eq (F.slot_range_reversed.bind _) ?_)
  try dsimp only
  first
  | rw [if_neg (show ¬ ((Value.builtin "range.__reversed__" == Value.none) = true) from Bool.false_ne_true)]
  | (show wpAny _ _ (if (Value.builtin "range.__reversed__" == Value.none) = true then _ else _) _ _ _; rw [if_neg (show ¬ ((Value.builtin "range.__reversed__" == Value.none) = true) from Bool.false_ne_true)])
  refine wpAny_bind (wpAny_rule ?_)
  refine wpAny_bind (m := runValue (.call (.builtin "range.__reversed__") ⟨[.ref r], []⟩)) (show wpAny _ _ (call (.builtin "range.__reversed__") [.ref r]) _ _ _ from call_range_reversed hr hn hb hn2 ?_)
  first
  | exact wpAny_pure h
  | exact wpAny_bind (wpAny_pure (wpAny_pure h))
theorem sub_ri_reversed : isSubtype (.type "range_iterator") (.type "reversed") = pure false := by rw [isSubtype_type]; kernel_rfl
theorem call_reversed_range {r : Addr} {b : Int} {t u v : Tok} {n : Nat} {Q : Value → Shared → Prop} (hr : IsRange s.heap r 0 b 1 t u v) (hn : Builtin.Range.rangeSize 0 b 1 = ((n : Nat) : Int)) (hb : b.natAbs < 2 ^ 31) (hn2 : n < 2 ^ 31)
    (h : Q (.ref s.heap.objs.size) { s with heap := s.heap.push { cls := .type "range_iterator", data := .fields #[rawInt ((n : Int) - 1), rawInt n, rawInt (-1)] } }) : wpAny (model prog w) A (call (.type "reversed") [.ref r]) Q E s := by
  refine callType_other (U := "range_iterator") (Q₁ := fun obj s₁ => obj = .ref s.heap.objs.size ∧ s₁ = { s with heap := s.heap.push { cls := .type "range_iterator", data := .fields #[rawInt ((n : Int) - 1), rawInt n, rawInt (-1)] } }) (by decide +kernel) F.create_reversed ⟨_, _, F.mro_reversed⟩ F.made_reversed sub_ri_reversed (F.typeCall_reversed_1 _) (code_reversed_range hr hn hb hn2 ⟨rfl, rfl⟩) ?_
  rintro obj s₁ ⟨rfl, rfl⟩
  exact ⟨⟨_, Heap.get?_push_size _ rfl, rfl⟩, h⟩
theorem rangeSize_nat {n : Nat} : Builtin.Range.rangeSize 0 (n : Int) 1 = ((n : Nat) : Int) := by
  unfold Builtin.Range.rangeSize
  simp only [gt_iff_lt, Int.zero_lt_one, if_true]
  split
  · (first | lia | omega)
  · (first | lia | omega)
theorem range_small {n : Nat} (h : n < 2000000000) : Builtin.Range.small 0 (n : Int) 1 = true := by
  unfold Builtin.Range.small
  rw [rangeSize_nat, fits_long (i := (0 : Int)) (by decide), fits_long (i := (1 : Int)) (by decide), fits_nat (Nat.lt_trans h (by decide)), if_pos (by decide), show Builtin.Range.rangeFitsLong ((n : Int) + (1 - 1)) = true from fits_nat (n := n) (Nat.lt_trans h (by decide))]
  simp
end
theorem turn_ne {h₀ h : Heap} {L ha I : Addr} {oI lo : Obj} {rest : List (Addr × Obj)} (_N : News h₀ L h ((I, oI) :: (ha, lo) :: rest)) (off : ∀ p ∈ (ha, lo) :: rest, p.1 ≠ I) (hne : ∀ q ∈ rest, q.1 ≠ ha) : ∀ q ∈ (I, oI) :: rest, q.1 ≠ ha :=
  List.forall_mem_cons.mpr ⟨Ne.symm (off _ List.mem_cons_self), hne⟩
theorem turn_trees {h₀ h : Heap} {L ha I : Addr} {oI lo : Obj} {rest : List (Addr × Obj)} {f : Nat → Value × Tr} {n : Nat} (_N : News h₀ L h ((I, oI) :: (ha, lo) :: rest)) (T : Trees rest f n) : Trees ((I, oI) :: rest) f n :=
  T.mono fun p hp => List.mem_cons_of_mem _ hp
theorem turn_off {ha I : Addr} {lo lo' : Obj} {rest : List (Addr × Obj)} (off : ∀ p ∈ (ha, lo) :: rest, p.1 ≠ I) : ∀ p ∈ (ha, lo') :: rest, p.1 ≠ I :=
  List.forall_mem_cons.mpr ⟨fun e => off _ List.mem_cons_self e, fun p hp => off p (List.mem_cons_of_mem _ hp)⟩
end
section
section
variable {prog : Program} {w : World} {A : Around} {E : Value → Shared → Prop} {s : Shared} {h₀ : Heap} {L : Addr} {m : Str → Option Value} {news rest : List (Addr × Obj)}
theorem append_my {ha : Addr} {vs vs' : List Value} {ep : Nat} {v : Value} {Q : Value → Shared → Prop} (F : Fr h₀ L s.heap m) (N : News h₀ L s.heap ((ha, W.listOf vs.toArray ep) :: rest)) (hne : ∀ q ∈ rest, q.1 ≠ ha) (hl : vs.length ≤ 100000) (e : vs ++ [v] = vs')
    (h : ∀ h', Fr h₀ L h' m → News h₀ L h' ((ha, W.listOf vs'.toArray (ep + 1)) :: rest) → Q .none { s with heap := h' }) : wpAny (model prog w) A (call (.builtin "list.append") [.ref ha, v]) Q E s := by
  refine append_K (its := vs.toArray) F N (Upd.head hne) (fun h' F' N' => h h' F' ?_) (by rw [List.size_toArray, show sizeLine = 16777216 from rfl]; (first | lia | omega))
  rw [← e]; simpa using N'
theorem kl_last_app (v : Value) : ∀ p : List Value, kl_last (p ++ [v]) = some (p, v) := fun p => kpa_last v p
theorem pop_my {ha : Addr} {vs vs' : List Value} {ep : Nat} {v : Value} {Q : Value → Shared → Prop} (F : Fr h₀ L s.heap m) (N : News h₀ L s.heap ((ha, W.listOf vs.toArray ep) :: rest)) (hne : ∀ q ∈ rest, q.1 ≠ ha) (hl : vs.length ≤ 100000) (e : vs = vs' ++ [v])
    (h : ∀ h' tk, Fr h₀ L h' m → News h₀ L h' ((ha, W.listOf vs'.toArray (ep + 1)) :: rest) → Q v { s with heap := h', toks := tk }) : wpAny (model prog w) A (call (.builtin "list.pop") [.ref ha]) Q E s := by
  subst e
  exact kl_pop (its := (vs' ++ [v]).toArray) F N (kl_last_app v vs') (Upd.head hne) (by show (vs' ++ [v]).length ≤ _; rw [show sizeLine = 16777216 from rfl]; (first | lia | omega)) fun h' F' N' => h h' _ F' N'
theorem truthy_my {ha : Addr} {vs : List Value} {ep : Nat} {Q : Bool → Shared → Prop} (N : News h₀ L s.heap ((ha, W.listOf vs.toArray ep) :: rest)) (hl : vs.length ≤ 100000) (h : ∀ tk, Q (decide (0 < vs.length)) { s with toks := tk }) :
    wpAny (model prog w) A (truthy (.ref ha)) Q E s := by
  refine wpAny_truthy_list (items := vs.toArray) ⟨_, (N _ List.mem_cons_self).1, rfl, ep, rfl⟩ (by rw [List.size_toArray]; (first | lia | omega)) ?_
  have e : (!vs.toArray.isEmpty) = decide (0 < vs.length) := by cases vs <;> simp
  rw [e]; exact h _
end
theorem set_atZ {prog : Program} {w : World} {A : Around} {E : Value → Shared → Prop} {s : Shared} {h₀ : Heap} {L : Addr} {m : Str → Option Value} {rest : List (Addr × Obj)}
    {ha : Addr} {vs : List Value} {ep : Nat} {k : Int} {u : Tok} {v : Value} {Q : Unit → Shared → Prop} (F : Fr h₀ L s.heap m) (N : News h₀ L s.heap ((ha, W.listOf vs.toArray ep) :: rest)) (hne : ∀ q ∈ rest, q.1 ≠ ha) (h0 : 0 ≤ k) (hi : k < 2 ^ 62) (hl : k < vs.length)
    (h : ∀ h', Fr h₀ L h' m → News h₀ L h' ((ha, W.listOf (vs.set k.toNat v).toArray ep) :: rest) → Q () { s with heap := h' }) : wpAny (model prog w) A (setItem (.ref ha) (.int k u) v) Q E s := by
  obtain ⟨i, rfl⟩ := Int.eq_ofNat_of_zero_le h0
  exact set_at F N hne (by (first | lia | omega)) (by (first | lia | omega)) (by simpa using h)
theorem StrsAre.snoc {vs : List Value} {xs : List Str} (h : PyProof.Rows.StrsAre vs xs) (x : Str) (t : Tok) : PyProof.Rows.StrsAre (vs ++ [.str x t]) (xs ++ [x]) := by
  induction h with
  | nil => exact .cons _ _ .nil
  | cons y u _ ih => exact .cons y u ih
theorem StrsAre.app {vs ws : List Value} {xs ys : List Str} (h : PyProof.Rows.StrsAre vs xs) (h' : PyProof.Rows.StrsAre ws ys) : PyProof.Rows.StrsAre (vs ++ ws) (xs ++ ys) := by
  induction h with
  | nil => exact h'
  | cons y u _ ih => exact .cons y u ih
theorem StrsAre.len {vs : List Value} {xs : List Str} (h : PyProof.Rows.StrsAre vs xs) : vs.length = xs.length := by
  induction h with
  | nil => rfl
  | cons y u _ ih => simp [ih]
theorem StrsAre.at {vs : List Value} {xs : List Str} (h : PyProof.Rows.StrsAre vs xs) {i : Nat} {v : Value} (hv : vs[i]? = some v) : ∃ x t, xs[i]? = some x ∧ v = .str x t := by
  induction h generalizing i with
  | nil => simp at hv
  | cons y u _ ih =>
    cases i with
    | zero => exact ⟨y, u, by simp, by simpa using hv.symm⟩
    | succ i => simpa using ih (by simpa using hv)
theorem join_my {prog : Program} {w : World} {A : Around} {E : Value → Shared → Prop} {s : Shared} {h₀ : Heap} {L : Addr} {rest : List (Addr × Obj)}
    {D : Addr} {vs : List Value} {ep : Nat} {xs : List Str} {sep : Str} {t : Tok} {Q : Value → Shared → Prop} (N : News h₀ L s.heap ((D, W.listOf vs.toArray ep) :: rest)) (hs : PyProof.Rows.StrsAre vs xs) (hsep : sep.length ≤ 16) (hw : (xs.map (·.length)).sum + xs.length ≤ 1048576)
    (h : ∀ tk tk', Q (.str (Txt.join sep xs) tk) { s with toks := tk' }) : wpAny (model prog w) A (call (.builtin "str.join") [.str sep t, .ref D]) Q E s := by
  refine join_list (items := vs.toArray) ⟨_, (N _ List.mem_cons_self).1, rfl, ep, rfl⟩ (by simpa using hs) (by have : xs.length * sep.length ≤ xs.length * 16 := Nat.mul_le_mul_left _ hsep; (first | lia | omega)) ?_
  exact fun t k => h t k
end
section
theorem entry_isn : entryFor table "issubclass.nested" = some Builtin.«issubclass.nested» := PySem.F.entry_issubclass_nested
theorem kind_isn : builtinKind "issubclass.nested" = none := by decide +kernel
theorem plain_isn : plainId "issubclass.nested" = true := by decide +kernel
theorem args_isn (a b c : Value) : argsOk "issubclass.nested" ⟨[a, b, c], []⟩ := by unfold argsOk; kernel_rfl
theorem sub_str_str : isSubtype (.type "str") (.type "str") = pure true := by rw [isSubtype_type]; kernel_rfl
theorem type_str : typeOf (.type "str") = pure (.type "type") := by kernel_rfl
theorem type_type_beq : (Value.type "type" == Value.type "type") = true := by decide
section
variable {prog : Program} {w : World} {A : Around} {E : Value → Shared → Prop} {s : Shared}
theorem isn_str {k : Value} {dep : Int} {tk : Tok} {Q : Fin → Shared → Prop} (hk : k = .int dep tk) (hq : Q (.done (.ret (.bool true))) s) :
    wpAny (model prog w) A (Builtin.«issubclass.nested» ⟨[.type "str", .type "str", k], []⟩) Q E s := by
  subst hk
  have hm := type_type_beq
  have hself := sub_str_str
  repeat (any_goals (first | assumption | (rw [if_pos hm]) | (rw [hself]) | (rw [type_str]) | wp_step))
theorem isn_tup {D : Addr} {Q : Fin → Shared → Prop} (hD : s.heap.get? D = some { cls := .type "tuple", data := .seq #[.type "str", .type "bytes"] }) (hq : Q (.done (.ret (.bool true))) s) :
    wpAny (model prog w) A (Builtin.«issubclass.nested» ⟨[.type "str", .ref D, rawInt 0], []⟩) Q E s := by
  have hT : s.TypeIs (.ref D) "tuple" := ⟨_, hD, rfl⟩
  unfold Builtin.«issubclass.nested»
  refine wpAny_bind (wpAny_typeOf hT ?_)
  rw [if_neg (by decide)]
  unfold Builtin.Builtins.unionMembers
  refine wpAny_bind (wpAny_bind (wpAny_typeOf hT ?_))
  rw [if_neg (by decide)]
  refine wpAny_pure ?_
  refine wpAny_bind (wpAny_isInstance hT isSubtype_tuple_tuple ?_)
  rw [if_pos rfl]
  dsimp only
  rw [if_neg (by decide)]
  refine wpAny_bind (wpAny_seqItems hD rfl ?_)
  refine wpAny_bind ?_
  rw [← Array.forIn_toList]
  simp only [Option.getD_some, List.forIn_cons]
  refine wpAny_bind (wpAny_bind ?_)
  refine call_function_meets kind_isn plain_isn entry_isn (args_isn _ _ _) (S := fun _ R s => R (.ok (.ret (.bool true))) s) (fun prog w A R s hs => isn_str (tk := 0) (dep := 1) rfl hs) ?_
  refine wpAny_bind (wpAny_truthy_bool ?_)
  rw [if_pos rfl]
  exact wpAny_bind (wpAny_pure (wpAny_pure (wpAny_pure (wpAny_pure hq))))
theorem issub_my {h₀ : Heap} {L D : Addr} {news : List (Addr × Obj)} {Q : Value → Shared → Prop} (N : News h₀ L s.heap ((D, { cls := .type "tuple", data := .seq #[.type "str", .type "bytes"] }) :: news)) (hq : Q (.bool true) s) :
    wpAny (model prog w) A (call (.builtin "issubclass") [.type "str", .ref D]) Q E s :=
  call_issubclass (S := fun _ R s => s.heap.get? D = some { cls := .type "tuple", data := .seq #[.type "str", .type "bytes"] } ∧ R (.ok (.ret (.bool true))) s)
    (fun _ _ _ _ _ hs => issubclass_outer (isn_tup hs.1 hs.2)) ⟨(N _ List.mem_cons_self).1, hq⟩
end
end
section
section
variable {prog : Program} {w : World} {A : Around} {E : Value → Shared → Prop} {s : Shared} {h₀ : Heap} {L l : Addr} {m : Str → Option Value} {news : List (Addr × Obj)} {value slice : PySem.Expr} {vs : List Value} {vl vu : Value} {lo hi : Option Int} {ep : Nat} {Q : Value → Shared → Prop}
theorem slice_my (F : Fr h₀ L s.heap m) (N : News h₀ L s.heap news) (hm : (l, W.listOf vs.toArray ep) ∈ news) (pl : IsPart vl lo) (pu : IsPart vu hi) (hz : vs.length ≤ 100000)
    (h : ∀ D h', Fr h₀ L h' m → News h₀ L h' ((D, W.listOf (List.toArray (kms_pick vs lo hi)) 0) :: news) → (∀ p ∈ news, p.1 < D) → Q (.ref D) { s with heap := h' })
    (hs : subscripted slice false (.ref l) (.ref s.heap.objs.size) = operate [.ref s.heap.objs.size, .ref l] (getItem (.ref l) (.ref s.heap.objs.size))) (ht : ∀ r, letTemporaryGo value (.ref l) r = pure ()) :
    wpAny (model prog w) A (subscriptTail value slice (.ref l) (.ref s.heap.objs.size)) Q E { s with heap := s.heap.push { cls := .type "slice", data := .fields #[vl, vu, .none] } } :=
  kms_slice_lit (its := vs.toArray) F N ⟨_, (N _ hm).1, rfl, ep, rfl⟩ pl pu (by simp) h hs ht (by rw [List.size_toArray, show sizeLine = 16777216 from rfl]; (first | lia | omega))
theorem pick_all {l : List Value} : kms_pick l none none = l := by simp [kms_pick, kms_lo, kms_hi]
theorem pick_upto {l : List Value} {k : Nat} : kms_pick l none (some (k : Int)) = l.take k := by
  simp only [kms_pick, kms_lo, kms_hi]
  rw [if_neg (by (first | lia | omega))]
  simp
theorem pick_from {l : List Value} {k : Nat} : kms_pick l (some (k : Int)) none = l.drop k := by
  simp only [kms_pick, kms_lo, kms_hi]
  rw [if_neg (by (first | lia | omega))]
  by_cases h : k ≤ l.length
  · have e : min ((k : Int)).toNat l.length = k := by (first | lia | omega)
    rw [e, List.take_of_length_le]; simp
  · have e : min ((k : Int)).toNat l.length = l.length := by (first | lia | omega)
    rw [e, Nat.sub_self, List.take_zero, List.drop_eq_nil_of_le (by (first | lia | omega))]
end
end
section
section
variable {prog : Program} {w : World} {A : Around} {E : Value → Shared → Prop} {s : Shared} {h₀ : Heap} {L fa : Addr} {m : Str → Option Value} {cn : Str} {cs : Scope} {ccd : Value} {cl : List (Str × Addr)}
  {Q : Unit → Shared → Prop} {news : List (Addr × Obj)} {g : Obj → List (Addr × Obj)} {c t : Addr} {o : Obj} {v₀ : Option Value} {x₁ x₂ x₃ : Str} {p₁ p₂ p₃ tp : Pos} {tk0} {v₁ v₂ v₃ : Value} {nt : Nat}
theorem unpack_my (hh : A.handled = none) (F : Fr h₀ L s.heap m) (N : News h₀ L s.heap news) (ht : (t, ({ cls := .type "tuple", data := .seq #[v₁, v₂, v₃] nt } : Obj)) ∈ news) (hc : cl.lookup x₂ = some c) (U : UpdF c o news g) (hd : o.data = .cell v₀)
    (hk : cs.kind = .function) (hx₁ : (envX cn cs L fa ccd cl).kindOf x₁ = some .local) (hx₂ : (envX cn cs L fa ccd cl).kindOf x₂ = some .cell) (hx₃ : (envX cn cs L fa ccd cl).kindOf x₃ = some .local)
    (h : ∀ h' tk' o', Fr h₀ L h' (fun y => if y = x₃ then some v₃ else if y = x₁ then some v₁ else m y) → News h₀ L h' (g o') → o'.data = .cell (some v₂) → Q () { s with heap := h', toks := tk' }) :
    wpAny (model prog w) A (assign (.Tuple [.Name x₁ p₁, .Name x₂ p₂, .Name x₃ p₃] tk0 tp) (envX cn cs L fa ccd cl) (.ref t)) Q E s := by
  have ht' : IsTup s.heap t #[v₁, v₂, v₃] := ⟨_, (N _ ht).1, rfl, nt, rfl⟩
  refine assign_Tuple_tuple hh ht' rfl rfl fun h₅ he => ?_
  have he' : ∀ b o, s.heap.get? b = some o → h₅.get? b = some o := fun b o e => he b o (Nat.ne_of_lt (Heap.lt_size e)) e
  refine assignInOrder_cons (wpAny_assign_Name (storeX_L (F.keeps he') (N.grown he') (fun h₆ F₆ N₆ => ?_) hk hx₁))
  refine assignInOrder_cons (wpAny_assign_Name (storeX_C F₆ N₆ hc U hd (fun h₇ o₇ F₇ N₇ d₇ => ?_) hk hx₂))
  refine assignInOrder_cons (wpAny_assign_Name (storeX_L F₇ N₇ (fun h₈ F₈ N₈ => ?_) hk hx₃))
  exact assignInOrder_nil (h _ _ _ F₈ N₈ d₇)
end
end
section
section
variable {prog : Program} {w : World} {A : Around} {E : Value → Shared → Prop} {s : Shared} {h₀ : Heap} {L a b t : Addr} {m : Str → Option Value} {news : List (Addr × Obj)} {vs ws : List Value} {ep ep2 : Nat} {Q : Value → Shared → Prop}
theorem add_my (F : Fr h₀ L s.heap m) (N : News h₀ L s.heap news) (ha : (a, W.listOf vs.toArray ep) ∈ news) (hb : (b, W.listOf ws.toArray ep2) ∈ news) (hz : vs.length + ws.length ≤ 100000)
    (h : ∀ D h', Fr h₀ L h' m → News h₀ L h' ((D, W.listOf (List.toArray (vs ++ ws)) 0) :: news) → (∀ p ∈ news, p.1 < D) → Q (.ref D) { s with heap := h' }) :
    wpAny (model prog w) A (binaryOp .Add (.ref a) (.ref b)) Q E s :=
  kmk_add_lit (its := vs.toArray) (its2 := ws.toArray) F N ⟨_, (N _ ha).1, rfl, ep, rfl⟩ ⟨_, (N _ hb).1, rfl, ep2, rfl⟩ (by simp) h (by simp only [List.toList_toArray, show sizeLine = 16777216 from rfl]; (first | lia | omega))
theorem tup0 {value slice : PySem.Expr} {r q : Int} {x y u : Tok} {v : Value} {n : Nat} (N : News h₀ L s.heap news) (hm : (t, TupObj r q x y v n) ∈ news) (h : Q (.int r x) s)
    (hs : subscripted slice false (.ref t) (.int 0 u) = operate [.ref t, .int 0 u] (getItem (.ref t) (.int 0 u))) : wpAny (model prog w) A (subscriptTail value slice (.ref t) (.int 0 u)) Q E s :=
  item_tupleT (l := [.int r x, .int q y, v]) ⟨_, (N _ hm).1, rfl, n, rfl⟩ (by decide) (by decide) (j := 0) (by rfl) (by rfl) h hs
theorem tup2 {value slice : PySem.Expr} {r q : Int} {x y u : Tok} {v : Value} {n : Nat} (N : News h₀ L s.heap news) (hm : (t, TupObj r q x y v n) ∈ news) (h : Q v s)
    (hs : subscripted slice false (.ref t) (.int 2 u) = operate [.ref t, .int 2 u] (getItem (.ref t) (.int 2 u))) : wpAny (model prog w) A (subscriptTail value slice (.ref t) (.int 2 u)) Q E s :=
  item_tupleT (l := [.int r x, .int q y, v]) ⟨_, (N _ hm).1, rfl, n, rfl⟩ (by decide) (by decide) (j := 2) (by rfl) (by rfl) h hs
end
section
variable {prog : Program} {w : World} {A : Around} {E : Value → Shared → Prop} {s : Shared} {h₀ : Heap} {L a b t : Addr} {m : Str → Option Value} {news : List (Addr × Obj)} {vs ws : List Value} {ep ep2 : Nat} {Q : Value → Shared → Prop}
theorem isl_my {h : Heap} (N : News h₀ L h news) (hm : (a, W.listOf vs.toArray ep) ∈ news) : h.IsList a vs.toArray := ⟨_, (N _ hm).1, rfl, ep, rfl⟩
theorem ne_ints_my {ns ms : List Int} (N : News h₀ L s.heap news) (ha : (a, W.listOf vs.toArray ep) ∈ news) (hb : (b, W.listOf ws.toArray ep2) ∈ news) (hi : IntsAre vs ns) (hj : IntsAre ws ms) (hu : A.units + 64 < cLine) (h : Q (.bool (!decide (ns = ms))) s) :
    wpAny (model prog w) A (compareOp .NotEq (.ref a) (.ref b)) Q E s := ne_intsK (isl_my N ha) hi (isl_my N hb) hj hu h
theorem notin_my {x : Str} {u : Tok} {ps : List Str} (N : News h₀ L s.heap news) (ha : (a, W.listOf vs.toArray ep) ∈ news) (hs : StrsAre vs ps) (h : Q (.bool (!decide (x ∈ ps))) s) :
    wpAny (model prog w) A (compareOp .NotIn (.str x u) (.ref a)) Q E s := by
  have e : (!vs.toArray.any fun v => match v with | .str y _ => y == x | _ => false) = !decide (x ∈ ps) := by
    congr 1
    rw [List.any_toArray]
    clear ha N h
    induction hs with
    | nil => simp
    | cons y v _ ih =>
      rw [List.any_cons, ih]
      by_cases hyx : y = x
      · simp [hyx]
      · have : ¬ x = y := fun q => hyx q.symm
        simp [hyx, this]
  refine SeqAt.notIn_listAt (fun v => match v with | .str y _ => y == x | _ => false) (isl_my N ha) (fun y hy => ?_) (e ▸ h)
  obtain ⟨i, hi⟩ := List.mem_iff_getElem?.mp (by simpa using hy : y ∈ vs)
  obtain ⟨p, t, _, rfl⟩ := StrsAre.at hs hi
  exact SeqAt.EqAt.str_str p t x u
end
end
section
theorem ints_of_mem {vs : List Value} (h : ∀ v ∈ vs, ∃ n t, v = .int n t) : ∃ ms, IntsAre vs ms := by
  induction vs with
  | nil => exact ⟨[], .nil⟩
  | cons v r ih =>
    obtain ⟨ms, hm⟩ := ih fun v hv => h v (List.mem_cons_of_mem _ hv)
    obtain ⟨n, t, rfl⟩ := h v List.mem_cons_self
    exact ⟨n :: ms, .cons n t hm⟩
theorem ints_mem {vs : List Value} {ns : List Int} (h : IntsAre vs ns) : ∀ v ∈ vs, ∃ n t, v = .int n t := by
  induction h with
  | nil => intro v hv; simp at hv
  | cons n t _ ih =>
    intro v hv
    rcases List.mem_cons.mp hv with rfl | hv
    · exact ⟨n, t, rfl⟩
    · exact ih v hv
section
variable {prog : Program} {w : World} {A : Around} {E : Value → Shared → Prop} {s : Shared} {h₀ : Heap} {L l : Addr} {m : Str → Option Value} {news : List (Addr × Obj)} {value slice : PySem.Expr} {vs : List Value} {vl vu vk : Value} {lo hi st : Option Int} {Q : Value → Shared → Prop} {ns : List Int} {ops : List Value}
theorem slice3_my (F : Fr h₀ L s.heap m) (N : News h₀ L s.heap news) (hl : s.heap.IsList l vs.toArray) (hI : IntsAre vs ns) (pl : IsPart vl lo) (pu : IsPart vu hi) (pk : IsPart vk st) (h0 : st ≠ some 0) (hz : vs.length ≤ 100000)
    (h : ∀ D h' zs ms, Fr h₀ L h' m → News h₀ L h' ((D, W.listOf (List.toArray zs) 0) :: news) → (∀ p ∈ news, p.1 < D) → IntsAre zs ms → Q (.ref D) { s with heap := h' })
    (hs : subscripted slice false (.ref l) (.ref s.heap.objs.size) = operate ops (getItem (.ref l) (.ref s.heap.objs.size))) (ht : ∀ r, letTemporaryGo value (.ref l) r = pure ()) :
    wpAny (model prog w) A (subscriptTail value slice (.ref l) (.ref s.heap.objs.size)) Q E { s with heap := s.heap.push { cls := .type "slice", data := .fields #[vl, vu, vk] } } := by
  obtain ⟨ms, hm⟩ : ∃ ms, IntsAre (slicePick vs.toArray lo hi st).toList ms := ints_of_mem fun v hv => by
    unfold slicePick at hv
    simp only [List.mem_filterMap] at hv
    obtain ⟨i, _, e⟩ := hv
    exact ints_mem hI v (List.mem_of_getElem? (by simpa using e))
  exact kmk_slice3_lit F N hl pl pu pk h0 rfl (fun D h' F' N' l1 => h D h' _ ms F' N' l1 hm) hs ht (by rw [List.size_toArray, show sizeLine = 16777216 from rfl]; (first | lia | omega))
theorem sum_my {l : Addr} {vs : List Value} {ns : List Int} {ep : Nat} {Q : Value → Shared → Prop} (hh : A.handled = none) (F : Fr h₀ L s.heap m) (N : News h₀ L s.heap ((l, W.listOf vs.toArray ep) :: news)) (hi : IntsAre vs ns)
    (h : ∀ h' tk t' z, Fr h₀ L h' m → News h₀ L h' news → Q (.int z t') { s with heap := h', toks := tk }) :
    wpAny (model prog w) A (call (.builtin "sum") [.ref l]) Q E s :=
  sumK hh F N ⟨_, (N _ List.mem_cons_self).1, rfl, ep, rfl⟩ hi fun h' tk t' F' N' => h h' tk t' _ F' fun p hp => N' p (List.mem_cons_of_mem _ hp)
theorem gen_state {P : Shared → Prop} (F : Fr h₀ L s.heap m) (N : News h₀ L s.heap news) (h : ∀ s', Fr h₀ L s'.heap m → News h₀ L s'.heap news → P s') : P s := h s F N
end
end
section
theorem StrsAre.same {vs ws : List Value} {ps : List Str} (h : PyProof.Rows.StrsAre vs ps) (h' : PyProof.Rows.StrsAre ws ps) {j : Nat} {x y : Value} (hx : vs[j]? = some x) (hy : ws[j]? = some y) : ∃ p t u, x = .str p t ∧ y = .str p u := by
  obtain ⟨p, t, e, rfl⟩ := StrsAre.at h hx
  obtain ⟨q, u, e', rfl⟩ := StrsAre.at h' hy
  rw [e] at e'
  cases e'
  exact ⟨p, t, u, rfl, rfl⟩
theorem all_tt (n : Nat) : ((List.range n).all fun _ => true) = true := List.all_eq_true.mpr fun _ _ => rfl
section
variable {prog : Program} {w : World} {A : Around} {E : Value → Shared → Prop} {s : Shared} {h₀ : Heap} {L a b : Addr} {news : List (Addr × Obj)} {vs ws : List Value} {ep ep2 : Nat} {Q : Value → Shared → Prop}
theorem ne_strs_same {ps : List Str} (N : News h₀ L s.heap news) (ha : (a, W.listOf vs.toArray ep) ∈ news) (hb : (b, W.listOf ws.toArray ep2) ∈ news) (hi : PyProof.Rows.StrsAre vs ps) (hj : PyProof.Rows.StrsAre ws ps) (hu : A.units < cLine) (h : Q (.bool false) s) :
    wpAny (model prog w) A (compareOp .NotEq (.ref a) (.ref b)) Q E s := by
  refine SeqAt.RcNeAt.lists (e := fun _ => true) (isl_my N ha) (isl_my N hb) (by simp [StrsAre.len hi, StrsAre.len hj]) hu (fun j h1 h2 => ?_) prog w E Q (by rw [all_tt]; exact h)
  obtain ⟨p, t, u, e1, e2⟩ := StrsAre.same hi hj (j := j) (x := vs.toArray[j]) (y := ws.toArray[j]) (by simp at h1 ⊢) (by simp at h2 ⊢)
  rw [e1, e2]
  have := SeqAt.EqAt.str_str (A := A.in1) (s := s) p t p u
  rw [show (p == p) = true by simp] at this
  exact this
theorem eq_bools_same {n : Nat} (N : News h₀ L s.heap news) (ha : (a, W.listOf vs.toArray ep) ∈ news) (hb : (b, W.listOf ws.toArray ep2) ∈ news) (hi : vs = List.replicate n (.bool true)) (hj : ws = List.replicate n (.bool true)) (hu : A.units < cLine) (h : Q (.bool true) s) :
    wpAny (model prog w) A (compareOp .Eq (.ref a) (.ref b)) Q E s := by
  subst hi hj
  refine SeqAt.eq_listAt (e := fun _ => true) (isl_my N ha) (isl_my N hb) (by simp) hu (fun j h1 h2 => ?_) (by rw [all_tt]; exact h)
  simp only [List.getElem_toArray, List.getElem_replicate]
  exact SeqAt.EqAt.same _
end
section
variable {α : Type} {l : List α} {a b c d e u v x y z : α}
theorem pm1 : ∀ q ∈ a :: b :: c :: l, q ∈ u :: b :: a :: c :: l := by
  intro q hq
  simp only [List.mem_cons] at hq ⊢
  rcases hq with h | h | h | h
  · exact .inr (.inr (.inl h))
  · exact .inr (.inl h)
  · exact .inr (.inr (.inr (.inl h)))
  · exact .inr (.inr (.inr (.inr h)))
theorem pm2 : ∀ q ∈ a :: b :: l, q ∈ a :: u :: b :: v :: l := by
  intro q hq
  simp only [List.mem_cons] at hq ⊢
  rcases hq with h | h | h
  · exact .inl h
  · exact .inr (.inr (.inl h))
  · exact .inr (.inr (.inr (.inr h)))
theorem pm3 : ∀ q ∈ a :: b :: c :: d :: l, q ∈ d :: b :: a :: c :: l := by
  intro q hq
  simp only [List.mem_cons] at hq ⊢
  rcases hq with h | h | h | h | h
  · exact .inr (.inr (.inl h))
  · exact .inr (.inl h)
  · exact .inr (.inr (.inr (.inl h)))
  · exact .inl h
  · exact .inr (.inr (.inr (.inr h)))
theorem pm4 : ∀ q ∈ a :: b :: c :: d :: e :: l, q ∈ d :: e :: u :: a :: b :: c :: l := by
  intro q hq
  simp only [List.mem_cons] at hq ⊢
  rcases hq with h | h | h | h | h | h
  · exact .inr (.inr (.inr (.inl h)))
  · exact .inr (.inr (.inr (.inr (.inl h))))
  · exact .inr (.inr (.inr (.inr (.inr (.inl h)))))
  · exact .inl h
  · exact .inr (.inl h)
  · exact .inr (.inr (.inr (.inr (.inr (.inr h)))))
theorem pm5 : ∀ q ∈ a :: b :: c :: l, q ∈ b :: u :: v :: x :: y :: a :: z :: c :: l := by
  intro q hq
  simp only [List.mem_cons] at hq ⊢
  rcases hq with h | h | h | h
  · exact .inr (.inr (.inr (.inr (.inr (.inl h)))))
  · exact .inl h
  · exact .inr (.inr (.inr (.inr (.inr (.inr (.inr (.inl h)))))))
  · exact .inr (.inr (.inr (.inr (.inr (.inr (.inr (.inr h)))))))
theorem pm6 : ∀ q ∈ a :: b :: c :: d :: e :: l, q ∈ d :: e :: a :: b :: c :: l := by
  intro q hq
  simp only [List.mem_cons] at hq ⊢
  rcases hq with h | h | h | h | h | h
  · exact .inr (.inr (.inl h))
  · exact .inr (.inr (.inr (.inl h)))
  · exact .inr (.inr (.inr (.inr (.inl h))))
  · exact .inl h
  · exact .inr (.inl h)
  · exact .inr (.inr (.inr (.inr (.inr h))))
theorem pm7 : ∀ q ∈ a :: b :: c :: l, q ∈ c :: a :: b :: l := by
  intro q hq
  simp only [List.mem_cons] at hq ⊢
  rcases hq with h | h | h | h
  · exact .inr (.inl h)
  · exact .inr (.inr (.inl h))
  · exact .inl h
  · exact .inr (.inr (.inr h))
theorem pm8 : ∀ q ∈ a :: b :: l, q ∈ a :: b :: u :: l := by
  intro q hq
  simp only [List.mem_cons] at hq ⊢
  rcases hq with h | h | h
  · exact .inl h
  · exact .inr (.inl h)
  · exact .inr (.inr (.inr h))
end
end
section
section
variable {h₀ h h' : Heap} {L I C D : Addr} {o o' : Obj} {nw : List (Addr × Obj)}
theorem nhead (q : h.get? I = some o ∧ I ≠ L ∧ h₀.get? I = none) (N : News h₀ L h nw) : News h₀ L h ((I, o) :: nw) := List.forall_mem_cons.mpr ⟨q, N⟩
theorem ntail {p : Addr × Obj} (N : News h₀ L h (p :: nw)) : News h₀ L h nw := fun q hq => N q (List.mem_cons_of_mem _ hq)
theorem nfst (N : News h₀ L h ((I, o) :: nw)) : h.get? I = some o ∧ I ≠ L ∧ h₀.get? I = none := N _ List.mem_cons_self
theorem nmove {nw' : List (Addr × Obj)} (N : News h₀ L h ((I, o) :: nw')) (k : h.get? I = some o → h'.get? I = some o) (M : News h₀ L h' nw) : News h₀ L h' ((I, o) :: nw) := nhead ⟨k (nfst N).1, (nfst N).2⟩ M
theorem nkeep (k : ∀ b o, b ≠ C → h.get? b = some o → h'.get? b = some o) (N : News h₀ L h nw) (hne : ∀ p ∈ nw, p.1 ≠ C) : News h₀ L h' nw := fun p hp => ⟨k _ _ (hne p hp) (N p hp).1, (N p hp).2⟩
theorem ncons (e : I ≠ C) (r : ∀ p ∈ nw, p.1 ≠ C) : ∀ p ∈ (I, o) :: nw, p.1 ≠ C := List.forall_mem_cons.mpr ⟨e, r⟩
end
section
variable {prog : Program} {w : World} {A : Around} {E : Value → Shared → Prop} {s : Shared} {env : Env} {h₀ : Heap} {L : Addr} {m : Str → Option Value}
inductive CEnd (h₀ : Heap) (L : Addr) (m : Str → Option Value) (s : Shared) (I : Addr) (oI : Obj) (C D : Addr) (ys : List Value) (Jn : List (Addr × Obj) → Prop) (s₂ : Shared) : Prop
  | mk (h' : _) (tk : _) (oC : _) (m₂ : _) (news' : _)
    (z1 : s₂ = { s with heap := h', toks := tk })
    (z2 : LCg.NsObj oC m₂)
    (z3 : Fr h₀ L h' m)
    (z4 : News h₀ L h' ((I, oI) :: (C, oC) :: (D, LCg.lst ys) :: news'))
    (z5 : LCg.Off3 I C D news')
    (z6 : Jn news') : CEnd h₀ L m s I oI C D ys Jn s₂
theorem CEnd.intro {s₁ : Shared} {I C D : Addr} {oI oC : Obj} {ys : List Value} {Jn : List (Addr × Obj) → Prop} {h' : Heap} {tk : Nat} {m₂ : Str → Option Value} {news' : List (Addr × Obj)}
    (hn : LCg.NsObj oC m₂) (F : Fr h₀ L h' m) (N : News h₀ L h' ((I, oI) :: (C, oC) :: (D, LCg.lst ys) :: news')) (off : LCg.Off3 I C D news') (hJ : Jn news') :
    CEnd h₀ L m s₁ I oI C D ys Jn { s₁ with heap := h', toks := tk } := ⟨h', tk, oC, m₂, news', rfl, hn, F, N, off, hJ⟩
noncomputable def CTurn (prog : Program) (w : World) (A : Around) (h₀ : Heap) (L : Addr) (m : Str → Option Value) (cenv : Env) (target : Expr) (ifs : List Expr) (elt : Expr) (I C D : Addr) (s : Shared) (n : Nat) (P : Nat → Value → Prop) (St : Nat → Heap → Prop) (J : Nat → List Value → List (Addr × Obj) → Prop) : Prop :=
  ∀ i v ys news₁ h tk oI oC m₂, i < n → P i v → St (i + 1) h → J i ys news₁ → LCg.Off3 I C D news₁ → ((@Ne Nat I C) ∧ (@Ne Nat I D) ∧ (@Ne Nat C D)) → LCg.NsObj oC m₂ → Fr h₀ L h m → News h₀ L h ((I, oI) :: (C, oC) :: (D, LCg.lst ys) :: news₁) →
    wpAny (model prog w) A (letOwnedTupleGo target (.ref I) v) (fun _ s₁ => wpAny (model prog w) A (assign target cenv v) (fun _ s₂ =>
      wpAny (model prog w) A (forIn ifs true fun c r => if r = true then do let ok ← isTrue c cenv (eval c cenv); pure (ForInStep.yield ok) else pure (ForInStep.yield r)) (fun ok s₃ =>
        if ok = true then wpAny (model prog w) A (eval elt cenv) (fun y s₄ => CEnd h₀ L m { s with heap := h, toks := tk } I oI C D ys (J (i + 1) (ys ++ [y])) s₄) (fun _ _ => False) s₃
        else CEnd h₀ L m { s with heap := h, toks := tk } I oI C D ys (J (i + 1) ys) s₃) (fun _ _ => False) s₂) (fun _ _ => False) s₁) (fun _ _ => False) { s with heap := h, toks := tk }
inductive CompInv (h₀ : Heap) (L : Addr) (m : Str → Option Value) (I C D : Addr) (s : Shared) (n : Nat) (St : Nat → Heap → Prop) (J : Nat → List Value → List (Addr × Obj) → Prop) (k : Nat) (s' : Shared) : Prop
  | mk (h : Heap) (tk : Nat) (oC : Obj) (m₂ : Str → Option Value) (i : Nat) (ys : List Value) (news₁ : List (Addr × Obj)) (z1 : s' = { s with heap := h, toks := tk }) (z2 : i ≤ n) (z3 : k = n + 1 - i) (z4 : ys.length ≤ i) (z5 : St i h) (z6 : LCg.NsObj oC m₂) (z7 : Fr h₀ L h m)
    (z8 : News h₀ L h ((C, oC) :: (D, LCg.lst ys) :: news₁)) (z9 : LCg.Off3 I C D news₁) (z10 : J i ys news₁) : CompInv h₀ L m I C D s n St J k s'
theorem compLoop_my {elt target iter : Expr} {ifs : List Expr} {scope : Scope} {pos : Pos} {cenv : Env} {R : Result → Shared → Prop} {I C D : Addr} {fp : List Addr} {n : Nat} {P : Nat → Value → Prop} {St : Nat → Heap → Prop} {S : List (Addr × Obj) → Prop}
    {news : List (Addr × Obj)} {oC : Obj} {m₂ : Str → Option Value} (J : Nat → List Value → List (Addr × Obj) → Prop)
    (Wk : Walks prog w A I fp [I] n P St) (hsz : n ≤ 100000) (hIo : ∀ i h, St i h → ∃ o, h.get? I = some o)
    (hSt : ∀ i h h' o nw, St i h → h.get? I = some o → h'.get? I = some o → (∀ b o, h₀.get? b = some o → h'.get? b = some o) → News h₀ L h' nw → S nw → St i h') (hS : ∀ i ys nw, J i ys nw → S nw)
    (hst : St 0 s.heap) (hLI : L ≠ I) (hI₀ : h₀.get? I = none) (dist : (@Ne Nat I C) ∧ (@Ne Nat I D) ∧ (@Ne Nat C D)) (hn : LCg.NsObj oC m₂) (F : Fr h₀ L s.heap m) (N : News h₀ L s.heap ((C, oC) :: (D, LCg.lst []) :: news)) (off : LCg.Off3 I C D news) (hJ : J 0 [] news)
    (turn : CTurn prog w A h₀ L m cenv target ifs elt I C D s n P St J)
    (fin : ∀ h tk ys news₁ oC m₂, J n ys news₁ → LCg.Off3 I C D news₁ → LCg.NsObj oC m₂ → Fr h₀ L h m → News h₀ L h ((C, oC) :: (D, LCg.lst ys) :: news₁) → R (.ok .next) { s with heap := h, toks := tk }) :
    codeAny (model prog w) A (.compLoop (.ListComp elt [⟨target, iter, ifs, 0⟩] scope pos) 0 (.ref I) (.ref D) cenv) R s := by
  obtain ⟨dIC, dID, dCD⟩ := dist
  refine codeAny_loop rfl
    (CompInv h₀ L m I C D s n St J) ?_ (n + 1)
    ⟨s.heap, s.toks, oC, m₂, 0, [], news, rfl, Nat.zero_le _, rfl, Nat.le_refl _, hst, hn, F, N, off, hJ⟩
  rintro k s' ⟨h, tk, oC, m₂, i, ys, news₁, rfl, hi, rfl, hyl, hst', hn', F', N', off', hJ'⟩
  show wpAny _ A ((compTurn (.ListComp elt [⟨target, iter, ifs, 0⟩] scope pos) 0 (.ref I) (.ref D) cenv).onRaise (fun x => do noteFrame x cenv; theTreesLotGoes x)) _ _ _
  refine wpAny_noted ?_
  rw [compTurn_list]
  refine wpAny_bind (wpAny_standAt (wpAny_bind ?_))
  generalize Code.compLoop _ _ _ _ _ = code; revert code; refine id ?_; intro code
  generalize notedBy _ _ _ _ = NE; revert NE; refine id ?_; intro NE
  have offN : ∀ p ∈ (C, oC) :: (D, LCg.lst ys) :: news₁, p.1 ≠ I := ncons (Ne.symm dIC) (ncons (Ne.symm dID) fun p hp => (off'.mem p hp).1)
  by_cases hlt : i < n
  · refine Wk.item i _ _ _ hlt hst' fun v h₁ tk₁ hP hst₁ hk₁ => ?_
    have F₁ : Fr h₀ L h₁ m := LCg.fr_but F' hk₁ hLI hI₀
    have N₁ := LCg.news_but N' hk₁ offN
    obtain ⟨oI, heI⟩ := hIo _ _ hst₁
    have N₂ : News h₀ L h₁ ((I, oI) :: (C, oC) :: (D, LCg.lst ys) :: news₁) := nhead ⟨heI, Ne.symm hLI, hI₀⟩ N₁
    have next : ∀ (s₃ : Shared) (zs : List Value), zs.length ≤ i + 1 → CEnd h₀ L m { s with heap := h₁, toks := tk₁ } I oI C D zs (J (i + 1) zs) s₃ →
        ∃ q, q < n + 1 - i ∧ CompInv h₀ L m I C D s n St J q s₃ := by
      rintro s₃ zs hz ⟨h₃, tk₃, oC₃, m₃, news₃, rfl, hn₃, F₃, N₃, off₃, hJ₃⟩
      refine ⟨n + 1 - (i + 1), tick hlt, h₃, tk₃, oC₃, m₃, i + 1, zs, news₃, rfl, hlt, rfl, hz, ?_, hn₃, F₃, fun p hp => N₃ p (List.mem_cons_of_mem _ hp), off₃, hJ₃⟩
      exact hSt _ _ _ _ _ hst₁ heI (N₃ (I, oI) List.mem_cons_self).1 F₃.keep (fun p hp => N₃ p (List.mem_cons_of_mem _ (List.mem_cons_of_mem _ (List.mem_cons_of_mem _ hp)))) (hS _ _ _ hJ₃)
    refine wpAny_bind (wpAny_mono (turn i v ys news₁ h₁ tk₁ oI oC m₂ hlt hP hst₁ hJ' off' ⟨dIC, dID, dCD⟩ hn' F₁ N₂) (fun _ s₁ t₁ => ?_) fun _ _ f => f.elim)
    refine wpAny_bind (wpAny_mono t₁ (fun _ s₂ t₂ => ?_) fun _ _ f => f.elim)
    refine wpAny_bind (wpAny_mono t₂ (fun ok s₃ t₃ => ?_) fun _ _ f => f.elim)
    cases ok with
    | false =>
      simp only [Bool.false_eq_true, if_false] at t₃ ⊢
      exact wpAny_pure ⟨rfl, next _ ys (by (first | lia | omega)) t₃⟩
    | true =>
      simp only [if_true] at t₃ ⊢
      refine wpAny_bind (wpAny_bind (wpAny_mono t₃ (fun y s₄ t₄ => ?_) fun _ _ f => f.elim))
      obtain ⟨h₄, tk₄, oC₄, m₄, news₄, rfl, hn₄, F₄, N₄, off₄, hJ₄⟩ := t₄
      have zD := N₄ (D, LCg.lst ys) (List.mem_cons_of_mem _ (List.mem_cons_of_mem _ List.mem_cons_self))
      refine wpAny_bind (append_at (hsz := by show ys.toArray.size ≤ sizeLine; rw [List.size_toArray, show sizeLine = 16777216 from rfl]; (first | lia | omega)) zD.1 fun h₅ hs₅ hD₅ => ?_)
      refine wpAny_pure (wpAny_pure ⟨rfl, ?_⟩)
      refine next _ (ys ++ [y]) (by rw [List.length_append, List.length_singleton]; (first | lia | omega)) ⟨h₅, tk₄, oC₄, m₄, news₄, rfl, hn₄, F₄.change hs₅ zD.2.1 zD.2.2,
        nmove N₄ (hs₅.extBut _ _ dID) (nmove (ntail N₄) (hs₅.extBut _ _ dCD) (nhead ⟨hD₅.trans (congrArg some (LCg.lst_snoc ys y)), zD.2⟩ (nkeep hs₅.extBut (ntail (ntail (ntail N₄))) fun p hp => (off₄.mem p hp).2.2))), off₄, hJ₄⟩
  · obtain rfl : i = n := by (first | lia | omega)
    refine Wk.done _ _ _ hst' fun h₁ tk₁ hk₁ => wpAny_pure ?_
    refine fin h₁ tk₁ ys news₁ oC m₂ hJ' off' hn' (LCg.fr_but F' hk₁ hLI hI₀) (LCg.news_but N' hk₁ offN)
end
section
variable {prog : Program} {w : World} {A : Around} {E : Value → Shared → Prop} {s : Shared} {env : Env} {h₀ : Heap} {L : Addr} {m : Str → Option Value}
noncomputable def CMade (prog : Program) (w : World) (A : Around) (env : Env) (scope : Scope) (cl : List (Str × Addr)) (cl' : Addr → List (Str × Addr)) (extra : Addr → List (Addr × Obj)) : Prop :=
  ∀ (s₃ : Shared) (Q : Env → Shared → Prop) (E : Value → Shared → Prop),
    (∀ h₁ tk, h₁.Ns s₃.heap.objs.size (fun _ => none) → (∀ b o, s₃.heap.get? b = some o → h₁.get? b = some o) → (∀ p ∈ extra s₃.heap.objs.size, h₁.get? p.1 = some p.2 ∧ s₃.heap.objs.size < p.1) →
      Q (newEnv scope s₃.heap.objs.size env.globals (cl' s₃.heap.objs.size) env.qual none .none (some env) builtinsNs) { s₃ with heap := h₁, toks := tk }) →
    wpAny (model prog w) A (newFunctionEnv scope env.globals cl [] env.qual none .none (some env)) Q E s₃
theorem CMade.plain {scope : Scope} {cl : List (Str × Addr)} (hcell : ∀ y ∈ scope.names, y.2 ≠ .cell) (hk : scope.kind = .function) : CMade prog w A env scope cl (fun _ => cl) (fun _ => []) := by
  intro s₃ Q E h
  refine wpAny_newFunctionEnv hcell (by intro y hy; simp at hy) (fun h₁ hns hsb => ?_) hk
  exact h h₁ _ hns (fun b o e => hsb.extBut b o (Nat.ne_of_lt (Heap.lt_size e)) (Heap.get?_push_of_some _ e)) (fun p hp => nomatch hp)
theorem CMade.one {scope : Scope} {cl : List (Str × Addr)} {x a b c : Str} {ka kb kc : NameKind} (hnames : scope.names = [(a, ka), (x, .cell), (b, kb), (c, kc)]) (ha : ka ≠ .cell) (hb : kb ≠ .cell) (hc : kc ≠ .cell) :
    CMade prog w A env scope cl (fun C => (x, C + 1) :: cl) (fun C => [(C + 1, { cls := .type "cell", data := .cell none })]) := by
  intro s₃ Q E h
  have ea : (ka == NameKind.cell) = false := by cases ka <;> first | rfl | exact absurd rfl ha
  have eb : (kb == NameKind.cell) = false := by cases kb <;> first | rfl | exact absurd rfl hb
  have ec : (kc == NameKind.cell) = false := by cases kc <;> first | rfl | exact absurd rfl hc
  simp only [newFunctionEnv, hnames, Option.isSome_some, if_true]
  refine wpAny_bind (wpAny_alloc ?_)
  simp only [List.forIn_cons, List.forIn_nil, ea, eb, ec, Bool.false_eq_true, if_false]
  refine wpAny_bind (wpAny_bind (wpAny_pure ?_))
  dsimp only
  rw [if_pos (by decide)]
  refine wpAny_bind (wpAny_bind (wpAny_alloc (wpAny_pure ?_)))
  refine wpAny_bind (wpAny_pure (wpAny_bind (wpAny_pure (wpAny_pure ?_))))
  refine wpAny_bind (wpAny_pure (wpAny_pure ?_))
  have hsz : (s₃.heap.push { cls := .type "dict", data := .dict #[] }).objs.size = s₃.heap.objs.size + 1 := Heap.size_push ..
  have := h ((s₃.heap.push { cls := .type "dict", data := .dict #[] }).push { cls := .type "cell", data := .cell none }) s₃.toks
    ((Heap.Ns.new s₃.heap (.type "dict")).push _) (fun b o e => Heap.get?_push_of_some _ (Heap.get?_push_of_some _ e))
    (fun p hp => by
      rw [List.mem_singleton.mp hp]
      refine ⟨?_, Nat.lt_succ_self _⟩
      have q := Heap.get?_push_size (s₃.heap.push { cls := .type "dict", data := .dict #[] }) (o := { cls := .type "cell", data := .cell none }) rfl
      rw [hsz] at q; exact q)
  dsimp only
  rw [hsz]
  exact this
theorem block_my {elt target iter : Expr} {ifs : List Expr} {scope : Scope} {cl : List (Str × Addr)} {cl' : Addr → List (Str × Addr)} {extra : Addr → List (Addr × Obj)} {pos : Pos} {s₂ : Shared} {I : Addr} {fp : List Addr} {n : Nat} {P : Nat → Value → Prop} {St : Nat → Heap → Prop} {S : List (Addr × Obj) → Prop}
    {news : List (Addr × Obj)} {RR : Value → Addr → Result → Shared → Prop} (J : Addr → Nat → List Value → List (Addr × Obj) → Prop)
    (hmk : CMade prog w A env scope cl cl' extra)
    (Wk : Walks prog w A I fp [I] n P St) (hsz : n ≤ 100000) (hIo : ∀ i h, St i h → ∃ o, h.get? I = some o)
    (hSt : ∀ i h h' o nw, St i h → h.get? I = some o → h'.get? I = some o → (∀ b o, h₀.get? b = some o → h'.get? b = some o) → News h₀ L h' nw → S nw → St i h') (hS : ∀ C i ys nw, J C i ys nw → S nw)
    (hst : St 0 s₂.heap) (hfp : ∀ b ∈ fp, b < s₂.heap.objs.size) (F : Fr h₀ L s₂.heap m) (N : News h₀ L s₂.heap news) (hIL : L ≠ I) (hI₀ : h₀.get? I = none) (off : ∀ p ∈ news, p.1 ≠ I)
    (hJ : ∀ C, (∀ p ∈ news, p.1 < C) → J C 0 [] (extra C ++ news))
    (turn : ∀ C D s', s' = s₂ → CTurn prog w A h₀ L m (compEnvC scope (cl' C) C env) target ifs elt I C D s' n P St (J C))
    (hRR : ∀ D C h tk m' ys oC news', Fr h₀ L h m → LCg.NsObj oC m' → News h₀ L h ((C, oC) :: (D, LCg.lst ys) :: news') → LCg.Off3 I C D news' → h.Ns C m' → h₀.get? C = none → h₀.get? D = none → C ≠ L → D ≠ L → C ≠ D → J C n ys news' → RR (.ref D) C (.ok .next) { s₂ with heap := h, toks := tk }) :
    wpAny (model prog w) A (newList []) (fun acc s₃ => wpAny (model prog w) A (newFunctionEnv scope env.globals cl [] env.qual none .none (some env)) (fun cenv s₄ =>
      codeAny (model prog w) A (.compStart (.ListComp elt [⟨target, iter, ifs, 0⟩] scope pos) 0 (.ref I) acc { cenv with scope := relabel scope env }) (RR acc cenv.locals) s₄) E s₃) E s₂ := by
  refine wpAny_newObj_type (hmk _ _ _ fun h₁ tk₁ hns₁ up₁ hx₁ => ?_)
  dsimp only at hns₁ up₁ hx₁ ⊢
  generalize hH2 : s₂.heap.push { cls := .type "list", dict := none, data := .seq ([] : List Value).toArray } = H2 at hns₁ up₁ hx₁ ⊢
  have hC : H2.objs.size = s₂.heap.objs.size + 1 := by rw [← hH2, Heap.size_push]
  have hDC : s₂.heap.objs.size ≠ H2.objs.size := by rw [hC]; exact Nat.ne_of_lt (Nat.lt_succ_self _)
  have below : ∀ b, b < s₂.heap.objs.size → b ≠ H2.objs.size ∧ b ≠ s₂.heap.objs.size := fun b hb => ⟨by rw [hC]; exact Nat.ne_of_lt (Nat.lt_succ_of_lt hb), Nat.ne_of_lt hb⟩
  have hIf : I ∈ fp := Wk.sub I (List.mem_singleton.mpr rfl)
  have hIlt : I < s₂.heap.objs.size := hfp I hIf
  have old : ∀ b o, s₂.heap.get? b = some o → h₁.get? b = some o := fun b o e => up₁ b o (hH2 ▸ Heap.get?_push_of_some _ e)
  have hacc : h₁.get? s₂.heap.objs.size = some (LCg.lst []) := up₁ _ _ (hH2 ▸ Heap.get?_push_size _ rfl)
  have hst₁ : St 0 h₁ := Wk.frame _ _ _ hst fun b _ o e => old b o e
  have fresh : ∀ a, s₂.heap.objs.size ≤ a → s₂.heap.get? a = none := fun a ha => by
    cases e : s₂.heap.get? a with
    | none => rfl
    | some o' => exact absurd (Heap.lt_size e) (Nat.not_lt.mpr ha)
  have fresh₀ : ∀ a, s₂.heap.objs.size ≤ a → h₀.get? a = none := fun a ha => by
    cases e : h₀.get? a with
    | none => rfl
    | some o' => have := F.keep a o' e; rw [fresh a ha] at this; cases this
  have hD₀ : h₀.get? s₂.heap.objs.size = none := fresh₀ _ (Nat.le_refl _)
  have hC₀ : h₀.get? H2.objs.size = none := fresh₀ _ (by rw [hC]; exact Nat.le_succ _)
  have hLlt : L < s₂.heap.objs.size := F.ns.lt
  have hDL : s₂.heap.objs.size ≠ L := Ne.symm (below L hLlt).2
  have hCL : H2.objs.size ≠ L := Ne.symm (below L hLlt).1
  have hCI : I ≠ H2.objs.size := (below I hIlt).1
  have hDI : I ≠ s₂.heap.objs.size := (below I hIlt).2
  obtain ⟨oC, heC, hnC⟩ := LCg.ns_obj hns₁
  have xlt : ∀ p ∈ extra H2.objs.size, s₂.heap.objs.size < p.1 ∧ H2.objs.size < p.1 := fun p hp => by
    have := (hx₁ p hp).2
    rw [hC] at this ⊢
    exact ⟨Nat.lt_of_succ_lt this, this⟩
  have off₀ : LCg.Off3 I H2.objs.size s₂.heap.objs.size (extra H2.objs.size ++ news) := LCg.Off3.of fun p hp => by
    rcases List.mem_append.mp hp with hp | hp
    · have := xlt p hp
      exact ⟨Ne.symm (Nat.ne_of_lt (Nat.lt_trans hIlt this.1)), Ne.symm (Nat.ne_of_lt this.2), Ne.symm (Nat.ne_of_lt this.1)⟩
    · exact ⟨off p hp, (below _ (Heap.lt_size (N p hp).1)).1, (below _ (Heap.lt_size (N p hp).1)).2⟩
  have N₀ : News h₀ L h₁ ((H2.objs.size, oC) :: (s₂.heap.objs.size, LCg.lst []) :: (extra H2.objs.size ++ news)) := fun p hp => by
    rcases List.mem_cons.mp hp with rfl | hp
    · exact ⟨heC, hCL, hC₀⟩
    · rcases List.mem_cons.mp hp with rfl | hp
      · exact ⟨hacc, hDL, hD₀⟩
      · rcases List.mem_append.mp hp with hp | hp
        · have q := xlt p hp
          exact ⟨(hx₁ p hp).1, Ne.symm (Nat.ne_of_lt (Nat.lt_trans hLlt q.1)), fresh₀ _ (Nat.le_of_lt q.1)⟩
        · exact ⟨old _ _ (N p hp).1, (N p hp).2⟩
  have loop : ∀ s₃ : Shared, s₃ = { s₂ with heap := h₁, toks := tk₁ } →
      codeAny (model prog w) A (.compLoop (.ListComp elt [⟨target, iter, ifs, 0⟩] scope pos) 0 (.ref I) (.ref s₂.heap.objs.size) (compEnvC scope (cl' H2.objs.size) H2.objs.size env))
        (RR (.ref s₂.heap.objs.size) H2.objs.size) s₃ := by
    rintro s₃ rfl
    refine compLoop_my (J H2.objs.size) Wk hsz hIo hSt (hS _) hst₁ hIL hI₀ ⟨hCI, hDI, Ne.symm hDC⟩ hnC (F.keeps old) N₀ off₀ (hJ _ fun p hp => by rw [hC]; exact Nat.lt_succ_of_lt (Heap.lt_size (N p hp).1)) ?_ ?_
    · intro i v ys news₁ h tk oI oC m₂ hi hP hst' hJ' off' dist hn F' N'
      exact turn H2.objs.size s₂.heap.objs.size s₂ rfl i v ys news₁ h tk oI oC m₂ hi hP hst' hJ' off' dist hn F' N'
    · intro h tk ys news₁ oC m₂ hJ' off' hn F' N'
      exact hRR _ _ h tk m₂ ys oC news₁ F' hn N' off' (hn.ns (N' _ List.mem_cons_self).1) hC₀ hD₀ hCL hDL (Ne.symm hDC) hJ'
  exact codeAny_compStart_list (loop _ rfl) (Wk.self 0 _ _ _ hst₁ (loop _ rfl))
end
end
section
section
variable {prog : Program} {w : World} {A : Around} {E : Value → Shared → Prop} {s : Shared} {env : Env} {h₀ : Heap} {L : Addr} {m : Str → Option Value}
inductive CSrc (prog : Program) (w : World) (A : Around) (h₀ : Heap) (L : Addr) (m : Str → Option Value) (env : Env) (scope : Scope) (cl' : Addr → List (Str × Addr)) (extra : Addr → List (Addr × Obj)) (target : Expr) (ifs : List Expr) (elt : Expr)
    (Fin : Shared → List Value → List (Addr × Obj) → Prop) (it : Value) (s₂ : Shared) : Prop
  | mk (I : Addr) (fp : List Addr) (n : Nat) (P : Nat → Value → Prop) (St : Nat → Heap → Prop) (S : List (Addr × Obj) → Prop) (news : List (Addr × Obj)) (J : Addr → Nat → List Value → List (Addr × Obj) → Prop)
    (z1 : it = .ref I)
    (z2 : Walks prog w A I fp [I] n P St)
    (z3 : n ≤ 100000)
    (z4 : (∀ i h, St i h → ∃ o, h.get? I = some o))
    (z5 : (∀ i h h' o nw, St i h → h.get? I = some o → h'.get? I = some o → (∀ b o, h₀.get? b = some o → h'.get? b = some o) → News h₀ L h' nw → S nw → St i h'))
    (z6 : (∀ C i ys nw, J C i ys nw → S nw))
    (z7 : St 0 s₂.heap)
    (z8 : (∀ b ∈ fp, b < s₂.heap.objs.size))
    (z9 : Fr h₀ L s₂.heap m)
    (z10 : News h₀ L s₂.heap news)
    (z11 : L ≠ I)
    (z12 : h₀.get? I = none)
    (z13 : (∀ p ∈ news, p.1 ≠ I))
    (z14 : (∀ C, (∀ p ∈ news, p.1 < C) → J C 0 [] (extra C ++ news)))
    (z15 : (∀ C D, CTurn prog w A h₀ L m (compEnvC scope (cl' C) C env) target ifs elt I C D s₂ n P St (J C)))
    (z16 : ∀ C ys nw, J C n ys nw → Fin s₂ ys nw) : CSrc prog w A h₀ L m env scope cl' extra target ifs elt Fin it s₂
noncomputable def CFinE (h₀ : Heap) (L : Addr) (m : Str → Option Value) (Q : Value → Shared → Prop) (s₂ : Shared) (ys : List Value) (nw : List (Addr × Obj)) : Prop :=
  ∀ D h tk, Fr h₀ L h m → News h₀ L h ((D, LCg.lst ys) :: nw) → (∀ p ∈ nw, p.1 ≠ D) → Q (.ref D) { s₂ with heap := h, toks := tk }
noncomputable def CFinA (h₀ : Heap) (L : Addr) (m : Str → Option Value) (y : Str) (Q : Flow → Shared → Prop) (s₂ : Shared) (ys : List Value) (nw : List (Addr × Obj)) : Prop :=
  ∀ D h tk, Fr h₀ L h (fun z => if z = y then some (.ref D) else m z) → News h₀ L h ((D, LCg.lst ys) :: nw) → (∀ p ∈ nw, p.1 ≠ D) → Q .next { s₂ with heap := h, toks := tk }
theorem comp_news {h h' : Heap} {C D : Addr} {oC : Obj} {ys : List Value} {nw : List (Addr × Obj)} {I : Addr} (N : News h₀ L h ((C, oC) :: (D, LCg.lst ys) :: nw)) (off : LCg.Off3 I C D nw) (hCD : C ≠ D) (hs : Heap.SameBut C h h') : News h₀ L h' ((D, LCg.lst ys) :: nw) := fun p hp => by
  have q := N p (List.mem_cons_of_mem _ hp)
  refine ⟨hs.extBut _ _ ?_ q.1, q.2⟩
  rcases List.mem_cons.mp hp with rfl | hp
  · exact Ne.symm hCD
  · exact (off.mem p hp).2.1
theorem ListComp_my {elt target iter : Expr} {ifs : List Expr} {scope : Scope} {cl : List (Str × Addr)} {cl' : Addr → List (Str × Addr)} {extra : Addr → List (Addr × Obj)} {pos : Pos} {Q : Value → Shared → Prop} (_F : Fr h₀ L s.heap m)
    (hclos : closureFor scope env = pure cl) (hmk : CMade prog w A env scope cl cl' extra) (hkind : scope.kind = .function)
    (hnames : ∀ y ∈ scope.names, y.2 = .local → scope.names.lookup y.1 = some .local)
    (h : wpAny (model prog w) A (eval iter env) (fun xv s₁ => wpAny (model prog w) A (pyIter xv) (fun it s₂ => CSrc prog w A h₀ L m env scope cl' extra target ifs elt (CFinE h₀ L m Q) it s₂) E s₁) E s)
    (hs : ∀ x, foldedSetIterable iter env x = pure x) :
    wpAny (model prog w) A (eval (.ListComp elt [⟨target, iter, ifs, 0⟩] scope pos) env) Q E s := by
  rw [eval_ListComp]
  refine wpAny_comprehension_free (use := none) rfl hs hclos hkind hnames (wpAny_mono h (fun xv s₁ h₁ => wpAny_mono h₁ (fun it s₂ h₂ => ?_) fun _ _ e => e) fun _ _ e => e)
  obtain ⟨I, fp, n, P, St, S, news, J, rfl, Wk, hsz, hIo, hSt, hS, hst, hfp, F, N, hLI, hI₀, off, hJ, turn, fin⟩ := h₂
  refine block_my (RR := fun acc C => compPost (model prog w) A E none Q acc C) J hmk Wk hsz hIo hSt hS hst hfp F N hLI hI₀ off hJ (fun C D s' e => by subst e; exact turn C D) ?_
  intro D C h tk m' ys oC news' F' hn N' off' hns hC₀ hD₀ hCL hDL hCD hJ'
  refine ⟨m', hns, fun h'' hs'' => fin C ys news' hJ' D h'' tk (F'.change hs'' hCL hC₀) (comp_news N' off' hCD hs'') fun p hp => (off'.mem p hp).2.2⟩
theorem Assign_ListComp_my {elt target iter : Expr} {ifs : List Expr} {y : Str} {py : Pos} {scope : Scope} {cl : List (Str × Addr)} {cl' : Addr → List (Str × Addr)} {extra : Addr → List (Addr × Obj)} {pos spos : Pos} {Q : Flow → Shared → Prop} (_F : Fr h₀ L s.heap m) (hLe : env.locals = L)
    (hsw : swapsWith (.ListComp elt [⟨target, iter, ifs, 0⟩] scope pos) (some (.Name y py)) spos.line env = pure true)
    (hclos : closureFor scope env = pure cl) (hmk : CMade prog w A env scope cl cl' extra) (hkind : scope.kind = .function)
    (hnames : ∀ z ∈ scope.names, z.2 = .local → scope.names.lookup z.1 = some .local)
    (hy : env.kindOf y = some .local) (hp : (env.scope.kind == .class || (env.scope.kind == .module && env.locals != env.globals)) = false)
    (h : wpAny (model prog w) A (eval iter env) (fun xv s₁ => wpAny (model prog w) A (pyIter xv) (fun it s₂ => CSrc prog w A h₀ L m env scope cl' extra target ifs elt (CFinA h₀ L m y Q) it s₂) E s₁) E s)
    (hs : ∀ x, foldedSetIterable iter env x = pure x) :
    wpAny (model prog w) A (exec (.Assign [.Name y py] (.ListComp elt [⟨target, iter, ifs, 0⟩] scope pos) spos) env) Q E s := by
  subst hLe
  rw [exec_Assign_Name_used _ _ _ _ hsw]
  refine wpAny_bind (wpAny_standAt (wpAny_bind ?_))
  show wpAny _ A (do let _ ← comprehension (.ListComp elt [⟨target, iter, ifs, 0⟩] scope pos) scope env _ (newList []) false (eval iter env) (some (assign (.Name y py) env))) _ _ s
  refine wpAny_bind (wpAny_mono (wpAny_comprehension_free (use := some (assign (.Name y py) env)) (Q := fun _ s' => Q .next s') rfl hs hclos hkind hnames
    (wpAny_mono h (fun xv s₁ h₁ => wpAny_mono h₁ (fun it s₂ h₂ => ?_) fun _ _ e => e) fun _ _ e => e)) (fun _ s' hq => wpAny_pure (wpAny_pure hq)) fun _ _ e => e)
  obtain ⟨I, fp, n, P, St, S, news, J, rfl, Wk, hsz, hIo, hSt, hS, hst, hfp, F, N, hLI, hI₀, off, hJ, turn, fin⟩ := h₂
  refine block_my (RR := fun acc C => compPost (model prog w) A E (some (assign (.Name y py) env)) (fun _ s' => Q .next s') acc C) J hmk Wk hsz hIo hSt hS hst hfp F N hLI hI₀ off hJ (fun C D s' e => by subst e; exact turn C D) ?_
  intro D C h' tk m' ys oC news' F' hn N' off' hns hC₀ hD₀ hCL hDL hCD hJ'
  show wpAny _ A (assign (.Name y py) env (.ref D)) _ _ _
  refine wpAny_assign_Name (wpAny_storeName_local hy F'.ns (fun h₂ hn₂ hs₂ => ?_) hp)
  have hL₀ : h₀.get? env.locals = none := Heap.get?_none_of_le F'.above
  have F₂ : Fr h₀ env.locals h₂ (fun z => if z = y then some (.ref D) else m z) := ⟨hn₂, fun b o e => hs₂.extBut b o (fun q => by rw [q, hL₀] at e; cases e) (F'.keep b o e), F'.above⟩
  have N₂ : News h₀ env.locals h₂ ((C, oC) :: (D, LCg.lst ys) :: news') := N'.set hs₂
  exact ⟨m', hns.sameBut hs₂ hCL, fun h'' hs'' => fin C ys news' hJ' D h'' _ (F₂.change hs'' hCL hC₀) (comp_news N₂ off' hCD hs'') fun p hp => (off'.mem p hp).2.2⟩
theorem CSrc.list {scope : Scope} {cl' : Addr → List (Str × Addr)} {extra : Addr → List (Addr × Obj)} {target : Expr} {ifs : List Expr} {elt : Expr} {Fin : Shared → List Value → List (Addr × Obj) → Prop} {ax : Addr} {vs : List Value} {ep : Nat} {news : List (Addr × Obj)}
    (J : Addr → Nat → List Value → List (Addr × Obj) → Prop)
    (hh : A.handled = none) (F : Fr h₀ L s.heap m) (N : News h₀ L s.heap news) (hsz : vs.length ≤ 100000) (hax : (ax, W.listOf vs.toArray ep) ∈ news) (hS : ∀ C i ys nw, J C i ys nw → (ax, W.listOf vs.toArray ep) ∈ nw) (hJ : ∀ C, (∀ p ∈ news, p.1 < C) → J C 0 [] (extra C ++ news))
    (turn : ∀ I C D, CTurn prog w A h₀ L m (compEnvC scope (cl' C) C env) target ifs elt I C D s vs.length (fun i v => vs[i]? = some v) (fun i h => h.IsListIter I ax i ∧ h.IsList ax vs.toArray) (J C))
    (fin : ∀ h C ys nw, J C vs.length ys nw → Fin { s with heap := h } ys nw) :
    wpAny (model prog w) A (pyIter (.ref ax)) (fun it s₂ => CSrc prog w A h₀ L m env scope cl' extra target ifs elt Fin it s₂) E s := by
  have hl : s.heap.IsList ax vs.toArray := ⟨_, (N _ hax).1, rfl, ep, rfl⟩
  have hlt : ax < s.heap.objs.size := Heap.lt_size (N _ hax).1
  refine wpAny_pyIter_list hl ?_
  have up : ∀ b o, s.heap.get? b = some o → (s.heap.push { cls := .type "list_iterator", data := .fields #[.ref ax, .int 0 0] }).get? b = some o := fun b o e => Heap.get?_push_of_some _ e
  have Wk := Walks.list (prog := prog) (w := w) hh s.heap.objs.size ax (Nat.ne_of_lt hlt) vs.toArray
  have hz : vs.toArray.size = vs.length := by simp
  rw [hz] at Wk
  have Wk' : Walks prog w A s.heap.objs.size [s.heap.objs.size, ax] [s.heap.objs.size] vs.length (fun i v => vs[i]? = some v) (fun i h => h.IsListIter s.heap.objs.size ax i ∧ h.IsList ax vs.toArray) := by simpa using Wk
  refine ⟨s.heap.objs.size, [s.heap.objs.size, ax], vs.length, _, _, fun nw => (ax, W.listOf vs.toArray ep) ∈ nw, news, J, rfl, Wk', hsz, fun i h st => by obtain ⟨o, e, _⟩ := st.1; exact ⟨o, e⟩,
    fun i h h' o nw st e e' _ N' S => ⟨by obtain ⟨o', q, r⟩ := st.1; rw [e] at q; cases q; exact ⟨o, e', r⟩, ⟨_, (N' _ S).1, rfl, ep, rfl⟩⟩, hS, ⟨⟨_, Heap.get?_push_size _ rfl, rfl, rfl⟩, hl.push _⟩, fun b hb => ?_, F.push _, N.grown up, Nat.ne_of_lt F.ns.lt, next_is_new F,
    fun p hp => Nat.ne_of_lt (Heap.lt_size (N p hp).1), hJ, fun C D i v ys nw h tk oI oC m₂ hi hP => turn _ C D i v ys nw h tk oI oC m₂ hi hP, fun C ys nw hj => fin _ C ys nw hj⟩
  show b < (s.heap.push _).objs.size
  rw [Heap.size_push]
  rcases List.mem_cons.mp hb with rfl | hb
  · exact Nat.lt_succ_self _
  · rw [List.mem_singleton.mp hb]; exact Nat.lt_succ_of_lt hlt
theorem CSrc.range {scope : Scope} {cl' : Addr → List (Str × Addr)} {extra : Addr → List (Addr × Obj)} {target : Expr} {ifs : List Expr} {elt : Expr} {Fin : Shared → List Value → List (Addr × Obj) → Prop} {r : Addr} {a b : Int} {t u v : Tok} {n : Nat} {news : List (Addr × Obj)}
    (J : Addr → Nat → List Value → List (Addr × Obj) → Prop)
    (hh : A.handled = none) (F : Fr h₀ L s.heap m) (N : News h₀ L s.heap news) (hr : IsRange s.heap r a b 1 t u v) (hsm : Builtin.Range.small a b 1 = true) (hn : Builtin.Range.rangeSize a b 1 = ((n : Nat) : Int)) (hsz : n ≤ 100000) (hJ : ∀ C, (∀ p ∈ news, p.1 < C) → J C 0 [] (extra C ++ news))
    (turn : ∀ I C D, CTurn prog w A h₀ L m (compEnvC scope (cl' C) C env) target ifs elt I C D s n (fun i v => ∃ t, v = .int (a + (i : Nat)) t) (fun _ _ => True) (J C))
    (fin : ∀ h C ys nw, J C n ys nw → Fin { s with heap := h } ys nw) :
    wpAny (model prog w) A (pyIter (.ref r)) (fun it s₂ => CSrc prog w A h₀ L m env scope cl' extra target ifs elt Fin it s₂) E s := by
  refine wpAny_pyIter_range hr hsm ?_
  refine ⟨s.heap.objs.size, [s.heap.objs.size], n, _, _, fun _ => True, news, J, rfl, LCg.range_walks hh a n, hsz, fun i h st => ⟨_, st⟩, LCg.range_st, fun _ _ _ _ _ => trivial, ?_, fun b hb => ?_, F.push _, N.grown (fun _ _ e => Heap.get?_push_of_some _ e), Nat.ne_of_lt F.ns.lt, next_is_new F,
    fun p hp => Nat.ne_of_lt (Heap.lt_size (N p hp).1), hJ, fun C D i v ys nw h tk oI oC m₂ hi hP _ => turn _ C D i v ys nw h tk oI oC m₂ hi hP trivial, fun C ys nw hj => fin _ C ys nw hj⟩
  · show IsRangeIter _ _ _ _ _
    rw [hn]; simpa using Heap.get?_push_size _ rfl
  · rw [List.mem_singleton.mp hb]
    show s.heap.objs.size < (s.heap.push _).objs.size
    rw [Heap.size_push]; exact Nat.lt_succ_self _
end
end
section
section
variable {prog : Program} {w : World} {A : Around} {E : Value → Shared → Prop} {s : Shared} {env : Env} {h₀ : Heap} {L : Addr} {m : Str → Option Value}
theorem tup3 {x₁ x₂ x₃ : Str} {p₁ p₂ p₃ tp : Pos} {tk0} {scope : Scope} {cl : List (Str × Addr)} {I ax C D t : Addr} {j tk nt : Nat} {v₁ v₂ v₃ : Value} {h : Heap} {oI oC : Obj} {m₂ : Str → Option Value} {ys : List Value} {news₁ : List (Addr × Obj)} {E₁ E₂ : Value → Shared → Prop} {Q : Unit → Shared → Prop}
    (hh : A.handled = none) (hkind : scope.kind = .function) (hx₁ : scope.names.lookup x₁ = some .local) (hx₂ : scope.names.lookup x₂ = some .local) (hx₃ : scope.names.lookup x₃ = some .local) (d12 : x₁ ≠ x₂) (d13 : x₁ ≠ x₃) (d23 : x₂ ≠ x₃)
    (hit : h.IsListIter I ax j) (ht : (t, ({ cls := .type "tuple", data := .seq #[v₁, v₂, v₃] nt } : Obj)) ∈ news₁) (off : LCg.Off3 I C D news₁) (dist : (@Ne Nat I C) ∧ (@Ne Nat I D) ∧ (@Ne Nat C D)) (hn : LCg.NsObj oC m₂) (F : Fr h₀ L h m) (N : News h₀ L h ((I, oI) :: (C, oC) :: (D, LCg.lst ys) :: news₁))
    (next : ∀ h' tk' oC' m', LCg.NsObj oC' m' → m' x₁ = some v₁ → m' x₂ = some v₂ → m' x₃ = some v₃ → Fr h₀ L h' m → News h₀ L h' ((I, oI) :: (C, oC') :: (D, LCg.lst ys) :: news₁) → Q () { s with heap := h', toks := tk' }) :
    wpAny (model prog w) A (letOwnedTupleGo (.Tuple [.Name x₁ p₁, .Name x₂ p₂, .Name x₃ p₃] tk0 tp) (.ref I) (.ref t)) (fun _ s₁ => wpAny (model prog w) A (assign (.Tuple [.Name x₁ p₁, .Name x₂ p₂, .Name x₃ p₃] tk0 tp) (compEnvC scope cl C env) (.ref t)) Q E₁ s₁) E₂ { s with heap := h, toks := tk } := by
  refine wpAny_letOwnedTupleGo_listiter hit ?_
  have zt := N _ (List.mem_cons_of_mem _ (List.mem_cons_of_mem _ (List.mem_cons_of_mem _ ht)))
  have zC := N (C, oC) (List.mem_cons_of_mem _ List.mem_cons_self)
  have ht' : IsTup h t #[v₁, v₂, v₃] := ⟨_, zt.1, rfl, nt, rfl⟩
  have hnC : h.Ns C m₂ := hn.ns zC.1
  refine assign_Tuple_tuple hh ht' rfl rfl fun h₅ he => ?_
  have he' : ∀ b o, h.get? b = some o → h₅.get? b = some o := fun b o e => he b o (Nat.ne_of_lt (Heap.lt_size e)) e
  refine assignInOrder_cons (wpAny_assign_Name (wpAny_storeName_local (lookup_relabel_local hx₁) (hnC.at' fun o e => he' _ o e) (fun h₆ hn₆ hs₆ => ?_) (by simp [compEnvC, relabel, hkind])))
  refine assignInOrder_cons (wpAny_assign_Name (wpAny_storeName_local (lookup_relabel_local hx₂) hn₆ (fun h₇ hn₇ hs₇ => ?_) (by simp [compEnvC, relabel, hkind])))
  refine assignInOrder_cons (wpAny_assign_Name (wpAny_storeName_local (lookup_relabel_local hx₃) hn₇ (fun h₃ hn₃ hs₃ => ?_) (by simp [compEnvC, relabel, hkind])))
  refine assignInOrder_nil ?_
  have old3 : ∀ b o, b ≠ C → h.get? b = some o → h₃.get? b = some o := fun b o hb e => hs₃.extBut b o hb (hs₇.extBut b o hb (hs₆.extBut b o hb (he' b o e)))
  obtain ⟨oC', heC, hoC⟩ := LCg.ns_obj hn₃
  have F₃ : Fr h₀ L h₃ m := (((F.keeps he').change hs₆ zC.2.1 zC.2.2).change hs₇ zC.2.1 zC.2.2).change hs₃ zC.2.1 zC.2.2
  refine next h₃ _ oC' _ hoC (by simp [d13, d12]) (by simp [d23]) (by simp) F₃ (nmove N (old3 _ _ dist.1) (nhead ⟨heC, zC.2⟩ (nkeep old3 (ntail (ntail N)) (ncons (Ne.symm dist.2.2) fun p hp => (off.mem p hp).2.1))))
theorem one1 {x : Str} {px : Pos} {scope : Scope} {cl : List (Str × Addr)} {I C D : Addr} {tk : Nat} {v : Value} {h : Heap} {oI oC : Obj} {m₂ : Str → Option Value} {ys : List Value} {news₁ : List (Addr × Obj)} {E₁ E₂ : Value → Shared → Prop} {Q : Unit → Shared → Prop}
    (hkind : scope.kind = .function) (hx : scope.names.lookup x = some .local)
    (off : LCg.Off3 I C D news₁) (dist : (@Ne Nat I C) ∧ (@Ne Nat I D) ∧ (@Ne Nat C D)) (hn : LCg.NsObj oC m₂) (F : Fr h₀ L h m) (N : News h₀ L h ((I, oI) :: (C, oC) :: (D, LCg.lst ys) :: news₁))
    (next : ∀ h' tk' oC' m', LCg.NsObj oC' m' → m' x = some v → Fr h₀ L h' m → News h₀ L h' ((I, oI) :: (C, oC') :: (D, LCg.lst ys) :: news₁) → Q () { s with heap := h', toks := tk' }) :
    wpAny (model prog w) A (letOwnedTupleGo (.Name x px) (.ref I) v) (fun _ s₁ => wpAny (model prog w) A (assign (.Name x px) (compEnvC scope cl C env) v) Q E₁ s₁) E₂ { s with heap := h, toks := tk } := by
  refine wpAny_of_eq (rfl : letOwnedTupleGo (.Name x px) (.ref I) v = pure ()) ?_
  have zC := N (C, oC) (List.mem_cons_of_mem _ List.mem_cons_self)
  have hnC : h.Ns C m₂ := hn.ns zC.1
  refine wpAny_assign_Name (wpAny_storeName_local (lookup_relabel_local hx) hnC (fun h₃ hn₃ hs₃ => ?_) (by simp [compEnvC, relabel, hkind]))
  have old3 : ∀ b o, b ≠ C → h.get? b = some o → h₃.get? b = some o := fun b o hb e => hs₃.extBut b o hb e
  obtain ⟨oC', heC, hoC⟩ := LCg.ns_obj hn₃
  refine next h₃ _ oC' _ hoC (by simp) (F.change hs₃ zC.2.1 zC.2.2) (nmove N (old3 _ _ dist.1) (nhead ⟨heC, zC.2⟩ (nkeep old3 (ntail (ntail N)) (ncons (Ne.symm dist.2.2) fun p hp => (off.mem p hp).2.1))))
end
end
section
section
variable {prog : Program} {w : World} {A : Around} {E : Value → Shared → Prop} {s : Shared} {env : Env} {h₀ : Heap} {L : Addr} {m : Str → Option Value}
noncomputable def ZTurn (prog : Program) (w : World) (A : Around) (h₀ : Heap) (L : Addr) (m : Str → Option Value) (cenv : Env) (a b : Str) (elt : Expr) (C D : Addr) (news : List (Addr × Obj)) (s : Shared) (n : Nat) (P : Nat → Value → Value → Prop) (J : Nat → List Value → Prop) : Prop :=
  ∀ i x y ys h tk oC m₂, i < n → P i x y → J i ys → LCg.NsObj oC m₂ → m₂ a = some x → m₂ b = some y → Fr h₀ L h m → News h₀ L h ((C, oC) :: (D, LCg.lst ys) :: news) →
    wpAny (model prog w) A (eval elt cenv) (fun v s₄ => ∃ tk', s₄ = { s with heap := h, toks := tk' } ∧ J (i + 1) (ys ++ [v])) (fun _ _ => False) { s with heap := h, toks := tk }
inductive InnerInv (h₀ : Heap) (L : Addr) (m : Str → Option Value) (s : Shared) (C D : Addr) (base : List (Addr × Obj)) (n : Nat) (G : Nat → List Value → Heap → Prop) (J : Nat → List Value → Prop) (k : Nat) (s' : Shared) : Prop
  | mk (h : Heap) (tk : Nat) (oC : Obj) (m₂ : Str → Option Value) (i : Nat) (ys : List Value) (z1 : s' = { s with heap := h, toks := tk }) (z2 : i ≤ n) (z3 : k = n + 1 - i) (z4 : G i ys h) (z5 : LCg.NsObj oC m₂) (z6 : Fr h₀ L h m)
    (z7 : News h₀ L h ((C, oC) :: (D, LCg.lst ys) :: base)) (z8 : J i ys) : InnerInv h₀ L m s C D base n G J k s'
theorem zipLoop {elt iter : Expr} {a b : Str} {pa pb tp : Pos} {kk : Nat} {scope : Scope} {cl : List (Str × Addr)} {pos : Pos} {R : Result → Shared → Prop} {I C D : Addr} {fp wr : List Addr} {n : Nat} {P : Nat → Value → Value → Prop} {St : Nat → Heap → Prop} {Mid : Nat → Addr → Heap → Prop}
    {news : List (Addr × Obj)} {oC : Obj} {m₂ : Str → Option Value} (J : Nat → List Value → Prop)
    (Wk : WalksT prog w A I fp wr n (fun i vals => ∃ x y, P i x y ∧ vals = #[x, y]) St Mid) (hsz : n ≤ 100000) (hh : A.handled = none)
    (hkind : scope.kind = .function) (hxa : scope.names.lookup a = some .local) (hxb : scope.names.lookup b = some .local) (hab : a ≠ b)
    (hst : St 0 s.heap) (hL : L ∉ wr) (h0 : ∀ c ∈ wr, h₀.get? c = none) (hC : C ∉ fp) (hD : D ∉ fp) (hCD : C ≠ D) (hn : LCg.NsObj oC m₂) (F : Fr h₀ L s.heap m) (N : News h₀ L s.heap ((C, oC) :: (D, LCg.lst []) :: news)) (off : ∀ p ∈ news, p.1 ∉ wr ∧ p.1 ≠ C ∧ p.1 ≠ D) (hJ : J 0 [])
    (turn : ZTurn prog w A h₀ L m (compEnvC scope cl C env) a b elt C D news s n P J)
    (fin : ∀ h tk ys oC m₂, J n ys → LCg.NsObj oC m₂ → Fr h₀ L h m → News h₀ L h ((C, oC) :: (D, LCg.lst ys) :: news) → R (.ok .next) { s with heap := h, toks := tk }) :
    codeAny (model prog w) A (.compLoop (.ListComp elt [⟨.Tuple [.Name a pa, .Name b pb] kk tp, iter, [], 0⟩] scope pos) 0 (.ref I) (.ref D) (compEnvC scope cl C env)) R s := by
  have hCw : C ∉ wr := fun h => hC (Wk.sub _ h)
  have hDw : D ∉ wr := fun h => hD (Wk.sub _ h)
  have keepF : ∀ h h', Fr h₀ L h m → (∀ c o, c ∉ wr → h.get? c = some o → h'.get? c = some o) → Fr h₀ L h' m := fun h h' F hk =>
    ⟨F.ns.at' fun o e => hk L o hL e, fun c o e => hk c o (fun hm => by rw [h0 c hm] at e; cases e) (F.keep c o e), F.above⟩
  have keepN : ∀ h h' oC ys, News h₀ L h ((C, oC) :: (D, LCg.lst ys) :: news) → (∀ c o, c ∉ wr → h.get? c = some o → h'.get? c = some o) → News h₀ L h' ((C, oC) :: (D, LCg.lst ys) :: news) := fun h h' oC ys N hk p hp => by
    exact ⟨hk _ _ (List.forall_mem_cons (p := fun p : Addr × Obj => p.1 ∉ wr).mpr ⟨hCw, List.forall_mem_cons.mpr ⟨hDw, fun p hp => (off p hp).1⟩⟩ p hp) (N p hp).1, (N p hp).2⟩
  refine codeAny_loop rfl
    (InnerInv h₀ L m s C D news n (fun i ys h => ys.length ≤ i ∧ St i h) J) ?_ (n + 1)
    ⟨s.heap, s.toks, oC, m₂, 0, [], rfl, Nat.zero_le _, rfl, ⟨Nat.le_refl _, hst⟩, hn, F, N, hJ⟩
  rintro k s' ⟨h, tk, oC, m₂, i, ys, rfl, hi, rfl, ⟨hyl, hst'⟩, hn', F', N', hJ'⟩
  show wpAny _ A ((compTurn (.ListComp elt [⟨.Tuple [.Name a pa, .Name b pb] kk tp, iter, [], 0⟩] scope pos) 0 (.ref I) (.ref D) (compEnvC scope cl C env)).onRaise (fun x => do noteFrame x (compEnvC scope cl C env); theTreesLotGoes x)) _ _ _
  refine wpAny_noted ?_
  rw [compTurn_list]
  refine wpAny_bind (wpAny_standAt (wpAny_bind ?_))
  generalize Code.compLoop _ _ _ _ _ = code; revert code; refine id ?_; intro code
  generalize notedBy _ _ _ _ = NE; revert NE; refine id ?_; intro NE
  by_cases hlt : i < n
  · refine Wk.item i _ _ _ hlt hst' fun T vals h₁ tk₁ hP hTs hT hm hk₁ => ?_
    obtain ⟨x, y, hP, rfl⟩ := hP
    refine wpAny_bind (Wk.go _ _ _ _ _ _ _ _ hm fun h₂ hst₂ hk₂ => ?_)
    have hT₂ : IsTup h₂ T #[x, y] := by
      obtain ⟨o, e, r⟩ := hT
      exact ⟨o, hk₂ _ _ (Wk.apart _ _ _ hm) e, r⟩
    have F₂ := keepF _ _ (keepF _ _ F' hk₁) hk₂
    have N₂ := keepN _ _ _ _ (keepN _ _ _ _ N' hk₁) hk₂
    have zC := N₂ (C, oC) List.mem_cons_self
    have hnC : h₂.Ns C m₂ := hn'.ns zC.1
    refine wpAny_bind (assign_Tuple_tuple hh hT₂ rfl rfl fun h₅ he => ?_)
    have he' : ∀ c o, h₂.get? c = some o → h₅.get? c = some o := fun c o e => he c o (Nat.ne_of_lt (Heap.lt_size e)) e
    refine assignInOrder_cons (wpAny_assign_Name (wpAny_storeName_local (lookup_relabel_local hxa) (hnC.at' fun o e => he' _ o e) (fun h₆ hn₆ hs₆ => ?_) (by simp [compEnvC, relabel, hkind])))
    refine assignInOrder_cons (wpAny_assign_Name (wpAny_storeName_local (lookup_relabel_local hxb) hn₆ (fun h₇ hn₇ hs₇ => ?_) (by simp [compEnvC, relabel, hkind])))
    refine assignInOrder_nil ?_
    have old3 : ∀ c o, c ≠ C → h₂.get? c = some o → h₇.get? c = some o := fun c o hb e => hs₇.extBut c o hb (hs₆.extBut c o hb (he' c o e))
    obtain ⟨oC', heC, hoC⟩ := LCg.ns_obj hn₇
    have F₇ : Fr h₀ L h₇ m := ((F₂.keeps he').change hs₆ zC.2.1 zC.2.2).change hs₇ zC.2.1 zC.2.2
    have N₇ : News h₀ L h₇ ((C, oC') :: (D, LCg.lst ys) :: news) := nhead ⟨heC, zC.2⟩ (nkeep old3 (ntail N₂) (ncons (Ne.symm hCD) fun p hp => (off p hp).2.1))
    have hst₇ : St (i + 1) h₇ := Wk.frame _ _ _ hst₂ fun c hc o e => old3 c o (fun q => hC (q ▸ hc)) e
    refine wpAny_bind ?_
    rw [show (forIn ([] : List Expr) true fun c r => if r = true then do let ok ← isTrue c (compEnvC scope cl C env) (eval c (compEnvC scope cl C env)); pure (ForInStep.yield ok) else pure (ForInStep.yield r)) = (pure true : Sem Bool) from rfl]
    refine wpAny_pure ?_
    simp only [if_true]
    refine wpAny_bind (wpAny_bind (wpAny_mono (turn i x y ys h₇ _ oC' _ hlt hP hJ' hoC (by simp [hab]) (by simp) F₇ N₇) (fun v s₄ t₄ => ?_) fun _ _ f => f.elim))
    obtain ⟨tk', rfl, hJ₄⟩ := t₄
    have zD := N₇ (D, LCg.lst ys) (List.mem_cons_of_mem _ List.mem_cons_self)
    refine wpAny_bind (append_at (hsz := by show ys.toArray.size ≤ sizeLine; rw [List.size_toArray, show sizeLine = 16777216 from rfl]; (first | lia | omega)) zD.1 fun h₈ hs₈ hD₈ => ?_)
    refine wpAny_pure (wpAny_pure ⟨rfl, n + 1 - (i + 1), tick hlt, h₈, tk', oC', _, i + 1, ys ++ [v], rfl, hlt, rfl, ⟨by rw [List.length_append, List.length_singleton]; (first | lia | omega), ?_⟩, hoC, F₇.change hs₈ zD.2.1 zD.2.2,
      nmove N₇ (hs₈.extBut _ _ hCD) (nhead ⟨hD₈.trans (congrArg some (LCg.lst_snoc ys v)), zD.2⟩ (nkeep hs₈.extBut (ntail (ntail N₇)) fun p hp => (off p hp).2.2)), hJ₄⟩)
    exact Wk.frame _ _ _ hst₇ fun c hc o e => hs₈.extBut c o (fun q => hD (q ▸ hc)) e
  · obtain rfl : i = n := by (first | lia | omega)
    refine Wk.done _ _ _ hst' fun h₁ tk₁ hk₁ => wpAny_pure ?_
    exact fin h₁ tk₁ ys oC m₂ hJ' hn' (keepF _ _ F' hk₁) (keepN _ _ _ _ N' hk₁)
end
section
variable {prog : Program} {w : World} {A : Around} {E : Value → Shared → Prop} {s : Shared} {env : Env} {h₀ : Heap} {L : Addr} {m : Str → Option Value}
theorem block_z {elt iter : Expr} {a b : Str} {pa pb tp : Pos} {kk : Nat} {scope : Scope} {cl : List (Str × Addr)} {pos : Pos} {s₂ : Shared} {I : Addr} {fp wr : List Addr} {n : Nat} {P : Nat → Value → Value → Prop} {St : Nat → Heap → Prop} {Mid : Nat → Addr → Heap → Prop}
    {news : List (Addr × Obj)} {RR : Value → Addr → Result → Shared → Prop} (J : Nat → List Value → Prop)
    (hcell : ∀ y ∈ scope.names, y.2 ≠ .cell)
    (Wk : WalksT prog w A I fp wr n (fun i vals => ∃ x y, P i x y ∧ vals = #[x, y]) St Mid) (hsz : n ≤ 100000) (hh : A.handled = none)
    (hkind : scope.kind = .function) (hxa : scope.names.lookup a = some .local) (hxb : scope.names.lookup b = some .local) (hab : a ≠ b)
    (hst : St 0 s₂.heap) (hfp : ∀ c ∈ fp, c < s₂.heap.objs.size) (hL : L ∉ wr) (h0 : ∀ c ∈ wr, h₀.get? c = none) (F : Fr h₀ L s₂.heap m) (N : News h₀ L s₂.heap news) (off : ∀ p ∈ news, p.1 ∉ wr) (hJ : J 0 [])
    (turn : ∀ C D s', s' = s₂ → ZTurn prog w A h₀ L m (compEnvC scope cl C env) a b elt C D news s' n P J)
    (hRR : ∀ D C h tk m' ys oC, Fr h₀ L h m → LCg.NsObj oC m' → News h₀ L h ((C, oC) :: (D, LCg.lst ys) :: news) → (∀ p ∈ news, p.1 ≠ C ∧ p.1 ≠ D) → h.Ns C m' → h₀.get? C = none → h₀.get? D = none → C ≠ L → D ≠ L → C ≠ D → J n ys → RR (.ref D) C (.ok .next) { s₂ with heap := h, toks := tk }) :
    wpAny (model prog w) A (newList []) (fun acc s₃ => wpAny (model prog w) A (newFunctionEnv scope env.globals cl [] env.qual none .none (some env)) (fun cenv s₄ =>
      codeAny (model prog w) A (.compStart (.ListComp elt [⟨.Tuple [.Name a pa, .Name b pb] kk tp, iter, [], 0⟩] scope pos) 0 (.ref I) acc { cenv with scope := relabel scope env }) (RR acc cenv.locals) s₄) E s₃) E s₂ := by
  refine wpAny_newObj_type (wpAny_newFunctionEnv hcell (by intro y hy; simp at hy) (fun h₁ hns₁ hsb₁ => ?_) hkind)
  dsimp only at hns₁ hsb₁ ⊢
  generalize hH2 : s₂.heap.push { cls := .type "list", dict := none, data := .seq ([] : List Value).toArray } = H2 at hns₁ hsb₁ ⊢
  have hC : H2.objs.size = s₂.heap.objs.size + 1 := by rw [← hH2, Heap.size_push]
  have hDC : s₂.heap.objs.size ≠ H2.objs.size := by rw [hC]; exact Nat.ne_of_lt (Nat.lt_succ_self _)
  have below : ∀ b, b < s₂.heap.objs.size → b ≠ H2.objs.size ∧ b ≠ s₂.heap.objs.size := fun b hb => ⟨by rw [hC]; exact Nat.ne_of_lt (Nat.lt_succ_of_lt hb), Nat.ne_of_lt hb⟩
  have old : ∀ b o, s₂.heap.get? b = some o → h₁.get? b = some o := fun b o e => hsb₁.extBut b o (below b (Heap.lt_size e)).1 (Heap.get?_push_of_some _ (hH2 ▸ Heap.get?_push_of_some _ e))
  have hacc : h₁.get? s₂.heap.objs.size = some (LCg.lst []) := hsb₁.extBut _ _ hDC (Heap.get?_push_of_some _ (hH2 ▸ Heap.get?_push_size _ rfl))
  have hst₁ : St 0 h₁ := Wk.frame _ _ _ hst fun b _ o e => old b o e
  have fresh : ∀ a, s₂.heap.objs.size ≤ a → s₂.heap.get? a = none := fun a ha => by
    cases e : s₂.heap.get? a with
    | none => rfl
    | some o' => exact absurd (Heap.lt_size e) (Nat.not_lt.mpr ha)
  have fresh₀ : ∀ a, s₂.heap.objs.size ≤ a → h₀.get? a = none := fun a ha => by
    cases e : h₀.get? a with
    | none => rfl
    | some o' => have := F.keep a o' e; rw [fresh a ha] at this; cases this
  have hD₀ : h₀.get? s₂.heap.objs.size = none := fresh₀ _ (Nat.le_refl _)
  have hC₀ : h₀.get? H2.objs.size = none := fresh₀ _ (by rw [hC]; exact Nat.le_succ _)
  have hLlt : L < s₂.heap.objs.size := F.ns.lt
  have hDL : s₂.heap.objs.size ≠ L := Ne.symm (below L hLlt).2
  have hCL : H2.objs.size ≠ L := Ne.symm (below L hLlt).1
  have hCf : H2.objs.size ∉ fp := fun h => (below _ (hfp _ h)).1 rfl
  have hDf : s₂.heap.objs.size ∉ fp := fun h => (below _ (hfp _ h)).2 rfl
  obtain ⟨oC, heC, hnC⟩ := LCg.ns_obj hns₁
  have off₀ : ∀ p ∈ news, p.1 ∉ wr ∧ p.1 ≠ H2.objs.size ∧ p.1 ≠ s₂.heap.objs.size := fun p hp => ⟨off p hp, below _ (Heap.lt_size (N p hp).1)⟩
  have N₀ : News h₀ L h₁ ((H2.objs.size, oC) :: (s₂.heap.objs.size, LCg.lst []) :: news) := nhead ⟨heC, hCL, hC₀⟩ (nhead ⟨hacc, hDL, hD₀⟩ fun p hp => ⟨old _ _ (N p hp).1, (N p hp).2⟩)
  have loop : ∀ s₃ : Shared, s₃ = { s₂ with heap := h₁, toks := s₂.toks + ([] : List (Str × Value)).length } →
      codeAny (model prog w) A (.compLoop (.ListComp elt [⟨.Tuple [.Name a pa, .Name b pb] kk tp, iter, [], 0⟩] scope pos) 0 (.ref I) (.ref s₂.heap.objs.size) (compEnvC scope cl H2.objs.size env))
        (RR (.ref s₂.heap.objs.size) H2.objs.size) s₃ := by
    rintro s₃ rfl
    refine zipLoop J Wk hsz hh hkind hxa hxb hab hst₁ hL h0 hCf hDf (Ne.symm hDC) hnC (F.keeps old) N₀ off₀ hJ ?_ ?_
    · intro i x y ys h tk oC m₂ hi hP hJ' hn hma hmb F' N'
      exact turn H2.objs.size s₂.heap.objs.size s₂ rfl i x y ys h tk oC m₂ hi hP hJ' hn hma hmb F' N'
    · intro h tk ys oC m₂ hJ' hn F' N'
      exact hRR _ _ h tk m₂ ys oC F' hn N' (fun p hp => (off₀ p hp).2) (hn.ns (N' _ List.mem_cons_self).1) hC₀ hD₀ hCL hDL (Ne.symm hDC) hJ'
  exact codeAny_compStart_list (loop _ rfl) (Wk.self 0 _ _ _ hst₁ (loop _ rfl))
inductive ZSrc (prog : Program) (w : World) (A : Around) (h₀ : Heap) (L : Addr) (m : Str → Option Value) (env : Env) (scope : Scope) (cl : List (Str × Addr)) (a b : Str) (elt : Expr)
    (Fin : Shared → List Value → List (Addr × Obj) → Prop) (it : Value) (s₂ : Shared) : Prop
  | mk (I : Addr) (fp wr : List Addr) (n : Nat) (P : Nat → Value → Value → Prop) (St : Nat → Heap → Prop) (Mid : Nat → Addr → Heap → Prop) (news : List (Addr × Obj)) (J : Nat → List Value → Prop)
    (z1 : it = .ref I)
    (z2 : WalksT prog w A I fp wr n (fun i vals => ∃ x y, P i x y ∧ vals = #[x, y]) St Mid)
    (z3 : n ≤ 100000)
    (z4 : A.handled = none)
    (z5 : St 0 s₂.heap)
    (z6 : (∀ c ∈ fp, c < s₂.heap.objs.size))
    (z7 : L ∉ wr)
    (z8 : (∀ c ∈ wr, h₀.get? c = none))
    (z9 : Fr h₀ L s₂.heap m)
    (z10 : News h₀ L s₂.heap news)
    (z11 : (∀ p ∈ news, p.1 ∉ wr))
    (z12 : J 0 [])
    (z13 : (∀ C D, ZTurn prog w A h₀ L m (compEnvC scope cl C env) a b elt C D news s₂ n P J))
    (z14 : ∀ ys, J n ys → Fin s₂ ys news) : ZSrc prog w A h₀ L m env scope cl a b elt Fin it s₂
theorem Assign_ListComp_z {elt iter : Expr} {a b : Str} {pa pb tp : Pos} {kk : Nat} {y : Str} {py : Pos} {scope : Scope} {cl : List (Str × Addr)} {pos spos : Pos} {Q : Flow → Shared → Prop} (_F : Fr h₀ L s.heap m) (hLe : env.locals = L)
    (hsw : swapsWith (.ListComp elt [⟨.Tuple [.Name a pa, .Name b pb] kk tp, iter, [], 0⟩] scope pos) (some (.Name y py)) spos.line env = pure true)
    (hclos : closureFor scope env = pure cl) (hcell : ∀ z ∈ scope.names, z.2 ≠ .cell) (hkind : scope.kind = .function)
    (hnames : ∀ z ∈ scope.names, z.2 = .local → scope.names.lookup z.1 = some .local)
    (hxa : scope.names.lookup a = some .local) (hxb : scope.names.lookup b = some .local) (hab : a ≠ b)
    (hy : env.kindOf y = some .local) (hp : (env.scope.kind == .class || (env.scope.kind == .module && env.locals != env.globals)) = false)
    (h : wpAny (model prog w) A (eval iter env) (fun xv s₁ => wpAny (model prog w) A (pyIter xv) (fun it s₂ => ZSrc prog w A h₀ L m env scope cl a b elt (CFinA h₀ L m y Q) it s₂) E s₁) E s)
    (hs : ∀ x, foldedSetIterable iter env x = pure x) :
    wpAny (model prog w) A (exec (.Assign [.Name y py] (.ListComp elt [⟨.Tuple [.Name a pa, .Name b pb] kk tp, iter, [], 0⟩] scope pos) spos) env) Q E s := by
  subst hLe
  rw [exec_Assign_Name_used _ _ _ _ hsw]
  refine wpAny_bind (wpAny_standAt (wpAny_bind ?_))
  show wpAny _ A (do let _ ← comprehension (.ListComp elt [⟨.Tuple [.Name a pa, .Name b pb] kk tp, iter, [], 0⟩] scope pos) scope env _ (newList []) false (eval iter env) (some (assign (.Name y py) env))) _ _ s
  refine wpAny_bind (wpAny_mono (wpAny_comprehension_free (use := some (assign (.Name y py) env)) (Q := fun _ s' => Q .next s') rfl hs hclos hkind hnames
    (wpAny_mono h (fun xv s₁ h₁ => wpAny_mono h₁ (fun it s₂ h₂ => ?_) fun _ _ e => e) fun _ _ e => e)) (fun _ s' hq => wpAny_pure (wpAny_pure hq)) fun _ _ e => e)
  obtain ⟨I, fp, wr, n, P, St, Mid, news, J, rfl, Wk, hsz, hh, hst, hfp, hL, h0, F, N, off, hJ, turn, fin⟩ := h₂
  refine block_z (RR := fun acc C => compPost (model prog w) A E (some (assign (.Name y py) env)) (fun _ s' => Q .next s') acc C) J hcell Wk hsz hh hkind hxa hxb hab hst hfp hL h0 F N off hJ (fun C D s' e => by subst e; exact turn C D) ?_
  intro D C h' tk m' ys oC F' hn N' off' hns hC₀ hD₀ hCL hDL hCD hJ'
  show wpAny _ A (assign (.Name y py) env (.ref D)) _ _ _
  refine wpAny_assign_Name (wpAny_storeName_local hy F'.ns (fun h₂ hn₂ hs₂ => ?_) hp)
  have hL₀ : h₀.get? env.locals = none := Heap.get?_none_of_le F'.above
  have F₂ : Fr h₀ env.locals h₂ (fun z => if z = y then some (.ref D) else m z) := ⟨hn₂, fun b o e => hs₂.extBut b o (fun q => by rw [q, hL₀] at e; cases e) (F'.keep b o e), F'.above⟩
  have N₂ : News h₀ env.locals h₂ ((C, oC) :: (D, LCg.lst ys) :: news) := N'.set hs₂
  refine ⟨m', hns.sameBut hs₂ hCL, fun h'' hs'' => fin ys hJ' D h'' _ (F₂.change hs'' hCL hC₀) (fun p hp => ?_) fun p hp => (off' p hp).2⟩
  have q := N₂ p (List.mem_cons_of_mem _ hp)
  refine ⟨hs''.extBut _ _ ?_ q.1, q.2⟩
  rcases List.mem_cons.mp hp with rfl | hp
  · exact Ne.symm hCD
  · exact (off' p hp).1
inductive ZMade (h₀ : Heap) (L l1 l2 : Addr) (xs ys : List Value) (news : List (Addr × Obj)) (h' : Heap) (z : Addr) : Prop
  | mk (TI TO i1 i2 : Addr) (z1 : ZipApart z TI TO i1 i2 l1 l2)
    (z2 : IsZip h' z TI TO .none ∧ IsPair h' TI (.ref i1) (.ref i2) ∧ (∃ a b, IsPair h' TO a b) ∧ h'.IsListIter i1 l1 0 ∧ h'.IsListIter i2 l2 0 ∧ h'.IsList l1 xs.toArray ∧ h'.IsList l2 ys.toArray)
    (z3 : L ∉ [z, TO, i1, i2]) (z4 : ∀ c ∈ [z, TO, i1, i2], h₀.get? c = none) (z5 : ∀ p ∈ news, p.1 ∉ [z, TO, i1, i2]) : ZMade h₀ L l1 l2 xs ys news h' z
theorem zip_my {l1 l2 : Addr} {xs ys : List Value} {e1 e2 : Nat} {news : List (Addr × Obj)} {Q : Value → Shared → Prop} (F : Fr h₀ L s.heap m) (N : News h₀ L s.heap news) (h1 : (l1, W.listOf xs.toArray e1) ∈ news) (h2 : (l2, W.listOf ys.toArray e2) ∈ news)
    (k : ∀ h' z, Fr h₀ L h' m → News h₀ L h' news → ZMade h₀ L l1 l2 xs ys news h' z → Q (.ref z) { s with heap := h' }) :
    wpAny (model prog w) A (call (.type "zip") [.ref l1, .ref l2]) Q E s := by
  refine zip_rows F ⟨_, (N _ h1).1, rfl, e1, rfl⟩ ⟨_, (N _ h2).1, rfl, e2, rfl⟩ fun h' z TI TO i1 i2 ap st F' hk g1 g2 g3 g4 gL => k h' z F' (N.grown hk) ⟨TI, TO, i1, i2, ap, st, ?_, ?_, ?_⟩
  · intro h
    simp only [List.mem_cons, List.not_mem_nil, or_false] at h
    obtain ⟨a1, a2, a3, a4⟩ := gL
    rcases h with h | h | h | h
    · exact Nat.ne_of_lt a1 h
    · exact Nat.ne_of_lt a2 h
    · exact Nat.ne_of_lt a3 h
    · exact Nat.ne_of_lt a4 h
  · intro c hc
    have ge : s.heap.objs.size ≤ c := by
      simp only [List.mem_cons, List.not_mem_nil, or_false] at hc
      rcases hc with rfl | rfl | rfl | rfl <;> assumption
    cases e : h₀.get? c with
    | none => rfl
    | some o => exact absurd (Heap.lt_size (F.keep c o e)) (Nat.not_lt.mpr ge)
  · intro p hp hc
    have lt := Heap.lt_size (N p hp).1
    have ge : s.heap.objs.size ≤ p.1 := by
      simp only [List.mem_cons, List.not_mem_nil, or_false] at hc
      rcases hc with h | h | h | h <;> rw [h] <;> assumption
    exact absurd lt (Nat.not_lt.mpr ge)
theorem ZSrc.zip {scope : Scope} {cl : List (Str × Addr)} {a b : Str} {elt : Expr} {Fin : Shared → List Value → List (Addr × Obj) → Prop} {l1 l2 z TI TO i1 i2 : Addr} {xs ys : List Value} {news : List (Addr × Obj)} (J : Nat → List Value → Prop)
    (hh : A.handled = none) (F : Fr h₀ L s.heap m) (N : News h₀ L s.heap news) (ap : ZipApart z TI TO i1 i2 l1 l2)
    (st : IsZip s.heap z TI TO .none ∧ IsPair s.heap TI (.ref i1) (.ref i2) ∧ (∃ a b, IsPair s.heap TO a b) ∧ s.heap.IsListIter i1 l1 0 ∧ s.heap.IsListIter i2 l2 0 ∧ s.heap.IsList l1 xs.toArray ∧ s.heap.IsList l2 ys.toArray)
    (hL : L ∉ [z, TO, i1, i2]) (h0 : ∀ c ∈ [z, TO, i1, i2], h₀.get? c = none) (off : ∀ p ∈ news, p.1 ∉ [z, TO, i1, i2]) (hsz : min xs.length ys.length ≤ 100000) (hJ : J 0 [])
    (turn : ∀ C D, ZTurn prog w A h₀ L m (compEnvC scope cl C env) a b elt C D news s (min xs.length ys.length) (fun i x y => xs[i]? = some x ∧ ys[i]? = some y) J)
    (fin : ∀ zs, J (min xs.length ys.length) zs → Fin s zs news) :
    wpAny (model prog w) A (pyIter (.ref z)) (fun it s₂ => ZSrc prog w A h₀ L m env scope cl a b elt Fin it s₂) E s := by
  refine wpAny_pyIter_zip st.1 ?_
  have Wk := WalksT.zip2 (prog := prog) (w := w) hh z TI TO i1 i2 l1 l2 ap xs.toArray ys.toArray
  simp only [List.size_toArray] at Wk
  refine ⟨z, _, _, _, fun i x y => xs[i]? = some x ∧ ys[i]? = some y, _, _, news, J, rfl, ⟨Wk.sub, Wk.frame, fun i s Q E hi hst hQ => Wk.item i s Q E hi hst fun T vals h' tk hp => ?_, Wk.go, Wk.apart, Wk.done, Wk.self⟩, hsz, hh, ?_, ?_, hL, h0, F, N, off, hJ, turn, fin⟩
  · obtain ⟨x, y, e1, e2, e3⟩ := hp
    exact hQ T vals h' tk ⟨x, y, ⟨by simpa using e1, by simpa using e2⟩, e3⟩
  · exact st
  · intro c hc
    obtain ⟨s1, s2, ⟨_, _, s3⟩, ⟨_, s4, _⟩, ⟨_, s5, _⟩, ⟨_, s6, _⟩, ⟨_, s7, _⟩⟩ := st
    simp only [List.mem_cons, List.not_mem_nil, or_false] at hc
    rcases hc with rfl | rfl | rfl | rfl | rfl | rfl | rfl
    · exact Heap.lt_size s1
    · exact Heap.lt_size s2
    · exact Heap.lt_size s3
    · exact Heap.lt_size s4
    · exact Heap.lt_size s5
    · exact Heap.lt_size s6
    · exact Heap.lt_size s7
end
end
section
section
variable {prog : Program} {w : World} {A : Around} {E : Value → Shared → Prop} {s : Shared} {env : Env} {h₀ : Heap} {L : Addr} {m : Str → Option Value}
theorem one1c {x : Str} {px : Pos} {scope : Scope} {cl : List (Str × Addr)} {I C D c : Addr} {tk : Nat} {v : Value} {v₀ : Option Value} {h : Heap} {oI oC o : Obj} {ys : List Value} {rest : List (Addr × Obj)} {E₁ E₂ : Value → Shared → Prop} {Q : Unit → Shared → Prop}
    (hk : (compEnvC scope cl C env).scope.kind = .function) (hx : (compEnvC scope cl C env).kindOf x = some .cell) (hc : cl.lookup x = some c) (hd : o.data = .cell v₀)
    (off : LCg.Off3 I C D ((c, o) :: rest)) (offc : ∀ p ∈ rest, p.1 ≠ c) (F : Fr h₀ L h m) (N : News h₀ L h ((I, oI) :: (C, oC) :: (D, LCg.lst ys) :: (c, o) :: rest))
    (next : ∀ h' tk' o', o'.data = .cell (some v) → Fr h₀ L h' m → News h₀ L h' ((I, oI) :: (C, oC) :: (D, LCg.lst ys) :: (c, o') :: rest) → Q () { s with heap := h', toks := tk' }) :
    wpAny (model prog w) A (letOwnedTupleGo (.Name x px) (.ref I) v) (fun _ s₁ => wpAny (model prog w) A (assign (.Name x px) (compEnvC scope cl C env) v) Q E₁ s₁) E₂ { s with heap := h, toks := tk } := by
  refine wpAny_of_eq (rfl : letOwnedTupleGo (.Name x px) (.ref I) v = pure ()) ?_
  have zc := N (c, o) (List.mem_cons_of_mem _ (List.mem_cons_of_mem _ (List.mem_cons_of_mem _ List.mem_cons_self)))
  refine wpAny_assign_Name (wpAny_storeName_cell hk hx hc ⟨o, zc.1, hd⟩ fun h' hv hs => ?_)
  obtain ⟨o', ho', hd'⟩ := hv
  have oc := off.mem (c, o) List.mem_cons_self
  refine next h' _ o' hd' (F.change hs zc.2.1 zc.2.2) fun p hp => ?_
  rcases List.mem_cons.mp hp with rfl | hp
  · have q := N (I, oI) List.mem_cons_self
    exact ⟨hs.extBut _ _ (Ne.symm oc.1) q.1, q.2⟩
  · rcases List.mem_cons.mp hp with rfl | hp
    · have q := N (C, oC) (List.mem_cons_of_mem _ List.mem_cons_self)
      exact ⟨hs.extBut _ _ (Ne.symm oc.2.1) q.1, q.2⟩
    · rcases List.mem_cons.mp hp with rfl | hp
      · have q := N (D, LCg.lst ys) (List.mem_cons_of_mem _ (List.mem_cons_of_mem _ List.mem_cons_self))
        exact ⟨hs.extBut _ _ (Ne.symm oc.2.2) q.1, q.2⟩
      · rcases List.mem_cons.mp hp with rfl | hp
        · exact ⟨ho', zc.2⟩
        · have q := N p (List.mem_cons_of_mem _ (List.mem_cons_of_mem _ (List.mem_cons_of_mem _ (List.mem_cons_of_mem _ hp))))
          exact ⟨hs.extBut _ _ (offc p hp) q.1, q.2⟩
end
end
section
theorem compTurn_outer (elt t0 i0 t1 i1 : Expr) (scope : Scope) (pos : Pos) (it acc : Value) (env : Env) :
    compTurn (.ListComp elt [⟨t0, i0, [], 0⟩, ⟨t1, i1, [], 0⟩] scope pos) 0 it acc env = (do
      standAt i0.pos
      match ← pyNext it with
      | none => pure (.done .next)
      | some v =>
        letOwnedTupleGo t0 it v
        assign t0 env v
        let mut ok := true
        for c in ([] : List Expr) do
          if ok then ok ← isTrue c env (eval c env)
        if ok then
          let x ← eval i1 env
          standAt i1.pos
          let x ← foldedSetIterable i1 env x
          let _ ← runOwn (.compStart (.ListComp elt [⟨t0, i0, [], 0⟩, ⟨t1, i1, [], 0⟩] scope pos) 1 (← holding [x] (pyIter x)) acc env) env
        again (.compLoop (.ListComp elt [⟨t0, i0, [], 0⟩, ⟨t1, i1, [], 0⟩] scope pos) 0 it acc env)) := by rfl
theorem compTurn_inner (elt t0 i0 t1 i1 : Expr) (scope : Scope) (pos : Pos) (it acc : Value) (env : Env) :
    compTurn (.ListComp elt [⟨t0, i0, [], 0⟩, ⟨t1, i1, [], 0⟩] scope pos) 1 it acc env = (do
      standAt i1.pos
      match ← pyNext it with
      | none => pure (.done .next)
      | some v =>
        letOwnedTupleGo t1 it v
        assign t1 env v
        let mut ok := true
        for c in ([] : List Expr) do
          if ok then ok ← isTrue c env (eval c env)
        if ok then
          (do let _ ← call (.builtin "list.append") [acc, ← eval elt env])
        again (.compLoop (.ListComp elt [⟨t0, i0, [], 0⟩, ⟨t1, i1, [], 0⟩] scope pos) 1 it acc env)) := by rfl
section
variable {prog : Program} {w : World} {A : Around} {E : Value → Shared → Prop} {s : Shared} {env : Env} {h₀ : Heap} {L : Addr} {m : Str → Option Value}
inductive ITurn (h₀ : Heap) (L : Addr) (m : Str → Option Value) (s : Shared) (C D I : Addr) (oC oI : Obj) (ys : List Value) (base : List (Addr × Obj)) (J : Prop) (s₄ : Shared) : Prop
  | mk (h' : Heap) (tk' : Nat) (z1 : s₄ = { s with heap := h', toks := tk' }) (z2 : Fr h₀ L h' m) (z3 : News h₀ L h' ((C, oC) :: (D, LCg.lst ys) :: base)) (z4 : h'.get? I = some oI) (z5 : J) : ITurn h₀ L m s C D I oC oI ys base J s₄
theorem innerLoop {elt t0 i0 i1 : Expr} {x : Str} {px : Pos} {scope : Scope} {cl : List (Str × Addr)} {pos : Pos} {R : Result → Shared → Prop} {I C D ax : Addr} {vs : List Value} {ep : Nat} {base : List (Addr × Obj)} {oC : Obj} {m₂ : Str → Option Value} {ys₀ : List Value} (J : Nat → List Value → Prop)
    (hh : A.handled = none) (hkind : scope.kind = .function) (hx : scope.names.lookup x = some .local) (hsz : ys₀.length + vs.length ≤ 100000)
    (hit : s.heap.IsListIter I ax 0) (hax : (ax, W.listOf vs.toArray ep) ∈ base) (hIax : ax ≠ I) (hLI : L ≠ I) (hI₀ : h₀.get? I = none) (hIC : I ≠ C) (hID : I ≠ D) (hCD : C ≠ D) (hn : LCg.NsObj oC m₂) (F : Fr h₀ L s.heap m)
    (N : News h₀ L s.heap ((C, oC) :: (D, LCg.lst ys₀) :: base)) (off : ∀ p ∈ base, p.1 ≠ I ∧ p.1 ≠ C ∧ p.1 ≠ D) (hJ : J 0 ys₀)
    (turn : ∀ i v ys h tk oC m₂ oI, h.get? I = some oI → vs[i]? = some v → J i ys → LCg.NsObj oC m₂ → m₂ x = some v → Fr h₀ L h m → News h₀ L h ((C, oC) :: (D, LCg.lst ys) :: base) →
      wpAny (model prog w) A (eval elt (compEnvC scope cl C env)) (fun y s₄ => ITurn h₀ L m s C D I oC oI ys base (J (i + 1) (ys ++ [y])) s₄) (fun _ _ => False) { s with heap := h, toks := tk })
    (fin : ∀ h tk ys oC m₂, J vs.length ys → LCg.NsObj oC m₂ → Fr h₀ L h m → News h₀ L h ((C, oC) :: (D, LCg.lst ys) :: base) → R (.ok .next) { s with heap := h, toks := tk }) :
    codeAny (model prog w) A (.compLoop (.ListComp elt [⟨t0, i0, [], 0⟩, ⟨.Name x px, i1, [], 0⟩] scope pos) 1 (.ref I) (.ref D) (compEnvC scope cl C env)) R s := by
  have Wk := Walks.list (prog := prog) (w := w) hh I ax hIax vs.toArray
  have hz : vs.toArray.size = vs.length := by simp
  rw [hz] at Wk
  have keepF : ∀ h h', Fr h₀ L h m → (∀ c o, c ∉ [I] → h.get? c = some o → h'.get? c = some o) → Fr h₀ L h' m := fun h h' F hk => LCg.fr_but F hk hLI hI₀
  have keepN : ∀ h h' oC ys, News h₀ L h ((C, oC) :: (D, LCg.lst ys) :: base) → (∀ c o, c ∉ [I] → h.get? c = some o → h'.get? c = some o) → News h₀ L h' ((C, oC) :: (D, LCg.lst ys) :: base) := fun h h' oC ys N hk => LCg.news_but N hk (ncons (Ne.symm hIC) (ncons (Ne.symm hID) fun p hp => (off p hp).1))
  have isl : ∀ h oC ys, News h₀ L h ((C, oC) :: (D, LCg.lst ys) :: base) → h.IsList ax vs.toArray := fun h oC ys N => ⟨_, (N _ (List.mem_cons_of_mem _ (List.mem_cons_of_mem _ hax))).1, rfl, ep, rfl⟩
  refine codeAny_loop rfl
    (InnerInv h₀ L m s C D base vs.length (fun i ys h => ys.length ≤ ys₀.length + i ∧ h.IsListIter I ax i) J) ?_ (vs.length + 1)
    ⟨s.heap, s.toks, oC, m₂, 0, ys₀, rfl, Nat.zero_le _, rfl, ⟨Nat.le_refl _, hit⟩, hn, F, N, hJ⟩
  rintro k s' ⟨h, tk, oC, m₂, i, ys, rfl, hi, rfl, ⟨hyl, hit'⟩, hn', F', N', hJ'⟩
  show wpAny _ A ((compTurn (.ListComp elt [⟨t0, i0, [], 0⟩, ⟨.Name x px, i1, [], 0⟩] scope pos) 1 (.ref I) (.ref D) (compEnvC scope cl C env)).onRaise (fun x => do noteFrame x (compEnvC scope cl C env); theTreesLotGoes x)) _ _ _
  refine wpAny_noted ?_
  rw [compTurn_inner]
  refine wpAny_bind (wpAny_standAt (wpAny_bind ?_))
  generalize Code.compLoop _ _ _ _ _ = code; revert code; refine id ?_; intro code
  generalize notedBy _ _ _ _ = NE; revert NE; refine id ?_; intro NE
  by_cases hlt : i < vs.length
  · refine Wk.item i _ _ _ hlt ⟨hit', isl _ _ _ N'⟩ fun v h₁ tk₁ hP hst₁ hk₁ => ?_
    have F₁ := keepF _ _ F' hk₁
    have N₁ := keepN _ _ _ _ N' hk₁
    have hv : vs[i]? = some v := by simpa using hP
    refine wpAny_bind (wpAny_of_eq (rfl : letOwnedTupleGo (.Name x px) (.ref I) v = pure ()) ?_)
    have zC := N₁ (C, oC) List.mem_cons_self
    refine wpAny_bind (wpAny_assign_Name (wpAny_storeName_local (lookup_relabel_local hx) (hn'.ns zC.1) (fun h₃ hn₃ hs₃ => ?_) (by simp [compEnvC, relabel, hkind])))
    obtain ⟨oC', heC, hoC⟩ := LCg.ns_obj hn₃
    have F₃ := F₁.change hs₃ zC.2.1 zC.2.2
    have N₃ : News h₀ L h₃ ((C, oC') :: (D, LCg.lst ys) :: base) := nhead ⟨heC, zC.2⟩ (nkeep hs₃.extBut (ntail N₁) (ncons (Ne.symm hCD) fun p hp => (off p hp).2.1))
    obtain ⟨oI, heI, hI1, hI2⟩ := hst₁.1
    have heI₃ : h₃.get? I = some oI := hs₃.extBut _ _ hIC heI
    refine wpAny_bind ?_
    rw [show (forIn ([] : List Expr) true fun c r => if r = true then do let ok ← isTrue c (compEnvC scope cl C env) (eval c (compEnvC scope cl C env)); pure (ForInStep.yield ok) else pure (ForInStep.yield r)) = (pure true : Sem Bool) from rfl]
    refine wpAny_pure ?_
    simp only [if_true]
    refine wpAny_bind (wpAny_bind (wpAny_mono (turn i v ys h₃ _ oC' _ oI heI₃ hv hJ' hoC (by simp) F₃ N₃) (fun y s₄ t₄ => ?_) fun _ _ f => f.elim))
    obtain ⟨h₄, tk₄, rfl, F₄, N₄, hI₄, hJ₄⟩ := t₄
    have zD := N₄ (D, LCg.lst ys) (List.mem_cons_of_mem _ List.mem_cons_self)
    refine wpAny_bind (append_at (hsz := by show ys.toArray.size ≤ sizeLine; rw [List.size_toArray, show sizeLine = 16777216 from rfl]; (first | lia | omega)) zD.1 fun h₅ hs₅ hD₅ => ?_)
    exact wpAny_pure (wpAny_pure ⟨rfl, vs.length + 1 - (i + 1), tick hlt, h₅, tk₄, oC', _, i + 1, ys ++ [y], rfl, hlt, rfl, ⟨by rw [List.length_append, List.length_singleton]; (first | lia | omega), oI, hs₅.extBut _ _ hID hI₄, hI1, hI2⟩, hoC, F₄.change hs₅ zD.2.1 zD.2.2,
      nmove N₄ (hs₅.extBut _ _ hCD) (nhead ⟨hD₅.trans (congrArg some (LCg.lst_snoc ys y)), zD.2⟩ (nkeep hs₅.extBut (ntail (ntail N₄)) fun p hp => (off p hp).2.2)), hJ₄⟩)
  · obtain rfl : i = vs.length := by (first | lia | omega)
    refine Wk.done _ _ _ ⟨hit', isl _ _ _ N'⟩ fun h₁ tk₁ hk₁ => wpAny_pure ?_
    exact fin h₁ tk₁ ys oC m₂ hJ' hn' (keepF _ _ F' hk₁) (keepN _ _ _ _ N' hk₁)
end
section
variable {prog : Program} {w : World} {A : Around} {R : Result → Shared → Prop} {s : Shared}
theorem compStart_1 {elt t0 i0 t1 i1 : Expr} {scope : Scope} {pos : Pos} {it acc : Value} {env : Env}
    (h0 : codeAny (model prog w) A (.compLoop (.ListComp elt [⟨t0, i0, [], 0⟩, ⟨t1, i1, [], 0⟩] scope pos) 1 it acc env) R s)
    (h : wpAny (model prog w) A (pyIter it) (fun it' s' => codeAny (model prog w) A (.compLoop (.ListComp elt [⟨t0, i0, [], 0⟩, ⟨t1, i1, [], 0⟩] scope pos) 1 it' acc env) R s')
      (notedBy (model prog w) A env fun x s' => R (.error x) s') s) :
    codeAny (model prog w) A (.compStart (.ListComp elt [⟨t0, i0, [], 0⟩, ⟨t1, i1, [], 0⟩] scope pos) 1 it acc env) R s := by
  refine codeAny_of_tree ?_
  show wpAny _ _ ((compStart (.ListComp elt [⟨t0, i0, [], 0⟩, ⟨t1, i1, [], 0⟩] scope pos) 1 it acc env).onRaise (fun x => do noteFrame x env; standAt theWindowsPlace)) _ _ s
  refine wpAny_notedAt ?_
  unfold compStart
  show wpAny _ _ (ask >>= _) _ _ s
  refine wpAny_bind (wpAny_askSetting (wpAny_ite ?_))
  split
  · first
      | exact wpAny_bind (wpAny_pure (wpAny_pure (And.intro rfl h0)))
      | exact wpAny_pure (And.intro rfl h0)
  · first
      | exact wpAny_bind (wpAny_rule (wpAny_bind (wpAny_standAt (wpAny_bind (wpAny_mono h (fun it' s' h' => wpAny_pure (And.intro rfl h')) fun _ _ x => x)))))
      | (refine wpAny_bind (wpAny_rule ?_); show wpAny _ _ (standAt i1.pos >>= _) _ _ s; exact wpAny_bind (wpAny_standAt (wpAny_bind (wpAny_mono h (fun it' s' h' => wpAny_pure (And.intro rfl h')) fun _ _ x => x))))
end
end
section
section
variable {prog : Program} {w : World} {A : Around} {E : Value → Shared → Prop} {s : Shared} {env : Env} {h₀ : Heap} {L : Addr} {m : Str → Option Value}
inductive OTurn (h₀ : Heap) (L : Addr) (m : Str → Option Value) (s : Shared) (C D : Addr) (oC : Obj) (ys : List Value) (base : List (Addr × Obj)) (J : Prop) (s₄ : Shared) : Prop
  | mk (h' : Heap) (tk' : Nat) (z1 : s₄ = { s with heap := h', toks := tk' }) (z2 : Fr h₀ L h' m) (z3 : News h₀ L h' ((C, oC) :: (D, LCg.lst ys) :: base)) (z5 : J) : OTurn h₀ L m s C D oC ys base J s₄
inductive T3End (h₀ : Heap) (L : Addr) (m : Str → Option Value) (s : Shared) (C D I : Addr) (oI : Obj) (ys : List Value) (base : List (Addr × Obj)) (x₃ : Str) (la : Addr) (s₄ : Shared) : Prop
  | mk (h' : Heap) (tk' : Nat) (oC' : Obj) (m' : Str → Option Value) (z1 : s₄ = { s with heap := h', toks := tk' }) (z2 : LCg.NsObj oC' m') (z3 : m' x₃ = some (.ref la)) (z4 : Fr h₀ L h' m) (z5 : News h₀ L h' ((I, oI) :: (C, oC') :: (D, LCg.lst ys) :: base)) :
    T3End h₀ L m s C D I oI ys base x₃ la s₄
theorem outerLp {elt i0 : Expr} {x₁ x₂ x₃ x : Str} {p₁ p₂ p₃ tp px pi : Pos} {kk : Nat} {scope : Scope} {cl : List (Str × Addr)} {pos : Pos} {R : Result → Shared → Prop} {I C D ax : Addr} {f : Nat → Value × Tr} {n ep : Nat} {base : List (Addr × Obj)} {oC : Obj} {m₂ : Str → Option Value} (J : Nat → List Value → Prop) (K : Nat → Nat → List Value → Prop)
    (hh : A.handled = none) (hkind : scope.kind = .function) (hx₁ : scope.names.lookup x₁ = some .local) (hx₂ : scope.names.lookup x₂ = some .local) (hx₃ : scope.names.lookup x₃ = some .local) (hx : scope.names.lookup x = some .local) (d12 : x₁ ≠ x₂) (d13 : x₁ ≠ x₃) (d23 : x₂ ≠ x₃)
    (hdb : (x₃ == ("__debug__" : Str)) = false)
    (hit : s.heap.IsListIter I ax 0) (hax : (ax, W.listOf (vals f n).toArray ep) ∈ base) (hT : ∀ i, i < n → TreeIn base (f i).1 (f i).2) (hIax : ax ≠ I) (hLI : L ≠ I) (hI₀ : h₀.get? I = none) (hIC : I ≠ C) (hID : I ≠ D) (hCD : C ≠ D) (hn : LCg.NsObj oC m₂) (F : Fr h₀ L s.heap m)
    (N : News h₀ L s.heap ((C, oC) :: (D, LCg.lst []) :: base)) (off : ∀ p ∈ base, p.1 ≠ I ∧ p.1 ≠ C ∧ p.1 ≠ D) (hJ : J 0 [])
    (hK0 : ∀ i ys, J i ys → K i 0 ys) (hK1 : ∀ i ys, i < n → K i (f i).2.ps.length ys → J (i + 1) ys) (hlen : ∀ i j ys, K i j ys → ys.length ≤ 50000) (hps : ∀ i, i < n → (f i).2.ps.length ≤ 50000)
    (turn : ∀ i j q t ys s' oC m₂ RR, (∀ p ∈ base, p ∈ RR) → i < n → (f i).2.ps[j]? = some q → K i j ys → LCg.NsObj oC m₂ → m₂ x = some (.str q t) → Fr h₀ L s'.heap m → News h₀ L s'.heap ((C, oC) :: (D, LCg.lst ys) :: RR) →
      wpAny (model prog w) A (eval elt (compEnvC scope cl C env)) (fun y s₄ => OTurn h₀ L m s' C D oC ys RR (K i (j + 1) (ys ++ [y])) s₄) (fun _ _ => False) s')
    (fin : ∀ h tk ys oC m₂, J n ys → LCg.NsObj oC m₂ → Fr h₀ L h m → News h₀ L h ((C, oC) :: (D, LCg.lst ys) :: base) → R (.ok .next) { s with heap := h, toks := tk }) :
    codeAny (model prog w) A (.compLoop (.ListComp elt [⟨.Tuple [.Name x₁ p₁, .Name x₂ p₂, .Name x₃ p₃] kk tp, i0, [], 0⟩, ⟨.Name x px, .Name x₃ pi, [], 0⟩] scope pos) 0 (.ref I) (.ref D) (compEnvC scope cl C env)) R s := by
  have Wk := Walks.list (prog := prog) (w := w) hh I ax hIax (vals f n).toArray
  have hz : (vals f n).toArray.size = n := by simp [vals_length]
  rw [hz] at Wk
  have keepF : ∀ h h', Fr h₀ L h m → (∀ c o, c ∉ [I] → h.get? c = some o → h'.get? c = some o) → Fr h₀ L h' m := fun h h' F hk => LCg.fr_but F hk hLI hI₀
  have keepN : ∀ h h' oC ys, News h₀ L h ((C, oC) :: (D, LCg.lst ys) :: base) → (∀ c o, c ∉ [I] → h.get? c = some o → h'.get? c = some o) → News h₀ L h' ((C, oC) :: (D, LCg.lst ys) :: base) := fun h h' oC ys N hk => LCg.news_but N hk (ncons (Ne.symm hIC) (ncons (Ne.symm hID) fun p hp => (off p hp).1))
  have isl : ∀ h oC ys, News h₀ L h ((C, oC) :: (D, LCg.lst ys) :: base) → h.IsList ax (vals f n).toArray := fun h oC ys N => ⟨_, (N _ (List.mem_cons_of_mem _ (List.mem_cons_of_mem _ hax))).1, rfl, ep, rfl⟩
  refine codeAny_loop rfl
    (InnerInv h₀ L m s C D base n (fun i _ h => h.IsListIter I ax i) J) ?_ (n + 1)
    ⟨s.heap, s.toks, oC, m₂, 0, [], rfl, Nat.zero_le _, rfl, hit, hn, F, N, hJ⟩
  rintro k s' ⟨h, tk, oC, m₂, i, ys, rfl, hi, rfl, hit', hn', F', N', hJ'⟩
  show wpAny _ A ((compTurn (.ListComp elt [⟨.Tuple [.Name x₁ p₁, .Name x₂ p₂, .Name x₃ p₃] kk tp, i0, [], 0⟩, ⟨.Name x px, .Name x₃ pi, [], 0⟩] scope pos) 0 (.ref I) (.ref D) (compEnvC scope cl C env)).onRaise (fun x => do noteFrame x (compEnvC scope cl C env); theTreesLotGoes x)) _ _ _
  refine wpAny_noted ?_
  rw [compTurn_outer]
  refine wpAny_bind (wpAny_standAt (wpAny_bind ?_))
  generalize Code.compLoop _ _ _ _ _ = code; revert code; refine id ?_; intro code
  generalize notedBy _ _ _ _ = NE; revert NE; refine id ?_; intro NE
  by_cases hlt : i < n
  · refine Wk.item i _ _ _ hlt ⟨hit', isl _ _ _ N'⟩ fun v h₁ tk₁ hP hst₁ hk₁ => ?_
    have F₁ := keepF _ _ F' hk₁
    have N₁ := keepN _ _ _ _ N' hk₁
    have hv : v = (f i).1 := by
      have : (vals f n)[i]? = some v := by simpa using hP
      rw [vals, lst_get hlt] at this; exact (Option.some.inj this).symm
    obtain ⟨a, t1, t2, la, q1, q2, its, e, hm1, hm2, hm3⟩ := hT i hlt
    rw [e] at hv
    subst hv
    obtain ⟨oI, heI, hI1, hI2⟩ := hst₁.1
    have N₂ : News h₀ L h₁ ((I, oI) :: (C, oC) :: (D, LCg.lst ys) :: base) := nhead ⟨heI, Ne.symm hLI, hI₀⟩ N₁
    refine wpAny_bind (wpAny_mono (tup3 (scope := scope) (cl := cl) (env := env) (s := { s with heap := h, toks := tk }) (E₁ := fun _ _ => False) (E₂ := fun _ _ => False) hh hkind hx₁ hx₂ hx₃ d12 d13 d23 hst₁.1 hm1 (LCg.Off3.of off) ⟨hIC, hID, hCD⟩ hn' F₁ N₂ (Q := fun _ s₂ => T3End h₀ L m s C D I oI ys base x₃ la s₂) fun h' tk' oC' m' hn3 e1 e2 e3 F3 N3 => ⟨h', tk', oC', m', rfl, hn3, e3, F3, N3⟩) (fun _ s₁ t₁ => ?_) fun _ _ f => f.elim)
    refine wpAny_bind (wpAny_mono t₁ (fun _ s₂ t₂ => ?_) fun _ _ f => f.elim)
    obtain ⟨h₃, tk₃, oC₃, m₃, rfl, hn₃, e3, F₃, N₃⟩ := t₂
    refine wpAny_bind ?_
    rw [show (forIn ([] : List Expr) true fun c r => if r = true then do let ok ← isTrue c (compEnvC scope cl C env) (eval c (compEnvC scope cl C env)); pure (ForInStep.yield ok) else pure (ForInStep.yield r)) = (pure true : Sem Bool) from rfl]
    refine wpAny_pure ?_
    simp only [if_true]
    have zC := N₃ (C, oC₃) (List.mem_cons_of_mem _ List.mem_cons_self)
    refine wpAny_bind (wpAny_Name (wpAny_loadName_local (by simp [compEnvC, relabel, hkind]) (lookup_relabel_local hx₃) (hn₃.ns zC.1) e3 ?_) hdb)
    refine wpAny_bind (wpAny_standAt (wpAny_bind (wpAny_of_eq (a := .ref la) (by rfl) (wpAny_bind (wpAny_holding ?_)))))
    have hmla : (la, W.listOf its.toArray q2) ∈ base := hm2
    have hla : h₃.IsList la its.toArray := ⟨_, (N₃ _ (List.mem_cons_of_mem _ (List.mem_cons_of_mem _ (List.mem_cons_of_mem _ hm2)))).1, rfl, q2, rfl⟩
    refine wpAny_pyIter_list hla ?_
    refine wpAny_bind (wpAny_runOwn ?_)
    have up : ∀ b o, h₃.get? b = some o → (h₃.push { cls := .type "list_iterator", data := .fields #[.ref la, .int 0 0] }).get? b = some o := fun b o e => Heap.get?_push_of_some _ e
    have lt4 : ∀ p ∈ (I, oI) :: (C, oC₃) :: (D, LCg.lst ys) :: base, p.1 ≠ h₃.objs.size := fun p hp => Nat.ne_of_lt (Heap.lt_size (N₃ p hp).1)
    have N₄ := N₃.grown up
    have dlt : ∀ j v, its[j]? = some v → ∃ q t, (f i).2.ps[j]? = some q ∧ v = Value.str q t := fun j v hv => by
      obtain ⟨pa, tp, hpa, e⟩ := StrsAre.at hm3 hv
      exact ⟨pa, tp, hpa, e⟩
    have hil : its.length = (f i).2.ps.length := StrsAre.len hm3
    have loop : ∀ R', (∀ h tk ys oC m₂, K i its.length ys → LCg.NsObj oC m₂ → Fr h₀ L h m → News h₀ L h ((C, oC) :: (D, LCg.lst ys) :: (I, oI) :: base) → R' (.ok .next) { s with heap := h, toks := tk }) →
        codeAny (model prog w) A (.compLoop (.ListComp elt [⟨.Tuple [.Name x₁ p₁, .Name x₂ p₂, .Name x₃ p₃] kk tp, i0, [], 0⟩, ⟨.Name x px, .Name x₃ pi, [], 0⟩] scope pos) 1 (.ref h₃.objs.size) (.ref D) (compEnvC scope cl C env)) R' { s with heap := h₃.push { cls := .type "list_iterator", data := .fields #[.ref la, .int 0 0] }, toks := tk₃ } := fun R' hfin => by
      refine innerLoop (vs := its) (ep := q2) (ax := la) (base := (I, oI) :: base) (oC := oC₃) (m₂ := m₃) (ys₀ := ys) (K i) hh hkind hx ?_ ⟨_, Heap.get?_push_size _ rfl, rfl, rfl⟩ (List.mem_cons_of_mem _ hm2) ?_ (Nat.ne_of_lt F₃.ns.lt) (next_is_new F₃) ?_ ?_ hCD hn₃ (F₃.push _) ?_ ?_ (hK0 _ _ hJ') ?_ ?_
      · have := hlen i 0 ys (hK0 _ _ hJ'); have := hps i hlt; (first | lia | omega)
      · exact lt4 (la, _) (List.mem_cons_of_mem _ (List.mem_cons_of_mem _ (List.mem_cons_of_mem _ hm2)))
      · exact Ne.symm (lt4 (C, oC₃) (List.mem_cons_of_mem _ List.mem_cons_self))
      · exact Ne.symm (lt4 (D, LCg.lst ys) (List.mem_cons_of_mem _ (List.mem_cons_of_mem _ List.mem_cons_self)))
      · exact News.sub N₄ pm7
      · intro p hp
        rcases List.mem_cons.mp hp with rfl | hp
        · exact ⟨lt4 _ List.mem_cons_self, hIC, hID⟩
        · exact ⟨lt4 p (List.mem_cons_of_mem _ (List.mem_cons_of_mem _ (List.mem_cons_of_mem _ hp))), (off p hp).2.1, (off p hp).2.2⟩
      · intro j v zs h tk oC m₂ o2 ho2 hv hJ₂ hn₂ hxv F₂ N₂
        obtain ⟨q, t, hq, rfl⟩ := dlt j v hv
        have N₅ : News h₀ L h ((C, oC) :: (D, LCg.lst zs) :: (h₃.objs.size, o2) :: (I, oI) :: base) := nhead (nfst N₂) (nhead (nfst (ntail N₂)) (nhead ⟨ho2, Ne.symm (Nat.ne_of_lt F₃.ns.lt), next_is_new F₃⟩ (ntail (ntail N₂))))
        refine wpAny_mono (turn i j q t zs { s with heap := h, toks := tk } oC m₂ _ (fun p hp => List.mem_cons_of_mem _ (List.mem_cons_of_mem _ hp)) hlt hq hJ₂ hn₂ hxv F₂ N₅) (fun y s₄ t₄ => ?_) fun _ _ f => f
        obtain ⟨h', tk', rfl, F', N', hK'⟩ := t₄
        exact ⟨h', tk', rfl, F', News.sub N' pm8, (N' (h₃.objs.size, o2) (List.mem_cons_of_mem _ (List.mem_cons_of_mem _ List.mem_cons_self))).1, hK'⟩
      · intro h tk zs oC m₂ hJ₂ hn₂ F₂ N₂
        exact hfin h tk zs oC m₂ hJ₂ hn₂ F₂ N₂
    refine compStart_1 (A := A) (loop _ ?fin) (wpAny_pyIter_listiter ⟨_, Heap.get?_push_size _ rfl, rfl, rfl⟩ (loop _ ?fin))
    intro h₅ tk₅ zs oC₅ m₅ hJ₅ hn₅ F₅ N₅
    exact wpAny_pure ⟨rfl, n + 1 - (i + 1), tick hlt, h₅, tk₅, oC₅, m₅, i + 1, zs, rfl, hlt, rfl, ⟨oI, (N₅ (I, oI) (List.mem_cons_of_mem _ (List.mem_cons_of_mem _ List.mem_cons_self))).1, hI1, hI2⟩, hn₅, F₅, News.sub N₅ pm8, hK1 i zs hlt (by rw [← hil]; exact hJ₅)⟩
  · obtain rfl : i = n := by (first | lia | omega)
    refine Wk.done _ _ _ ⟨hit', isl _ _ _ N'⟩ fun h₁ tk₁ hk₁ => wpAny_pure ?_
    exact fin h₁ tk₁ ys oC m₂ hJ' hn' (keepF _ _ F' hk₁) (keepN _ _ _ _ N' hk₁)
end
section
variable {prog : Program} {w : World} {A : Around} {E : Value → Shared → Prop} {s : Shared} {env : Env} {h₀ : Heap} {L : Addr} {m : Str → Option Value}
inductive CSrc2 (prog : Program) (w : World) (A : Around) (h₀ : Heap) (L : Addr) (m : Str → Option Value) (env : Env) (scope : Scope) (cl : List (Str × Addr)) (x : Str) (elt : Expr) (Q : Value → Shared → Prop) (xv : Value) (s₁ : Shared) : Prop
  | mk (ax : Addr) (f : Nat → Value × Tr) (n ep : Nat) (base : List (Addr × Obj)) (J : Nat → List Value → Prop) (K : Nat → Nat → List Value → Prop)
    (z1 : xv = .ref ax)
    (z2 : (ax, W.listOf (vals f n).toArray ep) ∈ base)
    (z3 : (∀ i, i < n → TreeIn base (f i).1 (f i).2))
    (z4 : Fr h₀ L s₁.heap m)
    (z5 : News h₀ L s₁.heap base)
    (z6 : J 0 [])
    (z7 : (∀ i ys, J i ys → K i 0 ys))
    (z8 : (∀ i ys, i < n → K i (f i).2.ps.length ys → J (i + 1) ys))
    (z9 : (∀ i j ys, K i j ys → ys.length ≤ 50000))
    (z10 : (∀ i, i < n → (f i).2.ps.length ≤ 50000))
    (z11 : (∀ C D i j q t ys s' oC m₂ RR, (∀ p ∈ base, p ∈ RR) → i < n → (f i).2.ps[j]? = some q → K i j ys → LCg.NsObj oC m₂ → m₂ x = some (.str q t) → Fr h₀ L s'.heap m → News h₀ L s'.heap ((C, oC) :: (D, LCg.lst ys) :: RR) → wpAny (model prog w) A (eval elt (compEnvC scope cl C env)) (fun y s₄ => OTurn h₀ L m s' C D oC ys RR (K i (j + 1) (ys ++ [y])) s₄) (fun _ _ => False) s'))
    (z12 : ∀ ys D h tk, J n ys → Fr h₀ L h m → News h₀ L h ((D, LCg.lst ys) :: base) → (∀ p ∈ base, p.1 ≠ D) → Q (.ref D) { s₁ with heap := h, toks := tk }) : CSrc2 prog w A h₀ L m env scope cl x elt Q xv s₁
theorem ListComp2 {elt i0 : Expr} {x₁ x₂ x₃ x : Str} {p₁ p₂ p₃ tp px pi : Pos} {kk : Nat} {scope : Scope} {cl : List (Str × Addr)} {pos : Pos} {Q : Value → Shared → Prop} (_F : Fr h₀ L s.heap m)
    (hh : A.handled = none) (hclos : closureFor scope env = pure cl) (hcell : ∀ y ∈ scope.names, y.2 ≠ .cell) (hkind : scope.kind = .function)
    (hnames : ∀ y ∈ scope.names, y.2 = .local → scope.names.lookup y.1 = some .local)
    (hx₁ : scope.names.lookup x₁ = some .local) (hx₂ : scope.names.lookup x₂ = some .local) (hx₃ : scope.names.lookup x₃ = some .local) (hx : scope.names.lookup x = some .local) (d12 : x₁ ≠ x₂) (d13 : x₁ ≠ x₃) (d23 : x₂ ≠ x₃)
    (hdb : (x₃ == ("__debug__" : Str)) = false)
    (h : wpAny (model prog w) A (eval i0 env) (fun xv s₁ => CSrc2 prog w A h₀ L m env scope cl x elt Q xv s₁) E s)
    (hs : ∀ x, foldedSetIterable i0 env x = pure x) :
    wpAny (model prog w) A (eval (.ListComp elt [⟨.Tuple [.Name x₁ p₁, .Name x₂ p₂, .Name x₃ p₃] kk tp, i0, [], 0⟩, ⟨.Name x px, .Name x₃ pi, [], 0⟩] scope pos) env) Q E s := by
  rw [eval_ListComp]
  refine wpAny_comprehension_free (use := none) rfl hs hclos hkind hnames (wpAny_mono h (fun xv s₁ h₁ => ?_) fun _ _ e => e)
  obtain ⟨ax, f, n, ep, base, J, K, rfl, hax, hT, F, N, hJ, hK0, hK1, hlen, hps, turn, fin⟩ := h₁
  have hl : s₁.heap.IsList ax (vals f n).toArray := ⟨_, (N _ hax).1, rfl, ep, rfl⟩
  have hlt : ax < s₁.heap.objs.size := Heap.lt_size (N _ hax).1
  refine wpAny_pyIter_list hl ?_
  refine wpAny_newObj_type (CMade.plain hcell hkind _ _ _ fun h₁ tk₁ hns₁ up₁ hx₁' => ?_)
  clear hx₁'
  dsimp only at hns₁ up₁ ⊢
  generalize hH1 : s₁.heap.push { cls := .type "list_iterator", data := .fields #[.ref ax, .int 0 0] } = H1 at hns₁ up₁ ⊢
  generalize hH2 : H1.push { cls := .type "list", dict := none, data := .seq ([] : List Value).toArray } = H2 at hns₁ up₁ ⊢
  have sz1 : H1.objs.size = s₁.heap.objs.size + 1 := by rw [← hH1, Heap.size_push]
  have sz2 : H2.objs.size = s₁.heap.objs.size + 2 := by rw [← hH2, Heap.size_push, sz1]
  have up0 : ∀ b o, s₁.heap.get? b = some o → H1.get? b = some o := fun b o e => hH1 ▸ Heap.get?_push_of_some _ e
  have upp : ∀ b o, H1.get? b = some o → h₁.get? b = some o := fun b o e => up₁ b o (hH2 ▸ Heap.get?_push_of_some _ e)
  have old : ∀ b o, s₁.heap.get? b = some o → h₁.get? b = some o := fun b o e => upp b o (up0 b o e)
  have hIt : h₁.get? s₁.heap.objs.size = some { cls := .type "list_iterator", data := .fields #[.ref ax, .int 0 0] } := upp _ _ (hH1 ▸ Heap.get?_push_size _ rfl)
  have hacc : h₁.get? H1.objs.size = some (LCg.lst []) := up₁ _ _ (hH2 ▸ Heap.get?_push_size _ rfl)
  have fresh₀ : ∀ a : Nat, s₁.heap.objs.size ≤ a → h₀.get? a = none := fun a ha => by
    cases e : h₀.get? a with
    | none => rfl
    | some o' => have q : @LT.lt Nat _ a s₁.heap.objs.size := Heap.lt_size (F.keep a o' e); (first | lia | omega)
  have hLlt : @LT.lt Nat _ L s₁.heap.objs.size := F.ns.lt
  have blt : ∀ p ∈ base, @LT.lt Nat _ p.1 s₁.heap.objs.size := fun p hp => Heap.lt_size (N p hp).1
  obtain ⟨oC, heC, hnC⟩ := LCg.ns_obj hns₁
  have nIC : (@Ne Nat s₁.heap.objs.size H2.objs.size) := by (first | lia | omega)
  have nID : (@Ne Nat s₁.heap.objs.size H1.objs.size) := by (first | lia | omega)
  have nCD : (@Ne Nat H2.objs.size H1.objs.size) := by (first | lia | omega)
  have nCL : (@Ne Nat H2.objs.size L) := by (first | lia | omega)
  have nDL : (@Ne Nat H1.objs.size L) := by (first | lia | omega)
  have hC₀ : h₀.get? H2.objs.size = none := fresh₀ _ (by (first | lia | omega))
  have hD₀ : h₀.get? H1.objs.size = none := fresh₀ _ (by (first | lia | omega))
  have N₀ : News h₀ L h₁ ((H2.objs.size, oC) :: (H1.objs.size, LCg.lst []) :: base) := fun p hp => by
    rcases List.mem_cons.mp hp with rfl | hp
    · exact ⟨heC, nCL, hC₀⟩
    · rcases List.mem_cons.mp hp with rfl | hp
      · exact ⟨hacc, nDL, hD₀⟩
      · exact ⟨old _ _ (N p hp).1, (N p hp).2⟩
  have off : ∀ p ∈ base, p.1 ≠ s₁.heap.objs.size ∧ p.1 ≠ H2.objs.size ∧ p.1 ≠ H1.objs.size := fun p hp => by
    have := blt p hp
    refine ⟨?_, ?_, ?_⟩
    · exact Nat.ne_of_lt this
    · exact Nat.ne_of_lt (Nat.lt_of_lt_of_le this (by (first | lia | omega)))
    · exact Nat.ne_of_lt (Nat.lt_of_lt_of_le this (by (first | lia | omega)))
  have loop : codeAny (model prog w) A (.compLoop (.ListComp elt [⟨.Tuple [.Name x₁ p₁, .Name x₂ p₂, .Name x₃ p₃] kk tp, i0, [], 0⟩, ⟨.Name x px, .Name x₃ pi, [], 0⟩] scope pos) 0 (.ref s₁.heap.objs.size) (.ref H1.objs.size) (compEnvC scope cl H2.objs.size env))
      (compPost (model prog w) A E none Q (.ref H1.objs.size) H2.objs.size) { s₁ with heap := h₁, toks := tk₁ } := by
    refine outerLp (f := f) (ax := ax) (ep := ep) (base := base) J K hh hkind hx₁ hx₂ hx₃ hx d12 d13 d23 hdb ⟨_, hIt, rfl, rfl⟩ hax hT (Nat.ne_of_lt hlt) (Nat.ne_of_lt hLlt) (fresh₀ _ (Nat.le_refl _)) nIC nID nCD hnC (F.keeps old) N₀ off hJ hK0 hK1 hlen hps ?_ ?_
    · exact turn H2.objs.size H1.objs.size
    · intro h tk ys oC' m₂ hJn hn' F' N'
      refine ⟨m₂, hn'.ns (N' _ List.mem_cons_self).1, fun h'' hs'' => ?_⟩
      refine fin ys _ h'' tk hJn (F'.change hs'' nCL hC₀) (fun p hp => ?_) fun p hp => (off p hp).2.2
      have q := N' p (List.mem_cons_of_mem _ hp)
      refine ⟨hs''.extBut _ _ ?_ q.1, q.2⟩
      rcases List.mem_cons.mp hp with rfl | hp
      · exact Ne.symm nCD
      · exact (off p hp).2.1
  exact codeAny_compStart_list loop (wpAny_pyIter_listiter ⟨_, hIt, rfl, rfl⟩ loop)
end
end
theorem off_S1 : True := by
  w_top off
  trivial
section
inductive SdJ (ha : Addr) (ep sp N : Nat) (t1 : Tok) (f : Nat → Value × Tr) (x : Value) (rest : List (Addr × Obj)) (n : Nat) (m : Str → Option Value) (news : List (Addr × Obj)) : Prop
  | mk (pos : Nat) (g : Nat → Value × Tr) (its : List Value) (tk : Tok)
    (z1 : n = pos)
    (z2 : pos < N)
    (z3 : Desc sp pos)
    (z4 : PreSD key g N sp pos)
    (z5 : (lst g N).Perm (lst f N))
    (z6 : Trees rest g N)
    (z7 : news = (ha, W.listOf its.toArray ep) :: rest)
    (z8 : its.length = N)
    (z9 : its.set pos x = vals g N)
    (z10 : (g pos).1 = x)
    (z11 : m = ovr [(Str.ofString "heap", .ref ha), (Str.ofString "startpos", .int sp t1), (Str.ofString "newitem", x), (Str.ofString "pos", .int pos tk)] m) : SdJ ha ep sp N t1 f x rest n m news
set_option maxHeartbeats 4000000 in
theorem sd_spec {w : World} {A : Around} {s : Shared} {b0 : Heap} {L : Addr} {m mg mb : Str → Option Value} {mean : ExcName → Option Value} {p : Program} {loose : List Str} {rest : List (Addr × Obj)}
  (R : Room A 3) (X : (Mine.heapK w.params).In b0) (T : Top p loose mean mg mb b0) (F : Fr b0 L s.heap m) {ha : Addr} {f : Nat → Value × Tr} {ep N : Nat} (hN : N ≤ 64)
  (Nw : News b0 L s.heap ((ha, W.listOf (vals f N).toArray ep) :: rest)) (hne : ∀ q ∈ rest, q.1 ≠ ha) {sp pos : Nat} {t1 t2 : Tok} {Q E : Value → Shared → Prop}
  (hT : Trees rest f N) (hp : pos < N) (hd : Desc sp pos) (hpre : PreSD key f N sp pos)
  (ret : ∀ f' h' tk', Fr b0 L h' m → News b0 L h' ((ha, W.listOf (vals f' N).toArray ep) :: rest) → (lst f' N).Perm (lst f N) → Trees rest f' N → Heapy key f' N sp → Q .none { s with heap := h', toks := tk' }) :
  wpAny (model PySem.Challenge.rw_ik0182_01.row.prog w) A (call (.ref 49) [.ref ha, .int sp t1, .int pos t2]) Q E s := by
  obtain ⟨hh, dp, fr, gd, un⟩ := A
  have RR := R
  obtain ⟨hd', hdp, hun⟩ := R
  cases hd'
  revert X; k_fill; intro X
  refine wpAny_call ?_
  k_dflt (refine' enter (binds := [(Str.ofString "heap", .ref ha), (Str.ofString "startpos", .int sp t1), (Str.ofString "pos", .int pos t2)]) ?F ?X ?N ?T ?ho ?hcd ?room ?bind ?loc ?_ ?c1 ?c2 ?c3 ?c4)
  (((case F => k_asm); (case X => k_asm); (case N => k_asm); (case T => k_asm); (case ho => k_is); (case hcd => k_is); (case room => exact Room.room (by assumption)); (case bind => exact BindsTo.of_eq rfl); (case loc => exact locs rfl); (case c1 => exact rfl); (case c2 => exact rfl); (case c3 => exact rfl); (case c4 => decide)))
  intro g L' h₁ FG F' N' X' T' lt'
  try dsimp only
  try k_fold
  refine let_env (B := execs _) RR ?_
  intro tk0 env A1 RA
  have hx0 : (vals f N)[pos]? = some (f pos).1 := lst_get hp
  generalize hx : (f pos).1 = x at *
  (repeat' (first | (k_unfold; (try dsimp only)) | (k_end; wrow_close) | ((((fail_if_success (with_reducible show wpAny _ _ (exec (Stmt.While _ _ _ _) _) _ _ _)); (fail_if_success (with_reducible show wpAny _ _ (exec (Stmt.For _ _ _ _ _) _) _ _ _)))); (first | with_reducible (k_here; (with_reducible show wpAny _ _ (call (Value.builtin _) [Value.str _ _, Value.ref _]) _ _ _); (refine join_my (by k_asm) (by with_reducible assumption) (by decide) (by with_reducible assumption) ?_); intro _ _) | with_reducible (k_here; (with_reducible show wpAny _ _ (call (Value.builtin "issubclass") _) _ _ _); (k_here; (refine issub_my (by k_asm) ?_))) | with_reducible (k_here; (with_reducible show wpAny _ _ (truthy (Value.ref _)) _ _ _); (refine truthy_my (by k_asm) (by (first | lia | omega)) ?_); intro _) | with_reducible (k_here; (with_reducible show wpAny _ _ (call (Value.builtin _) [Value.ref _]) _ _ _); (refine pop_my (by k_asm) (by k_asm) (by with_reducible assumption) (by (first | lia | omega)) (by with_reducible assumption) ?_); intro _ _ _ _) | with_reducible (k_here; (with_reducible show wpAny _ _ (call (Value.builtin _) [Value.ref _, _]) _ _ _); (refine append_my (by k_asm) (by k_asm) (by with_reducible assumption) (by (first | lia | omega)) (by first | with_reducible assumption | exact rfl) ?_); intro _ _ _) | with_reducible (k_here; (with_reducible show wpAny _ _ (call (Value.builtin "len") [Value.ref _]) _ _ _); (refine len_at (by k_asm) (by with_reducible assumption) (by (first | lia | omega)) ?_); intro _ _) | with_reducible (k_here; (with_reducible show wpAny _ _ (setItem (Value.ref _) (Value.int _ _) _) _ _ _); (k_here; (first | (refine set_at (by k_asm) (by k_asm) (by with_reducible assumption) (by (first | lia | omega)) (by (first | lia | omega)) ?_) | (refine set_atZ (by k_asm) (by k_asm) (by with_reducible assumption) (by (first | lia | omega)) (by (first | lia | omega)) (by (first | lia | omega)) ?_)); intro _ _ _)) | with_reducible (k_here; (with_reducible show wpAny _ _ (binaryOp Operator.RShift _ _) _ _ _); (k_here; (refine half_at (by (first | lia | omega)) ?_); intro _ _)) | with_reducible (k_here; (with_reducible show wpAny _ _ (compareOp CmpOp.Lt _ _) _ _ _); (k_here; (refine lt_trees (Room.unitsD (by assumption)) (by k_asm) (by with_reducible assumption) (by intro q hq; exact List.mem_cons_of_mem _ hq) (by (first | lia | omega)) (by (first | lia | omega)) (by (first | lia | omega)) ?_); intro _)) | with_reducible (k_here; (with_reducible show wpAny _ _ (subscriptTail _ _ (Value.ref _) (Value.int _ _)) _ _ _); (k_here; (first | (refine get_at (by k_asm) (by (first | lia | omega)) (by with_reducible assumption) ?_ (by with_unfolding_all rfl) (by intro _; with_unfolding_all rfl)) | (refine get_atZ (by k_asm) (by (first | lia | omega)) (by (first | lia | omega)) (by with_reducible assumption) ?_ (by with_unfolding_all rfl) (by intro _; with_unfolding_all rfl))))) | with_reducible (k_here; (with_reducible show wpAny _ _ (subscriptTail _ _ (Value.ref _) (Value.int _ _)) _ _ _); (k_here; (first | (refine get_at (by k_asm) (by (first | lia | omega)) (by with_reducible assumption) ?_ (by with_unfolding_all rfl) (by intro _; with_unfolding_all rfl)) | (refine get_atZ (by k_asm) (by (first | lia | omega)) (by (first | lia | omega)) (by with_reducible assumption) ?_ (by with_unfolding_all rfl) (by intro _; with_unfolding_all rfl))))) | walk1)) | ((((fail_if_success (with_reducible show wpAny _ _ (exec (Stmt.While _ _ _ _) _) _ _ _)); (fail_if_success (with_reducible show wpAny _ _ (exec (Stmt.For _ _ _ _ _) _) _ _ _)))); dsimp only)))
  rename_i hw F1 N1
  refine While_inv2 (SdJ ha ep sp N t1 f x rest) (n₀ := pos) F1 N1 ⟨pos, f, vals f N, t2, rfl, hp, hd, hpre, .refl _, hT, rfl, by simp [vals, lst_length], by rw [← hx]; exact vals_self, hx, by ((refine ovr_of ?_; repeat (first | exact List.forall_mem_nil _ | (refine List.forall_mem_cons.mpr ⟨by with_unfolding_all rfl, ?_⟩))))⟩ ?_
  rintro n m1 news1 h2 tk2 F2 N2 ⟨_, g', its, tk, rfl, hp', hd2, hpre', hperm, hT', rfl, hlen, hset, hgx, hm⟩
  rw [hm] at F2
  subst hgx
  by_cases hlt : sp < n
  · have hh2 : (n - 1) / 2 < n := half_lt (Nat.lt_of_le_of_lt (Nat.zero_le _) hlt)
    have hh3 := Nat.lt_trans hh2 hp'
    have hpar := vals_get hset hh3 (Nat.ne_of_lt hh2)
    (repeat' (first | (k_unfold; (try dsimp only)) | (k_end; wrow_close) | ((((fail_if_success (with_reducible show wpAny _ _ (exec (Stmt.While _ _ _ _) _) _ _ _)); (fail_if_success (with_reducible show wpAny _ _ (exec (Stmt.For _ _ _ _ _) _) _ _ _)))); (first | with_reducible (k_here; (with_reducible show wpAny _ _ (call (Value.builtin _) [Value.str _ _, Value.ref _]) _ _ _); (refine join_my (by k_asm) (by with_reducible assumption) (by decide) (by with_reducible assumption) ?_); intro _ _) | with_reducible (k_here; (with_reducible show wpAny _ _ (call (Value.builtin "issubclass") _) _ _ _); (k_here; (refine issub_my (by k_asm) ?_))) | with_reducible (k_here; (with_reducible show wpAny _ _ (truthy (Value.ref _)) _ _ _); (refine truthy_my (by k_asm) (by (first | lia | omega)) ?_); intro _) | with_reducible (k_here; (with_reducible show wpAny _ _ (call (Value.builtin _) [Value.ref _]) _ _ _); (refine pop_my (by k_asm) (by k_asm) (by with_reducible assumption) (by (first | lia | omega)) (by with_reducible assumption) ?_); intro _ _ _ _) | with_reducible (k_here; (with_reducible show wpAny _ _ (call (Value.builtin _) [Value.ref _, _]) _ _ _); (refine append_my (by k_asm) (by k_asm) (by with_reducible assumption) (by (first | lia | omega)) (by first | with_reducible assumption | exact rfl) ?_); intro _ _ _) | with_reducible (k_here; (with_reducible show wpAny _ _ (call (Value.builtin "len") [Value.ref _]) _ _ _); (refine len_at (by k_asm) (by with_reducible assumption) (by (first | lia | omega)) ?_); intro _ _) | with_reducible (k_here; (with_reducible show wpAny _ _ (setItem (Value.ref _) (Value.int _ _) _) _ _ _); (k_here; (first | (refine set_at (by k_asm) (by k_asm) (by with_reducible assumption) (by (first | lia | omega)) (by (first | lia | omega)) ?_) | (refine set_atZ (by k_asm) (by k_asm) (by with_reducible assumption) (by (first | lia | omega)) (by (first | lia | omega)) (by (first | lia | omega)) ?_)); intro _ _ _)) | with_reducible (k_here; (with_reducible show wpAny _ _ (binaryOp Operator.RShift _ _) _ _ _); (k_here; (refine half_at (by (first | lia | omega)) ?_); intro _ _)) | with_reducible (k_here; (with_reducible show wpAny _ _ (compareOp CmpOp.Lt _ _) _ _ _); (k_here; (refine lt_trees (Room.unitsD (by assumption)) (by k_asm) (by with_reducible assumption) (by intro q hq; exact List.mem_cons_of_mem _ hq) (by (first | lia | omega)) (by (first | lia | omega)) (by (first | lia | omega)) ?_); intro _)) | with_reducible (k_here; (with_reducible show wpAny _ _ (subscriptTail _ _ (Value.ref _) (Value.int _ _)) _ _ _); (k_here; (first | (refine get_at (by k_asm) (by (first | lia | omega)) (by with_reducible assumption) ?_ (by with_unfolding_all rfl) (by intro _; with_unfolding_all rfl)) | (refine get_atZ (by k_asm) (by (first | lia | omega)) (by (first | lia | omega)) (by with_reducible assumption) ?_ (by with_unfolding_all rfl) (by intro _; with_unfolding_all rfl))))) | with_reducible (k_here; (with_reducible show wpAny _ _ (subscriptTail _ _ (Value.ref _) (Value.int _ _)) _ _ _); (k_here; (first | (refine get_at (by k_asm) (by (first | lia | omega)) (by with_reducible assumption) ?_ (by with_unfolding_all rfl) (by intro _; with_unfolding_all rfl)) | (refine get_atZ (by k_asm) (by (first | lia | omega)) (by (first | lia | omega)) (by with_reducible assumption) ?_ (by with_unfolding_all rfl) (by intro _; with_unfolding_all rfl))))) | walk1)) | ((((fail_if_success (with_reducible show wpAny _ _ (exec (Stmt.While _ _ _ _) _) _ _ _)); (fail_if_success (with_reducible show wpAny _ _ (exec (Stmt.For _ _ _ _ _) _) _ _ _)))); dsimp only)))
    · skip
      rename Fr _ _ _ _ => F3
      rename News _ _ _ _ => N3
      rename key _ < key _ => hk
      refine while_go (n' := (n - 1) / 2) (by first | exact .inl rfl | exact .inr rfl) F3 N3 hh2 ⟨(n - 1) / 2, swp g' n ((n - 1) / 2), its.set n (g' ((n - 1) / 2)).1, _, rfl, hh3, hd2.up hlt, sd_step hpre' hd2 hlt hp' hk, (swp_perm hp' hh3).trans hperm,
        hT'.swap hp' hh3, rfl, by rw [List.length_set, hlen], ?_, by rw [swp_r], by ((refine ovr_of ?_; repeat (first | exact List.forall_mem_nil _ | (refine List.forall_mem_cons.mpr ⟨by with_unfolding_all rfl, ?_⟩))))⟩
      exact vals_swp hset hh3 (Nat.ne_of_lt hh2)
    · dsimp only [WhileStep2]
      (repeat' (first | (k_unfold; (try dsimp only)) | (k_end; wrow_close) | ((((fail_if_success (with_reducible show wpAny _ _ (exec (Stmt.While _ _ _ _) _) _ _ _)); (fail_if_success (with_reducible show wpAny _ _ (exec (Stmt.For _ _ _ _ _) _) _ _ _)))); (first | with_reducible (k_here; (with_reducible show wpAny _ _ (call (Value.builtin _) [Value.str _ _, Value.ref _]) _ _ _); (refine join_my (by k_asm) (by with_reducible assumption) (by decide) (by with_reducible assumption) ?_); intro _ _) | with_reducible (k_here; (with_reducible show wpAny _ _ (call (Value.builtin "issubclass") _) _ _ _); (k_here; (refine issub_my (by k_asm) ?_))) | with_reducible (k_here; (with_reducible show wpAny _ _ (truthy (Value.ref _)) _ _ _); (refine truthy_my (by k_asm) (by (first | lia | omega)) ?_); intro _) | with_reducible (k_here; (with_reducible show wpAny _ _ (call (Value.builtin _) [Value.ref _]) _ _ _); (refine pop_my (by k_asm) (by k_asm) (by with_reducible assumption) (by (first | lia | omega)) (by with_reducible assumption) ?_); intro _ _ _ _) | with_reducible (k_here; (with_reducible show wpAny _ _ (call (Value.builtin _) [Value.ref _, _]) _ _ _); (refine append_my (by k_asm) (by k_asm) (by with_reducible assumption) (by (first | lia | omega)) (by first | with_reducible assumption | exact rfl) ?_); intro _ _ _) | with_reducible (k_here; (with_reducible show wpAny _ _ (call (Value.builtin "len") [Value.ref _]) _ _ _); (refine len_at (by k_asm) (by with_reducible assumption) (by (first | lia | omega)) ?_); intro _ _) | with_reducible (k_here; (with_reducible show wpAny _ _ (setItem (Value.ref _) (Value.int _ _) _) _ _ _); (k_here; (first | (refine set_at (by k_asm) (by k_asm) (by with_reducible assumption) (by (first | lia | omega)) (by (first | lia | omega)) ?_) | (refine set_atZ (by k_asm) (by k_asm) (by with_reducible assumption) (by (first | lia | omega)) (by (first | lia | omega)) (by (first | lia | omega)) ?_)); intro _ _ _)) | with_reducible (k_here; (with_reducible show wpAny _ _ (binaryOp Operator.RShift _ _) _ _ _); (k_here; (refine half_at (by (first | lia | omega)) ?_); intro _ _)) | with_reducible (k_here; (with_reducible show wpAny _ _ (compareOp CmpOp.Lt _ _) _ _ _); (k_here; (refine lt_trees (Room.unitsD (by assumption)) (by k_asm) (by with_reducible assumption) (by intro q hq; exact List.mem_cons_of_mem _ hq) (by (first | lia | omega)) (by (first | lia | omega)) (by (first | lia | omega)) ?_); intro _)) | with_reducible (k_here; (with_reducible show wpAny _ _ (subscriptTail _ _ (Value.ref _) (Value.int _ _)) _ _ _); (k_here; (first | (refine get_at (by k_asm) (by (first | lia | omega)) (by with_reducible assumption) ?_ (by with_unfolding_all rfl) (by intro _; with_unfolding_all rfl)) | (refine get_atZ (by k_asm) (by (first | lia | omega)) (by (first | lia | omega)) (by with_reducible assumption) ?_ (by with_unfolding_all rfl) (by intro _; with_unfolding_all rfl))))) | with_reducible (k_here; (with_reducible show wpAny _ _ (subscriptTail _ _ (Value.ref _) (Value.int _ _)) _ _ _); (k_here; (first | (refine get_at (by k_asm) (by (first | lia | omega)) (by with_reducible assumption) ?_ (by with_unfolding_all rfl) (by intro _; with_unfolding_all rfl)) | (refine get_atZ (by k_asm) (by (first | lia | omega)) (by (first | lia | omega)) (by with_reducible assumption) ?_ (by with_unfolding_all rfl) (by intro _; with_unfolding_all rfl))))) | walk1)) | ((((fail_if_success (with_reducible show wpAny _ _ (exec (Stmt.While _ _ _ _) _) _ _ _)); (fail_if_success (with_reducible show wpAny _ _ (exec (Stmt.For _ _ _ _ _) _) _ _ _)))); dsimp only)))
      rename Fr _ _ _ _ => F3
      rename News _ _ _ _ => N3
      rename ¬ (key _ < key _) => hk
      rw [hset] at N3
      exact ret g' _ _ F3 N3 hperm hT' (sd_end hpre' hd2 (.inr (by (first | lia | omega))))
  · (repeat' (first | (k_unfold; (try dsimp only)) | (k_end; wrow_close) | ((((fail_if_success (with_reducible show wpAny _ _ (exec (Stmt.While _ _ _ _) _) _ _ _)); (fail_if_success (with_reducible show wpAny _ _ (exec (Stmt.For _ _ _ _ _) _) _ _ _)))); (first | with_reducible (k_here; (with_reducible show wpAny _ _ (call (Value.builtin _) [Value.str _ _, Value.ref _]) _ _ _); (refine join_my (by k_asm) (by with_reducible assumption) (by decide) (by with_reducible assumption) ?_); intro _ _) | with_reducible (k_here; (with_reducible show wpAny _ _ (call (Value.builtin "issubclass") _) _ _ _); (k_here; (refine issub_my (by k_asm) ?_))) | with_reducible (k_here; (with_reducible show wpAny _ _ (truthy (Value.ref _)) _ _ _); (refine truthy_my (by k_asm) (by (first | lia | omega)) ?_); intro _) | with_reducible (k_here; (with_reducible show wpAny _ _ (call (Value.builtin _) [Value.ref _]) _ _ _); (refine pop_my (by k_asm) (by k_asm) (by with_reducible assumption) (by (first | lia | omega)) (by with_reducible assumption) ?_); intro _ _ _ _) | with_reducible (k_here; (with_reducible show wpAny _ _ (call (Value.builtin _) [Value.ref _, _]) _ _ _); (refine append_my (by k_asm) (by k_asm) (by with_reducible assumption) (by (first | lia | omega)) (by first | with_reducible assumption | exact rfl) ?_); intro _ _ _) | with_reducible (k_here; (with_reducible show wpAny _ _ (call (Value.builtin "len") [Value.ref _]) _ _ _); (refine len_at (by k_asm) (by with_reducible assumption) (by (first | lia | omega)) ?_); intro _ _) | with_reducible (k_here; (with_reducible show wpAny _ _ (setItem (Value.ref _) (Value.int _ _) _) _ _ _); (k_here; (first | (refine set_at (by k_asm) (by k_asm) (by with_reducible assumption) (by (first | lia | omega)) (by (first | lia | omega)) ?_) | (refine set_atZ (by k_asm) (by k_asm) (by with_reducible assumption) (by (first | lia | omega)) (by (first | lia | omega)) (by (first | lia | omega)) ?_)); intro _ _ _)) | with_reducible (k_here; (with_reducible show wpAny _ _ (binaryOp Operator.RShift _ _) _ _ _); (k_here; (refine half_at (by (first | lia | omega)) ?_); intro _ _)) | with_reducible (k_here; (with_reducible show wpAny _ _ (compareOp CmpOp.Lt _ _) _ _ _); (k_here; (refine lt_trees (Room.unitsD (by assumption)) (by k_asm) (by with_reducible assumption) (by intro q hq; exact List.mem_cons_of_mem _ hq) (by (first | lia | omega)) (by (first | lia | omega)) (by (first | lia | omega)) ?_); intro _)) | with_reducible (k_here; (with_reducible show wpAny _ _ (subscriptTail _ _ (Value.ref _) (Value.int _ _)) _ _ _); (k_here; (first | (refine get_at (by k_asm) (by (first | lia | omega)) (by with_reducible assumption) ?_ (by with_unfolding_all rfl) (by intro _; with_unfolding_all rfl)) | (refine get_atZ (by k_asm) (by (first | lia | omega)) (by (first | lia | omega)) (by with_reducible assumption) ?_ (by with_unfolding_all rfl) (by intro _; with_unfolding_all rfl))))) | with_reducible (k_here; (with_reducible show wpAny _ _ (subscriptTail _ _ (Value.ref _) (Value.int _ _)) _ _ _); (k_here; (first | (refine get_at (by k_asm) (by (first | lia | omega)) (by with_reducible assumption) ?_ (by with_unfolding_all rfl) (by intro _; with_unfolding_all rfl)) | (refine get_atZ (by k_asm) (by (first | lia | omega)) (by (first | lia | omega)) (by with_reducible assumption) ?_ (by with_unfolding_all rfl) (by intro _; with_unfolding_all rfl))))) | walk1)) | ((((fail_if_success (with_reducible show wpAny _ _ (exec (Stmt.While _ _ _ _) _) _ _ _)); (fail_if_success (with_reducible show wpAny _ _ (exec (Stmt.For _ _ _ _ _) _) _ _ _)))); dsimp only)))
    rename Fr _ _ _ _ => F3
    rename News _ _ _ _ => N3
    rw [hset] at N3
    exact ret g' _ _ F3 N3 hperm hT' (sd_end hpre' hd2 (.inl (by (first | lia | omega))))
end
theorem off_S2 : True := by
  w_top off
  trivial
section
inductive SuJ (ha : Addr) (ep a N : Nat) (t2 : Tok) (f : Nat → Value × Tr) (x : Value) (rest : List (Addr × Obj)) (k : Nat) (m : Str → Option Value) (news : List (Addr × Obj)) : Prop
  | mk (n : Nat) (g : Nat → Value × Tr) (its : List Value) (z c : Int) (te tk tk' : Tok)
    (z1 : k = N - n)
    (z2 : n < N)
    (z3 : Desc a n)
    (z4 : PreSU key g N a n)
    (z5 : (lst g N).Perm (lst f N))
    (z6 : Trees rest g N)
    (z7 : news = (ha, W.listOf its.toArray ep) :: rest)
    (z8 : its.length = N)
    (z9 : its.set n x = vals g N)
    (z10 : (g n).1 = x)
    (z11 : z = n)
    (z12 : c = 2 * n + 1)
    (z13 : m = ovr [(Str.ofString "heap", .ref ha), (Str.ofString "endpos", .int N te), (Str.ofString "startpos", .int a t2), (Str.ofString "newitem", x), (Str.ofString "pos", .int z tk), (Str.ofString "childpos", .int c tk')] m) : SuJ ha ep a N t2 f x rest k m news
theorem dn1 {n N : Nat} (h : n < N) : N - (2 * n + 1) < N - n := Nat.sub_lt_sub_left h (by (first | lia | omega))
theorem dn2 {n N : Nat} (h : n < N) : N - (2 * n + 2) < N - n := Nat.sub_lt_sub_left h (by (first | lia | omega))
theorem dn3 (n : Nat) : 2 * n + 1 ≠ n ∧ 2 * n + 2 ≠ n := by (first | lia | omega)
set_option maxHeartbeats 4000000 in
theorem su_spec {w : World} {A : Around} {s : Shared} {b0 : Heap} {L : Addr} {m mg mb : Str → Option Value} {mean : ExcName → Option Value} {p : Program} {loose : List Str} {rest : List (Addr × Obj)}
  (R : Room A 5) (X : (Mine.heapK w.params).In b0) (T : Top p loose mean mg mb b0) (F : Fr b0 L s.heap m) {ha : Addr} {f : Nat → Value × Tr} {ep N : Nat} (hN : N ≤ 64)
  (Nw : News b0 L s.heap ((ha, W.listOf (vals f N).toArray ep) :: rest)) (hne : ∀ q ∈ rest, q.1 ≠ ha) {a : Nat} {t2 : Tok} {Q E : Value → Shared → Prop}
  (hT : Trees rest f N) (hp : a < N) (hpre : Heapy key f N (a + 1))
  (ret : ∀ f' h' tk', Fr b0 L h' m → News b0 L h' ((ha, W.listOf (vals f' N).toArray ep) :: rest) → (lst f' N).Perm (lst f N) → Trees rest f' N → Heapy key f' N a → Q .none { s with heap := h', toks := tk' }) :
  wpAny (model PySem.Challenge.rw_ik0182_01.row.prog w) A (call (.ref 56) [.ref ha, .int a t2]) Q E s := by
  obtain ⟨hh, dp, fr, gd, un⟩ := A
  have RR := R
  obtain ⟨hd', hdp, hun⟩ := R
  cases hd'
  revert X; k_fill; intro X
  refine wpAny_call ?_
  k_dflt (refine' enter (binds := [(Str.ofString "heap", .ref ha), (Str.ofString "pos", .int a t2)]) ?F ?X ?N ?T ?ho ?hcd ?room ?bind ?loc ?_ ?c1 ?c2 ?c3 ?c4)
  (((case F => k_asm); (case X => k_asm); (case N => k_asm); (case T => k_asm); (case ho => k_is); (case hcd => k_is); (case room => exact Room.room (by assumption)); (case bind => exact BindsTo.of_eq rfl); (case loc => exact locs rfl); (case c1 => exact rfl); (case c2 => exact rfl); (case c3 => exact rfl); (case c4 => decide)))
  intro g L' h₁ FG F' N' X' T' lt'
  try dsimp only
  try k_fold
  refine let_env (B := execs _) RR ?_
  intro tk0 env A1 RA
  have hx0 : (vals f N)[a]? = some (f a).1 := lst_get hp
  have hl0 : (vals f N).length = N := vals_length
  generalize hx : (f a).1 = x at *
  (repeat' (first | (k_unfold; (try dsimp only)) | (k_end; wrow_close) | ((((fail_if_success (with_reducible show wpAny _ _ (exec (Stmt.While _ _ _ _) _) _ _ _)); (fail_if_success (with_reducible show wpAny _ _ (exec (Stmt.For _ _ _ _ _) _) _ _ _)))); (first | with_reducible (k_here; (with_reducible show wpAny _ _ (call (Value.ref _) _) _ _ _); (k_here; (refine' sd_spec ?yR ?yX ?yT ?yF ?yhN ?yNw ?yhne ?yhT ?yhp ?yhd ?yhpre ?_); (case yF => k_asm); (case yX => k_asm); (case yT => k_asm); (case yNw => k_asm); (case yR => exact Room.less (by assumption) (by decide)); (case yhN => with_reducible assumption); (case yhne => with_reducible assumption); (case yhT => with_reducible assumption); (case yhp => with_reducible assumption); (case yhd => with_reducible assumption); (case yhpre => with_reducible assumption); intro _ _ _ _ _ _ _ _)) | with_reducible (k_here; (with_reducible show wpAny _ _ (call (Value.builtin _) [Value.str _ _, Value.ref _]) _ _ _); (refine join_my (by k_asm) (by with_reducible assumption) (by decide) (by with_reducible assumption) ?_); intro _ _) | with_reducible (k_here; (with_reducible show wpAny _ _ (call (Value.builtin "issubclass") _) _ _ _); (k_here; (refine issub_my (by k_asm) ?_))) | with_reducible (k_here; (with_reducible show wpAny _ _ (truthy (Value.ref _)) _ _ _); (refine truthy_my (by k_asm) (by (first | lia | omega)) ?_); intro _) | with_reducible (k_here; (with_reducible show wpAny _ _ (call (Value.builtin _) [Value.ref _]) _ _ _); (refine pop_my (by k_asm) (by k_asm) (by with_reducible assumption) (by (first | lia | omega)) (by with_reducible assumption) ?_); intro _ _ _ _) | with_reducible (k_here; (with_reducible show wpAny _ _ (call (Value.builtin _) [Value.ref _, _]) _ _ _); (refine append_my (by k_asm) (by k_asm) (by with_reducible assumption) (by (first | lia | omega)) (by first | with_reducible assumption | exact rfl) ?_); intro _ _ _) | with_reducible (k_here; (with_reducible show wpAny _ _ (call (Value.builtin "len") [Value.ref _]) _ _ _); (refine len_at (by k_asm) (by with_reducible assumption) (by (first | lia | omega)) ?_); intro _ _) | with_reducible (k_here; (with_reducible show wpAny _ _ (setItem (Value.ref _) (Value.int _ _) _) _ _ _); (k_here; (first | (refine set_at (by k_asm) (by k_asm) (by with_reducible assumption) (by (first | lia | omega)) (by (first | lia | omega)) ?_) | (refine set_atZ (by k_asm) (by k_asm) (by with_reducible assumption) (by (first | lia | omega)) (by (first | lia | omega)) (by (first | lia | omega)) ?_)); intro _ _ _)) | with_reducible (k_here; (with_reducible show wpAny _ _ (binaryOp Operator.RShift _ _) _ _ _); (k_here; (refine half_at (by (first | lia | omega)) ?_); intro _ _)) | with_reducible (k_here; (with_reducible show wpAny _ _ (compareOp CmpOp.Lt _ _) _ _ _); (k_here; (refine lt_trees (Room.unitsD (by assumption)) (by k_asm) (by with_reducible assumption) (by intro q hq; exact List.mem_cons_of_mem _ hq) (by (first | lia | omega)) (by (first | lia | omega)) (by (first | lia | omega)) ?_); intro _)) | with_reducible (k_here; (with_reducible show wpAny _ _ (subscriptTail _ _ (Value.ref _) (Value.int _ _)) _ _ _); (k_here; (first | (refine get_at (by k_asm) (by (first | lia | omega)) (by with_reducible assumption) ?_ (by with_unfolding_all rfl) (by intro _; with_unfolding_all rfl)) | (refine get_atZ (by k_asm) (by (first | lia | omega)) (by (first | lia | omega)) (by with_reducible assumption) ?_ (by with_unfolding_all rfl) (by intro _; with_unfolding_all rfl))))) | with_reducible (k_here; (with_reducible show wpAny _ _ (subscriptTail _ _ (Value.ref _) (Value.int _ _)) _ _ _); (k_here; (first | (refine get_at (by k_asm) (by (first | lia | omega)) (by with_reducible assumption) ?_ (by with_unfolding_all rfl) (by intro _; with_unfolding_all rfl)) | (refine get_atZ (by k_asm) (by (first | lia | omega)) (by (first | lia | omega)) (by with_reducible assumption) ?_ (by with_unfolding_all rfl) (by intro _; with_unfolding_all rfl))))) | walk1)) | ((((fail_if_success (with_reducible show wpAny _ _ (exec (Stmt.While _ _ _ _) _) _ _ _)); (fail_if_success (with_reducible show wpAny _ _ (exec (Stmt.For _ _ _ _ _) _) _ _ _)))); dsimp only)))
  rename Fr _ _ _ _ => F1
  rename News _ _ _ _ => N1
  refine While_inv2 (SuJ ha ep a N t2 f x rest) (n₀ := N - a) F1 N1 ⟨a, f, vals f N, a, 2 * a + 1, _, t2, _, rfl, hp, .self, su_start hpre, .refl _, hT, rfl, hl0, by rw [← hx]; exact vals_self, hx, rfl, rfl, by ((refine ovr_of ?_; repeat (first | exact List.forall_mem_nil _ | (refine List.forall_mem_cons.mpr ⟨by with_unfolding_all rfl, ?_⟩))))⟩ ?_
  rintro k m1 news1 h2 tk2 F2 N2 ⟨n, g', its, z, c, te, tk, tk', hk, hp', hd2, hpre', hperm, hT', rfl, hlen, hset, hgx, hz, hc, hm⟩
  rw [hm] at F2
  subst hgx hz hc hk
  have hset_at : ∀ c, c < N → c ≠ n → its[((c : Nat) : Int).toNat]? = some (g' c).1 := fun c h1 h2 => by
    have := vals_get hset h1 h2
    simpa using this
  by_cases hlt : 2 * n + 1 < N
  · have hl1 := hset_at (2 * n + 1) hlt (dn3 n).1
    rw [show ((2 * n + 1 : Nat) : Int) = 2 * (n : Int) + 1 from rfl] at hl1
    by_cases hr : 2 * n + 2 < N
    · have hr1 := hset_at (2 * n + 2) hr (dn3 n).2
      rw [show ((2 * n + 2 : Nat) : Int) = 2 * (n : Int) + 1 + 1 from rfl] at hr1
      (repeat' (first | (k_unfold; (try dsimp only)) | (k_end; wrow_close) | ((((fail_if_success (with_reducible show wpAny _ _ (exec (Stmt.While _ _ _ _) _) _ _ _)); (fail_if_success (with_reducible show wpAny _ _ (exec (Stmt.For _ _ _ _ _) _) _ _ _)))); (first | with_reducible (k_here; (with_reducible show wpAny _ _ (call (Value.ref _) _) _ _ _); (k_here; (refine' sd_spec ?yR ?yX ?yT ?yF ?yhN ?yNw ?yhne ?yhT ?yhp ?yhd ?yhpre ?_); (case yF => k_asm); (case yX => k_asm); (case yT => k_asm); (case yNw => k_asm); (case yR => exact Room.less (by assumption) (by decide)); (case yhN => with_reducible assumption); (case yhne => with_reducible assumption); (case yhT => with_reducible assumption); (case yhp => with_reducible assumption); (case yhd => with_reducible assumption); (case yhpre => with_reducible assumption); intro _ _ _ _ _ _ _ _)) | with_reducible (k_here; (with_reducible show wpAny _ _ (call (Value.builtin _) [Value.str _ _, Value.ref _]) _ _ _); (refine join_my (by k_asm) (by with_reducible assumption) (by decide) (by with_reducible assumption) ?_); intro _ _) | with_reducible (k_here; (with_reducible show wpAny _ _ (call (Value.builtin "issubclass") _) _ _ _); (k_here; (refine issub_my (by k_asm) ?_))) | with_reducible (k_here; (with_reducible show wpAny _ _ (truthy (Value.ref _)) _ _ _); (refine truthy_my (by k_asm) (by (first | lia | omega)) ?_); intro _) | with_reducible (k_here; (with_reducible show wpAny _ _ (call (Value.builtin _) [Value.ref _]) _ _ _); (refine pop_my (by k_asm) (by k_asm) (by with_reducible assumption) (by (first | lia | omega)) (by with_reducible assumption) ?_); intro _ _ _ _) | with_reducible (k_here; (with_reducible show wpAny _ _ (call (Value.builtin _) [Value.ref _, _]) _ _ _); (refine append_my (by k_asm) (by k_asm) (by with_reducible assumption) (by (first | lia | omega)) (by first | with_reducible assumption | exact rfl) ?_); intro _ _ _) | with_reducible (k_here; (with_reducible show wpAny _ _ (call (Value.builtin "len") [Value.ref _]) _ _ _); (refine len_at (by k_asm) (by with_reducible assumption) (by (first | lia | omega)) ?_); intro _ _) | with_reducible (k_here; (with_reducible show wpAny _ _ (setItem (Value.ref _) (Value.int _ _) _) _ _ _); (k_here; (first | (refine set_at (by k_asm) (by k_asm) (by with_reducible assumption) (by (first | lia | omega)) (by (first | lia | omega)) ?_) | (refine set_atZ (by k_asm) (by k_asm) (by with_reducible assumption) (by (first | lia | omega)) (by (first | lia | omega)) (by (first | lia | omega)) ?_)); intro _ _ _)) | with_reducible (k_here; (with_reducible show wpAny _ _ (binaryOp Operator.RShift _ _) _ _ _); (k_here; (refine half_at (by (first | lia | omega)) ?_); intro _ _)) | with_reducible (k_here; (with_reducible show wpAny _ _ (compareOp CmpOp.Lt _ _) _ _ _); (k_here; (refine lt_trees (Room.unitsD (by assumption)) (by k_asm) (by with_reducible assumption) (by intro q hq; exact List.mem_cons_of_mem _ hq) (by (first | lia | omega)) (by (first | lia | omega)) (by (first | lia | omega)) ?_); intro _)) | with_reducible (k_here; (with_reducible show wpAny _ _ (subscriptTail _ _ (Value.ref _) (Value.int _ _)) _ _ _); (k_here; (first | (refine get_at (by k_asm) (by (first | lia | omega)) (by with_reducible assumption) ?_ (by with_unfolding_all rfl) (by intro _; with_unfolding_all rfl)) | (refine get_atZ (by k_asm) (by (first | lia | omega)) (by (first | lia | omega)) (by with_reducible assumption) ?_ (by with_unfolding_all rfl) (by intro _; with_unfolding_all rfl))))) | with_reducible (k_here; (with_reducible show wpAny _ _ (subscriptTail _ _ (Value.ref _) (Value.int _ _)) _ _ _); (k_here; (first | (refine get_at (by k_asm) (by (first | lia | omega)) (by with_reducible assumption) ?_ (by with_unfolding_all rfl) (by intro _; with_unfolding_all rfl)) | (refine get_atZ (by k_asm) (by (first | lia | omega)) (by (first | lia | omega)) (by with_reducible assumption) ?_ (by with_unfolding_all rfl) (by intro _; with_unfolding_all rfl))))) | walk1)) | ((((fail_if_success (with_reducible show wpAny _ _ (exec (Stmt.While _ _ _ _) _) _ _ _)); (fail_if_success (with_reducible show wpAny _ _ (exec (Stmt.For _ _ _ _ _) _) _ _ _)))); dsimp only)))
      · skip
        rename Fr _ _ _ _ => F3
        rename News _ _ _ _ => N3
        rename key _ < key _ => hk
        refine while_go (n' := N - (2 * n + 1)) (.inl rfl) F3 N3 (dn1 hp') ⟨2 * n + 1, swp g' n (2 * n + 1), its.set n (g' (2 * n + 1)).1, _, _, _, _, _, rfl, hlt, hd2.child (.inl rfl), su_step (o := 2 * n + 2) hpre' hd2 hlt (.inl ⟨rfl, rfl⟩) (fun _ => Int.le_of_lt hk), (swp_perm hp' hlt).trans hperm,
          hT'.swap hp' hlt, rfl, by rw [List.length_set, hlen], ?_, by rw [swp_r], ?_, ?_, by ((refine ovr_of ?_; repeat (first | exact List.forall_mem_nil _ | (refine List.forall_mem_cons.mpr ⟨by with_unfolding_all rfl, ?_⟩))))⟩
        · exact vals_swp hset hlt (dn3 n).1
        · first | rfl | (first | lia | omega)
        · first | rfl | (first | lia | omega)
      · skip
        rename Fr _ _ _ _ => F3
        rename News _ _ _ _ => N3
        rename ¬ (key _ < key _) => hk
        refine while_go (n' := N - (2 * n + 2)) (.inl rfl) F3 N3 (dn2 hp') ⟨2 * n + 2, swp g' n (2 * n + 2), its.set n (g' (2 * n + 2)).1, _, _, _, _, _, rfl, hr, hd2.child (.inr rfl), su_step (o := 2 * n + 1) hpre' hd2 hr (.inr ⟨rfl, rfl⟩) (fun _ => Int.not_lt.mp hk), (swp_perm hp' hr).trans hperm,
          hT'.swap hp' hr, rfl, by rw [List.length_set, hlen], ?_, by rw [swp_r], ?_, ?_, by ((refine ovr_of ?_; repeat (first | exact List.forall_mem_nil _ | (refine List.forall_mem_cons.mpr ⟨by with_unfolding_all rfl, ?_⟩))))⟩
        · exact vals_swp hset hr (dn3 n).2
        · first | rfl | (first | lia | omega)
        · first | rfl | (first | lia | omega)
    · (repeat' (first | (k_unfold; (try dsimp only)) | (k_end; wrow_close) | ((((fail_if_success (with_reducible show wpAny _ _ (exec (Stmt.While _ _ _ _) _) _ _ _)); (fail_if_success (with_reducible show wpAny _ _ (exec (Stmt.For _ _ _ _ _) _) _ _ _)))); (first | with_reducible (k_here; (with_reducible show wpAny _ _ (call (Value.ref _) _) _ _ _); (k_here; (refine' sd_spec ?yR ?yX ?yT ?yF ?yhN ?yNw ?yhne ?yhT ?yhp ?yhd ?yhpre ?_); (case yF => k_asm); (case yX => k_asm); (case yT => k_asm); (case yNw => k_asm); (case yR => exact Room.less (by assumption) (by decide)); (case yhN => with_reducible assumption); (case yhne => with_reducible assumption); (case yhT => with_reducible assumption); (case yhp => with_reducible assumption); (case yhd => with_reducible assumption); (case yhpre => with_reducible assumption); intro _ _ _ _ _ _ _ _)) | with_reducible (k_here; (with_reducible show wpAny _ _ (call (Value.builtin _) [Value.str _ _, Value.ref _]) _ _ _); (refine join_my (by k_asm) (by with_reducible assumption) (by decide) (by with_reducible assumption) ?_); intro _ _) | with_reducible (k_here; (with_reducible show wpAny _ _ (call (Value.builtin "issubclass") _) _ _ _); (k_here; (refine issub_my (by k_asm) ?_))) | with_reducible (k_here; (with_reducible show wpAny _ _ (truthy (Value.ref _)) _ _ _); (refine truthy_my (by k_asm) (by (first | lia | omega)) ?_); intro _) | with_reducible (k_here; (with_reducible show wpAny _ _ (call (Value.builtin _) [Value.ref _]) _ _ _); (refine pop_my (by k_asm) (by k_asm) (by with_reducible assumption) (by (first | lia | omega)) (by with_reducible assumption) ?_); intro _ _ _ _) | with_reducible (k_here; (with_reducible show wpAny _ _ (call (Value.builtin _) [Value.ref _, _]) _ _ _); (refine append_my (by k_asm) (by k_asm) (by with_reducible assumption) (by (first | lia | omega)) (by first | with_reducible assumption | exact rfl) ?_); intro _ _ _) | with_reducible (k_here; (with_reducible show wpAny _ _ (call (Value.builtin "len") [Value.ref _]) _ _ _); (refine len_at (by k_asm) (by with_reducible assumption) (by (first | lia | omega)) ?_); intro _ _) | with_reducible (k_here; (with_reducible show wpAny _ _ (setItem (Value.ref _) (Value.int _ _) _) _ _ _); (k_here; (first | (refine set_at (by k_asm) (by k_asm) (by with_reducible assumption) (by (first | lia | omega)) (by (first | lia | omega)) ?_) | (refine set_atZ (by k_asm) (by k_asm) (by with_reducible assumption) (by (first | lia | omega)) (by (first | lia | omega)) (by (first | lia | omega)) ?_)); intro _ _ _)) | with_reducible (k_here; (with_reducible show wpAny _ _ (binaryOp Operator.RShift _ _) _ _ _); (k_here; (refine half_at (by (first | lia | omega)) ?_); intro _ _)) | with_reducible (k_here; (with_reducible show wpAny _ _ (compareOp CmpOp.Lt _ _) _ _ _); (k_here; (refine lt_trees (Room.unitsD (by assumption)) (by k_asm) (by with_reducible assumption) (by intro q hq; exact List.mem_cons_of_mem _ hq) (by (first | lia | omega)) (by (first | lia | omega)) (by (first | lia | omega)) ?_); intro _)) | with_reducible (k_here; (with_reducible show wpAny _ _ (subscriptTail _ _ (Value.ref _) (Value.int _ _)) _ _ _); (k_here; (first | (refine get_at (by k_asm) (by (first | lia | omega)) (by with_reducible assumption) ?_ (by with_unfolding_all rfl) (by intro _; with_unfolding_all rfl)) | (refine get_atZ (by k_asm) (by (first | lia | omega)) (by (first | lia | omega)) (by with_reducible assumption) ?_ (by with_unfolding_all rfl) (by intro _; with_unfolding_all rfl))))) | with_reducible (k_here; (with_reducible show wpAny _ _ (subscriptTail _ _ (Value.ref _) (Value.int _ _)) _ _ _); (k_here; (first | (refine get_at (by k_asm) (by (first | lia | omega)) (by with_reducible assumption) ?_ (by with_unfolding_all rfl) (by intro _; with_unfolding_all rfl)) | (refine get_atZ (by k_asm) (by (first | lia | omega)) (by (first | lia | omega)) (by with_reducible assumption) ?_ (by with_unfolding_all rfl) (by intro _; with_unfolding_all rfl))))) | walk1)) | ((((fail_if_success (with_reducible show wpAny _ _ (exec (Stmt.While _ _ _ _) _) _ _ _)); (fail_if_success (with_reducible show wpAny _ _ (exec (Stmt.For _ _ _ _ _) _) _ _ _)))); dsimp only)))
      · skip
        rename Fr _ _ _ _ => F3
        rename News _ _ _ _ => N3
        refine while_go (n' := N - (2 * n + 1)) (.inl rfl) F3 N3 (dn1 hp') ⟨2 * n + 1, swp g' n (2 * n + 1), its.set n (g' (2 * n + 1)).1, _, _, _, _, _, rfl, hlt, hd2.child (.inl rfl), su_step (o := 2 * n + 2) hpre' hd2 hlt (.inl ⟨rfl, rfl⟩) (fun h => absurd h hr), (swp_perm hp' hlt).trans hperm,
          hT'.swap hp' hlt, rfl, by rw [List.length_set, hlen], ?_, by rw [swp_r], ?_, ?_, by ((refine ovr_of ?_; repeat (first | exact List.forall_mem_nil _ | (refine List.forall_mem_cons.mpr ⟨by with_unfolding_all rfl, ?_⟩))))⟩
        · exact vals_swp hset hlt (dn3 n).1
        · first | rfl | (first | lia | omega)
        · first | rfl | (first | lia | omega)
  · (repeat' (first | (k_unfold; (try dsimp only)) | (k_end; wrow_close) | ((((fail_if_success (with_reducible show wpAny _ _ (exec (Stmt.While _ _ _ _) _) _ _ _)); (fail_if_success (with_reducible show wpAny _ _ (exec (Stmt.For _ _ _ _ _) _) _ _ _)))); (first | with_reducible (k_here; (with_reducible show wpAny _ _ (call (Value.ref _) _) _ _ _); (k_here; (refine' sd_spec ?yR ?yX ?yT ?yF ?yhN ?yNw ?yhne ?yhT ?yhp ?yhd ?yhpre ?_); (case yF => k_asm); (case yX => k_asm); (case yT => k_asm); (case yNw => k_asm); (case yR => exact Room.less (by assumption) (by decide)); (case yhN => with_reducible assumption); (case yhne => with_reducible assumption); (case yhT => with_reducible assumption); (case yhp => with_reducible assumption); (case yhd => with_reducible assumption); (case yhpre => with_reducible assumption); intro _ _ _ _ _ _ _ _)) | with_reducible (k_here; (with_reducible show wpAny _ _ (call (Value.builtin _) [Value.str _ _, Value.ref _]) _ _ _); (refine join_my (by k_asm) (by with_reducible assumption) (by decide) (by with_reducible assumption) ?_); intro _ _) | with_reducible (k_here; (with_reducible show wpAny _ _ (call (Value.builtin "issubclass") _) _ _ _); (k_here; (refine issub_my (by k_asm) ?_))) | with_reducible (k_here; (with_reducible show wpAny _ _ (truthy (Value.ref _)) _ _ _); (refine truthy_my (by k_asm) (by (first | lia | omega)) ?_); intro _) | with_reducible (k_here; (with_reducible show wpAny _ _ (call (Value.builtin _) [Value.ref _]) _ _ _); (refine pop_my (by k_asm) (by k_asm) (by with_reducible assumption) (by (first | lia | omega)) (by with_reducible assumption) ?_); intro _ _ _ _) | with_reducible (k_here; (with_reducible show wpAny _ _ (call (Value.builtin _) [Value.ref _, _]) _ _ _); (refine append_my (by k_asm) (by k_asm) (by with_reducible assumption) (by (first | lia | omega)) (by first | with_reducible assumption | exact rfl) ?_); intro _ _ _) | with_reducible (k_here; (with_reducible show wpAny _ _ (call (Value.builtin "len") [Value.ref _]) _ _ _); (refine len_at (by k_asm) (by with_reducible assumption) (by (first | lia | omega)) ?_); intro _ _) | with_reducible (k_here; (with_reducible show wpAny _ _ (setItem (Value.ref _) (Value.int _ _) _) _ _ _); (k_here; (first | (refine set_at (by k_asm) (by k_asm) (by with_reducible assumption) (by (first | lia | omega)) (by (first | lia | omega)) ?_) | (refine set_atZ (by k_asm) (by k_asm) (by with_reducible assumption) (by (first | lia | omega)) (by (first | lia | omega)) (by (first | lia | omega)) ?_)); intro _ _ _)) | with_reducible (k_here; (with_reducible show wpAny _ _ (binaryOp Operator.RShift _ _) _ _ _); (k_here; (refine half_at (by (first | lia | omega)) ?_); intro _ _)) | with_reducible (k_here; (with_reducible show wpAny _ _ (compareOp CmpOp.Lt _ _) _ _ _); (k_here; (refine lt_trees (Room.unitsD (by assumption)) (by k_asm) (by with_reducible assumption) (by intro q hq; exact List.mem_cons_of_mem _ hq) (by (first | lia | omega)) (by (first | lia | omega)) (by (first | lia | omega)) ?_); intro _)) | with_reducible (k_here; (with_reducible show wpAny _ _ (subscriptTail _ _ (Value.ref _) (Value.int _ _)) _ _ _); (k_here; (first | (refine get_at (by k_asm) (by (first | lia | omega)) (by with_reducible assumption) ?_ (by with_unfolding_all rfl) (by intro _; with_unfolding_all rfl)) | (refine get_atZ (by k_asm) (by (first | lia | omega)) (by (first | lia | omega)) (by with_reducible assumption) ?_ (by with_unfolding_all rfl) (by intro _; with_unfolding_all rfl))))) | with_reducible (k_here; (with_reducible show wpAny _ _ (subscriptTail _ _ (Value.ref _) (Value.int _ _)) _ _ _); (k_here; (first | (refine get_at (by k_asm) (by (first | lia | omega)) (by with_reducible assumption) ?_ (by with_unfolding_all rfl) (by intro _; with_unfolding_all rfl)) | (refine get_atZ (by k_asm) (by (first | lia | omega)) (by (first | lia | omega)) (by with_reducible assumption) ?_ (by with_unfolding_all rfl) (by intro _; with_unfolding_all rfl))))) | walk1)) | ((((fail_if_success (with_reducible show wpAny _ _ (exec (Stmt.While _ _ _ _) _) _ _ _)); (fail_if_success (with_reducible show wpAny _ _ (exec (Stmt.For _ _ _ _ _) _) _ _ _)))); dsimp only)))
    rename News _ _ _ _ => N3
    rw [hset] at N3
    have hpre3 := su_end hpre' (by (first | lia | omega))
    (repeat' (first | (k_unfold; (try dsimp only)) | (k_end; wrow_close) | ((((fail_if_success (with_reducible show wpAny _ _ (exec (Stmt.While _ _ _ _) _) _ _ _)); (fail_if_success (with_reducible show wpAny _ _ (exec (Stmt.For _ _ _ _ _) _) _ _ _)))); (first | with_reducible (k_here; (with_reducible show wpAny _ _ (call (Value.ref _) _) _ _ _); (k_here; (refine' sd_spec ?yR ?yX ?yT ?yF ?yhN ?yNw ?yhne ?yhT ?yhp ?yhd ?yhpre ?_); (case yF => k_asm); (case yX => k_asm); (case yT => k_asm); (case yNw => k_asm); (case yR => exact Room.less (by assumption) (by decide)); (case yhN => with_reducible assumption); (case yhne => with_reducible assumption); (case yhT => with_reducible assumption); (case yhp => with_reducible assumption); (case yhd => with_reducible assumption); (case yhpre => with_reducible assumption); intro _ _ _ _ _ _ _ _)) | with_reducible (k_here; (with_reducible show wpAny _ _ (call (Value.builtin _) [Value.str _ _, Value.ref _]) _ _ _); (refine join_my (by k_asm) (by with_reducible assumption) (by decide) (by with_reducible assumption) ?_); intro _ _) | with_reducible (k_here; (with_reducible show wpAny _ _ (call (Value.builtin "issubclass") _) _ _ _); (k_here; (refine issub_my (by k_asm) ?_))) | with_reducible (k_here; (with_reducible show wpAny _ _ (truthy (Value.ref _)) _ _ _); (refine truthy_my (by k_asm) (by (first | lia | omega)) ?_); intro _) | with_reducible (k_here; (with_reducible show wpAny _ _ (call (Value.builtin _) [Value.ref _]) _ _ _); (refine pop_my (by k_asm) (by k_asm) (by with_reducible assumption) (by (first | lia | omega)) (by with_reducible assumption) ?_); intro _ _ _ _) | with_reducible (k_here; (with_reducible show wpAny _ _ (call (Value.builtin _) [Value.ref _, _]) _ _ _); (refine append_my (by k_asm) (by k_asm) (by with_reducible assumption) (by (first | lia | omega)) (by first | with_reducible assumption | exact rfl) ?_); intro _ _ _) | with_reducible (k_here; (with_reducible show wpAny _ _ (call (Value.builtin "len") [Value.ref _]) _ _ _); (refine len_at (by k_asm) (by with_reducible assumption) (by (first | lia | omega)) ?_); intro _ _) | with_reducible (k_here; (with_reducible show wpAny _ _ (setItem (Value.ref _) (Value.int _ _) _) _ _ _); (k_here; (first | (refine set_at (by k_asm) (by k_asm) (by with_reducible assumption) (by (first | lia | omega)) (by (first | lia | omega)) ?_) | (refine set_atZ (by k_asm) (by k_asm) (by with_reducible assumption) (by (first | lia | omega)) (by (first | lia | omega)) (by (first | lia | omega)) ?_)); intro _ _ _)) | with_reducible (k_here; (with_reducible show wpAny _ _ (binaryOp Operator.RShift _ _) _ _ _); (k_here; (refine half_at (by (first | lia | omega)) ?_); intro _ _)) | with_reducible (k_here; (with_reducible show wpAny _ _ (compareOp CmpOp.Lt _ _) _ _ _); (k_here; (refine lt_trees (Room.unitsD (by assumption)) (by k_asm) (by with_reducible assumption) (by intro q hq; exact List.mem_cons_of_mem _ hq) (by (first | lia | omega)) (by (first | lia | omega)) (by (first | lia | omega)) ?_); intro _)) | with_reducible (k_here; (with_reducible show wpAny _ _ (subscriptTail _ _ (Value.ref _) (Value.int _ _)) _ _ _); (k_here; (first | (refine get_at (by k_asm) (by (first | lia | omega)) (by with_reducible assumption) ?_ (by with_unfolding_all rfl) (by intro _; with_unfolding_all rfl)) | (refine get_atZ (by k_asm) (by (first | lia | omega)) (by (first | lia | omega)) (by with_reducible assumption) ?_ (by with_unfolding_all rfl) (by intro _; with_unfolding_all rfl))))) | with_reducible (k_here; (with_reducible show wpAny _ _ (subscriptTail _ _ (Value.ref _) (Value.int _ _)) _ _ _); (k_here; (first | (refine get_at (by k_asm) (by (first | lia | omega)) (by with_reducible assumption) ?_ (by with_unfolding_all rfl) (by intro _; with_unfolding_all rfl)) | (refine get_atZ (by k_asm) (by (first | lia | omega)) (by (first | lia | omega)) (by with_reducible assumption) ?_ (by with_unfolding_all rfl) (by intro _; with_unfolding_all rfl))))) | walk1)) | ((((fail_if_success (with_reducible show wpAny _ _ (exec (Stmt.While _ _ _ _) _) _ _ _)); (fail_if_success (with_reducible show wpAny _ _ (exec (Stmt.For _ _ _ _ _) _) _ _ _)))); dsimp only)))
    rename Fr _ _ _ _ => F3
    rename News _ _ _ _ => N3
    rename Heapy _ _ _ _ => hH
    rename List.Perm _ _ => hP
    rename Trees _ _ _ => hTT
    exact ret _ _ _ F3 N3 (hP.trans hperm) hTT hH
end
theorem off_S3 : True := by
  w_top off
  trivial
section
inductive HyJ (ha : Addr) (ep N : Nat) (f : Nat → Value × Tr) (rest : List (Addr × Obj)) (i : Nat) (m : Str → Option Value) (news : List (Addr × Obj)) : Prop
  | mk (f' : Nat → Value × Tr) (z1 : (lst f' N).Perm (lst f N)) (z2 : Heapy key f' N (N / 2 - i)) (z3 : news = (ha, W.listOf (vals f' N).toArray ep) :: rest) (z4 : m = ovr [(Str.ofString "x", .ref ha)] m) : HyJ ha ep N f rest i m news
theorem down1 {H i : Nat} (h : i < H) : (H : Int) - 1 + (i : Int) * -1 = ((H - 1 - i : Nat) : Int) := by (first | lia | omega)
theorem down2 {H i : Nat} (h : i < H) : H - 1 - i + 1 = H - i := by rw [Nat.sub_right_comm]; exact Nat.sub_add_cancel (Nat.sub_pos_of_lt h)
theorem down3 {H i : Nat} : H - (i + 1) = H - 1 - i := by rw [Nat.sub_sub, Nat.add_comm]
theorem down4 {H i N : Nat} (h : i < H) (h' : H ≤ N) : H - 1 - i < N := Nat.lt_of_lt_of_le (Nat.lt_of_le_of_lt (Nat.sub_le _ _) (Nat.sub_lt (Nat.lt_of_le_of_lt (Nat.zero_le i) h) (by decide))) h'
theorem half64 {N : Nat} (h : N ≤ 64) : N / 2 < 2 ^ 31 := Nat.lt_of_le_of_lt (Nat.div_le_self N 2) (Nat.lt_of_le_of_lt h (by decide))
set_option maxHeartbeats 4000000 in
theorem hy_spec {w : World} {A : Around} {s : Shared} {b0 : Heap} {L : Addr} {m mg mb : Str → Option Value} {mean : ExcName → Option Value} {p : Program} {loose : List Str} {rest : List (Addr × Obj)}
  (R : Room A 7) (X : (Mine.heapK w.params).In b0) (T : Top p loose mean mg mb b0) (F : Fr b0 L s.heap m) {ha : Addr} {f : Nat → Value × Tr} {ep N : Nat} (hN : N ≤ 64)
  (Nw : News b0 L s.heap ((ha, W.listOf (vals f N).toArray ep) :: rest)) (hne : ∀ q ∈ rest, q.1 ≠ ha) {Q E : Value → Shared → Prop}
  (hT : Trees rest f N)
  (ret : ∀ f' h' tk', Fr b0 L h' m → News b0 L h' ((ha, W.listOf (vals f' N).toArray ep) :: rest) → (lst f' N).Perm (lst f N) → Trees rest f' N → Heapy key f' N 0 → Q .none { s with heap := h', toks := tk' }) :
  wpAny (model PySem.Challenge.rw_ik0182_01.row.prog w) A (call (.ref 42) [.ref ha]) Q E s := by
  obtain ⟨hh, dp, fr, gd, un⟩ := A
  have RR := R
  obtain ⟨hd', hdp, hun⟩ := R
  cases hd'
  revert X; k_fill; intro X
  refine wpAny_call ?_
  k_dflt (refine' enter (binds := [(Str.ofString "x", .ref ha)]) ?F ?X ?N ?T ?ho ?hcd ?room ?bind ?loc ?_ ?c1 ?c2 ?c3 ?c4)
  (((case F => k_asm); (case X => k_asm); (case N => k_asm); (case T => k_asm); (case ho => k_is); (case hcd => k_is); (case room => exact Room.room (by assumption)); (case bind => exact BindsTo.of_eq rfl); (case loc => exact locs rfl); (case c1 => exact rfl); (case c2 => exact rfl); (case c3 => exact rfl); (case c4 => decide)))
  intro g L' h₁ FG F' N' X' T' lt'
  try dsimp only
  try k_fold
  refine let_env (B := execs _) RR ?_
  intro tk0 env A1 RA
  have hl0 : (vals f N).length = N := vals_length
  (repeat' (first | (k_unfold; (try dsimp only)) | (k_end; wrow_close) | ((((fail_if_success (with_reducible show wpAny _ _ (exec (Stmt.While _ _ _ _) _) _ _ _)); (fail_if_success (with_reducible show wpAny _ _ (exec (Stmt.For _ _ _ _ _) _) _ _ _)))); (first | with_reducible (k_here; (with_reducible show wpAny _ _ (call (Value.ref _) _) _ _ _); (k_here; (refine' su_spec ?yR ?yX ?yT ?yF ?yhN ?yNw ?yhne ?yhT ?yhp ?yhpre ?_); (case yF => k_asm); (case yX => k_asm); (case yT => k_asm); (case yNw => k_asm); (case yR => exact Room.less (by assumption) (by decide)); (case yhN => with_reducible assumption); (case yhne => with_reducible assumption); (case yhT => with_reducible assumption); (case yhp => with_reducible assumption); (case yhpre => with_reducible assumption); intro _ _ _ _ _ _ _ _)) | with_reducible (k_here; (with_reducible show wpAny _ _ (call (Value.builtin _) [Value.str _ _, Value.ref _]) _ _ _); (refine join_my (by k_asm) (by with_reducible assumption) (by decide) (by with_reducible assumption) ?_); intro _ _) | with_reducible (k_here; (with_reducible show wpAny _ _ (call (Value.builtin "issubclass") _) _ _ _); (k_here; (refine issub_my (by k_asm) ?_))) | with_reducible (k_here; (with_reducible show wpAny _ _ (truthy (Value.ref _)) _ _ _); (refine truthy_my (by k_asm) (by (first | lia | omega)) ?_); intro _) | with_reducible (k_here; (with_reducible show wpAny _ _ (call (Value.builtin _) [Value.ref _]) _ _ _); (refine pop_my (by k_asm) (by k_asm) (by with_reducible assumption) (by (first | lia | omega)) (by with_reducible assumption) ?_); intro _ _ _ _) | with_reducible (k_here; (with_reducible show wpAny _ _ (call (Value.builtin _) [Value.ref _, _]) _ _ _); (refine append_my (by k_asm) (by k_asm) (by with_reducible assumption) (by (first | lia | omega)) (by first | with_reducible assumption | exact rfl) ?_); intro _ _ _) | with_reducible (k_here; (with_reducible show wpAny _ _ (call (Value.builtin "len") [Value.ref _]) _ _ _); (refine len_at (by k_asm) (by with_reducible assumption) (by (first | lia | omega)) ?_); intro _ _) | with_reducible (k_here; (with_reducible show wpAny _ _ (setItem (Value.ref _) (Value.int _ _) _) _ _ _); (k_here; (first | (refine set_at (by k_asm) (by k_asm) (by with_reducible assumption) (by (first | lia | omega)) (by (first | lia | omega)) ?_) | (refine set_atZ (by k_asm) (by k_asm) (by with_reducible assumption) (by (first | lia | omega)) (by (first | lia | omega)) (by (first | lia | omega)) ?_)); intro _ _ _)) | with_reducible (k_here; (with_reducible show wpAny _ _ (binaryOp Operator.RShift _ _) _ _ _); (k_here; (refine half_at (by (first | lia | omega)) ?_); intro _ _)) | with_reducible (k_here; (with_reducible show wpAny _ _ (compareOp CmpOp.Lt _ _) _ _ _); (k_here; (refine lt_trees (Room.unitsD (by assumption)) (by k_asm) (by with_reducible assumption) (by intro q hq; exact List.mem_cons_of_mem _ hq) (by (first | lia | omega)) (by (first | lia | omega)) (by (first | lia | omega)) ?_); intro _)) | with_reducible (k_here; (with_reducible show wpAny _ _ (subscriptTail _ _ (Value.ref _) (Value.int _ _)) _ _ _); (k_here; (first | (refine get_at (by k_asm) (by (first | lia | omega)) (by with_reducible assumption) ?_ (by with_unfolding_all rfl) (by intro _; with_unfolding_all rfl)) | (refine get_atZ (by k_asm) (by (first | lia | omega)) (by (first | lia | omega)) (by with_reducible assumption) ?_ (by with_unfolding_all rfl) (by intro _; with_unfolding_all rfl))))) | with_reducible (k_here; (with_reducible show wpAny _ _ (subscriptTail _ _ (Value.ref _) (Value.int _ _)) _ _ _); (k_here; (first | (refine get_at (by k_asm) (by (first | lia | omega)) (by with_reducible assumption) ?_ (by with_unfolding_all rfl) (by intro _; with_unfolding_all rfl)) | (refine get_atZ (by k_asm) (by (first | lia | omega)) (by (first | lia | omega)) (by with_reducible assumption) ?_ (by with_unfolding_all rfl) (by intro _; with_unfolding_all rfl))))) | walk1)) | ((((fail_if_success (with_reducible show wpAny _ _ (exec (Stmt.While _ _ _ _) _) _ _ _)); (fail_if_success (with_reducible show wpAny _ _ (exec (Stmt.For _ _ _ _ _) _) _ _ _)))); dsimp only)))
  ((refine For_myF (by k_asm) (by with_unfolding_all rfl) (by with_unfolding_all rfl) ?_ (by intro _; with_unfolding_all rfl) PassesOwn.never))
  (repeat' (first | (k_unfold; (try dsimp only)) | (k_end; wrow_close) | ((((fail_if_success (with_reducible show wpAny _ _ (exec (Stmt.While _ _ _ _) _) _ _ _)); (fail_if_success (with_reducible show wpAny _ _ (exec (Stmt.For _ _ _ _ _) _) _ _ _)))); (first | with_reducible (k_here; (with_reducible show wpAny _ _ (call (Value.ref _) _) _ _ _); (k_here; (refine' su_spec ?yR ?yX ?yT ?yF ?yhN ?yNw ?yhne ?yhT ?yhp ?yhpre ?_); (case yF => k_asm); (case yX => k_asm); (case yT => k_asm); (case yNw => k_asm); (case yR => exact Room.less (by assumption) (by decide)); (case yhN => with_reducible assumption); (case yhne => with_reducible assumption); (case yhT => with_reducible assumption); (case yhp => with_reducible assumption); (case yhpre => with_reducible assumption); intro _ _ _ _ _ _ _ _)) | with_reducible (k_here; (with_reducible show wpAny _ _ (call (Value.builtin _) [Value.str _ _, Value.ref _]) _ _ _); (refine join_my (by k_asm) (by with_reducible assumption) (by decide) (by with_reducible assumption) ?_); intro _ _) | with_reducible (k_here; (with_reducible show wpAny _ _ (call (Value.builtin "issubclass") _) _ _ _); (k_here; (refine issub_my (by k_asm) ?_))) | with_reducible (k_here; (with_reducible show wpAny _ _ (truthy (Value.ref _)) _ _ _); (refine truthy_my (by k_asm) (by (first | lia | omega)) ?_); intro _) | with_reducible (k_here; (with_reducible show wpAny _ _ (call (Value.builtin _) [Value.ref _]) _ _ _); (refine pop_my (by k_asm) (by k_asm) (by with_reducible assumption) (by (first | lia | omega)) (by with_reducible assumption) ?_); intro _ _ _ _) | with_reducible (k_here; (with_reducible show wpAny _ _ (call (Value.builtin _) [Value.ref _, _]) _ _ _); (refine append_my (by k_asm) (by k_asm) (by with_reducible assumption) (by (first | lia | omega)) (by first | with_reducible assumption | exact rfl) ?_); intro _ _ _) | with_reducible (k_here; (with_reducible show wpAny _ _ (call (Value.builtin "len") [Value.ref _]) _ _ _); (refine len_at (by k_asm) (by with_reducible assumption) (by (first | lia | omega)) ?_); intro _ _) | with_reducible (k_here; (with_reducible show wpAny _ _ (setItem (Value.ref _) (Value.int _ _) _) _ _ _); (k_here; (first | (refine set_at (by k_asm) (by k_asm) (by with_reducible assumption) (by (first | lia | omega)) (by (first | lia | omega)) ?_) | (refine set_atZ (by k_asm) (by k_asm) (by with_reducible assumption) (by (first | lia | omega)) (by (first | lia | omega)) (by (first | lia | omega)) ?_)); intro _ _ _)) | with_reducible (k_here; (with_reducible show wpAny _ _ (binaryOp Operator.RShift _ _) _ _ _); (k_here; (refine half_at (by (first | lia | omega)) ?_); intro _ _)) | with_reducible (k_here; (with_reducible show wpAny _ _ (compareOp CmpOp.Lt _ _) _ _ _); (k_here; (refine lt_trees (Room.unitsD (by assumption)) (by k_asm) (by with_reducible assumption) (by intro q hq; exact List.mem_cons_of_mem _ hq) (by (first | lia | omega)) (by (first | lia | omega)) (by (first | lia | omega)) ?_); intro _)) | with_reducible (k_here; (with_reducible show wpAny _ _ (subscriptTail _ _ (Value.ref _) (Value.int _ _)) _ _ _); (k_here; (first | (refine get_at (by k_asm) (by (first | lia | omega)) (by with_reducible assumption) ?_ (by with_unfolding_all rfl) (by intro _; with_unfolding_all rfl)) | (refine get_atZ (by k_asm) (by (first | lia | omega)) (by (first | lia | omega)) (by with_reducible assumption) ?_ (by with_unfolding_all rfl) (by intro _; with_unfolding_all rfl))))) | with_reducible (k_here; (with_reducible show wpAny _ _ (subscriptTail _ _ (Value.ref _) (Value.int _ _)) _ _ _); (k_here; (first | (refine get_at (by k_asm) (by (first | lia | omega)) (by with_reducible assumption) ?_ (by with_unfolding_all rfl) (by intro _; with_unfolding_all rfl)) | (refine get_atZ (by k_asm) (by (first | lia | omega)) (by (first | lia | omega)) (by with_reducible assumption) ?_ (by with_unfolding_all rfl) (by intro _; with_unfolding_all rfl))))) | walk1)) | ((((fail_if_success (with_reducible show wpAny _ _ (exec (Stmt.While _ _ _ _) _) _ _ _)); (fail_if_success (with_reducible show wpAny _ _ (exec (Stmt.For _ _ _ _ _) _) _ _ _)))); dsimp only)))
  rename IsRange _ _ _ _ _ _ _ _ => hr
  rename Fr _ _ _ _ => F1
  rename News _ _ _ _ => N1
  have eb : ((N : Int)).fdiv 2 = ((N / 2 : Nat) : Int) := by rw [Int.fdiv_eq_ediv_of_nonneg _ (by decide)]; rfl
  rw [eb] at hr
  refine call_reversed_range hr rangeSize_nat (by rw [Int.natAbs_natCast]; exact half64 hN) (half64 hN) ?_
  refine wpAny_pyIter_rangeiter (x := ((N / 2 : Nat) : Int) - 1) (left := ((N / 2 : Nat) : Int)) (step := -1) (Heap.get?_push_size _ rfl) ?_
  refine LoopMy.rangeIter (a := ((N / 2 : Nat) : Int) - 1) (c := -1) (n := N / 2) (HyJ ha ep N f rest) rfl (Heap.get?_push_size _ rfl) (F1.push _) (N1.grown fun _ _ e => Heap.get?_push_of_some _ e) (Nat.ne_of_lt F1.ns.lt) (next_is_new F1) (fun p hp => Nat.ne_of_lt (Heap.lt_size (N1 p hp).1)) ⟨f, .refl _, heapy_leaf (by (first | lia | omega)), rfl, by ((refine ovr_of ?_; repeat (first | exact List.forall_mem_nil _ | (refine List.forall_mem_cons.mpr ⟨by with_unfolding_all rfl, ?_⟩))))⟩ ?_ ?_
  · rintro i t m₁ news₁ h tk oI hi ⟨f', hP, hH, rfl, hm⟩ off F2 N2
    rw [hm, down1 hi] at F2
    have N3 := News.sub N2 mem_swap
    have hne' := turn_ne N2 off hne
    have hT1 := turn_trees N2 (hT.perm hP)
    have hp1 : N / 2 - 1 - i < N := down4 hi (Nat.div_le_self N 2)
    have hH1 : Heapy key f' N (N / 2 - 1 - i + 1) := by rw [down2 hi]; exact hH
    (repeat' (first | (k_unfold; (try dsimp only)) | (k_end; wrow_close) | ((((fail_if_success (with_reducible show wpAny _ _ (exec (Stmt.While _ _ _ _) _) _ _ _)); (fail_if_success (with_reducible show wpAny _ _ (exec (Stmt.For _ _ _ _ _) _) _ _ _)))); (first | with_reducible (k_here; (with_reducible show wpAny _ _ (call (Value.ref _) _) _ _ _); (k_here; (refine' su_spec ?yR ?yX ?yT ?yF ?yhN ?yNw ?yhne ?yhT ?yhp ?yhpre ?_); (case yF => k_asm); (case yX => k_asm); (case yT => k_asm); (case yNw => k_asm); (case yR => exact Room.less (by assumption) (by decide)); (case yhN => with_reducible assumption); (case yhne => with_reducible assumption); (case yhT => with_reducible assumption); (case yhp => with_reducible assumption); (case yhpre => with_reducible assumption); intro _ _ _ _ _ _ _ _)) | with_reducible (k_here; (with_reducible show wpAny _ _ (call (Value.builtin _) [Value.str _ _, Value.ref _]) _ _ _); (refine join_my (by k_asm) (by with_reducible assumption) (by decide) (by with_reducible assumption) ?_); intro _ _) | with_reducible (k_here; (with_reducible show wpAny _ _ (call (Value.builtin "issubclass") _) _ _ _); (k_here; (refine issub_my (by k_asm) ?_))) | with_reducible (k_here; (with_reducible show wpAny _ _ (truthy (Value.ref _)) _ _ _); (refine truthy_my (by k_asm) (by (first | lia | omega)) ?_); intro _) | with_reducible (k_here; (with_reducible show wpAny _ _ (call (Value.builtin _) [Value.ref _]) _ _ _); (refine pop_my (by k_asm) (by k_asm) (by with_reducible assumption) (by (first | lia | omega)) (by with_reducible assumption) ?_); intro _ _ _ _) | with_reducible (k_here; (with_reducible show wpAny _ _ (call (Value.builtin _) [Value.ref _, _]) _ _ _); (refine append_my (by k_asm) (by k_asm) (by with_reducible assumption) (by (first | lia | omega)) (by first | with_reducible assumption | exact rfl) ?_); intro _ _ _) | with_reducible (k_here; (with_reducible show wpAny _ _ (call (Value.builtin "len") [Value.ref _]) _ _ _); (refine len_at (by k_asm) (by with_reducible assumption) (by (first | lia | omega)) ?_); intro _ _) | with_reducible (k_here; (with_reducible show wpAny _ _ (setItem (Value.ref _) (Value.int _ _) _) _ _ _); (k_here; (first | (refine set_at (by k_asm) (by k_asm) (by with_reducible assumption) (by (first | lia | omega)) (by (first | lia | omega)) ?_) | (refine set_atZ (by k_asm) (by k_asm) (by with_reducible assumption) (by (first | lia | omega)) (by (first | lia | omega)) (by (first | lia | omega)) ?_)); intro _ _ _)) | with_reducible (k_here; (with_reducible show wpAny _ _ (binaryOp Operator.RShift _ _) _ _ _); (k_here; (refine half_at (by (first | lia | omega)) ?_); intro _ _)) | with_reducible (k_here; (with_reducible show wpAny _ _ (compareOp CmpOp.Lt _ _) _ _ _); (k_here; (refine lt_trees (Room.unitsD (by assumption)) (by k_asm) (by with_reducible assumption) (by intro q hq; exact List.mem_cons_of_mem _ hq) (by (first | lia | omega)) (by (first | lia | omega)) (by (first | lia | omega)) ?_); intro _)) | with_reducible (k_here; (with_reducible show wpAny _ _ (subscriptTail _ _ (Value.ref _) (Value.int _ _)) _ _ _); (k_here; (first | (refine get_at (by k_asm) (by (first | lia | omega)) (by with_reducible assumption) ?_ (by with_unfolding_all rfl) (by intro _; with_unfolding_all rfl)) | (refine get_atZ (by k_asm) (by (first | lia | omega)) (by (first | lia | omega)) (by with_reducible assumption) ?_ (by with_unfolding_all rfl) (by intro _; with_unfolding_all rfl))))) | with_reducible (k_here; (with_reducible show wpAny _ _ (subscriptTail _ _ (Value.ref _) (Value.int _ _)) _ _ _); (k_here; (first | (refine get_at (by k_asm) (by (first | lia | omega)) (by with_reducible assumption) ?_ (by with_unfolding_all rfl) (by intro _; with_unfolding_all rfl)) | (refine get_atZ (by k_asm) (by (first | lia | omega)) (by (first | lia | omega)) (by with_reducible assumption) ?_ (by with_unfolding_all rfl) (by intro _; with_unfolding_all rfl))))) | walk1)) | ((((fail_if_success (with_reducible show wpAny _ _ (exec (Stmt.While _ _ _ _) _) _ _ _)); (fail_if_success (with_reducible show wpAny _ _ (exec (Stmt.For _ _ _ _ _) _) _ _ _)))); dsimp only)))
    rename Fr _ _ _ _ => F4
    rename News _ _ _ _ => N4
    rename Heapy _ _ _ _ => hH4
    rename List.Perm _ _ => hP4
    refine TurnMy.intro (.inl rfl) F4 (News.sub N4 mem_swap) (turn_off off) ⟨_, hP4.trans hP, ?_, rfl, by ((refine ovr_of ?_; repeat (first | exact List.forall_mem_nil _ | (refine List.forall_mem_cons.mpr ⟨by with_unfolding_all rfl, ?_⟩))))⟩
    rw [down3]; exact hH4
  · rintro h tk m₁ news₁ ⟨f', hP, hH, rfl, hm⟩ F2 N2
    (repeat' (first | (k_unfold; (try dsimp only)) | (k_end; wrow_close) | ((((fail_if_success (with_reducible show wpAny _ _ (exec (Stmt.While _ _ _ _) _) _ _ _)); (fail_if_success (with_reducible show wpAny _ _ (exec (Stmt.For _ _ _ _ _) _) _ _ _)))); (first | with_reducible (k_here; (with_reducible show wpAny _ _ (call (Value.ref _) _) _ _ _); (k_here; (refine' su_spec ?yR ?yX ?yT ?yF ?yhN ?yNw ?yhne ?yhT ?yhp ?yhpre ?_); (case yF => k_asm); (case yX => k_asm); (case yT => k_asm); (case yNw => k_asm); (case yR => exact Room.less (by assumption) (by decide)); (case yhN => with_reducible assumption); (case yhne => with_reducible assumption); (case yhT => with_reducible assumption); (case yhp => with_reducible assumption); (case yhpre => with_reducible assumption); intro _ _ _ _ _ _ _ _)) | with_reducible (k_here; (with_reducible show wpAny _ _ (call (Value.builtin _) [Value.str _ _, Value.ref _]) _ _ _); (refine join_my (by k_asm) (by with_reducible assumption) (by decide) (by with_reducible assumption) ?_); intro _ _) | with_reducible (k_here; (with_reducible show wpAny _ _ (call (Value.builtin "issubclass") _) _ _ _); (k_here; (refine issub_my (by k_asm) ?_))) | with_reducible (k_here; (with_reducible show wpAny _ _ (truthy (Value.ref _)) _ _ _); (refine truthy_my (by k_asm) (by (first | lia | omega)) ?_); intro _) | with_reducible (k_here; (with_reducible show wpAny _ _ (call (Value.builtin _) [Value.ref _]) _ _ _); (refine pop_my (by k_asm) (by k_asm) (by with_reducible assumption) (by (first | lia | omega)) (by with_reducible assumption) ?_); intro _ _ _ _) | with_reducible (k_here; (with_reducible show wpAny _ _ (call (Value.builtin _) [Value.ref _, _]) _ _ _); (refine append_my (by k_asm) (by k_asm) (by with_reducible assumption) (by (first | lia | omega)) (by first | with_reducible assumption | exact rfl) ?_); intro _ _ _) | with_reducible (k_here; (with_reducible show wpAny _ _ (call (Value.builtin "len") [Value.ref _]) _ _ _); (refine len_at (by k_asm) (by with_reducible assumption) (by (first | lia | omega)) ?_); intro _ _) | with_reducible (k_here; (with_reducible show wpAny _ _ (setItem (Value.ref _) (Value.int _ _) _) _ _ _); (k_here; (first | (refine set_at (by k_asm) (by k_asm) (by with_reducible assumption) (by (first | lia | omega)) (by (first | lia | omega)) ?_) | (refine set_atZ (by k_asm) (by k_asm) (by with_reducible assumption) (by (first | lia | omega)) (by (first | lia | omega)) (by (first | lia | omega)) ?_)); intro _ _ _)) | with_reducible (k_here; (with_reducible show wpAny _ _ (binaryOp Operator.RShift _ _) _ _ _); (k_here; (refine half_at (by (first | lia | omega)) ?_); intro _ _)) | with_reducible (k_here; (with_reducible show wpAny _ _ (compareOp CmpOp.Lt _ _) _ _ _); (k_here; (refine lt_trees (Room.unitsD (by assumption)) (by k_asm) (by with_reducible assumption) (by intro q hq; exact List.mem_cons_of_mem _ hq) (by (first | lia | omega)) (by (first | lia | omega)) (by (first | lia | omega)) ?_); intro _)) | with_reducible (k_here; (with_reducible show wpAny _ _ (subscriptTail _ _ (Value.ref _) (Value.int _ _)) _ _ _); (k_here; (first | (refine get_at (by k_asm) (by (first | lia | omega)) (by with_reducible assumption) ?_ (by with_unfolding_all rfl) (by intro _; with_unfolding_all rfl)) | (refine get_atZ (by k_asm) (by (first | lia | omega)) (by (first | lia | omega)) (by with_reducible assumption) ?_ (by with_unfolding_all rfl) (by intro _; with_unfolding_all rfl))))) | with_reducible (k_here; (with_reducible show wpAny _ _ (subscriptTail _ _ (Value.ref _) (Value.int _ _)) _ _ _); (k_here; (first | (refine get_at (by k_asm) (by (first | lia | omega)) (by with_reducible assumption) ?_ (by with_unfolding_all rfl) (by intro _; with_unfolding_all rfl)) | (refine get_atZ (by k_asm) (by (first | lia | omega)) (by (first | lia | omega)) (by with_reducible assumption) ?_ (by with_unfolding_all rfl) (by intro _; with_unfolding_all rfl))))) | walk1)) | ((((fail_if_success (with_reducible show wpAny _ _ (exec (Stmt.While _ _ _ _) _) _ _ _)); (fail_if_success (with_reducible show wpAny _ _ (exec (Stmt.For _ _ _ _ _) _) _ _ _)))); dsimp only)))
    rename Fr _ _ _ _ => F4
    rename News _ _ _ _ => N4
    rw [Nat.sub_self] at hH
    exact ret f' _ _ F4 N4 hP (hT.perm hP) hH
end
theorem off_S4 : True := by
  w_top off
  trivial
section
noncomputable def upd (f : Nat → Value × Tr) (n : Nat) (x : Value × Tr) : Nat → Value × Tr := fun i => if i = n then x else f i
theorem lst_upd {f : Nat → Value × Tr} {n : Nat} {x : Value × Tr} : lst (upd f n x) (n + 1) = lst f n ++ [x] := by
  rw [lst_succ]
  congr 1
  · exact lst_congr fun i hi => by simp [upd, Nat.ne_of_lt hi]
  · simp [upd]
theorem vals_upd {f : Nat → Value × Tr} {n : Nat} {x : Value × Tr} : vals f n ++ [x.1] = vals (upd f n x) (n + 1) := by
  have h := congrArg (List.map (·.1)) (lst_upd (f := f) (n := n) (x := x))
  rw [List.map_append, lst_map, lst_map] at h
  exact h.symm
theorem vals_succ {f : Nat → Value × Tr} {n : Nat} : vals f (n + 1) = vals f n ++ [(f n).1] := lst_succ _ _
theorem vals_set0 {f : Nat → Value × Tr} {n : Nat} {x : Value × Tr} : (vals f n).set 0 x.1 = vals (upd f 0 x) n := by
  unfold vals
  rw [lst_set]
  exact lst_congr fun i _ => by unfold upd; split <;> rfl
theorem lst_pop {f : Nat → Value × Tr} {n : Nat} : (f 0 :: lst (upd f 0 (f (n+1))) (n + 1)).Perm (lst f (n + 2)) := by
  rw [lst_cons f (n+1), lst_cons (upd f 0 (f (n+1))) n, lst_succ (fun i => f (i+1)) n]
  refine List.Perm.cons _ ?_
  have e : lst (fun i => upd f 0 (f (n+1)) (i+1)) n = lst (fun i => f (i+1)) n := lst_congr fun i _ => by simp [upd]
  rw [e, show upd f 0 (f (n+1)) 0 = f (n+1) by simp [upd]]
  exact (List.perm_append_comm (l₁ := [f (n+1)]) (l₂ := lst (fun i => f (i+1)) n))
theorem heapy_pop {f : Nat → Value × Tr} {n : Nat} (h : Heapy key f (n + 2) 0) : Heapy key (upd f 0 (f (n+1))) (n + 1) 1 := by
  intro i hi h0 h1
  have := h i (by (first | lia | omega)) h0 (by (first | lia | omega))
  unfold upd
  rw [if_neg (by (first | lia | omega)), if_neg (by (first | lia | omega))]; exact this
theorem presd_push {f : Nat → Value × Tr} {n : Nat} {x : Value × Tr} (h : Heapy key f n 0) : PreSD key (upd f n x) (n + 1) 0 n := by
  refine ⟨fun i hi h0 _ hne => ?_, fun i hi h0 hp hne => by (first | lia | omega)⟩
  unfold upd
  rw [if_neg (by (first | lia | omega)), if_neg (by (first | lia | omega))]
  exact h i (by (first | lia | omega)) h0 (by (first | lia | omega))
section
set_option maxHeartbeats 4000000 in
theorem push_spec {w : World} {A : Around} {s : Shared} {b0 : Heap} {L : Addr} {m mg mb : Str → Option Value} {mean : ExcName → Option Value} {p : Program} {loose : List Str} {rest : List (Addr × Obj)}
  (R : Room A 5) (X : (Mine.heapK w.params).In b0) (T : Top p loose mean mg mb b0) (F : Fr b0 L s.heap m) {ha : Addr} {f : Nat → Value × Tr} {ep N : Nat} {x : Value × Tr} (hN : N < 64)
  (Nw : News b0 L s.heap ((ha, W.listOf (vals f N).toArray ep) :: rest)) (hne : ∀ q ∈ rest, q.1 ≠ ha) {Q E : Value → Shared → Prop}
  (hT : Trees rest (upd f N x) (N + 1)) (hH : Heapy key f N 0)
  (ret : ∀ f' ep' h' tk', Fr b0 L h' m → News b0 L h' ((ha, W.listOf (vals f' (N + 1)).toArray ep') :: rest) → (lst f' (N + 1)).Perm (lst f N ++ [x]) → Heapy key f' (N + 1) 0 → Q .none { s with heap := h', toks := tk' }) :
  wpAny (model PySem.Challenge.rw_ik0182_01.row.prog w) A (call (.ref 28) [.ref ha, x.1]) Q E s := by
  obtain ⟨hh, dp, fr, gd, un⟩ := A
  have RR := R
  obtain ⟨hd', hdp, hun⟩ := R
  cases hd'
  revert X; k_fill; intro X
  refine wpAny_call ?_
  k_dflt (refine' enter (binds := [(Str.ofString "heap", .ref ha), (Str.ofString "item", x.1)]) ?F ?X ?N ?T ?ho ?hcd ?room ?bind ?loc ?_ ?c1 ?c2 ?c3 ?c4)
  (((case F => k_asm); (case X => k_asm); (case N => k_asm); (case T => k_asm); (case ho => k_is); (case hcd => k_is); (case room => exact Room.room (by assumption)); (case bind => exact BindsTo.of_eq rfl); (case loc => exact locs rfl); (case c1 => exact rfl); (case c2 => exact rfl); (case c3 => exact rfl); (case c4 => decide)))
  intro g L' h₁ FG F' N' X' T' lt'
  try dsimp only
  try k_fold
  refine let_env (B := execs _) RR ?_
  intro tk0 env A1 RA
  have hl0 : (vals f N).length = N := vals_length
  have hl1 : (vals (upd f N x) (N + 1)).length = N + 1 := vals_length
  have e1 : vals f N ++ [x.1] = vals (upd f N x) (N + 1) := vals_upd
  have hpre := presd_push (x := x) hH
  (repeat' (first | (k_unfold; (try dsimp only)) | (k_end; wrow_close) | ((((fail_if_success (with_reducible show wpAny _ _ (exec (Stmt.While _ _ _ _) _) _ _ _)); (fail_if_success (with_reducible show wpAny _ _ (exec (Stmt.For _ _ _ _ _) _) _ _ _)))); (first | with_reducible (k_here; (with_reducible show wpAny _ _ (call (Value.ref _) _) _ _ _); (k_here; (refine' su_spec ?yR ?yX ?yT ?yF ?yhN ?yNw ?yhne ?yhT ?yhp ?yhpre ?_); (case yF => k_asm); (case yX => k_asm); (case yT => k_asm); (case yNw => k_asm); (case yR => exact Room.less (by assumption) (by decide)); (case yhN => (first | lia | omega)); (case yhne => with_reducible assumption); (case yhT => with_reducible assumption); (case yhp => (first | lia | omega)); (case yhpre => with_reducible assumption); intro _ _ _ _ _ _ _ _)) | with_reducible (k_here; (with_reducible show wpAny _ _ (call (Value.ref _) _) _ _ _); (k_here; (refine' sd_spec ?yR ?yX ?yT ?yF ?yhN ?yNw ?yhne ?yhT ?yhp ?yhd ?yhpre ?_); (case yF => k_asm); (case yX => k_asm); (case yT => k_asm); (case yNw => k_asm); (case yR => exact Room.less (by assumption) (by decide)); (case yhN => (first | lia | omega)); (case yhne => with_reducible assumption); (case yhT => with_reducible assumption); (case yhp => (first | lia | omega)); (case yhd => exact Desc.zero _); (case yhpre => with_reducible assumption); intro _ _ _ _ _ _ _ _)) | with_reducible (k_here; (with_reducible show wpAny _ _ (call (Value.builtin _) [Value.str _ _, Value.ref _]) _ _ _); (refine join_my (by k_asm) (by with_reducible assumption) (by decide) (by with_reducible assumption) ?_); intro _ _) | with_reducible (k_here; (with_reducible show wpAny _ _ (call (Value.builtin "issubclass") _) _ _ _); (k_here; (refine issub_my (by k_asm) ?_))) | with_reducible (k_here; (with_reducible show wpAny _ _ (truthy (Value.ref _)) _ _ _); (refine truthy_my (by k_asm) (by (first | lia | omega)) ?_); intro _) | with_reducible (k_here; (with_reducible show wpAny _ _ (call (Value.builtin _) [Value.ref _]) _ _ _); (refine pop_my (by k_asm) (by k_asm) (by with_reducible assumption) (by (first | lia | omega)) (by with_reducible assumption) ?_); intro _ _ _ _) | with_reducible (k_here; (with_reducible show wpAny _ _ (call (Value.builtin _) [Value.ref _, _]) _ _ _); (refine append_my (by k_asm) (by k_asm) (by with_reducible assumption) (by (first | lia | omega)) (by first | with_reducible assumption | exact rfl) ?_); intro _ _ _) | with_reducible (k_here; (with_reducible show wpAny _ _ (call (Value.builtin "len") [Value.ref _]) _ _ _); (refine len_at (by k_asm) (by with_reducible assumption) (by (first | lia | omega)) ?_); intro _ _) | with_reducible (k_here; (with_reducible show wpAny _ _ (setItem (Value.ref _) (Value.int _ _) _) _ _ _); (k_here; (first | (refine set_at (by k_asm) (by k_asm) (by with_reducible assumption) (by (first | lia | omega)) (by (first | lia | omega)) ?_) | (refine set_atZ (by k_asm) (by k_asm) (by with_reducible assumption) (by (first | lia | omega)) (by (first | lia | omega)) (by (first | lia | omega)) ?_)); intro _ _ _)) | with_reducible (k_here; (with_reducible show wpAny _ _ (binaryOp Operator.RShift _ _) _ _ _); (k_here; (refine half_at (by (first | lia | omega)) ?_); intro _ _)) | with_reducible (k_here; (with_reducible show wpAny _ _ (compareOp CmpOp.Lt _ _) _ _ _); (k_here; (refine lt_trees (Room.unitsD (by assumption)) (by k_asm) (by with_reducible assumption) (by intro q hq; exact List.mem_cons_of_mem _ hq) (by (first | lia | omega)) (by (first | lia | omega)) (by (first | lia | omega)) ?_); intro _)) | with_reducible (k_here; (with_reducible show wpAny _ _ (subscriptTail _ _ (Value.ref _) (Value.int _ _)) _ _ _); (k_here; (first | (refine get_at (by k_asm) (by (first | lia | omega)) (by with_reducible assumption) ?_ (by with_unfolding_all rfl) (by intro _; with_unfolding_all rfl)) | (refine get_atZ (by k_asm) (by (first | lia | omega)) (by (first | lia | omega)) (by with_reducible assumption) ?_ (by with_unfolding_all rfl) (by intro _; with_unfolding_all rfl))))) | with_reducible (k_here; (with_reducible show wpAny _ _ (subscriptTail _ _ (Value.ref _) (Value.int _ _)) _ _ _); (k_here; (first | (refine get_at (by k_asm) (by (first | lia | omega)) (by with_reducible assumption) ?_ (by with_unfolding_all rfl) (by intro _; with_unfolding_all rfl)) | (refine get_atZ (by k_asm) (by (first | lia | omega)) (by (first | lia | omega)) (by with_reducible assumption) ?_ (by with_unfolding_all rfl) (by intro _; with_unfolding_all rfl))))) | walk1)) | ((((fail_if_success (with_reducible show wpAny _ _ (exec (Stmt.While _ _ _ _) _) _ _ _)); (fail_if_success (with_reducible show wpAny _ _ (exec (Stmt.For _ _ _ _ _) _) _ _ _)))); dsimp only)))
  rw [show ((N + 1 : Nat) : Int) - 1 = (N : Int) by (first | lia | omega), show (0 : Int) = ((0 : Nat) : Int) from rfl]
  (repeat' (first | (k_unfold; (try dsimp only)) | (k_end; wrow_close) | ((((fail_if_success (with_reducible show wpAny _ _ (exec (Stmt.While _ _ _ _) _) _ _ _)); (fail_if_success (with_reducible show wpAny _ _ (exec (Stmt.For _ _ _ _ _) _) _ _ _)))); (first | with_reducible (k_here; (with_reducible show wpAny _ _ (call (Value.ref _) _) _ _ _); (k_here; (refine' su_spec ?yR ?yX ?yT ?yF ?yhN ?yNw ?yhne ?yhT ?yhp ?yhpre ?_); (case yF => k_asm); (case yX => k_asm); (case yT => k_asm); (case yNw => k_asm); (case yR => exact Room.less (by assumption) (by decide)); (case yhN => (first | lia | omega)); (case yhne => with_reducible assumption); (case yhT => with_reducible assumption); (case yhp => (first | lia | omega)); (case yhpre => with_reducible assumption); intro _ _ _ _ _ _ _ _)) | with_reducible (k_here; (with_reducible show wpAny _ _ (call (Value.ref _) _) _ _ _); (k_here; (refine' sd_spec ?yR ?yX ?yT ?yF ?yhN ?yNw ?yhne ?yhT ?yhp ?yhd ?yhpre ?_); (case yF => k_asm); (case yX => k_asm); (case yT => k_asm); (case yNw => k_asm); (case yR => exact Room.less (by assumption) (by decide)); (case yhN => (first | lia | omega)); (case yhne => with_reducible assumption); (case yhT => with_reducible assumption); (case yhp => (first | lia | omega)); (case yhd => exact Desc.zero _); (case yhpre => with_reducible assumption); intro _ _ _ _ _ _ _ _)) | with_reducible (k_here; (with_reducible show wpAny _ _ (call (Value.builtin _) [Value.str _ _, Value.ref _]) _ _ _); (refine join_my (by k_asm) (by with_reducible assumption) (by decide) (by with_reducible assumption) ?_); intro _ _) | with_reducible (k_here; (with_reducible show wpAny _ _ (call (Value.builtin "issubclass") _) _ _ _); (k_here; (refine issub_my (by k_asm) ?_))) | with_reducible (k_here; (with_reducible show wpAny _ _ (truthy (Value.ref _)) _ _ _); (refine truthy_my (by k_asm) (by (first | lia | omega)) ?_); intro _) | with_reducible (k_here; (with_reducible show wpAny _ _ (call (Value.builtin _) [Value.ref _]) _ _ _); (refine pop_my (by k_asm) (by k_asm) (by with_reducible assumption) (by (first | lia | omega)) (by with_reducible assumption) ?_); intro _ _ _ _) | with_reducible (k_here; (with_reducible show wpAny _ _ (call (Value.builtin _) [Value.ref _, _]) _ _ _); (refine append_my (by k_asm) (by k_asm) (by with_reducible assumption) (by (first | lia | omega)) (by first | with_reducible assumption | exact rfl) ?_); intro _ _ _) | with_reducible (k_here; (with_reducible show wpAny _ _ (call (Value.builtin "len") [Value.ref _]) _ _ _); (refine len_at (by k_asm) (by with_reducible assumption) (by (first | lia | omega)) ?_); intro _ _) | with_reducible (k_here; (with_reducible show wpAny _ _ (setItem (Value.ref _) (Value.int _ _) _) _ _ _); (k_here; (first | (refine set_at (by k_asm) (by k_asm) (by with_reducible assumption) (by (first | lia | omega)) (by (first | lia | omega)) ?_) | (refine set_atZ (by k_asm) (by k_asm) (by with_reducible assumption) (by (first | lia | omega)) (by (first | lia | omega)) (by (first | lia | omega)) ?_)); intro _ _ _)) | with_reducible (k_here; (with_reducible show wpAny _ _ (binaryOp Operator.RShift _ _) _ _ _); (k_here; (refine half_at (by (first | lia | omega)) ?_); intro _ _)) | with_reducible (k_here; (with_reducible show wpAny _ _ (compareOp CmpOp.Lt _ _) _ _ _); (k_here; (refine lt_trees (Room.unitsD (by assumption)) (by k_asm) (by with_reducible assumption) (by intro q hq; exact List.mem_cons_of_mem _ hq) (by (first | lia | omega)) (by (first | lia | omega)) (by (first | lia | omega)) ?_); intro _)) | with_reducible (k_here; (with_reducible show wpAny _ _ (subscriptTail _ _ (Value.ref _) (Value.int _ _)) _ _ _); (k_here; (first | (refine get_at (by k_asm) (by (first | lia | omega)) (by with_reducible assumption) ?_ (by with_unfolding_all rfl) (by intro _; with_unfolding_all rfl)) | (refine get_atZ (by k_asm) (by (first | lia | omega)) (by (first | lia | omega)) (by with_reducible assumption) ?_ (by with_unfolding_all rfl) (by intro _; with_unfolding_all rfl))))) | with_reducible (k_here; (with_reducible show wpAny _ _ (subscriptTail _ _ (Value.ref _) (Value.int _ _)) _ _ _); (k_here; (first | (refine get_at (by k_asm) (by (first | lia | omega)) (by with_reducible assumption) ?_ (by with_unfolding_all rfl) (by intro _; with_unfolding_all rfl)) | (refine get_atZ (by k_asm) (by (first | lia | omega)) (by (first | lia | omega)) (by with_reducible assumption) ?_ (by with_unfolding_all rfl) (by intro _; with_unfolding_all rfl))))) | walk1)) | ((((fail_if_success (with_reducible show wpAny _ _ (exec (Stmt.While _ _ _ _) _) _ _ _)); (fail_if_success (with_reducible show wpAny _ _ (exec (Stmt.For _ _ _ _ _) _) _ _ _)))); dsimp only)))
  rename Fr _ _ _ _ => F3
  rename News _ _ _ _ => N3
  rename Heapy _ _ _ _ => hH3
  rename List.Perm _ _ => hP
  exact ret _ _ _ _ F3 N3 (lst_upd ▸ hP) hH3
end
section
set_option maxHeartbeats 4000000 in
theorem pop_spec {w : World} {A : Around} {s : Shared} {b0 : Heap} {L : Addr} {m mg mb : Str → Option Value} {mean : ExcName → Option Value} {p : Program} {loose : List Str} {rest : List (Addr × Obj)}
  (R : Room A 7) (X : (Mine.heapK w.params).In b0) (T : Top p loose mean mg mb b0) (F : Fr b0 L s.heap m) {ha : Addr} {f : Nat → Value × Tr} {ep N : Nat} (hN : N < 64)
  (Nw : News b0 L s.heap ((ha, W.listOf (vals f (N + 1)).toArray ep) :: rest)) (hne : ∀ q ∈ rest, q.1 ≠ ha) {Q E : Value → Shared → Prop}
  (hT : Trees rest f (N + 1)) (hH : Heapy key f (N + 1) 0)
  (ret : ∀ x f' ep' h' tk', Fr b0 L h' m → News b0 L h' ((ha, W.listOf (vals f' N).toArray ep') :: rest) → (x :: lst f' N).Perm (lst f (N + 1)) → Heapy key f' N 0 → (∀ i, i < N → key x ≤ key (f' i)) → Q x.1 { s with heap := h', toks := tk' }) :
  wpAny (model PySem.Challenge.rw_ik0182_01.row.prog w) A (call (.ref 35) [.ref ha]) Q E s := by
  obtain ⟨hh, dp, fr, gd, un⟩ := A
  have RR := R
  obtain ⟨hd', hdp, hun⟩ := R
  cases hd'
  revert X; k_fill; intro X
  refine wpAny_call ?_
  k_dflt (refine' enter (binds := [(Str.ofString "heap", .ref ha)]) ?F ?X ?N ?T ?ho ?hcd ?room ?bind ?loc ?_ ?c1 ?c2 ?c3 ?c4)
  (((case F => k_asm); (case X => k_asm); (case N => k_asm); (case T => k_asm); (case ho => k_is); (case hcd => k_is); (case room => exact Room.room (by assumption)); (case bind => exact BindsTo.of_eq rfl); (case loc => exact locs rfl); (case c1 => exact rfl); (case c2 => exact rfl); (case c3 => exact rfl); (case c4 => decide)))
  intro g L' h₁ FG F' N' X' T' lt'
  try dsimp only
  try k_fold
  refine let_env (B := execs _) RR ?_
  intro tk0 env A1 RA
  have hl0 : (vals f (N + 1)).length = N + 1 := vals_length
  have hl1 : (vals f N).length = N := vals_length
  have e1 : vals f (N + 1) = vals f N ++ [(f N).1] := vals_succ
  cases N with
  | zero =>
    (repeat' (first | (k_unfold; (try dsimp only)) | (k_end; wrow_close) | ((((fail_if_success (with_reducible show wpAny _ _ (exec (Stmt.While _ _ _ _) _) _ _ _)); (fail_if_success (with_reducible show wpAny _ _ (exec (Stmt.For _ _ _ _ _) _) _ _ _)))); (first | with_reducible (k_here; (with_reducible show wpAny _ _ (call (Value.ref _) _) _ _ _); (k_here; (refine' su_spec ?yR ?yX ?yT ?yF ?yhN ?yNw ?yhne ?yhT ?yhp ?yhpre ?_); (case yF => k_asm); (case yX => k_asm); (case yT => k_asm); (case yNw => k_asm); (case yR => exact Room.less (by assumption) (by decide)); (case yhN => (first | lia | omega)); (case yhne => with_reducible assumption); (case yhT => with_reducible assumption); (case yhp => (first | lia | omega)); (case yhpre => with_reducible assumption); intro _ _ _ _ _ _ _ _)) | with_reducible (k_here; (with_reducible show wpAny _ _ (call (Value.ref _) _) _ _ _); (k_here; (refine' sd_spec ?yR ?yX ?yT ?yF ?yhN ?yNw ?yhne ?yhT ?yhp ?yhd ?yhpre ?_); (case yF => k_asm); (case yX => k_asm); (case yT => k_asm); (case yNw => k_asm); (case yR => exact Room.less (by assumption) (by decide)); (case yhN => (first | lia | omega)); (case yhne => with_reducible assumption); (case yhT => with_reducible assumption); (case yhp => (first | lia | omega)); (case yhd => exact Desc.zero _); (case yhpre => with_reducible assumption); intro _ _ _ _ _ _ _ _)) | with_reducible (k_here; (with_reducible show wpAny _ _ (call (Value.builtin _) [Value.str _ _, Value.ref _]) _ _ _); (refine join_my (by k_asm) (by with_reducible assumption) (by decide) (by with_reducible assumption) ?_); intro _ _) | with_reducible (k_here; (with_reducible show wpAny _ _ (call (Value.builtin "issubclass") _) _ _ _); (k_here; (refine issub_my (by k_asm) ?_))) | with_reducible (k_here; (with_reducible show wpAny _ _ (truthy (Value.ref _)) _ _ _); (refine truthy_my (by k_asm) (by (first | lia | omega)) ?_); intro _) | with_reducible (k_here; (with_reducible show wpAny _ _ (call (Value.builtin _) [Value.ref _]) _ _ _); (refine pop_my (by k_asm) (by k_asm) (by with_reducible assumption) (by (first | lia | omega)) (by with_reducible assumption) ?_); intro _ _ _ _) | with_reducible (k_here; (with_reducible show wpAny _ _ (call (Value.builtin _) [Value.ref _, _]) _ _ _); (refine append_my (by k_asm) (by k_asm) (by with_reducible assumption) (by (first | lia | omega)) (by first | with_reducible assumption | exact rfl) ?_); intro _ _ _) | with_reducible (k_here; (with_reducible show wpAny _ _ (call (Value.builtin "len") [Value.ref _]) _ _ _); (refine len_at (by k_asm) (by with_reducible assumption) (by (first | lia | omega)) ?_); intro _ _) | with_reducible (k_here; (with_reducible show wpAny _ _ (setItem (Value.ref _) (Value.int _ _) _) _ _ _); (k_here; (first | (refine set_at (by k_asm) (by k_asm) (by with_reducible assumption) (by (first | lia | omega)) (by (first | lia | omega)) ?_) | (refine set_atZ (by k_asm) (by k_asm) (by with_reducible assumption) (by (first | lia | omega)) (by (first | lia | omega)) (by (first | lia | omega)) ?_)); intro _ _ _)) | with_reducible (k_here; (with_reducible show wpAny _ _ (binaryOp Operator.RShift _ _) _ _ _); (k_here; (refine half_at (by (first | lia | omega)) ?_); intro _ _)) | with_reducible (k_here; (with_reducible show wpAny _ _ (compareOp CmpOp.Lt _ _) _ _ _); (k_here; (refine lt_trees (Room.unitsD (by assumption)) (by k_asm) (by with_reducible assumption) (by intro q hq; exact List.mem_cons_of_mem _ hq) (by (first | lia | omega)) (by (first | lia | omega)) (by (first | lia | omega)) ?_); intro _)) | with_reducible (k_here; (with_reducible show wpAny _ _ (subscriptTail _ _ (Value.ref _) (Value.int _ _)) _ _ _); (k_here; (first | (refine get_at (by k_asm) (by (first | lia | omega)) (by with_reducible assumption) ?_ (by with_unfolding_all rfl) (by intro _; with_unfolding_all rfl)) | (refine get_atZ (by k_asm) (by (first | lia | omega)) (by (first | lia | omega)) (by with_reducible assumption) ?_ (by with_unfolding_all rfl) (by intro _; with_unfolding_all rfl))))) | with_reducible (k_here; (with_reducible show wpAny _ _ (subscriptTail _ _ (Value.ref _) (Value.int _ _)) _ _ _); (k_here; (first | (refine get_at (by k_asm) (by (first | lia | omega)) (by with_reducible assumption) ?_ (by with_unfolding_all rfl) (by intro _; with_unfolding_all rfl)) | (refine get_atZ (by k_asm) (by (first | lia | omega)) (by (first | lia | omega)) (by with_reducible assumption) ?_ (by with_unfolding_all rfl) (by intro _; with_unfolding_all rfl))))) | walk1)) | ((((fail_if_success (with_reducible show wpAny _ _ (exec (Stmt.While _ _ _ _) _) _ _ _)); (fail_if_success (with_reducible show wpAny _ _ (exec (Stmt.For _ _ _ _ _) _) _ _ _)))); dsimp only)))
    rename Fr _ _ _ _ => F3
    rename News _ _ _ _ => N3
    exact ret (f 0) f _ _ _ F3 N3 (.refl _) (fun i hi => absurd hi (Nat.not_lt_zero _)) (fun i hi => absurd hi (Nat.not_lt_zero _))
  | succ n =>
    have hx0 : (vals f (n + 1))[(0 : Int).toNat]? = some (f 0).1 := lst_get (by (first | lia | omega))
    have hperm0 := lst_pop (f := f) (n := n)
    have hT1 : Trees rest (upd f 0 (f (n + 1))) (n + 1) := by
      have e : lst (fun i => if i = 0 then f 0 else upd f 0 (f (n + 1)) (i - 1)) (n + 1 + 1) = f 0 :: lst (upd f 0 (f (n + 1))) (n + 1) := by
        rw [lst_cons]; simp
      have T0 : Trees rest (fun i => if i = 0 then f 0 else upd f 0 (f (n + 1)) (i - 1)) (n + 1 + 1) := hT.perm (e ▸ hperm0)
      exact ⟨fun i hi => by simpa using T0.isin (i + 1) (Nat.succ_lt_succ hi), fun i hi => by simpa using T0.small (i + 1) (Nat.succ_lt_succ hi), fun i j hi hj hne => by simpa using T0.apart (i + 1) (j + 1) (Nat.succ_lt_succ hi) (Nat.succ_lt_succ hj) (fun e => hne (Nat.succ.inj e))⟩
    have hpre : Heapy key (upd f 0 (f (n + 1))) (n + 1) (0 + 1) := heapy_pop hH
    have hmin := heap_min hH
    (repeat' (first | (k_unfold; (try dsimp only)) | (k_end; wrow_close) | ((((fail_if_success (with_reducible show wpAny _ _ (exec (Stmt.While _ _ _ _) _) _ _ _)); (fail_if_success (with_reducible show wpAny _ _ (exec (Stmt.For _ _ _ _ _) _) _ _ _)))); (first | with_reducible (k_here; (with_reducible show wpAny _ _ (call (Value.ref _) _) _ _ _); (k_here; (refine' su_spec ?yR ?yX ?yT ?yF ?yhN ?yNw ?yhne ?yhT ?yhp ?yhpre ?_); (case yF => k_asm); (case yX => k_asm); (case yT => k_asm); (case yNw => k_asm); (case yR => exact Room.less (by assumption) (by decide)); (case yhN => (first | lia | omega)); (case yhne => with_reducible assumption); (case yhT => with_reducible assumption); (case yhp => (first | lia | omega)); (case yhpre => with_reducible assumption); intro _ _ _ _ _ _ _ _)) | with_reducible (k_here; (with_reducible show wpAny _ _ (call (Value.ref _) _) _ _ _); (k_here; (refine' sd_spec ?yR ?yX ?yT ?yF ?yhN ?yNw ?yhne ?yhT ?yhp ?yhd ?yhpre ?_); (case yF => k_asm); (case yX => k_asm); (case yT => k_asm); (case yNw => k_asm); (case yR => exact Room.less (by assumption) (by decide)); (case yhN => (first | lia | omega)); (case yhne => with_reducible assumption); (case yhT => with_reducible assumption); (case yhp => (first | lia | omega)); (case yhd => exact Desc.zero _); (case yhpre => with_reducible assumption); intro _ _ _ _ _ _ _ _)) | with_reducible (k_here; (with_reducible show wpAny _ _ (call (Value.builtin _) [Value.str _ _, Value.ref _]) _ _ _); (refine join_my (by k_asm) (by with_reducible assumption) (by decide) (by with_reducible assumption) ?_); intro _ _) | with_reducible (k_here; (with_reducible show wpAny _ _ (call (Value.builtin "issubclass") _) _ _ _); (k_here; (refine issub_my (by k_asm) ?_))) | with_reducible (k_here; (with_reducible show wpAny _ _ (truthy (Value.ref _)) _ _ _); (refine truthy_my (by k_asm) (by (first | lia | omega)) ?_); intro _) | with_reducible (k_here; (with_reducible show wpAny _ _ (call (Value.builtin _) [Value.ref _]) _ _ _); (refine pop_my (by k_asm) (by k_asm) (by with_reducible assumption) (by (first | lia | omega)) (by with_reducible assumption) ?_); intro _ _ _ _) | with_reducible (k_here; (with_reducible show wpAny _ _ (call (Value.builtin _) [Value.ref _, _]) _ _ _); (refine append_my (by k_asm) (by k_asm) (by with_reducible assumption) (by (first | lia | omega)) (by first | with_reducible assumption | exact rfl) ?_); intro _ _ _) | with_reducible (k_here; (with_reducible show wpAny _ _ (call (Value.builtin "len") [Value.ref _]) _ _ _); (refine len_at (by k_asm) (by with_reducible assumption) (by (first | lia | omega)) ?_); intro _ _) | with_reducible (k_here; (with_reducible show wpAny _ _ (setItem (Value.ref _) (Value.int _ _) _) _ _ _); (k_here; (first | (refine set_at (by k_asm) (by k_asm) (by with_reducible assumption) (by (first | lia | omega)) (by (first | lia | omega)) ?_) | (refine set_atZ (by k_asm) (by k_asm) (by with_reducible assumption) (by (first | lia | omega)) (by (first | lia | omega)) (by (first | lia | omega)) ?_)); intro _ _ _)) | with_reducible (k_here; (with_reducible show wpAny _ _ (binaryOp Operator.RShift _ _) _ _ _); (k_here; (refine half_at (by (first | lia | omega)) ?_); intro _ _)) | with_reducible (k_here; (with_reducible show wpAny _ _ (compareOp CmpOp.Lt _ _) _ _ _); (k_here; (refine lt_trees (Room.unitsD (by assumption)) (by k_asm) (by with_reducible assumption) (by intro q hq; exact List.mem_cons_of_mem _ hq) (by (first | lia | omega)) (by (first | lia | omega)) (by (first | lia | omega)) ?_); intro _)) | with_reducible (k_here; (with_reducible show wpAny _ _ (subscriptTail _ _ (Value.ref _) (Value.int _ _)) _ _ _); (k_here; (first | (refine get_at (by k_asm) (by (first | lia | omega)) (by with_reducible assumption) ?_ (by with_unfolding_all rfl) (by intro _; with_unfolding_all rfl)) | (refine get_atZ (by k_asm) (by (first | lia | omega)) (by (first | lia | omega)) (by with_reducible assumption) ?_ (by with_unfolding_all rfl) (by intro _; with_unfolding_all rfl))))) | with_reducible (k_here; (with_reducible show wpAny _ _ (subscriptTail _ _ (Value.ref _) (Value.int _ _)) _ _ _); (k_here; (first | (refine get_at (by k_asm) (by (first | lia | omega)) (by with_reducible assumption) ?_ (by with_unfolding_all rfl) (by intro _; with_unfolding_all rfl)) | (refine get_atZ (by k_asm) (by (first | lia | omega)) (by (first | lia | omega)) (by with_reducible assumption) ?_ (by with_unfolding_all rfl) (by intro _; with_unfolding_all rfl))))) | walk1)) | ((((fail_if_success (with_reducible show wpAny _ _ (exec (Stmt.While _ _ _ _) _) _ _ _)); (fail_if_success (with_reducible show wpAny _ _ (exec (Stmt.For _ _ _ _ _) _) _ _ _)))); dsimp only)))
    rename News _ _ _ _ => N3
    (try rw [show (0 : Int).toNat = 0 from rfl] at N3)
    rw [vals_set0] at N3
    rw [show (0 : Int) = ((0 : Nat) : Int) from rfl]
    (repeat' (first | (k_unfold; (try dsimp only)) | (k_end; wrow_close) | ((((fail_if_success (with_reducible show wpAny _ _ (exec (Stmt.While _ _ _ _) _) _ _ _)); (fail_if_success (with_reducible show wpAny _ _ (exec (Stmt.For _ _ _ _ _) _) _ _ _)))); (first | with_reducible (k_here; (with_reducible show wpAny _ _ (call (Value.ref _) _) _ _ _); (k_here; (refine' su_spec ?yR ?yX ?yT ?yF ?yhN ?yNw ?yhne ?yhT ?yhp ?yhpre ?_); (case yF => k_asm); (case yX => k_asm); (case yT => k_asm); (case yNw => k_asm); (case yR => exact Room.less (by assumption) (by decide)); (case yhN => (first | lia | omega)); (case yhne => with_reducible assumption); (case yhT => with_reducible assumption); (case yhp => (first | lia | omega)); (case yhpre => with_reducible assumption); intro _ _ _ _ _ _ _ _)) | with_reducible (k_here; (with_reducible show wpAny _ _ (call (Value.ref _) _) _ _ _); (k_here; (refine' sd_spec ?yR ?yX ?yT ?yF ?yhN ?yNw ?yhne ?yhT ?yhp ?yhd ?yhpre ?_); (case yF => k_asm); (case yX => k_asm); (case yT => k_asm); (case yNw => k_asm); (case yR => exact Room.less (by assumption) (by decide)); (case yhN => (first | lia | omega)); (case yhne => with_reducible assumption); (case yhT => with_reducible assumption); (case yhp => (first | lia | omega)); (case yhd => exact Desc.zero _); (case yhpre => with_reducible assumption); intro _ _ _ _ _ _ _ _)) | with_reducible (k_here; (with_reducible show wpAny _ _ (call (Value.builtin _) [Value.str _ _, Value.ref _]) _ _ _); (refine join_my (by k_asm) (by with_reducible assumption) (by decide) (by with_reducible assumption) ?_); intro _ _) | with_reducible (k_here; (with_reducible show wpAny _ _ (call (Value.builtin "issubclass") _) _ _ _); (k_here; (refine issub_my (by k_asm) ?_))) | with_reducible (k_here; (with_reducible show wpAny _ _ (truthy (Value.ref _)) _ _ _); (refine truthy_my (by k_asm) (by (first | lia | omega)) ?_); intro _) | with_reducible (k_here; (with_reducible show wpAny _ _ (call (Value.builtin _) [Value.ref _]) _ _ _); (refine pop_my (by k_asm) (by k_asm) (by with_reducible assumption) (by (first | lia | omega)) (by with_reducible assumption) ?_); intro _ _ _ _) | with_reducible (k_here; (with_reducible show wpAny _ _ (call (Value.builtin _) [Value.ref _, _]) _ _ _); (refine append_my (by k_asm) (by k_asm) (by with_reducible assumption) (by (first | lia | omega)) (by first | with_reducible assumption | exact rfl) ?_); intro _ _ _) | with_reducible (k_here; (with_reducible show wpAny _ _ (call (Value.builtin "len") [Value.ref _]) _ _ _); (refine len_at (by k_asm) (by with_reducible assumption) (by (first | lia | omega)) ?_); intro _ _) | with_reducible (k_here; (with_reducible show wpAny _ _ (setItem (Value.ref _) (Value.int _ _) _) _ _ _); (k_here; (first | (refine set_at (by k_asm) (by k_asm) (by with_reducible assumption) (by (first | lia | omega)) (by (first | lia | omega)) ?_) | (refine set_atZ (by k_asm) (by k_asm) (by with_reducible assumption) (by (first | lia | omega)) (by (first | lia | omega)) (by (first | lia | omega)) ?_)); intro _ _ _)) | with_reducible (k_here; (with_reducible show wpAny _ _ (binaryOp Operator.RShift _ _) _ _ _); (k_here; (refine half_at (by (first | lia | omega)) ?_); intro _ _)) | with_reducible (k_here; (with_reducible show wpAny _ _ (compareOp CmpOp.Lt _ _) _ _ _); (k_here; (refine lt_trees (Room.unitsD (by assumption)) (by k_asm) (by with_reducible assumption) (by intro q hq; exact List.mem_cons_of_mem _ hq) (by (first | lia | omega)) (by (first | lia | omega)) (by (first | lia | omega)) ?_); intro _)) | with_reducible (k_here; (with_reducible show wpAny _ _ (subscriptTail _ _ (Value.ref _) (Value.int _ _)) _ _ _); (k_here; (first | (refine get_at (by k_asm) (by (first | lia | omega)) (by with_reducible assumption) ?_ (by with_unfolding_all rfl) (by intro _; with_unfolding_all rfl)) | (refine get_atZ (by k_asm) (by (first | lia | omega)) (by (first | lia | omega)) (by with_reducible assumption) ?_ (by with_unfolding_all rfl) (by intro _; with_unfolding_all rfl))))) | with_reducible (k_here; (with_reducible show wpAny _ _ (subscriptTail _ _ (Value.ref _) (Value.int _ _)) _ _ _); (k_here; (first | (refine get_at (by k_asm) (by (first | lia | omega)) (by with_reducible assumption) ?_ (by with_unfolding_all rfl) (by intro _; with_unfolding_all rfl)) | (refine get_atZ (by k_asm) (by (first | lia | omega)) (by (first | lia | omega)) (by with_reducible assumption) ?_ (by with_unfolding_all rfl) (by intro _; with_unfolding_all rfl))))) | walk1)) | ((((fail_if_success (with_reducible show wpAny _ _ (exec (Stmt.While _ _ _ _) _) _ _ _)); (fail_if_success (with_reducible show wpAny _ _ (exec (Stmt.For _ _ _ _ _) _) _ _ _)))); dsimp only)))
    rename Fr _ _ _ _ => F4
    rename News _ _ _ _ => N4
    rename Heapy _ _ _ _ => hH4
    rename List.Perm _ _ => hP4
    refine ret (f 0) _ _ _ _ F4 N4 ((hP4.cons _).trans hperm0) hH4 fun i hi => ?_
    obtain ⟨j, hj, e⟩ := lst_mem.mp (hP4.mem_iff.mp (lst_mem.mpr ⟨i, hi, rfl⟩))
    rw [← e]
    unfold upd
    split
    · exact hmin _ (by (first | lia | omega))
    · exact hmin _ (by (first | lia | omega))
end
end
theorem off_S5 : True := by
  w_top off
  trivial
section
set_option maxHeartbeats 4000000 in
theorem fsp_spec {w : World} {A : Around} {s : Shared} {b0 : Heap} {L : Addr} {m mg mb : Str → Option Value} {mean : ExcName → Option Value} {p : Program} {loose : List Str} {news : List (Addr × Obj)}
  (R : Room A 3) (X : (Mine.heapK w.params).In b0) (T : Top p loose mean mg mb b0) (F : Fr b0 L s.heap m)
  (Nw : News b0 L s.heap news) {x : Str} {t : Tok} {Q E : Value → Shared → Prop}
  (ret : ∀ h' tk', Fr b0 L h' m → News b0 L h' news → Q (.str x t) { s with heap := h', toks := tk' }) :
  wpAny (model PySem.Challenge.rw_ik0182_01.row.prog w) A (call (.ref 137) [.str x t]) Q E s := by
  obtain ⟨hh, dp, fr, gd, un⟩ := A
  have RR := R
  obtain ⟨hd', hdp, hun⟩ := R
  cases hd'
  revert X; k_fill; intro X
  refine wpAny_call ?_
  k_dflt (refine' enter (binds := [(Str.ofString "path", .str x t)]) ?F ?X ?N ?T ?ho ?hcd ?room ?bind ?loc ?_ ?c1 ?c2 ?c3 ?c4)
  (((case F => k_asm); (case X => k_asm); (case N => k_asm); (case T => k_asm); (case ho => k_is); (case hcd => k_is); (case room => exact Room.room (by assumption)); (case bind => exact BindsTo.of_eq rfl); (case loc => exact locs rfl); (case c1 => exact rfl); (case c2 => exact rfl); (case c3 => exact rfl); (case c4 => decide)))
  intro g L' h₁ FG F' N' X' T' lt'
  try dsimp only
  try k_fold
  refine let_env (B := execs _) RR ?_
  intro tk0 env A1 RA
  (repeat' (first | (k_unfold; (try dsimp only)) | (k_end; wrow_close) | ((((fail_if_success (with_reducible show wpAny _ _ (exec (Stmt.While _ _ _ _) _) _ _ _)); (fail_if_success (with_reducible show wpAny _ _ (exec (Stmt.For _ _ _ _ _) _) _ _ _)))); (first | with_reducible (k_here; (with_reducible show wpAny _ _ (call (Value.builtin _) [Value.str _ _, Value.ref _]) _ _ _); (refine join_my (by k_asm) (by with_reducible assumption) (by decide) (by with_reducible assumption) ?_); intro _ _) | with_reducible (k_here; (with_reducible show wpAny _ _ (call (Value.builtin "issubclass") _) _ _ _); (k_here; (refine issub_my (by k_asm) ?_))) | with_reducible (k_here; (with_reducible show wpAny _ _ (truthy (Value.ref _)) _ _ _); (refine truthy_my (by k_asm) (by (first | lia | omega)) ?_); intro _) | with_reducible (k_here; (with_reducible show wpAny _ _ (call (Value.builtin _) [Value.ref _]) _ _ _); (refine pop_my (by k_asm) (by k_asm) (by with_reducible assumption) (by (first | lia | omega)) (by with_reducible assumption) ?_); intro _ _ _ _) | with_reducible (k_here; (with_reducible show wpAny _ _ (call (Value.builtin _) [Value.ref _, _]) _ _ _); (refine append_my (by k_asm) (by k_asm) (by with_reducible assumption) (by (first | lia | omega)) (by first | with_reducible assumption | exact rfl) ?_); intro _ _ _) | with_reducible (k_here; (with_reducible show wpAny _ _ (call (Value.builtin "len") [Value.ref _]) _ _ _); (refine len_at (by k_asm) (by with_reducible assumption) (by (first | lia | omega)) ?_); intro _ _) | with_reducible (k_here; (with_reducible show wpAny _ _ (setItem (Value.ref _) (Value.int _ _) _) _ _ _); (k_here; (first | (refine set_at (by k_asm) (by k_asm) (by with_reducible assumption) (by (first | lia | omega)) (by (first | lia | omega)) ?_) | (refine set_atZ (by k_asm) (by k_asm) (by with_reducible assumption) (by (first | lia | omega)) (by (first | lia | omega)) (by (first | lia | omega)) ?_)); intro _ _ _)) | with_reducible (k_here; (with_reducible show wpAny _ _ (binaryOp Operator.RShift _ _) _ _ _); (k_here; (refine half_at (by (first | lia | omega)) ?_); intro _ _)) | with_reducible (k_here; (with_reducible show wpAny _ _ (compareOp CmpOp.Lt _ _) _ _ _); (k_here; (refine lt_trees (Room.unitsD (by assumption)) (by k_asm) (by with_reducible assumption) (by intro q hq; exact List.mem_cons_of_mem _ hq) (by (first | lia | omega)) (by (first | lia | omega)) (by (first | lia | omega)) ?_); intro _)) | with_reducible (k_here; (with_reducible show wpAny _ _ (subscriptTail _ _ (Value.ref _) (Value.int _ _)) _ _ _); (k_here; (first | (refine get_at (by k_asm) (by (first | lia | omega)) (by with_reducible assumption) ?_ (by with_unfolding_all rfl) (by intro _; with_unfolding_all rfl)) | (refine get_atZ (by k_asm) (by (first | lia | omega)) (by (first | lia | omega)) (by with_reducible assumption) ?_ (by with_unfolding_all rfl) (by intro _; with_unfolding_all rfl))))) | with_reducible (k_here; (with_reducible show wpAny _ _ (subscriptTail _ _ (Value.ref _) (Value.int _ _)) _ _ _); (k_here; (first | (refine get_at (by k_asm) (by (first | lia | omega)) (by with_reducible assumption) ?_ (by with_unfolding_all rfl) (by intro _; with_unfolding_all rfl)) | (refine get_atZ (by k_asm) (by (first | lia | omega)) (by (first | lia | omega)) (by with_reducible assumption) ?_ (by with_unfolding_all rfl) (by intro _; with_unfolding_all rfl))))) | walk1)) | ((((fail_if_success (with_reducible show wpAny _ _ (exec (Stmt.While _ _ _ _) _) _ _ _)); (fail_if_success (with_reducible show wpAny _ _ (exec (Stmt.For _ _ _ _ _) _) _ _ _)))); dsimp only)))
  rename Fr _ _ _ _ => F3
  rename News _ _ _ _ => N3
  exact ret _ _ F3 (News.sub N3 fun p hp => List.mem_cons_of_mem _ hp)
set_option maxHeartbeats 4000000 in
theorem sep_spec {w : World} {A : Around} {s : Shared} {b0 : Heap} {L : Addr} {m mg mb : Str → Option Value} {mean : ExcName → Option Value} {p : Program} {loose : List Str} {news : List (Addr × Obj)}
  (R : Room A 3) (X : (Mine.heapK w.params).In b0) (T : Top p loose mean mg mb b0) (F : Fr b0 L s.heap m)
  (Nw : News b0 L s.heap news) {x : Str} {t : Tok} {Q E : Value → Shared → Prop}
  (ret : ∀ h' tk' tk'', Fr b0 L h' m → News b0 L h' news → Q (.str (Str.ofString "/") tk'') { s with heap := h', toks := tk' }) :
  wpAny (model PySem.Challenge.rw_ik0182_01.row.prog w) A (call (.ref 151) [.str x t]) Q E s := by
  obtain ⟨hh, dp, fr, gd, un⟩ := A
  have RR := R
  obtain ⟨hd', hdp, hun⟩ := R
  cases hd'
  revert X; k_fill; intro X
  refine wpAny_call ?_
  k_dflt (refine' enter (binds := [(Str.ofString "path", .str x t)]) ?F ?X ?N ?T ?ho ?hcd ?room ?bind ?loc ?_ ?c1 ?c2 ?c3 ?c4)
  (((case F => k_asm); (case X => k_asm); (case N => k_asm); (case T => k_asm); (case ho => k_is); (case hcd => k_is); (case room => exact Room.room (by assumption)); (case bind => exact BindsTo.of_eq rfl); (case loc => exact locs rfl); (case c1 => exact rfl); (case c2 => exact rfl); (case c3 => exact rfl); (case c4 => decide)))
  intro g L' h₁ FG F' N' X' T' lt'
  try dsimp only
  try k_fold
  refine let_env (B := execs _) RR ?_
  intro tk0 env A1 RA
  (repeat' (first | (k_unfold; (try dsimp only)) | (k_end; wrow_close) | ((((fail_if_success (with_reducible show wpAny _ _ (exec (Stmt.While _ _ _ _) _) _ _ _)); (fail_if_success (with_reducible show wpAny _ _ (exec (Stmt.For _ _ _ _ _) _) _ _ _)))); (first | with_reducible (k_here; (with_reducible show wpAny _ _ (call (Value.builtin _) [Value.str _ _, Value.ref _]) _ _ _); (refine join_my (by k_asm) (by with_reducible assumption) (by decide) (by with_reducible assumption) ?_); intro _ _) | with_reducible (k_here; (with_reducible show wpAny _ _ (call (Value.builtin "issubclass") _) _ _ _); (k_here; (refine issub_my (by k_asm) ?_))) | with_reducible (k_here; (with_reducible show wpAny _ _ (truthy (Value.ref _)) _ _ _); (refine truthy_my (by k_asm) (by (first | lia | omega)) ?_); intro _) | with_reducible (k_here; (with_reducible show wpAny _ _ (call (Value.builtin _) [Value.ref _]) _ _ _); (refine pop_my (by k_asm) (by k_asm) (by with_reducible assumption) (by (first | lia | omega)) (by with_reducible assumption) ?_); intro _ _ _ _) | with_reducible (k_here; (with_reducible show wpAny _ _ (call (Value.builtin _) [Value.ref _, _]) _ _ _); (refine append_my (by k_asm) (by k_asm) (by with_reducible assumption) (by (first | lia | omega)) (by first | with_reducible assumption | exact rfl) ?_); intro _ _ _) | with_reducible (k_here; (with_reducible show wpAny _ _ (call (Value.builtin "len") [Value.ref _]) _ _ _); (refine len_at (by k_asm) (by with_reducible assumption) (by (first | lia | omega)) ?_); intro _ _) | with_reducible (k_here; (with_reducible show wpAny _ _ (setItem (Value.ref _) (Value.int _ _) _) _ _ _); (k_here; (first | (refine set_at (by k_asm) (by k_asm) (by with_reducible assumption) (by (first | lia | omega)) (by (first | lia | omega)) ?_) | (refine set_atZ (by k_asm) (by k_asm) (by with_reducible assumption) (by (first | lia | omega)) (by (first | lia | omega)) (by (first | lia | omega)) ?_)); intro _ _ _)) | with_reducible (k_here; (with_reducible show wpAny _ _ (binaryOp Operator.RShift _ _) _ _ _); (k_here; (refine half_at (by (first | lia | omega)) ?_); intro _ _)) | with_reducible (k_here; (with_reducible show wpAny _ _ (compareOp CmpOp.Lt _ _) _ _ _); (k_here; (refine lt_trees (Room.unitsD (by assumption)) (by k_asm) (by with_reducible assumption) (by intro q hq; exact List.mem_cons_of_mem _ hq) (by (first | lia | omega)) (by (first | lia | omega)) (by (first | lia | omega)) ?_); intro _)) | with_reducible (k_here; (with_reducible show wpAny _ _ (subscriptTail _ _ (Value.ref _) (Value.int _ _)) _ _ _); (k_here; (first | (refine get_at (by k_asm) (by (first | lia | omega)) (by with_reducible assumption) ?_ (by with_unfolding_all rfl) (by intro _; with_unfolding_all rfl)) | (refine get_atZ (by k_asm) (by (first | lia | omega)) (by (first | lia | omega)) (by with_reducible assumption) ?_ (by with_unfolding_all rfl) (by intro _; with_unfolding_all rfl))))) | with_reducible (k_here; (with_reducible show wpAny _ _ (subscriptTail _ _ (Value.ref _) (Value.int _ _)) _ _ _); (k_here; (first | (refine get_at (by k_asm) (by (first | lia | omega)) (by with_reducible assumption) ?_ (by with_unfolding_all rfl) (by intro _; with_unfolding_all rfl)) | (refine get_atZ (by k_asm) (by (first | lia | omega)) (by (first | lia | omega)) (by with_reducible assumption) ?_ (by with_unfolding_all rfl) (by intro _; with_unfolding_all rfl))))) | walk1)) | ((((fail_if_success (with_reducible show wpAny _ _ (exec (Stmt.While _ _ _ _) _) _ _ _)); (fail_if_success (with_reducible show wpAny _ _ (exec (Stmt.For _ _ _ _ _) _) _ _ _)))); dsimp only)))
  rename Fr _ _ _ _ => F3
  rename News _ _ _ _ => N3
  exact ret _ _ _ F3 N3
end
theorem off_S6 : True := by
  w_top off
  trivial
section
noncomputable def slash : Str := Str.ofString "/"
noncomputable def pBase (x : Str) : Str := Txt.slice x (some (Txt.rfind x (Str.ofString "/") + 1)) none
noncomputable def pHead (x : Str) : Str := Txt.slice x none (some (Txt.rfind x (Str.ofString "/") + 1))
noncomputable def pDir (x : Str) : Str := if ((pHead x).length : Int) ≠ 0 ∧ (pHead x != Txt.mul (Str.ofString "/") ((pHead x).length : Int)) = true then Txt.rstripChars (pHead x) (Str.ofString "/") else pHead x
section
set_option maxHeartbeats 4000000 in
theorem base_spec {w : World} {A : Around} {s : Shared} {b0 : Heap} {L : Addr} {m mg mb : Str → Option Value} {mean : ExcName → Option Value} {p : Program} {loose : List Str} {news : List (Addr × Obj)}
  (R : Room A 5) (X : (Mine.heapK w.params).In b0) (T : Top p loose mean mg mb b0) (F : Fr b0 L s.heap m)
  (Nw : News b0 L s.heap news) {x : Str} {t : Tok} (hx : x.length ≤ 1000) {Q E : Value → Shared → Prop}
  (ret : ∀ h' tk' tk'', Fr b0 L h' m → News b0 L h' news → Q (.str (pBase x) tk'') { s with heap := h', toks := tk' }) :
  wpAny (model PySem.Challenge.rw_ik0182_01.row.prog w) A (call (.ref 165) [.str x t]) Q E s := by
  obtain ⟨hh, dp, fr, gd, un⟩ := A
  have RR := R
  obtain ⟨hd', hdp, hun⟩ := R
  cases hd'
  revert X; k_fill; intro X
  refine wpAny_call ?_
  k_dflt (refine' enter (binds := [(Str.ofString "p", .str x t)]) ?F ?X ?N ?T ?ho ?hcd ?room ?bind ?loc ?_ ?c1 ?c2 ?c3 ?c4)
  (((case F => k_asm); (case X => k_asm); (case N => k_asm); (case T => k_asm); (case ho => k_is); (case hcd => k_is); (case room => exact Room.room (by assumption)); (case bind => exact BindsTo.of_eq rfl); (case loc => exact locs rfl); (case c1 => exact rfl); (case c2 => exact rfl); (case c3 => exact rfl); (case c4 => decide)))
  intro g L' h₁ FG F' N' X' T' lt'
  try dsimp only
  try k_fold
  refine let_env (B := execs _) RR ?_
  intro tk0 env A1 RA
  (repeat' (first | (k_unfold; (try dsimp only)) | (k_end; wrow_close) | ((((fail_if_success (with_reducible show wpAny _ _ (exec (Stmt.While _ _ _ _) _) _ _ _)); (fail_if_success (with_reducible show wpAny _ _ (exec (Stmt.For _ _ _ _ _) _) _ _ _)))); (first | with_reducible (k_here; (with_reducible show wpAny _ _ (call (Value.ref _) _) _ _ _); (k_here; (first | (refine' fsp_spec ?yR ?yX ?yT ?yF ?yNw ?_) | (refine' sep_spec ?yR ?yX ?yT ?yF ?yNw ?_)); (case yF => k_asm); (case yX => k_asm); (case yT => k_asm); (case yNw => k_asm); (case yR => exact Room.less (by assumption) (by decide)); intros)) | with_reducible (k_here; (with_reducible show wpAny _ _ (call (Value.builtin _) [Value.str _ _, Value.ref _]) _ _ _); (refine join_my (by k_asm) (by with_reducible assumption) (by decide) (by with_reducible assumption) ?_); intro _ _) | with_reducible (k_here; (with_reducible show wpAny _ _ (call (Value.builtin "issubclass") _) _ _ _); (k_here; (refine issub_my (by k_asm) ?_))) | with_reducible (k_here; (with_reducible show wpAny _ _ (truthy (Value.ref _)) _ _ _); (refine truthy_my (by k_asm) (by (first | lia | omega)) ?_); intro _) | with_reducible (k_here; (with_reducible show wpAny _ _ (call (Value.builtin _) [Value.ref _]) _ _ _); (refine pop_my (by k_asm) (by k_asm) (by with_reducible assumption) (by (first | lia | omega)) (by with_reducible assumption) ?_); intro _ _ _ _) | with_reducible (k_here; (with_reducible show wpAny _ _ (call (Value.builtin _) [Value.ref _, _]) _ _ _); (refine append_my (by k_asm) (by k_asm) (by with_reducible assumption) (by (first | lia | omega)) (by first | with_reducible assumption | exact rfl) ?_); intro _ _ _) | with_reducible (k_here; (with_reducible show wpAny _ _ (call (Value.builtin "len") [Value.ref _]) _ _ _); (refine len_at (by k_asm) (by with_reducible assumption) (by (first | lia | omega)) ?_); intro _ _) | with_reducible (k_here; (with_reducible show wpAny _ _ (setItem (Value.ref _) (Value.int _ _) _) _ _ _); (k_here; (first | (refine set_at (by k_asm) (by k_asm) (by with_reducible assumption) (by (first | lia | omega)) (by (first | lia | omega)) ?_) | (refine set_atZ (by k_asm) (by k_asm) (by with_reducible assumption) (by (first | lia | omega)) (by (first | lia | omega)) (by (first | lia | omega)) ?_)); intro _ _ _)) | with_reducible (k_here; (with_reducible show wpAny _ _ (binaryOp Operator.RShift _ _) _ _ _); (k_here; (refine half_at (by (first | lia | omega)) ?_); intro _ _)) | with_reducible (k_here; (with_reducible show wpAny _ _ (compareOp CmpOp.Lt _ _) _ _ _); (k_here; (refine lt_trees (Room.unitsD (by assumption)) (by k_asm) (by with_reducible assumption) (by intro q hq; exact List.mem_cons_of_mem _ hq) (by (first | lia | omega)) (by (first | lia | omega)) (by (first | lia | omega)) ?_); intro _)) | with_reducible (k_here; (with_reducible show wpAny _ _ (subscriptTail _ _ (Value.ref _) (Value.int _ _)) _ _ _); (k_here; (first | (refine get_at (by k_asm) (by (first | lia | omega)) (by with_reducible assumption) ?_ (by with_unfolding_all rfl) (by intro _; with_unfolding_all rfl)) | (refine get_atZ (by k_asm) (by (first | lia | omega)) (by (first | lia | omega)) (by with_reducible assumption) ?_ (by with_unfolding_all rfl) (by intro _; with_unfolding_all rfl))))) | with_reducible (k_here; (with_reducible show wpAny _ _ (subscriptTail _ _ (Value.ref _) (Value.int _ _)) _ _ _); (k_here; (first | (refine get_at (by k_asm) (by (first | lia | omega)) (by with_reducible assumption) ?_ (by with_unfolding_all rfl) (by intro _; with_unfolding_all rfl)) | (refine get_atZ (by k_asm) (by (first | lia | omega)) (by (first | lia | omega)) (by with_reducible assumption) ?_ (by with_unfolding_all rfl) (by intro _; with_unfolding_all rfl))))) | walk1)) | ((((fail_if_success (with_reducible show wpAny _ _ (exec (Stmt.While _ _ _ _) _) _ _ _)); (fail_if_success (with_reducible show wpAny _ _ (exec (Stmt.For _ _ _ _ _) _) _ _ _)))); dsimp only)))
  rename Fr _ _ _ _ => F3
  rename News _ _ _ _ => N3
  exact ret _ _ _ F3 N3
set_option maxHeartbeats 4000000 in
theorem dir_spec {w : World} {A : Around} {s : Shared} {b0 : Heap} {L : Addr} {m mg mb : Str → Option Value} {mean : ExcName → Option Value} {p : Program} {loose : List Str} {news : List (Addr × Obj)}
  (R : Room A 5) (X : (Mine.heapK w.params).In b0) (T : Top p loose mean mg mb b0) (F : Fr b0 L s.heap m)
  (Nw : News b0 L s.heap news) {x : Str} {t : Tok} (hx : x.length ≤ 1000) {Q E : Value → Shared → Prop}
  (ret : ∀ h' tk' tk'', Fr b0 L h' m → News b0 L h' news → Q (.str (pDir x) tk'') { s with heap := h', toks := tk' }) :
  wpAny (model PySem.Challenge.rw_ik0182_01.row.prog w) A (call (.ref 172) [.str x t]) Q E s := by
  obtain ⟨hh, dp, fr, gd, un⟩ := A
  have RR := R
  obtain ⟨hd', hdp, hun⟩ := R
  cases hd'
  revert X; k_fill; intro X
  refine wpAny_call ?_
  k_dflt (refine' enter (binds := [(Str.ofString "p", .str x t)]) ?F ?X ?N ?T ?ho ?hcd ?room ?bind ?loc ?_ ?c1 ?c2 ?c3 ?c4)
  (((case F => k_asm); (case X => k_asm); (case N => k_asm); (case T => k_asm); (case ho => k_is); (case hcd => k_is); (case room => exact Room.room (by assumption)); (case bind => exact BindsTo.of_eq rfl); (case loc => exact locs rfl); (case c1 => exact rfl); (case c2 => exact rfl); (case c3 => exact rfl); (case c4 => decide)))
  intro g L' h₁ FG F' N' X' T' lt'
  try dsimp only
  try k_fold
  refine let_env (B := execs _) RR ?_
  intro tk0 env A1 RA
  (repeat' (first | (k_unfold; (try dsimp only)) | (k_end; wrow_close) | ((((fail_if_success (with_reducible show wpAny _ _ (exec (Stmt.While _ _ _ _) _) _ _ _)); (fail_if_success (with_reducible show wpAny _ _ (exec (Stmt.For _ _ _ _ _) _) _ _ _)))); (first | with_reducible (k_here; (with_reducible show wpAny _ _ (call (Value.ref _) _) _ _ _); (k_here; (first | (refine' fsp_spec ?yR ?yX ?yT ?yF ?yNw ?_) | (refine' sep_spec ?yR ?yX ?yT ?yF ?yNw ?_)); (case yF => k_asm); (case yX => k_asm); (case yT => k_asm); (case yNw => k_asm); (case yR => exact Room.less (by assumption) (by decide)); intros)) | with_reducible (k_here; (with_reducible show wpAny _ _ (call (Value.builtin _) [Value.str _ _, Value.ref _]) _ _ _); (refine join_my (by k_asm) (by with_reducible assumption) (by decide) (by with_reducible assumption) ?_); intro _ _) | with_reducible (k_here; (with_reducible show wpAny _ _ (call (Value.builtin "issubclass") _) _ _ _); (k_here; (refine issub_my (by k_asm) ?_))) | with_reducible (k_here; (with_reducible show wpAny _ _ (truthy (Value.ref _)) _ _ _); (refine truthy_my (by k_asm) (by (first | lia | omega)) ?_); intro _) | with_reducible (k_here; (with_reducible show wpAny _ _ (call (Value.builtin _) [Value.ref _]) _ _ _); (refine pop_my (by k_asm) (by k_asm) (by with_reducible assumption) (by (first | lia | omega)) (by with_reducible assumption) ?_); intro _ _ _ _) | with_reducible (k_here; (with_reducible show wpAny _ _ (call (Value.builtin _) [Value.ref _, _]) _ _ _); (refine append_my (by k_asm) (by k_asm) (by with_reducible assumption) (by (first | lia | omega)) (by first | with_reducible assumption | exact rfl) ?_); intro _ _ _) | with_reducible (k_here; (with_reducible show wpAny _ _ (call (Value.builtin "len") [Value.ref _]) _ _ _); (refine len_at (by k_asm) (by with_reducible assumption) (by (first | lia | omega)) ?_); intro _ _) | with_reducible (k_here; (with_reducible show wpAny _ _ (setItem (Value.ref _) (Value.int _ _) _) _ _ _); (k_here; (first | (refine set_at (by k_asm) (by k_asm) (by with_reducible assumption) (by (first | lia | omega)) (by (first | lia | omega)) ?_) | (refine set_atZ (by k_asm) (by k_asm) (by with_reducible assumption) (by (first | lia | omega)) (by (first | lia | omega)) (by (first | lia | omega)) ?_)); intro _ _ _)) | with_reducible (k_here; (with_reducible show wpAny _ _ (binaryOp Operator.RShift _ _) _ _ _); (k_here; (refine half_at (by (first | lia | omega)) ?_); intro _ _)) | with_reducible (k_here; (with_reducible show wpAny _ _ (compareOp CmpOp.Lt _ _) _ _ _); (k_here; (refine lt_trees (Room.unitsD (by assumption)) (by k_asm) (by with_reducible assumption) (by intro q hq; exact List.mem_cons_of_mem _ hq) (by (first | lia | omega)) (by (first | lia | omega)) (by (first | lia | omega)) ?_); intro _)) | with_reducible (k_here; (with_reducible show wpAny _ _ (subscriptTail _ _ (Value.ref _) (Value.int _ _)) _ _ _); (k_here; (first | (refine get_at (by k_asm) (by (first | lia | omega)) (by with_reducible assumption) ?_ (by with_unfolding_all rfl) (by intro _; with_unfolding_all rfl)) | (refine get_atZ (by k_asm) (by (first | lia | omega)) (by (first | lia | omega)) (by with_reducible assumption) ?_ (by with_unfolding_all rfl) (by intro _; with_unfolding_all rfl))))) | with_reducible (k_here; (with_reducible show wpAny _ _ (subscriptTail _ _ (Value.ref _) (Value.int _ _)) _ _ _); (k_here; (first | (refine get_at (by k_asm) (by (first | lia | omega)) (by with_reducible assumption) ?_ (by with_unfolding_all rfl) (by intro _; with_unfolding_all rfl)) | (refine get_atZ (by k_asm) (by (first | lia | omega)) (by (first | lia | omega)) (by with_reducible assumption) ?_ (by with_unfolding_all rfl) (by intro _; with_unfolding_all rfl))))) | walk1)) | ((((fail_if_success (with_reducible show wpAny _ _ (exec (Stmt.While _ _ _ _) _) _ _ _)); (fail_if_success (with_reducible show wpAny _ _ (exec (Stmt.For _ _ _ _ _) _) _ _ _)))); dsimp only)))
  · rename Fr _ _ _ _ => F3
    rename News _ _ _ _ => N3
    rw [show pDir x = Txt.rstripChars (pHead x) (Str.ofString "/") from if_pos ⟨by assumption, by assumption⟩] at ret
    exact ret _ _ _ F3 N3
  · rename Fr _ _ _ _ => F3
    rename News _ _ _ _ => N3
    rename ((_ != _) = false) => hb
    rw [show pDir x = pHead x from if_neg fun h => by have h2 := h.2; unfold pHead at h2; rw [hb] at h2; cases h2] at ret
    exact ret _ _ _ F3 N3
  · rename Fr _ _ _ _ => F3
    rename News _ _ _ _ => N3
    rename ((_ : Int) = 0) => hb
    rw [show pDir x = pHead x from if_neg fun h => h.1 hb] at ret
    exact ret _ _ _ F3 N3
end
end
theorem off_S7 : True := by
  w_top off
  trivial
section
section
inductive JnJ (D : Addr) (x y : Str) (t u : Tok) (news : List (Addr × Obj)) (i : Nat) (m : Str → Option Value) (nw : List (Addr × Obj)) : Prop
  | mk (z1 : nw = (D, { cls := .type "tuple", data := .seq #[.str y u] }) :: news) (tk tk' : Tok) (z2 : m = ovr [(Str.ofString "a", .str x t), (Str.ofString "sep", .str (Str.ofString "/") tk), (Str.ofString "path", if i = 0 then .str x t else .str (x ++ (Str.ofString "/" ++ y)) tk')] m) : JnJ D x y t u news i m nw
theorem JnJ.eq {D : Addr} {x y : Str} {t u : Tok} {news nw : List (Addr × Obj)} {i : Nat} {m : Str → Option Value} (h : JnJ D x y t u news i m nw) : nw = (D, { cls := .type "tuple", data := .seq #[.str y u] }) :: news := by
  obtain ⟨e, _, _, _⟩ := h
  exact e
set_option maxHeartbeats 4000000 in
theorem join_spec {w : World} {A : Around} {s : Shared} {b0 : Heap} {L : Addr} {m mg mb : Str → Option Value} {mean : ExcName → Option Value} {p : Program} {loose : List Str} {news : List (Addr × Obj)}
  (R : Room A 5) (X : (Mine.heapK w.params).In b0) (T : Top p loose mean mg mb b0) (F : Fr b0 L s.heap m)
  (Nw : News b0 L s.heap news) {x y : Str} {t u : Tok} (hx : x.length ≤ 1000) (hy : y.length ≤ 1000) (hx0 : x.length ≠ 0) (hys : Txt.startswith y (Str.ofString "/") = false) (hxe : Txt.endswith x (Str.ofString "/") = false) {Q E : Value → Shared → Prop}
  (ret : ∀ h' tk' tk'', Fr b0 L h' m → News b0 L h' news → Q (.str (x ++ (Str.ofString "/" ++ y)) tk'') { s with heap := h', toks := tk' }) :
  wpAny (model PySem.Challenge.rw_ik0182_01.row.prog w) A (call (.ref 158) [.str x t, .str y u]) Q E s := by
  obtain ⟨hh, dp, fr, gd, un⟩ := A
  have RR := R
  obtain ⟨hd', hdp, hun⟩ := R
  cases hd'
  revert X; k_fill; intro X
  refine wpAny_call ?_
  k_dflt (refine' enterV (vt := [.str y u]) (binds := fun v => [(Str.ofString "a", .str x t), (Str.ofString "p", v)]) ?F ?X ?N ?T ?ho ?hcd ?room ?bind ?vt ?loc ?_ ?c1 ?c2 ?c3 ?c4)
  (((case F => k_asm); (case X => k_asm); (case N => k_asm); (case T => k_asm); (case ho => k_is); (case hcd => k_is); (case room => exact Room.room (by assumption)); (case bind => exact rfl); (case vt => simp); (case loc => intro t; exact locs rfl); (case c1 => exact rfl); (case c2 => exact rfl); (case c3 => exact rfl); (case c4 => decide)))
  intro g L' h₁ D tk FG F' N' X' T' lt' ltD
  try dsimp only
  try k_fold
  refine let_env (B := execs _) RR ?_
  intro tk0 env A1 RA
  (repeat' (first | (k_unfold; (try dsimp only)) | (k_end; wrow_close) | ((((fail_if_success (with_reducible show wpAny _ _ (exec (Stmt.While _ _ _ _) _) _ _ _)); (fail_if_success (with_reducible show wpAny _ _ (exec (Stmt.For _ _ _ _ _) _) _ _ _)))); (first | with_reducible (k_here; (with_reducible show wpAny _ _ (call (Value.ref _) _) _ _ _); (k_here; (first | (refine' fsp_spec ?yR ?yX ?yT ?yF ?yNw ?_) | (refine' sep_spec ?yR ?yX ?yT ?yF ?yNw ?_)); (case yF => k_asm); (case yX => k_asm); (case yT => k_asm); (case yNw => k_asm); (case yR => exact Room.less (by assumption) (by decide)); intros)) | with_reducible (k_here; (with_reducible show wpAny _ _ (call (Value.builtin _) [Value.str _ _, Value.ref _]) _ _ _); (refine join_my (by k_asm) (by with_reducible assumption) (by decide) (by with_reducible assumption) ?_); intro _ _) | with_reducible (k_here; (with_reducible show wpAny _ _ (call (Value.builtin "issubclass") _) _ _ _); (k_here; (refine issub_my (by k_asm) ?_))) | with_reducible (k_here; (with_reducible show wpAny _ _ (truthy (Value.ref _)) _ _ _); (refine truthy_my (by k_asm) (by (first | lia | omega)) ?_); intro _) | with_reducible (k_here; (with_reducible show wpAny _ _ (call (Value.builtin _) [Value.ref _]) _ _ _); (refine pop_my (by k_asm) (by k_asm) (by with_reducible assumption) (by (first | lia | omega)) (by with_reducible assumption) ?_); intro _ _ _ _) | with_reducible (k_here; (with_reducible show wpAny _ _ (call (Value.builtin _) [Value.ref _, _]) _ _ _); (refine append_my (by k_asm) (by k_asm) (by with_reducible assumption) (by (first | lia | omega)) (by first | with_reducible assumption | exact rfl) ?_); intro _ _ _) | with_reducible (k_here; (with_reducible show wpAny _ _ (call (Value.builtin "len") [Value.ref _]) _ _ _); (refine len_at (by k_asm) (by with_reducible assumption) (by (first | lia | omega)) ?_); intro _ _) | with_reducible (k_here; (with_reducible show wpAny _ _ (setItem (Value.ref _) (Value.int _ _) _) _ _ _); (k_here; (first | (refine set_at (by k_asm) (by k_asm) (by with_reducible assumption) (by (first | lia | omega)) (by (first | lia | omega)) ?_) | (refine set_atZ (by k_asm) (by k_asm) (by with_reducible assumption) (by (first | lia | omega)) (by (first | lia | omega)) (by (first | lia | omega)) ?_)); intro _ _ _)) | with_reducible (k_here; (with_reducible show wpAny _ _ (binaryOp Operator.RShift _ _) _ _ _); (k_here; (refine half_at (by (first | lia | omega)) ?_); intro _ _)) | with_reducible (k_here; (with_reducible show wpAny _ _ (compareOp CmpOp.Lt _ _) _ _ _); (k_here; (refine lt_trees (Room.unitsD (by assumption)) (by k_asm) (by with_reducible assumption) (by intro q hq; exact List.mem_cons_of_mem _ hq) (by (first | lia | omega)) (by (first | lia | omega)) (by (first | lia | omega)) ?_); intro _)) | with_reducible (k_here; (with_reducible show wpAny _ _ (subscriptTail _ _ (Value.ref _) (Value.int _ _)) _ _ _); (k_here; (first | (refine get_at (by k_asm) (by (first | lia | omega)) (by with_reducible assumption) ?_ (by with_unfolding_all rfl) (by intro _; with_unfolding_all rfl)) | (refine get_atZ (by k_asm) (by (first | lia | omega)) (by (first | lia | omega)) (by with_reducible assumption) ?_ (by with_unfolding_all rfl) (by intro _; with_unfolding_all rfl))))) | with_reducible (k_here; (with_reducible show wpAny _ _ (subscriptTail _ _ (Value.ref _) (Value.int _ _)) _ _ _); (k_here; (first | (refine get_at (by k_asm) (by (first | lia | omega)) (by with_reducible assumption) ?_ (by with_unfolding_all rfl) (by intro _; with_unfolding_all rfl)) | (refine get_atZ (by k_asm) (by (first | lia | omega)) (by (first | lia | omega)) (by with_reducible assumption) ?_ (by with_unfolding_all rfl) (by intro _; with_unfolding_all rfl))))) | walk1)) | ((((fail_if_success (with_reducible show wpAny _ _ (exec (Stmt.While _ _ _ _) _) _ _ _)); (fail_if_success (with_reducible show wpAny _ _ (exec (Stmt.For _ _ _ _ _) _) _ _ _)))); dsimp only)))
  refine wpAny_mono (E := fun _ _ => False) ?_ (fun _ _ h => h) (fun _ _ h => h.elim)
  ((refine For_myF (by k_asm) (by with_unfolding_all rfl) (by with_unfolding_all rfl) ?_ (by intro _; with_unfolding_all rfl) PassesOwn.never))
  (repeat' (first | (k_unfold; (try dsimp only)) | (k_end; wrow_close) | ((((fail_if_success (with_reducible show wpAny _ _ (exec (Stmt.While _ _ _ _) _) _ _ _)); (fail_if_success (with_reducible show wpAny _ _ (exec (Stmt.For _ _ _ _ _) _) _ _ _)))); (first | with_reducible (k_here; (with_reducible show wpAny _ _ (call (Value.ref _) _) _ _ _); (k_here; (first | (refine' fsp_spec ?yR ?yX ?yT ?yF ?yNw ?_) | (refine' sep_spec ?yR ?yX ?yT ?yF ?yNw ?_)); (case yF => k_asm); (case yX => k_asm); (case yT => k_asm); (case yNw => k_asm); (case yR => exact Room.less (by assumption) (by decide)); intros)) | with_reducible (k_here; (with_reducible show wpAny _ _ (call (Value.builtin _) [Value.str _ _, Value.ref _]) _ _ _); (refine join_my (by k_asm) (by with_reducible assumption) (by decide) (by with_reducible assumption) ?_); intro _ _) | with_reducible (k_here; (with_reducible show wpAny _ _ (call (Value.builtin "issubclass") _) _ _ _); (k_here; (refine issub_my (by k_asm) ?_))) | with_reducible (k_here; (with_reducible show wpAny _ _ (truthy (Value.ref _)) _ _ _); (refine truthy_my (by k_asm) (by (first | lia | omega)) ?_); intro _) | with_reducible (k_here; (with_reducible show wpAny _ _ (call (Value.builtin _) [Value.ref _]) _ _ _); (refine pop_my (by k_asm) (by k_asm) (by with_reducible assumption) (by (first | lia | omega)) (by with_reducible assumption) ?_); intro _ _ _ _) | with_reducible (k_here; (with_reducible show wpAny _ _ (call (Value.builtin _) [Value.ref _, _]) _ _ _); (refine append_my (by k_asm) (by k_asm) (by with_reducible assumption) (by (first | lia | omega)) (by first | with_reducible assumption | exact rfl) ?_); intro _ _ _) | with_reducible (k_here; (with_reducible show wpAny _ _ (call (Value.builtin "len") [Value.ref _]) _ _ _); (refine len_at (by k_asm) (by with_reducible assumption) (by (first | lia | omega)) ?_); intro _ _) | with_reducible (k_here; (with_reducible show wpAny _ _ (setItem (Value.ref _) (Value.int _ _) _) _ _ _); (k_here; (first | (refine set_at (by k_asm) (by k_asm) (by with_reducible assumption) (by (first | lia | omega)) (by (first | lia | omega)) ?_) | (refine set_atZ (by k_asm) (by k_asm) (by with_reducible assumption) (by (first | lia | omega)) (by (first | lia | omega)) (by (first | lia | omega)) ?_)); intro _ _ _)) | with_reducible (k_here; (with_reducible show wpAny _ _ (binaryOp Operator.RShift _ _) _ _ _); (k_here; (refine half_at (by (first | lia | omega)) ?_); intro _ _)) | with_reducible (k_here; (with_reducible show wpAny _ _ (compareOp CmpOp.Lt _ _) _ _ _); (k_here; (refine lt_trees (Room.unitsD (by assumption)) (by k_asm) (by with_reducible assumption) (by intro q hq; exact List.mem_cons_of_mem _ hq) (by (first | lia | omega)) (by (first | lia | omega)) (by (first | lia | omega)) ?_); intro _)) | with_reducible (k_here; (with_reducible show wpAny _ _ (subscriptTail _ _ (Value.ref _) (Value.int _ _)) _ _ _); (k_here; (first | (refine get_at (by k_asm) (by (first | lia | omega)) (by with_reducible assumption) ?_ (by with_unfolding_all rfl) (by intro _; with_unfolding_all rfl)) | (refine get_atZ (by k_asm) (by (first | lia | omega)) (by (first | lia | omega)) (by with_reducible assumption) ?_ (by with_unfolding_all rfl) (by intro _; with_unfolding_all rfl))))) | with_reducible (k_here; (with_reducible show wpAny _ _ (subscriptTail _ _ (Value.ref _) (Value.int _ _)) _ _ _); (k_here; (first | (refine get_at (by k_asm) (by (first | lia | omega)) (by with_reducible assumption) ?_ (by with_unfolding_all rfl) (by intro _; with_unfolding_all rfl)) | (refine get_atZ (by k_asm) (by (first | lia | omega)) (by (first | lia | omega)) (by with_reducible assumption) ?_ (by with_unfolding_all rfl) (by intro _; with_unfolding_all rfl))))) | walk1)) | ((((fail_if_success (with_reducible show wpAny _ _ (exec (Stmt.While _ _ _ _) _) _ _ _)); (fail_if_success (with_reducible show wpAny _ _ (exec (Stmt.For _ _ _ _ _) _) _ _ _)))); dsimp only)))
  rename Fr _ _ _ _ => F1
  rename News _ _ _ _ => N1
  refine LoopMy.tuple (vs := [.str y u]) (ep := 0) (JnJ D x y t u news) rfl F1 N1
    (fun i m nw hj => by rw [hj.eq]; exact List.mem_cons_self) ⟨rfl, _, 0, by ((refine ovr_of ?_; repeat (first | exact List.forall_mem_nil _ | (refine List.forall_mem_cons.mpr ⟨by with_unfolding_all rfl, ?_⟩))))⟩ ?_ ?_
  · rintro I i v m₁ news₁ h tk oI hi hv ⟨rfl, tk1, tk2, hm⟩ off F2 N2
    obtain rfl : i = 0 := by simpa using hi
    obtain rfl : v = .str y u := by simpa using hv.symm
    rw [hm, if_pos rfl] at F2
    (repeat' (first | (k_unfold; (try dsimp only)) | (k_end; wrow_close) | ((((fail_if_success (with_reducible show wpAny _ _ (exec (Stmt.While _ _ _ _) _) _ _ _)); (fail_if_success (with_reducible show wpAny _ _ (exec (Stmt.For _ _ _ _ _) _) _ _ _)))); (first | with_reducible (k_here; (with_reducible show wpAny _ _ (call (Value.ref _) _) _ _ _); (k_here; (first | (refine' fsp_spec ?yR ?yX ?yT ?yF ?yNw ?_) | (refine' sep_spec ?yR ?yX ?yT ?yF ?yNw ?_)); (case yF => k_asm); (case yX => k_asm); (case yT => k_asm); (case yNw => k_asm); (case yR => exact Room.less (by assumption) (by decide)); intros)) | with_reducible (k_here; (with_reducible show wpAny _ _ (call (Value.builtin _) [Value.str _ _, Value.ref _]) _ _ _); (refine join_my (by k_asm) (by with_reducible assumption) (by decide) (by with_reducible assumption) ?_); intro _ _) | with_reducible (k_here; (with_reducible show wpAny _ _ (call (Value.builtin "issubclass") _) _ _ _); (k_here; (refine issub_my (by k_asm) ?_))) | with_reducible (k_here; (with_reducible show wpAny _ _ (truthy (Value.ref _)) _ _ _); (refine truthy_my (by k_asm) (by (first | lia | omega)) ?_); intro _) | with_reducible (k_here; (with_reducible show wpAny _ _ (call (Value.builtin _) [Value.ref _]) _ _ _); (refine pop_my (by k_asm) (by k_asm) (by with_reducible assumption) (by (first | lia | omega)) (by with_reducible assumption) ?_); intro _ _ _ _) | with_reducible (k_here; (with_reducible show wpAny _ _ (call (Value.builtin _) [Value.ref _, _]) _ _ _); (refine append_my (by k_asm) (by k_asm) (by with_reducible assumption) (by (first | lia | omega)) (by first | with_reducible assumption | exact rfl) ?_); intro _ _ _) | with_reducible (k_here; (with_reducible show wpAny _ _ (call (Value.builtin "len") [Value.ref _]) _ _ _); (refine len_at (by k_asm) (by with_reducible assumption) (by (first | lia | omega)) ?_); intro _ _) | with_reducible (k_here; (with_reducible show wpAny _ _ (setItem (Value.ref _) (Value.int _ _) _) _ _ _); (k_here; (first | (refine set_at (by k_asm) (by k_asm) (by with_reducible assumption) (by (first | lia | omega)) (by (first | lia | omega)) ?_) | (refine set_atZ (by k_asm) (by k_asm) (by with_reducible assumption) (by (first | lia | omega)) (by (first | lia | omega)) (by (first | lia | omega)) ?_)); intro _ _ _)) | with_reducible (k_here; (with_reducible show wpAny _ _ (binaryOp Operator.RShift _ _) _ _ _); (k_here; (refine half_at (by (first | lia | omega)) ?_); intro _ _)) | with_reducible (k_here; (with_reducible show wpAny _ _ (compareOp CmpOp.Lt _ _) _ _ _); (k_here; (refine lt_trees (Room.unitsD (by assumption)) (by k_asm) (by with_reducible assumption) (by intro q hq; exact List.mem_cons_of_mem _ hq) (by (first | lia | omega)) (by (first | lia | omega)) (by (first | lia | omega)) ?_); intro _)) | with_reducible (k_here; (with_reducible show wpAny _ _ (subscriptTail _ _ (Value.ref _) (Value.int _ _)) _ _ _); (k_here; (first | (refine get_at (by k_asm) (by (first | lia | omega)) (by with_reducible assumption) ?_ (by with_unfolding_all rfl) (by intro _; with_unfolding_all rfl)) | (refine get_atZ (by k_asm) (by (first | lia | omega)) (by (first | lia | omega)) (by with_reducible assumption) ?_ (by with_unfolding_all rfl) (by intro _; with_unfolding_all rfl))))) | with_reducible (k_here; (with_reducible show wpAny _ _ (subscriptTail _ _ (Value.ref _) (Value.int _ _)) _ _ _); (k_here; (first | (refine get_at (by k_asm) (by (first | lia | omega)) (by with_reducible assumption) ?_ (by with_unfolding_all rfl) (by intro _; with_unfolding_all rfl)) | (refine get_atZ (by k_asm) (by (first | lia | omega)) (by (first | lia | omega)) (by with_reducible assumption) ?_ (by with_unfolding_all rfl) (by intro _; with_unfolding_all rfl))))) | walk1)) | ((((fail_if_success (with_reducible show wpAny _ _ (exec (Stmt.While _ _ _ _) _) _ _ _)); (fail_if_success (with_reducible show wpAny _ _ (exec (Stmt.For _ _ _ _ _) _) _ _ _)))); dsimp only)))
    · rename Fr _ _ _ _ => F3
      rename News _ _ _ _ => N3
      exact TurnMy.intro (.inl rfl) F3 N3 off ⟨rfl, _, _, by ((refine ovr_of ?_; repeat (first | exact List.forall_mem_nil _ | (refine List.forall_mem_cons.mpr ⟨by with_unfolding_all rfl, ?_⟩))))⟩
    · exfalso; (first | lia | omega)
  · rintro h tk m₁ news₁ ⟨rfl, tk1, tk2, hm⟩ F2 N2
    rw [hm, if_neg (by simp)] at F2
    (repeat' (first | (k_unfold; (try dsimp only)) | (k_end; wrow_close) | ((((fail_if_success (with_reducible show wpAny _ _ (exec (Stmt.While _ _ _ _) _) _ _ _)); (fail_if_success (with_reducible show wpAny _ _ (exec (Stmt.For _ _ _ _ _) _) _ _ _)))); (first | with_reducible (k_here; (with_reducible show wpAny _ _ (call (Value.ref _) _) _ _ _); (k_here; (first | (refine' fsp_spec ?yR ?yX ?yT ?yF ?yNw ?_) | (refine' sep_spec ?yR ?yX ?yT ?yF ?yNw ?_)); (case yF => k_asm); (case yX => k_asm); (case yT => k_asm); (case yNw => k_asm); (case yR => exact Room.less (by assumption) (by decide)); intros)) | with_reducible (k_here; (with_reducible show wpAny _ _ (call (Value.builtin _) [Value.str _ _, Value.ref _]) _ _ _); (refine join_my (by k_asm) (by with_reducible assumption) (by decide) (by with_reducible assumption) ?_); intro _ _) | with_reducible (k_here; (with_reducible show wpAny _ _ (call (Value.builtin "issubclass") _) _ _ _); (k_here; (refine issub_my (by k_asm) ?_))) | with_reducible (k_here; (with_reducible show wpAny _ _ (truthy (Value.ref _)) _ _ _); (refine truthy_my (by k_asm) (by (first | lia | omega)) ?_); intro _) | with_reducible (k_here; (with_reducible show wpAny _ _ (call (Value.builtin _) [Value.ref _]) _ _ _); (refine pop_my (by k_asm) (by k_asm) (by with_reducible assumption) (by (first | lia | omega)) (by with_reducible assumption) ?_); intro _ _ _ _) | with_reducible (k_here; (with_reducible show wpAny _ _ (call (Value.builtin _) [Value.ref _, _]) _ _ _); (refine append_my (by k_asm) (by k_asm) (by with_reducible assumption) (by (first | lia | omega)) (by first | with_reducible assumption | exact rfl) ?_); intro _ _ _) | with_reducible (k_here; (with_reducible show wpAny _ _ (call (Value.builtin "len") [Value.ref _]) _ _ _); (refine len_at (by k_asm) (by with_reducible assumption) (by (first | lia | omega)) ?_); intro _ _) | with_reducible (k_here; (with_reducible show wpAny _ _ (setItem (Value.ref _) (Value.int _ _) _) _ _ _); (k_here; (first | (refine set_at (by k_asm) (by k_asm) (by with_reducible assumption) (by (first | lia | omega)) (by (first | lia | omega)) ?_) | (refine set_atZ (by k_asm) (by k_asm) (by with_reducible assumption) (by (first | lia | omega)) (by (first | lia | omega)) (by (first | lia | omega)) ?_)); intro _ _ _)) | with_reducible (k_here; (with_reducible show wpAny _ _ (binaryOp Operator.RShift _ _) _ _ _); (k_here; (refine half_at (by (first | lia | omega)) ?_); intro _ _)) | with_reducible (k_here; (with_reducible show wpAny _ _ (compareOp CmpOp.Lt _ _) _ _ _); (k_here; (refine lt_trees (Room.unitsD (by assumption)) (by k_asm) (by with_reducible assumption) (by intro q hq; exact List.mem_cons_of_mem _ hq) (by (first | lia | omega)) (by (first | lia | omega)) (by (first | lia | omega)) ?_); intro _)) | with_reducible (k_here; (with_reducible show wpAny _ _ (subscriptTail _ _ (Value.ref _) (Value.int _ _)) _ _ _); (k_here; (first | (refine get_at (by k_asm) (by (first | lia | omega)) (by with_reducible assumption) ?_ (by with_unfolding_all rfl) (by intro _; with_unfolding_all rfl)) | (refine get_atZ (by k_asm) (by (first | lia | omega)) (by (first | lia | omega)) (by with_reducible assumption) ?_ (by with_unfolding_all rfl) (by intro _; with_unfolding_all rfl))))) | with_reducible (k_here; (with_reducible show wpAny _ _ (subscriptTail _ _ (Value.ref _) (Value.int _ _)) _ _ _); (k_here; (first | (refine get_at (by k_asm) (by (first | lia | omega)) (by with_reducible assumption) ?_ (by with_unfolding_all rfl) (by intro _; with_unfolding_all rfl)) | (refine get_atZ (by k_asm) (by (first | lia | omega)) (by (first | lia | omega)) (by with_reducible assumption) ?_ (by with_unfolding_all rfl) (by intro _; with_unfolding_all rfl))))) | walk1)) | ((((fail_if_success (with_reducible show wpAny _ _ (exec (Stmt.While _ _ _ _) _) _ _ _)); (fail_if_success (with_reducible show wpAny _ _ (exec (Stmt.For _ _ _ _ _) _) _ _ _)))); dsimp only)))
    rename Fr _ _ _ _ => F3
    rename News _ _ _ _ => N3
    exact ret _ _ _ F3 (News.sub N3 fun p hp => List.mem_cons_of_mem _ hp)
end
end
theorem off_S8 : True := by
  w_top off
  trivial
section
theorem rangeSize_2 {n : Nat} : Builtin.Range.rangeSize 2 ((n : Int) + 1) 1 = ((n - 1 : Nat) : Int) := by
  unfold Builtin.Range.rangeSize
  simp only [gt_iff_lt, Int.zero_lt_one, if_true]
  split <;> (first | lia | omega)
theorem range_small2 {n : Nat} (h : n < 2000000000) : Builtin.Range.small 2 ((n : Int) + 1) 1 = true := by
  unfold Builtin.Range.small
  rw [rangeSize_2, fits_long (i := (2 : Int)) (by decide), fits_long (i := (1 : Int)) (by decide), show Builtin.Range.rangeFitsLong ((n : Int) + 1) = true from fits_nat (n := n + 1) (Nat.lt_of_le_of_lt h (by decide)), fits_nat (n := n - 1) (Nat.lt_of_le_of_lt (Nat.sub_le n 1) (Nat.lt_trans h (by decide))), if_pos (by decide), show Builtin.Range.rangeFitsLong ((n : Int) + 1 + (1 - 1)) = true from fits_nat (n := n + 1) (Nat.lt_of_le_of_lt h (by decide))]
  simp
inductive PrJ (news : List (Addr × Obj)) (n : Nat) (i : Nat) (m : Str → Option Value) (nw : List (Addr × Obj)) : Prop
  | mk (z1 : nw = news) (z2 : i ≤ n - 1) (tk : Tok) (z : Int) (z3 : z = ((fact (i + 1) : Nat) : Int)) (z4 : m = ovr [(Str.ofString "product", .int z tk)] m) : PrJ news n i m nw
set_option maxHeartbeats 4000000 in
theorem prod_spec {w : World} {A : Around} {s : Shared} {b0 : Heap} {L : Addr} {m mg mb : Str → Option Value} {mean : ExcName → Option Value} {p : Program} {loose : List Str} {news : List (Addr × Obj)}
  (R : Room A 5) (X : (Mine.heapK w.params).In b0) (T : Top p loose mean mg mb b0) (F : Fr b0 L s.heap m)
  (Nw : News b0 L s.heap news) {n : Nat} {t : Tok} (hn : n ≤ 20) {Q E : Value → Shared → Prop}
  (ret : ∀ h' tk' tk'', Fr b0 L h' m → News b0 L h' news → Q (.int ((fact n : Nat) : Int) tk'') { s with heap := h', toks := tk' }) :
  wpAny (model PySem.Challenge.rw_ik0182_01.row.prog w) A (call (.ref 189) [.int (n : Int) t]) Q E s := by
  obtain ⟨hh, dp, fr, gd, un⟩ := A
  have RR := R
  obtain ⟨hd', hdp, hun⟩ := R
  cases hd'
  revert X; k_fill; intro X
  refine wpAny_call ?_
  k_dflt (refine' enter (binds := [(Str.ofString "count", .int (n : Int) t)]) ?F ?X ?N ?T ?ho ?hcd ?room ?bind ?loc ?_ ?c1 ?c2 ?c3 ?c4)
  (((case F => k_asm); (case X => k_asm); (case N => k_asm); (case T => k_asm); (case ho => k_is); (case hcd => k_is); (case room => exact Room.room (by assumption)); (case bind => exact BindsTo.of_eq rfl); (case loc => exact locs rfl); (case c1 => exact rfl); (case c2 => exact rfl); (case c3 => exact rfl); (case c4 => decide)))
  intro g L' h₁ FG F' N' X' T' lt'
  try dsimp only
  try k_fold
  refine let_env (B := execs _) RR ?_
  intro tk0 env A1 RA
  (repeat' (first | (k_unfold; (try dsimp only)) | (k_end; wrow_close) | ((((fail_if_success (with_reducible show wpAny _ _ (exec (Stmt.While _ _ _ _) _) _ _ _)); (fail_if_success (with_reducible show wpAny _ _ (exec (Stmt.For _ _ _ _ _) _) _ _ _)))); (first | with_reducible (k_here; (with_reducible show wpAny _ _ (call (Value.builtin _) [Value.str _ _, Value.ref _]) _ _ _); (refine join_my (by k_asm) (by with_reducible assumption) (by decide) (by with_reducible assumption) ?_); intro _ _) | with_reducible (k_here; (with_reducible show wpAny _ _ (call (Value.builtin "issubclass") _) _ _ _); (k_here; (refine issub_my (by k_asm) ?_))) | with_reducible (k_here; (with_reducible show wpAny _ _ (truthy (Value.ref _)) _ _ _); (refine truthy_my (by k_asm) (by (first | lia | omega)) ?_); intro _) | with_reducible (k_here; (with_reducible show wpAny _ _ (call (Value.builtin _) [Value.ref _]) _ _ _); (refine pop_my (by k_asm) (by k_asm) (by with_reducible assumption) (by (first | lia | omega)) (by with_reducible assumption) ?_); intro _ _ _ _) | with_reducible (k_here; (with_reducible show wpAny _ _ (call (Value.builtin _) [Value.ref _, _]) _ _ _); (refine append_my (by k_asm) (by k_asm) (by with_reducible assumption) (by (first | lia | omega)) (by first | with_reducible assumption | exact rfl) ?_); intro _ _ _) | with_reducible (k_here; (with_reducible show wpAny _ _ (call (Value.builtin "len") [Value.ref _]) _ _ _); (refine len_at (by k_asm) (by with_reducible assumption) (by (first | lia | omega)) ?_); intro _ _) | with_reducible (k_here; (with_reducible show wpAny _ _ (setItem (Value.ref _) (Value.int _ _) _) _ _ _); (k_here; (first | (refine set_at (by k_asm) (by k_asm) (by with_reducible assumption) (by (first | lia | omega)) (by (first | lia | omega)) ?_) | (refine set_atZ (by k_asm) (by k_asm) (by with_reducible assumption) (by (first | lia | omega)) (by (first | lia | omega)) (by (first | lia | omega)) ?_)); intro _ _ _)) | with_reducible (k_here; (with_reducible show wpAny _ _ (binaryOp Operator.RShift _ _) _ _ _); (k_here; (refine half_at (by (first | lia | omega)) ?_); intro _ _)) | with_reducible (k_here; (with_reducible show wpAny _ _ (compareOp CmpOp.Lt _ _) _ _ _); (k_here; (refine lt_trees (Room.unitsD (by assumption)) (by k_asm) (by with_reducible assumption) (by intro q hq; exact List.mem_cons_of_mem _ hq) (by (first | lia | omega)) (by (first | lia | omega)) (by (first | lia | omega)) ?_); intro _)) | with_reducible (k_here; (with_reducible show wpAny _ _ (subscriptTail _ _ (Value.ref _) (Value.int _ _)) _ _ _); (k_here; (first | (refine get_at (by k_asm) (by (first | lia | omega)) (by with_reducible assumption) ?_ (by with_unfolding_all rfl) (by intro _; with_unfolding_all rfl)) | (refine get_atZ (by k_asm) (by (first | lia | omega)) (by (first | lia | omega)) (by with_reducible assumption) ?_ (by with_unfolding_all rfl) (by intro _; with_unfolding_all rfl))))) | with_reducible (k_here; (with_reducible show wpAny _ _ (subscriptTail _ _ (Value.ref _) (Value.int _ _)) _ _ _); (k_here; (first | (refine get_at (by k_asm) (by (first | lia | omega)) (by with_reducible assumption) ?_ (by with_unfolding_all rfl) (by intro _; with_unfolding_all rfl)) | (refine get_atZ (by k_asm) (by (first | lia | omega)) (by (first | lia | omega)) (by with_reducible assumption) ?_ (by with_unfolding_all rfl) (by intro _; with_unfolding_all rfl))))) | walk1)) | ((((fail_if_success (with_reducible show wpAny _ _ (exec (Stmt.While _ _ _ _) _) _ _ _)); (fail_if_success (with_reducible show wpAny _ _ (exec (Stmt.For _ _ _ _ _) _) _ _ _)))); dsimp only)))
  ((refine For_myF (by k_asm) (by with_unfolding_all rfl) (by with_unfolding_all rfl) ?_ (by intro _; with_unfolding_all rfl) PassesOwn.never))
  (repeat' (first | (k_unfold; (try dsimp only)) | (k_end; wrow_close) | ((((fail_if_success (with_reducible show wpAny _ _ (exec (Stmt.While _ _ _ _) _) _ _ _)); (fail_if_success (with_reducible show wpAny _ _ (exec (Stmt.For _ _ _ _ _) _) _ _ _)))); (first | with_reducible (k_here; (with_reducible show wpAny _ _ (call (Value.builtin _) [Value.str _ _, Value.ref _]) _ _ _); (refine join_my (by k_asm) (by with_reducible assumption) (by decide) (by with_reducible assumption) ?_); intro _ _) | with_reducible (k_here; (with_reducible show wpAny _ _ (call (Value.builtin "issubclass") _) _ _ _); (k_here; (refine issub_my (by k_asm) ?_))) | with_reducible (k_here; (with_reducible show wpAny _ _ (truthy (Value.ref _)) _ _ _); (refine truthy_my (by k_asm) (by (first | lia | omega)) ?_); intro _) | with_reducible (k_here; (with_reducible show wpAny _ _ (call (Value.builtin _) [Value.ref _]) _ _ _); (refine pop_my (by k_asm) (by k_asm) (by with_reducible assumption) (by (first | lia | omega)) (by with_reducible assumption) ?_); intro _ _ _ _) | with_reducible (k_here; (with_reducible show wpAny _ _ (call (Value.builtin _) [Value.ref _, _]) _ _ _); (refine append_my (by k_asm) (by k_asm) (by with_reducible assumption) (by (first | lia | omega)) (by first | with_reducible assumption | exact rfl) ?_); intro _ _ _) | with_reducible (k_here; (with_reducible show wpAny _ _ (call (Value.builtin "len") [Value.ref _]) _ _ _); (refine len_at (by k_asm) (by with_reducible assumption) (by (first | lia | omega)) ?_); intro _ _) | with_reducible (k_here; (with_reducible show wpAny _ _ (setItem (Value.ref _) (Value.int _ _) _) _ _ _); (k_here; (first | (refine set_at (by k_asm) (by k_asm) (by with_reducible assumption) (by (first | lia | omega)) (by (first | lia | omega)) ?_) | (refine set_atZ (by k_asm) (by k_asm) (by with_reducible assumption) (by (first | lia | omega)) (by (first | lia | omega)) (by (first | lia | omega)) ?_)); intro _ _ _)) | with_reducible (k_here; (with_reducible show wpAny _ _ (binaryOp Operator.RShift _ _) _ _ _); (k_here; (refine half_at (by (first | lia | omega)) ?_); intro _ _)) | with_reducible (k_here; (with_reducible show wpAny _ _ (compareOp CmpOp.Lt _ _) _ _ _); (k_here; (refine lt_trees (Room.unitsD (by assumption)) (by k_asm) (by with_reducible assumption) (by intro q hq; exact List.mem_cons_of_mem _ hq) (by (first | lia | omega)) (by (first | lia | omega)) (by (first | lia | omega)) ?_); intro _)) | with_reducible (k_here; (with_reducible show wpAny _ _ (subscriptTail _ _ (Value.ref _) (Value.int _ _)) _ _ _); (k_here; (first | (refine get_at (by k_asm) (by (first | lia | omega)) (by with_reducible assumption) ?_ (by with_unfolding_all rfl) (by intro _; with_unfolding_all rfl)) | (refine get_atZ (by k_asm) (by (first | lia | omega)) (by (first | lia | omega)) (by with_reducible assumption) ?_ (by with_unfolding_all rfl) (by intro _; with_unfolding_all rfl))))) | with_reducible (k_here; (with_reducible show wpAny _ _ (subscriptTail _ _ (Value.ref _) (Value.int _ _)) _ _ _); (k_here; (first | (refine get_at (by k_asm) (by (first | lia | omega)) (by with_reducible assumption) ?_ (by with_unfolding_all rfl) (by intro _; with_unfolding_all rfl)) | (refine get_atZ (by k_asm) (by (first | lia | omega)) (by (first | lia | omega)) (by with_reducible assumption) ?_ (by with_unfolding_all rfl) (by intro _; with_unfolding_all rfl))))) | walk1)) | ((((fail_if_success (with_reducible show wpAny _ _ (exec (Stmt.While _ _ _ _) _) _ _ _)); (fail_if_success (with_reducible show wpAny _ _ (exec (Stmt.For _ _ _ _ _) _) _ _ _)))); dsimp only)))
  rename IsRange _ _ _ _ _ _ _ _ => hr
  rename Fr _ _ _ _ => F1
  rename News _ _ _ _ => N1
  refine LoopMy.range (n := n - 1) (PrJ news n) rfl hr (range_small2 (by (first | lia | omega))) rangeSize_2 F1 N1 ⟨rfl, Nat.zero_le _, _, _, rfl, by ((refine ovr_of ?_; repeat (first | exact List.forall_mem_nil _ | (refine List.forall_mem_cons.mpr ⟨by with_unfolding_all rfl, ?_⟩))))⟩ ?_ ?_
  · rintro I i t' m₁ news₁ h tk oI hi ⟨rfl, hi2, tk1, z, hz, hm⟩ off F2 N2
    rw [hm] at F2
    (repeat' (first | (k_unfold; (try dsimp only)) | (k_end; wrow_close) | ((((fail_if_success (with_reducible show wpAny _ _ (exec (Stmt.While _ _ _ _) _) _ _ _)); (fail_if_success (with_reducible show wpAny _ _ (exec (Stmt.For _ _ _ _ _) _) _ _ _)))); (first | with_reducible (k_here; (with_reducible show wpAny _ _ (call (Value.builtin _) [Value.str _ _, Value.ref _]) _ _ _); (refine join_my (by k_asm) (by with_reducible assumption) (by decide) (by with_reducible assumption) ?_); intro _ _) | with_reducible (k_here; (with_reducible show wpAny _ _ (call (Value.builtin "issubclass") _) _ _ _); (k_here; (refine issub_my (by k_asm) ?_))) | with_reducible (k_here; (with_reducible show wpAny _ _ (truthy (Value.ref _)) _ _ _); (refine truthy_my (by k_asm) (by (first | lia | omega)) ?_); intro _) | with_reducible (k_here; (with_reducible show wpAny _ _ (call (Value.builtin _) [Value.ref _]) _ _ _); (refine pop_my (by k_asm) (by k_asm) (by with_reducible assumption) (by (first | lia | omega)) (by with_reducible assumption) ?_); intro _ _ _ _) | with_reducible (k_here; (with_reducible show wpAny _ _ (call (Value.builtin _) [Value.ref _, _]) _ _ _); (refine append_my (by k_asm) (by k_asm) (by with_reducible assumption) (by (first | lia | omega)) (by first | with_reducible assumption | exact rfl) ?_); intro _ _ _) | with_reducible (k_here; (with_reducible show wpAny _ _ (call (Value.builtin "len") [Value.ref _]) _ _ _); (refine len_at (by k_asm) (by with_reducible assumption) (by (first | lia | omega)) ?_); intro _ _) | with_reducible (k_here; (with_reducible show wpAny _ _ (setItem (Value.ref _) (Value.int _ _) _) _ _ _); (k_here; (first | (refine set_at (by k_asm) (by k_asm) (by with_reducible assumption) (by (first | lia | omega)) (by (first | lia | omega)) ?_) | (refine set_atZ (by k_asm) (by k_asm) (by with_reducible assumption) (by (first | lia | omega)) (by (first | lia | omega)) (by (first | lia | omega)) ?_)); intro _ _ _)) | with_reducible (k_here; (with_reducible show wpAny _ _ (binaryOp Operator.RShift _ _) _ _ _); (k_here; (refine half_at (by (first | lia | omega)) ?_); intro _ _)) | with_reducible (k_here; (with_reducible show wpAny _ _ (compareOp CmpOp.Lt _ _) _ _ _); (k_here; (refine lt_trees (Room.unitsD (by assumption)) (by k_asm) (by with_reducible assumption) (by intro q hq; exact List.mem_cons_of_mem _ hq) (by (first | lia | omega)) (by (first | lia | omega)) (by (first | lia | omega)) ?_); intro _)) | with_reducible (k_here; (with_reducible show wpAny _ _ (subscriptTail _ _ (Value.ref _) (Value.int _ _)) _ _ _); (k_here; (first | (refine get_at (by k_asm) (by (first | lia | omega)) (by with_reducible assumption) ?_ (by with_unfolding_all rfl) (by intro _; with_unfolding_all rfl)) | (refine get_atZ (by k_asm) (by (first | lia | omega)) (by (first | lia | omega)) (by with_reducible assumption) ?_ (by with_unfolding_all rfl) (by intro _; with_unfolding_all rfl))))) | with_reducible (k_here; (with_reducible show wpAny _ _ (subscriptTail _ _ (Value.ref _) (Value.int _ _)) _ _ _); (k_here; (first | (refine get_at (by k_asm) (by (first | lia | omega)) (by with_reducible assumption) ?_ (by with_unfolding_all rfl) (by intro _; with_unfolding_all rfl)) | (refine get_atZ (by k_asm) (by (first | lia | omega)) (by (first | lia | omega)) (by with_reducible assumption) ?_ (by with_unfolding_all rfl) (by intro _; with_unfolding_all rfl))))) | walk1)) | ((((fail_if_success (with_reducible show wpAny _ _ (exec (Stmt.While _ _ _ _) _) _ _ _)); (fail_if_success (with_reducible show wpAny _ _ (exec (Stmt.For _ _ _ _ _) _) _ _ _)))); dsimp only)))
    rename Fr _ _ _ _ => F3
    rename News _ _ _ _ => N3
    refine TurnMy.intro (.inl rfl) F3 N3 off ⟨rfl, by (first | lia | omega), _, _, ?_, by ((refine ovr_of ?_; repeat (first | exact List.forall_mem_nil _ | (refine List.forall_mem_cons.mpr ⟨by with_unfolding_all rfl, ?_⟩))))⟩
    rw [hz]
    show _ = (((i + 1 + 1) * fact (i + 1) : Nat) : Int)
    rw [Int.natCast_mul, Int.mul_comm]
    congr 1
    (first | lia | omega)
  · rintro h tk m₁ news₁ ⟨rfl, hi2, tk1, z, hz, hm⟩ F2 N2
    rw [hm] at F2
    (repeat' (first | (k_unfold; (try dsimp only)) | (k_end; wrow_close) | ((((fail_if_success (with_reducible show wpAny _ _ (exec (Stmt.While _ _ _ _) _) _ _ _)); (fail_if_success (with_reducible show wpAny _ _ (exec (Stmt.For _ _ _ _ _) _) _ _ _)))); (first | with_reducible (k_here; (with_reducible show wpAny _ _ (call (Value.builtin _) [Value.str _ _, Value.ref _]) _ _ _); (refine join_my (by k_asm) (by with_reducible assumption) (by decide) (by with_reducible assumption) ?_); intro _ _) | with_reducible (k_here; (with_reducible show wpAny _ _ (call (Value.builtin "issubclass") _) _ _ _); (k_here; (refine issub_my (by k_asm) ?_))) | with_reducible (k_here; (with_reducible show wpAny _ _ (truthy (Value.ref _)) _ _ _); (refine truthy_my (by k_asm) (by (first | lia | omega)) ?_); intro _) | with_reducible (k_here; (with_reducible show wpAny _ _ (call (Value.builtin _) [Value.ref _]) _ _ _); (refine pop_my (by k_asm) (by k_asm) (by with_reducible assumption) (by (first | lia | omega)) (by with_reducible assumption) ?_); intro _ _ _ _) | with_reducible (k_here; (with_reducible show wpAny _ _ (call (Value.builtin _) [Value.ref _, _]) _ _ _); (refine append_my (by k_asm) (by k_asm) (by with_reducible assumption) (by (first | lia | omega)) (by first | with_reducible assumption | exact rfl) ?_); intro _ _ _) | with_reducible (k_here; (with_reducible show wpAny _ _ (call (Value.builtin "len") [Value.ref _]) _ _ _); (refine len_at (by k_asm) (by with_reducible assumption) (by (first | lia | omega)) ?_); intro _ _) | with_reducible (k_here; (with_reducible show wpAny _ _ (setItem (Value.ref _) (Value.int _ _) _) _ _ _); (k_here; (first | (refine set_at (by k_asm) (by k_asm) (by with_reducible assumption) (by (first | lia | omega)) (by (first | lia | omega)) ?_) | (refine set_atZ (by k_asm) (by k_asm) (by with_reducible assumption) (by (first | lia | omega)) (by (first | lia | omega)) (by (first | lia | omega)) ?_)); intro _ _ _)) | with_reducible (k_here; (with_reducible show wpAny _ _ (binaryOp Operator.RShift _ _) _ _ _); (k_here; (refine half_at (by (first | lia | omega)) ?_); intro _ _)) | with_reducible (k_here; (with_reducible show wpAny _ _ (compareOp CmpOp.Lt _ _) _ _ _); (k_here; (refine lt_trees (Room.unitsD (by assumption)) (by k_asm) (by with_reducible assumption) (by intro q hq; exact List.mem_cons_of_mem _ hq) (by (first | lia | omega)) (by (first | lia | omega)) (by (first | lia | omega)) ?_); intro _)) | with_reducible (k_here; (with_reducible show wpAny _ _ (subscriptTail _ _ (Value.ref _) (Value.int _ _)) _ _ _); (k_here; (first | (refine get_at (by k_asm) (by (first | lia | omega)) (by with_reducible assumption) ?_ (by with_unfolding_all rfl) (by intro _; with_unfolding_all rfl)) | (refine get_atZ (by k_asm) (by (first | lia | omega)) (by (first | lia | omega)) (by with_reducible assumption) ?_ (by with_unfolding_all rfl) (by intro _; with_unfolding_all rfl))))) | with_reducible (k_here; (with_reducible show wpAny _ _ (subscriptTail _ _ (Value.ref _) (Value.int _ _)) _ _ _); (k_here; (first | (refine get_at (by k_asm) (by (first | lia | omega)) (by with_reducible assumption) ?_ (by with_unfolding_all rfl) (by intro _; with_unfolding_all rfl)) | (refine get_atZ (by k_asm) (by (first | lia | omega)) (by (first | lia | omega)) (by with_reducible assumption) ?_ (by with_unfolding_all rfl) (by intro _; with_unfolding_all rfl))))) | walk1)) | ((((fail_if_success (with_reducible show wpAny _ _ (exec (Stmt.While _ _ _ _) _) _ _ _)); (fail_if_success (with_reducible show wpAny _ _ (exec (Stmt.For _ _ _ _ _) _) _ _ _)))); dsimp only)))
    rename Fr _ _ _ _ => F3
    rename News _ _ _ _ => N3
    have e : fact (n - 1 + 1) = fact n := by cases n <;> rfl
    rw [e] at hz
    rw [hz]
    exact ret _ _ _ F3 N3
noncomputable def twos (n : Nat) : Nat := if h : n = 0 then 0 else if n % 2 = 0 then twos (n / 2) + 1 else 0
termination_by n
decreasing_by (first | lia | omega)
theorem twos_even {n : Nat} (h0 : n ≠ 0) (h : n % 2 = 0) : twos n = twos (n / 2) + 1 := by rw [twos]; simp [h0, h]
theorem twos_odd {n : Nat} (h : n % 2 ≠ 0) : twos n = 0 := by rw [twos]; split <;> simp [h]
inductive TwJ (news : List (Addr × Obj)) (n : Nat) (q : Nat) (m : Str → Option Value) (nw : List (Addr × Obj)) : Prop
  | mk (z1 : nw = news) (z2 : q ≠ 0) (z3 : q < 10 ^ 30) (y z : Int) (tk tk' : Tok) (c : Nat) (z4 : y = (q : Int)) (z5 : z = (c : Int)) (z6 : c + twos q = twos n) (z7 : m = ovr [(Str.ofString "number", .int y tk), (Str.ofString "twos", .int z tk')] m) : TwJ news n q m nw
set_option maxHeartbeats 4000000 in
theorem twos_spec {w : World} {A : Around} {s : Shared} {b0 : Heap} {L : Addr} {m mg mb : Str → Option Value} {mean : ExcName → Option Value} {p : Program} {loose : List Str} {news : List (Addr × Obj)}
  (R : Room A 5) (X : (Mine.heapK w.params).In b0) (T : Top p loose mean mg mb b0) (F : Fr b0 L s.heap m)
  (Nw : News b0 L s.heap news) {n : Nat} {t : Tok} (hn : n < 10 ^ 30) (h0 : n ≠ 0) {Q E : Value → Shared → Prop}
  (ret : ∀ h' tk' tk'', Fr b0 L h' m → News b0 L h' news → Q (.int ((twos n : Nat) : Int) tk'') { s with heap := h', toks := tk' }) :
  wpAny (model PySem.Challenge.rw_ik0182_01.row.prog w) A (call (.ref 196) [.int (n : Int) t]) Q E s := by
  obtain ⟨hh, dp, fr, gd, un⟩ := A
  have RR := R
  obtain ⟨hd', hdp, hun⟩ := R
  cases hd'
  revert X; k_fill; intro X
  refine wpAny_call ?_
  k_dflt (refine' enter (binds := [(Str.ofString "number", .int (n : Int) t)]) ?F ?X ?N ?T ?ho ?hcd ?room ?bind ?loc ?_ ?c1 ?c2 ?c3 ?c4)
  (((case F => k_asm); (case X => k_asm); (case N => k_asm); (case T => k_asm); (case ho => k_is); (case hcd => k_is); (case room => exact Room.room (by assumption)); (case bind => exact BindsTo.of_eq rfl); (case loc => exact locs rfl); (case c1 => exact rfl); (case c2 => exact rfl); (case c3 => exact rfl); (case c4 => decide)))
  intro g L' h₁ FG F' N' X' T' lt'
  try dsimp only
  try k_fold
  refine let_env (B := execs _) RR ?_
  intro tk0 env A1 RA
  (repeat' (first | (k_unfold; (try dsimp only)) | (k_end; wrow_close) | ((((fail_if_success (with_reducible show wpAny _ _ (exec (Stmt.While _ _ _ _) _) _ _ _)); (fail_if_success (with_reducible show wpAny _ _ (exec (Stmt.For _ _ _ _ _) _) _ _ _)))); (first | with_reducible (k_here; (with_reducible show wpAny _ _ (call (Value.builtin _) [Value.str _ _, Value.ref _]) _ _ _); (refine join_my (by k_asm) (by with_reducible assumption) (by decide) (by with_reducible assumption) ?_); intro _ _) | with_reducible (k_here; (with_reducible show wpAny _ _ (call (Value.builtin "issubclass") _) _ _ _); (k_here; (refine issub_my (by k_asm) ?_))) | with_reducible (k_here; (with_reducible show wpAny _ _ (truthy (Value.ref _)) _ _ _); (refine truthy_my (by k_asm) (by (first | lia | omega)) ?_); intro _) | with_reducible (k_here; (with_reducible show wpAny _ _ (call (Value.builtin _) [Value.ref _]) _ _ _); (refine pop_my (by k_asm) (by k_asm) (by with_reducible assumption) (by (first | lia | omega)) (by with_reducible assumption) ?_); intro _ _ _ _) | with_reducible (k_here; (with_reducible show wpAny _ _ (call (Value.builtin _) [Value.ref _, _]) _ _ _); (refine append_my (by k_asm) (by k_asm) (by with_reducible assumption) (by (first | lia | omega)) (by first | with_reducible assumption | exact rfl) ?_); intro _ _ _) | with_reducible (k_here; (with_reducible show wpAny _ _ (call (Value.builtin "len") [Value.ref _]) _ _ _); (refine len_at (by k_asm) (by with_reducible assumption) (by (first | lia | omega)) ?_); intro _ _) | with_reducible (k_here; (with_reducible show wpAny _ _ (setItem (Value.ref _) (Value.int _ _) _) _ _ _); (k_here; (first | (refine set_at (by k_asm) (by k_asm) (by with_reducible assumption) (by (first | lia | omega)) (by (first | lia | omega)) ?_) | (refine set_atZ (by k_asm) (by k_asm) (by with_reducible assumption) (by (first | lia | omega)) (by (first | lia | omega)) (by (first | lia | omega)) ?_)); intro _ _ _)) | with_reducible (k_here; (with_reducible show wpAny _ _ (binaryOp Operator.RShift _ _) _ _ _); (k_here; (refine half_at (by (first | lia | omega)) ?_); intro _ _)) | with_reducible (k_here; (with_reducible show wpAny _ _ (compareOp CmpOp.Lt _ _) _ _ _); (k_here; (refine lt_trees (Room.unitsD (by assumption)) (by k_asm) (by with_reducible assumption) (by intro q hq; exact List.mem_cons_of_mem _ hq) (by (first | lia | omega)) (by (first | lia | omega)) (by (first | lia | omega)) ?_); intro _)) | with_reducible (k_here; (with_reducible show wpAny _ _ (subscriptTail _ _ (Value.ref _) (Value.int _ _)) _ _ _); (k_here; (first | (refine get_at (by k_asm) (by (first | lia | omega)) (by with_reducible assumption) ?_ (by with_unfolding_all rfl) (by intro _; with_unfolding_all rfl)) | (refine get_atZ (by k_asm) (by (first | lia | omega)) (by (first | lia | omega)) (by with_reducible assumption) ?_ (by with_unfolding_all rfl) (by intro _; with_unfolding_all rfl))))) | with_reducible (k_here; (with_reducible show wpAny _ _ (subscriptTail _ _ (Value.ref _) (Value.int _ _)) _ _ _); (k_here; (first | (refine get_at (by k_asm) (by (first | lia | omega)) (by with_reducible assumption) ?_ (by with_unfolding_all rfl) (by intro _; with_unfolding_all rfl)) | (refine get_atZ (by k_asm) (by (first | lia | omega)) (by (first | lia | omega)) (by with_reducible assumption) ?_ (by with_unfolding_all rfl) (by intro _; with_unfolding_all rfl))))) | walk1)) | ((((fail_if_success (with_reducible show wpAny _ _ (exec (Stmt.While _ _ _ _) _) _ _ _)); (fail_if_success (with_reducible show wpAny _ _ (exec (Stmt.For _ _ _ _ _) _) _ _ _)))); dsimp only)))
  rename Fr _ _ _ _ => F1
  rename News _ _ _ _ => N1
  refine While_inv2 (TwJ news n) (n₀ := n) F1 N1 ⟨rfl, h0, hn, _, _, _, _, 0, rfl, rfl, by simp, by ((refine ovr_of ?_; repeat (first | exact List.forall_mem_nil _ | (refine List.forall_mem_cons.mpr ⟨by with_unfolding_all rfl, ?_⟩))))⟩ ?_
  rintro q m1 news1 h2 tk2 F2 N2 ⟨rfl, hq0, hqn, y, z, tk, tk', c, hy, hz, hc, hm⟩
  rw [hm] at F2
  have hfm : y.fmod 2 = ((q % 2 : Nat) : Int) := by rw [hy, Int.fmod_eq_emod_of_nonneg _ (by decide)]; (first | lia | omega)
  have hfd : y.fdiv 2 = ((q / 2 : Nat) : Int) := by rw [hy, Int.fdiv_eq_ediv_of_nonneg _ (by decide)]; (first | lia | omega)
  by_cases he : q % 2 = 0
  · have e := twos_even hq0 he
    (repeat' (first | (k_unfold; (try dsimp only)) | (k_end; wrow_close) | ((((fail_if_success (with_reducible show wpAny _ _ (exec (Stmt.While _ _ _ _) _) _ _ _)); (fail_if_success (with_reducible show wpAny _ _ (exec (Stmt.For _ _ _ _ _) _) _ _ _)))); (first | with_reducible (k_here; (with_reducible show wpAny _ _ (call (Value.builtin _) [Value.str _ _, Value.ref _]) _ _ _); (refine join_my (by k_asm) (by with_reducible assumption) (by decide) (by with_reducible assumption) ?_); intro _ _) | with_reducible (k_here; (with_reducible show wpAny _ _ (call (Value.builtin "issubclass") _) _ _ _); (k_here; (refine issub_my (by k_asm) ?_))) | with_reducible (k_here; (with_reducible show wpAny _ _ (truthy (Value.ref _)) _ _ _); (refine truthy_my (by k_asm) (by (first | lia | omega)) ?_); intro _) | with_reducible (k_here; (with_reducible show wpAny _ _ (call (Value.builtin _) [Value.ref _]) _ _ _); (refine pop_my (by k_asm) (by k_asm) (by with_reducible assumption) (by (first | lia | omega)) (by with_reducible assumption) ?_); intro _ _ _ _) | with_reducible (k_here; (with_reducible show wpAny _ _ (call (Value.builtin _) [Value.ref _, _]) _ _ _); (refine append_my (by k_asm) (by k_asm) (by with_reducible assumption) (by (first | lia | omega)) (by first | with_reducible assumption | exact rfl) ?_); intro _ _ _) | with_reducible (k_here; (with_reducible show wpAny _ _ (call (Value.builtin "len") [Value.ref _]) _ _ _); (refine len_at (by k_asm) (by with_reducible assumption) (by (first | lia | omega)) ?_); intro _ _) | with_reducible (k_here; (with_reducible show wpAny _ _ (setItem (Value.ref _) (Value.int _ _) _) _ _ _); (k_here; (first | (refine set_at (by k_asm) (by k_asm) (by with_reducible assumption) (by (first | lia | omega)) (by (first | lia | omega)) ?_) | (refine set_atZ (by k_asm) (by k_asm) (by with_reducible assumption) (by (first | lia | omega)) (by (first | lia | omega)) (by (first | lia | omega)) ?_)); intro _ _ _)) | with_reducible (k_here; (with_reducible show wpAny _ _ (binaryOp Operator.RShift _ _) _ _ _); (k_here; (refine half_at (by (first | lia | omega)) ?_); intro _ _)) | with_reducible (k_here; (with_reducible show wpAny _ _ (compareOp CmpOp.Lt _ _) _ _ _); (k_here; (refine lt_trees (Room.unitsD (by assumption)) (by k_asm) (by with_reducible assumption) (by intro q hq; exact List.mem_cons_of_mem _ hq) (by (first | lia | omega)) (by (first | lia | omega)) (by (first | lia | omega)) ?_); intro _)) | with_reducible (k_here; (with_reducible show wpAny _ _ (subscriptTail _ _ (Value.ref _) (Value.int _ _)) _ _ _); (k_here; (first | (refine get_at (by k_asm) (by (first | lia | omega)) (by with_reducible assumption) ?_ (by with_unfolding_all rfl) (by intro _; with_unfolding_all rfl)) | (refine get_atZ (by k_asm) (by (first | lia | omega)) (by (first | lia | omega)) (by with_reducible assumption) ?_ (by with_unfolding_all rfl) (by intro _; with_unfolding_all rfl))))) | with_reducible (k_here; (with_reducible show wpAny _ _ (subscriptTail _ _ (Value.ref _) (Value.int _ _)) _ _ _); (k_here; (first | (refine get_at (by k_asm) (by (first | lia | omega)) (by with_reducible assumption) ?_ (by with_unfolding_all rfl) (by intro _; with_unfolding_all rfl)) | (refine get_atZ (by k_asm) (by (first | lia | omega)) (by (first | lia | omega)) (by with_reducible assumption) ?_ (by with_unfolding_all rfl) (by intro _; with_unfolding_all rfl))))) | walk1)) | ((((fail_if_success (with_reducible show wpAny _ _ (exec (Stmt.While _ _ _ _) _) _ _ _)); (fail_if_success (with_reducible show wpAny _ _ (exec (Stmt.For _ _ _ _ _) _) _ _ _)))); dsimp only)))
    · skip
      rename Fr _ _ _ _ => F3
      rename News _ _ _ _ => N3
      refine while_go (n' := q / 2) (by first | exact .inl rfl | exact .inr rfl) F3 N3 (by (first | lia | omega)) ⟨rfl, by (first | lia | omega), by (first | lia | omega), _, _, _, _, c + 1, hfd, ?_, by (first | lia | omega), by ((refine ovr_of ?_; repeat (first | exact List.forall_mem_nil _ | (refine List.forall_mem_cons.mpr ⟨by with_unfolding_all rfl, ?_⟩))))⟩
      (first | lia | omega)
    · exfalso; (first | lia | omega)
  · have e := twos_odd he
    (repeat' (first | (k_unfold; (try dsimp only)) | (k_end; wrow_close) | ((((fail_if_success (with_reducible show wpAny _ _ (exec (Stmt.While _ _ _ _) _) _ _ _)); (fail_if_success (with_reducible show wpAny _ _ (exec (Stmt.For _ _ _ _ _) _) _ _ _)))); (first | with_reducible (k_here; (with_reducible show wpAny _ _ (call (Value.builtin _) [Value.str _ _, Value.ref _]) _ _ _); (refine join_my (by k_asm) (by with_reducible assumption) (by decide) (by with_reducible assumption) ?_); intro _ _) | with_reducible (k_here; (with_reducible show wpAny _ _ (call (Value.builtin "issubclass") _) _ _ _); (k_here; (refine issub_my (by k_asm) ?_))) | with_reducible (k_here; (with_reducible show wpAny _ _ (truthy (Value.ref _)) _ _ _); (refine truthy_my (by k_asm) (by (first | lia | omega)) ?_); intro _) | with_reducible (k_here; (with_reducible show wpAny _ _ (call (Value.builtin _) [Value.ref _]) _ _ _); (refine pop_my (by k_asm) (by k_asm) (by with_reducible assumption) (by (first | lia | omega)) (by with_reducible assumption) ?_); intro _ _ _ _) | with_reducible (k_here; (with_reducible show wpAny _ _ (call (Value.builtin _) [Value.ref _, _]) _ _ _); (refine append_my (by k_asm) (by k_asm) (by with_reducible assumption) (by (first | lia | omega)) (by first | with_reducible assumption | exact rfl) ?_); intro _ _ _) | with_reducible (k_here; (with_reducible show wpAny _ _ (call (Value.builtin "len") [Value.ref _]) _ _ _); (refine len_at (by k_asm) (by with_reducible assumption) (by (first | lia | omega)) ?_); intro _ _) | with_reducible (k_here; (with_reducible show wpAny _ _ (setItem (Value.ref _) (Value.int _ _) _) _ _ _); (k_here; (first | (refine set_at (by k_asm) (by k_asm) (by with_reducible assumption) (by (first | lia | omega)) (by (first | lia | omega)) ?_) | (refine set_atZ (by k_asm) (by k_asm) (by with_reducible assumption) (by (first | lia | omega)) (by (first | lia | omega)) (by (first | lia | omega)) ?_)); intro _ _ _)) | with_reducible (k_here; (with_reducible show wpAny _ _ (binaryOp Operator.RShift _ _) _ _ _); (k_here; (refine half_at (by (first | lia | omega)) ?_); intro _ _)) | with_reducible (k_here; (with_reducible show wpAny _ _ (compareOp CmpOp.Lt _ _) _ _ _); (k_here; (refine lt_trees (Room.unitsD (by assumption)) (by k_asm) (by with_reducible assumption) (by intro q hq; exact List.mem_cons_of_mem _ hq) (by (first | lia | omega)) (by (first | lia | omega)) (by (first | lia | omega)) ?_); intro _)) | with_reducible (k_here; (with_reducible show wpAny _ _ (subscriptTail _ _ (Value.ref _) (Value.int _ _)) _ _ _); (k_here; (first | (refine get_at (by k_asm) (by (first | lia | omega)) (by with_reducible assumption) ?_ (by with_unfolding_all rfl) (by intro _; with_unfolding_all rfl)) | (refine get_atZ (by k_asm) (by (first | lia | omega)) (by (first | lia | omega)) (by with_reducible assumption) ?_ (by with_unfolding_all rfl) (by intro _; with_unfolding_all rfl))))) | with_reducible (k_here; (with_reducible show wpAny _ _ (subscriptTail _ _ (Value.ref _) (Value.int _ _)) _ _ _); (k_here; (first | (refine get_at (by k_asm) (by (first | lia | omega)) (by with_reducible assumption) ?_ (by with_unfolding_all rfl) (by intro _; with_unfolding_all rfl)) | (refine get_atZ (by k_asm) (by (first | lia | omega)) (by (first | lia | omega)) (by with_reducible assumption) ?_ (by with_unfolding_all rfl) (by intro _; with_unfolding_all rfl))))) | walk1)) | ((((fail_if_success (with_reducible show wpAny _ _ (exec (Stmt.While _ _ _ _) _) _ _ _)); (fail_if_success (with_reducible show wpAny _ _ (exec (Stmt.For _ _ _ _ _) _) _ _ _)))); dsimp only)))
    · exfalso; (first | lia | omega)
    · rename Fr _ _ _ _ => F3
      rename News _ _ _ _ => N3
      rw [hz, show c = twos n by (first | lia | omega)]
      exact ret _ _ _ F3 N3
end
theorem off_S9 : True := by
  w_top off
  trivial
section
noncomputable def flagName : Nat → Str
  | 0 => Str.ofString "OPTIMIZED"
  | 1 => Str.ofString "NEWLOCALS"
  | 2 => Str.ofString "VARARGS"
  | 3 => Str.ofString "VARKEYWORDS"
  | _ => Str.ofString "NESTED"
theorem fn0 : ({ cps := #[79, 80, 84, 73, 77, 73, 90, 69, 68] } : Str) = flagName 0 := by decide +kernel
theorem fn1 : ({ cps := #[78, 69, 87, 76, 79, 67, 65, 76, 83] } : Str) = flagName 1 := by decide +kernel
theorem fn2 : ({ cps := #[86, 65, 82, 65, 82, 71, 83] } : Str) = flagName 2 := by decide +kernel
theorem fn3 : ({ cps := #[86, 65, 82, 75, 69, 89, 87, 79, 82, 68, 83] } : Str) = flagName 3 := by decide +kernel
theorem fn4 : ({ cps := #[78, 69, 83, 84, 69, 68] } : Str) = flagName 4 := by decide +kernel
theorem flagName_len (k : Nat) : (flagName k).length ≤ 11 := by
  unfold flagName; split <;> decide
theorem flags_weight {l : List Nat} (h : l.length ≤ 1000) : ((l.map flagName).map (·.length)).sum + (l.map flagName).length ≤ 1048576 := by
  have : ∀ l : List Nat, ((l.map flagName).map (·.length)).sum ≤ 11 * l.length := by
    intro l
    induction l with
    | nil => simp
    | cons a r ih =>
      have := flagName_len a
      simp only [List.map_cons, List.sum_cons, List.length_cons] at ih ⊢
      (first | lia | omega)
  have := this l
  simp only [List.length_map]; (first | lia | omega)
theorem flag_fact : ∀ (n : Fin 21) (i : Fin 5), (Builtin.bitAnd ((n.val / 2 ^ i.val * 2 ^ i.val : Nat) : Int) (1 * 2 ^ i.val) = 0 ↔ n.val / 2 ^ i.val % 2 ≠ 1) ∧
    (n.val / 2 ^ i.val % 2 = 1 → Builtin.bitXor ((n.val / 2 ^ i.val * 2 ^ i.val : Nat) : Int) (1 * 2 ^ i.val) = ((n.val / 2 ^ (i.val + 1) * 2 ^ (i.val + 1) : Nat) : Int)) ∧
    (n.val / 2 ^ i.val % 2 ≠ 1 → n.val / 2 ^ i.val * 2 ^ i.val = n.val / 2 ^ (i.val + 1) * 2 ^ (i.val + 1)) := by decide +kernel
theorem flag_set {n i : Nat} (hn : n ≤ 20) (hi : i ≤ 4) {fl : Int} (hfl : fl = ((n / 2 ^ i * 2 ^ i : Nat) : Int)) (h : Builtin.bitAnd fl (1 * 2 ^ i) ≠ 0) :
    n / 2 ^ i % 2 = 1 ∧ Builtin.bitXor fl (1 * 2 ^ i) = ((n / 2 ^ (i + 1) * 2 ^ (i + 1) : Nat) : Int) := by
  have f := flag_fact ⟨n, by (first | lia | omega)⟩ ⟨i, by (first | lia | omega)⟩
  subst hfl
  have h1 : n / 2 ^ i % 2 = 1 := Decidable.byContradiction fun h' => h (f.1.mpr h')
  exact ⟨h1, f.2.1 h1⟩
theorem flag_clear {n i : Nat} (hn : n ≤ 20) (hi : i ≤ 4) {fl : Int} (hfl : fl = ((n / 2 ^ i * 2 ^ i : Nat) : Int)) (h : Builtin.bitAnd fl (1 * 2 ^ i) = 0) :
    n / 2 ^ i % 2 ≠ 1 ∧ n / 2 ^ i * 2 ^ i = n / 2 ^ (i + 1) * 2 ^ (i + 1) := by
  have f := flag_fact ⟨n, by (first | lia | omega)⟩ ⟨i, by (first | lia | omega)⟩
  subst hfl
  have h1 := f.1.mp h
  exact ⟨h1, f.2.2 h1⟩
theorem names_set {n i : Nat} {vs : List Value} {t : Tok} (hS : PyProof.Rows.StrsAre vs ((bitsBelow n i).map flagName)) (h : n / 2 ^ i % 2 = 1) : PyProof.Rows.StrsAre (vs ++ [.str (flagName i) t]) ((bitsBelow n (i + 1)).map flagName) := by
  rw [bitsBelow_succ, if_pos h, List.map_append]
  exact StrsAre.snoc hS _ _
theorem names_clear {n i : Nat} {vs : List Value} (hS : PyProof.Rows.StrsAre vs ((bitsBelow n i).map flagName)) (h : n / 2 ^ i % 2 ≠ 1) : PyProof.Rows.StrsAre vs ((bitsBelow n (i + 1)).map flagName) := by
  rw [bitsBelow_succ, if_neg h, List.append_nil]; exact hS
theorem bits_done : ∀ (n : Fin 21) (i : Fin 5), n.val / 2 ^ (i.val + 1) * 2 ^ (i.val + 1) = 0 → bitsBelow n.val (i.val + 1) = bits n.val := by decide +kernel
theorem hex_small : ∀ i : Fin 5, (baseText "0x" 16 (1 * 2 ^ ((i.val : Nat) : Int).toNat)).length ≤ sizeLine := by decide +kernel
theorem get_flag {w : World} {A : Around} {s : Shared} {b0 : Heap} {L : Addr} {m mg mb : Str → Option Value} {mean : ExcName → Option Value} {p : Program} {loose : List Str} (X : (Mine.heapK w.params).In b0) (T : Top p loose mean mg mb b0) (F : Fr b0 L s.heap m) {i : Nat} (hi : i ≤ 4) {t u : Tok} {x : Str} {Q E : Value → Shared → Prop}
    (h : ∀ tk, Q (.str (flagName i) tk) { s with toks := s.toks + 1 }) : wpAny (model PySem.Challenge.rw_ik0182_01.row.prog w) A (call (.builtin "dict.get") [.ref 57, .int (1 * 2 ^ ((i : Nat) : Int).toNat) t, .str x u]) Q E s := by
  revert X; k_fill; intro X
  have cases : i = 0 ∨ i = 1 ∨ i = 2 ∨ i = 3 ∨ i = 4 := by (first | lia | omega)
  rcases cases with rfl | rfl | rfl | rfl | rfl
  · show wpAny _ _ (call _ [_, .int (1 * 2 ^ Int.toNat 0) _, _]) _ _ _
    rw [← fn0] at h
    (first | with_reducible (k_here; (refine get_flag (by k_asm) (by k_asm) (by k_asm) (by (first | lia | omega)) ?_); intro _) | with_reducible (k_here; (refine P.hex_of_int ?_ (hex_small ⟨_, by (first | lia | omega)⟩))) | with_reducible (k_here; (with_reducible show wpAny _ _ (call (Value.builtin _) [Value.str _ _, Value.ref _]) _ _ _); (refine join_my (by k_asm) (by with_reducible assumption) (by decide) (by with_reducible assumption) ?_); intro _ _) | with_reducible (k_here; (with_reducible show wpAny _ _ (call (Value.builtin "issubclass") _) _ _ _); (k_here; (refine issub_my (by k_asm) ?_))) | with_reducible (k_here; (with_reducible show wpAny _ _ (truthy (Value.ref _)) _ _ _); (refine truthy_my (by k_asm) (by (first | lia | omega)) ?_); intro _) | with_reducible (k_here; (with_reducible show wpAny _ _ (call (Value.builtin _) [Value.ref _]) _ _ _); (refine pop_my (by k_asm) (by k_asm) (by with_reducible assumption) (by (first | lia | omega)) (by with_reducible assumption) ?_); intro _ _ _ _) | with_reducible (k_here; (with_reducible show wpAny _ _ (call (Value.builtin _) [Value.ref _, _]) _ _ _); (refine append_my (by k_asm) (by k_asm) (by with_reducible assumption) (by (first | lia | omega)) (by first | with_reducible assumption | exact rfl) ?_); intro _ _ _) | with_reducible (k_here; (with_reducible show wpAny _ _ (call (Value.builtin "len") [Value.ref _]) _ _ _); (refine len_at (by k_asm) (by with_reducible assumption) (by (first | lia | omega)) ?_); intro _ _) | with_reducible (k_here; (with_reducible show wpAny _ _ (setItem (Value.ref _) (Value.int _ _) _) _ _ _); (k_here; (first | (refine set_at (by k_asm) (by k_asm) (by with_reducible assumption) (by (first | lia | omega)) (by (first | lia | omega)) ?_) | (refine set_atZ (by k_asm) (by k_asm) (by with_reducible assumption) (by (first | lia | omega)) (by (first | lia | omega)) (by (first | lia | omega)) ?_)); intro _ _ _)) | with_reducible (k_here; (with_reducible show wpAny _ _ (binaryOp Operator.RShift _ _) _ _ _); (k_here; (refine half_at (by (first | lia | omega)) ?_); intro _ _)) | with_reducible (k_here; (with_reducible show wpAny _ _ (compareOp CmpOp.Lt _ _) _ _ _); (k_here; (refine lt_trees (Room.unitsD (by assumption)) (by k_asm) (by with_reducible assumption) (by intro q hq; exact List.mem_cons_of_mem _ hq) (by (first | lia | omega)) (by (first | lia | omega)) (by (first | lia | omega)) ?_); intro _)) | with_reducible (k_here; (with_reducible show wpAny _ _ (subscriptTail _ _ (Value.ref _) (Value.int _ _)) _ _ _); (k_here; (first | (refine get_at (by k_asm) (by (first | lia | omega)) (by with_reducible assumption) ?_ (by with_unfolding_all rfl) (by intro _; with_unfolding_all rfl)) | (refine get_atZ (by k_asm) (by (first | lia | omega)) (by (first | lia | omega)) (by with_reducible assumption) ?_ (by with_unfolding_all rfl) (by intro _; with_unfolding_all rfl))))) | with_reducible (k_here; (with_reducible show wpAny _ _ (subscriptTail _ _ (Value.ref _) (Value.int _ _)) _ _ _); (k_here; (first | (refine get_at (by k_asm) (by (first | lia | omega)) (by with_reducible assumption) ?_ (by with_unfolding_all rfl) (by intro _; with_unfolding_all rfl)) | (refine get_atZ (by k_asm) (by (first | lia | omega)) (by (first | lia | omega)) (by with_reducible assumption) ?_ (by with_unfolding_all rfl) (by intro _; with_unfolding_all rfl))))) | walk1)
    repeat (first | with_reducible (k_here; (refine get_flag (by k_asm) (by k_asm) (by k_asm) (by (first | lia | omega)) ?_); intro _) | with_reducible (k_here; (refine P.hex_of_int ?_ (hex_small ⟨_, by (first | lia | omega)⟩))) | with_reducible (k_here; (with_reducible show wpAny _ _ (call (Value.builtin _) [Value.str _ _, Value.ref _]) _ _ _); (refine join_my (by k_asm) (by with_reducible assumption) (by decide) (by with_reducible assumption) ?_); intro _ _) | with_reducible (k_here; (with_reducible show wpAny _ _ (call (Value.builtin "issubclass") _) _ _ _); (k_here; (refine issub_my (by k_asm) ?_))) | with_reducible (k_here; (with_reducible show wpAny _ _ (truthy (Value.ref _)) _ _ _); (refine truthy_my (by k_asm) (by (first | lia | omega)) ?_); intro _) | with_reducible (k_here; (with_reducible show wpAny _ _ (call (Value.builtin _) [Value.ref _]) _ _ _); (refine pop_my (by k_asm) (by k_asm) (by with_reducible assumption) (by (first | lia | omega)) (by with_reducible assumption) ?_); intro _ _ _ _) | with_reducible (k_here; (with_reducible show wpAny _ _ (call (Value.builtin _) [Value.ref _, _]) _ _ _); (refine append_my (by k_asm) (by k_asm) (by with_reducible assumption) (by (first | lia | omega)) (by first | with_reducible assumption | exact rfl) ?_); intro _ _ _) | with_reducible (k_here; (with_reducible show wpAny _ _ (call (Value.builtin "len") [Value.ref _]) _ _ _); (refine len_at (by k_asm) (by with_reducible assumption) (by (first | lia | omega)) ?_); intro _ _) | with_reducible (k_here; (with_reducible show wpAny _ _ (setItem (Value.ref _) (Value.int _ _) _) _ _ _); (k_here; (first | (refine set_at (by k_asm) (by k_asm) (by with_reducible assumption) (by (first | lia | omega)) (by (first | lia | omega)) ?_) | (refine set_atZ (by k_asm) (by k_asm) (by with_reducible assumption) (by (first | lia | omega)) (by (first | lia | omega)) (by (first | lia | omega)) ?_)); intro _ _ _)) | with_reducible (k_here; (with_reducible show wpAny _ _ (binaryOp Operator.RShift _ _) _ _ _); (k_here; (refine half_at (by (first | lia | omega)) ?_); intro _ _)) | with_reducible (k_here; (with_reducible show wpAny _ _ (compareOp CmpOp.Lt _ _) _ _ _); (k_here; (refine lt_trees (Room.unitsD (by assumption)) (by k_asm) (by with_reducible assumption) (by intro q hq; exact List.mem_cons_of_mem _ hq) (by (first | lia | omega)) (by (first | lia | omega)) (by (first | lia | omega)) ?_); intro _)) | with_reducible (k_here; (with_reducible show wpAny _ _ (subscriptTail _ _ (Value.ref _) (Value.int _ _)) _ _ _); (k_here; (first | (refine get_at (by k_asm) (by (first | lia | omega)) (by with_reducible assumption) ?_ (by with_unfolding_all rfl) (by intro _; with_unfolding_all rfl)) | (refine get_atZ (by k_asm) (by (first | lia | omega)) (by (first | lia | omega)) (by with_reducible assumption) ?_ (by with_unfolding_all rfl) (by intro _; with_unfolding_all rfl))))) | with_reducible (k_here; (with_reducible show wpAny _ _ (subscriptTail _ _ (Value.ref _) (Value.int _ _)) _ _ _); (k_here; (first | (refine get_at (by k_asm) (by (first | lia | omega)) (by with_reducible assumption) ?_ (by with_unfolding_all rfl) (by intro _; with_unfolding_all rfl)) | (refine get_atZ (by k_asm) (by (first | lia | omega)) (by (first | lia | omega)) (by with_reducible assumption) ?_ (by with_unfolding_all rfl) (by intro _; with_unfolding_all rfl))))) | walk1)
    exact h _
  · show wpAny _ _ (call _ [_, .int (1 * 2 ^ Int.toNat 1) _, _]) _ _ _
    rw [← fn1] at h
    (first | with_reducible (k_here; (refine get_flag (by k_asm) (by k_asm) (by k_asm) (by (first | lia | omega)) ?_); intro _) | with_reducible (k_here; (refine P.hex_of_int ?_ (hex_small ⟨_, by (first | lia | omega)⟩))) | with_reducible (k_here; (with_reducible show wpAny _ _ (call (Value.builtin _) [Value.str _ _, Value.ref _]) _ _ _); (refine join_my (by k_asm) (by with_reducible assumption) (by decide) (by with_reducible assumption) ?_); intro _ _) | with_reducible (k_here; (with_reducible show wpAny _ _ (call (Value.builtin "issubclass") _) _ _ _); (k_here; (refine issub_my (by k_asm) ?_))) | with_reducible (k_here; (with_reducible show wpAny _ _ (truthy (Value.ref _)) _ _ _); (refine truthy_my (by k_asm) (by (first | lia | omega)) ?_); intro _) | with_reducible (k_here; (with_reducible show wpAny _ _ (call (Value.builtin _) [Value.ref _]) _ _ _); (refine pop_my (by k_asm) (by k_asm) (by with_reducible assumption) (by (first | lia | omega)) (by with_reducible assumption) ?_); intro _ _ _ _) | with_reducible (k_here; (with_reducible show wpAny _ _ (call (Value.builtin _) [Value.ref _, _]) _ _ _); (refine append_my (by k_asm) (by k_asm) (by with_reducible assumption) (by (first | lia | omega)) (by first | with_reducible assumption | exact rfl) ?_); intro _ _ _) | with_reducible (k_here; (with_reducible show wpAny _ _ (call (Value.builtin "len") [Value.ref _]) _ _ _); (refine len_at (by k_asm) (by with_reducible assumption) (by (first | lia | omega)) ?_); intro _ _) | with_reducible (k_here; (with_reducible show wpAny _ _ (setItem (Value.ref _) (Value.int _ _) _) _ _ _); (k_here; (first | (refine set_at (by k_asm) (by k_asm) (by with_reducible assumption) (by (first | lia | omega)) (by (first | lia | omega)) ?_) | (refine set_atZ (by k_asm) (by k_asm) (by with_reducible assumption) (by (first | lia | omega)) (by (first | lia | omega)) (by (first | lia | omega)) ?_)); intro _ _ _)) | with_reducible (k_here; (with_reducible show wpAny _ _ (binaryOp Operator.RShift _ _) _ _ _); (k_here; (refine half_at (by (first | lia | omega)) ?_); intro _ _)) | with_reducible (k_here; (with_reducible show wpAny _ _ (compareOp CmpOp.Lt _ _) _ _ _); (k_here; (refine lt_trees (Room.unitsD (by assumption)) (by k_asm) (by with_reducible assumption) (by intro q hq; exact List.mem_cons_of_mem _ hq) (by (first | lia | omega)) (by (first | lia | omega)) (by (first | lia | omega)) ?_); intro _)) | with_reducible (k_here; (with_reducible show wpAny _ _ (subscriptTail _ _ (Value.ref _) (Value.int _ _)) _ _ _); (k_here; (first | (refine get_at (by k_asm) (by (first | lia | omega)) (by with_reducible assumption) ?_ (by with_unfolding_all rfl) (by intro _; with_unfolding_all rfl)) | (refine get_atZ (by k_asm) (by (first | lia | omega)) (by (first | lia | omega)) (by with_reducible assumption) ?_ (by with_unfolding_all rfl) (by intro _; with_unfolding_all rfl))))) | with_reducible (k_here; (with_reducible show wpAny _ _ (subscriptTail _ _ (Value.ref _) (Value.int _ _)) _ _ _); (k_here; (first | (refine get_at (by k_asm) (by (first | lia | omega)) (by with_reducible assumption) ?_ (by with_unfolding_all rfl) (by intro _; with_unfolding_all rfl)) | (refine get_atZ (by k_asm) (by (first | lia | omega)) (by (first | lia | omega)) (by with_reducible assumption) ?_ (by with_unfolding_all rfl) (by intro _; with_unfolding_all rfl))))) | walk1)
    repeat (first | with_reducible (k_here; (refine get_flag (by k_asm) (by k_asm) (by k_asm) (by (first | lia | omega)) ?_); intro _) | with_reducible (k_here; (refine P.hex_of_int ?_ (hex_small ⟨_, by (first | lia | omega)⟩))) | with_reducible (k_here; (with_reducible show wpAny _ _ (call (Value.builtin _) [Value.str _ _, Value.ref _]) _ _ _); (refine join_my (by k_asm) (by with_reducible assumption) (by decide) (by with_reducible assumption) ?_); intro _ _) | with_reducible (k_here; (with_reducible show wpAny _ _ (call (Value.builtin "issubclass") _) _ _ _); (k_here; (refine issub_my (by k_asm) ?_))) | with_reducible (k_here; (with_reducible show wpAny _ _ (truthy (Value.ref _)) _ _ _); (refine truthy_my (by k_asm) (by (first | lia | omega)) ?_); intro _) | with_reducible (k_here; (with_reducible show wpAny _ _ (call (Value.builtin _) [Value.ref _]) _ _ _); (refine pop_my (by k_asm) (by k_asm) (by with_reducible assumption) (by (first | lia | omega)) (by with_reducible assumption) ?_); intro _ _ _ _) | with_reducible (k_here; (with_reducible show wpAny _ _ (call (Value.builtin _) [Value.ref _, _]) _ _ _); (refine append_my (by k_asm) (by k_asm) (by with_reducible assumption) (by (first | lia | omega)) (by first | with_reducible assumption | exact rfl) ?_); intro _ _ _) | with_reducible (k_here; (with_reducible show wpAny _ _ (call (Value.builtin "len") [Value.ref _]) _ _ _); (refine len_at (by k_asm) (by with_reducible assumption) (by (first | lia | omega)) ?_); intro _ _) | with_reducible (k_here; (with_reducible show wpAny _ _ (setItem (Value.ref _) (Value.int _ _) _) _ _ _); (k_here; (first | (refine set_at (by k_asm) (by k_asm) (by with_reducible assumption) (by (first | lia | omega)) (by (first | lia | omega)) ?_) | (refine set_atZ (by k_asm) (by k_asm) (by with_reducible assumption) (by (first | lia | omega)) (by (first | lia | omega)) (by (first | lia | omega)) ?_)); intro _ _ _)) | with_reducible (k_here; (with_reducible show wpAny _ _ (binaryOp Operator.RShift _ _) _ _ _); (k_here; (refine half_at (by (first | lia | omega)) ?_); intro _ _)) | with_reducible (k_here; (with_reducible show wpAny _ _ (compareOp CmpOp.Lt _ _) _ _ _); (k_here; (refine lt_trees (Room.unitsD (by assumption)) (by k_asm) (by with_reducible assumption) (by intro q hq; exact List.mem_cons_of_mem _ hq) (by (first | lia | omega)) (by (first | lia | omega)) (by (first | lia | omega)) ?_); intro _)) | with_reducible (k_here; (with_reducible show wpAny _ _ (subscriptTail _ _ (Value.ref _) (Value.int _ _)) _ _ _); (k_here; (first | (refine get_at (by k_asm) (by (first | lia | omega)) (by with_reducible assumption) ?_ (by with_unfolding_all rfl) (by intro _; with_unfolding_all rfl)) | (refine get_atZ (by k_asm) (by (first | lia | omega)) (by (first | lia | omega)) (by with_reducible assumption) ?_ (by with_unfolding_all rfl) (by intro _; with_unfolding_all rfl))))) | with_reducible (k_here; (with_reducible show wpAny _ _ (subscriptTail _ _ (Value.ref _) (Value.int _ _)) _ _ _); (k_here; (first | (refine get_at (by k_asm) (by (first | lia | omega)) (by with_reducible assumption) ?_ (by with_unfolding_all rfl) (by intro _; with_unfolding_all rfl)) | (refine get_atZ (by k_asm) (by (first | lia | omega)) (by (first | lia | omega)) (by with_reducible assumption) ?_ (by with_unfolding_all rfl) (by intro _; with_unfolding_all rfl))))) | walk1)
    exact h _
  · show wpAny _ _ (call _ [_, .int (1 * 2 ^ Int.toNat 2) _, _]) _ _ _
    rw [← fn2] at h
    (first | with_reducible (k_here; (refine get_flag (by k_asm) (by k_asm) (by k_asm) (by (first | lia | omega)) ?_); intro _) | with_reducible (k_here; (refine P.hex_of_int ?_ (hex_small ⟨_, by (first | lia | omega)⟩))) | with_reducible (k_here; (with_reducible show wpAny _ _ (call (Value.builtin _) [Value.str _ _, Value.ref _]) _ _ _); (refine join_my (by k_asm) (by with_reducible assumption) (by decide) (by with_reducible assumption) ?_); intro _ _) | with_reducible (k_here; (with_reducible show wpAny _ _ (call (Value.builtin "issubclass") _) _ _ _); (k_here; (refine issub_my (by k_asm) ?_))) | with_reducible (k_here; (with_reducible show wpAny _ _ (truthy (Value.ref _)) _ _ _); (refine truthy_my (by k_asm) (by (first | lia | omega)) ?_); intro _) | with_reducible (k_here; (with_reducible show wpAny _ _ (call (Value.builtin _) [Value.ref _]) _ _ _); (refine pop_my (by k_asm) (by k_asm) (by with_reducible assumption) (by (first | lia | omega)) (by with_reducible assumption) ?_); intro _ _ _ _) | with_reducible (k_here; (with_reducible show wpAny _ _ (call (Value.builtin _) [Value.ref _, _]) _ _ _); (refine append_my (by k_asm) (by k_asm) (by with_reducible assumption) (by (first | lia | omega)) (by first | with_reducible assumption | exact rfl) ?_); intro _ _ _) | with_reducible (k_here; (with_reducible show wpAny _ _ (call (Value.builtin "len") [Value.ref _]) _ _ _); (refine len_at (by k_asm) (by with_reducible assumption) (by (first | lia | omega)) ?_); intro _ _) | with_reducible (k_here; (with_reducible show wpAny _ _ (setItem (Value.ref _) (Value.int _ _) _) _ _ _); (k_here; (first | (refine set_at (by k_asm) (by k_asm) (by with_reducible assumption) (by (first | lia | omega)) (by (first | lia | omega)) ?_) | (refine set_atZ (by k_asm) (by k_asm) (by with_reducible assumption) (by (first | lia | omega)) (by (first | lia | omega)) (by (first | lia | omega)) ?_)); intro _ _ _)) | with_reducible (k_here; (with_reducible show wpAny _ _ (binaryOp Operator.RShift _ _) _ _ _); (k_here; (refine half_at (by (first | lia | omega)) ?_); intro _ _)) | with_reducible (k_here; (with_reducible show wpAny _ _ (compareOp CmpOp.Lt _ _) _ _ _); (k_here; (refine lt_trees (Room.unitsD (by assumption)) (by k_asm) (by with_reducible assumption) (by intro q hq; exact List.mem_cons_of_mem _ hq) (by (first | lia | omega)) (by (first | lia | omega)) (by (first | lia | omega)) ?_); intro _)) | with_reducible (k_here; (with_reducible show wpAny _ _ (subscriptTail _ _ (Value.ref _) (Value.int _ _)) _ _ _); (k_here; (first | (refine get_at (by k_asm) (by (first | lia | omega)) (by with_reducible assumption) ?_ (by with_unfolding_all rfl) (by intro _; with_unfolding_all rfl)) | (refine get_atZ (by k_asm) (by (first | lia | omega)) (by (first | lia | omega)) (by with_reducible assumption) ?_ (by with_unfolding_all rfl) (by intro _; with_unfolding_all rfl))))) | with_reducible (k_here; (with_reducible show wpAny _ _ (subscriptTail _ _ (Value.ref _) (Value.int _ _)) _ _ _); (k_here; (first | (refine get_at (by k_asm) (by (first | lia | omega)) (by with_reducible assumption) ?_ (by with_unfolding_all rfl) (by intro _; with_unfolding_all rfl)) | (refine get_atZ (by k_asm) (by (first | lia | omega)) (by (first | lia | omega)) (by with_reducible assumption) ?_ (by with_unfolding_all rfl) (by intro _; with_unfolding_all rfl))))) | walk1)
    repeat (first | with_reducible (k_here; (refine get_flag (by k_asm) (by k_asm) (by k_asm) (by (first | lia | omega)) ?_); intro _) | with_reducible (k_here; (refine P.hex_of_int ?_ (hex_small ⟨_, by (first | lia | omega)⟩))) | with_reducible (k_here; (with_reducible show wpAny _ _ (call (Value.builtin _) [Value.str _ _, Value.ref _]) _ _ _); (refine join_my (by k_asm) (by with_reducible assumption) (by decide) (by with_reducible assumption) ?_); intro _ _) | with_reducible (k_here; (with_reducible show wpAny _ _ (call (Value.builtin "issubclass") _) _ _ _); (k_here; (refine issub_my (by k_asm) ?_))) | with_reducible (k_here; (with_reducible show wpAny _ _ (truthy (Value.ref _)) _ _ _); (refine truthy_my (by k_asm) (by (first | lia | omega)) ?_); intro _) | with_reducible (k_here; (with_reducible show wpAny _ _ (call (Value.builtin _) [Value.ref _]) _ _ _); (refine pop_my (by k_asm) (by k_asm) (by with_reducible assumption) (by (first | lia | omega)) (by with_reducible assumption) ?_); intro _ _ _ _) | with_reducible (k_here; (with_reducible show wpAny _ _ (call (Value.builtin _) [Value.ref _, _]) _ _ _); (refine append_my (by k_asm) (by k_asm) (by with_reducible assumption) (by (first | lia | omega)) (by first | with_reducible assumption | exact rfl) ?_); intro _ _ _) | with_reducible (k_here; (with_reducible show wpAny _ _ (call (Value.builtin "len") [Value.ref _]) _ _ _); (refine len_at (by k_asm) (by with_reducible assumption) (by (first | lia | omega)) ?_); intro _ _) | with_reducible (k_here; (with_reducible show wpAny _ _ (setItem (Value.ref _) (Value.int _ _) _) _ _ _); (k_here; (first | (refine set_at (by k_asm) (by k_asm) (by with_reducible assumption) (by (first | lia | omega)) (by (first | lia | omega)) ?_) | (refine set_atZ (by k_asm) (by k_asm) (by with_reducible assumption) (by (first | lia | omega)) (by (first | lia | omega)) (by (first | lia | omega)) ?_)); intro _ _ _)) | with_reducible (k_here; (with_reducible show wpAny _ _ (binaryOp Operator.RShift _ _) _ _ _); (k_here; (refine half_at (by (first | lia | omega)) ?_); intro _ _)) | with_reducible (k_here; (with_reducible show wpAny _ _ (compareOp CmpOp.Lt _ _) _ _ _); (k_here; (refine lt_trees (Room.unitsD (by assumption)) (by k_asm) (by with_reducible assumption) (by intro q hq; exact List.mem_cons_of_mem _ hq) (by (first | lia | omega)) (by (first | lia | omega)) (by (first | lia | omega)) ?_); intro _)) | with_reducible (k_here; (with_reducible show wpAny _ _ (subscriptTail _ _ (Value.ref _) (Value.int _ _)) _ _ _); (k_here; (first | (refine get_at (by k_asm) (by (first | lia | omega)) (by with_reducible assumption) ?_ (by with_unfolding_all rfl) (by intro _; with_unfolding_all rfl)) | (refine get_atZ (by k_asm) (by (first | lia | omega)) (by (first | lia | omega)) (by with_reducible assumption) ?_ (by with_unfolding_all rfl) (by intro _; with_unfolding_all rfl))))) | with_reducible (k_here; (with_reducible show wpAny _ _ (subscriptTail _ _ (Value.ref _) (Value.int _ _)) _ _ _); (k_here; (first | (refine get_at (by k_asm) (by (first | lia | omega)) (by with_reducible assumption) ?_ (by with_unfolding_all rfl) (by intro _; with_unfolding_all rfl)) | (refine get_atZ (by k_asm) (by (first | lia | omega)) (by (first | lia | omega)) (by with_reducible assumption) ?_ (by with_unfolding_all rfl) (by intro _; with_unfolding_all rfl))))) | walk1)
    exact h _
  · show wpAny _ _ (call _ [_, .int (1 * 2 ^ Int.toNat 3) _, _]) _ _ _
    rw [← fn3] at h
    (first | with_reducible (k_here; (refine get_flag (by k_asm) (by k_asm) (by k_asm) (by (first | lia | omega)) ?_); intro _) | with_reducible (k_here; (refine P.hex_of_int ?_ (hex_small ⟨_, by (first | lia | omega)⟩))) | with_reducible (k_here; (with_reducible show wpAny _ _ (call (Value.builtin _) [Value.str _ _, Value.ref _]) _ _ _); (refine join_my (by k_asm) (by with_reducible assumption) (by decide) (by with_reducible assumption) ?_); intro _ _) | with_reducible (k_here; (with_reducible show wpAny _ _ (call (Value.builtin "issubclass") _) _ _ _); (k_here; (refine issub_my (by k_asm) ?_))) | with_reducible (k_here; (with_reducible show wpAny _ _ (truthy (Value.ref _)) _ _ _); (refine truthy_my (by k_asm) (by (first | lia | omega)) ?_); intro _) | with_reducible (k_here; (with_reducible show wpAny _ _ (call (Value.builtin _) [Value.ref _]) _ _ _); (refine pop_my (by k_asm) (by k_asm) (by with_reducible assumption) (by (first | lia | omega)) (by with_reducible assumption) ?_); intro _ _ _ _) | with_reducible (k_here; (with_reducible show wpAny _ _ (call (Value.builtin _) [Value.ref _, _]) _ _ _); (refine append_my (by k_asm) (by k_asm) (by with_reducible assumption) (by (first | lia | omega)) (by first | with_reducible assumption | exact rfl) ?_); intro _ _ _) | with_reducible (k_here; (with_reducible show wpAny _ _ (call (Value.builtin "len") [Value.ref _]) _ _ _); (refine len_at (by k_asm) (by with_reducible assumption) (by (first | lia | omega)) ?_); intro _ _) | with_reducible (k_here; (with_reducible show wpAny _ _ (setItem (Value.ref _) (Value.int _ _) _) _ _ _); (k_here; (first | (refine set_at (by k_asm) (by k_asm) (by with_reducible assumption) (by (first | lia | omega)) (by (first | lia | omega)) ?_) | (refine set_atZ (by k_asm) (by k_asm) (by with_reducible assumption) (by (first | lia | omega)) (by (first | lia | omega)) (by (first | lia | omega)) ?_)); intro _ _ _)) | with_reducible (k_here; (with_reducible show wpAny _ _ (binaryOp Operator.RShift _ _) _ _ _); (k_here; (refine half_at (by (first | lia | omega)) ?_); intro _ _)) | with_reducible (k_here; (with_reducible show wpAny _ _ (compareOp CmpOp.Lt _ _) _ _ _); (k_here; (refine lt_trees (Room.unitsD (by assumption)) (by k_asm) (by with_reducible assumption) (by intro q hq; exact List.mem_cons_of_mem _ hq) (by (first | lia | omega)) (by (first | lia | omega)) (by (first | lia | omega)) ?_); intro _)) | with_reducible (k_here; (with_reducible show wpAny _ _ (subscriptTail _ _ (Value.ref _) (Value.int _ _)) _ _ _); (k_here; (first | (refine get_at (by k_asm) (by (first | lia | omega)) (by with_reducible assumption) ?_ (by with_unfolding_all rfl) (by intro _; with_unfolding_all rfl)) | (refine get_atZ (by k_asm) (by (first | lia | omega)) (by (first | lia | omega)) (by with_reducible assumption) ?_ (by with_unfolding_all rfl) (by intro _; with_unfolding_all rfl))))) | with_reducible (k_here; (with_reducible show wpAny _ _ (subscriptTail _ _ (Value.ref _) (Value.int _ _)) _ _ _); (k_here; (first | (refine get_at (by k_asm) (by (first | lia | omega)) (by with_reducible assumption) ?_ (by with_unfolding_all rfl) (by intro _; with_unfolding_all rfl)) | (refine get_atZ (by k_asm) (by (first | lia | omega)) (by (first | lia | omega)) (by with_reducible assumption) ?_ (by with_unfolding_all rfl) (by intro _; with_unfolding_all rfl))))) | walk1)
    repeat (first | with_reducible (k_here; (refine get_flag (by k_asm) (by k_asm) (by k_asm) (by (first | lia | omega)) ?_); intro _) | with_reducible (k_here; (refine P.hex_of_int ?_ (hex_small ⟨_, by (first | lia | omega)⟩))) | with_reducible (k_here; (with_reducible show wpAny _ _ (call (Value.builtin _) [Value.str _ _, Value.ref _]) _ _ _); (refine join_my (by k_asm) (by with_reducible assumption) (by decide) (by with_reducible assumption) ?_); intro _ _) | with_reducible (k_here; (with_reducible show wpAny _ _ (call (Value.builtin "issubclass") _) _ _ _); (k_here; (refine issub_my (by k_asm) ?_))) | with_reducible (k_here; (with_reducible show wpAny _ _ (truthy (Value.ref _)) _ _ _); (refine truthy_my (by k_asm) (by (first | lia | omega)) ?_); intro _) | with_reducible (k_here; (with_reducible show wpAny _ _ (call (Value.builtin _) [Value.ref _]) _ _ _); (refine pop_my (by k_asm) (by k_asm) (by with_reducible assumption) (by (first | lia | omega)) (by with_reducible assumption) ?_); intro _ _ _ _) | with_reducible (k_here; (with_reducible show wpAny _ _ (call (Value.builtin _) [Value.ref _, _]) _ _ _); (refine append_my (by k_asm) (by k_asm) (by with_reducible assumption) (by (first | lia | omega)) (by first | with_reducible assumption | exact rfl) ?_); intro _ _ _) | with_reducible (k_here; (with_reducible show wpAny _ _ (call (Value.builtin "len") [Value.ref _]) _ _ _); (refine len_at (by k_asm) (by with_reducible assumption) (by (first | lia | omega)) ?_); intro _ _) | with_reducible (k_here; (with_reducible show wpAny _ _ (setItem (Value.ref _) (Value.int _ _) _) _ _ _); (k_here; (first | (refine set_at (by k_asm) (by k_asm) (by with_reducible assumption) (by (first | lia | omega)) (by (first | lia | omega)) ?_) | (refine set_atZ (by k_asm) (by k_asm) (by with_reducible assumption) (by (first | lia | omega)) (by (first | lia | omega)) (by (first | lia | omega)) ?_)); intro _ _ _)) | with_reducible (k_here; (with_reducible show wpAny _ _ (binaryOp Operator.RShift _ _) _ _ _); (k_here; (refine half_at (by (first | lia | omega)) ?_); intro _ _)) | with_reducible (k_here; (with_reducible show wpAny _ _ (compareOp CmpOp.Lt _ _) _ _ _); (k_here; (refine lt_trees (Room.unitsD (by assumption)) (by k_asm) (by with_reducible assumption) (by intro q hq; exact List.mem_cons_of_mem _ hq) (by (first | lia | omega)) (by (first | lia | omega)) (by (first | lia | omega)) ?_); intro _)) | with_reducible (k_here; (with_reducible show wpAny _ _ (subscriptTail _ _ (Value.ref _) (Value.int _ _)) _ _ _); (k_here; (first | (refine get_at (by k_asm) (by (first | lia | omega)) (by with_reducible assumption) ?_ (by with_unfolding_all rfl) (by intro _; with_unfolding_all rfl)) | (refine get_atZ (by k_asm) (by (first | lia | omega)) (by (first | lia | omega)) (by with_reducible assumption) ?_ (by with_unfolding_all rfl) (by intro _; with_unfolding_all rfl))))) | with_reducible (k_here; (with_reducible show wpAny _ _ (subscriptTail _ _ (Value.ref _) (Value.int _ _)) _ _ _); (k_here; (first | (refine get_at (by k_asm) (by (first | lia | omega)) (by with_reducible assumption) ?_ (by with_unfolding_all rfl) (by intro _; with_unfolding_all rfl)) | (refine get_atZ (by k_asm) (by (first | lia | omega)) (by (first | lia | omega)) (by with_reducible assumption) ?_ (by with_unfolding_all rfl) (by intro _; with_unfolding_all rfl))))) | walk1)
    exact h _
  · show wpAny _ _ (call _ [_, .int (1 * 2 ^ Int.toNat 4) _, _]) _ _ _
    rw [← fn4] at h
    (first | with_reducible (k_here; (refine get_flag (by k_asm) (by k_asm) (by k_asm) (by (first | lia | omega)) ?_); intro _) | with_reducible (k_here; (refine P.hex_of_int ?_ (hex_small ⟨_, by (first | lia | omega)⟩))) | with_reducible (k_here; (with_reducible show wpAny _ _ (call (Value.builtin _) [Value.str _ _, Value.ref _]) _ _ _); (refine join_my (by k_asm) (by with_reducible assumption) (by decide) (by with_reducible assumption) ?_); intro _ _) | with_reducible (k_here; (with_reducible show wpAny _ _ (call (Value.builtin "issubclass") _) _ _ _); (k_here; (refine issub_my (by k_asm) ?_))) | with_reducible (k_here; (with_reducible show wpAny _ _ (truthy (Value.ref _)) _ _ _); (refine truthy_my (by k_asm) (by (first | lia | omega)) ?_); intro _) | with_reducible (k_here; (with_reducible show wpAny _ _ (call (Value.builtin _) [Value.ref _]) _ _ _); (refine pop_my (by k_asm) (by k_asm) (by with_reducible assumption) (by (first | lia | omega)) (by with_reducible assumption) ?_); intro _ _ _ _) | with_reducible (k_here; (with_reducible show wpAny _ _ (call (Value.builtin _) [Value.ref _, _]) _ _ _); (refine append_my (by k_asm) (by k_asm) (by with_reducible assumption) (by (first | lia | omega)) (by first | with_reducible assumption | exact rfl) ?_); intro _ _ _) | with_reducible (k_here; (with_reducible show wpAny _ _ (call (Value.builtin "len") [Value.ref _]) _ _ _); (refine len_at (by k_asm) (by with_reducible assumption) (by (first | lia | omega)) ?_); intro _ _) | with_reducible (k_here; (with_reducible show wpAny _ _ (setItem (Value.ref _) (Value.int _ _) _) _ _ _); (k_here; (first | (refine set_at (by k_asm) (by k_asm) (by with_reducible assumption) (by (first | lia | omega)) (by (first | lia | omega)) ?_) | (refine set_atZ (by k_asm) (by k_asm) (by with_reducible assumption) (by (first | lia | omega)) (by (first | lia | omega)) (by (first | lia | omega)) ?_)); intro _ _ _)) | with_reducible (k_here; (with_reducible show wpAny _ _ (binaryOp Operator.RShift _ _) _ _ _); (k_here; (refine half_at (by (first | lia | omega)) ?_); intro _ _)) | with_reducible (k_here; (with_reducible show wpAny _ _ (compareOp CmpOp.Lt _ _) _ _ _); (k_here; (refine lt_trees (Room.unitsD (by assumption)) (by k_asm) (by with_reducible assumption) (by intro q hq; exact List.mem_cons_of_mem _ hq) (by (first | lia | omega)) (by (first | lia | omega)) (by (first | lia | omega)) ?_); intro _)) | with_reducible (k_here; (with_reducible show wpAny _ _ (subscriptTail _ _ (Value.ref _) (Value.int _ _)) _ _ _); (k_here; (first | (refine get_at (by k_asm) (by (first | lia | omega)) (by with_reducible assumption) ?_ (by with_unfolding_all rfl) (by intro _; with_unfolding_all rfl)) | (refine get_atZ (by k_asm) (by (first | lia | omega)) (by (first | lia | omega)) (by with_reducible assumption) ?_ (by with_unfolding_all rfl) (by intro _; with_unfolding_all rfl))))) | with_reducible (k_here; (with_reducible show wpAny _ _ (subscriptTail _ _ (Value.ref _) (Value.int _ _)) _ _ _); (k_here; (first | (refine get_at (by k_asm) (by (first | lia | omega)) (by with_reducible assumption) ?_ (by with_unfolding_all rfl) (by intro _; with_unfolding_all rfl)) | (refine get_atZ (by k_asm) (by (first | lia | omega)) (by (first | lia | omega)) (by with_reducible assumption) ?_ (by with_unfolding_all rfl) (by intro _; with_unfolding_all rfl))))) | walk1)
    repeat (first | with_reducible (k_here; (refine get_flag (by k_asm) (by k_asm) (by k_asm) (by (first | lia | omega)) ?_); intro _) | with_reducible (k_here; (refine P.hex_of_int ?_ (hex_small ⟨_, by (first | lia | omega)⟩))) | with_reducible (k_here; (with_reducible show wpAny _ _ (call (Value.builtin _) [Value.str _ _, Value.ref _]) _ _ _); (refine join_my (by k_asm) (by with_reducible assumption) (by decide) (by with_reducible assumption) ?_); intro _ _) | with_reducible (k_here; (with_reducible show wpAny _ _ (call (Value.builtin "issubclass") _) _ _ _); (k_here; (refine issub_my (by k_asm) ?_))) | with_reducible (k_here; (with_reducible show wpAny _ _ (truthy (Value.ref _)) _ _ _); (refine truthy_my (by k_asm) (by (first | lia | omega)) ?_); intro _) | with_reducible (k_here; (with_reducible show wpAny _ _ (call (Value.builtin _) [Value.ref _]) _ _ _); (refine pop_my (by k_asm) (by k_asm) (by with_reducible assumption) (by (first | lia | omega)) (by with_reducible assumption) ?_); intro _ _ _ _) | with_reducible (k_here; (with_reducible show wpAny _ _ (call (Value.builtin _) [Value.ref _, _]) _ _ _); (refine append_my (by k_asm) (by k_asm) (by with_reducible assumption) (by (first | lia | omega)) (by first | with_reducible assumption | exact rfl) ?_); intro _ _ _) | with_reducible (k_here; (with_reducible show wpAny _ _ (call (Value.builtin "len") [Value.ref _]) _ _ _); (refine len_at (by k_asm) (by with_reducible assumption) (by (first | lia | omega)) ?_); intro _ _) | with_reducible (k_here; (with_reducible show wpAny _ _ (setItem (Value.ref _) (Value.int _ _) _) _ _ _); (k_here; (first | (refine set_at (by k_asm) (by k_asm) (by with_reducible assumption) (by (first | lia | omega)) (by (first | lia | omega)) ?_) | (refine set_atZ (by k_asm) (by k_asm) (by with_reducible assumption) (by (first | lia | omega)) (by (first | lia | omega)) (by (first | lia | omega)) ?_)); intro _ _ _)) | with_reducible (k_here; (with_reducible show wpAny _ _ (binaryOp Operator.RShift _ _) _ _ _); (k_here; (refine half_at (by (first | lia | omega)) ?_); intro _ _)) | with_reducible (k_here; (with_reducible show wpAny _ _ (compareOp CmpOp.Lt _ _) _ _ _); (k_here; (refine lt_trees (Room.unitsD (by assumption)) (by k_asm) (by with_reducible assumption) (by intro q hq; exact List.mem_cons_of_mem _ hq) (by (first | lia | omega)) (by (first | lia | omega)) (by (first | lia | omega)) ?_); intro _)) | with_reducible (k_here; (with_reducible show wpAny _ _ (subscriptTail _ _ (Value.ref _) (Value.int _ _)) _ _ _); (k_here; (first | (refine get_at (by k_asm) (by (first | lia | omega)) (by with_reducible assumption) ?_ (by with_unfolding_all rfl) (by intro _; with_unfolding_all rfl)) | (refine get_atZ (by k_asm) (by (first | lia | omega)) (by (first | lia | omega)) (by with_reducible assumption) ?_ (by with_unfolding_all rfl) (by intro _; with_unfolding_all rfl))))) | with_reducible (k_here; (with_reducible show wpAny _ _ (subscriptTail _ _ (Value.ref _) (Value.int _ _)) _ _ _); (k_here; (first | (refine get_at (by k_asm) (by (first | lia | omega)) (by with_reducible assumption) ?_ (by with_unfolding_all rfl) (by intro _; with_unfolding_all rfl)) | (refine get_atZ (by k_asm) (by (first | lia | omega)) (by (first | lia | omega)) (by with_reducible assumption) ?_ (by with_unfolding_all rfl) (by intro _; with_unfolding_all rfl))))) | walk1)
    exact h _
inductive FlJ (n : Nat) (nl : Addr) (news : List (Addr × Obj)) (i : Nat) (m : Str → Option Value) (nw : List (Addr × Obj)) : Prop
  | mk (vs : _) (ep : _) (fl : _) (tk : _)
    (z1 : nw = (nl, W.listOf (List.toArray vs) ep) :: news)
    (z2 : StrsAre vs ((bitsBelow n i).map flagName))
    (z3 : fl = ((n / 2 ^ i * 2 ^ i : Nat) : Int))
    (z4 : n / 2 ^ i * 2 ^ i ≠ 0)
    (z5 : vs.length ≤ i)
    (z6 : m = ovr [(Str.ofString "names", .ref nl), (Str.ofString "flags", .int fl tk)] m) : FlJ n nl news i m nw
set_option maxHeartbeats 4000000 in
theorem flags_spec {w : World} {A : Around} {s : Shared} {b0 : Heap} {L : Addr} {m mg mb : Str → Option Value} {mean : ExcName → Option Value} {p : Program} {loose : List Str} {news : List (Addr × Obj)}
  (R : Room A 5) (X : (Mine.heapK w.params).In b0) (T : Top p loose mean mg mb b0) (F : Fr b0 L s.heap m)
  (Nw : News b0 L s.heap news) {n : Nat} {t : Tok} (hn : n ≤ 20) (h0 : n ≠ 0) {Q E : Value → Shared → Prop}
  (ret : ∀ h' tk' tk'', Fr b0 L h' m → News b0 L h' news → Q (.str (Txt.join (Str.ofString ", ") ((bits n).map flagName)) tk'') { s with heap := h', toks := tk' }) :
  wpAny (model PySem.Challenge.rw_ik0182_01.row.prog w) A (call (.ref 64) [.int (n : Int) t]) Q E s := by
  obtain ⟨hh, dp, fr, gd, un⟩ := A
  have RR := R
  obtain ⟨hd', hdp, hun⟩ := R
  cases hd'
  revert X; k_fill; intro X
  refine wpAny_call ?_
  k_dflt (refine' enter (binds := [(Str.ofString "flags", .int (n : Int) t)]) ?F ?X ?N ?T ?ho ?hcd ?room ?bind ?loc ?_ ?c1 ?c2 ?c3 ?c4)
  (((case F => k_asm); (case X => k_asm); (case N => k_asm); (case T => k_asm); (case ho => k_is); (case hcd => k_is); (case room => exact Room.room (by assumption)); (case bind => exact BindsTo.of_eq rfl); (case loc => exact locs rfl); (case c1 => exact rfl); (case c2 => exact rfl); (case c3 => exact rfl); (case c4 => decide)))
  intro g L' h₁ FG F' N' X' T' lt'
  try dsimp only
  try k_fold
  refine let_env (B := execs _) RR ?_
  intro tk0 env A1 RA
  (repeat' (first | (k_unfold; (try dsimp only)) | (k_end; wrow_close) | ((((fail_if_success (with_reducible show wpAny _ _ (exec (Stmt.While _ _ _ _) _) _ _ _)); (fail_if_success (with_reducible show wpAny _ _ (exec (Stmt.For _ _ _ _ _) _) _ _ _)))); (first | with_reducible (k_here; (refine get_flag (by k_asm) (by k_asm) (by k_asm) (by (first | lia | omega)) ?_); intro _) | with_reducible (k_here; (refine P.hex_of_int ?_ (hex_small ⟨_, by (first | lia | omega)⟩))) | with_reducible (k_here; (with_reducible show wpAny _ _ (call (Value.builtin _) [Value.str _ _, Value.ref _]) _ _ _); (refine join_my (by k_asm) (by with_reducible assumption) (by decide) (by with_reducible assumption) ?_); intro _ _) | with_reducible (k_here; (with_reducible show wpAny _ _ (call (Value.builtin "issubclass") _) _ _ _); (k_here; (refine issub_my (by k_asm) ?_))) | with_reducible (k_here; (with_reducible show wpAny _ _ (truthy (Value.ref _)) _ _ _); (refine truthy_my (by k_asm) (by (first | lia | omega)) ?_); intro _) | with_reducible (k_here; (with_reducible show wpAny _ _ (call (Value.builtin _) [Value.ref _]) _ _ _); (refine pop_my (by k_asm) (by k_asm) (by with_reducible assumption) (by (first | lia | omega)) (by with_reducible assumption) ?_); intro _ _ _ _) | with_reducible (k_here; (with_reducible show wpAny _ _ (call (Value.builtin _) [Value.ref _, _]) _ _ _); (refine append_my (by k_asm) (by k_asm) (by with_reducible assumption) (by (first | lia | omega)) (by first | with_reducible assumption | exact rfl) ?_); intro _ _ _) | with_reducible (k_here; (with_reducible show wpAny _ _ (call (Value.builtin "len") [Value.ref _]) _ _ _); (refine len_at (by k_asm) (by with_reducible assumption) (by (first | lia | omega)) ?_); intro _ _) | with_reducible (k_here; (with_reducible show wpAny _ _ (setItem (Value.ref _) (Value.int _ _) _) _ _ _); (k_here; (first | (refine set_at (by k_asm) (by k_asm) (by with_reducible assumption) (by (first | lia | omega)) (by (first | lia | omega)) ?_) | (refine set_atZ (by k_asm) (by k_asm) (by with_reducible assumption) (by (first | lia | omega)) (by (first | lia | omega)) (by (first | lia | omega)) ?_)); intro _ _ _)) | with_reducible (k_here; (with_reducible show wpAny _ _ (binaryOp Operator.RShift _ _) _ _ _); (k_here; (refine half_at (by (first | lia | omega)) ?_); intro _ _)) | with_reducible (k_here; (with_reducible show wpAny _ _ (compareOp CmpOp.Lt _ _) _ _ _); (k_here; (refine lt_trees (Room.unitsD (by assumption)) (by k_asm) (by with_reducible assumption) (by intro q hq; exact List.mem_cons_of_mem _ hq) (by (first | lia | omega)) (by (first | lia | omega)) (by (first | lia | omega)) ?_); intro _)) | with_reducible (k_here; (with_reducible show wpAny _ _ (subscriptTail _ _ (Value.ref _) (Value.int _ _)) _ _ _); (k_here; (first | (refine get_at (by k_asm) (by (first | lia | omega)) (by with_reducible assumption) ?_ (by with_unfolding_all rfl) (by intro _; with_unfolding_all rfl)) | (refine get_atZ (by k_asm) (by (first | lia | omega)) (by (first | lia | omega)) (by with_reducible assumption) ?_ (by with_unfolding_all rfl) (by intro _; with_unfolding_all rfl))))) | with_reducible (k_here; (with_reducible show wpAny _ _ (subscriptTail _ _ (Value.ref _) (Value.int _ _)) _ _ _); (k_here; (first | (refine get_at (by k_asm) (by (first | lia | omega)) (by with_reducible assumption) ?_ (by with_unfolding_all rfl) (by intro _; with_unfolding_all rfl)) | (refine get_atZ (by k_asm) (by (first | lia | omega)) (by (first | lia | omega)) (by with_reducible assumption) ?_ (by with_unfolding_all rfl) (by intro _; with_unfolding_all rfl))))) | walk1)) | ((((fail_if_success (with_reducible show wpAny _ _ (exec (Stmt.While _ _ _ _) _) _ _ _)); (fail_if_success (with_reducible show wpAny _ _ (exec (Stmt.For _ _ _ _ _) _) _ _ _)))); dsimp only)))
  ((refine For_myF (by k_asm) (by with_unfolding_all rfl) (by with_unfolding_all rfl) ?_ (by intro _; with_unfolding_all rfl) PassesOwn.never))
  (repeat' (first | (k_unfold; (try dsimp only)) | (k_end; wrow_close) | ((((fail_if_success (with_reducible show wpAny _ _ (exec (Stmt.While _ _ _ _) _) _ _ _)); (fail_if_success (with_reducible show wpAny _ _ (exec (Stmt.For _ _ _ _ _) _) _ _ _)))); (first | with_reducible (k_here; (refine get_flag (by k_asm) (by k_asm) (by k_asm) (by (first | lia | omega)) ?_); intro _) | with_reducible (k_here; (refine P.hex_of_int ?_ (hex_small ⟨_, by (first | lia | omega)⟩))) | with_reducible (k_here; (with_reducible show wpAny _ _ (call (Value.builtin _) [Value.str _ _, Value.ref _]) _ _ _); (refine join_my (by k_asm) (by with_reducible assumption) (by decide) (by with_reducible assumption) ?_); intro _ _) | with_reducible (k_here; (with_reducible show wpAny _ _ (call (Value.builtin "issubclass") _) _ _ _); (k_here; (refine issub_my (by k_asm) ?_))) | with_reducible (k_here; (with_reducible show wpAny _ _ (truthy (Value.ref _)) _ _ _); (refine truthy_my (by k_asm) (by (first | lia | omega)) ?_); intro _) | with_reducible (k_here; (with_reducible show wpAny _ _ (call (Value.builtin _) [Value.ref _]) _ _ _); (refine pop_my (by k_asm) (by k_asm) (by with_reducible assumption) (by (first | lia | omega)) (by with_reducible assumption) ?_); intro _ _ _ _) | with_reducible (k_here; (with_reducible show wpAny _ _ (call (Value.builtin _) [Value.ref _, _]) _ _ _); (refine append_my (by k_asm) (by k_asm) (by with_reducible assumption) (by (first | lia | omega)) (by first | with_reducible assumption | exact rfl) ?_); intro _ _ _) | with_reducible (k_here; (with_reducible show wpAny _ _ (call (Value.builtin "len") [Value.ref _]) _ _ _); (refine len_at (by k_asm) (by with_reducible assumption) (by (first | lia | omega)) ?_); intro _ _) | with_reducible (k_here; (with_reducible show wpAny _ _ (setItem (Value.ref _) (Value.int _ _) _) _ _ _); (k_here; (first | (refine set_at (by k_asm) (by k_asm) (by with_reducible assumption) (by (first | lia | omega)) (by (first | lia | omega)) ?_) | (refine set_atZ (by k_asm) (by k_asm) (by with_reducible assumption) (by (first | lia | omega)) (by (first | lia | omega)) (by (first | lia | omega)) ?_)); intro _ _ _)) | with_reducible (k_here; (with_reducible show wpAny _ _ (binaryOp Operator.RShift _ _) _ _ _); (k_here; (refine half_at (by (first | lia | omega)) ?_); intro _ _)) | with_reducible (k_here; (with_reducible show wpAny _ _ (compareOp CmpOp.Lt _ _) _ _ _); (k_here; (refine lt_trees (Room.unitsD (by assumption)) (by k_asm) (by with_reducible assumption) (by intro q hq; exact List.mem_cons_of_mem _ hq) (by (first | lia | omega)) (by (first | lia | omega)) (by (first | lia | omega)) ?_); intro _)) | with_reducible (k_here; (with_reducible show wpAny _ _ (subscriptTail _ _ (Value.ref _) (Value.int _ _)) _ _ _); (k_here; (first | (refine get_at (by k_asm) (by (first | lia | omega)) (by with_reducible assumption) ?_ (by with_unfolding_all rfl) (by intro _; with_unfolding_all rfl)) | (refine get_atZ (by k_asm) (by (first | lia | omega)) (by (first | lia | omega)) (by with_reducible assumption) ?_ (by with_unfolding_all rfl) (by intro _; with_unfolding_all rfl))))) | with_reducible (k_here; (with_reducible show wpAny _ _ (subscriptTail _ _ (Value.ref _) (Value.int _ _)) _ _ _); (k_here; (first | (refine get_at (by k_asm) (by (first | lia | omega)) (by with_reducible assumption) ?_ (by with_unfolding_all rfl) (by intro _; with_unfolding_all rfl)) | (refine get_atZ (by k_asm) (by (first | lia | omega)) (by (first | lia | omega)) (by with_reducible assumption) ?_ (by with_unfolding_all rfl) (by intro _; with_unfolding_all rfl))))) | walk1)) | ((((fail_if_success (with_reducible show wpAny _ _ (exec (Stmt.While _ _ _ _) _) _ _ _)); (fail_if_success (with_reducible show wpAny _ _ (exec (Stmt.For _ _ _ _ _) _) _ _ _)))); dsimp only)))
  rename IsRange _ _ _ _ _ _ _ _ => hr
  rename Fr _ _ _ _ => F1
  rename News _ _ _ _ => N1
  rename_i nl _ l1 _ _ _ _ _ _ _ _ _
  have hne : ∀ q ∈ news, q.1 ≠ nl := fun q hq => Nat.ne_of_lt (l1 q hq)
  refine LoopMy.range (n := 32) (FlJ n nl news) rfl hr (by decide) (by decide) F1 N1 ⟨[], 0, n, t, rfl, .nil, by simp, by simpa using h0, Nat.le_refl _, by ((refine ovr_of ?_; repeat (first | exact List.forall_mem_nil _ | (refine List.forall_mem_cons.mpr ⟨by with_unfolding_all rfl, ?_⟩))))⟩ ?_ ?_
  · rintro I i t' m₁ news₁ h tk oI hi ⟨vs, ep, fl, tk1, rfl, hS, hfl, hfl0, hlen, hm⟩ off F2 N2
    rw [hm] at F2
    have hi4 : i ≤ 4 := by
      apply Nat.le_of_not_lt
      intro h5
      have h32 : 2 ^ 5 ≤ 2 ^ i := Nat.pow_le_pow_right (by decide) h5
      have : n / 2 ^ i = 0 := Nat.div_eq_of_lt (by (first | lia | omega))
      rw [this] at hfl0; (first | lia | omega)
    have N3 := News.sub N2 mem_swap
    have hne' := turn_ne N2 off hne
    rw [Int.zero_add] at F2
    (repeat' (first | (k_unfold; (try dsimp only)) | (k_end; wrow_close) | ((((fail_if_success (with_reducible show wpAny _ _ (exec (Stmt.While _ _ _ _) _) _ _ _)); (fail_if_success (with_reducible show wpAny _ _ (exec (Stmt.For _ _ _ _ _) _) _ _ _)))); (first | with_reducible (k_here; (refine get_flag (by k_asm) (by k_asm) (by k_asm) (by (first | lia | omega)) ?_); intro _) | with_reducible (k_here; (refine P.hex_of_int ?_ (hex_small ⟨_, by (first | lia | omega)⟩))) | with_reducible (k_here; (with_reducible show wpAny _ _ (call (Value.builtin _) [Value.str _ _, Value.ref _]) _ _ _); (refine join_my (by k_asm) (by with_reducible assumption) (by decide) (by with_reducible assumption) ?_); intro _ _) | with_reducible (k_here; (with_reducible show wpAny _ _ (call (Value.builtin "issubclass") _) _ _ _); (k_here; (refine issub_my (by k_asm) ?_))) | with_reducible (k_here; (with_reducible show wpAny _ _ (truthy (Value.ref _)) _ _ _); (refine truthy_my (by k_asm) (by (first | lia | omega)) ?_); intro _) | with_reducible (k_here; (with_reducible show wpAny _ _ (call (Value.builtin _) [Value.ref _]) _ _ _); (refine pop_my (by k_asm) (by k_asm) (by with_reducible assumption) (by (first | lia | omega)) (by with_reducible assumption) ?_); intro _ _ _ _) | with_reducible (k_here; (with_reducible show wpAny _ _ (call (Value.builtin _) [Value.ref _, _]) _ _ _); (refine append_my (by k_asm) (by k_asm) (by with_reducible assumption) (by (first | lia | omega)) (by first | with_reducible assumption | exact rfl) ?_); intro _ _ _) | with_reducible (k_here; (with_reducible show wpAny _ _ (call (Value.builtin "len") [Value.ref _]) _ _ _); (refine len_at (by k_asm) (by with_reducible assumption) (by (first | lia | omega)) ?_); intro _ _) | with_reducible (k_here; (with_reducible show wpAny _ _ (setItem (Value.ref _) (Value.int _ _) _) _ _ _); (k_here; (first | (refine set_at (by k_asm) (by k_asm) (by with_reducible assumption) (by (first | lia | omega)) (by (first | lia | omega)) ?_) | (refine set_atZ (by k_asm) (by k_asm) (by with_reducible assumption) (by (first | lia | omega)) (by (first | lia | omega)) (by (first | lia | omega)) ?_)); intro _ _ _)) | with_reducible (k_here; (with_reducible show wpAny _ _ (binaryOp Operator.RShift _ _) _ _ _); (k_here; (refine half_at (by (first | lia | omega)) ?_); intro _ _)) | with_reducible (k_here; (with_reducible show wpAny _ _ (compareOp CmpOp.Lt _ _) _ _ _); (k_here; (refine lt_trees (Room.unitsD (by assumption)) (by k_asm) (by with_reducible assumption) (by intro q hq; exact List.mem_cons_of_mem _ hq) (by (first | lia | omega)) (by (first | lia | omega)) (by (first | lia | omega)) ?_); intro _)) | with_reducible (k_here; (with_reducible show wpAny _ _ (subscriptTail _ _ (Value.ref _) (Value.int _ _)) _ _ _); (k_here; (first | (refine get_at (by k_asm) (by (first | lia | omega)) (by with_reducible assumption) ?_ (by with_unfolding_all rfl) (by intro _; with_unfolding_all rfl)) | (refine get_atZ (by k_asm) (by (first | lia | omega)) (by (first | lia | omega)) (by with_reducible assumption) ?_ (by with_unfolding_all rfl) (by intro _; with_unfolding_all rfl))))) | with_reducible (k_here; (with_reducible show wpAny _ _ (subscriptTail _ _ (Value.ref _) (Value.int _ _)) _ _ _); (k_here; (first | (refine get_at (by k_asm) (by (first | lia | omega)) (by with_reducible assumption) ?_ (by with_unfolding_all rfl) (by intro _; with_unfolding_all rfl)) | (refine get_atZ (by k_asm) (by (first | lia | omega)) (by (first | lia | omega)) (by with_reducible assumption) ?_ (by with_unfolding_all rfl) (by intro _; with_unfolding_all rfl))))) | walk1)) | ((((fail_if_success (with_reducible show wpAny _ _ (exec (Stmt.While _ _ _ _) _) _ _ _)); (fail_if_success (with_reducible show wpAny _ _ (exec (Stmt.For _ _ _ _ _) _) _ _ _)))); dsimp only)))
    · rename Fr _ _ _ _ => F3
      rename News _ _ _ _ => N4
      rename Builtin.bitAnd _ _ ≠ 0 => hA
      rename Builtin.bitXor _ _ ≠ 0 => hX
      obtain ⟨h1, hx⟩ := flag_set hn hi4 hfl hA
      refine TurnMy.intro (.inl rfl) F3 (News.sub N4 mem_swap) (turn_off off) ⟨_, _, _, _, rfl, names_set hS h1, hx, ?_, ?_, by ((refine ovr_of ?_; repeat (first | exact List.forall_mem_nil _ | (refine List.forall_mem_cons.mpr ⟨by with_unfolding_all rfl, ?_⟩))))⟩
      · exact fun e => hX (hx.trans (by rw [e]; rfl))
      · rw [List.length_append, List.length_singleton]; (first | lia | omega)
    · rename Fr _ _ _ _ => F3
      rename News _ _ _ _ => N4
      rename Builtin.bitAnd _ _ ≠ 0 => hA
      rename Builtin.bitXor _ _ = 0 => hX
      obtain ⟨h1, hx⟩ := flag_set hn hi4 hfl hA
      rename_i t9 _ _ _
      have hS2 := names_set (t := t9) hS h1
      have hb : bitsBelow n (i + 1) = bits n := bits_done ⟨n, by (first | lia | omega)⟩ ⟨i, by (first | lia | omega)⟩ (by have := hx.symm.trans hX; exact Int.ofNat.inj this)
      rw [hb] at hS2
      have hw := flags_weight (l := bits n) (by have := List.length_filter_le (fun k => n / 2 ^ k % 2 == 1) (List.range 5); rw [List.length_range] at this; unfold bits bitsBelow; (first | lia | omega))
      dsimp only [TurnMy]
      (repeat' (first | (k_unfold; (try dsimp only)) | (k_end; wrow_close) | ((((fail_if_success (with_reducible show wpAny _ _ (exec (Stmt.While _ _ _ _) _) _ _ _)); (fail_if_success (with_reducible show wpAny _ _ (exec (Stmt.For _ _ _ _ _) _) _ _ _)))); (first | with_reducible (k_here; (refine get_flag (by k_asm) (by k_asm) (by k_asm) (by (first | lia | omega)) ?_); intro _) | with_reducible (k_here; (refine P.hex_of_int ?_ (hex_small ⟨_, by (first | lia | omega)⟩))) | with_reducible (k_here; (with_reducible show wpAny _ _ (call (Value.builtin _) [Value.str _ _, Value.ref _]) _ _ _); (refine join_my (by k_asm) (by with_reducible assumption) (by decide) (by with_reducible assumption) ?_); intro _ _) | with_reducible (k_here; (with_reducible show wpAny _ _ (call (Value.builtin "issubclass") _) _ _ _); (k_here; (refine issub_my (by k_asm) ?_))) | with_reducible (k_here; (with_reducible show wpAny _ _ (truthy (Value.ref _)) _ _ _); (refine truthy_my (by k_asm) (by (first | lia | omega)) ?_); intro _) | with_reducible (k_here; (with_reducible show wpAny _ _ (call (Value.builtin _) [Value.ref _]) _ _ _); (refine pop_my (by k_asm) (by k_asm) (by with_reducible assumption) (by (first | lia | omega)) (by with_reducible assumption) ?_); intro _ _ _ _) | with_reducible (k_here; (with_reducible show wpAny _ _ (call (Value.builtin _) [Value.ref _, _]) _ _ _); (refine append_my (by k_asm) (by k_asm) (by with_reducible assumption) (by (first | lia | omega)) (by first | with_reducible assumption | exact rfl) ?_); intro _ _ _) | with_reducible (k_here; (with_reducible show wpAny _ _ (call (Value.builtin "len") [Value.ref _]) _ _ _); (refine len_at (by k_asm) (by with_reducible assumption) (by (first | lia | omega)) ?_); intro _ _) | with_reducible (k_here; (with_reducible show wpAny _ _ (setItem (Value.ref _) (Value.int _ _) _) _ _ _); (k_here; (first | (refine set_at (by k_asm) (by k_asm) (by with_reducible assumption) (by (first | lia | omega)) (by (first | lia | omega)) ?_) | (refine set_atZ (by k_asm) (by k_asm) (by with_reducible assumption) (by (first | lia | omega)) (by (first | lia | omega)) (by (first | lia | omega)) ?_)); intro _ _ _)) | with_reducible (k_here; (with_reducible show wpAny _ _ (binaryOp Operator.RShift _ _) _ _ _); (k_here; (refine half_at (by (first | lia | omega)) ?_); intro _ _)) | with_reducible (k_here; (with_reducible show wpAny _ _ (compareOp CmpOp.Lt _ _) _ _ _); (k_here; (refine lt_trees (Room.unitsD (by assumption)) (by k_asm) (by with_reducible assumption) (by intro q hq; exact List.mem_cons_of_mem _ hq) (by (first | lia | omega)) (by (first | lia | omega)) (by (first | lia | omega)) ?_); intro _)) | with_reducible (k_here; (with_reducible show wpAny _ _ (subscriptTail _ _ (Value.ref _) (Value.int _ _)) _ _ _); (k_here; (first | (refine get_at (by k_asm) (by (first | lia | omega)) (by with_reducible assumption) ?_ (by with_unfolding_all rfl) (by intro _; with_unfolding_all rfl)) | (refine get_atZ (by k_asm) (by (first | lia | omega)) (by (first | lia | omega)) (by with_reducible assumption) ?_ (by with_unfolding_all rfl) (by intro _; with_unfolding_all rfl))))) | with_reducible (k_here; (with_reducible show wpAny _ _ (subscriptTail _ _ (Value.ref _) (Value.int _ _)) _ _ _); (k_here; (first | (refine get_at (by k_asm) (by (first | lia | omega)) (by with_reducible assumption) ?_ (by with_unfolding_all rfl) (by intro _; with_unfolding_all rfl)) | (refine get_atZ (by k_asm) (by (first | lia | omega)) (by (first | lia | omega)) (by with_reducible assumption) ?_ (by with_unfolding_all rfl) (by intro _; with_unfolding_all rfl))))) | walk1)) | ((((fail_if_success (with_reducible show wpAny _ _ (exec (Stmt.While _ _ _ _) _) _ _ _)); (fail_if_success (with_reducible show wpAny _ _ (exec (Stmt.For _ _ _ _ _) _) _ _ _)))); dsimp only)))
      rename Fr _ _ _ _ => F5
      rename News _ _ _ _ => N5
      exact ret _ _ _ F5 (News.sub N5 fun p hp => List.mem_cons_of_mem _ (List.mem_cons_of_mem _ hp))
    · rename Fr _ _ _ _ => F3
      rename News _ _ _ _ => N4
      rename Builtin.bitAnd _ _ = 0 => hA
      obtain ⟨h1, hx⟩ := flag_clear hn hi4 hfl hA
      exact TurnMy.intro (.inl rfl) F3 (News.sub N4 mem_swap) (turn_off off) ⟨_, _, _, _, rfl, names_clear hS h1, hfl.trans (by rw [hx]), by rw [← hx]; exact hfl0, by (first | lia | omega), by ((refine ovr_of ?_; repeat (first | exact List.forall_mem_nil _ | (refine List.forall_mem_cons.mpr ⟨by with_unfolding_all rfl, ?_⟩))))⟩
  · rintro h tk m₁ news₁ ⟨vs, ep, fl, tk1, rfl, hS, hfl, hfl0, hlen, hm⟩ F2 N2
    exfalso
    have : n / 2 ^ 32 = 0 := Nat.div_eq_of_lt (by (first | lia | omega))
    rw [this] at hfl0; (first | lia | omega)
end
theorem off_SA : True := by
  w_top off
  trivial
section
section
local macro_rules | `(tactic| k_all) => `(tactic| assumption)
set_option maxHeartbeats 4000000 in
theorem words_spec {w : World} {A : Around} {s : Shared} {b0 : Heap} {L : Addr} {m mg mb : Str → Option Value} {mean : ExcName → Option Value} {p : Program} {loose : List Str} {news : List (Addr × Obj)}
  (R : Room A 5) (X : (Mine.heapK w.params).In b0) (T : Top p loose mean mg mb b0) (F : Fr b0 L s.heap m)
  (Nw : News b0 L s.heap news) {ta : Addr} {f : Nat → Value × Tr} {ep N : Nat} (hN : N ≤ 64) (ht : (ta, W.listOf (vals f N).toArray ep) ∈ news) (hT : Trees news f N) (hr : ∀ i, i < N → (f i).2.r < 5) {Q E : Value → Shared → Prop}
  (ret : ∀ h' tk' tk'', Fr b0 L h' m → News b0 L h' news → Q (.str (Txt.join (Str.ofString ", ") ((lst (fun i => (f i).2.r.toNat) N).map flagName)) tk'') { s with heap := h', toks := tk' }) :
  wpAny (model PySem.Challenge.rw_ik0182_01.row.prog w) A (call (.ref 182) [.ref ta]) Q E s := by
  obtain ⟨hh, dp, fr, gd, un⟩ := A
  have RR := R
  obtain ⟨hd', hdp, hun⟩ := R
  cases hd'
  revert X; k_fill; intro X
  refine wpAny_call ?_
  k_dflt (refine' enterC (binds := [(Str.ofString "trees", .ref ta)]) ?F ?X ?N ?T ?ho ?hcd ?room ?bind ?knd ?nd ?_ ?c1 ?c2 ?c3)
  case F => k_asm
  case X => k_asm
  case N => k_asm
  case T => k_asm
  case ho => k_is
  case hcd => k_is
  case room => (try dsimp only at *); (first | lia | omega)
  case bind => exact BindsTo.of_eq rfl
  case knd => exact rfl
  case nd => decide
  case c1 => exact rfl
  case c2 => exact rfl
  case c3 => exact rfl
  intro g L' h₁ tk cells FG F' N' hcells X' T' lt'
  k_cells hcells
  simp only [List.cons_append, List.nil_append] at N'
  have hcl : ∀ p ∈ news, p.1 ≠ L' + 1 := fun p hp => Nat.ne_of_lt (Nat.lt_succ_of_lt (lt' p hp))
  try dsimp only
  try k_fold
  refine let_env (B := execs _) RR ?_
  intro tk0 env A1 RA
  (repeat' (first | (k_unfold; (try dsimp only)) | (k_end; wrow_close) | ((((fail_if_success (with_reducible show wpAny _ _ (exec (Stmt.While _ _ _ _) _) _ _ _)); (fail_if_success (with_reducible show wpAny _ _ (exec (Stmt.For _ _ _ _ _) _) _ _ _)))); (first | with_reducible (k_here; (with_reducible show wpAny _ _ (eval (Expr.ListComp _ _ _ _) _) _ _ _); (k_here; (refine ListComp_my (by k_asm) (by with_unfolding_all rfl) (CMade.plain (by decide) rfl) (by rfl) (by decide) ?_ (by intro _; with_unfolding_all rfl)))) | with_reducible (k_here; (with_reducible show wpAny _ _ (call (Value.builtin _) [Value.str _ _, Value.ref _]) _ _ _); (refine join_my (by k_asm) (by with_reducible assumption) (by decide) (by with_reducible assumption) ?_); intro _ _) | with_reducible (k_here; (with_reducible show wpAny _ _ (call (Value.builtin "issubclass") _) _ _ _); (k_here; (refine issub_my (by k_asm) ?_))) | with_reducible (k_here; (with_reducible show wpAny _ _ (truthy (Value.ref _)) _ _ _); (refine truthy_my (by k_asm) (by (first | lia | omega)) ?_); intro _) | with_reducible (k_here; (with_reducible show wpAny _ _ (call (Value.builtin _) [Value.ref _]) _ _ _); (refine pop_my (by k_asm) (by k_asm) (by with_reducible assumption) (by (first | lia | omega)) (by with_reducible assumption) ?_); intro _ _ _ _) | with_reducible (k_here; (with_reducible show wpAny _ _ (call (Value.builtin _) [Value.ref _, _]) _ _ _); (refine append_my (by k_asm) (by k_asm) (by with_reducible assumption) (by (first | lia | omega)) (by first | with_reducible assumption | exact rfl) ?_); intro _ _ _) | with_reducible (k_here; (with_reducible show wpAny _ _ (call (Value.builtin "len") [Value.ref _]) _ _ _); (refine len_at (by k_asm) (by with_reducible assumption) (by (first | lia | omega)) ?_); intro _ _) | with_reducible (k_here; (with_reducible show wpAny _ _ (setItem (Value.ref _) (Value.int _ _) _) _ _ _); (k_here; (first | (refine set_at (by k_asm) (by k_asm) (by with_reducible assumption) (by (first | lia | omega)) (by (first | lia | omega)) ?_) | (refine set_atZ (by k_asm) (by k_asm) (by with_reducible assumption) (by (first | lia | omega)) (by (first | lia | omega)) (by (first | lia | omega)) ?_)); intro _ _ _)) | with_reducible (k_here; (with_reducible show wpAny _ _ (binaryOp Operator.RShift _ _) _ _ _); (k_here; (refine half_at (by (first | lia | omega)) ?_); intro _ _)) | with_reducible (k_here; (with_reducible show wpAny _ _ (compareOp CmpOp.Lt _ _) _ _ _); (k_here; (refine lt_trees (Room.unitsD (by assumption)) (by k_asm) (by with_reducible assumption) (by intro q hq; exact List.mem_cons_of_mem _ hq) (by (first | lia | omega)) (by (first | lia | omega)) (by (first | lia | omega)) ?_); intro _)) | with_reducible (k_here; (with_reducible show wpAny _ _ (subscriptTail _ _ (Value.ref _) (Value.int _ _)) _ _ _); (k_here; (first | (refine get_at (by k_asm) (by (first | lia | omega)) (by with_reducible assumption) ?_ (by with_unfolding_all rfl) (by intro _; with_unfolding_all rfl)) | (refine get_atZ (by k_asm) (by (first | lia | omega)) (by (first | lia | omega)) (by with_reducible assumption) ?_ (by with_unfolding_all rfl) (by intro _; with_unfolding_all rfl))))) | with_reducible (k_here; (with_reducible show wpAny _ _ (subscriptTail _ _ (Value.ref _) (Value.int _ _)) _ _ _); (k_here; (first | (refine get_at (by k_asm) (by (first | lia | omega)) (by with_reducible assumption) ?_ (by with_unfolding_all rfl) (by intro _; with_unfolding_all rfl)) | (refine get_atZ (by k_asm) (by (first | lia | omega)) (by (first | lia | omega)) (by with_reducible assumption) ?_ (by with_unfolding_all rfl) (by intro _; with_unfolding_all rfl))))) | walk1)) | ((((fail_if_success (with_reducible show wpAny _ _ (exec (Stmt.While _ _ _ _) _) _ _ _)); (fail_if_success (with_reducible show wpAny _ _ (exec (Stmt.For _ _ _ _ _) _) _ _ _)))); dsimp only)))
  rename Fr _ _ _ _ => F1
  rename News _ _ _ _ => N1
  rename _ = Data.cell (some _) => hd1
  generalize hNW : (_ :: _ :: news) = NW at N1
  have hsub : ∀ q ∈ news, q ∈ NW := fun q hq => by rw [← hNW]; exact List.mem_cons_of_mem _ (List.mem_cons_of_mem _ hq)
  refine CSrc.list (vs := vals f N) (ep := ep) (fun C i ys nw => nw = NW ∧ StrsAre ys ((lst (fun i => (f i).2.r.toNat) i).map flagName)) rfl F1 N1 (by rw [vals_length]; (first | lia | omega)) (hsub _ ht) (fun C i ys nw hj => by rw [hj.1]; exact hsub _ ht) (fun C _ => ⟨rfl, .nil⟩) ?_ ?_
  · rintro I C D i v ys nw h tk1 oI oC m₂ hi hv st ⟨rfl, hS⟩ off dist hn F2 N2
    rw [vals_length] at hi
    have hv' : v = (f i).1 := by
      have := hv; rw [vals, lst_get hi] at this; exact (Option.some.inj this).symm
    obtain ⟨a, t1, t2, la, n1, n2, its, e, hm1, hm2, hm3⟩ := hT.isin i hi
    rw [e] at hv'
    subst hv'
    refine tup3 rfl (by rfl) (by rfl) (by rfl) (by rfl) (by decide) (by decide) (by decide) st.1 (hsub _ hm1) off dist hn F2 N2 ?_
    intro h3 tk3 oC3 m3 hn3 hx1 hx2 hx3 F3 N3
    have hr0 := (hT.small i hi).1
    have hr5 := hr i hi
    subst hNW
    have hS2 : ∀ t k, (f i).2.r = (k : Nat) → StrsAre (ys ++ [.str (flagName k) t]) ((lst (fun i => (f i).2.r.toNat) (i + 1)).map flagName) := fun t k e => by
      rw [lst_succ, List.map_append]
      have := StrsAre.snoc hS (flagName k) t
      rw [e]; exact this
    have hcases : (f i).2.r = (0 : Nat) ∨ (f i).2.r = (1 : Nat) ∨ (f i).2.r = (2 : Nat) ∨ (f i).2.r = (3 : Nat) ∨ (f i).2.r = (4 : Nat) := by (first | lia | omega)
    rcases hcases with hk | hk | hk | hk | hk
    · rw [hk] at hx1
      (repeat' (first | (k_unfold; (try dsimp only)) | (k_end; wrow_close) | ((((fail_if_success (with_reducible show wpAny _ _ (exec (Stmt.While _ _ _ _) _) _ _ _)); (fail_if_success (with_reducible show wpAny _ _ (exec (Stmt.For _ _ _ _ _) _) _ _ _)))); (first | with_reducible (k_here; (with_reducible show wpAny _ _ (eval (Expr.ListComp _ _ _ _) _) _ _ _); (k_here; (refine ListComp_my (by k_asm) (by with_unfolding_all rfl) (CMade.plain (by decide) rfl) (by rfl) (by decide) ?_ (by intro _; with_unfolding_all rfl)))) | with_reducible (k_here; (with_reducible show wpAny _ _ (call (Value.builtin _) [Value.str _ _, Value.ref _]) _ _ _); (refine join_my (by k_asm) (by with_reducible assumption) (by decide) (by with_reducible assumption) ?_); intro _ _) | with_reducible (k_here; (with_reducible show wpAny _ _ (call (Value.builtin "issubclass") _) _ _ _); (k_here; (refine issub_my (by k_asm) ?_))) | with_reducible (k_here; (with_reducible show wpAny _ _ (truthy (Value.ref _)) _ _ _); (refine truthy_my (by k_asm) (by (first | lia | omega)) ?_); intro _) | with_reducible (k_here; (with_reducible show wpAny _ _ (call (Value.builtin _) [Value.ref _]) _ _ _); (refine pop_my (by k_asm) (by k_asm) (by with_reducible assumption) (by (first | lia | omega)) (by with_reducible assumption) ?_); intro _ _ _ _) | with_reducible (k_here; (with_reducible show wpAny _ _ (call (Value.builtin _) [Value.ref _, _]) _ _ _); (refine append_my (by k_asm) (by k_asm) (by with_reducible assumption) (by (first | lia | omega)) (by first | with_reducible assumption | exact rfl) ?_); intro _ _ _) | with_reducible (k_here; (with_reducible show wpAny _ _ (call (Value.builtin "len") [Value.ref _]) _ _ _); (refine len_at (by k_asm) (by with_reducible assumption) (by (first | lia | omega)) ?_); intro _ _) | with_reducible (k_here; (with_reducible show wpAny _ _ (setItem (Value.ref _) (Value.int _ _) _) _ _ _); (k_here; (first | (refine set_at (by k_asm) (by k_asm) (by with_reducible assumption) (by (first | lia | omega)) (by (first | lia | omega)) ?_) | (refine set_atZ (by k_asm) (by k_asm) (by with_reducible assumption) (by (first | lia | omega)) (by (first | lia | omega)) (by (first | lia | omega)) ?_)); intro _ _ _)) | with_reducible (k_here; (with_reducible show wpAny _ _ (binaryOp Operator.RShift _ _) _ _ _); (k_here; (refine half_at (by (first | lia | omega)) ?_); intro _ _)) | with_reducible (k_here; (with_reducible show wpAny _ _ (compareOp CmpOp.Lt _ _) _ _ _); (k_here; (refine lt_trees (Room.unitsD (by assumption)) (by k_asm) (by with_reducible assumption) (by intro q hq; exact List.mem_cons_of_mem _ hq) (by (first | lia | omega)) (by (first | lia | omega)) (by (first | lia | omega)) ?_); intro _)) | with_reducible (k_here; (with_reducible show wpAny _ _ (subscriptTail _ _ (Value.ref _) (Value.int _ _)) _ _ _); (k_here; (first | (refine get_at (by k_asm) (by (first | lia | omega)) (by with_reducible assumption) ?_ (by with_unfolding_all rfl) (by intro _; with_unfolding_all rfl)) | (refine get_atZ (by k_asm) (by (first | lia | omega)) (by (first | lia | omega)) (by with_reducible assumption) ?_ (by with_unfolding_all rfl) (by intro _; with_unfolding_all rfl))))) | with_reducible (k_here; (with_reducible show wpAny _ _ (subscriptTail _ _ (Value.ref _) (Value.int _ _)) _ _ _); (k_here; (first | (refine get_at (by k_asm) (by (first | lia | omega)) (by with_reducible assumption) ?_ (by with_unfolding_all rfl) (by intro _; with_unfolding_all rfl)) | (refine get_atZ (by k_asm) (by (first | lia | omega)) (by (first | lia | omega)) (by with_reducible assumption) ?_ (by with_unfolding_all rfl) (by intro _; with_unfolding_all rfl))))) | walk1)) | ((((fail_if_success (with_reducible show wpAny _ _ (exec (Stmt.While _ _ _ _) _) _ _ _)); (fail_if_success (with_reducible show wpAny _ _ (exec (Stmt.For _ _ _ _ _) _) _ _ _)))); dsimp only)))
      exact CEnd.intro hn3 F3 N3 off ⟨rfl, hS2 _ 0 hk⟩
    · rw [hk] at hx1
      (repeat' (first | (k_unfold; (try dsimp only)) | (k_end; wrow_close) | ((((fail_if_success (with_reducible show wpAny _ _ (exec (Stmt.While _ _ _ _) _) _ _ _)); (fail_if_success (with_reducible show wpAny _ _ (exec (Stmt.For _ _ _ _ _) _) _ _ _)))); (first | with_reducible (k_here; (with_reducible show wpAny _ _ (eval (Expr.ListComp _ _ _ _) _) _ _ _); (k_here; (refine ListComp_my (by k_asm) (by with_unfolding_all rfl) (CMade.plain (by decide) rfl) (by rfl) (by decide) ?_ (by intro _; with_unfolding_all rfl)))) | with_reducible (k_here; (with_reducible show wpAny _ _ (call (Value.builtin _) [Value.str _ _, Value.ref _]) _ _ _); (refine join_my (by k_asm) (by with_reducible assumption) (by decide) (by with_reducible assumption) ?_); intro _ _) | with_reducible (k_here; (with_reducible show wpAny _ _ (call (Value.builtin "issubclass") _) _ _ _); (k_here; (refine issub_my (by k_asm) ?_))) | with_reducible (k_here; (with_reducible show wpAny _ _ (truthy (Value.ref _)) _ _ _); (refine truthy_my (by k_asm) (by (first | lia | omega)) ?_); intro _) | with_reducible (k_here; (with_reducible show wpAny _ _ (call (Value.builtin _) [Value.ref _]) _ _ _); (refine pop_my (by k_asm) (by k_asm) (by with_reducible assumption) (by (first | lia | omega)) (by with_reducible assumption) ?_); intro _ _ _ _) | with_reducible (k_here; (with_reducible show wpAny _ _ (call (Value.builtin _) [Value.ref _, _]) _ _ _); (refine append_my (by k_asm) (by k_asm) (by with_reducible assumption) (by (first | lia | omega)) (by first | with_reducible assumption | exact rfl) ?_); intro _ _ _) | with_reducible (k_here; (with_reducible show wpAny _ _ (call (Value.builtin "len") [Value.ref _]) _ _ _); (refine len_at (by k_asm) (by with_reducible assumption) (by (first | lia | omega)) ?_); intro _ _) | with_reducible (k_here; (with_reducible show wpAny _ _ (setItem (Value.ref _) (Value.int _ _) _) _ _ _); (k_here; (first | (refine set_at (by k_asm) (by k_asm) (by with_reducible assumption) (by (first | lia | omega)) (by (first | lia | omega)) ?_) | (refine set_atZ (by k_asm) (by k_asm) (by with_reducible assumption) (by (first | lia | omega)) (by (first | lia | omega)) (by (first | lia | omega)) ?_)); intro _ _ _)) | with_reducible (k_here; (with_reducible show wpAny _ _ (binaryOp Operator.RShift _ _) _ _ _); (k_here; (refine half_at (by (first | lia | omega)) ?_); intro _ _)) | with_reducible (k_here; (with_reducible show wpAny _ _ (compareOp CmpOp.Lt _ _) _ _ _); (k_here; (refine lt_trees (Room.unitsD (by assumption)) (by k_asm) (by with_reducible assumption) (by intro q hq; exact List.mem_cons_of_mem _ hq) (by (first | lia | omega)) (by (first | lia | omega)) (by (first | lia | omega)) ?_); intro _)) | with_reducible (k_here; (with_reducible show wpAny _ _ (subscriptTail _ _ (Value.ref _) (Value.int _ _)) _ _ _); (k_here; (first | (refine get_at (by k_asm) (by (first | lia | omega)) (by with_reducible assumption) ?_ (by with_unfolding_all rfl) (by intro _; with_unfolding_all rfl)) | (refine get_atZ (by k_asm) (by (first | lia | omega)) (by (first | lia | omega)) (by with_reducible assumption) ?_ (by with_unfolding_all rfl) (by intro _; with_unfolding_all rfl))))) | with_reducible (k_here; (with_reducible show wpAny _ _ (subscriptTail _ _ (Value.ref _) (Value.int _ _)) _ _ _); (k_here; (first | (refine get_at (by k_asm) (by (first | lia | omega)) (by with_reducible assumption) ?_ (by with_unfolding_all rfl) (by intro _; with_unfolding_all rfl)) | (refine get_atZ (by k_asm) (by (first | lia | omega)) (by (first | lia | omega)) (by with_reducible assumption) ?_ (by with_unfolding_all rfl) (by intro _; with_unfolding_all rfl))))) | walk1)) | ((((fail_if_success (with_reducible show wpAny _ _ (exec (Stmt.While _ _ _ _) _) _ _ _)); (fail_if_success (with_reducible show wpAny _ _ (exec (Stmt.For _ _ _ _ _) _) _ _ _)))); dsimp only)))
      exact CEnd.intro hn3 F3 N3 off ⟨rfl, hS2 _ 1 hk⟩
    · rw [hk] at hx1
      (repeat' (first | (k_unfold; (try dsimp only)) | (k_end; wrow_close) | ((((fail_if_success (with_reducible show wpAny _ _ (exec (Stmt.While _ _ _ _) _) _ _ _)); (fail_if_success (with_reducible show wpAny _ _ (exec (Stmt.For _ _ _ _ _) _) _ _ _)))); (first | with_reducible (k_here; (with_reducible show wpAny _ _ (eval (Expr.ListComp _ _ _ _) _) _ _ _); (k_here; (refine ListComp_my (by k_asm) (by with_unfolding_all rfl) (CMade.plain (by decide) rfl) (by rfl) (by decide) ?_ (by intro _; with_unfolding_all rfl)))) | with_reducible (k_here; (with_reducible show wpAny _ _ (call (Value.builtin _) [Value.str _ _, Value.ref _]) _ _ _); (refine join_my (by k_asm) (by with_reducible assumption) (by decide) (by with_reducible assumption) ?_); intro _ _) | with_reducible (k_here; (with_reducible show wpAny _ _ (call (Value.builtin "issubclass") _) _ _ _); (k_here; (refine issub_my (by k_asm) ?_))) | with_reducible (k_here; (with_reducible show wpAny _ _ (truthy (Value.ref _)) _ _ _); (refine truthy_my (by k_asm) (by (first | lia | omega)) ?_); intro _) | with_reducible (k_here; (with_reducible show wpAny _ _ (call (Value.builtin _) [Value.ref _]) _ _ _); (refine pop_my (by k_asm) (by k_asm) (by with_reducible assumption) (by (first | lia | omega)) (by with_reducible assumption) ?_); intro _ _ _ _) | with_reducible (k_here; (with_reducible show wpAny _ _ (call (Value.builtin _) [Value.ref _, _]) _ _ _); (refine append_my (by k_asm) (by k_asm) (by with_reducible assumption) (by (first | lia | omega)) (by first | with_reducible assumption | exact rfl) ?_); intro _ _ _) | with_reducible (k_here; (with_reducible show wpAny _ _ (call (Value.builtin "len") [Value.ref _]) _ _ _); (refine len_at (by k_asm) (by with_reducible assumption) (by (first | lia | omega)) ?_); intro _ _) | with_reducible (k_here; (with_reducible show wpAny _ _ (setItem (Value.ref _) (Value.int _ _) _) _ _ _); (k_here; (first | (refine set_at (by k_asm) (by k_asm) (by with_reducible assumption) (by (first | lia | omega)) (by (first | lia | omega)) ?_) | (refine set_atZ (by k_asm) (by k_asm) (by with_reducible assumption) (by (first | lia | omega)) (by (first | lia | omega)) (by (first | lia | omega)) ?_)); intro _ _ _)) | with_reducible (k_here; (with_reducible show wpAny _ _ (binaryOp Operator.RShift _ _) _ _ _); (k_here; (refine half_at (by (first | lia | omega)) ?_); intro _ _)) | with_reducible (k_here; (with_reducible show wpAny _ _ (compareOp CmpOp.Lt _ _) _ _ _); (k_here; (refine lt_trees (Room.unitsD (by assumption)) (by k_asm) (by with_reducible assumption) (by intro q hq; exact List.mem_cons_of_mem _ hq) (by (first | lia | omega)) (by (first | lia | omega)) (by (first | lia | omega)) ?_); intro _)) | with_reducible (k_here; (with_reducible show wpAny _ _ (subscriptTail _ _ (Value.ref _) (Value.int _ _)) _ _ _); (k_here; (first | (refine get_at (by k_asm) (by (first | lia | omega)) (by with_reducible assumption) ?_ (by with_unfolding_all rfl) (by intro _; with_unfolding_all rfl)) | (refine get_atZ (by k_asm) (by (first | lia | omega)) (by (first | lia | omega)) (by with_reducible assumption) ?_ (by with_unfolding_all rfl) (by intro _; with_unfolding_all rfl))))) | with_reducible (k_here; (with_reducible show wpAny _ _ (subscriptTail _ _ (Value.ref _) (Value.int _ _)) _ _ _); (k_here; (first | (refine get_at (by k_asm) (by (first | lia | omega)) (by with_reducible assumption) ?_ (by with_unfolding_all rfl) (by intro _; with_unfolding_all rfl)) | (refine get_atZ (by k_asm) (by (first | lia | omega)) (by (first | lia | omega)) (by with_reducible assumption) ?_ (by with_unfolding_all rfl) (by intro _; with_unfolding_all rfl))))) | walk1)) | ((((fail_if_success (with_reducible show wpAny _ _ (exec (Stmt.While _ _ _ _) _) _ _ _)); (fail_if_success (with_reducible show wpAny _ _ (exec (Stmt.For _ _ _ _ _) _) _ _ _)))); dsimp only)))
      exact CEnd.intro hn3 F3 N3 off ⟨rfl, hS2 _ 2 hk⟩
    · rw [hk] at hx1
      (repeat' (first | (k_unfold; (try dsimp only)) | (k_end; wrow_close) | ((((fail_if_success (with_reducible show wpAny _ _ (exec (Stmt.While _ _ _ _) _) _ _ _)); (fail_if_success (with_reducible show wpAny _ _ (exec (Stmt.For _ _ _ _ _) _) _ _ _)))); (first | with_reducible (k_here; (with_reducible show wpAny _ _ (eval (Expr.ListComp _ _ _ _) _) _ _ _); (k_here; (refine ListComp_my (by k_asm) (by with_unfolding_all rfl) (CMade.plain (by decide) rfl) (by rfl) (by decide) ?_ (by intro _; with_unfolding_all rfl)))) | with_reducible (k_here; (with_reducible show wpAny _ _ (call (Value.builtin _) [Value.str _ _, Value.ref _]) _ _ _); (refine join_my (by k_asm) (by with_reducible assumption) (by decide) (by with_reducible assumption) ?_); intro _ _) | with_reducible (k_here; (with_reducible show wpAny _ _ (call (Value.builtin "issubclass") _) _ _ _); (k_here; (refine issub_my (by k_asm) ?_))) | with_reducible (k_here; (with_reducible show wpAny _ _ (truthy (Value.ref _)) _ _ _); (refine truthy_my (by k_asm) (by (first | lia | omega)) ?_); intro _) | with_reducible (k_here; (with_reducible show wpAny _ _ (call (Value.builtin _) [Value.ref _]) _ _ _); (refine pop_my (by k_asm) (by k_asm) (by with_reducible assumption) (by (first | lia | omega)) (by with_reducible assumption) ?_); intro _ _ _ _) | with_reducible (k_here; (with_reducible show wpAny _ _ (call (Value.builtin _) [Value.ref _, _]) _ _ _); (refine append_my (by k_asm) (by k_asm) (by with_reducible assumption) (by (first | lia | omega)) (by first | with_reducible assumption | exact rfl) ?_); intro _ _ _) | with_reducible (k_here; (with_reducible show wpAny _ _ (call (Value.builtin "len") [Value.ref _]) _ _ _); (refine len_at (by k_asm) (by with_reducible assumption) (by (first | lia | omega)) ?_); intro _ _) | with_reducible (k_here; (with_reducible show wpAny _ _ (setItem (Value.ref _) (Value.int _ _) _) _ _ _); (k_here; (first | (refine set_at (by k_asm) (by k_asm) (by with_reducible assumption) (by (first | lia | omega)) (by (first | lia | omega)) ?_) | (refine set_atZ (by k_asm) (by k_asm) (by with_reducible assumption) (by (first | lia | omega)) (by (first | lia | omega)) (by (first | lia | omega)) ?_)); intro _ _ _)) | with_reducible (k_here; (with_reducible show wpAny _ _ (binaryOp Operator.RShift _ _) _ _ _); (k_here; (refine half_at (by (first | lia | omega)) ?_); intro _ _)) | with_reducible (k_here; (with_reducible show wpAny _ _ (compareOp CmpOp.Lt _ _) _ _ _); (k_here; (refine lt_trees (Room.unitsD (by assumption)) (by k_asm) (by with_reducible assumption) (by intro q hq; exact List.mem_cons_of_mem _ hq) (by (first | lia | omega)) (by (first | lia | omega)) (by (first | lia | omega)) ?_); intro _)) | with_reducible (k_here; (with_reducible show wpAny _ _ (subscriptTail _ _ (Value.ref _) (Value.int _ _)) _ _ _); (k_here; (first | (refine get_at (by k_asm) (by (first | lia | omega)) (by with_reducible assumption) ?_ (by with_unfolding_all rfl) (by intro _; with_unfolding_all rfl)) | (refine get_atZ (by k_asm) (by (first | lia | omega)) (by (first | lia | omega)) (by with_reducible assumption) ?_ (by with_unfolding_all rfl) (by intro _; with_unfolding_all rfl))))) | with_reducible (k_here; (with_reducible show wpAny _ _ (subscriptTail _ _ (Value.ref _) (Value.int _ _)) _ _ _); (k_here; (first | (refine get_at (by k_asm) (by (first | lia | omega)) (by with_reducible assumption) ?_ (by with_unfolding_all rfl) (by intro _; with_unfolding_all rfl)) | (refine get_atZ (by k_asm) (by (first | lia | omega)) (by (first | lia | omega)) (by with_reducible assumption) ?_ (by with_unfolding_all rfl) (by intro _; with_unfolding_all rfl))))) | walk1)) | ((((fail_if_success (with_reducible show wpAny _ _ (exec (Stmt.While _ _ _ _) _) _ _ _)); (fail_if_success (with_reducible show wpAny _ _ (exec (Stmt.For _ _ _ _ _) _) _ _ _)))); dsimp only)))
      exact CEnd.intro hn3 F3 N3 off ⟨rfl, hS2 _ 3 hk⟩
    · rw [hk] at hx1
      (repeat' (first | (k_unfold; (try dsimp only)) | (k_end; wrow_close) | ((((fail_if_success (with_reducible show wpAny _ _ (exec (Stmt.While _ _ _ _) _) _ _ _)); (fail_if_success (with_reducible show wpAny _ _ (exec (Stmt.For _ _ _ _ _) _) _ _ _)))); (first | with_reducible (k_here; (with_reducible show wpAny _ _ (eval (Expr.ListComp _ _ _ _) _) _ _ _); (k_here; (refine ListComp_my (by k_asm) (by with_unfolding_all rfl) (CMade.plain (by decide) rfl) (by rfl) (by decide) ?_ (by intro _; with_unfolding_all rfl)))) | with_reducible (k_here; (with_reducible show wpAny _ _ (call (Value.builtin _) [Value.str _ _, Value.ref _]) _ _ _); (refine join_my (by k_asm) (by with_reducible assumption) (by decide) (by with_reducible assumption) ?_); intro _ _) | with_reducible (k_here; (with_reducible show wpAny _ _ (call (Value.builtin "issubclass") _) _ _ _); (k_here; (refine issub_my (by k_asm) ?_))) | with_reducible (k_here; (with_reducible show wpAny _ _ (truthy (Value.ref _)) _ _ _); (refine truthy_my (by k_asm) (by (first | lia | omega)) ?_); intro _) | with_reducible (k_here; (with_reducible show wpAny _ _ (call (Value.builtin _) [Value.ref _]) _ _ _); (refine pop_my (by k_asm) (by k_asm) (by with_reducible assumption) (by (first | lia | omega)) (by with_reducible assumption) ?_); intro _ _ _ _) | with_reducible (k_here; (with_reducible show wpAny _ _ (call (Value.builtin _) [Value.ref _, _]) _ _ _); (refine append_my (by k_asm) (by k_asm) (by with_reducible assumption) (by (first | lia | omega)) (by first | with_reducible assumption | exact rfl) ?_); intro _ _ _) | with_reducible (k_here; (with_reducible show wpAny _ _ (call (Value.builtin "len") [Value.ref _]) _ _ _); (refine len_at (by k_asm) (by with_reducible assumption) (by (first | lia | omega)) ?_); intro _ _) | with_reducible (k_here; (with_reducible show wpAny _ _ (setItem (Value.ref _) (Value.int _ _) _) _ _ _); (k_here; (first | (refine set_at (by k_asm) (by k_asm) (by with_reducible assumption) (by (first | lia | omega)) (by (first | lia | omega)) ?_) | (refine set_atZ (by k_asm) (by k_asm) (by with_reducible assumption) (by (first | lia | omega)) (by (first | lia | omega)) (by (first | lia | omega)) ?_)); intro _ _ _)) | with_reducible (k_here; (with_reducible show wpAny _ _ (binaryOp Operator.RShift _ _) _ _ _); (k_here; (refine half_at (by (first | lia | omega)) ?_); intro _ _)) | with_reducible (k_here; (with_reducible show wpAny _ _ (compareOp CmpOp.Lt _ _) _ _ _); (k_here; (refine lt_trees (Room.unitsD (by assumption)) (by k_asm) (by with_reducible assumption) (by intro q hq; exact List.mem_cons_of_mem _ hq) (by (first | lia | omega)) (by (first | lia | omega)) (by (first | lia | omega)) ?_); intro _)) | with_reducible (k_here; (with_reducible show wpAny _ _ (subscriptTail _ _ (Value.ref _) (Value.int _ _)) _ _ _); (k_here; (first | (refine get_at (by k_asm) (by (first | lia | omega)) (by with_reducible assumption) ?_ (by with_unfolding_all rfl) (by intro _; with_unfolding_all rfl)) | (refine get_atZ (by k_asm) (by (first | lia | omega)) (by (first | lia | omega)) (by with_reducible assumption) ?_ (by with_unfolding_all rfl) (by intro _; with_unfolding_all rfl))))) | with_reducible (k_here; (with_reducible show wpAny _ _ (subscriptTail _ _ (Value.ref _) (Value.int _ _)) _ _ _); (k_here; (first | (refine get_at (by k_asm) (by (first | lia | omega)) (by with_reducible assumption) ?_ (by with_unfolding_all rfl) (by intro _; with_unfolding_all rfl)) | (refine get_atZ (by k_asm) (by (first | lia | omega)) (by (first | lia | omega)) (by with_reducible assumption) ?_ (by with_unfolding_all rfl) (by intro _; with_unfolding_all rfl))))) | walk1)) | ((((fail_if_success (with_reducible show wpAny _ _ (exec (Stmt.While _ _ _ _) _) _ _ _)); (fail_if_success (with_reducible show wpAny _ _ (exec (Stmt.For _ _ _ _ _) _) _ _ _)))); dsimp only)))
      exact CEnd.intro hn3 F3 N3 off ⟨rfl, hS2 _ 4 hk⟩
  · rintro h9 C ys nw ⟨rfl, hS⟩ D h tk9 F2 N2 hD
    subst hNW
    rw [vals_length] at hS
    rw [show LCg.lst ys = W.listOf (List.toArray ys) ys.length from rfl] at N2
    have hw := flags_weight (l := lst (fun i => (f i).2.r.toNat) N) (by rw [lst_length]; (first | lia | omega))
    (repeat' (first | (k_unfold; (try dsimp only)) | (k_end; wrow_close) | ((((fail_if_success (with_reducible show wpAny _ _ (exec (Stmt.While _ _ _ _) _) _ _ _)); (fail_if_success (with_reducible show wpAny _ _ (exec (Stmt.For _ _ _ _ _) _) _ _ _)))); (first | with_reducible (k_here; (with_reducible show wpAny _ _ (eval (Expr.ListComp _ _ _ _) _) _ _ _); (k_here; (refine ListComp_my (by k_asm) (by with_unfolding_all rfl) (CMade.plain (by decide) rfl) (by rfl) (by decide) ?_ (by intro _; with_unfolding_all rfl)))) | with_reducible (k_here; (with_reducible show wpAny _ _ (call (Value.builtin _) [Value.str _ _, Value.ref _]) _ _ _); (refine join_my (by k_asm) (by with_reducible assumption) (by decide) (by with_reducible assumption) ?_); intro _ _) | with_reducible (k_here; (with_reducible show wpAny _ _ (call (Value.builtin "issubclass") _) _ _ _); (k_here; (refine issub_my (by k_asm) ?_))) | with_reducible (k_here; (with_reducible show wpAny _ _ (truthy (Value.ref _)) _ _ _); (refine truthy_my (by k_asm) (by (first | lia | omega)) ?_); intro _) | with_reducible (k_here; (with_reducible show wpAny _ _ (call (Value.builtin _) [Value.ref _]) _ _ _); (refine pop_my (by k_asm) (by k_asm) (by with_reducible assumption) (by (first | lia | omega)) (by with_reducible assumption) ?_); intro _ _ _ _) | with_reducible (k_here; (with_reducible show wpAny _ _ (call (Value.builtin _) [Value.ref _, _]) _ _ _); (refine append_my (by k_asm) (by k_asm) (by with_reducible assumption) (by (first | lia | omega)) (by first | with_reducible assumption | exact rfl) ?_); intro _ _ _) | with_reducible (k_here; (with_reducible show wpAny _ _ (call (Value.builtin "len") [Value.ref _]) _ _ _); (refine len_at (by k_asm) (by with_reducible assumption) (by (first | lia | omega)) ?_); intro _ _) | with_reducible (k_here; (with_reducible show wpAny _ _ (setItem (Value.ref _) (Value.int _ _) _) _ _ _); (k_here; (first | (refine set_at (by k_asm) (by k_asm) (by with_reducible assumption) (by (first | lia | omega)) (by (first | lia | omega)) ?_) | (refine set_atZ (by k_asm) (by k_asm) (by with_reducible assumption) (by (first | lia | omega)) (by (first | lia | omega)) (by (first | lia | omega)) ?_)); intro _ _ _)) | with_reducible (k_here; (with_reducible show wpAny _ _ (binaryOp Operator.RShift _ _) _ _ _); (k_here; (refine half_at (by (first | lia | omega)) ?_); intro _ _)) | with_reducible (k_here; (with_reducible show wpAny _ _ (compareOp CmpOp.Lt _ _) _ _ _); (k_here; (refine lt_trees (Room.unitsD (by assumption)) (by k_asm) (by with_reducible assumption) (by intro q hq; exact List.mem_cons_of_mem _ hq) (by (first | lia | omega)) (by (first | lia | omega)) (by (first | lia | omega)) ?_); intro _)) | with_reducible (k_here; (with_reducible show wpAny _ _ (subscriptTail _ _ (Value.ref _) (Value.int _ _)) _ _ _); (k_here; (first | (refine get_at (by k_asm) (by (first | lia | omega)) (by with_reducible assumption) ?_ (by with_unfolding_all rfl) (by intro _; with_unfolding_all rfl)) | (refine get_atZ (by k_asm) (by (first | lia | omega)) (by (first | lia | omega)) (by with_reducible assumption) ?_ (by with_unfolding_all rfl) (by intro _; with_unfolding_all rfl))))) | with_reducible (k_here; (with_reducible show wpAny _ _ (subscriptTail _ _ (Value.ref _) (Value.int _ _)) _ _ _); (k_here; (first | (refine get_at (by k_asm) (by (first | lia | omega)) (by with_reducible assumption) ?_ (by with_unfolding_all rfl) (by intro _; with_unfolding_all rfl)) | (refine get_atZ (by k_asm) (by (first | lia | omega)) (by (first | lia | omega)) (by with_reducible assumption) ?_ (by with_unfolding_all rfl) (by intro _; with_unfolding_all rfl))))) | walk1)) | ((((fail_if_success (with_reducible show wpAny _ _ (exec (Stmt.While _ _ _ _) _) _ _ _)); (fail_if_success (with_reducible show wpAny _ _ (exec (Stmt.For _ _ _ _ _) _) _ _ _)))); dsimp only)))
    rename Fr _ L _ _ => F5
    rename News _ L _ _ => N5
    exact ret _ _ _ F5 (News.sub N5 fun p hp => List.mem_cons_of_mem _ (List.mem_cons_of_mem _ (List.mem_cons_of_mem _ hp)))
end
end
theorem off_SB : True := by
  w_top off
  trivial
section
noncomputable def merge (x y : Tr) : Tr := ⟨x.r + 1, x.t, x.ps ++ y.ps.map fun p => num x.t ++ (Str.ofString "/" ++ p)⟩
structure OkTr (x : Tr) : Prop where
  r0 : 0 ≤ x.r
  r1 : x.r < 64
  t0 : 0 ≤ x.t
  t1 : x.t < 2 ^ 20
  few : x.ps.length ≤ 1000
  short : ∀ p ∈ x.ps, p.length ≤ 1000
  rel : ∀ p ∈ x.ps, Txt.startswith p (Str.ofString "/") = false
structure Tale (V : List Tr → List Tr → Nat → Prop) : Prop where
  perm : ∀ H H' D k, V H D k → H.Perm H' → V H' D k
  ok : ∀ H D k, V H D k → ∀ x ∈ H, OkTr x
  apart : ∀ H D k, V H D k → (H.map (·.t)).Nodup
  meld : ∀ x y H D k, V (x :: y :: H) D k → x.r = y.r → x.t < y.t → V (merge x y :: H) D (k + 1)
  done : ∀ x H D k, V (x :: H) D k → (∀ y ∈ H, x.r < y.r) → V H (D ++ [x]) k
noncomputable def trs (f : Nat → Value × Tr) (n : Nat) : List Tr := lst (fun i => (f i).2) n
inductive MdJ (V : List Tr → List Tr → Nat → Prop) (N : Nat) (ha da c : Addr) (news : List (Addr × Obj)) (n : Nat) (m : Str → Option Value) (nw : List (Addr × Obj)) : Prop
  | mk (hf : _) (ep : _) (df : _) (dn : _) (dep : _) (k : _) (o : _) (cv : _) (tk : _) (RR : _)
    (z1 : nw = (ha, W.listOf (vals hf n).toArray ep) :: (da, W.listOf (vals df dn).toArray dep) :: (c, o) :: RR)
    (z2 : o.data = .cell cv)
    (z3 : (∀ q ∈ RR, q.1 ≠ ha ∧ q.1 ≠ da ∧ q.1 ≠ c))
    (z4 : (∀ q ∈ news, q ∈ RR))
    (z5 : Trees RR hf n)
    (z6 : Heapy key hf n 0)
    (z7 : (∀ i, i < dn → TreeIn RR (df i).1 (df i).2))
    (z8 : V (trs hf n) (trs df dn) k)
    (z9 : n + k ≤ N)
    (z10 : n + dn ≤ N)
    (z11 : m = ovr [(Str.ofString "heap", .ref ha), (Str.ofString "done", .ref da), (Str.ofString "links", .int (k : Nat) tk)] m) : MdJ V N ha da c news n m nw
theorem Trees.upd {news : List (Addr × Obj)} {f : Nat → Value × Tr} {n : Nat} {x : Value × Tr} (h : Trees news f n) (hx : TreeIn news x.1 x.2) (sx : Small x) (hne : ∀ i, i < n → (f i).2.t ≠ x.2.t) : Trees news (upd f n x) (n + 1) := by
  refine ⟨fun i hi => ?_, fun i hi => ?_, fun i j hi hj hij => ?_⟩
  · unfold Mine.upd; split
    · exact hx
    · exact h.isin i (by (first | lia | omega))
  · unfold Mine.upd; split
    · exact sx
    · exact h.small i (by (first | lia | omega))
  · unfold Mine.upd; split
    · next e => subst e; rw [if_neg (Ne.symm hij)]; exact Ne.symm (hne j (by (first | lia | omega)))
    · split
      · exact hne i (by (first | lia | omega))
      · exact h.apart i j (by (first | lia | omega)) (by (first | lia | omega)) hij
theorem key_r {a b : Value × Tr} (sa : Small a) (sb : Small b) (h : key a ≤ key b) : a.2.r ≤ b.2.r := by
  unfold Small at sa sb
  unfold key at h
  (first | lia | omega)
theorem Trees.rest {news : List (Addr × Obj)} {f f' : Nat → Value × Tr} {n : Nat} {x : Value × Tr} (h : Trees news f (n + 1)) (hp : (x :: lst f' n).Perm (lst f (n + 1))) : Trees news f' n ∧ ∀ i, i < n → (f' i).2.t ≠ x.2.t := by
  have e : lst (fun i => if i = 0 then x else f' (i - 1)) (n + 1) = x :: lst f' n := by rw [lst_cons]; simp
  have T0 : Trees news (fun i => if i = 0 then x else f' (i - 1)) (n + 1) := h.perm (e ▸ hp)
  exact ⟨⟨fun i hi => by simpa using T0.isin (i + 1) (by (first | lia | omega)), fun i hi => by simpa using T0.small (i + 1) (by (first | lia | omega)), fun i j hi hj hne => by simpa using T0.apart (i + 1) (j + 1) (by (first | lia | omega)) (by (first | lia | omega)) (by (first | lia | omega))⟩,
    fun i hi => by simpa using T0.apart (i + 1) 0 (by (first | lia | omega)) (by (first | lia | omega)) (by (first | lia | omega))⟩
section
local macro_rules | `(tactic| k_all) => `(tactic| assumption)
set_option maxHeartbeats 4000000 in
theorem meld_spec {w : World} {A : Around} {s : Shared} {b0 : Heap} {L : Addr} {m mg mb : Str → Option Value} {mean : ExcName → Option Value} {p : Program} {loose : List Str} {news : List (Addr × Obj)}
  (R : Room A 12) (X : (Mine.heapK w.params).In b0) (T : Top p loose mean mg mb b0) (F : Fr b0 L s.heap m)
  (Nw : News b0 L s.heap news) {ta : Addr} {f : Nat → Value × Tr} {ep N : Nat} (hN : N < 64) (ht : (ta, W.listOf (vals f N).toArray ep) ∈ news) (hT : Trees news f N) {V : List Tr → List Tr → Nat → Prop} (hV : Tale V) (hV0 : V (trs f N) [] 0) {Q E : Value → Shared → Prop}
  (ret : ∀ df dn dep k tk b da news' h' tk', Fr b0 L h' m → News b0 L h' ((b, ({ cls := .type "tuple", data := .seq #[.ref da, .int (k : Nat) tk] } : Obj)) :: (da, W.listOf (vals df dn).toArray dep) :: news') → (∀ q ∈ news, q ∈ news') → (∀ i, i < dn → TreeIn news' (df i).1 (df i).2) → dn ≤ N → V [] (trs df dn) k → Q (.ref b) { s with heap := h', toks := tk' }) :
  wpAny (model PySem.Challenge.rw_ik0182_01.row.prog w) A (call (.ref 177) [.ref ta]) Q E s := by
  obtain ⟨hh, dp, fr, gd, un⟩ := A
  have RR := R
  obtain ⟨hd', hdp, hun⟩ := R
  cases hd'
  revert X; k_fill; intro X
  refine wpAny_call ?_
  k_dflt (refine' enterC (binds := [(Str.ofString "trees", .ref ta)]) ?F ?X ?N ?T ?ho ?hcd ?room ?bind ?knd ?nd ?_ ?c1 ?c2 ?c3)
  case F => k_asm
  case X => k_asm
  case N => k_asm
  case T => k_asm
  case ho => k_is
  case hcd => k_is
  case room => (try dsimp only at *); (first | lia | omega)
  case bind => exact BindsTo.of_eq rfl
  case knd => exact rfl
  case nd => decide
  case c1 => exact rfl
  case c2 => exact rfl
  case c3 => exact rfl
  intro g L' h₁ tk cells FG F' N' hcells X' T' lt'
  obtain ⟨o', hE', hd0⟩ := CellsAre.one hcells
  subst hE'
  simp only [List.cons_append, List.nil_append] at N'
  have hcl : ∀ p ∈ news, p.1 ≠ L' + 1 := fun p hp => Nat.ne_of_lt (Nat.lt_succ_of_lt (lt' p hp))
  have ht' : (ta, W.listOf (vals f N).toArray ep) ∈ (L' + 1, o') :: news := List.mem_cons_of_mem _ ht
  try dsimp only
  try k_fold
  refine let_env (B := execs _) RR ?_
  intro tk0 env A1 RA
  (repeat' (first | (k_unfold; (try dsimp only)) | (k_end; wrow_close) | ((((fail_if_success (with_reducible show wpAny _ _ (exec (Stmt.While _ _ _ _) _) _ _ _)); (fail_if_success (with_reducible show wpAny _ _ (exec (Stmt.For _ _ _ _ _) _) _ _ _)))); (first | with_reducible (k_here; (with_reducible show wpAny _ _ (call (Value.ref _) _) _ _ _); (k_here; (refine' pop_spec ?yR ?yX ?yT ?yF ?yhN ?yNw ?yhne ?yhT ?yhH ?_); (case yF => k_asm); (case yX => k_asm); (case yT => k_asm); (case yNw => k_asm); (case yR => exact Room.less (by assumption) (by decide)); (case yhN => (first | lia | omega)); (case yhne => with_reducible assumption); (case yhT => with_reducible assumption); (case yhH => with_reducible assumption); intro _ _ _ _ _ _ _ _ _ _)) | with_reducible (k_here; (with_reducible show wpAny _ _ (call (Value.ref _) _) _ _ _); (k_here; (refine' join_spec ?yR ?yX ?yT ?yF ?yNw ?yhx ?yhy ?yhx0 ?yhys ?yhxe ?_); (case yF => k_asm); (case yX => k_asm); (case yT => k_asm); (case yNw => k_asm); (case yR => exact Room.less (by assumption) (by decide)); (case yhx => with_reducible assumption); (case yhy => with_reducible assumption); (case yhx0 => with_reducible assumption); (case yhys => with_reducible assumption); (case yhxe => with_reducible assumption); intro _ _ _ _ _)) | with_reducible (k_here; (with_reducible show wpAny _ _ (binaryOp _ (Value.ref _) (Value.ref _)) _ _ _); (refine' add_my ?yF ?yN ?ya ?yb ?yz ?_); (case yF => k_asm); (case yN => k_asm); (case ya => ((repeat (first | (with_reducible assumption) | exact List.mem_cons_self | (refine List.mem_cons_of_mem _ ?_))))); (case yb => ((repeat (first | (with_reducible assumption) | exact List.mem_cons_self | (refine List.mem_cons_of_mem _ ?_))))); (case yz => (first | lia | omega)); intro _ _ _ _ _) | with_reducible (k_here; (with_reducible show wpAny _ _ (subscriptTail _ _ (Value.ref _) (Value.int _ _)) _ _ _); (k_here; (refine' tup2 ?yN ?ym ?_ ?ys); (case yN => k_asm); (case ym => ((repeat (first | (with_reducible assumption) | exact List.mem_cons_self | (refine List.mem_cons_of_mem _ ?_))))); (case ys => with_unfolding_all rfl))) | with_reducible (k_here; (with_reducible show wpAny _ _ (subscriptTail _ _ (Value.ref _) (Value.int _ _)) _ _ _); (k_here; (refine' tup0 ?yN ?ym ?_ ?ys); (case yN => k_asm); (case ym => ((repeat (first | (with_reducible assumption) | exact List.mem_cons_self | (refine List.mem_cons_of_mem _ ?_))))); (case ys => with_unfolding_all rfl))) | with_reducible (k_here; (with_reducible show wpAny _ _ (subscriptTail _ _ (Value.ref _) (Value.ref _)) _ _ _); (k_here; (refine' slice_my ?yF ?yN ?yl ?yp ?yq ?yz ?_ ?ys ?yt); (case yF => k_asm); (case yN => k_asm); (case yl => with_reducible assumption); (case yp => kmk_part); (case yq => kmk_part); (case yz => simp only [vals_length]; (first | lia | omega)); (case ys => with_unfolding_all rfl); (case yt => kmk_pure); intro _ _ _ _ _)) | with_reducible (k_here; (with_reducible show wpAny _ _ (eval (Expr.ListComp _ _ _ _) _) _ _ _); (k_here; (refine ListComp_my (by k_asm) (by with_unfolding_all rfl) (CMade.plain (by decide) rfl) (by rfl) (by decide) ?_ (by intro _; with_unfolding_all rfl)))) | with_reducible (k_here; (with_reducible show wpAny _ _ (call (Value.builtin _) [Value.str _ _, Value.ref _]) _ _ _); (refine join_my (by k_asm) (by with_reducible assumption) (by decide) (by with_reducible assumption) ?_); intro _ _) | with_reducible (k_here; (with_reducible show wpAny _ _ (call (Value.builtin "issubclass") _) _ _ _); (k_here; (refine issub_my (by k_asm) ?_))) | with_reducible (k_here; (with_reducible show wpAny _ _ (truthy (Value.ref _)) _ _ _); (refine truthy_my (by k_asm) (by (first | lia | omega)) ?_); intro _) | with_reducible (k_here; (with_reducible show wpAny _ _ (call (Value.builtin _) [Value.ref _]) _ _ _); (refine pop_my (by k_asm) (by k_asm) (by with_reducible assumption) (by (first | lia | omega)) (by with_reducible assumption) ?_); intro _ _ _ _) | with_reducible (k_here; (with_reducible show wpAny _ _ (call (Value.builtin _) [Value.ref _, _]) _ _ _); (refine append_my (by k_asm) (by k_asm) (by with_reducible assumption) (by (first | lia | omega)) (by first | with_reducible assumption | exact rfl) ?_); intro _ _ _) | with_reducible (k_here; (with_reducible show wpAny _ _ (call (Value.builtin "len") [Value.ref _]) _ _ _); (refine len_at (by k_asm) (by with_reducible assumption) (by (first | lia | omega)) ?_); intro _ _) | with_reducible (k_here; (with_reducible show wpAny _ _ (setItem (Value.ref _) (Value.int _ _) _) _ _ _); (k_here; (first | (refine set_at (by k_asm) (by k_asm) (by with_reducible assumption) (by (first | lia | omega)) (by (first | lia | omega)) ?_) | (refine set_atZ (by k_asm) (by k_asm) (by with_reducible assumption) (by (first | lia | omega)) (by (first | lia | omega)) (by (first | lia | omega)) ?_)); intro _ _ _)) | with_reducible (k_here; (with_reducible show wpAny _ _ (binaryOp Operator.RShift _ _) _ _ _); (k_here; (refine half_at (by (first | lia | omega)) ?_); intro _ _)) | with_reducible (k_here; (with_reducible show wpAny _ _ (compareOp CmpOp.Lt _ _) _ _ _); (k_here; (refine lt_trees (Room.unitsD (by assumption)) (by k_asm) (by with_reducible assumption) (by intro q hq; exact List.mem_cons_of_mem _ hq) (by (first | lia | omega)) (by (first | lia | omega)) (by (first | lia | omega)) ?_); intro _)) | with_reducible (k_here; (with_reducible show wpAny _ _ (subscriptTail _ _ (Value.ref _) (Value.int _ _)) _ _ _); (k_here; (first | (refine get_at (by k_asm) (by (first | lia | omega)) (by with_reducible assumption) ?_ (by with_unfolding_all rfl) (by intro _; with_unfolding_all rfl)) | (refine get_atZ (by k_asm) (by (first | lia | omega)) (by (first | lia | omega)) (by with_reducible assumption) ?_ (by with_unfolding_all rfl) (by intro _; with_unfolding_all rfl))))) | with_reducible (k_here; (with_reducible show wpAny _ _ (subscriptTail _ _ (Value.ref _) (Value.int _ _)) _ _ _); (k_here; (first | (refine get_at (by k_asm) (by (first | lia | omega)) (by with_reducible assumption) ?_ (by with_unfolding_all rfl) (by intro _; with_unfolding_all rfl)) | (refine get_atZ (by k_asm) (by (first | lia | omega)) (by (first | lia | omega)) (by with_reducible assumption) ?_ (by with_unfolding_all rfl) (by intro _; with_unfolding_all rfl))))) | walk1)) | ((((fail_if_success (with_reducible show wpAny _ _ (exec (Stmt.While _ _ _ _) _) _ _ _)); (fail_if_success (with_reducible show wpAny _ _ (exec (Stmt.For _ _ _ _ _) _) _ _ _)))); dsimp only)))
  rename_i ha h1 l1 da h2 l2 D3 h3 l3 h4 h5 h6 h7 F1 N1
  rw [pick_all] at N1
  obtain ⟨l11, l12⟩ := List.forall_mem_cons.mp l1
  have N2 : News g L' h7 ((ha, W.listOf (vals f N).toArray 0) :: (da, W.listOf (vals f 0).toArray 0) :: (L' + 1, o') :: news) := News.sub N1 pm1
  clear N1
  have hlt0 : ∀ q ∈ news, q.1 ≠ ha ∧ q.1 ≠ da ∧ q.1 ≠ L' + 1 := fun q hq => by
    have z1 := l12 q hq
    exact ⟨Nat.ne_of_lt z1, Nat.ne_of_lt (Nat.lt_trans z1 l2.1), hcl q hq⟩
  have hne0 : ∀ q ∈ (da, W.listOf (vals f 0).toArray 0) :: (L' + 1, o') :: news, q.1 ≠ ha := List.forall_mem_cons.mpr ⟨Nat.ne_of_gt l2.1, List.forall_mem_cons.mpr ⟨Nat.ne_of_lt l11, fun q hq => (hlt0 q hq).1⟩⟩
  refine hy_spec (RA.less (by decide)) X' T' F1 (by (first | lia | omega)) N2 hne0 (hT.mono fun q hq => List.mem_cons_of_mem _ (List.mem_cons_of_mem _ hq)) ?_
  intro hf h8 tk8 F3 N3 hperm hT3 hH3
  (repeat' (first | (k_unfold; (try dsimp only)) | (k_end; wrow_close) | ((((fail_if_success (with_reducible show wpAny _ _ (exec (Stmt.While _ _ _ _) _) _ _ _)); (fail_if_success (with_reducible show wpAny _ _ (exec (Stmt.For _ _ _ _ _) _) _ _ _)))); (first | with_reducible (k_here; (with_reducible show wpAny _ _ (call (Value.ref _) _) _ _ _); (k_here; (refine' pop_spec ?yR ?yX ?yT ?yF ?yhN ?yNw ?yhne ?yhT ?yhH ?_); (case yF => k_asm); (case yX => k_asm); (case yT => k_asm); (case yNw => k_asm); (case yR => exact Room.less (by assumption) (by decide)); (case yhN => (first | lia | omega)); (case yhne => with_reducible assumption); (case yhT => with_reducible assumption); (case yhH => with_reducible assumption); intro _ _ _ _ _ _ _ _ _ _)) | with_reducible (k_here; (with_reducible show wpAny _ _ (call (Value.ref _) _) _ _ _); (k_here; (refine' join_spec ?yR ?yX ?yT ?yF ?yNw ?yhx ?yhy ?yhx0 ?yhys ?yhxe ?_); (case yF => k_asm); (case yX => k_asm); (case yT => k_asm); (case yNw => k_asm); (case yR => exact Room.less (by assumption) (by decide)); (case yhx => with_reducible assumption); (case yhy => with_reducible assumption); (case yhx0 => with_reducible assumption); (case yhys => with_reducible assumption); (case yhxe => with_reducible assumption); intro _ _ _ _ _)) | with_reducible (k_here; (with_reducible show wpAny _ _ (binaryOp _ (Value.ref _) (Value.ref _)) _ _ _); (refine' add_my ?yF ?yN ?ya ?yb ?yz ?_); (case yF => k_asm); (case yN => k_asm); (case ya => ((repeat (first | (with_reducible assumption) | exact List.mem_cons_self | (refine List.mem_cons_of_mem _ ?_))))); (case yb => ((repeat (first | (with_reducible assumption) | exact List.mem_cons_self | (refine List.mem_cons_of_mem _ ?_))))); (case yz => (first | lia | omega)); intro _ _ _ _ _) | with_reducible (k_here; (with_reducible show wpAny _ _ (subscriptTail _ _ (Value.ref _) (Value.int _ _)) _ _ _); (k_here; (refine' tup2 ?yN ?ym ?_ ?ys); (case yN => k_asm); (case ym => ((repeat (first | (with_reducible assumption) | exact List.mem_cons_self | (refine List.mem_cons_of_mem _ ?_))))); (case ys => with_unfolding_all rfl))) | with_reducible (k_here; (with_reducible show wpAny _ _ (subscriptTail _ _ (Value.ref _) (Value.int _ _)) _ _ _); (k_here; (refine' tup0 ?yN ?ym ?_ ?ys); (case yN => k_asm); (case ym => ((repeat (first | (with_reducible assumption) | exact List.mem_cons_self | (refine List.mem_cons_of_mem _ ?_))))); (case ys => with_unfolding_all rfl))) | with_reducible (k_here; (with_reducible show wpAny _ _ (subscriptTail _ _ (Value.ref _) (Value.ref _)) _ _ _); (k_here; (refine' slice_my ?yF ?yN ?yl ?yp ?yq ?yz ?_ ?ys ?yt); (case yF => k_asm); (case yN => k_asm); (case yl => with_reducible assumption); (case yp => kmk_part); (case yq => kmk_part); (case yz => simp only [vals_length]; (first | lia | omega)); (case ys => with_unfolding_all rfl); (case yt => kmk_pure); intro _ _ _ _ _)) | with_reducible (k_here; (with_reducible show wpAny _ _ (eval (Expr.ListComp _ _ _ _) _) _ _ _); (k_here; (refine ListComp_my (by k_asm) (by with_unfolding_all rfl) (CMade.plain (by decide) rfl) (by rfl) (by decide) ?_ (by intro _; with_unfolding_all rfl)))) | with_reducible (k_here; (with_reducible show wpAny _ _ (call (Value.builtin _) [Value.str _ _, Value.ref _]) _ _ _); (refine join_my (by k_asm) (by with_reducible assumption) (by decide) (by with_reducible assumption) ?_); intro _ _) | with_reducible (k_here; (with_reducible show wpAny _ _ (call (Value.builtin "issubclass") _) _ _ _); (k_here; (refine issub_my (by k_asm) ?_))) | with_reducible (k_here; (with_reducible show wpAny _ _ (truthy (Value.ref _)) _ _ _); (refine truthy_my (by k_asm) (by (first | lia | omega)) ?_); intro _) | with_reducible (k_here; (with_reducible show wpAny _ _ (call (Value.builtin _) [Value.ref _]) _ _ _); (refine pop_my (by k_asm) (by k_asm) (by with_reducible assumption) (by (first | lia | omega)) (by with_reducible assumption) ?_); intro _ _ _ _) | with_reducible (k_here; (with_reducible show wpAny _ _ (call (Value.builtin _) [Value.ref _, _]) _ _ _); (refine append_my (by k_asm) (by k_asm) (by with_reducible assumption) (by (first | lia | omega)) (by first | with_reducible assumption | exact rfl) ?_); intro _ _ _) | with_reducible (k_here; (with_reducible show wpAny _ _ (call (Value.builtin "len") [Value.ref _]) _ _ _); (refine len_at (by k_asm) (by with_reducible assumption) (by (first | lia | omega)) ?_); intro _ _) | with_reducible (k_here; (with_reducible show wpAny _ _ (setItem (Value.ref _) (Value.int _ _) _) _ _ _); (k_here; (first | (refine set_at (by k_asm) (by k_asm) (by with_reducible assumption) (by (first | lia | omega)) (by (first | lia | omega)) ?_) | (refine set_atZ (by k_asm) (by k_asm) (by with_reducible assumption) (by (first | lia | omega)) (by (first | lia | omega)) (by (first | lia | omega)) ?_)); intro _ _ _)) | with_reducible (k_here; (with_reducible show wpAny _ _ (binaryOp Operator.RShift _ _) _ _ _); (k_here; (refine half_at (by (first | lia | omega)) ?_); intro _ _)) | with_reducible (k_here; (with_reducible show wpAny _ _ (compareOp CmpOp.Lt _ _) _ _ _); (k_here; (refine lt_trees (Room.unitsD (by assumption)) (by k_asm) (by with_reducible assumption) (by intro q hq; exact List.mem_cons_of_mem _ hq) (by (first | lia | omega)) (by (first | lia | omega)) (by (first | lia | omega)) ?_); intro _)) | with_reducible (k_here; (with_reducible show wpAny _ _ (subscriptTail _ _ (Value.ref _) (Value.int _ _)) _ _ _); (k_here; (first | (refine get_at (by k_asm) (by (first | lia | omega)) (by with_reducible assumption) ?_ (by with_unfolding_all rfl) (by intro _; with_unfolding_all rfl)) | (refine get_atZ (by k_asm) (by (first | lia | omega)) (by (first | lia | omega)) (by with_reducible assumption) ?_ (by with_unfolding_all rfl) (by intro _; with_unfolding_all rfl))))) | with_reducible (k_here; (with_reducible show wpAny _ _ (subscriptTail _ _ (Value.ref _) (Value.int _ _)) _ _ _); (k_here; (first | (refine get_at (by k_asm) (by (first | lia | omega)) (by with_reducible assumption) ?_ (by with_unfolding_all rfl) (by intro _; with_unfolding_all rfl)) | (refine get_atZ (by k_asm) (by (first | lia | omega)) (by (first | lia | omega)) (by with_reducible assumption) ?_ (by with_unfolding_all rfl) (by intro _; with_unfolding_all rfl))))) | walk1)) | ((((fail_if_success (with_reducible show wpAny _ _ (exec (Stmt.While _ _ _ _) _) _ _ _)); (fail_if_success (with_reducible show wpAny _ _ (exec (Stmt.For _ _ _ _ _) _) _ _ _)))); dsimp only)))
  have hV1 := hV.perm _ (trs hf N) _ _ hV0 ((hperm.map (·.2)).symm |> fun z => by rw [lst_map, lst_map] at z; exact z)
  have hT4 : Trees news hf N := hT.perm hperm
  refine While_inv2 (MdJ V N ha da (L' + 1) news) (n₀ := N) F3 N3 ⟨hf, _, f, 0, 0, 0, _, _, _, news, rfl, hd0, hlt0, fun _ h => h, hT4, hH3, fun i hi => absurd hi (Nat.not_lt_zero i), hV1, by (first | lia | omega), by (first | lia | omega), by ((refine ovr_of ?_; repeat (first | exact List.forall_mem_nil _ | (refine List.forall_mem_cons.mpr ⟨by with_unfolding_all rfl, ?_⟩))))⟩ ?_
  rintro n m1 news1 h2 tk2 F4 N4 ⟨hf', ep', df, dn, dep, k, o, cv, tk0, RR, rfl, ho, hap, hsub, hTr, hHp, hDn, hVn, hk, hd, hm⟩
  rw [hm] at F4
  have hdac : da ≠ L' + 1 := Nat.ne_of_gt l2.2.1
  have hhac : ha ≠ L' + 1 := Nat.ne_of_gt l11
  have hdaha : da ≠ ha := Nat.ne_of_gt l2.1
  have hne4 : ∀ q ∈ (da, W.listOf (vals df dn).toArray dep) :: (L' + 1, o) :: RR, q.1 ≠ ha := List.forall_mem_cons.mpr ⟨hdaha, List.forall_mem_cons.mpr ⟨Ne.symm hhac, fun q hq => (hap q hq).1⟩⟩
  have hlv : (vals hf' n).length ≤ 100000 := by rw [vals_length]; (first | lia | omega)
  cases n with
  | zero =>
    (repeat' (first | (k_unfold; (try dsimp only)) | (k_end; wrow_close) | ((((fail_if_success (with_reducible show wpAny _ _ (exec (Stmt.While _ _ _ _) _) _ _ _)); (fail_if_success (with_reducible show wpAny _ _ (exec (Stmt.For _ _ _ _ _) _) _ _ _)))); (first | with_reducible (k_here; (with_reducible show wpAny _ _ (call (Value.ref _) _) _ _ _); (k_here; (refine' pop_spec ?yR ?yX ?yT ?yF ?yhN ?yNw ?yhne ?yhT ?yhH ?_); (case yF => k_asm); (case yX => k_asm); (case yT => k_asm); (case yNw => k_asm); (case yR => exact Room.less (by assumption) (by decide)); (case yhN => (first | lia | omega)); (case yhne => with_reducible assumption); (case yhT => with_reducible assumption); (case yhH => with_reducible assumption); intro _ _ _ _ _ _ _ _ _ _)) | with_reducible (k_here; (with_reducible show wpAny _ _ (call (Value.ref _) _) _ _ _); (k_here; (refine' join_spec ?yR ?yX ?yT ?yF ?yNw ?yhx ?yhy ?yhx0 ?yhys ?yhxe ?_); (case yF => k_asm); (case yX => k_asm); (case yT => k_asm); (case yNw => k_asm); (case yR => exact Room.less (by assumption) (by decide)); (case yhx => with_reducible assumption); (case yhy => with_reducible assumption); (case yhx0 => with_reducible assumption); (case yhys => with_reducible assumption); (case yhxe => with_reducible assumption); intro _ _ _ _ _)) | with_reducible (k_here; (with_reducible show wpAny _ _ (binaryOp _ (Value.ref _) (Value.ref _)) _ _ _); (refine' add_my ?yF ?yN ?ya ?yb ?yz ?_); (case yF => k_asm); (case yN => k_asm); (case ya => ((repeat (first | (with_reducible assumption) | exact List.mem_cons_self | (refine List.mem_cons_of_mem _ ?_))))); (case yb => ((repeat (first | (with_reducible assumption) | exact List.mem_cons_self | (refine List.mem_cons_of_mem _ ?_))))); (case yz => (first | lia | omega)); intro _ _ _ _ _) | with_reducible (k_here; (with_reducible show wpAny _ _ (subscriptTail _ _ (Value.ref _) (Value.int _ _)) _ _ _); (k_here; (refine' tup2 ?yN ?ym ?_ ?ys); (case yN => k_asm); (case ym => ((repeat (first | (with_reducible assumption) | exact List.mem_cons_self | (refine List.mem_cons_of_mem _ ?_))))); (case ys => with_unfolding_all rfl))) | with_reducible (k_here; (with_reducible show wpAny _ _ (subscriptTail _ _ (Value.ref _) (Value.int _ _)) _ _ _); (k_here; (refine' tup0 ?yN ?ym ?_ ?ys); (case yN => k_asm); (case ym => ((repeat (first | (with_reducible assumption) | exact List.mem_cons_self | (refine List.mem_cons_of_mem _ ?_))))); (case ys => with_unfolding_all rfl))) | with_reducible (k_here; (with_reducible show wpAny _ _ (subscriptTail _ _ (Value.ref _) (Value.ref _)) _ _ _); (k_here; (refine' slice_my ?yF ?yN ?yl ?yp ?yq ?yz ?_ ?ys ?yt); (case yF => k_asm); (case yN => k_asm); (case yl => with_reducible assumption); (case yp => kmk_part); (case yq => kmk_part); (case yz => simp only [vals_length]; (first | lia | omega)); (case ys => with_unfolding_all rfl); (case yt => kmk_pure); intro _ _ _ _ _)) | with_reducible (k_here; (with_reducible show wpAny _ _ (eval (Expr.ListComp _ _ _ _) _) _ _ _); (k_here; (refine ListComp_my (by k_asm) (by with_unfolding_all rfl) (CMade.plain (by decide) rfl) (by rfl) (by decide) ?_ (by intro _; with_unfolding_all rfl)))) | with_reducible (k_here; (with_reducible show wpAny _ _ (call (Value.builtin _) [Value.str _ _, Value.ref _]) _ _ _); (refine join_my (by k_asm) (by with_reducible assumption) (by decide) (by with_reducible assumption) ?_); intro _ _) | with_reducible (k_here; (with_reducible show wpAny _ _ (call (Value.builtin "issubclass") _) _ _ _); (k_here; (refine issub_my (by k_asm) ?_))) | with_reducible (k_here; (with_reducible show wpAny _ _ (truthy (Value.ref _)) _ _ _); (refine truthy_my (by k_asm) (by (first | lia | omega)) ?_); intro _) | with_reducible (k_here; (with_reducible show wpAny _ _ (call (Value.builtin _) [Value.ref _]) _ _ _); (refine pop_my (by k_asm) (by k_asm) (by with_reducible assumption) (by (first | lia | omega)) (by with_reducible assumption) ?_); intro _ _ _ _) | with_reducible (k_here; (with_reducible show wpAny _ _ (call (Value.builtin _) [Value.ref _, _]) _ _ _); (refine append_my (by k_asm) (by k_asm) (by with_reducible assumption) (by (first | lia | omega)) (by first | with_reducible assumption | exact rfl) ?_); intro _ _ _) | with_reducible (k_here; (with_reducible show wpAny _ _ (call (Value.builtin "len") [Value.ref _]) _ _ _); (refine len_at (by k_asm) (by with_reducible assumption) (by (first | lia | omega)) ?_); intro _ _) | with_reducible (k_here; (with_reducible show wpAny _ _ (setItem (Value.ref _) (Value.int _ _) _) _ _ _); (k_here; (first | (refine set_at (by k_asm) (by k_asm) (by with_reducible assumption) (by (first | lia | omega)) (by (first | lia | omega)) ?_) | (refine set_atZ (by k_asm) (by k_asm) (by with_reducible assumption) (by (first | lia | omega)) (by (first | lia | omega)) (by (first | lia | omega)) ?_)); intro _ _ _)) | with_reducible (k_here; (with_reducible show wpAny _ _ (binaryOp Operator.RShift _ _) _ _ _); (k_here; (refine half_at (by (first | lia | omega)) ?_); intro _ _)) | with_reducible (k_here; (with_reducible show wpAny _ _ (compareOp CmpOp.Lt _ _) _ _ _); (k_here; (refine lt_trees (Room.unitsD (by assumption)) (by k_asm) (by with_reducible assumption) (by intro q hq; exact List.mem_cons_of_mem _ hq) (by (first | lia | omega)) (by (first | lia | omega)) (by (first | lia | omega)) ?_); intro _)) | with_reducible (k_here; (with_reducible show wpAny _ _ (subscriptTail _ _ (Value.ref _) (Value.int _ _)) _ _ _); (k_here; (first | (refine get_at (by k_asm) (by (first | lia | omega)) (by with_reducible assumption) ?_ (by with_unfolding_all rfl) (by intro _; with_unfolding_all rfl)) | (refine get_atZ (by k_asm) (by (first | lia | omega)) (by (first | lia | omega)) (by with_reducible assumption) ?_ (by with_unfolding_all rfl) (by intro _; with_unfolding_all rfl))))) | with_reducible (k_here; (with_reducible show wpAny _ _ (subscriptTail _ _ (Value.ref _) (Value.int _ _)) _ _ _); (k_here; (first | (refine get_at (by k_asm) (by (first | lia | omega)) (by with_reducible assumption) ?_ (by with_unfolding_all rfl) (by intro _; with_unfolding_all rfl)) | (refine get_atZ (by k_asm) (by (first | lia | omega)) (by (first | lia | omega)) (by with_reducible assumption) ?_ (by with_unfolding_all rfl) (by intro _; with_unfolding_all rfl))))) | walk1)) | ((((fail_if_success (with_reducible show wpAny _ _ (exec (Stmt.While _ _ _ _) _) _ _ _)); (fail_if_success (with_reducible show wpAny _ _ (exec (Stmt.For _ _ _ _ _) _) _ _ _)))); dsimp only)))
    · exfalso; rename 0 < _ => h; rw [vals_length] at h; (first | lia | omega)
    · rename Fr b0 L _ _ => F5
      rename News b0 L _ _ => N5
      exact ret df dn dep k _ _ da RR _ _ F5 (News.sub N5 pm2) hsub hDn (by (first | lia | omega)) hVn
  | succ n =>
    have hTr4 : Trees ((da, W.listOf (vals df dn).toArray dep) :: (L' + 1, o) :: RR) hf' (n + 1) := hTr.mono fun q hq => List.mem_cons_of_mem _ (List.mem_cons_of_mem _ hq)
    (repeat' (first | (k_unfold; (try dsimp only)) | (k_end; wrow_close) | ((((fail_if_success (with_reducible show wpAny _ _ (exec (Stmt.While _ _ _ _) _) _ _ _)); (fail_if_success (with_reducible show wpAny _ _ (exec (Stmt.For _ _ _ _ _) _) _ _ _)))); (first | with_reducible (k_here; (with_reducible show wpAny _ _ (call (Value.ref _) _) _ _ _); (k_here; (refine' pop_spec ?yR ?yX ?yT ?yF ?yhN ?yNw ?yhne ?yhT ?yhH ?_); (case yF => k_asm); (case yX => k_asm); (case yT => k_asm); (case yNw => k_asm); (case yR => exact Room.less (by assumption) (by decide)); (case yhN => (first | lia | omega)); (case yhne => with_reducible assumption); (case yhT => with_reducible assumption); (case yhH => with_reducible assumption); intro _ _ _ _ _ _ _ _ _ _)) | with_reducible (k_here; (with_reducible show wpAny _ _ (call (Value.ref _) _) _ _ _); (k_here; (refine' join_spec ?yR ?yX ?yT ?yF ?yNw ?yhx ?yhy ?yhx0 ?yhys ?yhxe ?_); (case yF => k_asm); (case yX => k_asm); (case yT => k_asm); (case yNw => k_asm); (case yR => exact Room.less (by assumption) (by decide)); (case yhx => with_reducible assumption); (case yhy => with_reducible assumption); (case yhx0 => with_reducible assumption); (case yhys => with_reducible assumption); (case yhxe => with_reducible assumption); intro _ _ _ _ _)) | with_reducible (k_here; (with_reducible show wpAny _ _ (binaryOp _ (Value.ref _) (Value.ref _)) _ _ _); (refine' add_my ?yF ?yN ?ya ?yb ?yz ?_); (case yF => k_asm); (case yN => k_asm); (case ya => ((repeat (first | (with_reducible assumption) | exact List.mem_cons_self | (refine List.mem_cons_of_mem _ ?_))))); (case yb => ((repeat (first | (with_reducible assumption) | exact List.mem_cons_self | (refine List.mem_cons_of_mem _ ?_))))); (case yz => (first | lia | omega)); intro _ _ _ _ _) | with_reducible (k_here; (with_reducible show wpAny _ _ (subscriptTail _ _ (Value.ref _) (Value.int _ _)) _ _ _); (k_here; (refine' tup2 ?yN ?ym ?_ ?ys); (case yN => k_asm); (case ym => ((repeat (first | (with_reducible assumption) | exact List.mem_cons_self | (refine List.mem_cons_of_mem _ ?_))))); (case ys => with_unfolding_all rfl))) | with_reducible (k_here; (with_reducible show wpAny _ _ (subscriptTail _ _ (Value.ref _) (Value.int _ _)) _ _ _); (k_here; (refine' tup0 ?yN ?ym ?_ ?ys); (case yN => k_asm); (case ym => ((repeat (first | (with_reducible assumption) | exact List.mem_cons_self | (refine List.mem_cons_of_mem _ ?_))))); (case ys => with_unfolding_all rfl))) | with_reducible (k_here; (with_reducible show wpAny _ _ (subscriptTail _ _ (Value.ref _) (Value.ref _)) _ _ _); (k_here; (refine' slice_my ?yF ?yN ?yl ?yp ?yq ?yz ?_ ?ys ?yt); (case yF => k_asm); (case yN => k_asm); (case yl => with_reducible assumption); (case yp => kmk_part); (case yq => kmk_part); (case yz => simp only [vals_length]; (first | lia | omega)); (case ys => with_unfolding_all rfl); (case yt => kmk_pure); intro _ _ _ _ _)) | with_reducible (k_here; (with_reducible show wpAny _ _ (eval (Expr.ListComp _ _ _ _) _) _ _ _); (k_here; (refine ListComp_my (by k_asm) (by with_unfolding_all rfl) (CMade.plain (by decide) rfl) (by rfl) (by decide) ?_ (by intro _; with_unfolding_all rfl)))) | with_reducible (k_here; (with_reducible show wpAny _ _ (call (Value.builtin _) [Value.str _ _, Value.ref _]) _ _ _); (refine join_my (by k_asm) (by with_reducible assumption) (by decide) (by with_reducible assumption) ?_); intro _ _) | with_reducible (k_here; (with_reducible show wpAny _ _ (call (Value.builtin "issubclass") _) _ _ _); (k_here; (refine issub_my (by k_asm) ?_))) | with_reducible (k_here; (with_reducible show wpAny _ _ (truthy (Value.ref _)) _ _ _); (refine truthy_my (by k_asm) (by (first | lia | omega)) ?_); intro _) | with_reducible (k_here; (with_reducible show wpAny _ _ (call (Value.builtin _) [Value.ref _]) _ _ _); (refine pop_my (by k_asm) (by k_asm) (by with_reducible assumption) (by (first | lia | omega)) (by with_reducible assumption) ?_); intro _ _ _ _) | with_reducible (k_here; (with_reducible show wpAny _ _ (call (Value.builtin _) [Value.ref _, _]) _ _ _); (refine append_my (by k_asm) (by k_asm) (by with_reducible assumption) (by (first | lia | omega)) (by first | with_reducible assumption | exact rfl) ?_); intro _ _ _) | with_reducible (k_here; (with_reducible show wpAny _ _ (call (Value.builtin "len") [Value.ref _]) _ _ _); (refine len_at (by k_asm) (by with_reducible assumption) (by (first | lia | omega)) ?_); intro _ _) | with_reducible (k_here; (with_reducible show wpAny _ _ (setItem (Value.ref _) (Value.int _ _) _) _ _ _); (k_here; (first | (refine set_at (by k_asm) (by k_asm) (by with_reducible assumption) (by (first | lia | omega)) (by (first | lia | omega)) ?_) | (refine set_atZ (by k_asm) (by k_asm) (by with_reducible assumption) (by (first | lia | omega)) (by (first | lia | omega)) (by (first | lia | omega)) ?_)); intro _ _ _)) | with_reducible (k_here; (with_reducible show wpAny _ _ (binaryOp Operator.RShift _ _) _ _ _); (k_here; (refine half_at (by (first | lia | omega)) ?_); intro _ _)) | with_reducible (k_here; (with_reducible show wpAny _ _ (compareOp CmpOp.Lt _ _) _ _ _); (k_here; (refine lt_trees (Room.unitsD (by assumption)) (by k_asm) (by with_reducible assumption) (by intro q hq; exact List.mem_cons_of_mem _ hq) (by (first | lia | omega)) (by (first | lia | omega)) (by (first | lia | omega)) ?_); intro _)) | with_reducible (k_here; (with_reducible show wpAny _ _ (subscriptTail _ _ (Value.ref _) (Value.int _ _)) _ _ _); (k_here; (first | (refine get_at (by k_asm) (by (first | lia | omega)) (by with_reducible assumption) ?_ (by with_unfolding_all rfl) (by intro _; with_unfolding_all rfl)) | (refine get_atZ (by k_asm) (by (first | lia | omega)) (by (first | lia | omega)) (by with_reducible assumption) ?_ (by with_unfolding_all rfl) (by intro _; with_unfolding_all rfl))))) | with_reducible (k_here; (with_reducible show wpAny _ _ (subscriptTail _ _ (Value.ref _) (Value.int _ _)) _ _ _); (k_here; (first | (refine get_at (by k_asm) (by (first | lia | omega)) (by with_reducible assumption) ?_ (by with_unfolding_all rfl) (by intro _; with_unfolding_all rfl)) | (refine get_atZ (by k_asm) (by (first | lia | omega)) (by (first | lia | omega)) (by with_reducible assumption) ?_ (by with_unfolding_all rfl) (by intro _; with_unfolding_all rfl))))) | walk1)) | ((((fail_if_success (with_reducible show wpAny _ _ (exec (Stmt.While _ _ _ _) _) _ _ _)); (fail_if_success (with_reducible show wpAny _ _ (exec (Stmt.For _ _ _ _ _) _) _ _ _)))); dsimp only)))
    · rename_i h9 x f5 ep5 hp5 tk5 F5 N5 hperm5 hH5 hmin5
      obtain ⟨j, hj, ej⟩ : ∃ j, j < n + 1 ∧ hf' j = x := lst_mem.mp (hperm5.mem_iff.mp List.mem_cons_self)
      have hTx := hTr.isin j hj
      rw [ej] at hTx
      obtain ⟨xv, xt⟩ := x
      obtain ⟨a, t1, t2, la, n1, n2, its, e, hm1, hm2, hm3⟩ := hTx
      dsimp only at e hm1 hm2 hm3
      subst e
      dsimp only
      k_dflt (refine unpack_my (c := L' + 1) (news := (ha, W.listOf (vals f5 n).toArray ep5) :: (da, W.listOf (vals df dn).toArray dep) :: (L' + 1, o) :: RR) rfl F5 N5 (List.mem_cons_of_mem _ (List.mem_cons_of_mem _ (List.mem_cons_of_mem _ hm1))) rfl (.tail hhac (.tail hdac (.head fun q hq => (hap q hq).2.2))) ho rfl rfl rfl rfl ?_)
      intro h6 tk6 o6 F6 N6 ho6
      have hne6 : ∀ q ∈ (da, W.listOf (vals df dn).toArray dep) :: (L' + 1, o6) :: RR, q.1 ≠ ha := List.forall_mem_cons.mpr ⟨hdaha, List.forall_mem_cons.mpr ⟨Ne.symm hhac, fun q hq => (hap q hq).1⟩⟩
      obtain ⟨hTr5, hxt⟩ := hTr.rest hperm5
      have hT6 : Trees ((da, W.listOf (vals df dn).toArray dep) :: (L' + 1, o6) :: RR) f5 n := hTr5.mono fun q hq => List.mem_cons_of_mem _ (List.mem_cons_of_mem _ hq)
      have hlv5 : (vals f5 n).length = n := vals_length
      have hV5 : V (xt :: trs f5 n) (trs df dn) k := hV.perm _ _ _ _ hVn (by have := (hperm5.map (·.2)).symm; rw [lst_map, List.map_cons, lst_map] at this; exact this)
      cases n with
      | zero =>
        (repeat' (first | (k_unfold; (try dsimp only)) | (k_end; wrow_close) | ((((fail_if_success (with_reducible show wpAny _ _ (exec (Stmt.While _ _ _ _) _) _ _ _)); (fail_if_success (with_reducible show wpAny _ _ (exec (Stmt.For _ _ _ _ _) _) _ _ _)))); (first | with_reducible (k_here; (with_reducible show wpAny _ _ (call (Value.ref _) _) _ _ _); (k_here; (refine' pop_spec ?yR ?yX ?yT ?yF ?yhN ?yNw ?yhne ?yhT ?yhH ?_); (case yF => k_asm); (case yX => k_asm); (case yT => k_asm); (case yNw => k_asm); (case yR => exact Room.less (by assumption) (by decide)); (case yhN => (first | lia | omega)); (case yhne => with_reducible assumption); (case yhT => with_reducible assumption); (case yhH => with_reducible assumption); intro _ _ _ _ _ _ _ _ _ _)) | with_reducible (k_here; (with_reducible show wpAny _ _ (call (Value.ref _) _) _ _ _); (k_here; (refine' join_spec ?yR ?yX ?yT ?yF ?yNw ?yhx ?yhy ?yhx0 ?yhys ?yhxe ?_); (case yF => k_asm); (case yX => k_asm); (case yT => k_asm); (case yNw => k_asm); (case yR => exact Room.less (by assumption) (by decide)); (case yhx => with_reducible assumption); (case yhy => with_reducible assumption); (case yhx0 => with_reducible assumption); (case yhys => with_reducible assumption); (case yhxe => with_reducible assumption); intro _ _ _ _ _)) | with_reducible (k_here; (with_reducible show wpAny _ _ (binaryOp _ (Value.ref _) (Value.ref _)) _ _ _); (refine' add_my ?yF ?yN ?ya ?yb ?yz ?_); (case yF => k_asm); (case yN => k_asm); (case ya => ((repeat (first | (with_reducible assumption) | exact List.mem_cons_self | (refine List.mem_cons_of_mem _ ?_))))); (case yb => ((repeat (first | (with_reducible assumption) | exact List.mem_cons_self | (refine List.mem_cons_of_mem _ ?_))))); (case yz => (first | lia | omega)); intro _ _ _ _ _) | with_reducible (k_here; (with_reducible show wpAny _ _ (subscriptTail _ _ (Value.ref _) (Value.int _ _)) _ _ _); (k_here; (refine' tup2 ?yN ?ym ?_ ?ys); (case yN => k_asm); (case ym => ((repeat (first | (with_reducible assumption) | exact List.mem_cons_self | (refine List.mem_cons_of_mem _ ?_))))); (case ys => with_unfolding_all rfl))) | with_reducible (k_here; (with_reducible show wpAny _ _ (subscriptTail _ _ (Value.ref _) (Value.int _ _)) _ _ _); (k_here; (refine' tup0 ?yN ?ym ?_ ?ys); (case yN => k_asm); (case ym => ((repeat (first | (with_reducible assumption) | exact List.mem_cons_self | (refine List.mem_cons_of_mem _ ?_))))); (case ys => with_unfolding_all rfl))) | with_reducible (k_here; (with_reducible show wpAny _ _ (subscriptTail _ _ (Value.ref _) (Value.ref _)) _ _ _); (k_here; (refine' slice_my ?yF ?yN ?yl ?yp ?yq ?yz ?_ ?ys ?yt); (case yF => k_asm); (case yN => k_asm); (case yl => with_reducible assumption); (case yp => kmk_part); (case yq => kmk_part); (case yz => simp only [vals_length]; (first | lia | omega)); (case ys => with_unfolding_all rfl); (case yt => kmk_pure); intro _ _ _ _ _)) | with_reducible (k_here; (with_reducible show wpAny _ _ (eval (Expr.ListComp _ _ _ _) _) _ _ _); (k_here; (refine ListComp_my (by k_asm) (by with_unfolding_all rfl) (CMade.plain (by decide) rfl) (by rfl) (by decide) ?_ (by intro _; with_unfolding_all rfl)))) | with_reducible (k_here; (with_reducible show wpAny _ _ (call (Value.builtin _) [Value.str _ _, Value.ref _]) _ _ _); (refine join_my (by k_asm) (by with_reducible assumption) (by decide) (by with_reducible assumption) ?_); intro _ _) | with_reducible (k_here; (with_reducible show wpAny _ _ (call (Value.builtin "issubclass") _) _ _ _); (k_here; (refine issub_my (by k_asm) ?_))) | with_reducible (k_here; (with_reducible show wpAny _ _ (truthy (Value.ref _)) _ _ _); (refine truthy_my (by k_asm) (by (first | lia | omega)) ?_); intro _) | with_reducible (k_here; (with_reducible show wpAny _ _ (call (Value.builtin _) [Value.ref _]) _ _ _); (refine pop_my (by k_asm) (by k_asm) (by with_reducible assumption) (by (first | lia | omega)) (by with_reducible assumption) ?_); intro _ _ _ _) | with_reducible (k_here; (with_reducible show wpAny _ _ (call (Value.builtin _) [Value.ref _, _]) _ _ _); (refine append_my (by k_asm) (by k_asm) (by with_reducible assumption) (by (first | lia | omega)) (by first | with_reducible assumption | exact rfl) ?_); intro _ _ _) | with_reducible (k_here; (with_reducible show wpAny _ _ (call (Value.builtin "len") [Value.ref _]) _ _ _); (refine len_at (by k_asm) (by with_reducible assumption) (by (first | lia | omega)) ?_); intro _ _) | with_reducible (k_here; (with_reducible show wpAny _ _ (setItem (Value.ref _) (Value.int _ _) _) _ _ _); (k_here; (first | (refine set_at (by k_asm) (by k_asm) (by with_reducible assumption) (by (first | lia | omega)) (by (first | lia | omega)) ?_) | (refine set_atZ (by k_asm) (by k_asm) (by with_reducible assumption) (by (first | lia | omega)) (by (first | lia | omega)) (by (first | lia | omega)) ?_)); intro _ _ _)) | with_reducible (k_here; (with_reducible show wpAny _ _ (binaryOp Operator.RShift _ _) _ _ _); (k_here; (refine half_at (by (first | lia | omega)) ?_); intro _ _)) | with_reducible (k_here; (with_reducible show wpAny _ _ (compareOp CmpOp.Lt _ _) _ _ _); (k_here; (refine lt_trees (Room.unitsD (by assumption)) (by k_asm) (by with_reducible assumption) (by intro q hq; exact List.mem_cons_of_mem _ hq) (by (first | lia | omega)) (by (first | lia | omega)) (by (first | lia | omega)) ?_); intro _)) | with_reducible (k_here; (with_reducible show wpAny _ _ (subscriptTail _ _ (Value.ref _) (Value.int _ _)) _ _ _); (k_here; (first | (refine get_at (by k_asm) (by (first | lia | omega)) (by with_reducible assumption) ?_ (by with_unfolding_all rfl) (by intro _; with_unfolding_all rfl)) | (refine get_atZ (by k_asm) (by (first | lia | omega)) (by (first | lia | omega)) (by with_reducible assumption) ?_ (by with_unfolding_all rfl) (by intro _; with_unfolding_all rfl))))) | with_reducible (k_here; (with_reducible show wpAny _ _ (subscriptTail _ _ (Value.ref _) (Value.int _ _)) _ _ _); (k_here; (first | (refine get_at (by k_asm) (by (first | lia | omega)) (by with_reducible assumption) ?_ (by with_unfolding_all rfl) (by intro _; with_unfolding_all rfl)) | (refine get_atZ (by k_asm) (by (first | lia | omega)) (by (first | lia | omega)) (by with_reducible assumption) ?_ (by with_unfolding_all rfl) (by intro _; with_unfolding_all rfl))))) | walk1)) | ((((fail_if_success (with_reducible show wpAny _ _ (exec (Stmt.While _ _ _ _) _) _ _ _)); (fail_if_success (with_reducible show wpAny _ _ (exec (Stmt.For _ _ _ _ _) _) _ _ _)))); dsimp only)))
        rename_i tkq D hq Fq Nq lq
        have hDa : D ≠ ha := Nat.ne_of_gt lq.1
        have hDd : D ≠ da := Nat.ne_of_gt lq.2.1
        have hDc : D ≠ L' + 1 := Nat.ne_of_gt lq.2.2.1
        have Nd : News g L' hq ((da, W.listOf (vals df dn).toArray dep) :: (ha, W.listOf (vals f5 0).toArray ep5) :: (L' + 1, o6) :: (D, TupObj xt.r xt.t t1 t2 (.ref la) 0) :: RR) := News.sub Nq pm3
        have hapD : ∀ q ∈ (D, TupObj xt.r xt.t t1 t2 (.ref la) 0) :: RR, q.1 ≠ ha ∧ q.1 ≠ da ∧ q.1 ≠ L' + 1 := List.forall_mem_cons.mpr ⟨⟨hDa, hDd, hDc⟩, hap⟩
        refine append_my (vs' := vals (upd df dn (.ref D, xt)) (dn + 1)) Fq Nd (List.forall_mem_cons.mpr ⟨Ne.symm hdaha, List.forall_mem_cons.mpr ⟨Ne.symm hdac, fun q hq => (hapD q hq).2.1⟩⟩) (by rw [vals_length]; (first | lia | omega)) (vals_upd (x := (Value.ref D, xt))) ?_
        intro hz Fz Nz
        (repeat' (first | (k_unfold; (try dsimp only)) | (k_end; wrow_close) | ((((fail_if_success (with_reducible show wpAny _ _ (exec (Stmt.While _ _ _ _) _) _ _ _)); (fail_if_success (with_reducible show wpAny _ _ (exec (Stmt.For _ _ _ _ _) _) _ _ _)))); (first | with_reducible (k_here; (with_reducible show wpAny _ _ (call (Value.ref _) _) _ _ _); (k_here; (refine' pop_spec ?yR ?yX ?yT ?yF ?yhN ?yNw ?yhne ?yhT ?yhH ?_); (case yF => k_asm); (case yX => k_asm); (case yT => k_asm); (case yNw => k_asm); (case yR => exact Room.less (by assumption) (by decide)); (case yhN => (first | lia | omega)); (case yhne => with_reducible assumption); (case yhT => with_reducible assumption); (case yhH => with_reducible assumption); intro _ _ _ _ _ _ _ _ _ _)) | with_reducible (k_here; (with_reducible show wpAny _ _ (call (Value.ref _) _) _ _ _); (k_here; (refine' join_spec ?yR ?yX ?yT ?yF ?yNw ?yhx ?yhy ?yhx0 ?yhys ?yhxe ?_); (case yF => k_asm); (case yX => k_asm); (case yT => k_asm); (case yNw => k_asm); (case yR => exact Room.less (by assumption) (by decide)); (case yhx => with_reducible assumption); (case yhy => with_reducible assumption); (case yhx0 => with_reducible assumption); (case yhys => with_reducible assumption); (case yhxe => with_reducible assumption); intro _ _ _ _ _)) | with_reducible (k_here; (with_reducible show wpAny _ _ (binaryOp _ (Value.ref _) (Value.ref _)) _ _ _); (refine' add_my ?yF ?yN ?ya ?yb ?yz ?_); (case yF => k_asm); (case yN => k_asm); (case ya => ((repeat (first | (with_reducible assumption) | exact List.mem_cons_self | (refine List.mem_cons_of_mem _ ?_))))); (case yb => ((repeat (first | (with_reducible assumption) | exact List.mem_cons_self | (refine List.mem_cons_of_mem _ ?_))))); (case yz => (first | lia | omega)); intro _ _ _ _ _) | with_reducible (k_here; (with_reducible show wpAny _ _ (subscriptTail _ _ (Value.ref _) (Value.int _ _)) _ _ _); (k_here; (refine' tup2 ?yN ?ym ?_ ?ys); (case yN => k_asm); (case ym => ((repeat (first | (with_reducible assumption) | exact List.mem_cons_self | (refine List.mem_cons_of_mem _ ?_))))); (case ys => with_unfolding_all rfl))) | with_reducible (k_here; (with_reducible show wpAny _ _ (subscriptTail _ _ (Value.ref _) (Value.int _ _)) _ _ _); (k_here; (refine' tup0 ?yN ?ym ?_ ?ys); (case yN => k_asm); (case ym => ((repeat (first | (with_reducible assumption) | exact List.mem_cons_self | (refine List.mem_cons_of_mem _ ?_))))); (case ys => with_unfolding_all rfl))) | with_reducible (k_here; (with_reducible show wpAny _ _ (subscriptTail _ _ (Value.ref _) (Value.ref _)) _ _ _); (k_here; (refine' slice_my ?yF ?yN ?yl ?yp ?yq ?yz ?_ ?ys ?yt); (case yF => k_asm); (case yN => k_asm); (case yl => with_reducible assumption); (case yp => kmk_part); (case yq => kmk_part); (case yz => simp only [vals_length]; (first | lia | omega)); (case ys => with_unfolding_all rfl); (case yt => kmk_pure); intro _ _ _ _ _)) | with_reducible (k_here; (with_reducible show wpAny _ _ (eval (Expr.ListComp _ _ _ _) _) _ _ _); (k_here; (refine ListComp_my (by k_asm) (by with_unfolding_all rfl) (CMade.plain (by decide) rfl) (by rfl) (by decide) ?_ (by intro _; with_unfolding_all rfl)))) | with_reducible (k_here; (with_reducible show wpAny _ _ (call (Value.builtin _) [Value.str _ _, Value.ref _]) _ _ _); (refine join_my (by k_asm) (by with_reducible assumption) (by decide) (by with_reducible assumption) ?_); intro _ _) | with_reducible (k_here; (with_reducible show wpAny _ _ (call (Value.builtin "issubclass") _) _ _ _); (k_here; (refine issub_my (by k_asm) ?_))) | with_reducible (k_here; (with_reducible show wpAny _ _ (truthy (Value.ref _)) _ _ _); (refine truthy_my (by k_asm) (by (first | lia | omega)) ?_); intro _) | with_reducible (k_here; (with_reducible show wpAny _ _ (call (Value.builtin _) [Value.ref _]) _ _ _); (refine pop_my (by k_asm) (by k_asm) (by with_reducible assumption) (by (first | lia | omega)) (by with_reducible assumption) ?_); intro _ _ _ _) | with_reducible (k_here; (with_reducible show wpAny _ _ (call (Value.builtin _) [Value.ref _, _]) _ _ _); (refine append_my (by k_asm) (by k_asm) (by with_reducible assumption) (by (first | lia | omega)) (by first | with_reducible assumption | exact rfl) ?_); intro _ _ _) | with_reducible (k_here; (with_reducible show wpAny _ _ (call (Value.builtin "len") [Value.ref _]) _ _ _); (refine len_at (by k_asm) (by with_reducible assumption) (by (first | lia | omega)) ?_); intro _ _) | with_reducible (k_here; (with_reducible show wpAny _ _ (setItem (Value.ref _) (Value.int _ _) _) _ _ _); (k_here; (first | (refine set_at (by k_asm) (by k_asm) (by with_reducible assumption) (by (first | lia | omega)) (by (first | lia | omega)) ?_) | (refine set_atZ (by k_asm) (by k_asm) (by with_reducible assumption) (by (first | lia | omega)) (by (first | lia | omega)) (by (first | lia | omega)) ?_)); intro _ _ _)) | with_reducible (k_here; (with_reducible show wpAny _ _ (binaryOp Operator.RShift _ _) _ _ _); (k_here; (refine half_at (by (first | lia | omega)) ?_); intro _ _)) | with_reducible (k_here; (with_reducible show wpAny _ _ (compareOp CmpOp.Lt _ _) _ _ _); (k_here; (refine lt_trees (Room.unitsD (by assumption)) (by k_asm) (by with_reducible assumption) (by intro q hq; exact List.mem_cons_of_mem _ hq) (by (first | lia | omega)) (by (first | lia | omega)) (by (first | lia | omega)) ?_); intro _)) | with_reducible (k_here; (with_reducible show wpAny _ _ (subscriptTail _ _ (Value.ref _) (Value.int _ _)) _ _ _); (k_here; (first | (refine get_at (by k_asm) (by (first | lia | omega)) (by with_reducible assumption) ?_ (by with_unfolding_all rfl) (by intro _; with_unfolding_all rfl)) | (refine get_atZ (by k_asm) (by (first | lia | omega)) (by (first | lia | omega)) (by with_reducible assumption) ?_ (by with_unfolding_all rfl) (by intro _; with_unfolding_all rfl))))) | with_reducible (k_here; (with_reducible show wpAny _ _ (subscriptTail _ _ (Value.ref _) (Value.int _ _)) _ _ _); (k_here; (first | (refine get_at (by k_asm) (by (first | lia | omega)) (by with_reducible assumption) ?_ (by with_unfolding_all rfl) (by intro _; with_unfolding_all rfl)) | (refine get_atZ (by k_asm) (by (first | lia | omega)) (by (first | lia | omega)) (by with_reducible assumption) ?_ (by with_unfolding_all rfl) (by intro _; with_unfolding_all rfl))))) | walk1)) | ((((fail_if_success (with_reducible show wpAny _ _ (exec (Stmt.While _ _ _ _) _) _ _ _)); (fail_if_success (with_reducible show wpAny _ _ (exec (Stmt.For _ _ _ _ _) _) _ _ _)))); dsimp only)))
        skip
        have hmono : ∀ q ∈ RR, q ∈ (D, TupObj xt.r xt.t t1 t2 (.ref la) 0) :: RR := fun q hq => List.mem_cons_of_mem _ hq
        refine while_go (n' := 0) (by first | exact .inl rfl | exact .inr rfl) Fz (News.sub Nz mem_swap) (by (first | lia | omega)) ⟨f5, ep5, upd df dn (.ref D, xt), dn + 1, dep + 1, k, o6, _, _, _, rfl, ho6, hapD, fun q hq => hmono q (hsub q hq), hTr5.mono hmono, hH5, ?_, ?_, by (first | lia | omega), by (first | lia | omega), by ((refine ovr_of ?_; repeat (first | exact List.forall_mem_nil _ | (refine List.forall_mem_cons.mpr ⟨by with_unfolding_all rfl, ?_⟩))))⟩
        · intro i hi
          unfold upd
          split
          · exact ⟨D, t1, t2, la, 0, n2, its, rfl, List.mem_cons_self, hmono _ hm2, hm3⟩
          · exact (hDn i (by (first | lia | omega))).mono hmono
        · have e : trs (upd df dn (.ref D, xt)) (dn + 1) = trs df dn ++ [xt] := by
            have := congrArg (List.map (·.2)) (lst_upd (f := df) (n := dn) (x := (Value.ref D, xt)))
            rw [List.map_append, lst_map, lst_map] at this; exact this
          rw [e]
          refine hV.done _ _ _ _ hV5 (fun y hy => by simp [trs, lst] at hy)
      | succ n =>
        obtain ⟨b, u1, u2, lb, k1, k2, ots, e0, hb1, hb2, hb3⟩ := hTr5.isin 0 (by (first | lia | omega))
        have hx0 : (vals f5 (n + 1))[(0 : Int).toNat]? = some (.ref b) := by rw [← e0]; exact lst_get (by (first | lia | omega))
        (repeat' (first | (k_unfold; (try dsimp only)) | (k_end; wrow_close) | ((((fail_if_success (with_reducible show wpAny _ _ (exec (Stmt.While _ _ _ _) _) _ _ _)); (fail_if_success (with_reducible show wpAny _ _ (exec (Stmt.For _ _ _ _ _) _) _ _ _)))); (first | with_reducible (k_here; (with_reducible show wpAny _ _ (call (Value.ref _) _) _ _ _); (k_here; (refine' pop_spec ?yR ?yX ?yT ?yF ?yhN ?yNw ?yhne ?yhT ?yhH ?_); (case yF => k_asm); (case yX => k_asm); (case yT => k_asm); (case yNw => k_asm); (case yR => exact Room.less (by assumption) (by decide)); (case yhN => (first | lia | omega)); (case yhne => with_reducible assumption); (case yhT => with_reducible assumption); (case yhH => with_reducible assumption); intro _ _ _ _ _ _ _ _ _ _)) | with_reducible (k_here; (with_reducible show wpAny _ _ (call (Value.ref _) _) _ _ _); (k_here; (refine' join_spec ?yR ?yX ?yT ?yF ?yNw ?yhx ?yhy ?yhx0 ?yhys ?yhxe ?_); (case yF => k_asm); (case yX => k_asm); (case yT => k_asm); (case yNw => k_asm); (case yR => exact Room.less (by assumption) (by decide)); (case yhx => with_reducible assumption); (case yhy => with_reducible assumption); (case yhx0 => with_reducible assumption); (case yhys => with_reducible assumption); (case yhxe => with_reducible assumption); intro _ _ _ _ _)) | with_reducible (k_here; (with_reducible show wpAny _ _ (binaryOp _ (Value.ref _) (Value.ref _)) _ _ _); (refine' add_my ?yF ?yN ?ya ?yb ?yz ?_); (case yF => k_asm); (case yN => k_asm); (case ya => ((repeat (first | (with_reducible assumption) | exact List.mem_cons_self | (refine List.mem_cons_of_mem _ ?_))))); (case yb => ((repeat (first | (with_reducible assumption) | exact List.mem_cons_self | (refine List.mem_cons_of_mem _ ?_))))); (case yz => (first | lia | omega)); intro _ _ _ _ _) | with_reducible (k_here; (with_reducible show wpAny _ _ (subscriptTail _ _ (Value.ref _) (Value.int _ _)) _ _ _); (k_here; (refine' tup2 ?yN ?ym ?_ ?ys); (case yN => k_asm); (case ym => ((repeat (first | (with_reducible assumption) | exact List.mem_cons_self | (refine List.mem_cons_of_mem _ ?_))))); (case ys => with_unfolding_all rfl))) | with_reducible (k_here; (with_reducible show wpAny _ _ (subscriptTail _ _ (Value.ref _) (Value.int _ _)) _ _ _); (k_here; (refine' tup0 ?yN ?ym ?_ ?ys); (case yN => k_asm); (case ym => ((repeat (first | (with_reducible assumption) | exact List.mem_cons_self | (refine List.mem_cons_of_mem _ ?_))))); (case ys => with_unfolding_all rfl))) | with_reducible (k_here; (with_reducible show wpAny _ _ (subscriptTail _ _ (Value.ref _) (Value.ref _)) _ _ _); (k_here; (refine' slice_my ?yF ?yN ?yl ?yp ?yq ?yz ?_ ?ys ?yt); (case yF => k_asm); (case yN => k_asm); (case yl => with_reducible assumption); (case yp => kmk_part); (case yq => kmk_part); (case yz => simp only [vals_length]; (first | lia | omega)); (case ys => with_unfolding_all rfl); (case yt => kmk_pure); intro _ _ _ _ _)) | with_reducible (k_here; (with_reducible show wpAny _ _ (eval (Expr.ListComp _ _ _ _) _) _ _ _); (k_here; (refine ListComp_my (by k_asm) (by with_unfolding_all rfl) (CMade.plain (by decide) rfl) (by rfl) (by decide) ?_ (by intro _; with_unfolding_all rfl)))) | with_reducible (k_here; (with_reducible show wpAny _ _ (call (Value.builtin _) [Value.str _ _, Value.ref _]) _ _ _); (refine join_my (by k_asm) (by with_reducible assumption) (by decide) (by with_reducible assumption) ?_); intro _ _) | with_reducible (k_here; (with_reducible show wpAny _ _ (call (Value.builtin "issubclass") _) _ _ _); (k_here; (refine issub_my (by k_asm) ?_))) | with_reducible (k_here; (with_reducible show wpAny _ _ (truthy (Value.ref _)) _ _ _); (refine truthy_my (by k_asm) (by (first | lia | omega)) ?_); intro _) | with_reducible (k_here; (with_reducible show wpAny _ _ (call (Value.builtin _) [Value.ref _]) _ _ _); (refine pop_my (by k_asm) (by k_asm) (by with_reducible assumption) (by (first | lia | omega)) (by with_reducible assumption) ?_); intro _ _ _ _) | with_reducible (k_here; (with_reducible show wpAny _ _ (call (Value.builtin _) [Value.ref _, _]) _ _ _); (refine append_my (by k_asm) (by k_asm) (by with_reducible assumption) (by (first | lia | omega)) (by first | with_reducible assumption | exact rfl) ?_); intro _ _ _) | with_reducible (k_here; (with_reducible show wpAny _ _ (call (Value.builtin "len") [Value.ref _]) _ _ _); (refine len_at (by k_asm) (by with_reducible assumption) (by (first | lia | omega)) ?_); intro _ _) | with_reducible (k_here; (with_reducible show wpAny _ _ (setItem (Value.ref _) (Value.int _ _) _) _ _ _); (k_here; (first | (refine set_at (by k_asm) (by k_asm) (by with_reducible assumption) (by (first | lia | omega)) (by (first | lia | omega)) ?_) | (refine set_atZ (by k_asm) (by k_asm) (by with_reducible assumption) (by (first | lia | omega)) (by (first | lia | omega)) (by (first | lia | omega)) ?_)); intro _ _ _)) | with_reducible (k_here; (with_reducible show wpAny _ _ (binaryOp Operator.RShift _ _) _ _ _); (k_here; (refine half_at (by (first | lia | omega)) ?_); intro _ _)) | with_reducible (k_here; (with_reducible show wpAny _ _ (compareOp CmpOp.Lt _ _) _ _ _); (k_here; (refine lt_trees (Room.unitsD (by assumption)) (by k_asm) (by with_reducible assumption) (by intro q hq; exact List.mem_cons_of_mem _ hq) (by (first | lia | omega)) (by (first | lia | omega)) (by (first | lia | omega)) ?_); intro _)) | with_reducible (k_here; (with_reducible show wpAny _ _ (subscriptTail _ _ (Value.ref _) (Value.int _ _)) _ _ _); (k_here; (first | (refine get_at (by k_asm) (by (first | lia | omega)) (by with_reducible assumption) ?_ (by with_unfolding_all rfl) (by intro _; with_unfolding_all rfl)) | (refine get_atZ (by k_asm) (by (first | lia | omega)) (by (first | lia | omega)) (by with_reducible assumption) ?_ (by with_unfolding_all rfl) (by intro _; with_unfolding_all rfl))))) | with_reducible (k_here; (with_reducible show wpAny _ _ (subscriptTail _ _ (Value.ref _) (Value.int _ _)) _ _ _); (k_here; (first | (refine get_at (by k_asm) (by (first | lia | omega)) (by with_reducible assumption) ?_ (by with_unfolding_all rfl) (by intro _; with_unfolding_all rfl)) | (refine get_atZ (by k_asm) (by (first | lia | omega)) (by (first | lia | omega)) (by with_reducible assumption) ?_ (by with_unfolding_all rfl) (by intro _; with_unfolding_all rfl))))) | walk1)) | ((((fail_if_success (with_reducible show wpAny _ _ (exec (Stmt.While _ _ _ _) _) _ _ _)); (fail_if_success (with_reducible show wpAny _ _ (exec (Stmt.For _ _ _ _ _) _) _ _ _)))); dsimp only)))
        · rename_i heq y f7 ep7 h7' tk7 F7 N7 hperm7 hH7 hmin7
          obtain ⟨hTr7, hyt⟩ := hTr5.rest hperm7
          obtain ⟨j2, hj2, ej2⟩ : ∃ j, j < n + 1 ∧ f5 j = y := lst_mem.mp (hperm7.mem_iff.mp List.mem_cons_self)
          have hTy := hTr5.isin j2 hj2
          have sy := hTr5.small j2 hj2
          have ney := hxt j2 hj2
          have kxy := hmin5 j2 hj2
          rw [ej2] at hTy sy ney kxy
          have sx := hTr.small j hj
          rw [ej] at sx
          have ky0 : key y ≤ key (f5 0) := by
            have : f5 0 ∈ y :: lst f7 n := hperm7.mem_iff.mpr (lst_mem.mpr ⟨0, by (first | lia | omega), rfl⟩)
            rcases List.mem_cons.mp this with h | h
            · rw [h]; exact Int.le_refl _
            · obtain ⟨i, hi, e⟩ := lst_mem.mp h
              rw [← e]; exact hmin7 i hi
          have hry : xt.r = y.2.r := Int.le_antisymm (key_r sx sy kxy) (by have := key_r sy (hTr5.small 0 (by (first | lia | omega))) ky0; rw [heq] at this; exact this)
          have hty : xt.t < y.2.t := by
            have e : key (Value.ref a, xt) = xt.r * 2 ^ 20 + xt.t := rfl
            have e2 : key y = y.2.r * 2 ^ 20 + y.2.t := rfl
            rw [e, e2, hry] at kxy
            have : xt.t ≠ y.2.t := fun h => ney h.symm
            (first | lia | omega)
          have hV7 : V (xt :: y.2 :: trs f7 n) (trs df dn) k := hV.perm _ _ _ _ hV5 (by have := (hperm7.map (·.2)).symm; rw [lst_map, List.map_cons, lst_map] at this; exact this.cons _)
          have hok : OkTr xt := hV.ok _ _ _ hV7 _ List.mem_cons_self
          have hokY : OkTr y.2 := hV.ok _ _ _ hV7 _ (List.mem_cons_of_mem _ List.mem_cons_self)
          have hV8 := hV.meld _ _ _ _ _ hV7 hry hty
          obtain ⟨yv, yt⟩ := y
          obtain ⟨b2, v1, v2, lc, q1, q2, cts, e2, hc1, hc2, hc3⟩ := hTy
          dsimp only at e2 hc1 hc2 hc3
          subst e2
          dsimp only at hry hty hV8 hokY
          (repeat' (first | (k_unfold; (try dsimp only)) | (k_end; wrow_close) | ((((fail_if_success (with_reducible show wpAny _ _ (exec (Stmt.While _ _ _ _) _) _ _ _)); (fail_if_success (with_reducible show wpAny _ _ (exec (Stmt.For _ _ _ _ _) _) _ _ _)))); (first | with_reducible (k_here; (with_reducible show wpAny _ _ (call (Value.ref _) _) _ _ _); (k_here; (refine' pop_spec ?yR ?yX ?yT ?yF ?yhN ?yNw ?yhne ?yhT ?yhH ?_); (case yF => k_asm); (case yX => k_asm); (case yT => k_asm); (case yNw => k_asm); (case yR => exact Room.less (by assumption) (by decide)); (case yhN => (first | lia | omega)); (case yhne => with_reducible assumption); (case yhT => with_reducible assumption); (case yhH => with_reducible assumption); intro _ _ _ _ _ _ _ _ _ _)) | with_reducible (k_here; (with_reducible show wpAny _ _ (call (Value.ref _) _) _ _ _); (k_here; (refine' join_spec ?yR ?yX ?yT ?yF ?yNw ?yhx ?yhy ?yhx0 ?yhys ?yhxe ?_); (case yF => k_asm); (case yX => k_asm); (case yT => k_asm); (case yNw => k_asm); (case yR => exact Room.less (by assumption) (by decide)); (case yhx => with_reducible assumption); (case yhy => with_reducible assumption); (case yhx0 => with_reducible assumption); (case yhys => with_reducible assumption); (case yhxe => with_reducible assumption); intro _ _ _ _ _)) | with_reducible (k_here; (with_reducible show wpAny _ _ (binaryOp _ (Value.ref _) (Value.ref _)) _ _ _); (refine' add_my ?yF ?yN ?ya ?yb ?yz ?_); (case yF => k_asm); (case yN => k_asm); (case ya => ((repeat (first | (with_reducible assumption) | exact List.mem_cons_self | (refine List.mem_cons_of_mem _ ?_))))); (case yb => ((repeat (first | (with_reducible assumption) | exact List.mem_cons_self | (refine List.mem_cons_of_mem _ ?_))))); (case yz => (first | lia | omega)); intro _ _ _ _ _) | with_reducible (k_here; (with_reducible show wpAny _ _ (subscriptTail _ _ (Value.ref _) (Value.int _ _)) _ _ _); (k_here; (refine' tup2 ?yN ?ym ?_ ?ys); (case yN => k_asm); (case ym => ((repeat (first | (with_reducible assumption) | exact List.mem_cons_self | (refine List.mem_cons_of_mem _ ?_))))); (case ys => with_unfolding_all rfl))) | with_reducible (k_here; (with_reducible show wpAny _ _ (subscriptTail _ _ (Value.ref _) (Value.int _ _)) _ _ _); (k_here; (refine' tup0 ?yN ?ym ?_ ?ys); (case yN => k_asm); (case ym => ((repeat (first | (with_reducible assumption) | exact List.mem_cons_self | (refine List.mem_cons_of_mem _ ?_))))); (case ys => with_unfolding_all rfl))) | with_reducible (k_here; (with_reducible show wpAny _ _ (subscriptTail _ _ (Value.ref _) (Value.ref _)) _ _ _); (k_here; (refine' slice_my ?yF ?yN ?yl ?yp ?yq ?yz ?_ ?ys ?yt); (case yF => k_asm); (case yN => k_asm); (case yl => with_reducible assumption); (case yp => kmk_part); (case yq => kmk_part); (case yz => simp only [vals_length]; (first | lia | omega)); (case ys => with_unfolding_all rfl); (case yt => kmk_pure); intro _ _ _ _ _)) | with_reducible (k_here; (with_reducible show wpAny _ _ (eval (Expr.ListComp _ _ _ _) _) _ _ _); (k_here; (refine ListComp_my (by k_asm) (by with_unfolding_all rfl) (CMade.plain (by decide) rfl) (by rfl) (by decide) ?_ (by intro _; with_unfolding_all rfl)))) | with_reducible (k_here; (with_reducible show wpAny _ _ (call (Value.builtin _) [Value.str _ _, Value.ref _]) _ _ _); (refine join_my (by k_asm) (by with_reducible assumption) (by decide) (by with_reducible assumption) ?_); intro _ _) | with_reducible (k_here; (with_reducible show wpAny _ _ (call (Value.builtin "issubclass") _) _ _ _); (k_here; (refine issub_my (by k_asm) ?_))) | with_reducible (k_here; (with_reducible show wpAny _ _ (truthy (Value.ref _)) _ _ _); (refine truthy_my (by k_asm) (by (first | lia | omega)) ?_); intro _) | with_reducible (k_here; (with_reducible show wpAny _ _ (call (Value.builtin _) [Value.ref _]) _ _ _); (refine pop_my (by k_asm) (by k_asm) (by with_reducible assumption) (by (first | lia | omega)) (by with_reducible assumption) ?_); intro _ _ _ _) | with_reducible (k_here; (with_reducible show wpAny _ _ (call (Value.builtin _) [Value.ref _, _]) _ _ _); (refine append_my (by k_asm) (by k_asm) (by with_reducible assumption) (by (first | lia | omega)) (by first | with_reducible assumption | exact rfl) ?_); intro _ _ _) | with_reducible (k_here; (with_reducible show wpAny _ _ (call (Value.builtin "len") [Value.ref _]) _ _ _); (refine len_at (by k_asm) (by with_reducible assumption) (by (first | lia | omega)) ?_); intro _ _) | with_reducible (k_here; (with_reducible show wpAny _ _ (setItem (Value.ref _) (Value.int _ _) _) _ _ _); (k_here; (first | (refine set_at (by k_asm) (by k_asm) (by with_reducible assumption) (by (first | lia | omega)) (by (first | lia | omega)) ?_) | (refine set_atZ (by k_asm) (by k_asm) (by with_reducible assumption) (by (first | lia | omega)) (by (first | lia | omega)) (by (first | lia | omega)) ?_)); intro _ _ _)) | with_reducible (k_here; (with_reducible show wpAny _ _ (binaryOp Operator.RShift _ _) _ _ _); (k_here; (refine half_at (by (first | lia | omega)) ?_); intro _ _)) | with_reducible (k_here; (with_reducible show wpAny _ _ (compareOp CmpOp.Lt _ _) _ _ _); (k_here; (refine lt_trees (Room.unitsD (by assumption)) (by k_asm) (by with_reducible assumption) (by intro q hq; exact List.mem_cons_of_mem _ hq) (by (first | lia | omega)) (by (first | lia | omega)) (by (first | lia | omega)) ?_); intro _)) | with_reducible (k_here; (with_reducible show wpAny _ _ (subscriptTail _ _ (Value.ref _) (Value.int _ _)) _ _ _); (k_here; (first | (refine get_at (by k_asm) (by (first | lia | omega)) (by with_reducible assumption) ?_ (by with_unfolding_all rfl) (by intro _; with_unfolding_all rfl)) | (refine get_atZ (by k_asm) (by (first | lia | omega)) (by (first | lia | omega)) (by with_reducible assumption) ?_ (by with_unfolding_all rfl) (by intro _; with_unfolding_all rfl))))) | with_reducible (k_here; (with_reducible show wpAny _ _ (subscriptTail _ _ (Value.ref _) (Value.int _ _)) _ _ _); (k_here; (first | (refine get_at (by k_asm) (by (first | lia | omega)) (by with_reducible assumption) ?_ (by with_unfolding_all rfl) (by intro _; with_unfolding_all rfl)) | (refine get_atZ (by k_asm) (by (first | lia | omega)) (by (first | lia | omega)) (by with_reducible assumption) ?_ (by with_unfolding_all rfl) (by intro _; with_unfolding_all rfl))))) | walk1)) | ((((fail_if_success (with_reducible show wpAny _ _ (exec (Stmt.While _ _ _ _) _) _ _ _)); (fail_if_success (with_reducible show wpAny _ _ (exec (Stmt.For _ _ _ _ _) _) _ _ _)))); dsimp only)))
          rename_i tk8 h8 F8 N8
          have hlc : cts.length = yt.ps.length := StrsAre.len hc3
          have hfewY := hokY.few
          have hc2' : (lc, W.listOf cts.toArray q2) ∈ (ha, W.listOf (vals f7 n).toArray ep7) :: (da, W.listOf (vals df dn).toArray dep) :: (L' + 1, o6) :: RR := List.mem_cons_of_mem _ (List.mem_cons_of_mem _ (List.mem_cons_of_mem _ hc2))
          have hq0 := hok.t0
          have hq1 := hok.t1
          have i1 : (Str.ofString (toString xt.t)).length ≤ 1000 := Nat.le_trans (num_len hq0 (by (first | lia | omega))) (by decide)
          have i2 : (Str.ofString (toString xt.t)).length ≠ 0 := Nat.ne_of_gt (num_pos hq0)
          have i3 : Txt.endswith (Str.ofString (toString xt.t)) (Str.ofString "/") = false := num_ends _
          refine CSrc.list (vs := cts) (ep := q2) (fun C i ys nw => nw = (ha, W.listOf (vals f7 n).toArray ep7) :: (da, W.listOf (vals df dn).toArray dep) :: (L' + 1, o6) :: RR ∧ StrsAre ys ((yt.ps.take i).map fun p => num xt.t ++ (Str.ofString "/" ++ p))) rfl F8 N8 (by (first | lia | omega)) hc2' (fun C i ys nw hj => by rw [hj.1]; exact hc2') (fun C _ => ⟨rfl, .nil⟩) ?_ ?_
          · rintro I C D i v ys nw h tk9 oI oC m₂ hi hv st ⟨rfl, hS⟩ off dist hn F9 N9
            obtain ⟨pa, tp, hpa, rfl⟩ := StrsAre.at hc3 hv
            have hpm := List.mem_of_getElem? hpa
            have j1 : pa.length ≤ 1000 := hokY.short _ hpm
            have j2 := hokY.rel _ hpm
            refine one1 rfl (by rfl) off dist hn F9 N9 ?_
            intro h3 tk3 oC3 m3 hn3 hx1 F3' N3'
            (repeat' (first | (k_unfold; (try dsimp only)) | (k_end; wrow_close) | ((((fail_if_success (with_reducible show wpAny _ _ (exec (Stmt.While _ _ _ _) _) _ _ _)); (fail_if_success (with_reducible show wpAny _ _ (exec (Stmt.For _ _ _ _ _) _) _ _ _)))); (first | with_reducible (k_here; (with_reducible show wpAny _ _ (call (Value.ref _) _) _ _ _); (k_here; (refine' pop_spec ?yR ?yX ?yT ?yF ?yhN ?yNw ?yhne ?yhT ?yhH ?_); (case yF => k_asm); (case yX => k_asm); (case yT => k_asm); (case yNw => k_asm); (case yR => exact Room.less (by assumption) (by decide)); (case yhN => (first | lia | omega)); (case yhne => with_reducible assumption); (case yhT => with_reducible assumption); (case yhH => with_reducible assumption); intro _ _ _ _ _ _ _ _ _ _)) | with_reducible (k_here; (with_reducible show wpAny _ _ (call (Value.ref _) _) _ _ _); (k_here; (refine' join_spec ?yR ?yX ?yT ?yF ?yNw ?yhx ?yhy ?yhx0 ?yhys ?yhxe ?_); (case yF => k_asm); (case yX => k_asm); (case yT => k_asm); (case yNw => k_asm); (case yR => exact Room.less (by assumption) (by decide)); (case yhx => with_reducible assumption); (case yhy => with_reducible assumption); (case yhx0 => with_reducible assumption); (case yhys => with_reducible assumption); (case yhxe => with_reducible assumption); intro _ _ _ _ _)) | with_reducible (k_here; (with_reducible show wpAny _ _ (binaryOp _ (Value.ref _) (Value.ref _)) _ _ _); (refine' add_my ?yF ?yN ?ya ?yb ?yz ?_); (case yF => k_asm); (case yN => k_asm); (case ya => ((repeat (first | (with_reducible assumption) | exact List.mem_cons_self | (refine List.mem_cons_of_mem _ ?_))))); (case yb => ((repeat (first | (with_reducible assumption) | exact List.mem_cons_self | (refine List.mem_cons_of_mem _ ?_))))); (case yz => (first | lia | omega)); intro _ _ _ _ _) | with_reducible (k_here; (with_reducible show wpAny _ _ (subscriptTail _ _ (Value.ref _) (Value.int _ _)) _ _ _); (k_here; (refine' tup2 ?yN ?ym ?_ ?ys); (case yN => k_asm); (case ym => ((repeat (first | (with_reducible assumption) | exact List.mem_cons_self | (refine List.mem_cons_of_mem _ ?_))))); (case ys => with_unfolding_all rfl))) | with_reducible (k_here; (with_reducible show wpAny _ _ (subscriptTail _ _ (Value.ref _) (Value.int _ _)) _ _ _); (k_here; (refine' tup0 ?yN ?ym ?_ ?ys); (case yN => k_asm); (case ym => ((repeat (first | (with_reducible assumption) | exact List.mem_cons_self | (refine List.mem_cons_of_mem _ ?_))))); (case ys => with_unfolding_all rfl))) | with_reducible (k_here; (with_reducible show wpAny _ _ (subscriptTail _ _ (Value.ref _) (Value.ref _)) _ _ _); (k_here; (refine' slice_my ?yF ?yN ?yl ?yp ?yq ?yz ?_ ?ys ?yt); (case yF => k_asm); (case yN => k_asm); (case yl => with_reducible assumption); (case yp => kmk_part); (case yq => kmk_part); (case yz => simp only [vals_length]; (first | lia | omega)); (case ys => with_unfolding_all rfl); (case yt => kmk_pure); intro _ _ _ _ _)) | with_reducible (k_here; (with_reducible show wpAny _ _ (eval (Expr.ListComp _ _ _ _) _) _ _ _); (k_here; (refine ListComp_my (by k_asm) (by with_unfolding_all rfl) (CMade.plain (by decide) rfl) (by rfl) (by decide) ?_ (by intro _; with_unfolding_all rfl)))) | with_reducible (k_here; (with_reducible show wpAny _ _ (call (Value.builtin _) [Value.str _ _, Value.ref _]) _ _ _); (refine join_my (by k_asm) (by with_reducible assumption) (by decide) (by with_reducible assumption) ?_); intro _ _) | with_reducible (k_here; (with_reducible show wpAny _ _ (call (Value.builtin "issubclass") _) _ _ _); (k_here; (refine issub_my (by k_asm) ?_))) | with_reducible (k_here; (with_reducible show wpAny _ _ (truthy (Value.ref _)) _ _ _); (refine truthy_my (by k_asm) (by (first | lia | omega)) ?_); intro _) | with_reducible (k_here; (with_reducible show wpAny _ _ (call (Value.builtin _) [Value.ref _]) _ _ _); (refine pop_my (by k_asm) (by k_asm) (by with_reducible assumption) (by (first | lia | omega)) (by with_reducible assumption) ?_); intro _ _ _ _) | with_reducible (k_here; (with_reducible show wpAny _ _ (call (Value.builtin _) [Value.ref _, _]) _ _ _); (refine append_my (by k_asm) (by k_asm) (by with_reducible assumption) (by (first | lia | omega)) (by first | with_reducible assumption | exact rfl) ?_); intro _ _ _) | with_reducible (k_here; (with_reducible show wpAny _ _ (call (Value.builtin "len") [Value.ref _]) _ _ _); (refine len_at (by k_asm) (by with_reducible assumption) (by (first | lia | omega)) ?_); intro _ _) | with_reducible (k_here; (with_reducible show wpAny _ _ (setItem (Value.ref _) (Value.int _ _) _) _ _ _); (k_here; (first | (refine set_at (by k_asm) (by k_asm) (by with_reducible assumption) (by (first | lia | omega)) (by (first | lia | omega)) ?_) | (refine set_atZ (by k_asm) (by k_asm) (by with_reducible assumption) (by (first | lia | omega)) (by (first | lia | omega)) (by (first | lia | omega)) ?_)); intro _ _ _)) | with_reducible (k_here; (with_reducible show wpAny _ _ (binaryOp Operator.RShift _ _) _ _ _); (k_here; (refine half_at (by (first | lia | omega)) ?_); intro _ _)) | with_reducible (k_here; (with_reducible show wpAny _ _ (compareOp CmpOp.Lt _ _) _ _ _); (k_here; (refine lt_trees (Room.unitsD (by assumption)) (by k_asm) (by with_reducible assumption) (by intro q hq; exact List.mem_cons_of_mem _ hq) (by (first | lia | omega)) (by (first | lia | omega)) (by (first | lia | omega)) ?_); intro _)) | with_reducible (k_here; (with_reducible show wpAny _ _ (subscriptTail _ _ (Value.ref _) (Value.int _ _)) _ _ _); (k_here; (first | (refine get_at (by k_asm) (by (first | lia | omega)) (by with_reducible assumption) ?_ (by with_unfolding_all rfl) (by intro _; with_unfolding_all rfl)) | (refine get_atZ (by k_asm) (by (first | lia | omega)) (by (first | lia | omega)) (by with_reducible assumption) ?_ (by with_unfolding_all rfl) (by intro _; with_unfolding_all rfl))))) | with_reducible (k_here; (with_reducible show wpAny _ _ (subscriptTail _ _ (Value.ref _) (Value.int _ _)) _ _ _); (k_here; (first | (refine get_at (by k_asm) (by (first | lia | omega)) (by with_reducible assumption) ?_ (by with_unfolding_all rfl) (by intro _; with_unfolding_all rfl)) | (refine get_atZ (by k_asm) (by (first | lia | omega)) (by (first | lia | omega)) (by with_reducible assumption) ?_ (by with_unfolding_all rfl) (by intro _; with_unfolding_all rfl))))) | walk1)) | ((((fail_if_success (with_reducible show wpAny _ _ (exec (Stmt.While _ _ _ _) _) _ _ _)); (fail_if_success (with_reducible show wpAny _ _ (exec (Stmt.For _ _ _ _ _) _) _ _ _)))); dsimp only)))
            rename Fr _ L' _ _ => Fa
            rename News _ L' _ _ => Na
            refine CEnd.intro hn3 Fa Na off ⟨rfl, ?_⟩
            rw [List.take_succ, hpa, List.map_append]
            exact StrsAre.snoc hS _ _
          · rintro h9 C ys nw ⟨rfl, hS⟩ D h tk9 F9 N9 hD
            rw [show LCg.lst ys = W.listOf (List.toArray ys) ys.length from rfl] at N9
            rw [hlc, List.take_of_length_le (Nat.le_refl _)] at hS
            have l7 : ys.length ≤ 1000 := by rw [StrsAre.len hS, List.length_map]; exact hfewY
            have l8 : its.length ≤ 1000 := by rw [StrsAre.len hm3]; exact hok.few
            (repeat' (first | (k_unfold; (try dsimp only)) | (k_end; wrow_close) | ((((fail_if_success (with_reducible show wpAny _ _ (exec (Stmt.While _ _ _ _) _) _ _ _)); (fail_if_success (with_reducible show wpAny _ _ (exec (Stmt.For _ _ _ _ _) _) _ _ _)))); (first | with_reducible (k_here; (with_reducible show wpAny _ _ (call (Value.ref _) _) _ _ _); (k_here; (refine' pop_spec ?yR ?yX ?yT ?yF ?yhN ?yNw ?yhne ?yhT ?yhH ?_); (case yF => k_asm); (case yX => k_asm); (case yT => k_asm); (case yNw => k_asm); (case yR => exact Room.less (by assumption) (by decide)); (case yhN => (first | lia | omega)); (case yhne => with_reducible assumption); (case yhT => with_reducible assumption); (case yhH => with_reducible assumption); intro _ _ _ _ _ _ _ _ _ _)) | with_reducible (k_here; (with_reducible show wpAny _ _ (call (Value.ref _) _) _ _ _); (k_here; (refine' join_spec ?yR ?yX ?yT ?yF ?yNw ?yhx ?yhy ?yhx0 ?yhys ?yhxe ?_); (case yF => k_asm); (case yX => k_asm); (case yT => k_asm); (case yNw => k_asm); (case yR => exact Room.less (by assumption) (by decide)); (case yhx => with_reducible assumption); (case yhy => with_reducible assumption); (case yhx0 => with_reducible assumption); (case yhys => with_reducible assumption); (case yhxe => with_reducible assumption); intro _ _ _ _ _)) | with_reducible (k_here; (with_reducible show wpAny _ _ (binaryOp _ (Value.ref _) (Value.ref _)) _ _ _); (refine' add_my ?yF ?yN ?ya ?yb ?yz ?_); (case yF => k_asm); (case yN => k_asm); (case ya => ((repeat (first | (with_reducible assumption) | exact List.mem_cons_self | (refine List.mem_cons_of_mem _ ?_))))); (case yb => ((repeat (first | (with_reducible assumption) | exact List.mem_cons_self | (refine List.mem_cons_of_mem _ ?_))))); (case yz => (first | lia | omega)); intro _ _ _ _ _) | with_reducible (k_here; (with_reducible show wpAny _ _ (subscriptTail _ _ (Value.ref _) (Value.int _ _)) _ _ _); (k_here; (refine' tup2 ?yN ?ym ?_ ?ys); (case yN => k_asm); (case ym => ((repeat (first | (with_reducible assumption) | exact List.mem_cons_self | (refine List.mem_cons_of_mem _ ?_))))); (case ys => with_unfolding_all rfl))) | with_reducible (k_here; (with_reducible show wpAny _ _ (subscriptTail _ _ (Value.ref _) (Value.int _ _)) _ _ _); (k_here; (refine' tup0 ?yN ?ym ?_ ?ys); (case yN => k_asm); (case ym => ((repeat (first | (with_reducible assumption) | exact List.mem_cons_self | (refine List.mem_cons_of_mem _ ?_))))); (case ys => with_unfolding_all rfl))) | with_reducible (k_here; (with_reducible show wpAny _ _ (subscriptTail _ _ (Value.ref _) (Value.ref _)) _ _ _); (k_here; (refine' slice_my ?yF ?yN ?yl ?yp ?yq ?yz ?_ ?ys ?yt); (case yF => k_asm); (case yN => k_asm); (case yl => with_reducible assumption); (case yp => kmk_part); (case yq => kmk_part); (case yz => simp only [vals_length]; (first | lia | omega)); (case ys => with_unfolding_all rfl); (case yt => kmk_pure); intro _ _ _ _ _)) | with_reducible (k_here; (with_reducible show wpAny _ _ (eval (Expr.ListComp _ _ _ _) _) _ _ _); (k_here; (refine ListComp_my (by k_asm) (by with_unfolding_all rfl) (CMade.plain (by decide) rfl) (by rfl) (by decide) ?_ (by intro _; with_unfolding_all rfl)))) | with_reducible (k_here; (with_reducible show wpAny _ _ (call (Value.builtin _) [Value.str _ _, Value.ref _]) _ _ _); (refine join_my (by k_asm) (by with_reducible assumption) (by decide) (by with_reducible assumption) ?_); intro _ _) | with_reducible (k_here; (with_reducible show wpAny _ _ (call (Value.builtin "issubclass") _) _ _ _); (k_here; (refine issub_my (by k_asm) ?_))) | with_reducible (k_here; (with_reducible show wpAny _ _ (truthy (Value.ref _)) _ _ _); (refine truthy_my (by k_asm) (by (first | lia | omega)) ?_); intro _) | with_reducible (k_here; (with_reducible show wpAny _ _ (call (Value.builtin _) [Value.ref _]) _ _ _); (refine pop_my (by k_asm) (by k_asm) (by with_reducible assumption) (by (first | lia | omega)) (by with_reducible assumption) ?_); intro _ _ _ _) | with_reducible (k_here; (with_reducible show wpAny _ _ (call (Value.builtin _) [Value.ref _, _]) _ _ _); (refine append_my (by k_asm) (by k_asm) (by with_reducible assumption) (by (first | lia | omega)) (by first | with_reducible assumption | exact rfl) ?_); intro _ _ _) | with_reducible (k_here; (with_reducible show wpAny _ _ (call (Value.builtin "len") [Value.ref _]) _ _ _); (refine len_at (by k_asm) (by with_reducible assumption) (by (first | lia | omega)) ?_); intro _ _) | with_reducible (k_here; (with_reducible show wpAny _ _ (setItem (Value.ref _) (Value.int _ _) _) _ _ _); (k_here; (first | (refine set_at (by k_asm) (by k_asm) (by with_reducible assumption) (by (first | lia | omega)) (by (first | lia | omega)) ?_) | (refine set_atZ (by k_asm) (by k_asm) (by with_reducible assumption) (by (first | lia | omega)) (by (first | lia | omega)) (by (first | lia | omega)) ?_)); intro _ _ _)) | with_reducible (k_here; (with_reducible show wpAny _ _ (binaryOp Operator.RShift _ _) _ _ _); (k_here; (refine half_at (by (first | lia | omega)) ?_); intro _ _)) | with_reducible (k_here; (with_reducible show wpAny _ _ (compareOp CmpOp.Lt _ _) _ _ _); (k_here; (refine lt_trees (Room.unitsD (by assumption)) (by k_asm) (by with_reducible assumption) (by intro q hq; exact List.mem_cons_of_mem _ hq) (by (first | lia | omega)) (by (first | lia | omega)) (by (first | lia | omega)) ?_); intro _)) | with_reducible (k_here; (with_reducible show wpAny _ _ (subscriptTail _ _ (Value.ref _) (Value.int _ _)) _ _ _); (k_here; (first | (refine get_at (by k_asm) (by (first | lia | omega)) (by with_reducible assumption) ?_ (by with_unfolding_all rfl) (by intro _; with_unfolding_all rfl)) | (refine get_atZ (by k_asm) (by (first | lia | omega)) (by (first | lia | omega)) (by with_reducible assumption) ?_ (by with_unfolding_all rfl) (by intro _; with_unfolding_all rfl))))) | with_reducible (k_here; (with_reducible show wpAny _ _ (subscriptTail _ _ (Value.ref _) (Value.int _ _)) _ _ _); (k_here; (first | (refine get_at (by k_asm) (by (first | lia | omega)) (by with_reducible assumption) ?_ (by with_unfolding_all rfl) (by intro _; with_unfolding_all rfl)) | (refine get_atZ (by k_asm) (by (first | lia | omega)) (by (first | lia | omega)) (by with_reducible assumption) ?_ (by with_unfolding_all rfl) (by intro _; with_unfolding_all rfl))))) | walk1)) | ((((fail_if_success (with_reducible show wpAny _ _ (exec (Stmt.While _ _ _ _) _) _ _ _)); (fail_if_success (with_reducible show wpAny _ _ (exec (Stmt.For _ _ _ _ _) _) _ _ _)))); dsimp only)))
            rename_i Ds hs ls Dt hT9 Ft Nt lt9
            have Np : News g L' hT9 ((ha, W.listOf (vals f7 n).toArray ep7) :: (da, W.listOf (vals df dn).toArray dep) :: (L' + 1, o6) :: (Dt, TupObj (xt.r + 1) xt.t _ t2 (.ref Ds) 0) :: (Ds, W.listOf (List.toArray (its ++ ys)) 0) :: RR) := News.sub Nt pm4
            clear Nt
            have lsa := List.forall_mem_cons.mp (List.forall_mem_cons.mp ls).2
            have lsb := List.forall_mem_cons.mp lsa.2
            have lsc := List.forall_mem_cons.mp lsb.2
            have hapT : ∀ tz, ∀ q ∈ (Dt, TupObj (xt.r + 1) xt.t tz t2 (.ref Ds) 0) :: (Ds, W.listOf (List.toArray (its ++ ys)) 0) :: RR, q.1 ≠ ha ∧ q.1 ≠ da ∧ q.1 ≠ L' + 1 :=
              fun tz => List.forall_mem_cons.mpr ⟨⟨Nat.ne_of_gt lt9.2.2.1, Nat.ne_of_gt lt9.2.2.2.1, Nat.ne_of_gt lt9.2.2.2.2.1⟩, List.forall_mem_cons.mpr ⟨⟨Nat.ne_of_gt lsa.1, Nat.ne_of_gt lsb.1, Nat.ne_of_gt lsc.1⟩, hap⟩⟩
            have hok8 := hV.ok _ _ _ hV8 _ List.mem_cons_self
            have hna := hV.apart _ _ _ hV8
            rw [List.map_cons, List.nodup_cons] at hna
            have hneT : ∀ i, i < n → (f7 i).2.t ≠ (merge xt yt).t := fun i hi e => hna.1 (List.mem_map.mpr ⟨(f7 i).2, lst_mem.mpr ⟨i, hi, rfl⟩, e⟩)
            have hmonoT : ∀ tz, ∀ q ∈ RR, q ∈ (Dt, TupObj (xt.r + 1) xt.t tz t2 (.ref Ds) 0) :: (Ds, W.listOf (List.toArray (its ++ ys)) 0) :: RR := fun tz q hq => List.mem_cons_of_mem _ (List.mem_cons_of_mem _ hq)
            have hTin : ∀ tz, TreeIn ((Dt, TupObj (xt.r + 1) xt.t tz t2 (.ref Ds) 0) :: (Ds, W.listOf (List.toArray (its ++ ys)) 0) :: RR) (.ref Dt) (merge xt yt) := fun tz =>
              ⟨Dt, tz, t2, Ds, 0, 0, its ++ ys, rfl, List.mem_cons_self, List.mem_cons_of_mem _ List.mem_cons_self, StrsAre.app hm3 hS⟩
            have hTup : ∀ tz, Trees ((Dt, TupObj (xt.r + 1) xt.t tz t2 (.ref Ds) 0) :: (Ds, W.listOf (List.toArray (its ++ ys)) 0) :: RR) (upd f7 n (.ref Dt, merge xt yt)) (n + 1) := fun tz =>
              (hTr7.mono (hmonoT tz)).upd (x := (.ref Dt, merge xt yt)) (hTin tz) ⟨hok8.r0, hok8.r1, hok8.t0, hok8.t1⟩ hneT
            refine push_spec (x := (.ref Dt, merge xt yt)) (RA.less (by decide)) X' T' Ft (by (first | lia | omega)) Np
              (List.forall_mem_cons.mpr ⟨hdaha, List.forall_mem_cons.mpr ⟨Ne.symm hhac, fun q hq => (hapT _ q hq).1⟩⟩) ((hTup _).mono fun q hq => List.mem_cons_of_mem _ (List.mem_cons_of_mem _ hq)) hH7 ?_
            intro f8 ep8 h10 tk10 F10 N10 hperm10 hH10
            (repeat' (first | (k_unfold; (try dsimp only)) | (k_end; wrow_close) | ((((fail_if_success (with_reducible show wpAny _ _ (exec (Stmt.While _ _ _ _) _) _ _ _)); (fail_if_success (with_reducible show wpAny _ _ (exec (Stmt.For _ _ _ _ _) _) _ _ _)))); (first | with_reducible (k_here; (with_reducible show wpAny _ _ (call (Value.ref _) _) _ _ _); (k_here; (refine' pop_spec ?yR ?yX ?yT ?yF ?yhN ?yNw ?yhne ?yhT ?yhH ?_); (case yF => k_asm); (case yX => k_asm); (case yT => k_asm); (case yNw => k_asm); (case yR => exact Room.less (by assumption) (by decide)); (case yhN => (first | lia | omega)); (case yhne => with_reducible assumption); (case yhT => with_reducible assumption); (case yhH => with_reducible assumption); intro _ _ _ _ _ _ _ _ _ _)) | with_reducible (k_here; (with_reducible show wpAny _ _ (call (Value.ref _) _) _ _ _); (k_here; (refine' join_spec ?yR ?yX ?yT ?yF ?yNw ?yhx ?yhy ?yhx0 ?yhys ?yhxe ?_); (case yF => k_asm); (case yX => k_asm); (case yT => k_asm); (case yNw => k_asm); (case yR => exact Room.less (by assumption) (by decide)); (case yhx => with_reducible assumption); (case yhy => with_reducible assumption); (case yhx0 => with_reducible assumption); (case yhys => with_reducible assumption); (case yhxe => with_reducible assumption); intro _ _ _ _ _)) | with_reducible (k_here; (with_reducible show wpAny _ _ (binaryOp _ (Value.ref _) (Value.ref _)) _ _ _); (refine' add_my ?yF ?yN ?ya ?yb ?yz ?_); (case yF => k_asm); (case yN => k_asm); (case ya => ((repeat (first | (with_reducible assumption) | exact List.mem_cons_self | (refine List.mem_cons_of_mem _ ?_))))); (case yb => ((repeat (first | (with_reducible assumption) | exact List.mem_cons_self | (refine List.mem_cons_of_mem _ ?_))))); (case yz => (first | lia | omega)); intro _ _ _ _ _) | with_reducible (k_here; (with_reducible show wpAny _ _ (subscriptTail _ _ (Value.ref _) (Value.int _ _)) _ _ _); (k_here; (refine' tup2 ?yN ?ym ?_ ?ys); (case yN => k_asm); (case ym => ((repeat (first | (with_reducible assumption) | exact List.mem_cons_self | (refine List.mem_cons_of_mem _ ?_))))); (case ys => with_unfolding_all rfl))) | with_reducible (k_here; (with_reducible show wpAny _ _ (subscriptTail _ _ (Value.ref _) (Value.int _ _)) _ _ _); (k_here; (refine' tup0 ?yN ?ym ?_ ?ys); (case yN => k_asm); (case ym => ((repeat (first | (with_reducible assumption) | exact List.mem_cons_self | (refine List.mem_cons_of_mem _ ?_))))); (case ys => with_unfolding_all rfl))) | with_reducible (k_here; (with_reducible show wpAny _ _ (subscriptTail _ _ (Value.ref _) (Value.ref _)) _ _ _); (k_here; (refine' slice_my ?yF ?yN ?yl ?yp ?yq ?yz ?_ ?ys ?yt); (case yF => k_asm); (case yN => k_asm); (case yl => with_reducible assumption); (case yp => kmk_part); (case yq => kmk_part); (case yz => simp only [vals_length]; (first | lia | omega)); (case ys => with_unfolding_all rfl); (case yt => kmk_pure); intro _ _ _ _ _)) | with_reducible (k_here; (with_reducible show wpAny _ _ (eval (Expr.ListComp _ _ _ _) _) _ _ _); (k_here; (refine ListComp_my (by k_asm) (by with_unfolding_all rfl) (CMade.plain (by decide) rfl) (by rfl) (by decide) ?_ (by intro _; with_unfolding_all rfl)))) | with_reducible (k_here; (with_reducible show wpAny _ _ (call (Value.builtin _) [Value.str _ _, Value.ref _]) _ _ _); (refine join_my (by k_asm) (by with_reducible assumption) (by decide) (by with_reducible assumption) ?_); intro _ _) | with_reducible (k_here; (with_reducible show wpAny _ _ (call (Value.builtin "issubclass") _) _ _ _); (k_here; (refine issub_my (by k_asm) ?_))) | with_reducible (k_here; (with_reducible show wpAny _ _ (truthy (Value.ref _)) _ _ _); (refine truthy_my (by k_asm) (by (first | lia | omega)) ?_); intro _) | with_reducible (k_here; (with_reducible show wpAny _ _ (call (Value.builtin _) [Value.ref _]) _ _ _); (refine pop_my (by k_asm) (by k_asm) (by with_reducible assumption) (by (first | lia | omega)) (by with_reducible assumption) ?_); intro _ _ _ _) | with_reducible (k_here; (with_reducible show wpAny _ _ (call (Value.builtin _) [Value.ref _, _]) _ _ _); (refine append_my (by k_asm) (by k_asm) (by with_reducible assumption) (by (first | lia | omega)) (by first | with_reducible assumption | exact rfl) ?_); intro _ _ _) | with_reducible (k_here; (with_reducible show wpAny _ _ (call (Value.builtin "len") [Value.ref _]) _ _ _); (refine len_at (by k_asm) (by with_reducible assumption) (by (first | lia | omega)) ?_); intro _ _) | with_reducible (k_here; (with_reducible show wpAny _ _ (setItem (Value.ref _) (Value.int _ _) _) _ _ _); (k_here; (first | (refine set_at (by k_asm) (by k_asm) (by with_reducible assumption) (by (first | lia | omega)) (by (first | lia | omega)) ?_) | (refine set_atZ (by k_asm) (by k_asm) (by with_reducible assumption) (by (first | lia | omega)) (by (first | lia | omega)) (by (first | lia | omega)) ?_)); intro _ _ _)) | with_reducible (k_here; (with_reducible show wpAny _ _ (binaryOp Operator.RShift _ _) _ _ _); (k_here; (refine half_at (by (first | lia | omega)) ?_); intro _ _)) | with_reducible (k_here; (with_reducible show wpAny _ _ (compareOp CmpOp.Lt _ _) _ _ _); (k_here; (refine lt_trees (Room.unitsD (by assumption)) (by k_asm) (by with_reducible assumption) (by intro q hq; exact List.mem_cons_of_mem _ hq) (by (first | lia | omega)) (by (first | lia | omega)) (by (first | lia | omega)) ?_); intro _)) | with_reducible (k_here; (with_reducible show wpAny _ _ (subscriptTail _ _ (Value.ref _) (Value.int _ _)) _ _ _); (k_here; (first | (refine get_at (by k_asm) (by (first | lia | omega)) (by with_reducible assumption) ?_ (by with_unfolding_all rfl) (by intro _; with_unfolding_all rfl)) | (refine get_atZ (by k_asm) (by (first | lia | omega)) (by (first | lia | omega)) (by with_reducible assumption) ?_ (by with_unfolding_all rfl) (by intro _; with_unfolding_all rfl))))) | with_reducible (k_here; (with_reducible show wpAny _ _ (subscriptTail _ _ (Value.ref _) (Value.int _ _)) _ _ _); (k_here; (first | (refine get_at (by k_asm) (by (first | lia | omega)) (by with_reducible assumption) ?_ (by with_unfolding_all rfl) (by intro _; with_unfolding_all rfl)) | (refine get_atZ (by k_asm) (by (first | lia | omega)) (by (first | lia | omega)) (by with_reducible assumption) ?_ (by with_unfolding_all rfl) (by intro _; with_unfolding_all rfl))))) | walk1)) | ((((fail_if_success (with_reducible show wpAny _ _ (exec (Stmt.While _ _ _ _) _) _ _ _)); (fail_if_success (with_reducible show wpAny _ _ (exec (Stmt.For _ _ _ _ _) _) _ _ _)))); dsimp only)))
            skip
            rename Fr _ L' _ _ => F11
            rename News _ L' _ _ => N11
            refine while_go (n' := n + 1) (by first | exact .inl rfl | exact .inr rfl) F11 N11 (by (first | lia | omega)) ⟨f8, ep8, df, dn, dep, k + 1, o6, _, _, _, rfl, ho6, hapT _, fun q hq => hmonoT _ q (hsub q hq), (hTup _).perm (lst_upd ▸ hperm10), hH10, fun i hi => (hDn i hi).mono (hmonoT _), ?_, by (first | lia | omega), by (first | lia | omega), by ((refine ovr_of ?_; repeat (first | exact List.forall_mem_nil _ | (refine List.forall_mem_cons.mpr ⟨by with_unfolding_all rfl, ?_⟩))))⟩
            refine hV.perm _ _ _ _ hV8 ?_
            have := (hperm10.map (·.2)).symm
            rw [List.map_append, lst_map, lst_map] at this
            exact (List.perm_append_comm (l₁ := [merge xt yt])).trans this
        · rename_i tkq D hq Fq Nq lq
          have hDa : D ≠ ha := Nat.ne_of_gt lq.1
          have hDd : D ≠ da := Nat.ne_of_gt lq.2.1
          have hDc : D ≠ L' + 1 := Nat.ne_of_gt lq.2.2.1
          have Nd : News g L' hq ((da, W.listOf (vals df dn).toArray dep) :: (ha, W.listOf (vals f5 (n + 1)).toArray ep5) :: (L' + 1, o6) :: (D, TupObj xt.r xt.t t1 t2 (.ref la) 0) :: RR) := News.sub Nq pm3
          have hapD : ∀ q ∈ (D, TupObj xt.r xt.t t1 t2 (.ref la) 0) :: RR, q.1 ≠ ha ∧ q.1 ≠ da ∧ q.1 ≠ L' + 1 := List.forall_mem_cons.mpr ⟨⟨hDa, hDd, hDc⟩, hap⟩
          refine append_my (vs' := vals (upd df dn (.ref D, xt)) (dn + 1)) Fq Nd (List.forall_mem_cons.mpr ⟨Ne.symm hdaha, List.forall_mem_cons.mpr ⟨Ne.symm hdac, fun q hq => (hapD q hq).2.1⟩⟩) (by rw [vals_length]; (first | lia | omega)) (vals_upd (x := (Value.ref D, xt))) ?_
          intro hz Fz Nz
          (repeat' (first | (k_unfold; (try dsimp only)) | (k_end; wrow_close) | ((((fail_if_success (with_reducible show wpAny _ _ (exec (Stmt.While _ _ _ _) _) _ _ _)); (fail_if_success (with_reducible show wpAny _ _ (exec (Stmt.For _ _ _ _ _) _) _ _ _)))); (first | with_reducible (k_here; (with_reducible show wpAny _ _ (call (Value.ref _) _) _ _ _); (k_here; (refine' pop_spec ?yR ?yX ?yT ?yF ?yhN ?yNw ?yhne ?yhT ?yhH ?_); (case yF => k_asm); (case yX => k_asm); (case yT => k_asm); (case yNw => k_asm); (case yR => exact Room.less (by assumption) (by decide)); (case yhN => (first | lia | omega)); (case yhne => with_reducible assumption); (case yhT => with_reducible assumption); (case yhH => with_reducible assumption); intro _ _ _ _ _ _ _ _ _ _)) | with_reducible (k_here; (with_reducible show wpAny _ _ (call (Value.ref _) _) _ _ _); (k_here; (refine' join_spec ?yR ?yX ?yT ?yF ?yNw ?yhx ?yhy ?yhx0 ?yhys ?yhxe ?_); (case yF => k_asm); (case yX => k_asm); (case yT => k_asm); (case yNw => k_asm); (case yR => exact Room.less (by assumption) (by decide)); (case yhx => with_reducible assumption); (case yhy => with_reducible assumption); (case yhx0 => with_reducible assumption); (case yhys => with_reducible assumption); (case yhxe => with_reducible assumption); intro _ _ _ _ _)) | with_reducible (k_here; (with_reducible show wpAny _ _ (binaryOp _ (Value.ref _) (Value.ref _)) _ _ _); (refine' add_my ?yF ?yN ?ya ?yb ?yz ?_); (case yF => k_asm); (case yN => k_asm); (case ya => ((repeat (first | (with_reducible assumption) | exact List.mem_cons_self | (refine List.mem_cons_of_mem _ ?_))))); (case yb => ((repeat (first | (with_reducible assumption) | exact List.mem_cons_self | (refine List.mem_cons_of_mem _ ?_))))); (case yz => (first | lia | omega)); intro _ _ _ _ _) | with_reducible (k_here; (with_reducible show wpAny _ _ (subscriptTail _ _ (Value.ref _) (Value.int _ _)) _ _ _); (k_here; (refine' tup2 ?yN ?ym ?_ ?ys); (case yN => k_asm); (case ym => ((repeat (first | (with_reducible assumption) | exact List.mem_cons_self | (refine List.mem_cons_of_mem _ ?_))))); (case ys => with_unfolding_all rfl))) | with_reducible (k_here; (with_reducible show wpAny _ _ (subscriptTail _ _ (Value.ref _) (Value.int _ _)) _ _ _); (k_here; (refine' tup0 ?yN ?ym ?_ ?ys); (case yN => k_asm); (case ym => ((repeat (first | (with_reducible assumption) | exact List.mem_cons_self | (refine List.mem_cons_of_mem _ ?_))))); (case ys => with_unfolding_all rfl))) | with_reducible (k_here; (with_reducible show wpAny _ _ (subscriptTail _ _ (Value.ref _) (Value.ref _)) _ _ _); (k_here; (refine' slice_my ?yF ?yN ?yl ?yp ?yq ?yz ?_ ?ys ?yt); (case yF => k_asm); (case yN => k_asm); (case yl => with_reducible assumption); (case yp => kmk_part); (case yq => kmk_part); (case yz => simp only [vals_length]; (first | lia | omega)); (case ys => with_unfolding_all rfl); (case yt => kmk_pure); intro _ _ _ _ _)) | with_reducible (k_here; (with_reducible show wpAny _ _ (eval (Expr.ListComp _ _ _ _) _) _ _ _); (k_here; (refine ListComp_my (by k_asm) (by with_unfolding_all rfl) (CMade.plain (by decide) rfl) (by rfl) (by decide) ?_ (by intro _; with_unfolding_all rfl)))) | with_reducible (k_here; (with_reducible show wpAny _ _ (call (Value.builtin _) [Value.str _ _, Value.ref _]) _ _ _); (refine join_my (by k_asm) (by with_reducible assumption) (by decide) (by with_reducible assumption) ?_); intro _ _) | with_reducible (k_here; (with_reducible show wpAny _ _ (call (Value.builtin "issubclass") _) _ _ _); (k_here; (refine issub_my (by k_asm) ?_))) | with_reducible (k_here; (with_reducible show wpAny _ _ (truthy (Value.ref _)) _ _ _); (refine truthy_my (by k_asm) (by (first | lia | omega)) ?_); intro _) | with_reducible (k_here; (with_reducible show wpAny _ _ (call (Value.builtin _) [Value.ref _]) _ _ _); (refine pop_my (by k_asm) (by k_asm) (by with_reducible assumption) (by (first | lia | omega)) (by with_reducible assumption) ?_); intro _ _ _ _) | with_reducible (k_here; (with_reducible show wpAny _ _ (call (Value.builtin _) [Value.ref _, _]) _ _ _); (refine append_my (by k_asm) (by k_asm) (by with_reducible assumption) (by (first | lia | omega)) (by first | with_reducible assumption | exact rfl) ?_); intro _ _ _) | with_reducible (k_here; (with_reducible show wpAny _ _ (call (Value.builtin "len") [Value.ref _]) _ _ _); (refine len_at (by k_asm) (by with_reducible assumption) (by (first | lia | omega)) ?_); intro _ _) | with_reducible (k_here; (with_reducible show wpAny _ _ (setItem (Value.ref _) (Value.int _ _) _) _ _ _); (k_here; (first | (refine set_at (by k_asm) (by k_asm) (by with_reducible assumption) (by (first | lia | omega)) (by (first | lia | omega)) ?_) | (refine set_atZ (by k_asm) (by k_asm) (by with_reducible assumption) (by (first | lia | omega)) (by (first | lia | omega)) (by (first | lia | omega)) ?_)); intro _ _ _)) | with_reducible (k_here; (with_reducible show wpAny _ _ (binaryOp Operator.RShift _ _) _ _ _); (k_here; (refine half_at (by (first | lia | omega)) ?_); intro _ _)) | with_reducible (k_here; (with_reducible show wpAny _ _ (compareOp CmpOp.Lt _ _) _ _ _); (k_here; (refine lt_trees (Room.unitsD (by assumption)) (by k_asm) (by with_reducible assumption) (by intro q hq; exact List.mem_cons_of_mem _ hq) (by (first | lia | omega)) (by (first | lia | omega)) (by (first | lia | omega)) ?_); intro _)) | with_reducible (k_here; (with_reducible show wpAny _ _ (subscriptTail _ _ (Value.ref _) (Value.int _ _)) _ _ _); (k_here; (first | (refine get_at (by k_asm) (by (first | lia | omega)) (by with_reducible assumption) ?_ (by with_unfolding_all rfl) (by intro _; with_unfolding_all rfl)) | (refine get_atZ (by k_asm) (by (first | lia | omega)) (by (first | lia | omega)) (by with_reducible assumption) ?_ (by with_unfolding_all rfl) (by intro _; with_unfolding_all rfl))))) | with_reducible (k_here; (with_reducible show wpAny _ _ (subscriptTail _ _ (Value.ref _) (Value.int _ _)) _ _ _); (k_here; (first | (refine get_at (by k_asm) (by (first | lia | omega)) (by with_reducible assumption) ?_ (by with_unfolding_all rfl) (by intro _; with_unfolding_all rfl)) | (refine get_atZ (by k_asm) (by (first | lia | omega)) (by (first | lia | omega)) (by with_reducible assumption) ?_ (by with_unfolding_all rfl) (by intro _; with_unfolding_all rfl))))) | walk1)) | ((((fail_if_success (with_reducible show wpAny _ _ (exec (Stmt.While _ _ _ _) _) _ _ _)); (fail_if_success (with_reducible show wpAny _ _ (exec (Stmt.For _ _ _ _ _) _) _ _ _)))); dsimp only)))
          skip
          have hmono : ∀ q ∈ RR, q ∈ (D, TupObj xt.r xt.t t1 t2 (.ref la) 0) :: RR := fun q hq => List.mem_cons_of_mem _ hq
          refine while_go (n' := (n + 1)) (by first | exact .inl rfl | exact .inr rfl) Fz (News.sub Nz mem_swap) (by (first | lia | omega)) ⟨f5, ep5, upd df dn (.ref D, xt), dn + 1, dep + 1, k, o6, _, _, _, rfl, ho6, hapD, fun q hq => hmono q (hsub q hq), hTr5.mono hmono, hH5, ?_, ?_, by (first | lia | omega), by (first | lia | omega), by ((refine ovr_of ?_; repeat (first | exact List.forall_mem_nil _ | (refine List.forall_mem_cons.mpr ⟨by with_unfolding_all rfl, ?_⟩))))⟩
          · intro i hi
            unfold upd
            split
            · exact ⟨D, t1, t2, la, 0, n2, its, rfl, List.mem_cons_self, hmono _ hm2, hm3⟩
            · exact (hDn i (by (first | lia | omega))).mono hmono
          · have e : trs (upd df dn (.ref D, xt)) (dn + 1) = trs df dn ++ [xt] := by
              have := congrArg (List.map (·.2)) (lst_upd (f := df) (n := dn) (x := (Value.ref D, xt)))
              rw [List.map_append, lst_map, lst_map] at this; exact this
            rw [e]
            refine hV.done _ _ _ _ hV5 (fun y hy => ?_)
            obtain ⟨i, hi, e⟩ := lst_mem.mp hy
            subst e
            rename _ ≠ xt.r => hne9
            have k1 := key_r (hTr.small j hj) (hTr5.small 0 (by (first | lia | omega))) (by rw [ej]; exact hmin5 0 (by (first | lia | omega)))
            have k2 := key_r (hTr5.small 0 (by (first | lia | omega))) (hTr5.small i hi) (heap_min hH5 i hi)
            rw [ej] at k1
            dsimp only at k1 k2
            (first | lia | omega)
    · exfalso; rename ¬ 0 < _ => h; rw [vals_length] at h; (first | lia | omega)
end
end
theorem off_SC : True := by
  w_top off
  trivial
section
noncomputable def pas : Nat → List Int
  | 0 => [1]
  | n + 1 => List.zipWith (· + ·) (0 :: pas n) (pas n ++ [0])
theorem int_num_my {prog : Program} {w : World} {A : Around} {E : Value → Shared → Prop} {s : Shared} {Q : Value → Shared → Prop} {t : Tok} {x : Str} {n : Int} (e : x = num n) (h0 : 0 ≤ n) (h1 : n < 10 ^ 10) (h : Q (.int n s.toks) { s with toks := s.toks + 1 }) :
    wpAny (model prog w) A (call (.type "int") [.str x t]) Q E s := by
  subst e
  exact KIN.call_num h0 h1 h
inductive IntAt (ns : List Int) (i : Nat) (v : Value) : Prop
  | mk (n : Int) (t : Tok) (z1 : ns[i]? = some n) (z2 : v = .int n t) : IntAt ns i v
inductive StrAt (ps : List Str) (i : Nat) (v : Value) : Prop
  | mk (n : Str) (t : Tok) (z1 : ps[i]? = some n) (z2 : v = .str n t) : StrAt ps i v
theorem strs_at {vs : List Value} {ps : List Str} (h : PyProof.Rows.StrsAre vs ps) {i : Nat} {v : Value} (hv : vs[i]? = some v) : StrAt ps i v := by
  obtain ⟨n, t, z1, z2⟩ := StrsAre.at h hv
  exact ⟨n, t, z1, z2⟩
theorem ints_at0 {vs : List Value} {ns : List Int} (h : IntsAre vs ns) {i : Nat} {v : Value} (hv : vs[i]? = some v) : ∃ n t, ns[i]? = some n ∧ v = .int n t := by
  induction h generalizing i with
  | nil => simp at hv
  | cons y u _ ih =>
    cases i with
    | zero => exact ⟨y, u, by simp, by simpa using hv.symm⟩
    | succ i => simpa using ih (by simpa using hv)
theorem ints_at {vs : List Value} {ns : List Int} (h : IntsAre vs ns) {i : Nat} {v : Value} (hv : vs[i]? = some v) : IntAt ns i v := by
  obtain ⟨n, t, z1, z2⟩ := ints_at0 h hv
  exact ⟨n, t, z1, z2⟩
inductive GrJ (L' : Addr) (o' : Obj) (news : List (Addr × Obj)) (r : Nat) (t : Int) (tr tt : Tok) (i : Nat) (m : Str → Option Value) (nw : List (Addr × Obj)) : Prop
  | mk (rl : Addr) (vs : List Value) (ep : Nat) (z1 : nw = (rl, W.listOf (List.toArray vs) ep) :: (L' + 1, o') :: news) (z2 : IntsAre vs (pas i)) (z3 : i ≤ r)
    (z4 : m = ovr [(Str.ofString "row", .ref rl), (Str.ofString "rank", .int (r : Nat) tr), (Str.ofString "top", .int t tt)] m) : GrJ L' o' news r t tr tt i m nw
inductive GrK (rs : List (Addr × Obj)) (cs : List Int) (C : Addr) (i : Nat) (ys : List Value) (nw : List (Addr × Obj)) : Prop
  | mk (o : Obj) (v0 : Option Value) (z1 : nw = (C + 1, o) :: rs) (z2 : o.data = .cell v0) (z3 : ∀ p ∈ rs, p.1 ≠ C + 1) (z4 : IntsAre ys (cs.take i)) : GrK rs cs C i ys nw
inductive UpIs (ps : List Str) (p : Str) : Prop
  | mk (z1 : pDir p ∈ ps) (a b : Int) (z2 : 0 ≤ a) (z3 : a < b) (z4 : b < 10 ^ 9) (z5 : pBase (pDir p) = num a) (z6 : pBase p = num b) : UpIs ps p
theorem up_of {ps : List Str} {p : Str} {q : Prop} (h : q ∨ (pDir p ∈ ps ∧ ∃ a b : Int, 0 ≤ a ∧ a < b ∧ b < 10 ^ 9 ∧ pBase (pDir p) = num a ∧ pBase p = num b)) : q ∨ UpIs ps p := by
  rcases h with h | ⟨h1, a, b, h2, h3, h4, h5, h6⟩
  · exact .inl h
  · exact .inr ⟨h1, a, b, h2, h3, h4, h5, h6⟩
theorem ints_len {vs : List Value} {ns : List Int} (h : IntsAre vs ns) : vs.length = ns.length := by
  induction h with
  | nil => rfl
  | cons y u _ ih => simp [ih]
theorem ints_snoc {vs : List Value} {ns : List Int} (h : IntsAre vs ns) (n : Int) (t : Tok) : IntsAre (vs ++ [.int n t]) (ns ++ [n]) := by
  induction h with
  | nil => exact .cons _ _ .nil
  | cons y u _ ih => exact .cons y u ih
theorem pas_len (n : Nat) : (pas n).length = n + 1 := by
  induction n with
  | zero => rfl
  | succ n ih => simp [pas, ih]
section
local macro_rules | `(tactic| k_all) => `(tactic| assumption)
set_option maxHeartbeats 4000000 in
theorem grown_spec {w : World} {A : Around} {s : Shared} {b0 : Heap} {L : Addr} {m mg mb : Str → Option Value} {mean : ExcName → Option Value} {p : Program} {loose : List Str} {news : List (Addr × Obj)}
  (R : Room A 10) (X : (Mine.heapK w.params).In b0) (T : Top p loose mean mg mb b0) (F : Fr b0 L s.heap m)
  (Nw : News b0 L s.heap news) {r : Nat} {t : Int} {tr tt : Tok} {la : Addr} {its : List Value} {ep : Nat} {ps : List Str} (hr : r ≤ 20) (ht0 : 0 ≤ t) (ht1 : t < 2 ^ 20) (hm : (la, W.listOf its.toArray ep) ∈ news) (hps : StrsAre its ps) (hfew : ps.length ≤ 1000)
  (hcnt : ((List.range (r + 1)).map fun d => ((ps.filter fun p => Txt.count p (Str.ofString "/") == ((d : Nat) : Int)).length : Int)) = pas r)
  (hpath : ∀ p ∈ ps, p.length ≤ 1000 ∧ (p = num t ∨ (pDir p ∈ ps ∧ ∃ a b : Int, 0 ≤ a ∧ a < b ∧ b < 10 ^ 9 ∧ pBase (pDir p) = num a ∧ pBase p = num b))) {Q E : Value → Shared → Prop}
  (ret : ∀ h' tk', Fr b0 L h' m → News b0 L h' news → Q (.bool true) { s with heap := h', toks := tk' }) :
  wpAny (model PySem.Challenge.rw_ik0182_01.row.prog w) A (call (.ref 201) [.int (r : Nat) tr, .int t tt, .ref la]) Q E s := by
  obtain ⟨hh, dp, fr, gd, un⟩ := A
  have RR := R
  obtain ⟨hd', hdp, hun⟩ := R
  cases hd'
  revert X; k_fill; intro X
  refine wpAny_call ?_
  k_dflt (refine' enterC (binds := [(Str.ofString "rank", .int (r : Nat) tr), (Str.ofString "top", .int t tt), (Str.ofString "paths", .ref la)]) ?F ?X ?N ?T ?ho ?hcd ?room ?bind ?knd ?nd ?_ ?c1 ?c2 ?c3)
  case F => k_asm
  case X => k_asm
  case N => k_asm
  case T => k_asm
  case ho => k_is
  case hcd => k_is
  case room => (try dsimp only at *); (first | lia | omega)
  case bind => exact BindsTo.of_eq rfl
  case knd => exact rfl
  case nd => decide
  case c1 => exact rfl
  case c2 => exact rfl
  case c3 => exact rfl
  intro g L' h₁ tk cells FG F' N' hcells X' T' lt'
  obtain ⟨o', hE', hd0⟩ := CellsAre.one hcells
  subst hE'
  simp only [List.cons_append, List.nil_append] at N'
  have hcl : ∀ p ∈ news, p.1 ≠ L' + 1 := fun p hp => Nat.ne_of_lt (Nat.lt_succ_of_lt (lt' p hp))
  have hdv : o'.data = .cell (some (.ref la)) := hd0
  try dsimp only
  try k_fold
  refine let_env (B := execs _) RR ?_
  intro tk0 env A1 RA
  (repeat' (first | (k_unfold; (try dsimp only)) | (k_end; wrow_close) | ((((fail_if_success (with_reducible show wpAny _ _ (exec (Stmt.While _ _ _ _) _) _ _ _)); (fail_if_success (with_reducible show wpAny _ _ (exec (Stmt.For _ _ _ _ _) _) _ _ _)))); (first | with_reducible (k_here; (with_reducible show wpAny _ _ (call (Value.type "zip") _) _ _ _); (k_here; (refine zip_my (by k_asm) (by k_asm) (by ((repeat (first | (with_reducible assumption) | exact List.mem_cons_self | (refine List.mem_cons_of_mem _ ?_))))) (by ((repeat (first | (with_reducible assumption) | exact List.mem_cons_self | (refine List.mem_cons_of_mem _ ?_))))) ?_); intro _ _ _ _ _)) | with_reducible (k_here; (with_reducible show wpAny _ _ (eval (Expr.ListComp _ _ _ _) _) _ _ _); (k_here; (refine ListComp_my (by k_asm) (by with_unfolding_all rfl) (CMade.plain (by decide) rfl) (by rfl) (by decide) ?_ (by intro _; with_unfolding_all rfl)))) | with_reducible (k_here; (with_reducible show wpAny _ _ (exec (Stmt.Assign _ (Expr.ListComp _ _ _ _) _) _) _ _ _); (k_here; (refine Assign_ListComp_z (by k_asm) (by rfl) (by with_unfolding_all rfl) (by with_unfolding_all rfl) (by decide) (by rfl) (by decide) (by rfl) (by rfl) (by decide) (by rfl) (by rfl) ?_ (by intro _; with_unfolding_all rfl)))) | with_reducible (k_here; (with_reducible show wpAny _ _ (call (Value.type "int") _) _ _ _); (k_here; (refine' int_num_my ?ye ?ya ?yb ?_); (case ye => with_reducible assumption); (case ya => (first | lia | omega)); (case yb => (first | lia | omega)))) | with_reducible (k_here; (with_reducible show wpAny _ _ (compareOp CmpOp.NotIn _ _) _ _ _); (k_here; (refine' notin_my ?yN ?ym ?ys ?_); (case yN => k_asm); (case ym => ((repeat (first | (with_reducible assumption) | exact List.mem_cons_self | (refine List.mem_cons_of_mem _ ?_))))); (case ys => with_reducible assumption))) | with_reducible (k_here; (with_reducible show wpAny _ _ (call (Value.ref _) _) _ _ _); (k_here; (refine' base_spec ?yR ?yX ?yT ?yF ?yNw ?yhx ?_); (case yF => k_asm); (case yX => k_asm); (case yT => k_asm); (case yNw => k_asm); (case yR => exact Room.less (by assumption) (by decide)); (case yhx => with_reducible assumption); intro _ _ _ _ _)) | with_reducible (k_here; (with_reducible show wpAny _ _ (call (Value.ref _) _) _ _ _); (k_here; (refine' dir_spec ?yR ?yX ?yT ?yF ?yNw ?yhx ?_); (case yF => k_asm); (case yX => k_asm); (case yT => k_asm); (case yNw => k_asm); (case yR => exact Room.less (by assumption) (by decide)); (case yhx => with_reducible assumption); intro _ _ _ _ _)) | with_reducible (k_here; (with_reducible show wpAny _ _ (binaryOp _ (Value.ref _) (Value.ref _)) _ _ _); (refine' add_my ?yF ?yN ?ya ?yb ?yz ?_); (case yF => k_asm); (case yN => k_asm); (case ya => ((repeat (first | (with_reducible assumption) | exact List.mem_cons_self | (refine List.mem_cons_of_mem _ ?_))))); (case yb => ((repeat (first | (with_reducible assumption) | exact List.mem_cons_self | (refine List.mem_cons_of_mem _ ?_))))); (case yz => (try simp only [List.length_cons, List.length_nil]); (first | lia | omega)); intro _ _ _ _ _) | with_reducible (k_here; (with_reducible show wpAny _ _ (call (Value.builtin _) [Value.ref _, _]) _ _ _); (refine append_my (by k_asm) (by k_asm) (by with_reducible assumption) (by (first | lia | omega)) (by first | with_reducible assumption | exact rfl) ?_); intro _ _ _) | with_reducible (k_here; (with_reducible show wpAny _ _ (call (Value.builtin "len") [Value.ref _]) _ _ _); (refine len_at (by k_asm) (by with_reducible assumption) (by (first | lia | omega)) ?_); intro _ _) | walk1)) | ((((fail_if_success (with_reducible show wpAny _ _ (exec (Stmt.While _ _ _ _) _) _ _ _)); (fail_if_success (with_reducible show wpAny _ _ (exec (Stmt.For _ _ _ _ _) _) _ _ _)))); dsimp only)))
  ((refine For_myF (by k_asm) (by with_unfolding_all rfl) (by with_unfolding_all rfl) ?_ (by intro _; with_unfolding_all rfl) PassesOwn.never))
  (repeat' (first | (k_unfold; (try dsimp only)) | (k_end; wrow_close) | ((((fail_if_success (with_reducible show wpAny _ _ (exec (Stmt.While _ _ _ _) _) _ _ _)); (fail_if_success (with_reducible show wpAny _ _ (exec (Stmt.For _ _ _ _ _) _) _ _ _)))); (first | with_reducible (k_here; (with_reducible show wpAny _ _ (call (Value.type "zip") _) _ _ _); (k_here; (refine zip_my (by k_asm) (by k_asm) (by ((repeat (first | (with_reducible assumption) | exact List.mem_cons_self | (refine List.mem_cons_of_mem _ ?_))))) (by ((repeat (first | (with_reducible assumption) | exact List.mem_cons_self | (refine List.mem_cons_of_mem _ ?_))))) ?_); intro _ _ _ _ _)) | with_reducible (k_here; (with_reducible show wpAny _ _ (eval (Expr.ListComp _ _ _ _) _) _ _ _); (k_here; (refine ListComp_my (by k_asm) (by with_unfolding_all rfl) (CMade.plain (by decide) rfl) (by rfl) (by decide) ?_ (by intro _; with_unfolding_all rfl)))) | with_reducible (k_here; (with_reducible show wpAny _ _ (exec (Stmt.Assign _ (Expr.ListComp _ _ _ _) _) _) _ _ _); (k_here; (refine Assign_ListComp_z (by k_asm) (by rfl) (by with_unfolding_all rfl) (by with_unfolding_all rfl) (by decide) (by rfl) (by decide) (by rfl) (by rfl) (by decide) (by rfl) (by rfl) ?_ (by intro _; with_unfolding_all rfl)))) | with_reducible (k_here; (with_reducible show wpAny _ _ (call (Value.type "int") _) _ _ _); (k_here; (refine' int_num_my ?ye ?ya ?yb ?_); (case ye => with_reducible assumption); (case ya => (first | lia | omega)); (case yb => (first | lia | omega)))) | with_reducible (k_here; (with_reducible show wpAny _ _ (compareOp CmpOp.NotIn _ _) _ _ _); (k_here; (refine' notin_my ?yN ?ym ?ys ?_); (case yN => k_asm); (case ym => ((repeat (first | (with_reducible assumption) | exact List.mem_cons_self | (refine List.mem_cons_of_mem _ ?_))))); (case ys => with_reducible assumption))) | with_reducible (k_here; (with_reducible show wpAny _ _ (call (Value.ref _) _) _ _ _); (k_here; (refine' base_spec ?yR ?yX ?yT ?yF ?yNw ?yhx ?_); (case yF => k_asm); (case yX => k_asm); (case yT => k_asm); (case yNw => k_asm); (case yR => exact Room.less (by assumption) (by decide)); (case yhx => with_reducible assumption); intro _ _ _ _ _)) | with_reducible (k_here; (with_reducible show wpAny _ _ (call (Value.ref _) _) _ _ _); (k_here; (refine' dir_spec ?yR ?yX ?yT ?yF ?yNw ?yhx ?_); (case yF => k_asm); (case yX => k_asm); (case yT => k_asm); (case yNw => k_asm); (case yR => exact Room.less (by assumption) (by decide)); (case yhx => with_reducible assumption); intro _ _ _ _ _)) | with_reducible (k_here; (with_reducible show wpAny _ _ (binaryOp _ (Value.ref _) (Value.ref _)) _ _ _); (refine' add_my ?yF ?yN ?ya ?yb ?yz ?_); (case yF => k_asm); (case yN => k_asm); (case ya => ((repeat (first | (with_reducible assumption) | exact List.mem_cons_self | (refine List.mem_cons_of_mem _ ?_))))); (case yb => ((repeat (first | (with_reducible assumption) | exact List.mem_cons_self | (refine List.mem_cons_of_mem _ ?_))))); (case yz => (try simp only [List.length_cons, List.length_nil]); (first | lia | omega)); intro _ _ _ _ _) | with_reducible (k_here; (with_reducible show wpAny _ _ (call (Value.builtin _) [Value.ref _, _]) _ _ _); (refine append_my (by k_asm) (by k_asm) (by with_reducible assumption) (by (first | lia | omega)) (by first | with_reducible assumption | exact rfl) ?_); intro _ _ _) | with_reducible (k_here; (with_reducible show wpAny _ _ (call (Value.builtin "len") [Value.ref _]) _ _ _); (refine len_at (by k_asm) (by with_reducible assumption) (by (first | lia | omega)) ?_); intro _ _) | walk1)) | ((((fail_if_success (with_reducible show wpAny _ _ (exec (Stmt.While _ _ _ _) _) _ _ _)); (fail_if_success (with_reducible show wpAny _ _ (exec (Stmt.For _ _ _ _ _) _) _ _ _)))); dsimp only)))
  rename IsRange _ _ _ _ _ _ _ _ => hrg
  rename Fr _ _ _ _ => F1
  rename News _ _ _ _ => N1
  refine LoopMy.range (n := r) (GrJ L' o' news r t tr tt) rfl hrg (range_small (by (first | lia | omega))) rangeSize_nat F1 N1 ⟨_, [.int 1 _], _, rfl, .cons _ _ .nil, Nat.zero_le _, by ((refine ovr_of ?_; repeat (first | exact List.forall_mem_nil _ | (refine List.forall_mem_cons.mpr ⟨by with_unfolding_all rfl, ?_⟩))))⟩ ?_ ?_
  · rintro I i t' m₁ news₁ h tk oI hi ⟨rl, vs, ep1, rfl, hI, hir, hmm⟩ off F2 N2
    rw [hmm] at F2
    have hlen : vs.length ≤ 1000 := by rw [ints_len hI, pas_len]; (first | lia | omega)
    (repeat' (first | (k_unfold; (try dsimp only)) | (k_end; wrow_close) | ((((fail_if_success (with_reducible show wpAny _ _ (exec (Stmt.Assign _ (Expr.ListComp _ _ _ _) _) _) _ _ _)); (fail_if_success (with_reducible show wpAny _ _ (eval (Expr.ListComp _ _ _ _) _) _ _ _)))); (((fail_if_success (with_reducible show wpAny _ _ (exec (Stmt.While _ _ _ _) _) _ _ _)); (fail_if_success (with_reducible show wpAny _ _ (exec (Stmt.For _ _ _ _ _) _) _ _ _)))); (first | with_reducible (k_here; (with_reducible show wpAny _ _ (call (Value.type "zip") _) _ _ _); (k_here; (refine zip_my (by k_asm) (by k_asm) (by ((repeat (first | (with_reducible assumption) | exact List.mem_cons_self | (refine List.mem_cons_of_mem _ ?_))))) (by ((repeat (first | (with_reducible assumption) | exact List.mem_cons_self | (refine List.mem_cons_of_mem _ ?_))))) ?_); intro _ _ _ _ _)) | with_reducible (k_here; (with_reducible show wpAny _ _ (eval (Expr.ListComp _ _ _ _) _) _ _ _); (k_here; (refine ListComp_my (by k_asm) (by with_unfolding_all rfl) (CMade.plain (by decide) rfl) (by rfl) (by decide) ?_ (by intro _; with_unfolding_all rfl)))) | with_reducible (k_here; (with_reducible show wpAny _ _ (exec (Stmt.Assign _ (Expr.ListComp _ _ _ _) _) _) _ _ _); (k_here; (refine Assign_ListComp_z (by k_asm) (by rfl) (by with_unfolding_all rfl) (by with_unfolding_all rfl) (by decide) (by rfl) (by decide) (by rfl) (by rfl) (by decide) (by rfl) (by rfl) ?_ (by intro _; with_unfolding_all rfl)))) | with_reducible (k_here; (with_reducible show wpAny _ _ (call (Value.type "int") _) _ _ _); (k_here; (refine' int_num_my ?ye ?ya ?yb ?_); (case ye => with_reducible assumption); (case ya => (first | lia | omega)); (case yb => (first | lia | omega)))) | with_reducible (k_here; (with_reducible show wpAny _ _ (compareOp CmpOp.NotIn _ _) _ _ _); (k_here; (refine' notin_my ?yN ?ym ?ys ?_); (case yN => k_asm); (case ym => ((repeat (first | (with_reducible assumption) | exact List.mem_cons_self | (refine List.mem_cons_of_mem _ ?_))))); (case ys => with_reducible assumption))) | with_reducible (k_here; (with_reducible show wpAny _ _ (call (Value.ref _) _) _ _ _); (k_here; (refine' base_spec ?yR ?yX ?yT ?yF ?yNw ?yhx ?_); (case yF => k_asm); (case yX => k_asm); (case yT => k_asm); (case yNw => k_asm); (case yR => exact Room.less (by assumption) (by decide)); (case yhx => with_reducible assumption); intro _ _ _ _ _)) | with_reducible (k_here; (with_reducible show wpAny _ _ (call (Value.ref _) _) _ _ _); (k_here; (refine' dir_spec ?yR ?yX ?yT ?yF ?yNw ?yhx ?_); (case yF => k_asm); (case yX => k_asm); (case yT => k_asm); (case yNw => k_asm); (case yR => exact Room.less (by assumption) (by decide)); (case yhx => with_reducible assumption); intro _ _ _ _ _)) | with_reducible (k_here; (with_reducible show wpAny _ _ (binaryOp _ (Value.ref _) (Value.ref _)) _ _ _); (refine' add_my ?yF ?yN ?ya ?yb ?yz ?_); (case yF => k_asm); (case yN => k_asm); (case ya => ((repeat (first | (with_reducible assumption) | exact List.mem_cons_self | (refine List.mem_cons_of_mem _ ?_))))); (case yb => ((repeat (first | (with_reducible assumption) | exact List.mem_cons_self | (refine List.mem_cons_of_mem _ ?_))))); (case yz => (try simp only [List.length_cons, List.length_nil]); (first | lia | omega)); intro _ _ _ _ _) | with_reducible (k_here; (with_reducible show wpAny _ _ (call (Value.builtin _) [Value.ref _, _]) _ _ _); (refine append_my (by k_asm) (by k_asm) (by with_reducible assumption) (by (first | lia | omega)) (by first | with_reducible assumption | exact rfl) ?_); intro _ _ _) | with_reducible (k_here; (with_reducible show wpAny _ _ (call (Value.builtin "len") [Value.ref _]) _ _ _); (refine len_at (by k_asm) (by with_reducible assumption) (by (first | lia | omega)) ?_); intro _ _) | walk1)) | ((((fail_if_success (with_reducible show wpAny _ _ (exec (Stmt.Assign _ (Expr.ListComp _ _ _ _) _) _) _ _ _)); (fail_if_success (with_reducible show wpAny _ _ (eval (Expr.ListComp _ _ _ _) _) _ _ _)))); (((fail_if_success (with_reducible show wpAny _ _ (exec (Stmt.While _ _ _ _) _) _ _ _)); (fail_if_success (with_reducible show wpAny _ _ (exec (Stmt.For _ _ _ _ _) _) _ _ _)))); dsimp only)))
    k_dflt (refine Assign_ListComp_z (by k_asm) (by rfl) (by with_unfolding_all rfl) (by with_unfolding_all rfl) (by decide) (by rfl) (by decide) (by rfl) (by rfl) (by decide) (by rfl) (by rfl) ?_ (by intro _; with_unfolding_all rfl))
    (repeat' (first | (k_unfold; (try dsimp only)) | (k_end; wrow_close) | ((((fail_if_success (with_reducible show wpAny _ _ (exec (Stmt.Assign _ (Expr.ListComp _ _ _ _) _) _) _ _ _)); (fail_if_success (with_reducible show wpAny _ _ (eval (Expr.ListComp _ _ _ _) _) _ _ _)))); (((fail_if_success (with_reducible show wpAny _ _ (exec (Stmt.While _ _ _ _) _) _ _ _)); (fail_if_success (with_reducible show wpAny _ _ (exec (Stmt.For _ _ _ _ _) _) _ _ _)))); (first | with_reducible (k_here; (with_reducible show wpAny _ _ (call (Value.type "zip") _) _ _ _); (k_here; (refine zip_my (by k_asm) (by k_asm) (by ((repeat (first | (with_reducible assumption) | exact List.mem_cons_self | (refine List.mem_cons_of_mem _ ?_))))) (by ((repeat (first | (with_reducible assumption) | exact List.mem_cons_self | (refine List.mem_cons_of_mem _ ?_))))) ?_); intro _ _ _ _ _)) | with_reducible (k_here; (with_reducible show wpAny _ _ (eval (Expr.ListComp _ _ _ _) _) _ _ _); (k_here; (refine ListComp_my (by k_asm) (by with_unfolding_all rfl) (CMade.plain (by decide) rfl) (by rfl) (by decide) ?_ (by intro _; with_unfolding_all rfl)))) | with_reducible (k_here; (with_reducible show wpAny _ _ (exec (Stmt.Assign _ (Expr.ListComp _ _ _ _) _) _) _ _ _); (k_here; (refine Assign_ListComp_z (by k_asm) (by rfl) (by with_unfolding_all rfl) (by with_unfolding_all rfl) (by decide) (by rfl) (by decide) (by rfl) (by rfl) (by decide) (by rfl) (by rfl) ?_ (by intro _; with_unfolding_all rfl)))) | with_reducible (k_here; (with_reducible show wpAny _ _ (call (Value.type "int") _) _ _ _); (k_here; (refine' int_num_my ?ye ?ya ?yb ?_); (case ye => with_reducible assumption); (case ya => (first | lia | omega)); (case yb => (first | lia | omega)))) | with_reducible (k_here; (with_reducible show wpAny _ _ (compareOp CmpOp.NotIn _ _) _ _ _); (k_here; (refine' notin_my ?yN ?ym ?ys ?_); (case yN => k_asm); (case ym => ((repeat (first | (with_reducible assumption) | exact List.mem_cons_self | (refine List.mem_cons_of_mem _ ?_))))); (case ys => with_reducible assumption))) | with_reducible (k_here; (with_reducible show wpAny _ _ (call (Value.ref _) _) _ _ _); (k_here; (refine' base_spec ?yR ?yX ?yT ?yF ?yNw ?yhx ?_); (case yF => k_asm); (case yX => k_asm); (case yT => k_asm); (case yNw => k_asm); (case yR => exact Room.less (by assumption) (by decide)); (case yhx => with_reducible assumption); intro _ _ _ _ _)) | with_reducible (k_here; (with_reducible show wpAny _ _ (call (Value.ref _) _) _ _ _); (k_here; (refine' dir_spec ?yR ?yX ?yT ?yF ?yNw ?yhx ?_); (case yF => k_asm); (case yX => k_asm); (case yT => k_asm); (case yNw => k_asm); (case yR => exact Room.less (by assumption) (by decide)); (case yhx => with_reducible assumption); intro _ _ _ _ _)) | with_reducible (k_here; (with_reducible show wpAny _ _ (binaryOp _ (Value.ref _) (Value.ref _)) _ _ _); (refine' add_my ?yF ?yN ?ya ?yb ?yz ?_); (case yF => k_asm); (case yN => k_asm); (case ya => ((repeat (first | (with_reducible assumption) | exact List.mem_cons_self | (refine List.mem_cons_of_mem _ ?_))))); (case yb => ((repeat (first | (with_reducible assumption) | exact List.mem_cons_self | (refine List.mem_cons_of_mem _ ?_))))); (case yz => (try simp only [List.length_cons, List.length_nil]); (first | lia | omega)); intro _ _ _ _ _) | with_reducible (k_here; (with_reducible show wpAny _ _ (call (Value.builtin _) [Value.ref _, _]) _ _ _); (refine append_my (by k_asm) (by k_asm) (by with_reducible assumption) (by (first | lia | omega)) (by first | with_reducible assumption | exact rfl) ?_); intro _ _ _) | with_reducible (k_here; (with_reducible show wpAny _ _ (call (Value.builtin "len") [Value.ref _]) _ _ _); (refine len_at (by k_asm) (by with_reducible assumption) (by (first | lia | omega)) ?_); intro _ _) | walk1)) | ((((fail_if_success (with_reducible show wpAny _ _ (exec (Stmt.Assign _ (Expr.ListComp _ _ _ _) _) _) _ _ _)); (fail_if_success (with_reducible show wpAny _ _ (eval (Expr.ListComp _ _ _ _) _) _ _ _)))); (((fail_if_success (with_reducible show wpAny _ _ (exec (Stmt.While _ _ _ _) _) _ _ _)); (fail_if_success (with_reducible show wpAny _ _ (exec (Stmt.For _ _ _ _ _) _) _ _ _)))); dsimp only)))
    rename_i hz'
    rename Fr _ L' _ _ => F5
    rename News _ L' _ _ => N5
    obtain ⟨TI, TO, i1, i2, ap, st, hLz, h0z, offz⟩ := hz'
    have hX : ∀ t, IntsAre ([Value.int 0 t] ++ vs) (0 :: pas i) := fun t => .cons _ _ hI
    have hY : ∀ t, IntsAre (vs ++ [Value.int 0 t]) (pas i ++ [0]) := fun t => ints_snoc hI 0 t
    refine ZSrc.zip (fun j ys => IntsAre ys ((pas (i + 1)).take j)) rfl F5 N5 ap st hLz h0z offz ?_ .nil ?_ ?_
    · simp only [List.length_append, List.length_cons, List.length_nil]; (first | lia | omega)
    · intro C D j x y ys h tk oC m₂ hj hxy hJ hn hma hmb F6 N6
      obtain ⟨hx, hy⟩ := hxy
      obtain ⟨a, ta, hxa, rfl⟩ := ints_at (hX _) hx
      obtain ⟨b, tb, hyb, rfl⟩ := ints_at (hY _) hy
      (repeat' (first | (k_unfold; (try dsimp only)) | (k_end; wrow_close) | ((((fail_if_success (with_reducible show wpAny _ _ (exec (Stmt.Assign _ (Expr.ListComp _ _ _ _) _) _) _ _ _)); (fail_if_success (with_reducible show wpAny _ _ (eval (Expr.ListComp _ _ _ _) _) _ _ _)))); (((fail_if_success (with_reducible show wpAny _ _ (exec (Stmt.While _ _ _ _) _) _ _ _)); (fail_if_success (with_reducible show wpAny _ _ (exec (Stmt.For _ _ _ _ _) _) _ _ _)))); (first | with_reducible (k_here; (with_reducible show wpAny _ _ (call (Value.type "zip") _) _ _ _); (k_here; (refine zip_my (by k_asm) (by k_asm) (by ((repeat (first | (with_reducible assumption) | exact List.mem_cons_self | (refine List.mem_cons_of_mem _ ?_))))) (by ((repeat (first | (with_reducible assumption) | exact List.mem_cons_self | (refine List.mem_cons_of_mem _ ?_))))) ?_); intro _ _ _ _ _)) | with_reducible (k_here; (with_reducible show wpAny _ _ (eval (Expr.ListComp _ _ _ _) _) _ _ _); (k_here; (refine ListComp_my (by k_asm) (by with_unfolding_all rfl) (CMade.plain (by decide) rfl) (by rfl) (by decide) ?_ (by intro _; with_unfolding_all rfl)))) | with_reducible (k_here; (with_reducible show wpAny _ _ (exec (Stmt.Assign _ (Expr.ListComp _ _ _ _) _) _) _ _ _); (k_here; (refine Assign_ListComp_z (by k_asm) (by rfl) (by with_unfolding_all rfl) (by with_unfolding_all rfl) (by decide) (by rfl) (by decide) (by rfl) (by rfl) (by decide) (by rfl) (by rfl) ?_ (by intro _; with_unfolding_all rfl)))) | with_reducible (k_here; (with_reducible show wpAny _ _ (call (Value.type "int") _) _ _ _); (k_here; (refine' int_num_my ?ye ?ya ?yb ?_); (case ye => with_reducible assumption); (case ya => (first | lia | omega)); (case yb => (first | lia | omega)))) | with_reducible (k_here; (with_reducible show wpAny _ _ (compareOp CmpOp.NotIn _ _) _ _ _); (k_here; (refine' notin_my ?yN ?ym ?ys ?_); (case yN => k_asm); (case ym => ((repeat (first | (with_reducible assumption) | exact List.mem_cons_self | (refine List.mem_cons_of_mem _ ?_))))); (case ys => with_reducible assumption))) | with_reducible (k_here; (with_reducible show wpAny _ _ (call (Value.ref _) _) _ _ _); (k_here; (refine' base_spec ?yR ?yX ?yT ?yF ?yNw ?yhx ?_); (case yF => k_asm); (case yX => k_asm); (case yT => k_asm); (case yNw => k_asm); (case yR => exact Room.less (by assumption) (by decide)); (case yhx => with_reducible assumption); intro _ _ _ _ _)) | with_reducible (k_here; (with_reducible show wpAny _ _ (call (Value.ref _) _) _ _ _); (k_here; (refine' dir_spec ?yR ?yX ?yT ?yF ?yNw ?yhx ?_); (case yF => k_asm); (case yX => k_asm); (case yT => k_asm); (case yNw => k_asm); (case yR => exact Room.less (by assumption) (by decide)); (case yhx => with_reducible assumption); intro _ _ _ _ _)) | with_reducible (k_here; (with_reducible show wpAny _ _ (binaryOp _ (Value.ref _) (Value.ref _)) _ _ _); (refine' add_my ?yF ?yN ?ya ?yb ?yz ?_); (case yF => k_asm); (case yN => k_asm); (case ya => ((repeat (first | (with_reducible assumption) | exact List.mem_cons_self | (refine List.mem_cons_of_mem _ ?_))))); (case yb => ((repeat (first | (with_reducible assumption) | exact List.mem_cons_self | (refine List.mem_cons_of_mem _ ?_))))); (case yz => (try simp only [List.length_cons, List.length_nil]); (first | lia | omega)); intro _ _ _ _ _) | with_reducible (k_here; (with_reducible show wpAny _ _ (call (Value.builtin _) [Value.ref _, _]) _ _ _); (refine append_my (by k_asm) (by k_asm) (by with_reducible assumption) (by (first | lia | omega)) (by first | with_reducible assumption | exact rfl) ?_); intro _ _ _) | with_reducible (k_here; (with_reducible show wpAny _ _ (call (Value.builtin "len") [Value.ref _]) _ _ _); (refine len_at (by k_asm) (by with_reducible assumption) (by (first | lia | omega)) ?_); intro _ _) | walk1)) | ((((fail_if_success (with_reducible show wpAny _ _ (exec (Stmt.Assign _ (Expr.ListComp _ _ _ _) _) _) _ _ _)); (fail_if_success (with_reducible show wpAny _ _ (eval (Expr.ListComp _ _ _ _) _) _ _ _)))); (((fail_if_success (with_reducible show wpAny _ _ (exec (Stmt.While _ _ _ _) _) _ _ _)); (fail_if_success (with_reducible show wpAny _ _ (exec (Stmt.For _ _ _ _ _) _) _ _ _)))); dsimp only)))
      have e : (pas (i + 1))[j]? = some (a + b) := by
        show (List.zipWith (· + ·) (0 :: pas i) (pas i ++ [0]))[j]? = _
        rw [List.getElem?_zipWith, hxa, hyb]
      show IntsAre (ys ++ [_]) ((pas (i + 1)).take (j + 1))
      rw [List.take_add_one, e]
      exact ints_snoc hJ _ _
    · intro zs hJ D h tk F6 N6 hD
      (repeat' (first | (k_unfold; (try dsimp only)) | (k_end; wrow_close) | ((((fail_if_success (with_reducible show wpAny _ _ (exec (Stmt.Assign _ (Expr.ListComp _ _ _ _) _) _) _ _ _)); (fail_if_success (with_reducible show wpAny _ _ (eval (Expr.ListComp _ _ _ _) _) _ _ _)))); (((fail_if_success (with_reducible show wpAny _ _ (exec (Stmt.While _ _ _ _) _) _ _ _)); (fail_if_success (with_reducible show wpAny _ _ (exec (Stmt.For _ _ _ _ _) _) _ _ _)))); (first | with_reducible (k_here; (with_reducible show wpAny _ _ (call (Value.type "zip") _) _ _ _); (k_here; (refine zip_my (by k_asm) (by k_asm) (by ((repeat (first | (with_reducible assumption) | exact List.mem_cons_self | (refine List.mem_cons_of_mem _ ?_))))) (by ((repeat (first | (with_reducible assumption) | exact List.mem_cons_self | (refine List.mem_cons_of_mem _ ?_))))) ?_); intro _ _ _ _ _)) | with_reducible (k_here; (with_reducible show wpAny _ _ (eval (Expr.ListComp _ _ _ _) _) _ _ _); (k_here; (refine ListComp_my (by k_asm) (by with_unfolding_all rfl) (CMade.plain (by decide) rfl) (by rfl) (by decide) ?_ (by intro _; with_unfolding_all rfl)))) | with_reducible (k_here; (with_reducible show wpAny _ _ (exec (Stmt.Assign _ (Expr.ListComp _ _ _ _) _) _) _ _ _); (k_here; (refine Assign_ListComp_z (by k_asm) (by rfl) (by with_unfolding_all rfl) (by with_unfolding_all rfl) (by decide) (by rfl) (by decide) (by rfl) (by rfl) (by decide) (by rfl) (by rfl) ?_ (by intro _; with_unfolding_all rfl)))) | with_reducible (k_here; (with_reducible show wpAny _ _ (call (Value.type "int") _) _ _ _); (k_here; (refine' int_num_my ?ye ?ya ?yb ?_); (case ye => with_reducible assumption); (case ya => (first | lia | omega)); (case yb => (first | lia | omega)))) | with_reducible (k_here; (with_reducible show wpAny _ _ (compareOp CmpOp.NotIn _ _) _ _ _); (k_here; (refine' notin_my ?yN ?ym ?ys ?_); (case yN => k_asm); (case ym => ((repeat (first | (with_reducible assumption) | exact List.mem_cons_self | (refine List.mem_cons_of_mem _ ?_))))); (case ys => with_reducible assumption))) | with_reducible (k_here; (with_reducible show wpAny _ _ (call (Value.ref _) _) _ _ _); (k_here; (refine' base_spec ?yR ?yX ?yT ?yF ?yNw ?yhx ?_); (case yF => k_asm); (case yX => k_asm); (case yT => k_asm); (case yNw => k_asm); (case yR => exact Room.less (by assumption) (by decide)); (case yhx => with_reducible assumption); intro _ _ _ _ _)) | with_reducible (k_here; (with_reducible show wpAny _ _ (call (Value.ref _) _) _ _ _); (k_here; (refine' dir_spec ?yR ?yX ?yT ?yF ?yNw ?yhx ?_); (case yF => k_asm); (case yX => k_asm); (case yT => k_asm); (case yNw => k_asm); (case yR => exact Room.less (by assumption) (by decide)); (case yhx => with_reducible assumption); intro _ _ _ _ _)) | with_reducible (k_here; (with_reducible show wpAny _ _ (binaryOp _ (Value.ref _) (Value.ref _)) _ _ _); (refine' add_my ?yF ?yN ?ya ?yb ?yz ?_); (case yF => k_asm); (case yN => k_asm); (case ya => ((repeat (first | (with_reducible assumption) | exact List.mem_cons_self | (refine List.mem_cons_of_mem _ ?_))))); (case yb => ((repeat (first | (with_reducible assumption) | exact List.mem_cons_self | (refine List.mem_cons_of_mem _ ?_))))); (case yz => (try simp only [List.length_cons, List.length_nil]); (first | lia | omega)); intro _ _ _ _ _) | with_reducible (k_here; (with_reducible show wpAny _ _ (call (Value.builtin _) [Value.ref _, _]) _ _ _); (refine append_my (by k_asm) (by k_asm) (by with_reducible assumption) (by (first | lia | omega)) (by first | with_reducible assumption | exact rfl) ?_); intro _ _ _) | with_reducible (k_here; (with_reducible show wpAny _ _ (call (Value.builtin "len") [Value.ref _]) _ _ _); (refine len_at (by k_asm) (by with_reducible assumption) (by (first | lia | omega)) ?_); intro _ _) | walk1)) | ((((fail_if_success (with_reducible show wpAny _ _ (exec (Stmt.Assign _ (Expr.ListComp _ _ _ _) _) _) _ _ _)); (fail_if_success (with_reducible show wpAny _ _ (eval (Expr.ListComp _ _ _ _) _) _ _ _)))); (((fail_if_success (with_reducible show wpAny _ _ (exec (Stmt.While _ _ _ _) _) _ _ _)); (fail_if_success (with_reducible show wpAny _ _ (exec (Stmt.For _ _ _ _ _) _) _ _ _)))); dsimp only)))
      rw [show LCg.lst zs = W.listOf (List.toArray zs) zs.length from rfl] at N6
      have hvl : vs.length = i + 1 := by rw [ints_len hI, pas_len]
      rw [List.length_append, List.length_append, hvl, List.take_of_length_le (by rw [pas_len]; simp only [List.length_cons, List.length_nil]; (first | lia | omega))] at hJ
      have hDI : D ≠ I := fun e => hD (I, oI) (by ((repeat (first | (with_reducible assumption) | exact List.mem_cons_self | (refine List.mem_cons_of_mem _ ?_))))) e.symm
      have N7 : News g L' h ((I, oI) :: (D, W.listOf (List.toArray zs) zs.length) :: (L' + 1, o') :: news) := News.sub N6 pm5
      exact TurnMy.intro (.inl rfl) F6 N7 (List.forall_mem_cons.mpr ⟨hDI, (List.forall_mem_cons.mp off).2⟩) ⟨D, zs, _, rfl, hJ, by (first | lia | omega), by ((refine ovr_of ?_; repeat (first | exact List.forall_mem_nil _ | (refine List.forall_mem_cons.mpr ⟨by with_unfolding_all rfl, ?_⟩))))⟩
  · rintro h tk m₁ news₁ ⟨rl, vs, ep1, rfl, hI, hir, hmm⟩ F2 N2
    rw [hmm] at F2
    (repeat' (first | (k_unfold; (try dsimp only)) | (k_end; wrow_close) | ((((fail_if_success (with_reducible show wpAny _ _ (exec (Stmt.Assign _ (Expr.ListComp _ _ _ _) _) _) _ _ _)); (fail_if_success (with_reducible show wpAny _ _ (eval (Expr.ListComp _ _ _ _) _) _ _ _)))); (((fail_if_success (with_reducible show wpAny _ _ (exec (Stmt.While _ _ _ _) _) _ _ _)); (fail_if_success (with_reducible show wpAny _ _ (exec (Stmt.For _ _ _ _ _) _) _ _ _)))); (first | with_reducible (k_here; (with_reducible show wpAny _ _ (call (Value.type "zip") _) _ _ _); (k_here; (refine zip_my (by k_asm) (by k_asm) (by ((repeat (first | (with_reducible assumption) | exact List.mem_cons_self | (refine List.mem_cons_of_mem _ ?_))))) (by ((repeat (first | (with_reducible assumption) | exact List.mem_cons_self | (refine List.mem_cons_of_mem _ ?_))))) ?_); intro _ _ _ _ _)) | with_reducible (k_here; (with_reducible show wpAny _ _ (eval (Expr.ListComp _ _ _ _) _) _ _ _); (k_here; (refine ListComp_my (by k_asm) (by with_unfolding_all rfl) (CMade.plain (by decide) rfl) (by rfl) (by decide) ?_ (by intro _; with_unfolding_all rfl)))) | with_reducible (k_here; (with_reducible show wpAny _ _ (exec (Stmt.Assign _ (Expr.ListComp _ _ _ _) _) _) _ _ _); (k_here; (refine Assign_ListComp_z (by k_asm) (by rfl) (by with_unfolding_all rfl) (by with_unfolding_all rfl) (by decide) (by rfl) (by decide) (by rfl) (by rfl) (by decide) (by rfl) (by rfl) ?_ (by intro _; with_unfolding_all rfl)))) | with_reducible (k_here; (with_reducible show wpAny _ _ (call (Value.type "int") _) _ _ _); (k_here; (refine' int_num_my ?ye ?ya ?yb ?_); (case ye => with_reducible assumption); (case ya => (first | lia | omega)); (case yb => (first | lia | omega)))) | with_reducible (k_here; (with_reducible show wpAny _ _ (compareOp CmpOp.NotIn _ _) _ _ _); (k_here; (refine' notin_my ?yN ?ym ?ys ?_); (case yN => k_asm); (case ym => ((repeat (first | (with_reducible assumption) | exact List.mem_cons_self | (refine List.mem_cons_of_mem _ ?_))))); (case ys => with_reducible assumption))) | with_reducible (k_here; (with_reducible show wpAny _ _ (call (Value.ref _) _) _ _ _); (k_here; (refine' base_spec ?yR ?yX ?yT ?yF ?yNw ?yhx ?_); (case yF => k_asm); (case yX => k_asm); (case yT => k_asm); (case yNw => k_asm); (case yR => exact Room.less (by assumption) (by decide)); (case yhx => with_reducible assumption); intro _ _ _ _ _)) | with_reducible (k_here; (with_reducible show wpAny _ _ (call (Value.ref _) _) _ _ _); (k_here; (refine' dir_spec ?yR ?yX ?yT ?yF ?yNw ?yhx ?_); (case yF => k_asm); (case yX => k_asm); (case yT => k_asm); (case yNw => k_asm); (case yR => exact Room.less (by assumption) (by decide)); (case yhx => with_reducible assumption); intro _ _ _ _ _)) | with_reducible (k_here; (with_reducible show wpAny _ _ (binaryOp _ (Value.ref _) (Value.ref _)) _ _ _); (refine' add_my ?yF ?yN ?ya ?yb ?yz ?_); (case yF => k_asm); (case yN => k_asm); (case ya => ((repeat (first | (with_reducible assumption) | exact List.mem_cons_self | (refine List.mem_cons_of_mem _ ?_))))); (case yb => ((repeat (first | (with_reducible assumption) | exact List.mem_cons_self | (refine List.mem_cons_of_mem _ ?_))))); (case yz => (try simp only [List.length_cons, List.length_nil]); (first | lia | omega)); intro _ _ _ _ _) | with_reducible (k_here; (with_reducible show wpAny _ _ (call (Value.builtin _) [Value.ref _, _]) _ _ _); (refine append_my (by k_asm) (by k_asm) (by with_reducible assumption) (by (first | lia | omega)) (by first | with_reducible assumption | exact rfl) ?_); intro _ _ _) | with_reducible (k_here; (with_reducible show wpAny _ _ (call (Value.builtin "len") [Value.ref _]) _ _ _); (refine len_at (by k_asm) (by with_reducible assumption) (by (first | lia | omega)) ?_); intro _ _) | walk1)) | ((((fail_if_success (with_reducible show wpAny _ _ (exec (Stmt.Assign _ (Expr.ListComp _ _ _ _) _) _) _ _ _)); (fail_if_success (with_reducible show wpAny _ _ (eval (Expr.ListComp _ _ _ _) _) _ _ _)))); (((fail_if_success (with_reducible show wpAny _ _ (exec (Stmt.While _ _ _ _) _) _ _ _)); (fail_if_success (with_reducible show wpAny _ _ (exec (Stmt.For _ _ _ _ _) _) _ _ _)))); dsimp only)))
    k_dflt (refine ListComp_my (by k_asm) (by with_unfolding_all rfl) (CMade.one (by rfl) (by decide) (by decide) (by decide)) (by rfl) (by decide) ?_ (by intro _; with_unfolding_all rfl))
    (repeat' (first | (k_unfold; (try dsimp only)) | (k_end; wrow_close) | ((((fail_if_success (with_reducible show wpAny _ _ (exec (Stmt.Assign _ (Expr.ListComp _ _ _ _) _) _) _ _ _)); (fail_if_success (with_reducible show wpAny _ _ (eval (Expr.ListComp _ _ _ _) _) _ _ _)))); (((fail_if_success (with_reducible show wpAny _ _ (exec (Stmt.While _ _ _ _) _) _ _ _)); (fail_if_success (with_reducible show wpAny _ _ (exec (Stmt.For _ _ _ _ _) _) _ _ _)))); (first | with_reducible (k_here; (with_reducible show wpAny _ _ (call (Value.type "zip") _) _ _ _); (k_here; (refine zip_my (by k_asm) (by k_asm) (by ((repeat (first | (with_reducible assumption) | exact List.mem_cons_self | (refine List.mem_cons_of_mem _ ?_))))) (by ((repeat (first | (with_reducible assumption) | exact List.mem_cons_self | (refine List.mem_cons_of_mem _ ?_))))) ?_); intro _ _ _ _ _)) | with_reducible (k_here; (with_reducible show wpAny _ _ (eval (Expr.ListComp _ _ _ _) _) _ _ _); (k_here; (refine ListComp_my (by k_asm) (by with_unfolding_all rfl) (CMade.plain (by decide) rfl) (by rfl) (by decide) ?_ (by intro _; with_unfolding_all rfl)))) | with_reducible (k_here; (with_reducible show wpAny _ _ (exec (Stmt.Assign _ (Expr.ListComp _ _ _ _) _) _) _ _ _); (k_here; (refine Assign_ListComp_z (by k_asm) (by rfl) (by with_unfolding_all rfl) (by with_unfolding_all rfl) (by decide) (by rfl) (by decide) (by rfl) (by rfl) (by decide) (by rfl) (by rfl) ?_ (by intro _; with_unfolding_all rfl)))) | with_reducible (k_here; (with_reducible show wpAny _ _ (call (Value.type "int") _) _ _ _); (k_here; (refine' int_num_my ?ye ?ya ?yb ?_); (case ye => with_reducible assumption); (case ya => (first | lia | omega)); (case yb => (first | lia | omega)))) | with_reducible (k_here; (with_reducible show wpAny _ _ (compareOp CmpOp.NotIn _ _) _ _ _); (k_here; (refine' notin_my ?yN ?ym ?ys ?_); (case yN => k_asm); (case ym => ((repeat (first | (with_reducible assumption) | exact List.mem_cons_self | (refine List.mem_cons_of_mem _ ?_))))); (case ys => with_reducible assumption))) | with_reducible (k_here; (with_reducible show wpAny _ _ (call (Value.ref _) _) _ _ _); (k_here; (refine' base_spec ?yR ?yX ?yT ?yF ?yNw ?yhx ?_); (case yF => k_asm); (case yX => k_asm); (case yT => k_asm); (case yNw => k_asm); (case yR => exact Room.less (by assumption) (by decide)); (case yhx => with_reducible assumption); intro _ _ _ _ _)) | with_reducible (k_here; (with_reducible show wpAny _ _ (call (Value.ref _) _) _ _ _); (k_here; (refine' dir_spec ?yR ?yX ?yT ?yF ?yNw ?yhx ?_); (case yF => k_asm); (case yX => k_asm); (case yT => k_asm); (case yNw => k_asm); (case yR => exact Room.less (by assumption) (by decide)); (case yhx => with_reducible assumption); intro _ _ _ _ _)) | with_reducible (k_here; (with_reducible show wpAny _ _ (binaryOp _ (Value.ref _) (Value.ref _)) _ _ _); (refine' add_my ?yF ?yN ?ya ?yb ?yz ?_); (case yF => k_asm); (case yN => k_asm); (case ya => ((repeat (first | (with_reducible assumption) | exact List.mem_cons_self | (refine List.mem_cons_of_mem _ ?_))))); (case yb => ((repeat (first | (with_reducible assumption) | exact List.mem_cons_self | (refine List.mem_cons_of_mem _ ?_))))); (case yz => (try simp only [List.length_cons, List.length_nil]); (first | lia | omega)); intro _ _ _ _ _) | with_reducible (k_here; (with_reducible show wpAny _ _ (call (Value.builtin _) [Value.ref _, _]) _ _ _); (refine append_my (by k_asm) (by k_asm) (by with_reducible assumption) (by (first | lia | omega)) (by first | with_reducible assumption | exact rfl) ?_); intro _ _ _) | with_reducible (k_here; (with_reducible show wpAny _ _ (call (Value.builtin "len") [Value.ref _]) _ _ _); (refine len_at (by k_asm) (by with_reducible assumption) (by (first | lia | omega)) ?_); intro _ _) | walk1)) | ((((fail_if_success (with_reducible show wpAny _ _ (exec (Stmt.Assign _ (Expr.ListComp _ _ _ _) _) _) _ _ _)); (fail_if_success (with_reducible show wpAny _ _ (eval (Expr.ListComp _ _ _ _) _) _ _ _)))); (((fail_if_success (with_reducible show wpAny _ _ (exec (Stmt.While _ _ _ _) _) _ _ _)); (fail_if_success (with_reducible show wpAny _ _ (exec (Stmt.For _ _ _ _ _) _) _ _ _)))); dsimp only)))
    rename IsRange _ _ _ _ _ _ _ _ => hrg2
    rename Fr _ L' _ _ => F3
    rename News _ L' _ _ => N3
    refine CSrc.range (n := r + 1) (GrK ((rl, W.listOf (List.toArray vs) ep1) :: (L' + 1, o') :: news) ((List.range (r + 1)).map fun d => ((ps.filter fun p => Txt.count p (Str.ofString "/") == ((d : Nat) : Int)).length : Int))) rfl F3 N3 hrg2 (range_small (n := r + 1) (by (first | lia | omega))) (rangeSize_nat (n := r + 1)) (by (first | lia | omega))
      (fun C hlt => ⟨_, none, rfl, rfl, fun p hp => Nat.ne_of_lt (Nat.lt_succ_of_lt (hlt p hp)), .nil⟩) ?_ ?_
    · rintro I C D i v ys nw h tk9 oI oC m₂ hi ⟨tv, rfl⟩ - ⟨o, v0, rfl, hd, hap, hI4⟩ off dist hn F4 N4
      refine one1c (by rfl) (by rfl) (by rfl) hd off hap F4 N4 ?_
      intro h3 tk3 o3 hd3 F5 N5
      (repeat' (first | (k_unfold; (try dsimp only)) | (k_end; wrow_close) | ((((fail_if_success (with_reducible show wpAny _ _ (exec (Stmt.Assign _ (Expr.ListComp _ _ _ _) _) _) _ _ _)); (fail_if_success (with_reducible show wpAny _ _ (eval (Expr.ListComp _ _ _ _) _) _ _ _)))); (((fail_if_success (with_reducible show wpAny _ _ (exec (Stmt.While _ _ _ _) _) _ _ _)); (fail_if_success (with_reducible show wpAny _ _ (exec (Stmt.For _ _ _ _ _) _) _ _ _)))); (first | with_reducible (k_here; (with_reducible show wpAny _ _ (call (Value.type "zip") _) _ _ _); (k_here; (refine zip_my (by k_asm) (by k_asm) (by ((repeat (first | (with_reducible assumption) | exact List.mem_cons_self | (refine List.mem_cons_of_mem _ ?_))))) (by ((repeat (first | (with_reducible assumption) | exact List.mem_cons_self | (refine List.mem_cons_of_mem _ ?_))))) ?_); intro _ _ _ _ _)) | with_reducible (k_here; (with_reducible show wpAny _ _ (eval (Expr.ListComp _ _ _ _) _) _ _ _); (k_here; (refine ListComp_my (by k_asm) (by with_unfolding_all rfl) (CMade.plain (by decide) rfl) (by rfl) (by decide) ?_ (by intro _; with_unfolding_all rfl)))) | with_reducible (k_here; (with_reducible show wpAny _ _ (exec (Stmt.Assign _ (Expr.ListComp _ _ _ _) _) _) _ _ _); (k_here; (refine Assign_ListComp_z (by k_asm) (by rfl) (by with_unfolding_all rfl) (by with_unfolding_all rfl) (by decide) (by rfl) (by decide) (by rfl) (by rfl) (by decide) (by rfl) (by rfl) ?_ (by intro _; with_unfolding_all rfl)))) | with_reducible (k_here; (with_reducible show wpAny _ _ (call (Value.type "int") _) _ _ _); (k_here; (refine' int_num_my ?ye ?ya ?yb ?_); (case ye => with_reducible assumption); (case ya => (first | lia | omega)); (case yb => (first | lia | omega)))) | with_reducible (k_here; (with_reducible show wpAny _ _ (compareOp CmpOp.NotIn _ _) _ _ _); (k_here; (refine' notin_my ?yN ?ym ?ys ?_); (case yN => k_asm); (case ym => ((repeat (first | (with_reducible assumption) | exact List.mem_cons_self | (refine List.mem_cons_of_mem _ ?_))))); (case ys => with_reducible assumption))) | with_reducible (k_here; (with_reducible show wpAny _ _ (call (Value.ref _) _) _ _ _); (k_here; (refine' base_spec ?yR ?yX ?yT ?yF ?yNw ?yhx ?_); (case yF => k_asm); (case yX => k_asm); (case yT => k_asm); (case yNw => k_asm); (case yR => exact Room.less (by assumption) (by decide)); (case yhx => with_reducible assumption); intro _ _ _ _ _)) | with_reducible (k_here; (with_reducible show wpAny _ _ (call (Value.ref _) _) _ _ _); (k_here; (refine' dir_spec ?yR ?yX ?yT ?yF ?yNw ?yhx ?_); (case yF => k_asm); (case yX => k_asm); (case yT => k_asm); (case yNw => k_asm); (case yR => exact Room.less (by assumption) (by decide)); (case yhx => with_reducible assumption); intro _ _ _ _ _)) | with_reducible (k_here; (with_reducible show wpAny _ _ (binaryOp _ (Value.ref _) (Value.ref _)) _ _ _); (refine' add_my ?yF ?yN ?ya ?yb ?yz ?_); (case yF => k_asm); (case yN => k_asm); (case ya => ((repeat (first | (with_reducible assumption) | exact List.mem_cons_self | (refine List.mem_cons_of_mem _ ?_))))); (case yb => ((repeat (first | (with_reducible assumption) | exact List.mem_cons_self | (refine List.mem_cons_of_mem _ ?_))))); (case yz => (try simp only [List.length_cons, List.length_nil]); (first | lia | omega)); intro _ _ _ _ _) | with_reducible (k_here; (with_reducible show wpAny _ _ (call (Value.builtin _) [Value.ref _, _]) _ _ _); (refine append_my (by k_asm) (by k_asm) (by with_reducible assumption) (by (first | lia | omega)) (by first | with_reducible assumption | exact rfl) ?_); intro _ _ _) | with_reducible (k_here; (with_reducible show wpAny _ _ (call (Value.builtin "len") [Value.ref _]) _ _ _); (refine len_at (by k_asm) (by with_reducible assumption) (by (first | lia | omega)) ?_); intro _ _) | walk1)) | ((((fail_if_success (with_reducible show wpAny _ _ (exec (Stmt.Assign _ (Expr.ListComp _ _ _ _) _) _) _ _ _)); (fail_if_success (with_reducible show wpAny _ _ (eval (Expr.ListComp _ _ _ _) _) _ _ _)))); (((fail_if_success (with_reducible show wpAny _ _ (exec (Stmt.While _ _ _ _) _) _ _ _)); (fail_if_success (with_reducible show wpAny _ _ (exec (Stmt.For _ _ _ _ _) _) _ _ _)))); dsimp only)))
      k_dflt (refine ListComp_my (by k_asm) (by with_unfolding_all rfl) (CMade.plain (by decide) rfl) (by rfl) (by decide) ?_ (by intro _; with_unfolding_all rfl))
      (repeat' (first | (k_unfold; (try dsimp only)) | (k_end; wrow_close) | ((((fail_if_success (with_reducible show wpAny _ _ (exec (Stmt.Assign _ (Expr.ListComp _ _ _ _) _) _) _ _ _)); (fail_if_success (with_reducible show wpAny _ _ (eval (Expr.ListComp _ _ _ _) _) _ _ _)))); (((fail_if_success (with_reducible show wpAny _ _ (exec (Stmt.While _ _ _ _) _) _ _ _)); (fail_if_success (with_reducible show wpAny _ _ (exec (Stmt.For _ _ _ _ _) _) _ _ _)))); (first | with_reducible (k_here; (with_reducible show wpAny _ _ (call (Value.type "zip") _) _ _ _); (k_here; (refine zip_my (by k_asm) (by k_asm) (by ((repeat (first | (with_reducible assumption) | exact List.mem_cons_self | (refine List.mem_cons_of_mem _ ?_))))) (by ((repeat (first | (with_reducible assumption) | exact List.mem_cons_self | (refine List.mem_cons_of_mem _ ?_))))) ?_); intro _ _ _ _ _)) | with_reducible (k_here; (with_reducible show wpAny _ _ (eval (Expr.ListComp _ _ _ _) _) _ _ _); (k_here; (refine ListComp_my (by k_asm) (by with_unfolding_all rfl) (CMade.plain (by decide) rfl) (by rfl) (by decide) ?_ (by intro _; with_unfolding_all rfl)))) | with_reducible (k_here; (with_reducible show wpAny _ _ (exec (Stmt.Assign _ (Expr.ListComp _ _ _ _) _) _) _ _ _); (k_here; (refine Assign_ListComp_z (by k_asm) (by rfl) (by with_unfolding_all rfl) (by with_unfolding_all rfl) (by decide) (by rfl) (by decide) (by rfl) (by rfl) (by decide) (by rfl) (by rfl) ?_ (by intro _; with_unfolding_all rfl)))) | with_reducible (k_here; (with_reducible show wpAny _ _ (call (Value.type "int") _) _ _ _); (k_here; (refine' int_num_my ?ye ?ya ?yb ?_); (case ye => with_reducible assumption); (case ya => (first | lia | omega)); (case yb => (first | lia | omega)))) | with_reducible (k_here; (with_reducible show wpAny _ _ (compareOp CmpOp.NotIn _ _) _ _ _); (k_here; (refine' notin_my ?yN ?ym ?ys ?_); (case yN => k_asm); (case ym => ((repeat (first | (with_reducible assumption) | exact List.mem_cons_self | (refine List.mem_cons_of_mem _ ?_))))); (case ys => with_reducible assumption))) | with_reducible (k_here; (with_reducible show wpAny _ _ (call (Value.ref _) _) _ _ _); (k_here; (refine' base_spec ?yR ?yX ?yT ?yF ?yNw ?yhx ?_); (case yF => k_asm); (case yX => k_asm); (case yT => k_asm); (case yNw => k_asm); (case yR => exact Room.less (by assumption) (by decide)); (case yhx => with_reducible assumption); intro _ _ _ _ _)) | with_reducible (k_here; (with_reducible show wpAny _ _ (call (Value.ref _) _) _ _ _); (k_here; (refine' dir_spec ?yR ?yX ?yT ?yF ?yNw ?yhx ?_); (case yF => k_asm); (case yX => k_asm); (case yT => k_asm); (case yNw => k_asm); (case yR => exact Room.less (by assumption) (by decide)); (case yhx => with_reducible assumption); intro _ _ _ _ _)) | with_reducible (k_here; (with_reducible show wpAny _ _ (binaryOp _ (Value.ref _) (Value.ref _)) _ _ _); (refine' add_my ?yF ?yN ?ya ?yb ?yz ?_); (case yF => k_asm); (case yN => k_asm); (case ya => ((repeat (first | (with_reducible assumption) | exact List.mem_cons_self | (refine List.mem_cons_of_mem _ ?_))))); (case yb => ((repeat (first | (with_reducible assumption) | exact List.mem_cons_self | (refine List.mem_cons_of_mem _ ?_))))); (case yz => (try simp only [List.length_cons, List.length_nil]); (first | lia | omega)); intro _ _ _ _ _) | with_reducible (k_here; (with_reducible show wpAny _ _ (call (Value.builtin _) [Value.ref _, _]) _ _ _); (refine append_my (by k_asm) (by k_asm) (by with_reducible assumption) (by (first | lia | omega)) (by first | with_reducible assumption | exact rfl) ?_); intro _ _ _) | with_reducible (k_here; (with_reducible show wpAny _ _ (call (Value.builtin "len") [Value.ref _]) _ _ _); (refine len_at (by k_asm) (by with_reducible assumption) (by (first | lia | omega)) ?_); intro _ _) | walk1)) | ((((fail_if_success (with_reducible show wpAny _ _ (exec (Stmt.Assign _ (Expr.ListComp _ _ _ _) _) _) _ _ _)); (fail_if_success (with_reducible show wpAny _ _ (eval (Expr.ListComp _ _ _ _) _) _ _ _)))); (((fail_if_success (with_reducible show wpAny _ _ (exec (Stmt.While _ _ _ _) _) _ _ _)); (fail_if_success (with_reducible show wpAny _ _ (exec (Stmt.For _ _ _ _ _) _) _ _ _)))); dsimp only)))
      rename Fr _ L' _ _ => F6
      rename News _ L' _ _ => N6
      have hil : its.length = ps.length := StrsAre.len hps
      have hmi : (la, W.listOf its.toArray ep) ∈ (I, oI) :: (C, oC) :: (D, LCg.lst ys) :: (C + 1, o3) :: (rl, W.listOf (List.toArray vs) ep1) :: (L' + 1, o') :: news := by ((repeat (first | (with_reducible assumption) | exact List.mem_cons_self | (refine List.mem_cons_of_mem _ ?_))))
      refine CSrc.list (vs := its) (ep := ep) (fun C2 j zs nw => nw = (I, oI) :: (C, oC) :: (D, LCg.lst ys) :: (C + 1, o3) :: (rl, W.listOf (List.toArray vs) ep1) :: (L' + 1, o') :: news ∧ zs.length ≤ j ∧ StrsAre zs ((ps.take j).filter fun p => Txt.count p (Str.ofString "/") == ((i : Nat) : Int))) rfl F6 N6 (by (first | lia | omega)) hmi (fun C i ys nw hj => by rw [hj.1]; exact hmi) (fun C _ => ⟨rfl, Nat.le_refl _, .nil⟩) ?_ ?_
      · rintro I2 C2 D2 j v zs nw h tk9 oI2 oC2 m2 hj hv st ⟨rfl, hzl, hS⟩ off2 dist2 hn2 F7 N7
        obtain ⟨pa, tp, hpa, rfl⟩ := strs_at hps hv
        have hpl := (hpath pa (List.mem_of_getElem? hpa)).1
        refine one1 rfl (by rfl) off2 dist2 hn2 F7 N7 ?_
        intro h3' tk3' oC3 m3 hn3 hx1 F8 N8
        have eT : ps.take (j + 1) = ps.take j ++ [pa] := by rw [List.take_add_one, hpa]; rfl
        (repeat' (first | (k_unfold; (try dsimp only)) | (k_end; wrow_close) | ((((fail_if_success (with_reducible show wpAny _ _ (exec (Stmt.Assign _ (Expr.ListComp _ _ _ _) _) _) _ _ _)); (fail_if_success (with_reducible show wpAny _ _ (eval (Expr.ListComp _ _ _ _) _) _ _ _)))); (((fail_if_success (with_reducible show wpAny _ _ (exec (Stmt.While _ _ _ _) _) _ _ _)); (fail_if_success (with_reducible show wpAny _ _ (exec (Stmt.For _ _ _ _ _) _) _ _ _)))); (first | with_reducible (k_here; (with_reducible show wpAny _ _ (call (Value.type "zip") _) _ _ _); (k_here; (refine zip_my (by k_asm) (by k_asm) (by ((repeat (first | (with_reducible assumption) | exact List.mem_cons_self | (refine List.mem_cons_of_mem _ ?_))))) (by ((repeat (first | (with_reducible assumption) | exact List.mem_cons_self | (refine List.mem_cons_of_mem _ ?_))))) ?_); intro _ _ _ _ _)) | with_reducible (k_here; (with_reducible show wpAny _ _ (eval (Expr.ListComp _ _ _ _) _) _ _ _); (k_here; (refine ListComp_my (by k_asm) (by with_unfolding_all rfl) (CMade.plain (by decide) rfl) (by rfl) (by decide) ?_ (by intro _; with_unfolding_all rfl)))) | with_reducible (k_here; (with_reducible show wpAny _ _ (exec (Stmt.Assign _ (Expr.ListComp _ _ _ _) _) _) _ _ _); (k_here; (refine Assign_ListComp_z (by k_asm) (by rfl) (by with_unfolding_all rfl) (by with_unfolding_all rfl) (by decide) (by rfl) (by decide) (by rfl) (by rfl) (by decide) (by rfl) (by rfl) ?_ (by intro _; with_unfolding_all rfl)))) | with_reducible (k_here; (with_reducible show wpAny _ _ (call (Value.type "int") _) _ _ _); (k_here; (refine' int_num_my ?ye ?ya ?yb ?_); (case ye => with_reducible assumption); (case ya => (first | lia | omega)); (case yb => (first | lia | omega)))) | with_reducible (k_here; (with_reducible show wpAny _ _ (compareOp CmpOp.NotIn _ _) _ _ _); (k_here; (refine' notin_my ?yN ?ym ?ys ?_); (case yN => k_asm); (case ym => ((repeat (first | (with_reducible assumption) | exact List.mem_cons_self | (refine List.mem_cons_of_mem _ ?_))))); (case ys => with_reducible assumption))) | with_reducible (k_here; (with_reducible show wpAny _ _ (call (Value.ref _) _) _ _ _); (k_here; (refine' base_spec ?yR ?yX ?yT ?yF ?yNw ?yhx ?_); (case yF => k_asm); (case yX => k_asm); (case yT => k_asm); (case yNw => k_asm); (case yR => exact Room.less (by assumption) (by decide)); (case yhx => with_reducible assumption); intro _ _ _ _ _)) | with_reducible (k_here; (with_reducible show wpAny _ _ (call (Value.ref _) _) _ _ _); (k_here; (refine' dir_spec ?yR ?yX ?yT ?yF ?yNw ?yhx ?_); (case yF => k_asm); (case yX => k_asm); (case yT => k_asm); (case yNw => k_asm); (case yR => exact Room.less (by assumption) (by decide)); (case yhx => with_reducible assumption); intro _ _ _ _ _)) | with_reducible (k_here; (with_reducible show wpAny _ _ (binaryOp _ (Value.ref _) (Value.ref _)) _ _ _); (refine' add_my ?yF ?yN ?ya ?yb ?yz ?_); (case yF => k_asm); (case yN => k_asm); (case ya => ((repeat (first | (with_reducible assumption) | exact List.mem_cons_self | (refine List.mem_cons_of_mem _ ?_))))); (case yb => ((repeat (first | (with_reducible assumption) | exact List.mem_cons_self | (refine List.mem_cons_of_mem _ ?_))))); (case yz => (try simp only [List.length_cons, List.length_nil]); (first | lia | omega)); intro _ _ _ _ _) | with_reducible (k_here; (with_reducible show wpAny _ _ (call (Value.builtin _) [Value.ref _, _]) _ _ _); (refine append_my (by k_asm) (by k_asm) (by with_reducible assumption) (by (first | lia | omega)) (by first | with_reducible assumption | exact rfl) ?_); intro _ _ _) | with_reducible (k_here; (with_reducible show wpAny _ _ (call (Value.builtin "len") [Value.ref _]) _ _ _); (refine len_at (by k_asm) (by with_reducible assumption) (by (first | lia | omega)) ?_); intro _ _) | walk1)) | ((((fail_if_success (with_reducible show wpAny _ _ (exec (Stmt.Assign _ (Expr.ListComp _ _ _ _) _) _) _ _ _)); (fail_if_success (with_reducible show wpAny _ _ (eval (Expr.ListComp _ _ _ _) _) _ _ _)))); (((fail_if_success (with_reducible show wpAny _ _ (exec (Stmt.While _ _ _ _) _) _ _ _)); (fail_if_success (with_reducible show wpAny _ _ (exec (Stmt.For _ _ _ _ _) _) _ _ _)))); dsimp only)))
        · rename Txt.count _ _ = _ => hcc
          rw [Int.zero_add] at hcc
          refine CEnd.intro hn3 F8 N8 off2 ⟨rfl, by rw [List.length_append, List.length_singleton]; (first | lia | omega), ?_⟩
          rw [eT, List.filter_append, List.filter_cons_of_pos (by simpa using hcc), List.filter_nil]
          exact StrsAre.snoc hS _ _
        · rename Txt.count _ _ ≠ _ => hcc
          rw [Int.zero_add] at hcc
          refine CEnd.intro hn3 F8 N8 off2 ⟨rfl, by (first | lia | omega), ?_⟩
          rw [eT, List.filter_append, List.filter_cons_of_neg (by simpa using hcc), List.filter_nil, List.append_nil]
          exact hS
      · rintro h9 C2 zs nw ⟨rfl, hzl, hS⟩ D2 h tk9 F7 N7 hD
        rw [show LCg.lst zs = W.listOf (List.toArray zs) zs.length from rfl] at N7
        rw [hil, List.take_of_length_le (Nat.le_refl _)] at hS
        have hzn : zs.length = (ps.filter fun p => Txt.count p (Str.ofString "/") == ((i : Nat) : Int)).length := StrsAre.len hS
        have hz9 := List.length_filter_le (fun p => Txt.count p (Str.ofString "/") == ((i : Nat) : Int)) ps
        (repeat' (first | (k_unfold; (try dsimp only)) | (k_end; wrow_close) | ((((fail_if_success (with_reducible show wpAny _ _ (exec (Stmt.Assign _ (Expr.ListComp _ _ _ _) _) _) _ _ _)); (fail_if_success (with_reducible show wpAny _ _ (eval (Expr.ListComp _ _ _ _) _) _ _ _)))); (((fail_if_success (with_reducible show wpAny _ _ (exec (Stmt.While _ _ _ _) _) _ _ _)); (fail_if_success (with_reducible show wpAny _ _ (exec (Stmt.For _ _ _ _ _) _) _ _ _)))); (first | with_reducible (k_here; (with_reducible show wpAny _ _ (call (Value.type "zip") _) _ _ _); (k_here; (refine zip_my (by k_asm) (by k_asm) (by ((repeat (first | (with_reducible assumption) | exact List.mem_cons_self | (refine List.mem_cons_of_mem _ ?_))))) (by ((repeat (first | (with_reducible assumption) | exact List.mem_cons_self | (refine List.mem_cons_of_mem _ ?_))))) ?_); intro _ _ _ _ _)) | with_reducible (k_here; (with_reducible show wpAny _ _ (eval (Expr.ListComp _ _ _ _) _) _ _ _); (k_here; (refine ListComp_my (by k_asm) (by with_unfolding_all rfl) (CMade.plain (by decide) rfl) (by rfl) (by decide) ?_ (by intro _; with_unfolding_all rfl)))) | with_reducible (k_here; (with_reducible show wpAny _ _ (exec (Stmt.Assign _ (Expr.ListComp _ _ _ _) _) _) _ _ _); (k_here; (refine Assign_ListComp_z (by k_asm) (by rfl) (by with_unfolding_all rfl) (by with_unfolding_all rfl) (by decide) (by rfl) (by decide) (by rfl) (by rfl) (by decide) (by rfl) (by rfl) ?_ (by intro _; with_unfolding_all rfl)))) | with_reducible (k_here; (with_reducible show wpAny _ _ (call (Value.type "int") _) _ _ _); (k_here; (refine' int_num_my ?ye ?ya ?yb ?_); (case ye => with_reducible assumption); (case ya => (first | lia | omega)); (case yb => (first | lia | omega)))) | with_reducible (k_here; (with_reducible show wpAny _ _ (compareOp CmpOp.NotIn _ _) _ _ _); (k_here; (refine' notin_my ?yN ?ym ?ys ?_); (case yN => k_asm); (case ym => ((repeat (first | (with_reducible assumption) | exact List.mem_cons_self | (refine List.mem_cons_of_mem _ ?_))))); (case ys => with_reducible assumption))) | with_reducible (k_here; (with_reducible show wpAny _ _ (call (Value.ref _) _) _ _ _); (k_here; (refine' base_spec ?yR ?yX ?yT ?yF ?yNw ?yhx ?_); (case yF => k_asm); (case yX => k_asm); (case yT => k_asm); (case yNw => k_asm); (case yR => exact Room.less (by assumption) (by decide)); (case yhx => with_reducible assumption); intro _ _ _ _ _)) | with_reducible (k_here; (with_reducible show wpAny _ _ (call (Value.ref _) _) _ _ _); (k_here; (refine' dir_spec ?yR ?yX ?yT ?yF ?yNw ?yhx ?_); (case yF => k_asm); (case yX => k_asm); (case yT => k_asm); (case yNw => k_asm); (case yR => exact Room.less (by assumption) (by decide)); (case yhx => with_reducible assumption); intro _ _ _ _ _)) | with_reducible (k_here; (with_reducible show wpAny _ _ (binaryOp _ (Value.ref _) (Value.ref _)) _ _ _); (refine' add_my ?yF ?yN ?ya ?yb ?yz ?_); (case yF => k_asm); (case yN => k_asm); (case ya => ((repeat (first | (with_reducible assumption) | exact List.mem_cons_self | (refine List.mem_cons_of_mem _ ?_))))); (case yb => ((repeat (first | (with_reducible assumption) | exact List.mem_cons_self | (refine List.mem_cons_of_mem _ ?_))))); (case yz => (try simp only [List.length_cons, List.length_nil]); (first | lia | omega)); intro _ _ _ _ _) | with_reducible (k_here; (with_reducible show wpAny _ _ (call (Value.builtin _) [Value.ref _, _]) _ _ _); (refine append_my (by k_asm) (by k_asm) (by with_reducible assumption) (by (first | lia | omega)) (by first | with_reducible assumption | exact rfl) ?_); intro _ _ _) | with_reducible (k_here; (with_reducible show wpAny _ _ (call (Value.builtin "len") [Value.ref _]) _ _ _); (refine len_at (by k_asm) (by with_reducible assumption) (by (first | lia | omega)) ?_); intro _ _) | walk1)) | ((((fail_if_success (with_reducible show wpAny _ _ (exec (Stmt.Assign _ (Expr.ListComp _ _ _ _) _) _) _ _ _)); (fail_if_success (with_reducible show wpAny _ _ (eval (Expr.ListComp _ _ _ _) _) _ _ _)))); (((fail_if_success (with_reducible show wpAny _ _ (exec (Stmt.While _ _ _ _) _) _ _ _)); (fail_if_success (with_reducible show wpAny _ _ (exec (Stmt.For _ _ _ _ _) _) _ _ _)))); dsimp only)))
        rename Fr _ L' _ _ => Fa
        rename News _ L' _ _ => Na
        refine CEnd.intro hn Fa (News.sub Na fun q hq => List.mem_cons_of_mem _ hq) off ⟨o3, _, rfl, hd3, hap, ?_⟩
        rw [List.take_add_one, List.getElem?_map, List.getElem?_range hi]
        exact ints_snoc hI4 _ _
    · rintro h9 C ys nw ⟨o, v0, rfl, hd, hap, hI4⟩ D h tk9 F4 N4 hD
      rw [List.take_of_length_le (by simp), hcnt] at hI4
      rw [show LCg.lst ys = W.listOf (List.toArray ys) ys.length from rfl] at N4
      (first | with_reducible (k_here; (with_reducible show wpAny _ _ (call (Value.type "zip") _) _ _ _); (k_here; (refine zip_my (by k_asm) (by k_asm) (by ((repeat (first | (with_reducible assumption) | exact List.mem_cons_self | (refine List.mem_cons_of_mem _ ?_))))) (by ((repeat (first | (with_reducible assumption) | exact List.mem_cons_self | (refine List.mem_cons_of_mem _ ?_))))) ?_); intro _ _ _ _ _)) | with_reducible (k_here; (with_reducible show wpAny _ _ (eval (Expr.ListComp _ _ _ _) _) _ _ _); (k_here; (refine ListComp_my (by k_asm) (by with_unfolding_all rfl) (CMade.plain (by decide) rfl) (by rfl) (by decide) ?_ (by intro _; with_unfolding_all rfl)))) | with_reducible (k_here; (with_reducible show wpAny _ _ (exec (Stmt.Assign _ (Expr.ListComp _ _ _ _) _) _) _ _ _); (k_here; (refine Assign_ListComp_z (by k_asm) (by rfl) (by with_unfolding_all rfl) (by with_unfolding_all rfl) (by decide) (by rfl) (by decide) (by rfl) (by rfl) (by decide) (by rfl) (by rfl) ?_ (by intro _; with_unfolding_all rfl)))) | with_reducible (k_here; (with_reducible show wpAny _ _ (call (Value.type "int") _) _ _ _); (k_here; (refine' int_num_my ?ye ?ya ?yb ?_); (case ye => with_reducible assumption); (case ya => (first | lia | omega)); (case yb => (first | lia | omega)))) | with_reducible (k_here; (with_reducible show wpAny _ _ (compareOp CmpOp.NotIn _ _) _ _ _); (k_here; (refine' notin_my ?yN ?ym ?ys ?_); (case yN => k_asm); (case ym => ((repeat (first | (with_reducible assumption) | exact List.mem_cons_self | (refine List.mem_cons_of_mem _ ?_))))); (case ys => with_reducible assumption))) | with_reducible (k_here; (with_reducible show wpAny _ _ (call (Value.ref _) _) _ _ _); (k_here; (refine' base_spec ?yR ?yX ?yT ?yF ?yNw ?yhx ?_); (case yF => k_asm); (case yX => k_asm); (case yT => k_asm); (case yNw => k_asm); (case yR => exact Room.less (by assumption) (by decide)); (case yhx => with_reducible assumption); intro _ _ _ _ _)) | with_reducible (k_here; (with_reducible show wpAny _ _ (call (Value.ref _) _) _ _ _); (k_here; (refine' dir_spec ?yR ?yX ?yT ?yF ?yNw ?yhx ?_); (case yF => k_asm); (case yX => k_asm); (case yT => k_asm); (case yNw => k_asm); (case yR => exact Room.less (by assumption) (by decide)); (case yhx => with_reducible assumption); intro _ _ _ _ _)) | with_reducible (k_here; (with_reducible show wpAny _ _ (binaryOp _ (Value.ref _) (Value.ref _)) _ _ _); (refine' add_my ?yF ?yN ?ya ?yb ?yz ?_); (case yF => k_asm); (case yN => k_asm); (case ya => ((repeat (first | (with_reducible assumption) | exact List.mem_cons_self | (refine List.mem_cons_of_mem _ ?_))))); (case yb => ((repeat (first | (with_reducible assumption) | exact List.mem_cons_self | (refine List.mem_cons_of_mem _ ?_))))); (case yz => (try simp only [List.length_cons, List.length_nil]); (first | lia | omega)); intro _ _ _ _ _) | with_reducible (k_here; (with_reducible show wpAny _ _ (call (Value.builtin _) [Value.ref _, _]) _ _ _); (refine append_my (by k_asm) (by k_asm) (by with_reducible assumption) (by (first | lia | omega)) (by first | with_reducible assumption | exact rfl) ?_); intro _ _ _) | with_reducible (k_here; (with_reducible show wpAny _ _ (call (Value.builtin "len") [Value.ref _]) _ _ _); (refine len_at (by k_asm) (by with_reducible assumption) (by (first | lia | omega)) ?_); intro _ _) | walk1)
      refine ne_ints_my N4 List.mem_cons_self (by ((repeat (first | (with_reducible assumption) | exact List.mem_cons_self | (refine List.mem_cons_of_mem _ ?_))))) hI4 hI (by have := RA.un; (first | lia | omega)) ?_
      rw [decide_eq_true rfl]
      (repeat' (first | (k_unfold; (try dsimp only)) | (k_end; wrow_close) | ((((fail_if_success (with_reducible show wpAny _ _ (exec (Stmt.Assign _ (Expr.ListComp _ _ _ _) _) _) _ _ _)); (fail_if_success (with_reducible show wpAny _ _ (eval (Expr.ListComp _ _ _ _) _) _ _ _)))); (((fail_if_success (with_reducible show wpAny _ _ (exec (Stmt.While _ _ _ _) _) _ _ _)); (fail_if_success (with_reducible show wpAny _ _ (exec (Stmt.For _ _ _ _ _) _) _ _ _)))); (first | with_reducible (k_here; (with_reducible show wpAny _ _ (call (Value.type "zip") _) _ _ _); (k_here; (refine zip_my (by k_asm) (by k_asm) (by ((repeat (first | (with_reducible assumption) | exact List.mem_cons_self | (refine List.mem_cons_of_mem _ ?_))))) (by ((repeat (first | (with_reducible assumption) | exact List.mem_cons_self | (refine List.mem_cons_of_mem _ ?_))))) ?_); intro _ _ _ _ _)) | with_reducible (k_here; (with_reducible show wpAny _ _ (eval (Expr.ListComp _ _ _ _) _) _ _ _); (k_here; (refine ListComp_my (by k_asm) (by with_unfolding_all rfl) (CMade.plain (by decide) rfl) (by rfl) (by decide) ?_ (by intro _; with_unfolding_all rfl)))) | with_reducible (k_here; (with_reducible show wpAny _ _ (exec (Stmt.Assign _ (Expr.ListComp _ _ _ _) _) _) _ _ _); (k_here; (refine Assign_ListComp_z (by k_asm) (by rfl) (by with_unfolding_all rfl) (by with_unfolding_all rfl) (by decide) (by rfl) (by decide) (by rfl) (by rfl) (by decide) (by rfl) (by rfl) ?_ (by intro _; with_unfolding_all rfl)))) | with_reducible (k_here; (with_reducible show wpAny _ _ (call (Value.type "int") _) _ _ _); (k_here; (refine' int_num_my ?ye ?ya ?yb ?_); (case ye => with_reducible assumption); (case ya => (first | lia | omega)); (case yb => (first | lia | omega)))) | with_reducible (k_here; (with_reducible show wpAny _ _ (compareOp CmpOp.NotIn _ _) _ _ _); (k_here; (refine' notin_my ?yN ?ym ?ys ?_); (case yN => k_asm); (case ym => ((repeat (first | (with_reducible assumption) | exact List.mem_cons_self | (refine List.mem_cons_of_mem _ ?_))))); (case ys => with_reducible assumption))) | with_reducible (k_here; (with_reducible show wpAny _ _ (call (Value.ref _) _) _ _ _); (k_here; (refine' base_spec ?yR ?yX ?yT ?yF ?yNw ?yhx ?_); (case yF => k_asm); (case yX => k_asm); (case yT => k_asm); (case yNw => k_asm); (case yR => exact Room.less (by assumption) (by decide)); (case yhx => with_reducible assumption); intro _ _ _ _ _)) | with_reducible (k_here; (with_reducible show wpAny _ _ (call (Value.ref _) _) _ _ _); (k_here; (refine' dir_spec ?yR ?yX ?yT ?yF ?yNw ?yhx ?_); (case yF => k_asm); (case yX => k_asm); (case yT => k_asm); (case yNw => k_asm); (case yR => exact Room.less (by assumption) (by decide)); (case yhx => with_reducible assumption); intro _ _ _ _ _)) | with_reducible (k_here; (with_reducible show wpAny _ _ (binaryOp _ (Value.ref _) (Value.ref _)) _ _ _); (refine' add_my ?yF ?yN ?ya ?yb ?yz ?_); (case yF => k_asm); (case yN => k_asm); (case ya => ((repeat (first | (with_reducible assumption) | exact List.mem_cons_self | (refine List.mem_cons_of_mem _ ?_))))); (case yb => ((repeat (first | (with_reducible assumption) | exact List.mem_cons_self | (refine List.mem_cons_of_mem _ ?_))))); (case yz => (try simp only [List.length_cons, List.length_nil]); (first | lia | omega)); intro _ _ _ _ _) | with_reducible (k_here; (with_reducible show wpAny _ _ (call (Value.builtin _) [Value.ref _, _]) _ _ _); (refine append_my (by k_asm) (by k_asm) (by with_reducible assumption) (by (first | lia | omega)) (by first | with_reducible assumption | exact rfl) ?_); intro _ _ _) | with_reducible (k_here; (with_reducible show wpAny _ _ (call (Value.builtin "len") [Value.ref _]) _ _ _); (refine len_at (by k_asm) (by with_reducible assumption) (by (first | lia | omega)) ?_); intro _ _) | walk1)) | ((((fail_if_success (with_reducible show wpAny _ _ (exec (Stmt.Assign _ (Expr.ListComp _ _ _ _) _) _) _ _ _)); (fail_if_success (with_reducible show wpAny _ _ (eval (Expr.ListComp _ _ _ _) _) _ _ _)))); (((fail_if_success (with_reducible show wpAny _ _ (exec (Stmt.While _ _ _ _) _) _ _ _)); (fail_if_success (with_reducible show wpAny _ _ (exec (Stmt.For _ _ _ _ _) _) _ _ _)))); dsimp only)))
      ((refine For_myF (by k_asm) (by with_unfolding_all rfl) (by with_unfolding_all rfl) ?_ (by intro _; with_unfolding_all rfl) PassesOwn.never))
      (repeat' (first | (k_unfold; (try dsimp only)) | (k_end; wrow_close) | ((((fail_if_success (with_reducible show wpAny _ _ (exec (Stmt.Assign _ (Expr.ListComp _ _ _ _) _) _) _ _ _)); (fail_if_success (with_reducible show wpAny _ _ (eval (Expr.ListComp _ _ _ _) _) _ _ _)))); (((fail_if_success (with_reducible show wpAny _ _ (exec (Stmt.While _ _ _ _) _) _ _ _)); (fail_if_success (with_reducible show wpAny _ _ (exec (Stmt.For _ _ _ _ _) _) _ _ _)))); (first | with_reducible (k_here; (with_reducible show wpAny _ _ (call (Value.type "zip") _) _ _ _); (k_here; (refine zip_my (by k_asm) (by k_asm) (by ((repeat (first | (with_reducible assumption) | exact List.mem_cons_self | (refine List.mem_cons_of_mem _ ?_))))) (by ((repeat (first | (with_reducible assumption) | exact List.mem_cons_self | (refine List.mem_cons_of_mem _ ?_))))) ?_); intro _ _ _ _ _)) | with_reducible (k_here; (with_reducible show wpAny _ _ (eval (Expr.ListComp _ _ _ _) _) _ _ _); (k_here; (refine ListComp_my (by k_asm) (by with_unfolding_all rfl) (CMade.plain (by decide) rfl) (by rfl) (by decide) ?_ (by intro _; with_unfolding_all rfl)))) | with_reducible (k_here; (with_reducible show wpAny _ _ (exec (Stmt.Assign _ (Expr.ListComp _ _ _ _) _) _) _ _ _); (k_here; (refine Assign_ListComp_z (by k_asm) (by rfl) (by with_unfolding_all rfl) (by with_unfolding_all rfl) (by decide) (by rfl) (by decide) (by rfl) (by rfl) (by decide) (by rfl) (by rfl) ?_ (by intro _; with_unfolding_all rfl)))) | with_reducible (k_here; (with_reducible show wpAny _ _ (call (Value.type "int") _) _ _ _); (k_here; (refine' int_num_my ?ye ?ya ?yb ?_); (case ye => with_reducible assumption); (case ya => (first | lia | omega)); (case yb => (first | lia | omega)))) | with_reducible (k_here; (with_reducible show wpAny _ _ (compareOp CmpOp.NotIn _ _) _ _ _); (k_here; (refine' notin_my ?yN ?ym ?ys ?_); (case yN => k_asm); (case ym => ((repeat (first | (with_reducible assumption) | exact List.mem_cons_self | (refine List.mem_cons_of_mem _ ?_))))); (case ys => with_reducible assumption))) | with_reducible (k_here; (with_reducible show wpAny _ _ (call (Value.ref _) _) _ _ _); (k_here; (refine' base_spec ?yR ?yX ?yT ?yF ?yNw ?yhx ?_); (case yF => k_asm); (case yX => k_asm); (case yT => k_asm); (case yNw => k_asm); (case yR => exact Room.less (by assumption) (by decide)); (case yhx => with_reducible assumption); intro _ _ _ _ _)) | with_reducible (k_here; (with_reducible show wpAny _ _ (call (Value.ref _) _) _ _ _); (k_here; (refine' dir_spec ?yR ?yX ?yT ?yF ?yNw ?yhx ?_); (case yF => k_asm); (case yX => k_asm); (case yT => k_asm); (case yNw => k_asm); (case yR => exact Room.less (by assumption) (by decide)); (case yhx => with_reducible assumption); intro _ _ _ _ _)) | with_reducible (k_here; (with_reducible show wpAny _ _ (binaryOp _ (Value.ref _) (Value.ref _)) _ _ _); (refine' add_my ?yF ?yN ?ya ?yb ?yz ?_); (case yF => k_asm); (case yN => k_asm); (case ya => ((repeat (first | (with_reducible assumption) | exact List.mem_cons_self | (refine List.mem_cons_of_mem _ ?_))))); (case yb => ((repeat (first | (with_reducible assumption) | exact List.mem_cons_self | (refine List.mem_cons_of_mem _ ?_))))); (case yz => (try simp only [List.length_cons, List.length_nil]); (first | lia | omega)); intro _ _ _ _ _) | with_reducible (k_here; (with_reducible show wpAny _ _ (call (Value.builtin _) [Value.ref _, _]) _ _ _); (refine append_my (by k_asm) (by k_asm) (by with_reducible assumption) (by (first | lia | omega)) (by first | with_reducible assumption | exact rfl) ?_); intro _ _ _) | with_reducible (k_here; (with_reducible show wpAny _ _ (call (Value.builtin "len") [Value.ref _]) _ _ _); (refine len_at (by k_asm) (by with_reducible assumption) (by (first | lia | omega)) ?_); intro _ _) | walk1)) | ((((fail_if_success (with_reducible show wpAny _ _ (exec (Stmt.Assign _ (Expr.ListComp _ _ _ _) _) _) _ _ _)); (fail_if_success (with_reducible show wpAny _ _ (eval (Expr.ListComp _ _ _ _) _) _ _ _)))); (((fail_if_success (with_reducible show wpAny _ _ (exec (Stmt.While _ _ _ _) _) _ _ _)); (fail_if_success (with_reducible show wpAny _ _ (exec (Stmt.For _ _ _ _ _) _) _ _ _)))); dsimp only)))
      rename Fr _ L' _ _ => F5
      rename News _ L' _ _ => N5
      have N5' : News g L' _ ((L' + 1, o') :: news) := News.sub N5 (by intro q hq; ((repeat (first | (with_reducible assumption) | exact List.mem_cons_self | (refine List.mem_cons_of_mem _ ?_)))))
      have hml : (la, W.listOf its.toArray ep) ∈ (L' + 1, o') :: news := List.mem_cons_of_mem _ hm
      refine LoopMy.list (vs := its) (ep := ep) (fun i m nw => nw = (L' + 1, o') :: news ∧ m = ovr [(Str.ofString "top", .int t tt)] m) rfl F5 N5' (fun i m nw hj => by rw [hj.1]; exact hml) ⟨rfl, by ((refine ovr_of ?_; repeat (first | exact List.forall_mem_nil _ | (refine List.forall_mem_cons.mpr ⟨by with_unfolding_all rfl, ?_⟩))))⟩ ?_ ?_
      · rintro I i v m₁ news₁ h tk oI hi hv ⟨rfl, hmm⟩ off F6 N6
        obtain ⟨pa, tp, hpa, rfl⟩ := strs_at hps hv
        have hpm := List.mem_of_getElem? hpa
        obtain ⟨hpl, hcase⟩ := hpath pa hpm
        rw [hmm] at F6
        rcases up_of hcase with hpt | ⟨hdm, a, b, ha0, hab, hb9, eA, eB⟩
        · rw [show num t = Str.ofString (toString t) from rfl] at hpt
          subst hpt
          (repeat' (first | (k_unfold; (try dsimp only)) | (k_end; wrow_close) | ((((fail_if_success (with_reducible show wpAny _ _ (exec (Stmt.Assign _ (Expr.ListComp _ _ _ _) _) _) _ _ _)); (fail_if_success (with_reducible show wpAny _ _ (eval (Expr.ListComp _ _ _ _) _) _ _ _)))); (((fail_if_success (with_reducible show wpAny _ _ (exec (Stmt.While _ _ _ _) _) _ _ _)); (fail_if_success (with_reducible show wpAny _ _ (exec (Stmt.For _ _ _ _ _) _) _ _ _)))); (first | with_reducible (k_here; (with_reducible show wpAny _ _ (call (Value.type "zip") _) _ _ _); (k_here; (refine zip_my (by k_asm) (by k_asm) (by ((repeat (first | (with_reducible assumption) | exact List.mem_cons_self | (refine List.mem_cons_of_mem _ ?_))))) (by ((repeat (first | (with_reducible assumption) | exact List.mem_cons_self | (refine List.mem_cons_of_mem _ ?_))))) ?_); intro _ _ _ _ _)) | with_reducible (k_here; (with_reducible show wpAny _ _ (eval (Expr.ListComp _ _ _ _) _) _ _ _); (k_here; (refine ListComp_my (by k_asm) (by with_unfolding_all rfl) (CMade.plain (by decide) rfl) (by rfl) (by decide) ?_ (by intro _; with_unfolding_all rfl)))) | with_reducible (k_here; (with_reducible show wpAny _ _ (exec (Stmt.Assign _ (Expr.ListComp _ _ _ _) _) _) _ _ _); (k_here; (refine Assign_ListComp_z (by k_asm) (by rfl) (by with_unfolding_all rfl) (by with_unfolding_all rfl) (by decide) (by rfl) (by decide) (by rfl) (by rfl) (by decide) (by rfl) (by rfl) ?_ (by intro _; with_unfolding_all rfl)))) | with_reducible (k_here; (with_reducible show wpAny _ _ (call (Value.type "int") _) _ _ _); (k_here; (refine' int_num_my ?ye ?ya ?yb ?_); (case ye => with_reducible assumption); (case ya => (first | lia | omega)); (case yb => (first | lia | omega)))) | with_reducible (k_here; (with_reducible show wpAny _ _ (compareOp CmpOp.NotIn _ _) _ _ _); (k_here; (refine' notin_my ?yN ?ym ?ys ?_); (case yN => k_asm); (case ym => ((repeat (first | (with_reducible assumption) | exact List.mem_cons_self | (refine List.mem_cons_of_mem _ ?_))))); (case ys => with_reducible assumption))) | with_reducible (k_here; (with_reducible show wpAny _ _ (call (Value.ref _) _) _ _ _); (k_here; (refine' base_spec ?yR ?yX ?yT ?yF ?yNw ?yhx ?_); (case yF => k_asm); (case yX => k_asm); (case yT => k_asm); (case yNw => k_asm); (case yR => exact Room.less (by assumption) (by decide)); (case yhx => with_reducible assumption); intro _ _ _ _ _)) | with_reducible (k_here; (with_reducible show wpAny _ _ (call (Value.ref _) _) _ _ _); (k_here; (refine' dir_spec ?yR ?yX ?yT ?yF ?yNw ?yhx ?_); (case yF => k_asm); (case yX => k_asm); (case yT => k_asm); (case yNw => k_asm); (case yR => exact Room.less (by assumption) (by decide)); (case yhx => with_reducible assumption); intro _ _ _ _ _)) | with_reducible (k_here; (with_reducible show wpAny _ _ (binaryOp _ (Value.ref _) (Value.ref _)) _ _ _); (refine' add_my ?yF ?yN ?ya ?yb ?yz ?_); (case yF => k_asm); (case yN => k_asm); (case ya => ((repeat (first | (with_reducible assumption) | exact List.mem_cons_self | (refine List.mem_cons_of_mem _ ?_))))); (case yb => ((repeat (first | (with_reducible assumption) | exact List.mem_cons_self | (refine List.mem_cons_of_mem _ ?_))))); (case yz => (try simp only [List.length_cons, List.length_nil]); (first | lia | omega)); intro _ _ _ _ _) | with_reducible (k_here; (with_reducible show wpAny _ _ (call (Value.builtin _) [Value.ref _, _]) _ _ _); (refine append_my (by k_asm) (by k_asm) (by with_reducible assumption) (by (first | lia | omega)) (by first | with_reducible assumption | exact rfl) ?_); intro _ _ _) | with_reducible (k_here; (with_reducible show wpAny _ _ (call (Value.builtin "len") [Value.ref _]) _ _ _); (refine len_at (by k_asm) (by with_reducible assumption) (by (first | lia | omega)) ?_); intro _ _) | walk1)) | ((((fail_if_success (with_reducible show wpAny _ _ (exec (Stmt.Assign _ (Expr.ListComp _ _ _ _) _) _) _ _ _)); (fail_if_success (with_reducible show wpAny _ _ (eval (Expr.ListComp _ _ _ _) _) _ _ _)))); (((fail_if_success (with_reducible show wpAny _ _ (exec (Stmt.While _ _ _ _) _) _ _ _)); (fail_if_success (with_reducible show wpAny _ _ (exec (Stmt.For _ _ _ _ _) _) _ _ _)))); dsimp only)))
          · exfalso; rename (_ != _) = true => hb; simp at hb
          · exfalso; rename (_ != _) = true => hb; simp at hb
          · rename Fr _ L' _ _ => F7
            rename News _ L' _ _ => N7
            exact TurnMy.intro (.inl rfl) F7 N7 off ⟨rfl, by ((refine ovr_of ?_; repeat (first | exact List.forall_mem_nil _ | (refine List.forall_mem_cons.mpr ⟨by with_unfolding_all rfl, ?_⟩))))⟩
        · have hdl := (hpath _ hdm).1
          (repeat' (first | (k_unfold; (try dsimp only)) | (k_end; wrow_close) | ((((fail_if_success (with_reducible show wpAny _ _ (exec (Stmt.Assign _ (Expr.ListComp _ _ _ _) _) _) _ _ _)); (fail_if_success (with_reducible show wpAny _ _ (eval (Expr.ListComp _ _ _ _) _) _ _ _)))); (((fail_if_success (with_reducible show wpAny _ _ (exec (Stmt.While _ _ _ _) _) _ _ _)); (fail_if_success (with_reducible show wpAny _ _ (exec (Stmt.For _ _ _ _ _) _) _ _ _)))); (first | with_reducible (k_here; (with_reducible show wpAny _ _ (call (Value.type "zip") _) _ _ _); (k_here; (refine zip_my (by k_asm) (by k_asm) (by ((repeat (first | (with_reducible assumption) | exact List.mem_cons_self | (refine List.mem_cons_of_mem _ ?_))))) (by ((repeat (first | (with_reducible assumption) | exact List.mem_cons_self | (refine List.mem_cons_of_mem _ ?_))))) ?_); intro _ _ _ _ _)) | with_reducible (k_here; (with_reducible show wpAny _ _ (eval (Expr.ListComp _ _ _ _) _) _ _ _); (k_here; (refine ListComp_my (by k_asm) (by with_unfolding_all rfl) (CMade.plain (by decide) rfl) (by rfl) (by decide) ?_ (by intro _; with_unfolding_all rfl)))) | with_reducible (k_here; (with_reducible show wpAny _ _ (exec (Stmt.Assign _ (Expr.ListComp _ _ _ _) _) _) _ _ _); (k_here; (refine Assign_ListComp_z (by k_asm) (by rfl) (by with_unfolding_all rfl) (by with_unfolding_all rfl) (by decide) (by rfl) (by decide) (by rfl) (by rfl) (by decide) (by rfl) (by rfl) ?_ (by intro _; with_unfolding_all rfl)))) | with_reducible (k_here; (with_reducible show wpAny _ _ (call (Value.type "int") _) _ _ _); (k_here; (refine' int_num_my ?ye ?ya ?yb ?_); (case ye => with_reducible assumption); (case ya => (first | lia | omega)); (case yb => (first | lia | omega)))) | with_reducible (k_here; (with_reducible show wpAny _ _ (compareOp CmpOp.NotIn _ _) _ _ _); (k_here; (refine' notin_my ?yN ?ym ?ys ?_); (case yN => k_asm); (case ym => ((repeat (first | (with_reducible assumption) | exact List.mem_cons_self | (refine List.mem_cons_of_mem _ ?_))))); (case ys => with_reducible assumption))) | with_reducible (k_here; (with_reducible show wpAny _ _ (call (Value.ref _) _) _ _ _); (k_here; (refine' base_spec ?yR ?yX ?yT ?yF ?yNw ?yhx ?_); (case yF => k_asm); (case yX => k_asm); (case yT => k_asm); (case yNw => k_asm); (case yR => exact Room.less (by assumption) (by decide)); (case yhx => with_reducible assumption); intro _ _ _ _ _)) | with_reducible (k_here; (with_reducible show wpAny _ _ (call (Value.ref _) _) _ _ _); (k_here; (refine' dir_spec ?yR ?yX ?yT ?yF ?yNw ?yhx ?_); (case yF => k_asm); (case yX => k_asm); (case yT => k_asm); (case yNw => k_asm); (case yR => exact Room.less (by assumption) (by decide)); (case yhx => with_reducible assumption); intro _ _ _ _ _)) | with_reducible (k_here; (with_reducible show wpAny _ _ (binaryOp _ (Value.ref _) (Value.ref _)) _ _ _); (refine' add_my ?yF ?yN ?ya ?yb ?yz ?_); (case yF => k_asm); (case yN => k_asm); (case ya => ((repeat (first | (with_reducible assumption) | exact List.mem_cons_self | (refine List.mem_cons_of_mem _ ?_))))); (case yb => ((repeat (first | (with_reducible assumption) | exact List.mem_cons_self | (refine List.mem_cons_of_mem _ ?_))))); (case yz => (try simp only [List.length_cons, List.length_nil]); (first | lia | omega)); intro _ _ _ _ _) | with_reducible (k_here; (with_reducible show wpAny _ _ (call (Value.builtin _) [Value.ref _, _]) _ _ _); (refine append_my (by k_asm) (by k_asm) (by with_reducible assumption) (by (first | lia | omega)) (by first | with_reducible assumption | exact rfl) ?_); intro _ _ _) | with_reducible (k_here; (with_reducible show wpAny _ _ (call (Value.builtin "len") [Value.ref _]) _ _ _); (refine len_at (by k_asm) (by with_reducible assumption) (by (first | lia | omega)) ?_); intro _ _) | walk1)) | ((((fail_if_success (with_reducible show wpAny _ _ (exec (Stmt.Assign _ (Expr.ListComp _ _ _ _) _) _) _ _ _)); (fail_if_success (with_reducible show wpAny _ _ (eval (Expr.ListComp _ _ _ _) _) _ _ _)))); (((fail_if_success (with_reducible show wpAny _ _ (exec (Stmt.While _ _ _ _) _) _ _ _)); (fail_if_success (with_reducible show wpAny _ _ (exec (Stmt.For _ _ _ _ _) _) _ _ _)))); dsimp only)))
          · rename Fr _ L' _ _ => F7
            rename News _ L' _ _ => N7
            exact TurnMy.intro (.inl rfl) F7 N7 off ⟨rfl, by ((refine ovr_of ?_; repeat (first | exact List.forall_mem_nil _ | (refine List.forall_mem_cons.mpr ⟨by with_unfolding_all rfl, ?_⟩))))⟩
          · exfalso; rename ¬ (_ ∈ _) => hb; exact hb hdm
          · rename Fr _ L' _ _ => F7
            rename News _ L' _ _ => N7
            exact TurnMy.intro (.inl rfl) F7 N7 off ⟨rfl, by ((refine ovr_of ?_; repeat (first | exact List.forall_mem_nil _ | (refine List.forall_mem_cons.mpr ⟨by with_unfolding_all rfl, ?_⟩))))⟩
      · rintro h tk m₁ news₁ ⟨rfl, hmm⟩ F6 N6
        (repeat' (first | (k_unfold; (try dsimp only)) | (k_end; wrow_close) | ((((fail_if_success (with_reducible show wpAny _ _ (exec (Stmt.Assign _ (Expr.ListComp _ _ _ _) _) _) _ _ _)); (fail_if_success (with_reducible show wpAny _ _ (eval (Expr.ListComp _ _ _ _) _) _ _ _)))); (((fail_if_success (with_reducible show wpAny _ _ (exec (Stmt.While _ _ _ _) _) _ _ _)); (fail_if_success (with_reducible show wpAny _ _ (exec (Stmt.For _ _ _ _ _) _) _ _ _)))); (first | with_reducible (k_here; (with_reducible show wpAny _ _ (call (Value.type "zip") _) _ _ _); (k_here; (refine zip_my (by k_asm) (by k_asm) (by ((repeat (first | (with_reducible assumption) | exact List.mem_cons_self | (refine List.mem_cons_of_mem _ ?_))))) (by ((repeat (first | (with_reducible assumption) | exact List.mem_cons_self | (refine List.mem_cons_of_mem _ ?_))))) ?_); intro _ _ _ _ _)) | with_reducible (k_here; (with_reducible show wpAny _ _ (eval (Expr.ListComp _ _ _ _) _) _ _ _); (k_here; (refine ListComp_my (by k_asm) (by with_unfolding_all rfl) (CMade.plain (by decide) rfl) (by rfl) (by decide) ?_ (by intro _; with_unfolding_all rfl)))) | with_reducible (k_here; (with_reducible show wpAny _ _ (exec (Stmt.Assign _ (Expr.ListComp _ _ _ _) _) _) _ _ _); (k_here; (refine Assign_ListComp_z (by k_asm) (by rfl) (by with_unfolding_all rfl) (by with_unfolding_all rfl) (by decide) (by rfl) (by decide) (by rfl) (by rfl) (by decide) (by rfl) (by rfl) ?_ (by intro _; with_unfolding_all rfl)))) | with_reducible (k_here; (with_reducible show wpAny _ _ (call (Value.type "int") _) _ _ _); (k_here; (refine' int_num_my ?ye ?ya ?yb ?_); (case ye => with_reducible assumption); (case ya => (first | lia | omega)); (case yb => (first | lia | omega)))) | with_reducible (k_here; (with_reducible show wpAny _ _ (compareOp CmpOp.NotIn _ _) _ _ _); (k_here; (refine' notin_my ?yN ?ym ?ys ?_); (case yN => k_asm); (case ym => ((repeat (first | (with_reducible assumption) | exact List.mem_cons_self | (refine List.mem_cons_of_mem _ ?_))))); (case ys => with_reducible assumption))) | with_reducible (k_here; (with_reducible show wpAny _ _ (call (Value.ref _) _) _ _ _); (k_here; (refine' base_spec ?yR ?yX ?yT ?yF ?yNw ?yhx ?_); (case yF => k_asm); (case yX => k_asm); (case yT => k_asm); (case yNw => k_asm); (case yR => exact Room.less (by assumption) (by decide)); (case yhx => with_reducible assumption); intro _ _ _ _ _)) | with_reducible (k_here; (with_reducible show wpAny _ _ (call (Value.ref _) _) _ _ _); (k_here; (refine' dir_spec ?yR ?yX ?yT ?yF ?yNw ?yhx ?_); (case yF => k_asm); (case yX => k_asm); (case yT => k_asm); (case yNw => k_asm); (case yR => exact Room.less (by assumption) (by decide)); (case yhx => with_reducible assumption); intro _ _ _ _ _)) | with_reducible (k_here; (with_reducible show wpAny _ _ (binaryOp _ (Value.ref _) (Value.ref _)) _ _ _); (refine' add_my ?yF ?yN ?ya ?yb ?yz ?_); (case yF => k_asm); (case yN => k_asm); (case ya => ((repeat (first | (with_reducible assumption) | exact List.mem_cons_self | (refine List.mem_cons_of_mem _ ?_))))); (case yb => ((repeat (first | (with_reducible assumption) | exact List.mem_cons_self | (refine List.mem_cons_of_mem _ ?_))))); (case yz => (try simp only [List.length_cons, List.length_nil]); (first | lia | omega)); intro _ _ _ _ _) | with_reducible (k_here; (with_reducible show wpAny _ _ (call (Value.builtin _) [Value.ref _, _]) _ _ _); (refine append_my (by k_asm) (by k_asm) (by with_reducible assumption) (by (first | lia | omega)) (by first | with_reducible assumption | exact rfl) ?_); intro _ _ _) | with_reducible (k_here; (with_reducible show wpAny _ _ (call (Value.builtin "len") [Value.ref _]) _ _ _); (refine len_at (by k_asm) (by with_reducible assumption) (by (first | lia | omega)) ?_); intro _ _) | walk1)) | ((((fail_if_success (with_reducible show wpAny _ _ (exec (Stmt.Assign _ (Expr.ListComp _ _ _ _) _) _) _ _ _)); (fail_if_success (with_reducible show wpAny _ _ (eval (Expr.ListComp _ _ _ _) _) _ _ _)))); (((fail_if_success (with_reducible show wpAny _ _ (exec (Stmt.While _ _ _ _) _) _ _ _)); (fail_if_success (with_reducible show wpAny _ _ (exec (Stmt.For _ _ _ _ _) _) _ _ _)))); dsimp only)))
        rename Fr b0 L _ _ => F7
        rename News b0 L _ _ => N7
        exact ret _ _ F7 (News.sub N7 fun q hq => List.mem_cons_of_mem _ hq)
end
end
section
/-! texts of paths -/
theorem str_ext {x y : Str} (h : x.cps.toList = y.cps.toList) : x = y := by
  cases x; cases y
  exact congrArg Str.mk (Array.toList_inj.mp h)
theorem str_len (x : Str) : x.cps.toList.length = x.length := by simp [Str.length]
theorem cat_list (x y : Str) : (x ++ y).cps.toList = x.cps.toList ++ y.cps.toList := cps_toList_append x y
theorem cat_len (x y : Str) : (x ++ y).length = x.length + y.length := by
  rw [← str_len, cat_list, List.length_append, str_len, str_len]
theorem at_one (s : Str) (i : Nat) : StrLaws.At s sl s.length i ↔ s.cps.toList[i]? = some 47 := StrLaws.subAt_one s 47 i
theorem cat_at {x y : Str} : (x ++ (sl ++ y)).cps.toList[x.length]? = some 47 := by
  rw [cat_list, List.getElem?_append_right (by rw [str_len]; exact Nat.le_refl _), str_len, Nat.sub_self, cat_list]
  rfl
theorem rfind_free {y : Str} (h : 47 ∉ y.cps.toList) : Txt.rfind y sl = -1 := by
  rcases rfind_whole y sl with ⟨e, _⟩ | ⟨i, _, ha, _⟩
  · exact e
  · exact absurd (List.mem_of_getElem? ((at_one _ _).mp ha)) h
theorem rfind_cat {x y : Str} (h : 47 ∉ y.cps.toList) : Txt.rfind (x ++ (sl ++ y)) sl = (x.length : Nat) := by
  rcases rfind_whole (x ++ (sl ++ y)) sl with ⟨_, hn⟩ | ⟨i, e, ha, hn⟩
  · exact absurd ((at_one _ _).mpr cat_at) (hn x.length)
  · rw [e]
    have h1 : ¬ i < x.length := fun hlt => hn x.length hlt ((at_one _ _).mpr cat_at)
    have h2 : ¬ x.length < i := fun hlt => by
      have := (at_one _ _).mp ha
      rw [cat_list, List.getElem?_append_right (by rw [str_len]; (first | lia | omega)), str_len, cat_list] at this
      have hk : ([47] ++ y.cps.toList)[i - x.length]? = some 47 := this
      rw [List.getElem?_append_right (by simp; (first | lia | omega))] at hk
      exact h (List.mem_of_getElem? hk)
    (first | lia | omega)
theorem base_free {y : Str} (h : 47 ∉ y.cps.toList) : pBase y = y := by
  unfold pBase
  rw [sl_eq, rfind_free h, slice_from_eq (b := y.length) (by decide) (by (first | lia | omega)) rfl]
  refine str_ext ?_
  show List.take _ (List.drop 0 _) = _
  rw [List.drop_zero, List.take_of_length_le (by rw [str_len]; (first | lia | omega))]
theorem base_cat {x y : Str} (h : 47 ∉ y.cps.toList) : pBase (x ++ (sl ++ y)) = y := by
  have hl : (x ++ (sl ++ y)).length = x.length + (1 + y.length) := by rw [cat_len, cat_len]; rfl
  unfold pBase
  rw [sl_eq, rfind_cat h, slice_from_eq (b := (x ++ (sl ++ y)).length) (by (first | lia | omega)) (by (first | lia | omega)) rfl]
  refine str_ext ?_
  show List.take _ (List.drop (x.length + 1) _) = _
  rw [cat_list, List.drop_append, List.drop_eq_nil_of_le (by rw [str_len]; (first | lia | omega)), str_len, Nat.add_sub_cancel_left, cat_list]
  show List.take _ y.cps.toList = _
  rw [List.take_of_length_le (by rw [str_len]; (first | lia | omega))]
theorem head_cat {x y : Str} (h : 47 ∉ y.cps.toList) : pHead (x ++ (sl ++ y)) = x ++ sl := by
  have hl : (x ++ (sl ++ y)).length = x.length + (1 + y.length) := by rw [cat_len, cat_len]; rfl
  unfold pHead
  rw [sl_eq, rfind_cat h]
  rw [beq_iff_eq.mp (slice_closes_toL (x := x ++ (sl ++ y)) (j := (x.length : Nat) + 1) (by (first | lia | omega)) (by (first | lia | omega)))]
  refine str_ext ?_
  show List.take _ (List.drop 0 _) = _
  rw [List.drop_zero, show ((((x.length : Nat) : Int) + 1) - 0).toNat = x.length + 1 by (first | lia | omega), cat_list, cat_list, cat_list, List.take_append, List.take_of_length_le (by rw [str_len]; (first | lia | omega)), str_len, Nat.add_sub_cancel_left]
  rfl
theorem fold_all (c : Nat) (l : List (Array Nat)) (h : ∀ a ∈ l, ∀ b ∈ a.toList, b = c) : ∀ z : Array Nat, (∀ b ∈ z.toList, b = c) → ∀ b ∈ (l.foldl (· ++ ·) z).toList, b = c := by
  induction l with
  | nil => intro z hz b hb; exact hz b hb
  | cons a r ih =>
    intro z hz
    refine ih (fun a' ha' => h a' (List.mem_cons_of_mem _ ha')) (z ++ a) fun b hb => ?_
    rw [Array.toList_append] at hb
    rcases List.mem_append.mp hb with hb | hb
    · exact hz b hb
    · exact h a List.mem_cons_self b hb
theorem mul_all (n : Int) : ∀ b ∈ (Txt.mul sl n).cps.toList, b = 47 := by
  unfold Txt.mul
  split
  · intro b hb; cases hb
  · split
    · intro b hb
      rcases List.mem_cons.mp hb with rfl | hb
      · rfl
      · cases hb
    · refine fold_all 47 _ (fun a ha b hb => ?_) #[] (fun b hb => by cases hb)
      have := List.eq_of_mem_replicate ha
      subst this
      rcases List.mem_cons.mp hb with rfl | hb
      · rfl
      · cases hb
theorem rstrip_cat {x : Str} {c : Nat} (hx : x.cps.toList[x.length - 1]? = some c) (hc : c ≠ 47) (hl : 1 ≤ x.length) : Txt.rstripChars (x ++ sl) sl = x := by
  have hlen : (x ++ sl).length = x.length + 1 := by rw [cat_len]; rfl
  have hgd : ∀ k, (x ++ sl).cps.getD k 0 = (x.cps.toList ++ [47]).getD k 0 := fun k => by
    rw [← getD_list, cat_list]; rfl
  unfold Txt.rstripChars
  rw [PyProof.Rows.stripBy_eq]
  have e0 : stripLo sl.cps.contains false (x ++ sl) = 0 := rfl
  rw [e0]
  obtain ⟨_, h1, h2, h3⟩ := hi_facts sl.cps.contains (x ++ sl) 0 (Nat.zero_le _)
  have hcx : (x ++ sl).cps.getD (x.length - 1) 0 = c := by
    rw [hgd, List.getD, List.getElem?_append_left (by rw [str_len]; (first | lia | omega)), hx]; rfl
  have h47 : (x ++ sl).cps.getD x.length 0 = 47 := by
    rw [hgd, List.getD, List.getElem?_append_right (by rw [str_len]; exact Nat.le_refl _), str_len, Nat.sub_self]; rfl
  have g47 : sl.cps.contains 47 = true := by decide +kernel
  have gc : sl.cps.contains c = false := by
    show (#[47] : Array Nat).contains c = false
    simp [hc]
  generalize stripHi sl.cps.contains true (x ++ sl) 0 = hi at h1 h2 h3
  have a1 : ¬ hi < x.length := fun hlt => by
    have := h2 (x.length - 1) (by (first | lia | omega)) (by (first | lia | omega))
    rw [hcx, gc] at this; cases this
  have a2 : hi ≠ x.length + 1 := fun e => by
    rcases h3 with h3 | h3
    · (first | lia | omega)
    · rw [e, Nat.add_sub_cancel, h47, g47] at h3; cases h3
  have : hi = x.length := by (first | lia | omega)
  subst this
  refine str_ext ?_
  show ((x ++ sl).cps.extract 0 x.length).toList = _
  rw [Array.toList_extract, List.extract_eq_take_drop, cat_list, List.drop_zero, Nat.sub_zero, List.take_append, List.take_of_length_le (by rw [str_len]; (first | lia | omega)), str_len, Nat.sub_self, List.take_zero, List.append_nil]
theorem dir_cat {x y : Str} {c : Nat} (hx : x.cps.toList[x.length - 1]? = some c) (hc : c ≠ 47) (hl : 1 ≤ x.length) (h : 47 ∉ y.cps.toList) : pDir (x ++ (sl ++ y)) = x := by
  unfold pDir
  rw [head_cat h, sl_eq, if_pos]
  · exact rstrip_cat hx hc hl
  · have hlen : (x ++ sl).length = x.length + 1 := by rw [cat_len]; rfl
    refine ⟨by (first | lia | omega), ?_⟩
    rw [bne_iff_ne]
    intro e
    have hm : c ∈ (x ++ sl).cps.toList := by rw [cat_list]; exact List.mem_append_left _ (List.mem_of_getElem? hx)
    rw [e] at hm
    exact hc (mul_all _ _ hm)
noncomputable def rend : List Int → Str
  | [] => Str.empty
  | [a] => num a
  | a :: b :: l => num a ++ (Str.ofString "/" ++ rend (b :: l))
theorem rend_cons {a : Int} {p : List Int} (h : p ≠ []) : rend (a :: p) = num a ++ (Str.ofString "/" ++ rend p) := by
  cases p with
  | nil => exact absurd rfl h
  | cons b l => rfl
theorem str_assoc (x y z : Str) : x ++ y ++ z = x ++ (y ++ z) := by
  refine str_ext ?_
  rw [cat_list, cat_list, cat_list, cat_list, List.append_assoc]
theorem rend_snoc {q : List Int} (h : q ≠ []) (b : Int) : rend (q ++ [b]) = rend q ++ (sl ++ num b) := by
  induction q with
  | nil => exact absurd rfl h
  | cons a r ih =>
    cases r with
    | nil => show num a ++ (Str.ofString "/" ++ num b) = num a ++ (sl ++ num b); rw [sl_eq]
    | cons c r =>
      rw [List.cons_append, rend_cons (p := c :: r ++ [b]) (by simp), ih (by simp), rend_cons (a := a) (p := c :: r) (by simp), str_assoc, str_assoc]
theorem rend_end {q : List Int} (h : q ≠ []) (hs : ∀ a ∈ q, 0 ≤ a) : 1 ≤ (rend q).length ∧ ∃ c, (rend q).cps.toList[(rend q).length - 1]? = some c ∧ c ≠ 47 := by
  have key : ∀ b : Int, 0 ≤ b → ∀ z : Str, 1 ≤ (z ++ num b).length ∧ ∃ c, (z ++ num b).cps.toList[(z ++ num b).length - 1]? = some c ∧ c ≠ 47 := fun b hb z => by
    have h1 := num_pos hb
    have hl := cat_len z (num b)
    refine ⟨by (first | lia | omega), ?_⟩
    rw [cat_list, List.getElem?_append_right (by rw [str_len]; (first | lia | omega)), str_len]
    have hlt : (z ++ num b).length - 1 - z.length < (num b).cps.toList.length := by rw [str_len]; (first | lia | omega)
    refine ⟨_, List.getElem?_eq_getElem hlt, fun e => num_free b ?_⟩
    rw [← e]; exact List.getElem_mem hlt
  rcases List.eq_nil_or_concat q with rfl | ⟨r, b, rfl⟩
  · exact absurd rfl h
  · rw [List.concat_eq_append] at *
    by_cases hr : r = []
    · subst hr
      have := key b (hs b (by simp)) Str.empty
      have e : Str.empty ++ num b = num b := str_ext (by rw [cat_list]; rfl)
      rw [e] at this
      exact this
    · rw [rend_snoc hr, ← str_assoc]
      exact key b (hs b (by simp)) _
theorem snoc_of {α : Type} {p : List α} {b : α} (h : p.getLast? = some b) : p = p.dropLast ++ [b] := by
  have hne : p ≠ [] := by intro e; subst e; cases h
  have := List.dropLast_concat_getLast hne
  rw [List.getLast?_eq_some_getLast hne] at h
  rw [← Option.some.inj h]; exact this.symm
theorem base_rend {p : List Int} {b : Int} (h : p.getLast? = some b) : pBase (rend p) = num b := by
  rw [snoc_of h]
  by_cases hr : p.dropLast = []
  · rw [hr]; exact base_free (num_free b)
  · rw [rend_snoc hr]; exact base_cat (num_free b)
theorem dir_rend {p : List Int} (hl : 2 ≤ p.length) (hs : ∀ a ∈ p, 0 ≤ a) : pDir (rend p) = rend p.dropLast := by
  have hne : p ≠ [] := by intro e; subst e; simp at hl
  have hg := List.getLast?_eq_some_getLast hne
  have hr : p.dropLast ≠ [] := by
    intro e
    have := congrArg List.length e
    simp at this; (first | lia | omega)
  obtain ⟨h1, c, hc, hc2⟩ := rend_end hr fun a ha => hs a ((List.dropLast_sublist _).subset ha)
  conv => lhs; rw [snoc_of hg]
  rw [rend_snoc hr]
  exact dir_cat hc hc2 h1 (num_free _)
theorem cnt_free {c : Nat} {l : List Nat} (h : c ∉ l) : cnt c l = 0 := by
  induction l with
  | nil => rfl
  | cons n r ih =>
    rw [cnt_cons, if_neg (fun e => h (by rw [e]; exact List.mem_cons_self)), ih fun hm => h (List.mem_cons_of_mem _ hm)]; rfl
theorem count_rend {p : List Int} (h : p ≠ []) : Txt.count (rend p) (Str.ofString "/") = (p.length : Int) - 1 := by
  rw [sl_eq]
  show Txt.count (rend p) ⟨#[47]⟩ = _
  rw [count_cnt]
  induction p with
  | nil => exact absurd rfl h
  | cons a r ih =>
    cases r with
    | nil => show cnt 47 (num a).cps.toList = _; rw [cnt_free (num_free a)]; rfl
    | cons b l =>
      have ih := ih (by simp)
      rw [rend_cons (by simp), cat_list, cat_list, cnt_append, cnt_append, cnt_free (num_free a), ih, sl_eq]
      show 0 + (1 + _) = _
      simp only [List.length_cons]
      (first | lia | omega)
theorem len_rend {p : List Int} (hs : ∀ a ∈ p, 0 ≤ a ∧ a < 2 ^ 20) : (rend p).length ≤ 11 * p.length := by
  induction p with
  | nil => exact Nat.le_refl _
  | cons a r ih =>
    have hn := num_len (hs a List.mem_cons_self).1 (by have := (hs a List.mem_cons_self).2; (first | lia | omega))
    cases r with
    | nil => show (num a).length ≤ _; simp only [List.length_cons, List.length_nil]; (first | lia | omega)
    | cons b l =>
      have ih := ih fun a ha => hs a (List.mem_cons_of_mem _ ha)
      rw [rend_cons (by simp), cat_len, cat_len, sl_eq]
      show _ + (1 + _) ≤ _
      rw [List.length_cons (a := a)]
      (first | lia | omega)
theorem starts_rend {p : List Int} (h : p ≠ []) (hs : ∀ a ∈ p, 0 ≤ a) : Txt.startswith (rend p) (Str.ofString "/") = false := by
  cases p with
  | nil => exact absurd rfl h
  | cons a r =>
    cases r with
    | nil => exact num_starts a
    | cons b l => exact app_starts (hs a List.mem_cons_self) _
noncomputable def lastOf (s : Str) : Int := (PySem.intText? (pBase s)).getD 0
theorem lastOf_rend {p : List Int} {b : Int} (h : p.getLast? = some b) (h0 : 0 ≤ b) (h1 : b < 2 ^ 20) : lastOf (rend p) = b := by
  unfold lastOf
  rw [base_rend h, show PySem.intText? (num b) = some b from KIN.num_reads h0 (by (first | lia | omega))]
  rfl
end
section
noncomputable def markAt (f : Int) (p : Nat) : Int := (f * ((p : Int) + 1)).fmod 23 * 32 + p
noncomputable def marksOf (f : Int) (n : Nat) : List Int := (List.range n).map (markAt f)
theorem marks_snoc {f : Int} {n i : Nat} {ys : List Value} {v : Int} {t : Tok} (h : IntsAre ys ((marksOf f n).take i)) (hi : i < n) (e : v = markAt f i) : IntsAre (ys ++ [.int v t]) ((marksOf f n).take (i + 1)) := by
  rw [List.take_add_one, marksOf, List.getElem?_map, List.getElem?_range hi, e]
  exact ints_snoc h _ _
noncomputable def leaf (t : Int) : Tr := ⟨0, t, [num t]⟩
theorem mark_bounds (f : Int) (p : Nat) : (p : Int) ≤ markAt f p ∧ markAt f p < 22 * 32 + p + 1 := by
  unfold markAt
  rw [Int.fmod_eq_emod_of_nonneg _ (by decide)]
  (first | lia | omega)
theorem marks_at {f n : Int} {k i : Nat} (h : (marksOf f k)[i]? = some n) : n = markAt f i ∧ 0 ≤ n ∧ n < 2000 + i := by
  rw [marksOf, List.getElem?_map] at h
  by_cases hi : i < k
  · rw [List.getElem?_range hi] at h
    have e : n = markAt f i := (Option.some.inj h).symm
    have := mark_bounds f i
    exact ⟨e, by (first | lia | omega), by (first | lia | omega)⟩
  · rw [List.getElem?_eq_none (by simpa using hi)] at h; cases h
inductive LfJ (base : List (Addr × Obj)) (g : Int) (i : Nat) (zs : List Value) (nw : List (Addr × Obj)) : Prop
  | mk (f : Nat → Value × Tr) (z1 : zs = vals f i) (z2 : ∀ q ∈ base, q ∈ nw) (z3 : ∀ j, j < i → TreeIn nw (f j).1 (f j).2 ∧ (f j).2 = leaf (markAt g j)) : LfJ base g i zs nw
theorem leaf_more {f : Nat → Value × Tr} {i : Nat} {base nw : List (Addr × Obj)} {g : Int} {mk : Int} {Dt Dl : Addr} {ta tb tc : Tok} (hsub : ∀ q ∈ base, q ∈ nw) (hT : ∀ j, j < i → TreeIn nw (f j).1 (f j).2 ∧ (f j).2 = leaf (markAt g j)) (e : mk = markAt g i) :
    LfJ base g (i + 1) (vals f i ++ [.ref Dt]) ((Dt, TupObj 0 mk ta tb (.ref Dl) 0) :: (Dl, W.listOf (List.toArray [.str (num mk) tc]) 0) :: nw) := by
  refine ⟨upd f i (.ref Dt, leaf mk), vals_upd (x := (.ref Dt, leaf mk)), fun q hq => List.mem_cons_of_mem _ (List.mem_cons_of_mem _ (hsub q hq)), fun j hj => ?_⟩
  unfold upd
  split
  · next h => subst h; exact ⟨⟨Dt, ta, tb, Dl, 0, 0, _, rfl, List.mem_cons_self, List.mem_cons_of_mem _ List.mem_cons_self, .cons _ _ .nil⟩, by rw [e]⟩
  · have := hT j (by (first | lia | omega))
    exact ⟨this.1.mono fun q hq => List.mem_cons_of_mem _ (List.mem_cons_of_mem _ hq), this.2⟩
structure Good (x : Tr) (P : List (List Int)) : Prop where
  ps : x.ps = P.map rend
  r0 : 0 ≤ x.r
  root : [x.t] ∈ P
  len : P.length = 2 ^ x.r.toNat
  ne : ∀ p ∈ P, p ≠ []
  long : ∀ p ∈ P, p.length ≤ x.r.toNat + 1
  par : ∀ p ∈ P, p = [x.t] ∨ (2 ≤ p.length ∧ p.dropLast ∈ P ∧ ∃ a b, p.dropLast.getLast? = some a ∧ p.getLast? = some b ∧ a < b)
  small : ∀ p ∈ P, ∀ a ∈ p, 0 ≤ a ∧ a < 2 ^ 20
  cnt : (List.range (x.r.toNat + 1)).map (fun d => ((P.filter fun p => p.length == d + 1).length : Int)) = pas x.r.toNat
noncomputable def marksIn (x : Tr) : List Int := x.ps.map lastOf
structure Vm (ms : List Int) (n c0 : Nat) (H D : List Tr) (k : Nat) : Prop where
  good : ∀ x ∈ H ++ D, ∃ P, Good x P
  perm : ((H ++ D).flatMap marksIn).Perm ms
  tops : ((H ++ D).map (·.t)).Nodup
  sum : ((H ++ D).map fun x => 2 ^ x.r.toNat).sum = n
  asc : (D.map (·.r)).Pairwise (· < ·)
  below : ∀ d ∈ D, ∀ h ∈ H, d.r < h.r
  links : k + H.length + D.length = c0
  n20 : n ≤ 20
theorem marks_ne {f : Int} {i j : Nat} (hi : i < 32) (hj : j < 32) (h : i ≠ j) : markAt f i ≠ markAt f j := by
  unfold markAt; (first | lia | omega)
theorem marks_nodup (f : Int) (n : Nat) (hn : n ≤ 32) : (marksOf f n).Nodup := by
  have e : marksOf f n = lst (markAt f) n := rfl
  rw [e]
  exact nodup_lst.mpr fun i j hi hj h => marks_ne (by (first | lia | omega)) (by (first | lia | omega)) h
theorem marks_small (f : Int) (n : Nat) (hn : n ≤ 32) : ∀ a ∈ marksOf f n, 0 ≤ a ∧ a < 2 ^ 20 := by
  intro a ha
  obtain ⟨i, hi, rfl⟩ := List.mem_map.mp ha
  have := mark_bounds f i
  have := List.mem_range.mp hi
  (first | lia | omega)
noncomputable def marksFrom (f : Int) (a n : Nat) : List Int := (List.range n).map fun j => markAt f (a + j)
theorem marks_split (f : Int) (a n : Nat) : marksOf f (a + n) = marksOf f a ++ marksFrom f a n := by
  unfold marksOf marksFrom
  rw [List.range_add, List.map_append, List.map_map]
  rfl
theorem from_nodup (f : Int) (a n : Nat) (hn : a + n ≤ 32) : (marksFrom f a n).Nodup := by
  have := marks_nodup f (a + n) hn
  rw [marks_split] at this
  exact (List.nodup_append.mp this).2.1
theorem from_small (f : Int) (a n : Nat) (hn : a + n ≤ 32) : ∀ b ∈ marksFrom f a n, 0 ≤ b ∧ b < 2 ^ 20 := fun b hb => marks_small f (a + n) hn b (by rw [marks_split]; exact List.mem_append_right _ hb)
theorem marksOf_len (f : Int) (n : Nat) : (marksOf f n).length = n := by simp [marksOf]
theorem marksFrom_len (f : Int) (a n : Nat) : (marksFrom f a n).length = n := by simp [marksFrom]
theorem leaf_trees {nw : List (Addr × Obj)} {f : Nat → Value × Tr} {g : Int} {n : Nat} (hT : ∀ j, j < n → TreeIn nw (f j).1 (f j).2 ∧ (f j).2 = leaf (markAt g j)) (hn : n ≤ 32) : Trees nw f n := by
  refine ⟨fun i hi => (hT i hi).1, fun i hi => ?_, fun i j hi hj h => ?_⟩
  · unfold Small
    rw [(hT i hi).2]
    have := mark_bounds g i
    simp only [leaf]
    (first | lia | omega)
  · rw [(hT i hi).2, (hT j hj).2]
    exact marks_ne (by (first | lia | omega)) (by (first | lia | omega)) h
theorem sum_mem {a : Nat} {l : List Nat} (h : a ∈ l) : a ≤ l.sum := by
  induction l with
  | nil => cases h
  | cons b r ih =>
    rw [List.sum_cons]
    rcases List.mem_cons.mp h with rfl | h
    · (first | lia | omega)
    · have := ih h; (first | lia | omega)
theorem pow_lt5 {r : Nat} (h : 2 ^ r ≤ 20) : r < 5 := by
  by_cases h5 : r < 5
  · exact h5
  · have := Nat.pow_le_pow_right (n := 2) (by decide) (show 5 ≤ r by (first | lia | omega))
    (first | lia | omega)
theorem good_leaf {t : Int} (h0 : 0 ≤ t) (h1 : t < 2 ^ 20) : Good (leaf t) [[t]] := by
  refine ⟨rfl, Int.le_refl _, List.mem_cons_self, rfl, ?_, ?_, ?_, ?_, ?_⟩
  · intro p hp; rw [List.mem_singleton.mp hp]; simp
  · intro p hp; rw [List.mem_singleton.mp hp]; exact Nat.le_refl _
  · intro p hp; rw [List.mem_singleton.mp hp]; exact .inl rfl
  · intro p hp a ha; rw [List.mem_singleton.mp hp] at ha; rw [List.mem_singleton.mp ha]; exact ⟨h0, h1⟩
  · rfl
theorem last_cons {α : Type} {t : α} {p : List α} (h : p ≠ []) : (t :: p).getLast? = p.getLast? := by
  cases p with
  | nil => exact absurd rfl h
  | cons a r => exact List.getLast?_cons_cons
theorem pas_row {r : Nat} {g h : Nat → Int} (hg : (List.range (r + 1)).map g = pas r) (hh : (List.range (r + 1)).map h = pas r) {c : Nat → Int} (c0 : c 0 = g 0) (cs : ∀ d, d < r → c (d + 1) = g (d + 1) + h d) (cl : c (r + 1) = h r) : (List.range (r + 2)).map c = pas (r + 1) := by
  show _ = List.zipWith (· + ·) (0 :: pas r) (pas r ++ [0])
  conv => rhs; arg 2; rw [← hh]
  conv => rhs; arg 3; rw [← hg]
  refine List.ext_getElem? fun d => ?_
  rw [List.getElem?_zipWith, List.getElem?_map]
  by_cases hd : d < r + 2
  · rw [List.getElem?_range hd]
    cases d with
    | zero => rw [List.getElem?_append_left (by simp), List.getElem?_map, List.getElem?_range (by (first | lia | omega))]; simp [c0]
    | succ d =>
      rw [List.getElem?_cons_succ, List.getElem?_map, List.getElem?_range (by (first | lia | omega))]
      by_cases hl : d < r
      · rw [List.getElem?_append_left (by simp; (first | lia | omega)), List.getElem?_map, List.getElem?_range (by (first | lia | omega))]
        simp only [Option.map_some]
        rw [cs d hl, Int.add_comm]
      · have : d = r := by (first | lia | omega)
        subst this
        rw [List.getElem?_append_right (by simp)]
        simp [cl]
  · have e1 : (List.range (r + 2))[d]? = none := List.getElem?_eq_none (by simp; (first | lia | omega))
    have e2 : ((0 : Int) :: (List.range (r + 1)).map h)[d]? = none := List.getElem?_eq_none (by simp; (first | lia | omega))
    rw [e1, e2]; rfl
theorem good_merge {x y : Tr} {P S : List (List Int)} (G : Good x P) (K : Good y S) (hr : x.r = y.r) (ht : x.t < y.t) : Good (merge x y) (P ++ S.map (x.t :: ·)) := by
  have er : (merge x y).r.toNat = x.r.toNat + 1 := by
    have := G.r0
    show (x.r + 1).toNat = _
    (first | lia | omega)
  have eyr : y.r.toNat = x.r.toNat := by rw [hr]
  have xs := G.small _ G.root x.t List.mem_cons_self
  refine ⟨?_, ?_, ?_, ?_, ?_, ?_, ?_, ?_, ?_⟩
  · show x.ps ++ y.ps.map _ = _
    rw [G.ps, K.ps, List.map_append, List.map_map, List.map_map]
    congr 1
    refine List.map_congr_left fun p hp => ?_
    show _ = rend (x.t :: p)
    rw [rend_cons (K.ne p hp)]; rfl
  · have := G.r0; show 0 ≤ x.r + 1; (first | lia | omega)
  · exact List.mem_append_left _ G.root
  · rw [er, List.length_append, List.length_map, G.len, K.len, eyr, Nat.pow_succ]; (first | lia | omega)
  · intro p hp
    rcases List.mem_append.mp hp with hp | hp
    · exact G.ne p hp
    · obtain ⟨q, _, rfl⟩ := List.mem_map.mp hp; simp
  · intro p hp
    rw [er]
    rcases List.mem_append.mp hp with hp | hp
    · have := G.long p hp; (first | lia | omega)
    · obtain ⟨q, hq, rfl⟩ := List.mem_map.mp hp
      have := K.long q hq
      simp only [List.length_cons]; (first | lia | omega)
  · intro p hp
    rcases List.mem_append.mp hp with hp | hp
    · rcases G.par p hp with h | ⟨h1, h2, h3⟩
      · exact .inl h
      · exact .inr ⟨h1, List.mem_append_left _ h2, h3⟩
    · obtain ⟨q, hq, rfl⟩ := List.mem_map.mp hp
      have hne := K.ne q hq
      refine .inr ⟨by have := List.length_pos_iff.mpr hne; simp only [List.length_cons]; (first | lia | omega), ?_⟩
      rcases K.par q hq with h | ⟨h1, h2, a, b, ha, hb, hab⟩
      · subst h
        exact ⟨List.mem_append_left _ G.root, x.t, y.t, rfl, rfl, ht⟩
      · have hd : (x.t :: q).dropLast = x.t :: q.dropLast := List.dropLast_cons_of_ne_nil hne
        have hdn := K.ne _ h2
        rw [hd]
        exact ⟨List.mem_append_right _ (List.mem_map.mpr ⟨_, h2, rfl⟩), a, b, by rw [last_cons hdn]; exact ha, by rw [last_cons hne]; exact hb, hab⟩
  · intro p hp a ha
    rcases List.mem_append.mp hp with hp | hp
    · exact G.small p hp a ha
    · obtain ⟨q, hq, rfl⟩ := List.mem_map.mp hp
      rcases List.mem_cons.mp ha with rfl | ha
      · exact xs
      · exact K.small q hq a ha
  · rw [er]
    have hc := K.cnt
    rw [eyr] at hc
    have e2 : ∀ d, ((P ++ S.map (x.t :: ·)).filter fun p => p.length == d + 1).length = (P.filter fun p => p.length == d + 1).length + (S.filter fun p => p.length == d).length := fun d => by
      rw [List.filter_append, List.length_append, List.filter_map, List.length_map]
      congr 2
      refine List.filter_congr fun p _ => ?_
      show ((x.t :: p).length == d + 1) = (p.length == d)
      rw [List.length_cons, Bool.eq_iff_iff, beq_iff_eq, beq_iff_eq]; (first | lia | omega)
    refine pas_row G.cnt hc ?_ (fun d _ => ?_) ?_
    · have : (S.filter fun p => p.length == 0) = [] := List.filter_eq_nil_iff.mpr fun p hp => by
        have := List.length_pos_iff.mpr (K.ne p hp)
        rw [beq_iff_eq]; (first | lia | omega)
      rw [e2, this]; rfl
    · rw [e2]; (first | lia | omega)
    · have : (P.filter fun p => p.length == x.r.toNat + 1 + 1) = [] := List.filter_eq_nil_iff.mpr fun p hp => by
        have := G.long p hp
        rw [beq_iff_eq]; (first | lia | omega)
      rw [e2, this]; simp
theorem good_marks {x : Tr} {P : List (List Int)} (G : Good x P) : marksIn x = P.map fun p => p.getLast?.getD 0 := by
  unfold marksIn
  rw [G.ps, List.map_map]
  refine List.map_congr_left fun p hp => ?_
  have hg := List.getLast?_eq_some_getLast (G.ne p hp)
  have hs := G.small p hp _ (List.getLast_mem (G.ne p hp))
  show lastOf (rend p) = _
  rw [lastOf_rend hg hs.1 hs.2, hg]; rfl
theorem marks_merge {x y : Tr} {P S : List (List Int)} (G : Good x P) (K : Good y S) (hr : x.r = y.r) (ht : x.t < y.t) : marksIn (merge x y) = marksIn x ++ marksIn y := by
  rw [good_marks (good_merge G K hr ht), good_marks G, good_marks K, List.map_append, List.map_map]
  congr 1
  refine List.map_congr_left fun p hp => ?_
  show (x.t :: p).getLast?.getD 0 = _
  rw [last_cons (K.ne p hp)]
theorem top_mark {x : Tr} {P : List (List Int)} (G : Good x P) : x.t ∈ marksIn x := by
  rw [good_marks G]
  exact List.mem_map.mpr ⟨[x.t], G.root, rfl⟩
theorem vm_r {ms : List Int} {n c0 k : Nat} {H D : List Tr} (h : Vm ms n c0 H D k) {x : Tr} (hx : x ∈ H ++ D) : 0 ≤ x.r ∧ x.r < 5 := by
  obtain ⟨P, G⟩ := h.good x hx
  have h1 := sum_mem (List.mem_map.mpr ⟨x, hx, rfl⟩ : 2 ^ x.r.toNat ∈ (H ++ D).map fun x => 2 ^ x.r.toNat)
  rw [h.sum] at h1
  have := pow_lt5 (Nat.le_trans h1 h.n20)
  have := G.r0
  exact ⟨this, by (first | lia | omega)⟩
theorem good_ok {x : Tr} {P : List (List Int)} (G : Good x P) (h5 : x.r < 5) : OkTr x := by
  have h0 := G.r0
  have hs := G.small _ G.root x.t List.mem_cons_self
  have hrel : ∀ p ∈ x.ps, ∃ q ∈ P, rend q = p := fun p hp => by rw [G.ps] at hp; exact List.mem_map.mp hp
  refine ⟨h0, by (first | lia | omega), hs.1, hs.2, ?_, fun p hp => ?_, fun p hp => ?_⟩
  · rw [G.ps, List.length_map, G.len]
    have := Nat.pow_le_pow_right (n := 2) (by decide) (show x.r.toNat ≤ 4 by (first | lia | omega))
    (first | lia | omega)
  · obtain ⟨q, hq, rfl⟩ := hrel p hp
    have := len_rend (G.small q hq)
    have := G.long q hq
    (first | lia | omega)
  · obtain ⟨q, hq, rfl⟩ := hrel p hp
    exact starts_rend (G.ne q hq) fun a ha => (G.small q hq a ha).1
theorem vm_move {ms : List Int} {n c0 k : Nat} {H D H' D' : List Tr} (h : Vm ms n c0 H D k) (hp : (H ++ D).Perm (H' ++ D')) (asc : (D'.map (·.r)).Pairwise (· < ·)) (below : ∀ d ∈ D', ∀ h ∈ H', d.r < h.r) : Vm ms n c0 H' D' k := by
  refine ⟨fun x hx => h.good x (hp.mem_iff.mpr hx), (hp.symm.flatMap_right _).trans h.perm, (hp.map _).nodup_iff.mp h.tops, ?_, asc, below, ?_, h.n20⟩
  · rw [← h.sum]; exact ((hp.map _).sum_nat).symm
  · have := hp.length_eq
    have := h.links
    simp only [List.length_append] at *
    (first | lia | omega)
theorem vm_meld {ms : List Int} {n c0 k : Nat} {x y : Tr} {H D : List Tr} (h : Vm ms n c0 (x :: y :: H) D k) (hr : x.r = y.r) (ht : x.t < y.t) : Vm ms n c0 (merge x y :: H) D (k + 1) := by
  obtain ⟨P, G⟩ := h.good x List.mem_cons_self
  obtain ⟨S, K⟩ := h.good y (List.mem_cons_of_mem _ List.mem_cons_self)
  have GM := good_merge G K hr ht
  refine ⟨fun z hz => ?_, ?_, ?_, ?_, h.asc, fun d hd z hz => ?_, ?_, h.n20⟩
  · rcases List.mem_cons.mp hz with rfl | hz
    · exact ⟨_, GM⟩
    · exact h.good z (List.mem_cons_of_mem _ (List.mem_cons_of_mem _ hz))
  · have := h.perm
    simp only [List.cons_append, List.flatMap_cons] at this ⊢
    rw [marks_merge G K hr ht, List.append_assoc]; exact this
  · have := h.tops
    simp only [List.cons_append, List.map_cons, List.nodup_cons, List.mem_cons, not_or] at this ⊢
    exact ⟨this.1.2, this.2.2⟩
  · have := h.sum
    have e : (merge x y).r.toNat = x.r.toNat + 1 := by
      have := G.r0
      show (x.r + 1).toNat = _
      (first | lia | omega)
    simp only [List.cons_append, List.map_cons, List.sum_cons] at this ⊢
    rw [← hr] at this
    rw [e, Nat.pow_succ]
    (first | lia | omega)
  · rcases List.mem_cons.mp hz with rfl | hz
    · have := h.below d hd x List.mem_cons_self
      show d.r < x.r + 1
      (first | lia | omega)
    · exact h.below d hd z (List.mem_cons_of_mem _ (List.mem_cons_of_mem _ hz))
  · have := h.links
    simp only [List.length_cons] at *
    (first | lia | omega)
theorem vm_tale (ms : List Int) (n c0 : Nat) : Tale (Vm ms n c0) where
  perm H H' D k h hp := vm_move h (hp.append_right _) h.asc fun d hd z hz => h.below d hd z (hp.mem_iff.mpr hz)
  ok H D k h x hx := by
    obtain ⟨P, G⟩ := h.good x (List.mem_append_left _ hx)
    exact good_ok G (vm_r h (List.mem_append_left _ hx)).2
  apart H D k h := by
    have := h.tops
    rw [List.map_append] at this
    exact (List.nodup_append.mp this).1
  meld x y H D k h hr ht := vm_meld h hr ht
  done x H D k h hl := by
    refine vm_move h ?_ ?_ ?_
    · rw [← List.append_assoc]
      exact (List.perm_append_comm (l₁ := [x]) (l₂ := H ++ D))
    · rw [List.map_append]
      refine List.pairwise_append.mpr ⟨h.asc, List.pairwise_singleton _ _, fun a ha b hb => ?_⟩
      obtain ⟨d, hd, rfl⟩ := List.mem_map.mp ha
      rw [List.mem_singleton.mp hb]
      exact h.below d hd x List.mem_cons_self
    · intro d hd z hz
      rcases List.mem_append.mp hd with hd | hd
      · exact h.below d hd z (List.mem_cons_of_mem _ hz)
      · rw [List.mem_singleton.mp hd]; exact hl z hz
theorem flat_leafs {ms : List Int} (hb : ∀ a ∈ ms, 0 ≤ a ∧ a < 2 ^ 20) : (ms.map leaf).flatMap marksIn = ms := by
  induction ms with
  | nil => rfl
  | cons a r ih =>
    rw [List.map_cons, List.flatMap_cons, ih fun b h => hb b (List.mem_cons_of_mem _ h)]
    have ha := hb a List.mem_cons_self
    rw [good_marks (good_leaf ha.1 ha.2)]; rfl
theorem vm_leafs {ms : List Int} (h : ms.Nodup) (hb : ∀ a ∈ ms, 0 ≤ a ∧ a < 2 ^ 20) (hn : ms.length ≤ 20) : Vm ms ms.length ms.length (ms.map leaf) [] 0 := by
  refine ⟨fun x hx => ?_, ?_, ?_, ?_, List.Pairwise.nil, fun d hd => (nomatch hd), ?_, hn⟩
  · rw [List.append_nil] at hx
    obtain ⟨a, ha, rfl⟩ := List.mem_map.mp hx
    exact ⟨_, good_leaf (hb a ha).1 (hb a ha).2⟩
  · rw [List.append_nil, flat_leafs hb]
  · rw [List.append_nil, List.map_map]
    have : ms.map ((fun x => x.t) ∘ leaf) = ms := by
      have e : ((fun x => x.t) ∘ leaf) = (id : Int → Int) := rfl
      rw [e, List.map_id]
    rw [this]; exact h
  · rw [List.append_nil, List.map_map]
    clear h hb hn
    induction ms with
    | nil => rfl
    | cons a r ih =>
      rw [List.map_cons, List.sum_cons, ih, List.length_cons]
      show 1 + _ = _
      (first | lia | omega)
  · simp
theorem vm_both {ma mb : List Int} {na nb ca cb ka kb : Nat} {Da Db : List Tr} (ha : Vm ma na ca [] Da ka) (hb : Vm mb nb cb [] Db kb) (hd : (ma ++ mb).Nodup) (hn : na + nb ≤ 20) : Vm (ma ++ mb) (na + nb) (Da.length + Db.length) (Da ++ Db) [] 0 := by
  have pa := ha.perm
  have pb := hb.perm
  have ta := ha.tops
  have tb := hb.tops
  rw [List.nil_append] at pa pb ta tb
  have tin : ∀ {n c0 k : Nat} {D : List Tr} {ms : List Int}, Vm ms n c0 [] D k → ∀ t ∈ D.map (·.t), t ∈ ms := fun {n c0 k D ms} h t ht => by
    obtain ⟨x, hx, rfl⟩ := List.mem_map.mp ht
    obtain ⟨P, G⟩ := h.good x (List.mem_append_right _ hx)
    exact h.perm.mem_iff.mp (List.mem_flatMap.mpr ⟨x, List.mem_append_right _ hx, top_mark G⟩)
  refine ⟨fun x hx => ?_, ?_, ?_, ?_, List.Pairwise.nil, fun d hd => (nomatch hd), ?_, hn⟩
  · rw [List.append_nil] at hx
    rcases List.mem_append.mp hx with hx | hx
    · exact ha.good x (List.mem_append_right _ hx)
    · exact hb.good x (List.mem_append_right _ hx)
  · rw [List.append_nil, List.flatMap_append]; exact pa.append pb
  · rw [List.append_nil, List.map_append]
    refine List.nodup_append.mpr ⟨ta, tb, fun a h1 b h2 e => ?_⟩
    exact (List.nodup_append.mp hd).2.2 a (tin ha a h1) b (tin hb b h2) e
  · have sa := ha.sum
    have sb := hb.sum
    rw [List.nil_append] at sa sb
    rw [List.append_nil, List.map_append, List.sum_append, sa, sb]
  · simp
noncomputable def subs : Nat → Nat → List (List Nat)
  | _, 0 => [[]]
  | a, k + 1 => subs (a + 1) k ++ (subs (a + 1) k).map (a :: ·)
theorem subs_mem : ∀ (k a : Nat) (l : List Nat), l.Pairwise (· < ·) → (∀ b ∈ l, a ≤ b ∧ b < a + k) → l ∈ subs a k := by
  intro k
  induction k with
  | zero =>
    intro a l _ h
    cases l with
    | nil => exact List.mem_cons_self
    | cons b r => have := h b List.mem_cons_self; (first | lia | omega)
  | succ k ih =>
    intro a l hp h
    cases l with
    | nil => exact List.mem_append_left _ (ih _ _ List.Pairwise.nil fun b hb => nomatch hb)
    | cons b r =>
      have hb := h b List.mem_cons_self
      have hp' := List.pairwise_cons.mp hp
      by_cases e : b = a
      · subst e
        refine List.mem_append_right _ (List.mem_map.mpr ⟨r, ih _ _ hp'.2 fun c hc => ?_, rfl⟩)
        have := hp'.1 c hc
        have := h c (List.mem_cons_of_mem _ hc)
        (first | lia | omega)
      · refine List.mem_append_left _ (ih _ _ hp fun c hc => ?_)
        have h2 := h c hc
        rcases List.mem_cons.mp hc with rfl | hc
        · (first | lia | omega)
        · have := hp'.1 c hc
          (first | lia | omega)
theorem subs_bits : ∀ l ∈ subs 0 5, l = bits (l.map fun k => 2 ^ k).sum := by decide +kernel
theorem vm_small {ms : List Int} {n c0 k : Nat} {D : List Tr} (h : Vm ms n c0 [] D k) : ∀ x ∈ D, 0 ≤ x.r ∧ x.r < 5 := fun x hx => vm_r h (List.mem_append_right _ hx)
theorem vm_ranks {ms : List Int} {n c0 k : Nat} {D : List Tr} (h : Vm ms n c0 [] D k) : D.map (fun x => x.r.toNat) = bits n := by
  have h5 := vm_small h
  have hs := h.sum
  rw [List.nil_append] at hs
  have key := subs_bits (D.map fun x => x.r.toNat) (subs_mem 5 0 _ ?_ ?_)
  · rw [List.map_map] at key
    rw [← hs]; exact key
  · have ha := h.asc
    rw [List.pairwise_map] at ha ⊢
    refine List.Pairwise.imp_of_mem (fun {a b} ha hb hab => ?_) ha
    exact (Int.toNat_lt_toNat (Int.lt_of_le_of_lt (h5 a ha).1 hab)).mpr hab
  · intro b hb
    obtain ⟨x, hx, rfl⟩ := List.mem_map.mp hb
    have := h5 x hx
    (first | lia | omega)
theorem good_cnt {x : Tr} {P : List (List Int)} (G : Good x P) : ((List.range (x.r.toNat + 1)).map fun d => ((x.ps.filter fun p => Txt.count p (Str.ofString "/") == ((d : Nat) : Int)).length : Int)) = pas x.r.toNat := by
  rw [← G.cnt]
  refine List.map_congr_left fun d _ => ?_
  rw [G.ps, List.filter_map, List.length_map]
  congr 2
  refine List.filter_congr fun p hp => ?_
  show (Txt.count (rend p) (Str.ofString "/") == ((d : Nat) : Int)) = (p.length == d + 1)
  rw [count_rend (G.ne p hp), Bool.eq_iff_iff, beq_iff_eq, beq_iff_eq]
  have := List.length_pos_iff.mpr (G.ne p hp)
  (first | lia | omega)
theorem good_path {x : Tr} {P : List (List Int)} (G : Good x P) (h5 : x.r < 5) : ∀ p ∈ x.ps, p.length ≤ 1000 ∧ (p = num x.t ∨ (pDir p ∈ x.ps ∧ ∃ a b : Int, 0 ≤ a ∧ a < b ∧ b < 10 ^ 9 ∧ pBase (pDir p) = num a ∧ pBase p = num b)) := by
  intro p hp
  refine ⟨(good_ok G h5).short p hp, ?_⟩
  rw [G.ps] at hp ⊢
  obtain ⟨q, hq, rfl⟩ := List.mem_map.mp hp
  rcases G.par q hq with rfl | ⟨h1, h2, a, b, ha, hb, hab⟩
  · exact .inl rfl
  · right
    rw [dir_rend h1 fun a ha => (G.small q hq a ha).1]
    have sa := G.small _ h2 a (List.mem_of_getLast? ha)
    have sb := G.small _ hq b (List.mem_of_getLast? hb)
    exact ⟨List.mem_map.mpr ⟨_, h2, rfl⟩, a, b, sa.1, hab, by (first | lia | omega), base_rend ha, base_rend hb⟩
theorem good_base {x : Tr} {P : List (List Int)} (G : Good x P) : ∀ p ∈ x.ps, pBase p = num (lastOf p) ∧ 0 ≤ lastOf p ∧ lastOf p < 2 ^ 20 := by
  intro p hp
  rw [G.ps] at hp
  obtain ⟨q, hq, rfl⟩ := List.mem_map.mp hp
  have hg := List.getLast?_eq_some_getLast (G.ne q hq)
  have hs := G.small q hq _ (List.getLast_mem (G.ne q hq))
  rw [lastOf_rend hg hs.1 hs.2]
  exact ⟨base_rend hg, hs⟩
theorem vm_one {f : Nat → Value × Tr} {g : Int} {n N : Nat} {nw : List (Addr × Obj)} (hT : ∀ j, j < N → TreeIn nw (f j).1 (f j).2 ∧ (f j).2 = leaf (markAt g j)) (hn : n ≤ N) (h20 : n ≤ 20) : Vm (marksOf g n) n n (trs f n) [] 0 := by
  have e1 : trs f n = (marksOf g n).map leaf := by
    unfold trs marksOf lst
    rw [List.map_map]
    exact List.map_congr_left fun j hj => (hT j (by have := List.mem_range.mp hj; (first | lia | omega))).2
  have := vm_leafs (ms := marksOf g n) (marks_nodup _ _ (by (first | lia | omega))) (marks_small _ _ (by (first | lia | omega))) (by rw [marksOf_len]; (first | lia | omega))
  rw [marksOf_len] at this
  rw [e1]; exact this
theorem vm_two {f : Nat → Value × Tr} {g : Int} {a n : Nat} {nw : List (Addr × Obj)} (hT : ∀ j, j < a + n → TreeIn nw (f j).1 (f j).2 ∧ (f j).2 = leaf (markAt g j)) (h20 : a + n ≤ 20) : Vm (marksFrom g a n) n n (trs (fun i => f (a + i)) n) [] 0 := by
  have e1 : trs (fun i => f (a + i)) n = (marksFrom g a n).map leaf := by
    unfold trs marksFrom lst
    rw [List.map_map]
    exact List.map_congr_left fun j hj => (hT (a + j) (by have := List.mem_range.mp hj; (first | lia | omega))).2
  have := vm_leafs (ms := marksFrom g a n) (from_nodup _ _ _ (by (first | lia | omega))) (from_small _ _ _ (by (first | lia | omega))) (by rw [marksFrom_len]; (first | lia | omega))
  rw [marksFrom_len] at this
  rw [e1]; exact this
theorem Trees.shift {news : List (Addr × Obj)} {f : Nat → Value × Tr} {a n : Nat} (h : Trees news f (a + n)) : Trees news (fun i => f (a + i)) n :=
  ⟨fun i hi => h.isin _ (by (first | lia | omega)), fun i hi => h.small _ (by (first | lia | omega)), fun i j hi hj hne => h.apart _ _ (by (first | lia | omega)) (by (first | lia | omega)) (by (first | lia | omega))⟩
noncomputable def cat (f : Nat → Value × Tr) (n : Nat) (g : Nat → Value × Tr) : Nat → Value × Tr := fun i => if i < n then f i else g (i - n)
theorem cat_lst {f g : Nat → Value × Tr} {n k : Nat} : lst (cat f n g) (n + k) = lst f n ++ lst g k := by
  induction k with
  | zero => simp only [Nat.add_zero]; rw [show lst g 0 = [] from rfl, List.append_nil]; exact lst_congr fun i hi => by simp [cat, hi]
  | succ k ih => rw [← Nat.add_assoc, lst_succ, lst_succ, ih, List.append_assoc]; congr 2; simp only [cat]; rw [if_neg (by (first | lia | omega)), Nat.add_sub_cancel_left]
theorem cat_vals {f g : Nat → Value × Tr} {n k : Nat} : vals (cat f n g) (n + k) = vals f n ++ vals g k := by
  have := congrArg (List.map (·.1)) (cat_lst (f := f) (g := g) (n := n) (k := k))
  rw [List.map_append, lst_map, lst_map, lst_map] at this
  exact this
theorem cat_trs {f g : Nat → Value × Tr} {n k : Nat} : trs (cat f n g) (n + k) = trs f n ++ trs g k := by
  have := congrArg (List.map (·.2)) (cat_lst (f := f) (g := g) (n := n) (k := k))
  rw [List.map_append, lst_map, lst_map, lst_map] at this
  exact this
theorem vals_take {f : Nat → Value × Tr} {n k : Nat} : (vals f (n + k)).take n = vals f n := by
  have e : f = cat f n (fun i => f (n + i)) := by
    funext i; unfold cat; split
    · rfl
    · show f i = f (n + (i - n)); rw [show n + (i - n) = i by (first | lia | omega)]
  have := cat_vals (f := f) (g := fun i => f (n + i)) (n := n) (k := k)
  rw [← e] at this
  rw [this, List.take_left' vals_length]
theorem vals_drop {f : Nat → Value × Tr} {n k : Nat} : (vals f (n + k)).drop n = vals (fun i => f (n + i)) k := by
  have e : f = cat f n (fun i => f (n + i)) := by
    funext i; unfold cat; split
    · rfl
    · show f i = f (n + (i - n)); rw [show n + (i - n) = i by (first | lia | omega)]
  have := cat_vals (f := f) (g := fun i => f (n + i)) (n := n) (k := k)
  rw [← e] at this
  rw [this, List.drop_left' vals_length]
theorem cat_trees {nw : List (Addr × Obj)} {f g : Nat → Value × Tr} {n k j : Nat} {D : List Tr} {V : List Tr → List Tr → Nat → Prop} (hV : Tale V) (h : V (trs (cat f n g) (n + k)) D j)
    (hf : ∀ i, i < n → TreeIn nw (f i).1 (f i).2) (hg : ∀ i, i < k → TreeIn nw (g i).1 (g i).2) : Trees nw (cat f n g) (n + k) := by
  refine ⟨fun i hi => ?_, fun i hi => ?_, ?_⟩
  · unfold cat; split
    · exact hf i (by (first | lia | omega))
    · exact hg _ (by (first | lia | omega))
  · have := hV.ok _ _ _ h _ (lst_mem.mpr ⟨i, hi, rfl⟩)
    exact ⟨this.r0, this.r1, this.t0, this.t1⟩
  · have := hV.apart _ _ _ h
    unfold trs at this
    rw [lst_map] at this
    exact nodup_lst.mp this
theorem vm_words {ms : List Int} {n c0 k d : Nat} {f : Nat → Value × Tr} (h : Vm ms n c0 [] (trs f d) k) : lst (fun i => (f i).2.r.toNat) d = bits n := by
  have := vm_ranks h
  unfold trs at this
  rw [lst_map] at this
  exact this
theorem vm_few {ms : List Int} {n c0 k d : Nat} {f : Nat → Value × Tr} (h : Vm ms n c0 [] (trs f d) k) : d ≤ 5 := by
  have := congrArg List.length (vm_words h)
  rw [lst_length] at this
  have h2 := List.length_filter_le (fun k => n / 2 ^ k % 2 == 1) (List.range 5)
  rw [List.length_range] at h2
  unfold bits bitsBelow at this
  (first | lia | omega)
theorem vm_trees {ms : List Int} {n c0 k d : Nat} {f : Nat → Value × Tr} {nw : List (Addr × Obj)} (h : Vm ms n c0 [] (trs f d) k) (hf : ∀ i, i < d → TreeIn nw (f i).1 (f i).2) : Trees nw f d := by
  refine ⟨hf, fun i hi => ?_, ?_⟩
  · have hm : (f i).2 ∈ trs f d := lst_mem.mpr ⟨i, hi, rfl⟩
    have h1 := vm_small h _ hm
    obtain ⟨P, hP⟩ := h.good _ (List.mem_append_right _ hm)
    have h2 := hP.small _ hP.root _ List.mem_cons_self
    exact ⟨h1.1, by (first | lia | omega), h2.1, h2.2⟩
  · have := h.tops
    rw [List.nil_append] at this
    unfold trs at this
    rw [lst_map] at this
    exact nodup_lst.mp this
theorem vm_r5 {ms : List Int} {n c0 k d : Nat} {f : Nat → Value × Tr} (h : Vm ms n c0 [] (trs f d) k) : ∀ i, i < d → (f i).2.r < 5 := fun i hi => (vm_small h _ (lst_mem.mpr ⟨i, hi, rfl⟩)).2
theorem trs_length {f : Nat → Value × Tr} {n : Nat} : (trs f n).length = n := lst_length _ _
theorem vm_three {g : Int} {n1 n2 c1 c2 j1 j2 k1 k2 : Nat} {f1 f2 : Nat → Value × Tr} (h1 : Vm (marksOf g n1) n1 c1 [] (trs f1 k1) j1) (h2 : Vm (marksFrom g n1 n2) n2 c2 [] (trs f2 k2) j2) (h20 : n1 + n2 ≤ 20) :
    Vm (marksOf g (n1 + n2)) (n1 + n2) (k1 + k2) (trs (cat f1 k1 f2) (k1 + k2)) [] 0 := by
  have := vm_both h1 h2 (by rw [← marks_split]; exact marks_nodup _ _ (by (first | lia | omega))) h20
  rw [trs_length, trs_length, ← marks_split, ← cat_trs] at this
  exact this
end
section
noncomputable def twosF : Nat → Nat → Nat
  | 0, _ => 0
  | k + 1, n => if n % 2 = 0 then twosF k (n / 2) + 1 else 0
theorem twos_fuel : ∀ (k n : Nat), n ≠ 0 → n < 2 ^ k → twos n = twosF k n
  | 0, n, h0, h => absurd (Nat.lt_one_iff.mp h) h0
  | k + 1, n, h0, h => by
    unfold twosF
    by_cases he : n % 2 = 0
    · rw [if_pos he, twos_even h0 he, twos_fuel k (n / 2) (by (first | lia | omega)) (by rw [Nat.pow_succ] at h; (first | lia | omega))]
    · rw [if_neg he, twos_odd he]
theorem fact_ok : ∀ n : Fin 11, fact n.val ≠ 0 ∧ fact n.val < 2 ^ 64 ∧ twosF 64 (fact n.val) + (bits n.val).length = n.val := by decide +kernel
theorem twos_fact {n : Nat} (h : n ≤ 10) : twos (fact n) + (bits n).length = n := by
  obtain ⟨a, b, c⟩ := fact_ok ⟨n, by (first | lia | omega)⟩
  rw [twos_fuel 64 _ a b]; exact c
theorem ways_ok : ∀ a b : Fin 11, fact (a.val + b.val) / fact a.val / fact b.val ≠ 0 ∧ fact (a.val + b.val) / fact a.val / fact b.val < 2 ^ 64 ∧ twosF 64 (fact (a.val + b.val) / fact a.val / fact b.val) + (bits (a.val + b.val)).length = (bits a.val).length + (bits b.val).length := by decide +kernel
theorem kummer {a b : Nat} (ha : a ≤ 10) (hb : b ≤ 10) : twos (fact (a + b) / fact a / fact b) + (bits (a + b)).length = (bits a).length + (bits b).length := by
  obtain ⟨x, y, z⟩ := ways_ok ⟨a, by (first | lia | omega)⟩ ⟨b, by (first | lia | omega)⟩
  rw [twos_fuel 64 _ x y]; exact z
theorem ways_nat {a b : Nat} (ha : a ≤ 10) (hb : b ≤ 10) : fact (a + b) / fact a / fact b ≠ 0 ∧ fact (a + b) / fact a / fact b < 10 ^ 30 := by
  obtain ⟨x, y, _⟩ := ways_ok ⟨a, by (first | lia | omega)⟩ ⟨b, by (first | lia | omega)⟩
  exact ⟨x, Nat.lt_trans y (by decide)⟩
theorem fact_nat {a : Nat} (ha : a ≤ 10) : fact a ≠ 0 ∧ fact a < 10 ^ 30 := by
  obtain ⟨x, y, _⟩ := fact_ok ⟨a, by (first | lia | omega)⟩
  exact ⟨x, Nat.lt_trans y (by decide)⟩
theorem fdiv_nat {a b : Nat} : ((a : Nat) : Int).fdiv ((b : Nat) : Int) = ((a / b : Nat) : Int) := by
  rw [Int.fdiv_eq_ediv_of_nonneg _ (by (first | lia | omega))]; exact (Int.natCast_ediv a b).symm
theorem vm_len {ms : List Int} {n c0 k d : Nat} {f : Nat → Value × Tr} (h : Vm ms n c0 [] (trs f d) k) : k + (bits n).length = c0 := by
  have h1 := h.links
  have h2 := congrArg List.length (vm_words h)
  rw [lst_length] at h2
  rw [trs_length] at h1
  simp only [List.length_nil] at h1
  (first | lia | omega)
theorem vm_kd {ms : List Int} {n c0 k d : Nat} {f : Nat → Value × Tr} (h : Vm ms n c0 [] (trs f d) k) : d = (bits n).length := by
  have h2 := congrArg List.length (vm_words h)
  rw [lst_length] at h2
  exact h2
theorem vm_links {ms1 ms2 ms3 : List Int} {n1 n2 k1 k2 k3 d1 d2 d3 : Nat} {f1 f2 f3 : Nat → Value × Tr} (h1 : Vm ms1 n1 n1 [] (trs f1 d1) k1) (h2 : Vm ms2 n2 n2 [] (trs f2 d2) k2) (h3 : Vm ms3 (n1 + n2) (d1 + d2) [] (trs f3 d3) k3) (a : n1 ≤ 10) (b : n2 ≤ 10) :
    k1 = twos (fact n1) ∧ k2 = twos (fact n2) ∧ k3 = twos (fact (n1 + n2) / fact n1 / fact n2) := by
  have e1 := vm_len h1
  have e2 := vm_len h2
  have e3 := vm_len h3
  have d1' := vm_kd h1
  have d2' := vm_kd h2
  have t1 := twos_fact a
  have t2 := twos_fact b
  have t3 := kummer a b
  (first | lia | omega)
end
section
noncomputable def flat (f : Nat → Value × Tr) (i : Nat) : List Int := (trs f i).flatMap marksIn
theorem flat_succ (f : Nat → Value × Tr) (i : Nat) : flat f (i + 1) = flat f i ++ marksIn (f i).2 := by
  unfold flat trs
  rw [lst_succ, List.flatMap_append]
  simp
theorem flat_perm {ms : List Int} {n c0 k d : Nat} {f : Nat → Value × Tr} (h : Vm ms n c0 [] (trs f d) k) : (flat f d).Perm ms := h.perm
theorem vm_tree {ms : List Int} {n c0 k d : Nat} {f : Nat → Value × Tr} (h : Vm ms n c0 [] (trs f d) k) : ∀ i, i < d → OkTr (f i).2 ∧ (f i).2.r < 5 ∧ ∃ P, Good (f i).2 P := by
  intro i hi
  have hm : (f i).2 ∈ trs f d := lst_mem.mpr ⟨i, hi, rfl⟩
  obtain ⟨P, G⟩ := h.good _ (List.mem_append_right _ hm)
  have h5 := (vm_small h _ hm).2
  exact ⟨good_ok G h5, h5, P, G⟩
noncomputable def FJ (f : Nat → Value × Tr) (d i : Nat) (ys : List Value) : Prop := IntsAre ys (flat f i) ∧ ys.length ≤ 1000 * i ∧ i ≤ d
noncomputable def FK (f : Nat → Value × Tr) (d i j : Nat) (ys : List Value) : Prop := IntsAre ys (flat f i ++ ((f i).2.ps.take j).map lastOf) ∧ ys.length ≤ 1000 * i + j ∧ j ≤ 1000 ∧ i ≤ d
theorem fj_nil (f : Nat → Value × Tr) (d : Nat) : FJ f d 0 [] := ⟨.nil, Nat.le_refl _, Nat.zero_le _⟩
theorem fk_zero {f : Nat → Value × Tr} {d : Nat} : ∀ i ys, FJ f d i ys → FK f d i 0 ys := fun i ys h => ⟨by rw [List.take_zero, List.map_nil, List.append_nil]; exact h.1, h.2.1, Nat.zero_le _, h.2.2⟩
theorem fk_all {f : Nat → Value × Tr} {d : Nat} : ∀ i ys, i < d → FK f d i (f i).2.ps.length ys → FJ f d (i + 1) ys := fun i ys hi h => ⟨by
  have := h.1
  rw [List.take_length] at this
  rw [flat_succ]; exact this, by have := h.2.1; have := h.2.2.1; (first | lia | omega), hi⟩
theorem fk_len {f : Nat → Value × Tr} {d : Nat} (h5 : d ≤ 5) : ∀ i j ys, FK f d i j ys → ys.length ≤ 50000 := fun i j ys h => by
  have := h.2.1; have := h.2.2.1; have := h.2.2.2; (first | lia | omega)
theorem fk_step {f : Nat → Value × Tr} {d i j : Nat} {ys : List Value} {q : Str} {v : Int} {t : Tok} (h : FK f d i j ys) (hq : (f i).2.ps[j]? = some q) (hl : (f i).2.ps.length ≤ 1000) (e : v = lastOf q) : FK f d i (j + 1) (ys ++ [.int v t]) := by
  have hlt : j < (f i).2.ps.length := by
    rcases Nat.lt_or_ge j (f i).2.ps.length with h | h
    · exact h
    · rw [List.getElem?_eq_none h] at hq; cases hq
  refine ⟨?_, by rw [List.length_append, List.length_singleton]; have := h.2.1; (first | lia | omega), by (first | lia | omega), h.2.2.2⟩
  rw [List.take_add_one, hq, List.map_append, ← List.append_assoc, e]
  exact ints_snoc h.1 _ _
theorem path_fact {ms : List Int} {n c0 k d : Nat} {f : Nat → Value × Tr} (h : Vm ms n c0 [] (trs f d) k) {i j : Nat} {q : Str} (hi : i < d) (hq : (f i).2.ps[j]? = some q) : q.length ≤ 1000 ∧ pBase q = num (lastOf q) ∧ 0 ≤ lastOf q ∧ lastOf q < 10 ^ 10 := by
  obtain ⟨ok, _, P, G⟩ := vm_tree h i hi
  have hm := List.mem_of_getElem? hq
  have := good_base G q hm
  exact ⟨ok.short q hm, this.1, this.2.1, by (first | lia | omega)⟩
theorem ints_sorted_same {a b : List Int} (p : a.Perm b) (ha : a.Pairwise (· ≤ ·)) (hb : b.Pairwise (· ≤ ·)) : a = b := lks_uniq p ha hb
theorem rep_flat {α : Type} (c : α) : ∀ k : Nat, (List.replicate k [c]).flatten = List.replicate k c
  | 0 => rfl
  | k + 1 => by
    rw [List.replicate_succ, List.flatten_cons, rep_flat c k, List.replicate_succ]
    rfl
section
variable {prog : Program} {w : World} {A : Around} {E : Value → Shared → Prop} {s : Shared} {h₀ : Heap} {L : Addr} {m : Str → Option Value} {news : List (Addr × Obj)} {l : Addr} {x : Int} {u : Tok} {Q : Value → Shared → Prop}
theorem sorted_my {vs : List Value} {ns : List Int} {ep : Nat} (F : Fr h₀ L s.heap m) (N : News h₀ L s.heap news) (hm : (l, W.listOf vs.toArray ep) ∈ news) (hi : IntsAre vs ns) (h64 : ns.length < 64)
    (h : ∀ D vs' ns' c h', Fr h₀ L h' m → News h₀ L h' ((D, W.listOf vs'.toArray c) :: news) → (∀ q ∈ news, q.1 < D) → IntsAre vs' ns' → ns'.Perm ns → ns'.Pairwise (· ≤ ·) → Q (.ref D) { s with heap := h' }) :
    wpAny (model prog w) A (call (.builtin "sorted") [.ref l]) Q E s :=
  kso_sorted F N (isl_my N hm) hi h64 fun D vs' ns' c h' F' N' l1 i1 _ p o _ => h D vs' ns' c h' F' N' l1 i1 p o
theorem mul_my {v : Value} {ep n : Nat} (F : Fr h₀ L s.heap m) (N : News h₀ L s.heap news) (hm : (l, W.listOf (List.toArray [v]) ep) ∈ news) (hx : x = ((n : Nat) : Int)) (hn : n ≤ 200)
    (h : ∀ D h', Fr h₀ L h' m → News h₀ L h' ((D, W.listOf (List.toArray (List.replicate n v)) 0) :: news) → (∀ p ∈ news, p.1 < D) → Q (.ref D) { s with heap := h' }) : wpAny (model prog w) A (binaryOp .Mult (.ref l) (.int x u)) Q E s := by
  subst hx
  refine KMa.mul (vs := [v]) (ws := List.replicate n v) F N (isl_my N hm) (by (first | lia | omega)) (by (first | lia | omega)) ?_ ?_ h
  · rw [List.length_singleton, Int.toNat_natCast]; (first | lia | omega)
  · rw [Int.toNat_natCast, rep_flat]
theorem len_my {f : Nat → Value × Tr} {ep n : Nat} (N : News h₀ L s.heap news) (hm : (l, W.listOf (vals f n).toArray ep) ∈ news) (hn : n ≤ 64) (h : Q (.int ((n : Nat) : Int) (s.toks + 1)) { s with toks := s.toks + 1 + 1 }) : wpAny (model prog w) A (call (.builtin "len") [.ref l]) Q E s := by
  have hz : (vals f n).toArray.size = n := by simp [vals_length]
  refine PyProof.Rows.len_list (isl_my N hm) (by rw [hz]; (first | lia | omega)) ?_
  rw [hz]; exact h
end
theorem gen_my {P : Shared → Prop} {s : Shared} {h₀ : Heap} {L : Addr} {m : Str → Option Value} {news : List (Addr × Obj)} {o : OsState} (hg : s.gens = #[]) (ho : s.os = o) (F : Fr h₀ L s.heap m) (N : News h₀ L s.heap news)
    (h : ∀ s', s'.gens = #[] → s'.os = o → Fr h₀ L s'.heap m → News h₀ L s'.heap news → P s') : P s := h s hg ho F N
theorem law_raises (l : List Int) : ∀ cls, PySem.Challenge.rw_ik0182_01.row.claim.raises [ofPy (PyData.list (List.map PyData.int l))] cls = false := raisesW_false (by wrow_none_raised)
theorem law_post (l : List Int) : PySem.Challenge.rw_ik0182_01.row.claim.post [ofPy (PyData.list (List.map PyData.int l))] (.bool true) [ofPy (PyData.list (List.map PyData.int l))] = true := by wrow_post
end
theorem off_SD : True := by
  w_top off
  trivial
section
theorem fr_ovr {h₀ h : Heap} {L : Addr} {m : Str → Option Value} {l : List (Str × Value)} (F : Fr h₀ L h m) (hl : ∀ q ∈ l, m q.1 = some q.2) : Fr h₀ L h (ovr l m) := by rw [← ovr_of hl]; exact F
theorem room_law (env : Env) : Room (callerA.deeper env) 12 := ⟨rfl, by show 1 + claimMargin + 1 + 12 < recursionLimit; decide +kernel, by show 4 + 3 + 8 * 12 + 40 < cLine; decide +kernel⟩
inductive NatIs (z : Int) : Prop
  | mk (n : Nat) (z1 : z = (n : Int)) (z2 : 1 ≤ n) (z3 : n ≤ 10) : NatIs z
inductive Ex3 {α β γ : Type} (p : α → β → γ → Prop) : Prop
  | mk (a : α) (b : β) (c : γ) (z1 : p a b c) : Ex3 p
inductive Ex2 {α β : Type} (p : α → β → Prop) : Prop
  | mk (a : α) (b : β) (z1 : p a b) : Ex2 p
theorem nat_is (a z : Int) (ha : 0 ≤ a) : NatIs (1 + (a + z).fmod 10) := by
  rw [Int.fmod_eq_emod_of_nonneg _ (by decide)]
  have h0 := Int.emod_nonneg (a + z) (show (10 : Int) ≠ 0 by decide)
  have h1 := Int.emod_lt_of_pos (a + z) (show (0 : Int) < 10 by decide)
  generalize (a + z) % 10 = r at h0 h1
  exact ⟨(1 + r).toNat, by (first | lia | omega), by (first | lia | omega), by (first | lia | omega)⟩
section
set_option maxHeartbeats 8000000 in
theorem fin : PySem.Challenge.rw_ik0182_01.Holds := hd (by
  k_fill
  intro w s₀ s₁ mg mb G Y fa o pm cd doc dV kV ho hd hcd hD hmg hg args vals as L hpre hlay hrd hwl hlo
  have KX := heapK_in (InK.keeps w _ _ (X.z_facts (fun _ => by kernel_rfl) Y).2.1 (Laid.keeps L))
  revert KX; k_fill; intro KX
  k_behind G ho hd hcd hD hmg hpre hlay hrd hwl hlo cd
  (all_goals try k_fold)
  refine let_env0 (B := execs _) ?_
  intro env A1
  (repeat' (first | (k_unfold; (try dsimp only)) | (k_end; wrow_close) | ((((fail_if_success (with_reducible show wpAny _ _ (compareOp _ (Value.ref _) (Value.ref _)) _ _ _)); (fail_if_success (with_reducible show wpAny _ _ (call (Value.ref _) _) _ _ _)); (fail_if_success (with_reducible show wpAny _ _ (exec (Stmt.Assign [Expr.Name _ _] (Expr.ListComp _ _ _ _) _) _) _ _ _)); (fail_if_success (with_reducible show wpAny _ _ (eval (Expr.ListComp _ _ _ _) _) _ _ _)))); (((fail_if_success (with_reducible show wpAny _ _ (exec (Stmt.While _ _ _ _) _) _ _ _)); (fail_if_success (with_reducible show wpAny _ _ (exec (Stmt.For _ _ _ _ _) _) _ _ _)))); (first | with_reducible (k_here; (with_reducible show wpAny _ _ (call (Value.type "int") _) _ _ _); (k_here; (refine' int_num_my ?ye ?ya ?yb ?_); (case ye => with_reducible assumption); (case ya => with_reducible assumption); (case yb => with_reducible assumption))) | with_reducible (k_here; (with_reducible show wpAny _ _ (call (Value.builtin "len") [Value.ref _]) _ _ _); (refine' len_my ?yN ?ya ?yz ?_); (case yN => k_asm); (case ya => ((repeat (first | (with_reducible assumption) | exact List.mem_cons_self | (refine List.mem_cons_of_mem _ ?_))))); (case yz => (first | lia | omega))) | with_reducible (k_here; (with_reducible show wpAny _ _ (binaryOp _ (Value.ref _) (Value.int _ _)) _ _ _); (refine' mul_my ?yF ?yN ?ya ?yx ?yz ?_); (case yF => k_asm); (case yN => k_asm); (case ya => ((repeat (first | (with_reducible assumption) | exact List.mem_cons_self | (refine List.mem_cons_of_mem _ ?_))))); (case yx => rfl); (case yz => (first | lia | omega)); intro _ _ _ _ _) | with_reducible (k_here; (with_reducible show wpAny _ _ (subscriptTail _ _ (Value.ref _) (Value.ref _)) _ _ _); (k_here; (refine' slice_my ?yF ?yN ?yl ?yp ?yq ?yz ?_ ?ys ?yt); (case yF => k_asm); (case yN => k_asm); (case yl => ((repeat (first | (with_reducible assumption) | exact List.mem_cons_self | (refine List.mem_cons_of_mem _ ?_))))); (case yp => kmk_part); (case yq => kmk_part); (case yz => simp only [vals_length]; (first | lia | omega)); (case ys => with_unfolding_all rfl); (case yt => kmk_pure); intro _ _ _ _ _)) | with_reducible (k_here; (with_reducible show wpAny _ _ (binaryOp _ (Value.ref _) (Value.ref _)) _ _ _); (refine' add_my ?yF ?yN ?ya ?yb ?yz ?_); (case yF => k_asm); (case yN => k_asm); (case ya => ((repeat (first | (with_reducible assumption) | exact List.mem_cons_self | (refine List.mem_cons_of_mem _ ?_))))); (case yb => ((repeat (first | (with_reducible assumption) | exact List.mem_cons_self | (refine List.mem_cons_of_mem _ ?_))))); (case yz => (first | lia | omega)); intro _ _ _ _ _) | with_reducible (k_here; (with_reducible show wpAny _ _ (call (Value.builtin "sum") [Value.ref _]) _ _ _); k_dflt (refine' sum_my ?yk0 ?yk1 ?yk2 ?yk3 ?_); (case yk0 => with_unfolding_all rfl); (case yk1 => k_asm); (case yk2 => k_asm); (case yk3 => with_reducible assumption); intro _ _ _ _ _ _) | (k_here; (with_reducible show wpAny _ _ (subscriptTail _ _ (Value.ref _) (Value.ref _)) _ _ _); (k_here; (with_reducible show wpAny _ _ (subscriptTail _ (PySem.Expr.Slice _ _ (some _) _) (Value.ref _) (Value.ref _)) _ _ _); k_dflt (refine' slice3_my ?yF ?yN ?yl ?yi ?yp ?yq ?yk ?yo ?yz ?_ ?ys ?yt); (case yF => k_asm); (case yN => k_asm); (case yl => kmk_list); (case yi => l_ints); (case yp => kmk_part); (case yq => kmk_part); (case yk => kmk_part); (case yo => decide); (case yz => first | (first | lia | omega) | (simp only [List.length_map] at *; (first | lia | omega))); (case ys => with_unfolding_all rfl); (case yt => kmk_pure); intro _ _ _ _ _ _ _ _)) | walk1)) | ((((fail_if_success (with_reducible show wpAny _ _ (compareOp _ (Value.ref _) (Value.ref _)) _ _ _)); (fail_if_success (with_reducible show wpAny _ _ (call (Value.ref _) _) _ _ _)); (fail_if_success (with_reducible show wpAny _ _ (exec (Stmt.Assign [Expr.Name _ _] (Expr.ListComp _ _ _ _) _) _) _ _ _)); (fail_if_success (with_reducible show wpAny _ _ (eval (Expr.ListComp _ _ _ _) _) _ _ _)))); (((fail_if_success (with_reducible show wpAny _ _ (exec (Stmt.While _ _ _ _) _) _ _ _)); (fail_if_success (with_reducible show wpAny _ _ (exec (Stmt.For _ _ _ _ _) _) _ _ _)))); dsimp only)))
  (first | with_reducible (k_here; (with_reducible show wpAny _ _ (call (Value.type "int") _) _ _ _); (k_here; (refine' int_num_my ?ye ?ya ?yb ?_); (case ye => with_reducible assumption); (case ya => with_reducible assumption); (case yb => with_reducible assumption))) | with_reducible (k_here; (with_reducible show wpAny _ _ (call (Value.builtin "len") [Value.ref _]) _ _ _); (refine' len_my ?yN ?ya ?yz ?_); (case yN => k_asm); (case ya => ((repeat (first | (with_reducible assumption) | exact List.mem_cons_self | (refine List.mem_cons_of_mem _ ?_))))); (case yz => (first | lia | omega))) | with_reducible (k_here; (with_reducible show wpAny _ _ (binaryOp _ (Value.ref _) (Value.int _ _)) _ _ _); (refine' mul_my ?yF ?yN ?ya ?yx ?yz ?_); (case yF => k_asm); (case yN => k_asm); (case ya => ((repeat (first | (with_reducible assumption) | exact List.mem_cons_self | (refine List.mem_cons_of_mem _ ?_))))); (case yx => rfl); (case yz => (first | lia | omega)); intro _ _ _ _ _) | with_reducible (k_here; (with_reducible show wpAny _ _ (subscriptTail _ _ (Value.ref _) (Value.ref _)) _ _ _); (k_here; (refine' slice_my ?yF ?yN ?yl ?yp ?yq ?yz ?_ ?ys ?yt); (case yF => k_asm); (case yN => k_asm); (case yl => ((repeat (first | (with_reducible assumption) | exact List.mem_cons_self | (refine List.mem_cons_of_mem _ ?_))))); (case yp => kmk_part); (case yq => kmk_part); (case yz => simp only [vals_length]; (first | lia | omega)); (case ys => with_unfolding_all rfl); (case yt => kmk_pure); intro _ _ _ _ _)) | with_reducible (k_here; (with_reducible show wpAny _ _ (binaryOp _ (Value.ref _) (Value.ref _)) _ _ _); (refine' add_my ?yF ?yN ?ya ?yb ?yz ?_); (case yF => k_asm); (case yN => k_asm); (case ya => ((repeat (first | (with_reducible assumption) | exact List.mem_cons_self | (refine List.mem_cons_of_mem _ ?_))))); (case yb => ((repeat (first | (with_reducible assumption) | exact List.mem_cons_self | (refine List.mem_cons_of_mem _ ?_))))); (case yz => (first | lia | omega)); intro _ _ _ _ _) | with_reducible (k_here; (with_reducible show wpAny _ _ (call (Value.builtin "sum") [Value.ref _]) _ _ _); k_dflt (refine' sum_my ?yk0 ?yk1 ?yk2 ?yk3 ?_); (case yk0 => with_unfolding_all rfl); (case yk1 => k_asm); (case yk2 => k_asm); (case yk3 => with_reducible assumption); intro _ _ _ _ _ _) | (k_here; (with_reducible show wpAny _ _ (subscriptTail _ _ (Value.ref _) (Value.ref _)) _ _ _); (k_here; (with_reducible show wpAny _ _ (subscriptTail _ (PySem.Expr.Slice _ _ (some _) _) (Value.ref _) (Value.ref _)) _ _ _); k_dflt (refine' slice3_my ?yF ?yN ?yl ?yi ?yp ?yq ?yk ?yo ?yz ?_ ?ys ?yt); (case yF => k_asm); (case yN => k_asm); (case yl => kmk_list); (case yi => l_ints); (case yp => kmk_part); (case yq => kmk_part); (case yk => kmk_part); (case yo => decide); (case yz => first | (first | lia | omega) | (simp only [List.length_map] at *; (first | lia | omega))); (case ys => with_unfolding_all rfl); (case yt => kmk_pure); intro _ _ _ _ _ _ _ _)) | walk1)
  (repeat' (first | (k_unfold; (try dsimp only)) | (k_end; wrow_close) | ((((fail_if_success (with_reducible show wpAny _ _ (compareOp _ (Value.ref _) (Value.ref _)) _ _ _)); (fail_if_success (with_reducible show wpAny _ _ (call (Value.ref _) _) _ _ _)); (fail_if_success (with_reducible show wpAny _ _ (exec (Stmt.Assign [Expr.Name _ _] (Expr.ListComp _ _ _ _) _) _) _ _ _)); (fail_if_success (with_reducible show wpAny _ _ (eval (Expr.ListComp _ _ _ _) _) _ _ _)))); (((fail_if_success (with_reducible show wpAny _ _ (exec (Stmt.While _ _ _ _) _) _ _ _)); (fail_if_success (with_reducible show wpAny _ _ (exec (Stmt.For _ _ _ _ _) _) _ _ _)))); (first | with_reducible (k_here; (with_reducible show wpAny _ _ (call (Value.type "int") _) _ _ _); (k_here; (refine' int_num_my ?ye ?ya ?yb ?_); (case ye => with_reducible assumption); (case ya => with_reducible assumption); (case yb => with_reducible assumption))) | with_reducible (k_here; (with_reducible show wpAny _ _ (call (Value.builtin "len") [Value.ref _]) _ _ _); (refine' len_my ?yN ?ya ?yz ?_); (case yN => k_asm); (case ya => ((repeat (first | (with_reducible assumption) | exact List.mem_cons_self | (refine List.mem_cons_of_mem _ ?_))))); (case yz => (first | lia | omega))) | with_reducible (k_here; (with_reducible show wpAny _ _ (binaryOp _ (Value.ref _) (Value.int _ _)) _ _ _); (refine' mul_my ?yF ?yN ?ya ?yx ?yz ?_); (case yF => k_asm); (case yN => k_asm); (case ya => ((repeat (first | (with_reducible assumption) | exact List.mem_cons_self | (refine List.mem_cons_of_mem _ ?_))))); (case yx => rfl); (case yz => (first | lia | omega)); intro _ _ _ _ _) | with_reducible (k_here; (with_reducible show wpAny _ _ (subscriptTail _ _ (Value.ref _) (Value.ref _)) _ _ _); (k_here; (refine' slice_my ?yF ?yN ?yl ?yp ?yq ?yz ?_ ?ys ?yt); (case yF => k_asm); (case yN => k_asm); (case yl => ((repeat (first | (with_reducible assumption) | exact List.mem_cons_self | (refine List.mem_cons_of_mem _ ?_))))); (case yp => kmk_part); (case yq => kmk_part); (case yz => simp only [vals_length]; (first | lia | omega)); (case ys => with_unfolding_all rfl); (case yt => kmk_pure); intro _ _ _ _ _)) | with_reducible (k_here; (with_reducible show wpAny _ _ (binaryOp _ (Value.ref _) (Value.ref _)) _ _ _); (refine' add_my ?yF ?yN ?ya ?yb ?yz ?_); (case yF => k_asm); (case yN => k_asm); (case ya => ((repeat (first | (with_reducible assumption) | exact List.mem_cons_self | (refine List.mem_cons_of_mem _ ?_))))); (case yb => ((repeat (first | (with_reducible assumption) | exact List.mem_cons_self | (refine List.mem_cons_of_mem _ ?_))))); (case yz => (first | lia | omega)); intro _ _ _ _ _) | with_reducible (k_here; (with_reducible show wpAny _ _ (call (Value.builtin "sum") [Value.ref _]) _ _ _); k_dflt (refine' sum_my ?yk0 ?yk1 ?yk2 ?yk3 ?_); (case yk0 => with_unfolding_all rfl); (case yk1 => k_asm); (case yk2 => k_asm); (case yk3 => with_reducible assumption); intro _ _ _ _ _ _) | (k_here; (with_reducible show wpAny _ _ (subscriptTail _ _ (Value.ref _) (Value.ref _)) _ _ _); (k_here; (with_reducible show wpAny _ _ (subscriptTail _ (PySem.Expr.Slice _ _ (some _) _) (Value.ref _) (Value.ref _)) _ _ _); k_dflt (refine' slice3_my ?yF ?yN ?yl ?yi ?yp ?yq ?yk ?yo ?yz ?_ ?ys ?yt); (case yF => k_asm); (case yN => k_asm); (case yl => kmk_list); (case yi => l_ints); (case yp => kmk_part); (case yq => kmk_part); (case yk => kmk_part); (case yo => decide); (case yz => first | (first | lia | omega) | (simp only [List.length_map] at *; (first | lia | omega))); (case ys => with_unfolding_all rfl); (case yt => kmk_pure); intro _ _ _ _ _ _ _ _)) | walk1)) | ((((fail_if_success (with_reducible show wpAny _ _ (compareOp _ (Value.ref _) (Value.ref _)) _ _ _)); (fail_if_success (with_reducible show wpAny _ _ (call (Value.ref _) _) _ _ _)); (fail_if_success (with_reducible show wpAny _ _ (exec (Stmt.Assign [Expr.Name _ _] (Expr.ListComp _ _ _ _) _) _) _ _ _)); (fail_if_success (with_reducible show wpAny _ _ (eval (Expr.ListComp _ _ _ _) _) _ _ _)))); (((fail_if_success (with_reducible show wpAny _ _ (exec (Stmt.While _ _ _ _) _) _ _ _)); (fail_if_success (with_reducible show wpAny _ _ (exec (Stmt.For _ _ _ _ _) _) _ _ _)))); dsimp only)))
  rename_i D2 h8 zs2 ms2 l12 hI2 h7 tk2 t2 z1 h6 tka D1 h5 zs1 ms1 l11 hI1 h4 tk1 t1 z2 h3 tkb D0 h2 zs0 ms0 l10 hI0 h1 tk0 t0 z3 h' o9 F9 N9 d9
  obtain ⟨n1, e1, n1a, n1b⟩ := nat_is 6 z1 (by decide)
  obtain ⟨n2, e2, n2a, n2b⟩ := nat_is 5 z2 (by decide)
  rw [e1, e2] at F9
  clear e1 e2
  obtain ⟨u1, u2, m9, F10⟩ : Ex3 fun u1 u2 m9 => Fr _ _ h' (ovr [(Str.ofString "first", .int (n1 : Nat) u1), (Str.ofString "second", .int (n2 : Nat) u2)] m9) := ⟨_, _, _, fr_ovr F9 (by repeat (first | exact List.forall_mem_nil _ | (refine List.forall_mem_cons.mpr ⟨by with_unfolding_all rfl, ?_⟩)))⟩
  obtain ⟨u3, d10⟩ : ∃ u3, o9.data = .cell (some (.int (7 + z3) u3)) := ⟨_, d9⟩
  have N10 := News.sub (news' := [(_, o9)]) N9 (by intro q hq; rw [List.mem_singleton.mp hq]; exact List.mem_cons_of_mem _ (List.mem_cons_of_mem _ List.mem_cons_self))
  clear F9 N9 d9
  refine gen_my (P := fun s' => wpAny _ _ _ _ _ s') (by assumption) rfl F10 N10 ?_
  clear F10 N10
  intro s' hgs1 hos1 F10 N10
  dsimp only at hos1
  k_dflt (refine Assign_ListComp_my (by k_asm) (by rfl) (by with_unfolding_all rfl) (by with_unfolding_all rfl) (CMade.plain (by decide) rfl) (by rfl) (by decide) (by rfl) (by rfl) ?_ (by intro _; with_unfolding_all rfl))
  (repeat' (first | (k_unfold; (try dsimp only)) | (k_end; wrow_close) | ((((fail_if_success (with_reducible show wpAny _ _ (compareOp _ (Value.ref _) (Value.ref _)) _ _ _)); (fail_if_success (with_reducible show wpAny _ _ (call (Value.ref _) _) _ _ _)); (fail_if_success (with_reducible show wpAny _ _ (exec (Stmt.Assign [Expr.Name _ _] (Expr.ListComp _ _ _ _) _) _) _ _ _)); (fail_if_success (with_reducible show wpAny _ _ (eval (Expr.ListComp _ _ _ _) _) _ _ _)))); (((fail_if_success (with_reducible show wpAny _ _ (exec (Stmt.While _ _ _ _) _) _ _ _)); (fail_if_success (with_reducible show wpAny _ _ (exec (Stmt.For _ _ _ _ _) _) _ _ _)))); (first | with_reducible (k_here; (with_reducible show wpAny _ _ (call (Value.type "int") _) _ _ _); (k_here; (refine' int_num_my ?ye ?ya ?yb ?_); (case ye => with_reducible assumption); (case ya => with_reducible assumption); (case yb => with_reducible assumption))) | with_reducible (k_here; (with_reducible show wpAny _ _ (call (Value.builtin "len") [Value.ref _]) _ _ _); (refine' len_my ?yN ?ya ?yz ?_); (case yN => k_asm); (case ya => ((repeat (first | (with_reducible assumption) | exact List.mem_cons_self | (refine List.mem_cons_of_mem _ ?_))))); (case yz => (first | lia | omega))) | with_reducible (k_here; (with_reducible show wpAny _ _ (binaryOp _ (Value.ref _) (Value.int _ _)) _ _ _); (refine' mul_my ?yF ?yN ?ya ?yx ?yz ?_); (case yF => k_asm); (case yN => k_asm); (case ya => ((repeat (first | (with_reducible assumption) | exact List.mem_cons_self | (refine List.mem_cons_of_mem _ ?_))))); (case yx => rfl); (case yz => (first | lia | omega)); intro _ _ _ _ _) | with_reducible (k_here; (with_reducible show wpAny _ _ (subscriptTail _ _ (Value.ref _) (Value.ref _)) _ _ _); (k_here; (refine' slice_my ?yF ?yN ?yl ?yp ?yq ?yz ?_ ?ys ?yt); (case yF => k_asm); (case yN => k_asm); (case yl => ((repeat (first | (with_reducible assumption) | exact List.mem_cons_self | (refine List.mem_cons_of_mem _ ?_))))); (case yp => kmk_part); (case yq => kmk_part); (case yz => simp only [vals_length]; (first | lia | omega)); (case ys => with_unfolding_all rfl); (case yt => kmk_pure); intro _ _ _ _ _)) | with_reducible (k_here; (with_reducible show wpAny _ _ (binaryOp _ (Value.ref _) (Value.ref _)) _ _ _); (refine' add_my ?yF ?yN ?ya ?yb ?yz ?_); (case yF => k_asm); (case yN => k_asm); (case ya => ((repeat (first | (with_reducible assumption) | exact List.mem_cons_self | (refine List.mem_cons_of_mem _ ?_))))); (case yb => ((repeat (first | (with_reducible assumption) | exact List.mem_cons_self | (refine List.mem_cons_of_mem _ ?_))))); (case yz => (first | lia | omega)); intro _ _ _ _ _) | with_reducible (k_here; (with_reducible show wpAny _ _ (call (Value.builtin "sum") [Value.ref _]) _ _ _); k_dflt (refine' sum_my ?yk0 ?yk1 ?yk2 ?yk3 ?_); (case yk0 => with_unfolding_all rfl); (case yk1 => k_asm); (case yk2 => k_asm); (case yk3 => with_reducible assumption); intro _ _ _ _ _ _) | (k_here; (with_reducible show wpAny _ _ (subscriptTail _ _ (Value.ref _) (Value.ref _)) _ _ _); (k_here; (with_reducible show wpAny _ _ (subscriptTail _ (PySem.Expr.Slice _ _ (some _) _) (Value.ref _) (Value.ref _)) _ _ _); k_dflt (refine' slice3_my ?yF ?yN ?yl ?yi ?yp ?yq ?yk ?yo ?yz ?_ ?ys ?yt); (case yF => k_asm); (case yN => k_asm); (case yl => kmk_list); (case yi => l_ints); (case yp => kmk_part); (case yq => kmk_part); (case yk => kmk_part); (case yo => decide); (case yz => first | (first | lia | omega) | (simp only [List.length_map] at *; (first | lia | omega))); (case ys => with_unfolding_all rfl); (case yt => kmk_pure); intro _ _ _ _ _ _ _ _)) | walk1)) | ((((fail_if_success (with_reducible show wpAny _ _ (compareOp _ (Value.ref _) (Value.ref _)) _ _ _)); (fail_if_success (with_reducible show wpAny _ _ (call (Value.ref _) _) _ _ _)); (fail_if_success (with_reducible show wpAny _ _ (exec (Stmt.Assign [Expr.Name _ _] (Expr.ListComp _ _ _ _) _) _) _ _ _)); (fail_if_success (with_reducible show wpAny _ _ (eval (Expr.ListComp _ _ _ _) _) _ _ _)))); (((fail_if_success (with_reducible show wpAny _ _ (exec (Stmt.While _ _ _ _) _) _ _ _)); (fail_if_success (with_reducible show wpAny _ _ (exec (Stmt.For _ _ _ _ _) _) _ _ _)))); dsimp only)))
  rename IsRange _ _ _ _ _ _ _ _ => hrg
  rename Fr _ _ _ _ => F11
  rename News _ _ _ _ => N11
  refine CSrc.range (n := n1 + n2) (fun C i ys nw => nw = [(_, o9)] ∧ ys.length ≤ i ∧ IntsAre ys ((marksOf (7 + z3) (n1 + n2)).take i)) rfl F11 N11 hrg (range_small (n := n1 + n2) (by (first | lia | omega))) (rangeSize_nat (n := n1 + n2)) (by (first | lia | omega)) (fun C hlt => ⟨rfl, Nat.le_refl _, .nil⟩) ?_ ?_
  · rintro I C D i v ys nw h tk9 oI oC m₂ hi ⟨tv, rfl⟩ - ⟨rfl, hyl, hI4⟩ off dist hn F12 N12
    refine one1 rfl (by rfl) off dist hn F12 N12 ?_
    intro h3 tk3 oC3 m3 hn3 hx1 F13 N13
    (repeat' (first | (k_unfold; (try dsimp only)) | (k_end; wrow_close) | ((((fail_if_success (with_reducible show wpAny _ _ (compareOp _ (Value.ref _) (Value.ref _)) _ _ _)); (fail_if_success (with_reducible show wpAny _ _ (call (Value.ref _) _) _ _ _)); (fail_if_success (with_reducible show wpAny _ _ (exec (Stmt.Assign [Expr.Name _ _] (Expr.ListComp _ _ _ _) _) _) _ _ _)); (fail_if_success (with_reducible show wpAny _ _ (eval (Expr.ListComp _ _ _ _) _) _ _ _)))); (((fail_if_success (with_reducible show wpAny _ _ (exec (Stmt.While _ _ _ _) _) _ _ _)); (fail_if_success (with_reducible show wpAny _ _ (exec (Stmt.For _ _ _ _ _) _) _ _ _)))); (first | with_reducible (k_here; (with_reducible show wpAny _ _ (call (Value.type "int") _) _ _ _); (k_here; (refine' int_num_my ?ye ?ya ?yb ?_); (case ye => with_reducible assumption); (case ya => with_reducible assumption); (case yb => with_reducible assumption))) | with_reducible (k_here; (with_reducible show wpAny _ _ (call (Value.builtin "len") [Value.ref _]) _ _ _); (refine' len_my ?yN ?ya ?yz ?_); (case yN => k_asm); (case ya => ((repeat (first | (with_reducible assumption) | exact List.mem_cons_self | (refine List.mem_cons_of_mem _ ?_))))); (case yz => (first | lia | omega))) | with_reducible (k_here; (with_reducible show wpAny _ _ (binaryOp _ (Value.ref _) (Value.int _ _)) _ _ _); (refine' mul_my ?yF ?yN ?ya ?yx ?yz ?_); (case yF => k_asm); (case yN => k_asm); (case ya => ((repeat (first | (with_reducible assumption) | exact List.mem_cons_self | (refine List.mem_cons_of_mem _ ?_))))); (case yx => rfl); (case yz => (first | lia | omega)); intro _ _ _ _ _) | with_reducible (k_here; (with_reducible show wpAny _ _ (subscriptTail _ _ (Value.ref _) (Value.ref _)) _ _ _); (k_here; (refine' slice_my ?yF ?yN ?yl ?yp ?yq ?yz ?_ ?ys ?yt); (case yF => k_asm); (case yN => k_asm); (case yl => ((repeat (first | (with_reducible assumption) | exact List.mem_cons_self | (refine List.mem_cons_of_mem _ ?_))))); (case yp => kmk_part); (case yq => kmk_part); (case yz => simp only [vals_length]; (first | lia | omega)); (case ys => with_unfolding_all rfl); (case yt => kmk_pure); intro _ _ _ _ _)) | with_reducible (k_here; (with_reducible show wpAny _ _ (binaryOp _ (Value.ref _) (Value.ref _)) _ _ _); (refine' add_my ?yF ?yN ?ya ?yb ?yz ?_); (case yF => k_asm); (case yN => k_asm); (case ya => ((repeat (first | (with_reducible assumption) | exact List.mem_cons_self | (refine List.mem_cons_of_mem _ ?_))))); (case yb => ((repeat (first | (with_reducible assumption) | exact List.mem_cons_self | (refine List.mem_cons_of_mem _ ?_))))); (case yz => (first | lia | omega)); intro _ _ _ _ _) | with_reducible (k_here; (with_reducible show wpAny _ _ (call (Value.builtin "sum") [Value.ref _]) _ _ _); k_dflt (refine' sum_my ?yk0 ?yk1 ?yk2 ?yk3 ?_); (case yk0 => with_unfolding_all rfl); (case yk1 => k_asm); (case yk2 => k_asm); (case yk3 => with_reducible assumption); intro _ _ _ _ _ _) | (k_here; (with_reducible show wpAny _ _ (subscriptTail _ _ (Value.ref _) (Value.ref _)) _ _ _); (k_here; (with_reducible show wpAny _ _ (subscriptTail _ (PySem.Expr.Slice _ _ (some _) _) (Value.ref _) (Value.ref _)) _ _ _); k_dflt (refine' slice3_my ?yF ?yN ?yl ?yi ?yp ?yq ?yk ?yo ?yz ?_ ?ys ?yt); (case yF => k_asm); (case yN => k_asm); (case yl => kmk_list); (case yi => l_ints); (case yp => kmk_part); (case yq => kmk_part); (case yk => kmk_part); (case yo => decide); (case yz => first | (first | lia | omega) | (simp only [List.length_map] at *; (first | lia | omega))); (case ys => with_unfolding_all rfl); (case yt => kmk_pure); intro _ _ _ _ _ _ _ _)) | walk1)) | ((((fail_if_success (with_reducible show wpAny _ _ (compareOp _ (Value.ref _) (Value.ref _)) _ _ _)); (fail_if_success (with_reducible show wpAny _ _ (call (Value.ref _) _) _ _ _)); (fail_if_success (with_reducible show wpAny _ _ (exec (Stmt.Assign [Expr.Name _ _] (Expr.ListComp _ _ _ _) _) _) _ _ _)); (fail_if_success (with_reducible show wpAny _ _ (eval (Expr.ListComp _ _ _ _) _) _ _ _)))); (((fail_if_success (with_reducible show wpAny _ _ (exec (Stmt.While _ _ _ _) _) _ _ _)); (fail_if_success (with_reducible show wpAny _ _ (exec (Stmt.For _ _ _ _ _) _) _ _ _)))); dsimp only)))
    refine CEnd.intro hn3 F13 N13 off ⟨rfl, by rw [List.length_append, List.length_singleton]; (first | lia | omega), ?_⟩
    exact marks_snoc hI4 hi (by rw [Int.zero_add]; rfl)
  · rintro h9 C ys nw ⟨rfl, hyl, hI4⟩ D h tk9 F12 N12 hD
    rw [List.take_of_length_le (by simp [marksOf])] at hI4
    rw [show LCg.lst ys = W.listOf (List.toArray ys) ys.length from rfl] at N12
    (repeat' (first | (k_unfold; (try dsimp only)) | (k_end; wrow_close) | ((((fail_if_success (with_reducible show wpAny _ _ (compareOp _ (Value.ref _) (Value.ref _)) _ _ _)); (fail_if_success (with_reducible show wpAny _ _ (call (Value.ref _) _) _ _ _)); (fail_if_success (with_reducible show wpAny _ _ (exec (Stmt.Assign [Expr.Name _ _] (Expr.ListComp _ _ _ _) _) _) _ _ _)); (fail_if_success (with_reducible show wpAny _ _ (eval (Expr.ListComp _ _ _ _) _) _ _ _)))); (((fail_if_success (with_reducible show wpAny _ _ (exec (Stmt.While _ _ _ _) _) _ _ _)); (fail_if_success (with_reducible show wpAny _ _ (exec (Stmt.For _ _ _ _ _) _) _ _ _)))); (first | with_reducible (k_here; (with_reducible show wpAny _ _ (call (Value.type "int") _) _ _ _); (k_here; (refine' int_num_my ?ye ?ya ?yb ?_); (case ye => with_reducible assumption); (case ya => with_reducible assumption); (case yb => with_reducible assumption))) | with_reducible (k_here; (with_reducible show wpAny _ _ (call (Value.builtin "len") [Value.ref _]) _ _ _); (refine' len_my ?yN ?ya ?yz ?_); (case yN => k_asm); (case ya => ((repeat (first | (with_reducible assumption) | exact List.mem_cons_self | (refine List.mem_cons_of_mem _ ?_))))); (case yz => (first | lia | omega))) | with_reducible (k_here; (with_reducible show wpAny _ _ (binaryOp _ (Value.ref _) (Value.int _ _)) _ _ _); (refine' mul_my ?yF ?yN ?ya ?yx ?yz ?_); (case yF => k_asm); (case yN => k_asm); (case ya => ((repeat (first | (with_reducible assumption) | exact List.mem_cons_self | (refine List.mem_cons_of_mem _ ?_))))); (case yx => rfl); (case yz => (first | lia | omega)); intro _ _ _ _ _) | with_reducible (k_here; (with_reducible show wpAny _ _ (subscriptTail _ _ (Value.ref _) (Value.ref _)) _ _ _); (k_here; (refine' slice_my ?yF ?yN ?yl ?yp ?yq ?yz ?_ ?ys ?yt); (case yF => k_asm); (case yN => k_asm); (case yl => ((repeat (first | (with_reducible assumption) | exact List.mem_cons_self | (refine List.mem_cons_of_mem _ ?_))))); (case yp => kmk_part); (case yq => kmk_part); (case yz => simp only [vals_length]; (first | lia | omega)); (case ys => with_unfolding_all rfl); (case yt => kmk_pure); intro _ _ _ _ _)) | with_reducible (k_here; (with_reducible show wpAny _ _ (binaryOp _ (Value.ref _) (Value.ref _)) _ _ _); (refine' add_my ?yF ?yN ?ya ?yb ?yz ?_); (case yF => k_asm); (case yN => k_asm); (case ya => ((repeat (first | (with_reducible assumption) | exact List.mem_cons_self | (refine List.mem_cons_of_mem _ ?_))))); (case yb => ((repeat (first | (with_reducible assumption) | exact List.mem_cons_self | (refine List.mem_cons_of_mem _ ?_))))); (case yz => (first | lia | omega)); intro _ _ _ _ _) | with_reducible (k_here; (with_reducible show wpAny _ _ (call (Value.builtin "sum") [Value.ref _]) _ _ _); k_dflt (refine' sum_my ?yk0 ?yk1 ?yk2 ?yk3 ?_); (case yk0 => with_unfolding_all rfl); (case yk1 => k_asm); (case yk2 => k_asm); (case yk3 => with_reducible assumption); intro _ _ _ _ _ _) | (k_here; (with_reducible show wpAny _ _ (subscriptTail _ _ (Value.ref _) (Value.ref _)) _ _ _); (k_here; (with_reducible show wpAny _ _ (subscriptTail _ (PySem.Expr.Slice _ _ (some _) _) (Value.ref _) (Value.ref _)) _ _ _); k_dflt (refine' slice3_my ?yF ?yN ?yl ?yi ?yp ?yq ?yk ?yo ?yz ?_ ?ys ?yt); (case yF => k_asm); (case yN => k_asm); (case yl => kmk_list); (case yi => l_ints); (case yp => kmk_part); (case yq => kmk_part); (case yk => kmk_part); (case yo => decide); (case yz => first | (first | lia | omega) | (simp only [List.length_map] at *; (first | lia | omega))); (case ys => with_unfolding_all rfl); (case yt => kmk_pure); intro _ _ _ _ _ _ _ _)) | walk1)) | ((((fail_if_success (with_reducible show wpAny _ _ (compareOp _ (Value.ref _) (Value.ref _)) _ _ _)); (fail_if_success (with_reducible show wpAny _ _ (call (Value.ref _) _) _ _ _)); (fail_if_success (with_reducible show wpAny _ _ (exec (Stmt.Assign [Expr.Name _ _] (Expr.ListComp _ _ _ _) _) _) _ _ _)); (fail_if_success (with_reducible show wpAny _ _ (eval (Expr.ListComp _ _ _ _) _) _ _ _)))); (((fail_if_success (with_reducible show wpAny _ _ (exec (Stmt.While _ _ _ _) _) _ _ _)); (fail_if_success (with_reducible show wpAny _ _ (exec (Stmt.For _ _ _ _ _) _) _ _ _)))); dsimp only)))
    obtain ⟨m12, F13⟩ : ∃ m12, Fr _ _ h (ovr [(Str.ofString "first", .int (n1 : Nat) u1), (Str.ofString "second", .int (n2 : Nat) u2), (Str.ofString "marks", .ref D)] m12) := ⟨_, fr_ovr F12 (by ((repeat (first | exact List.forall_mem_nil _ | (refine List.forall_mem_cons.mpr ⟨by with_unfolding_all rfl, ?_⟩)))))⟩
    clear F12
    refine gen_my (P := fun s' => wpAny _ _ _ _ _ s') hgs1 hos1 F13 N12 ?_
    clear F13 N12
    intro s3 hgs2 hos2 F13 N12
    k_dflt (refine Assign_ListComp_my (by k_asm) (by rfl) (by with_unfolding_all rfl) (by with_unfolding_all rfl) (CMade.plain (by decide) rfl) (by rfl) (by decide) (by rfl) (by rfl) ?_ (by intro _; with_unfolding_all rfl))
    (repeat' (first | (k_unfold; (try dsimp only)) | (k_end; wrow_close) | ((((fail_if_success (with_reducible show wpAny _ _ (compareOp _ (Value.ref _) (Value.ref _)) _ _ _)); (fail_if_success (with_reducible show wpAny _ _ (call (Value.ref _) _) _ _ _)); (fail_if_success (with_reducible show wpAny _ _ (exec (Stmt.Assign [Expr.Name _ _] (Expr.ListComp _ _ _ _) _) _) _ _ _)); (fail_if_success (with_reducible show wpAny _ _ (eval (Expr.ListComp _ _ _ _) _) _ _ _)))); (((fail_if_success (with_reducible show wpAny _ _ (exec (Stmt.While _ _ _ _) _) _ _ _)); (fail_if_success (with_reducible show wpAny _ _ (exec (Stmt.For _ _ _ _ _) _) _ _ _)))); (first | with_reducible (k_here; (with_reducible show wpAny _ _ (call (Value.type "int") _) _ _ _); (k_here; (refine' int_num_my ?ye ?ya ?yb ?_); (case ye => with_reducible assumption); (case ya => with_reducible assumption); (case yb => with_reducible assumption))) | with_reducible (k_here; (with_reducible show wpAny _ _ (call (Value.builtin "len") [Value.ref _]) _ _ _); (refine' len_my ?yN ?ya ?yz ?_); (case yN => k_asm); (case ya => ((repeat (first | (with_reducible assumption) | exact List.mem_cons_self | (refine List.mem_cons_of_mem _ ?_))))); (case yz => (first | lia | omega))) | with_reducible (k_here; (with_reducible show wpAny _ _ (binaryOp _ (Value.ref _) (Value.int _ _)) _ _ _); (refine' mul_my ?yF ?yN ?ya ?yx ?yz ?_); (case yF => k_asm); (case yN => k_asm); (case ya => ((repeat (first | (with_reducible assumption) | exact List.mem_cons_self | (refine List.mem_cons_of_mem _ ?_))))); (case yx => rfl); (case yz => (first | lia | omega)); intro _ _ _ _ _) | with_reducible (k_here; (with_reducible show wpAny _ _ (subscriptTail _ _ (Value.ref _) (Value.ref _)) _ _ _); (k_here; (refine' slice_my ?yF ?yN ?yl ?yp ?yq ?yz ?_ ?ys ?yt); (case yF => k_asm); (case yN => k_asm); (case yl => ((repeat (first | (with_reducible assumption) | exact List.mem_cons_self | (refine List.mem_cons_of_mem _ ?_))))); (case yp => kmk_part); (case yq => kmk_part); (case yz => simp only [vals_length]; (first | lia | omega)); (case ys => with_unfolding_all rfl); (case yt => kmk_pure); intro _ _ _ _ _)) | with_reducible (k_here; (with_reducible show wpAny _ _ (binaryOp _ (Value.ref _) (Value.ref _)) _ _ _); (refine' add_my ?yF ?yN ?ya ?yb ?yz ?_); (case yF => k_asm); (case yN => k_asm); (case ya => ((repeat (first | (with_reducible assumption) | exact List.mem_cons_self | (refine List.mem_cons_of_mem _ ?_))))); (case yb => ((repeat (first | (with_reducible assumption) | exact List.mem_cons_self | (refine List.mem_cons_of_mem _ ?_))))); (case yz => (first | lia | omega)); intro _ _ _ _ _) | with_reducible (k_here; (with_reducible show wpAny _ _ (call (Value.builtin "sum") [Value.ref _]) _ _ _); k_dflt (refine' sum_my ?yk0 ?yk1 ?yk2 ?yk3 ?_); (case yk0 => with_unfolding_all rfl); (case yk1 => k_asm); (case yk2 => k_asm); (case yk3 => with_reducible assumption); intro _ _ _ _ _ _) | (k_here; (with_reducible show wpAny _ _ (subscriptTail _ _ (Value.ref _) (Value.ref _)) _ _ _); (k_here; (with_reducible show wpAny _ _ (subscriptTail _ (PySem.Expr.Slice _ _ (some _) _) (Value.ref _) (Value.ref _)) _ _ _); k_dflt (refine' slice3_my ?yF ?yN ?yl ?yi ?yp ?yq ?yk ?yo ?yz ?_ ?ys ?yt); (case yF => k_asm); (case yN => k_asm); (case yl => kmk_list); (case yi => l_ints); (case yp => kmk_part); (case yq => kmk_part); (case yk => kmk_part); (case yo => decide); (case yz => first | (first | lia | omega) | (simp only [List.length_map] at *; (first | lia | omega))); (case ys => with_unfolding_all rfl); (case yt => kmk_pure); intro _ _ _ _ _ _ _ _)) | walk1)) | ((((fail_if_success (with_reducible show wpAny _ _ (compareOp _ (Value.ref _) (Value.ref _)) _ _ _)); (fail_if_success (with_reducible show wpAny _ _ (call (Value.ref _) _) _ _ _)); (fail_if_success (with_reducible show wpAny _ _ (exec (Stmt.Assign [Expr.Name _ _] (Expr.ListComp _ _ _ _) _) _) _ _ _)); (fail_if_success (with_reducible show wpAny _ _ (eval (Expr.ListComp _ _ _ _) _) _ _ _)))); (((fail_if_success (with_reducible show wpAny _ _ (exec (Stmt.While _ _ _ _) _) _ _ _)); (fail_if_success (with_reducible show wpAny _ _ (exec (Stmt.For _ _ _ _ _) _) _ _ _)))); dsimp only)))
    rename Fr _ _ _ _ => F14
    rename News _ _ _ _ => N14
    have hyn : ys.length = n1 + n2 := by rw [ints_len hI4]; simp [marksOf]
    refine CSrc.list (vs := ys) (ep := ys.length) (fun _ i zs nw => LfJ [(D, W.listOf (List.toArray ys) ys.length), (_, o9)] (7 + z3) i zs nw) rfl F14 N14 (by (first | lia | omega)) List.mem_cons_self (fun C i ys nw hj => by obtain ⟨f, _, h, _⟩ := hj; exact h _ List.mem_cons_self) (fun C _ => ⟨fun _ => (.none, leaf 0), rfl, fun _ h => h, fun j hj => absurd hj (Nat.not_lt_zero j)⟩) ?_ ?_
    · rintro I C2 D2 i v zs nw h' tk9' oI oC m₂ hi hv st ⟨f, rfl, hsub, hT⟩ off dist hn F15 N15
      obtain ⟨mk, tmk, hmk, rfl⟩ := ints_at hI4 hv
      have hmkA := marks_at hmk
      have hmk1 := hmkA.1
      have hmk2 := hmkA.2.1
      have hmk3 := hmkA.2.2
      clear hmkA
      refine one1 rfl (by rfl) off dist hn F15 N15 ?_
      intro h3 tk3 oC3 m3 hn3 hx1 F16 N16
      (repeat' (first | (k_unfold; (try dsimp only)) | (k_end; wrow_close) | ((((fail_if_success (with_reducible show wpAny _ _ (compareOp _ (Value.ref _) (Value.ref _)) _ _ _)); (fail_if_success (with_reducible show wpAny _ _ (call (Value.ref _) _) _ _ _)); (fail_if_success (with_reducible show wpAny _ _ (exec (Stmt.Assign [Expr.Name _ _] (Expr.ListComp _ _ _ _) _) _) _ _ _)); (fail_if_success (with_reducible show wpAny _ _ (eval (Expr.ListComp _ _ _ _) _) _ _ _)))); (((fail_if_success (with_reducible show wpAny _ _ (exec (Stmt.While _ _ _ _) _) _ _ _)); (fail_if_success (with_reducible show wpAny _ _ (exec (Stmt.For _ _ _ _ _) _) _ _ _)))); (first | with_reducible (k_here; (with_reducible show wpAny _ _ (call (Value.type "int") _) _ _ _); (k_here; (refine' int_num_my ?ye ?ya ?yb ?_); (case ye => with_reducible assumption); (case ya => with_reducible assumption); (case yb => with_reducible assumption))) | with_reducible (k_here; (with_reducible show wpAny _ _ (call (Value.builtin "len") [Value.ref _]) _ _ _); (refine' len_my ?yN ?ya ?yz ?_); (case yN => k_asm); (case ya => ((repeat (first | (with_reducible assumption) | exact List.mem_cons_self | (refine List.mem_cons_of_mem _ ?_))))); (case yz => (first | lia | omega))) | with_reducible (k_here; (with_reducible show wpAny _ _ (binaryOp _ (Value.ref _) (Value.int _ _)) _ _ _); (refine' mul_my ?yF ?yN ?ya ?yx ?yz ?_); (case yF => k_asm); (case yN => k_asm); (case ya => ((repeat (first | (with_reducible assumption) | exact List.mem_cons_self | (refine List.mem_cons_of_mem _ ?_))))); (case yx => rfl); (case yz => (first | lia | omega)); intro _ _ _ _ _) | with_reducible (k_here; (with_reducible show wpAny _ _ (subscriptTail _ _ (Value.ref _) (Value.ref _)) _ _ _); (k_here; (refine' slice_my ?yF ?yN ?yl ?yp ?yq ?yz ?_ ?ys ?yt); (case yF => k_asm); (case yN => k_asm); (case yl => ((repeat (first | (with_reducible assumption) | exact List.mem_cons_self | (refine List.mem_cons_of_mem _ ?_))))); (case yp => kmk_part); (case yq => kmk_part); (case yz => simp only [vals_length]; (first | lia | omega)); (case ys => with_unfolding_all rfl); (case yt => kmk_pure); intro _ _ _ _ _)) | with_reducible (k_here; (with_reducible show wpAny _ _ (binaryOp _ (Value.ref _) (Value.ref _)) _ _ _); (refine' add_my ?yF ?yN ?ya ?yb ?yz ?_); (case yF => k_asm); (case yN => k_asm); (case ya => ((repeat (first | (with_reducible assumption) | exact List.mem_cons_self | (refine List.mem_cons_of_mem _ ?_))))); (case yb => ((repeat (first | (with_reducible assumption) | exact List.mem_cons_self | (refine List.mem_cons_of_mem _ ?_))))); (case yz => (first | lia | omega)); intro _ _ _ _ _) | with_reducible (k_here; (with_reducible show wpAny _ _ (call (Value.builtin "sum") [Value.ref _]) _ _ _); k_dflt (refine' sum_my ?yk0 ?yk1 ?yk2 ?yk3 ?_); (case yk0 => with_unfolding_all rfl); (case yk1 => k_asm); (case yk2 => k_asm); (case yk3 => with_reducible assumption); intro _ _ _ _ _ _) | (k_here; (with_reducible show wpAny _ _ (subscriptTail _ _ (Value.ref _) (Value.ref _)) _ _ _); (k_here; (with_reducible show wpAny _ _ (subscriptTail _ (PySem.Expr.Slice _ _ (some _) _) (Value.ref _) (Value.ref _)) _ _ _); k_dflt (refine' slice3_my ?yF ?yN ?yl ?yi ?yp ?yq ?yk ?yo ?yz ?_ ?ys ?yt); (case yF => k_asm); (case yN => k_asm); (case yl => kmk_list); (case yi => l_ints); (case yp => kmk_part); (case yq => kmk_part); (case yk => kmk_part); (case yo => decide); (case yz => first | (first | lia | omega) | (simp only [List.length_map] at *; (first | lia | omega))); (case ys => with_unfolding_all rfl); (case yt => kmk_pure); intro _ _ _ _ _ _ _ _)) | walk1)) | ((((fail_if_success (with_reducible show wpAny _ _ (compareOp _ (Value.ref _) (Value.ref _)) _ _ _)); (fail_if_success (with_reducible show wpAny _ _ (call (Value.ref _) _) _ _ _)); (fail_if_success (with_reducible show wpAny _ _ (exec (Stmt.Assign [Expr.Name _ _] (Expr.ListComp _ _ _ _) _) _) _ _ _)); (fail_if_success (with_reducible show wpAny _ _ (eval (Expr.ListComp _ _ _ _) _) _ _ _)))); (((fail_if_success (with_reducible show wpAny _ _ (exec (Stmt.While _ _ _ _) _) _ _ _)); (fail_if_success (with_reducible show wpAny _ _ (exec (Stmt.For _ _ _ _ _) _) _ _ _)))); dsimp only)))
      rename_i Dl hl l1 Dt ht Ft Nt l2
      have Nu : News _ _ ht ((I, oI) :: (C2, oC3) :: (D2, LCg.lst (vals f i)) :: (Dt, TupObj 0 mk _ tmk (.ref Dl) 0) :: (Dl, W.listOf (List.toArray [.str (num mk) _]) 0) :: nw) := News.sub Nt pm6
      exact CEnd.intro hn3 Ft Nu ⟨⟨Nat.ne_of_gt l2.2.1, Nat.ne_of_gt l2.2.2.1, Nat.ne_of_gt l2.2.2.2.1⟩, ⟨Nat.ne_of_gt l1.1, Nat.ne_of_gt l1.2.1, Nat.ne_of_gt l1.2.2.1⟩, off⟩ (leaf_more hsub hT hmk1)
    · rintro h9' C ws nw ⟨f, rfl, hsub, hT⟩ D2 h2 tk2 F15 N15 hD2
      rw [show LCg.lst (vals f ys.length) = W.listOf (List.toArray (vals f ys.length)) (vals f ys.length).length from rfl] at N15
      rw [hyn] at hT N15
      obtain ⟨m15, F16⟩ : ∃ m15, Fr _ _ h2 (ovr [(Str.ofString "first", .int (n1 : Nat) u1), (Str.ofString "second", .int (n2 : Nat) u2), (Str.ofString "marks", .ref D), (Str.ofString "trees", .ref D2)] m15) := ⟨_, fr_ovr F15 (by ((repeat (first | exact List.forall_mem_nil _ | (refine List.forall_mem_cons.mpr ⟨by with_unfolding_all rfl, ?_⟩)))))⟩
      clear F15
      (repeat' (first | (k_unfold; (try dsimp only)) | (k_end; wrow_close) | ((((fail_if_success (with_reducible show wpAny _ _ (compareOp _ (Value.ref _) (Value.ref _)) _ _ _)); (fail_if_success (with_reducible show wpAny _ _ (call (Value.ref _) _) _ _ _)); (fail_if_success (with_reducible show wpAny _ _ (exec (Stmt.Assign [Expr.Name _ _] (Expr.ListComp _ _ _ _) _) _) _ _ _)); (fail_if_success (with_reducible show wpAny _ _ (eval (Expr.ListComp _ _ _ _) _) _ _ _)))); (((fail_if_success (with_reducible show wpAny _ _ (exec (Stmt.While _ _ _ _) _) _ _ _)); (fail_if_success (with_reducible show wpAny _ _ (exec (Stmt.For _ _ _ _ _) _) _ _ _)))); (first | with_reducible (k_here; (with_reducible show wpAny _ _ (call (Value.type "int") _) _ _ _); (k_here; (refine' int_num_my ?ye ?ya ?yb ?_); (case ye => with_reducible assumption); (case ya => with_reducible assumption); (case yb => with_reducible assumption))) | with_reducible (k_here; (with_reducible show wpAny _ _ (call (Value.builtin "len") [Value.ref _]) _ _ _); (refine' len_my ?yN ?ya ?yz ?_); (case yN => k_asm); (case ya => ((repeat (first | (with_reducible assumption) | exact List.mem_cons_self | (refine List.mem_cons_of_mem _ ?_))))); (case yz => (first | lia | omega))) | with_reducible (k_here; (with_reducible show wpAny _ _ (binaryOp _ (Value.ref _) (Value.int _ _)) _ _ _); (refine' mul_my ?yF ?yN ?ya ?yx ?yz ?_); (case yF => k_asm); (case yN => k_asm); (case ya => ((repeat (first | (with_reducible assumption) | exact List.mem_cons_self | (refine List.mem_cons_of_mem _ ?_))))); (case yx => rfl); (case yz => (first | lia | omega)); intro _ _ _ _ _) | with_reducible (k_here; (with_reducible show wpAny _ _ (subscriptTail _ _ (Value.ref _) (Value.ref _)) _ _ _); (k_here; (refine' slice_my ?yF ?yN ?yl ?yp ?yq ?yz ?_ ?ys ?yt); (case yF => k_asm); (case yN => k_asm); (case yl => ((repeat (first | (with_reducible assumption) | exact List.mem_cons_self | (refine List.mem_cons_of_mem _ ?_))))); (case yp => kmk_part); (case yq => kmk_part); (case yz => simp only [vals_length]; (first | lia | omega)); (case ys => with_unfolding_all rfl); (case yt => kmk_pure); intro _ _ _ _ _)) | with_reducible (k_here; (with_reducible show wpAny _ _ (binaryOp _ (Value.ref _) (Value.ref _)) _ _ _); (refine' add_my ?yF ?yN ?ya ?yb ?yz ?_); (case yF => k_asm); (case yN => k_asm); (case ya => ((repeat (first | (with_reducible assumption) | exact List.mem_cons_self | (refine List.mem_cons_of_mem _ ?_))))); (case yb => ((repeat (first | (with_reducible assumption) | exact List.mem_cons_self | (refine List.mem_cons_of_mem _ ?_))))); (case yz => (first | lia | omega)); intro _ _ _ _ _) | with_reducible (k_here; (with_reducible show wpAny _ _ (call (Value.builtin "sum") [Value.ref _]) _ _ _); k_dflt (refine' sum_my ?yk0 ?yk1 ?yk2 ?yk3 ?_); (case yk0 => with_unfolding_all rfl); (case yk1 => k_asm); (case yk2 => k_asm); (case yk3 => with_reducible assumption); intro _ _ _ _ _ _) | (k_here; (with_reducible show wpAny _ _ (subscriptTail _ _ (Value.ref _) (Value.ref _)) _ _ _); (k_here; (with_reducible show wpAny _ _ (subscriptTail _ (PySem.Expr.Slice _ _ (some _) _) (Value.ref _) (Value.ref _)) _ _ _); k_dflt (refine' slice3_my ?yF ?yN ?yl ?yi ?yp ?yq ?yk ?yo ?yz ?_ ?ys ?yt); (case yF => k_asm); (case yN => k_asm); (case yl => kmk_list); (case yi => l_ints); (case yp => kmk_part); (case yq => kmk_part); (case yk => kmk_part); (case yo => decide); (case yz => first | (first | lia | omega) | (simp only [List.length_map] at *; (first | lia | omega))); (case ys => with_unfolding_all rfl); (case yt => kmk_pure); intro _ _ _ _ _ _ _ _)) | walk1)) | ((((fail_if_success (with_reducible show wpAny _ _ (compareOp _ (Value.ref _) (Value.ref _)) _ _ _)); (fail_if_success (with_reducible show wpAny _ _ (call (Value.ref _) _) _ _ _)); (fail_if_success (with_reducible show wpAny _ _ (exec (Stmt.Assign [Expr.Name _ _] (Expr.ListComp _ _ _ _) _) _) _ _ _)); (fail_if_success (with_reducible show wpAny _ _ (eval (Expr.ListComp _ _ _ _) _) _ _ _)))); (((fail_if_success (with_reducible show wpAny _ _ (exec (Stmt.While _ _ _ _) _) _ _ _)); (fail_if_success (with_reducible show wpAny _ _ (exec (Stmt.For _ _ _ _ _) _) _ _ _)))); dsimp only)))
      rename Fr _ _ _ _ => F17
      rename News _ _ _ _ => N17
      refine gen_my (P := fun s' => wpAny _ _ _ _ _ s') hgs2 hos2 F17 N17 ?_
      clear F16 N15 F17 N17
      intro s4 hgs3 hos3 F17 N17
      rw [pick_upto, vals_take] at N17
      rename Top _ _ _ _ _ _ => T0
      rename Frag.In _ _ => X0
      rename_i Ds0
      have hv0 : Vm (marksOf (7 + z3) n1) n1 n1 (trs f n1) [] 0 := vm_one hT (by (first | lia | omega)) (by (first | lia | omega))
      have hTr : Trees nw f (n1 + n2) := leaf_trees hT (by (first | lia | omega))
      refine meld_spec (V := Vm (marksOf (7 + z3) n1) n1 n1) (f := f) (N := n1) (room_law _) X0 T0 F17 N17 (by (first | lia | omega)) List.mem_cons_self ((hTr.less (by (first | lia | omega))).mono fun q hq => List.mem_cons_of_mem _ (List.mem_cons_of_mem _ hq)) (vm_tale _ _ _) hv0 ?_
      intro d1 kd1 ep1 l1 tl1 b1 a1 nw1 h18 tk18 F18 N18 sub1 ti1 kl1 hv1
      have hD2' : (D2, W.listOf (vals f (n1 + n2)).toArray (vals f (n1 + n2)).length) ∈ nw1 := sub1 _ (by ((repeat (first | (with_reducible assumption) | exact List.mem_cons_self | (refine List.mem_cons_of_mem _ ?_)))))
      (repeat' (first | (k_unfold; (try dsimp only)) | (k_end; wrow_close) | ((((fail_if_success (with_reducible show wpAny _ _ (compareOp _ (Value.ref _) (Value.ref _)) _ _ _)); (fail_if_success (with_reducible show wpAny _ _ (call (Value.ref _) _) _ _ _)); (fail_if_success (with_reducible show wpAny _ _ (exec (Stmt.Assign [Expr.Name _ _] (Expr.ListComp _ _ _ _) _) _) _ _ _)); (fail_if_success (with_reducible show wpAny _ _ (eval (Expr.ListComp _ _ _ _) _) _ _ _)))); (((fail_if_success (with_reducible show wpAny _ _ (exec (Stmt.While _ _ _ _) _) _ _ _)); (fail_if_success (with_reducible show wpAny _ _ (exec (Stmt.For _ _ _ _ _) _) _ _ _)))); (first | with_reducible (k_here; (with_reducible show wpAny _ _ (call (Value.type "int") _) _ _ _); (k_here; (refine' int_num_my ?ye ?ya ?yb ?_); (case ye => with_reducible assumption); (case ya => with_reducible assumption); (case yb => with_reducible assumption))) | with_reducible (k_here; (with_reducible show wpAny _ _ (call (Value.builtin "len") [Value.ref _]) _ _ _); (refine' len_my ?yN ?ya ?yz ?_); (case yN => k_asm); (case ya => ((repeat (first | (with_reducible assumption) | exact List.mem_cons_self | (refine List.mem_cons_of_mem _ ?_))))); (case yz => (first | lia | omega))) | with_reducible (k_here; (with_reducible show wpAny _ _ (binaryOp _ (Value.ref _) (Value.int _ _)) _ _ _); (refine' mul_my ?yF ?yN ?ya ?yx ?yz ?_); (case yF => k_asm); (case yN => k_asm); (case ya => ((repeat (first | (with_reducible assumption) | exact List.mem_cons_self | (refine List.mem_cons_of_mem _ ?_))))); (case yx => rfl); (case yz => (first | lia | omega)); intro _ _ _ _ _) | with_reducible (k_here; (with_reducible show wpAny _ _ (subscriptTail _ _ (Value.ref _) (Value.ref _)) _ _ _); (k_here; (refine' slice_my ?yF ?yN ?yl ?yp ?yq ?yz ?_ ?ys ?yt); (case yF => k_asm); (case yN => k_asm); (case yl => ((repeat (first | (with_reducible assumption) | exact List.mem_cons_self | (refine List.mem_cons_of_mem _ ?_))))); (case yp => kmk_part); (case yq => kmk_part); (case yz => simp only [vals_length]; (first | lia | omega)); (case ys => with_unfolding_all rfl); (case yt => kmk_pure); intro _ _ _ _ _)) | with_reducible (k_here; (with_reducible show wpAny _ _ (binaryOp _ (Value.ref _) (Value.ref _)) _ _ _); (refine' add_my ?yF ?yN ?ya ?yb ?yz ?_); (case yF => k_asm); (case yN => k_asm); (case ya => ((repeat (first | (with_reducible assumption) | exact List.mem_cons_self | (refine List.mem_cons_of_mem _ ?_))))); (case yb => ((repeat (first | (with_reducible assumption) | exact List.mem_cons_self | (refine List.mem_cons_of_mem _ ?_))))); (case yz => (first | lia | omega)); intro _ _ _ _ _) | with_reducible (k_here; (with_reducible show wpAny _ _ (call (Value.builtin "sum") [Value.ref _]) _ _ _); k_dflt (refine' sum_my ?yk0 ?yk1 ?yk2 ?yk3 ?_); (case yk0 => with_unfolding_all rfl); (case yk1 => k_asm); (case yk2 => k_asm); (case yk3 => with_reducible assumption); intro _ _ _ _ _ _) | (k_here; (with_reducible show wpAny _ _ (subscriptTail _ _ (Value.ref _) (Value.ref _)) _ _ _); (k_here; (with_reducible show wpAny _ _ (subscriptTail _ (PySem.Expr.Slice _ _ (some _) _) (Value.ref _) (Value.ref _)) _ _ _); k_dflt (refine' slice3_my ?yF ?yN ?yl ?yi ?yp ?yq ?yk ?yo ?yz ?_ ?ys ?yt); (case yF => k_asm); (case yN => k_asm); (case yl => kmk_list); (case yi => l_ints); (case yp => kmk_part); (case yq => kmk_part); (case yk => kmk_part); (case yo => decide); (case yz => first | (first | lia | omega) | (simp only [List.length_map] at *; (first | lia | omega))); (case ys => with_unfolding_all rfl); (case yt => kmk_pure); intro _ _ _ _ _ _ _ _)) | walk1)) | ((((fail_if_success (with_reducible show wpAny _ _ (compareOp _ (Value.ref _) (Value.ref _)) _ _ _)); (fail_if_success (with_reducible show wpAny _ _ (call (Value.ref _) _) _ _ _)); (fail_if_success (with_reducible show wpAny _ _ (exec (Stmt.Assign [Expr.Name _ _] (Expr.ListComp _ _ _ _) _) _) _ _ _)); (fail_if_success (with_reducible show wpAny _ _ (eval (Expr.ListComp _ _ _ _) _) _ _ _)))); (((fail_if_success (with_reducible show wpAny _ _ (exec (Stmt.While _ _ _ _) _) _ _ _)); (fail_if_success (with_reducible show wpAny _ _ (exec (Stmt.For _ _ _ _ _) _) _ _ _)))); dsimp only)))
      rename Fr _ _ _ _ => F19
      rename News _ _ _ _ => N19
      rw [pick_from, vals_drop] at N19
      obtain ⟨m19, F20⟩ : ∃ m19, Fr _ _ _ (ovr [(Str.ofString "first", .int (n1 : Nat) u1), (Str.ofString "second", .int (n2 : Nat) u2), (Str.ofString "marks", .ref D), (Str.ofString "one", .ref a1), (Str.ofString "early", .int (l1 : Nat) tl1)] m19) := ⟨_, fr_ovr F19 (by ((repeat (first | exact List.forall_mem_nil _ | (refine List.forall_mem_cons.mpr ⟨by with_unfolding_all rfl, ?_⟩)))))⟩
      clear F19
      refine gen_my (P := fun s' => wpAny _ _ _ _ _ s') hgs3 hos3 F20 N19 ?_
      clear F20 N19
      intro s5 hgs4 hos4 F21 N21
      rename_i Ds1 _ _
      have hTr2 : Trees nw1 (fun i => f (n1 + i)) n2 := (hTr.shift).mono fun q hq => sub1 _ (by ((repeat (first | (with_reducible assumption) | exact List.mem_cons_self | (refine List.mem_cons_of_mem _ ?_)))))
      refine meld_spec (V := Vm (marksFrom (7 + z3) n1 n2) n2 n2) (f := fun i => f (n1 + i)) (N := n2) (room_law _) X0 T0 F21 N21 (by (first | lia | omega)) List.mem_cons_self (hTr2.mono fun q hq => by ((repeat (first | (with_reducible assumption) | exact List.mem_cons_self | (refine List.mem_cons_of_mem _ ?_))))) (vm_tale _ _ _) (vm_two hT (by (first | lia | omega))) ?_
      intro d2 kd2 ep2 l2' tl2 b2 a2 nw2 h22 tk22 F22 N22 sub2 ti2 kl2 hv2
      have ha1 : (a1, W.listOf (vals d1 kd1).toArray ep1) ∈ nw2 := sub2 _ (by ((repeat (first | (with_reducible assumption) | exact List.mem_cons_self | (refine List.mem_cons_of_mem _ ?_)))))
      have hk1 := vm_few hv1
      have hk2 := vm_few hv2
      have hl1 : (vals d1 kd1).length = kd1 := vals_length
      have hl2 : (vals d2 kd2).length = kd2 := vals_length
      (repeat' (first | (k_unfold; (try dsimp only)) | (k_end; wrow_close) | ((((fail_if_success (with_reducible show wpAny _ _ (compareOp _ (Value.ref _) (Value.ref _)) _ _ _)); (fail_if_success (with_reducible show wpAny _ _ (call (Value.ref _) _) _ _ _)); (fail_if_success (with_reducible show wpAny _ _ (exec (Stmt.Assign [Expr.Name _ _] (Expr.ListComp _ _ _ _) _) _) _ _ _)); (fail_if_success (with_reducible show wpAny _ _ (eval (Expr.ListComp _ _ _ _) _) _ _ _)))); (((fail_if_success (with_reducible show wpAny _ _ (exec (Stmt.While _ _ _ _) _) _ _ _)); (fail_if_success (with_reducible show wpAny _ _ (exec (Stmt.For _ _ _ _ _) _) _ _ _)))); (first | with_reducible (k_here; (with_reducible show wpAny _ _ (call (Value.type "int") _) _ _ _); (k_here; (refine' int_num_my ?ye ?ya ?yb ?_); (case ye => with_reducible assumption); (case ya => with_reducible assumption); (case yb => with_reducible assumption))) | with_reducible (k_here; (with_reducible show wpAny _ _ (call (Value.builtin "len") [Value.ref _]) _ _ _); (refine' len_my ?yN ?ya ?yz ?_); (case yN => k_asm); (case ya => ((repeat (first | (with_reducible assumption) | exact List.mem_cons_self | (refine List.mem_cons_of_mem _ ?_))))); (case yz => (first | lia | omega))) | with_reducible (k_here; (with_reducible show wpAny _ _ (binaryOp _ (Value.ref _) (Value.int _ _)) _ _ _); (refine' mul_my ?yF ?yN ?ya ?yx ?yz ?_); (case yF => k_asm); (case yN => k_asm); (case ya => ((repeat (first | (with_reducible assumption) | exact List.mem_cons_self | (refine List.mem_cons_of_mem _ ?_))))); (case yx => rfl); (case yz => (first | lia | omega)); intro _ _ _ _ _) | with_reducible (k_here; (with_reducible show wpAny _ _ (subscriptTail _ _ (Value.ref _) (Value.ref _)) _ _ _); (k_here; (refine' slice_my ?yF ?yN ?yl ?yp ?yq ?yz ?_ ?ys ?yt); (case yF => k_asm); (case yN => k_asm); (case yl => ((repeat (first | (with_reducible assumption) | exact List.mem_cons_self | (refine List.mem_cons_of_mem _ ?_))))); (case yp => kmk_part); (case yq => kmk_part); (case yz => simp only [vals_length]; (first | lia | omega)); (case ys => with_unfolding_all rfl); (case yt => kmk_pure); intro _ _ _ _ _)) | with_reducible (k_here; (with_reducible show wpAny _ _ (binaryOp _ (Value.ref _) (Value.ref _)) _ _ _); (refine' add_my ?yF ?yN ?ya ?yb ?yz ?_); (case yF => k_asm); (case yN => k_asm); (case ya => ((repeat (first | (with_reducible assumption) | exact List.mem_cons_self | (refine List.mem_cons_of_mem _ ?_))))); (case yb => ((repeat (first | (with_reducible assumption) | exact List.mem_cons_self | (refine List.mem_cons_of_mem _ ?_))))); (case yz => (first | lia | omega)); intro _ _ _ _ _) | with_reducible (k_here; (with_reducible show wpAny _ _ (call (Value.builtin "sum") [Value.ref _]) _ _ _); k_dflt (refine' sum_my ?yk0 ?yk1 ?yk2 ?yk3 ?_); (case yk0 => with_unfolding_all rfl); (case yk1 => k_asm); (case yk2 => k_asm); (case yk3 => with_reducible assumption); intro _ _ _ _ _ _) | (k_here; (with_reducible show wpAny _ _ (subscriptTail _ _ (Value.ref _) (Value.ref _)) _ _ _); (k_here; (with_reducible show wpAny _ _ (subscriptTail _ (PySem.Expr.Slice _ _ (some _) _) (Value.ref _) (Value.ref _)) _ _ _); k_dflt (refine' slice3_my ?yF ?yN ?yl ?yi ?yp ?yq ?yk ?yo ?yz ?_ ?ys ?yt); (case yF => k_asm); (case yN => k_asm); (case yl => kmk_list); (case yi => l_ints); (case yp => kmk_part); (case yq => kmk_part); (case yk => kmk_part); (case yo => decide); (case yz => first | (first | lia | omega) | (simp only [List.length_map] at *; (first | lia | omega))); (case ys => with_unfolding_all rfl); (case yt => kmk_pure); intro _ _ _ _ _ _ _ _)) | walk1)) | ((((fail_if_success (with_reducible show wpAny _ _ (compareOp _ (Value.ref _) (Value.ref _)) _ _ _)); (fail_if_success (with_reducible show wpAny _ _ (call (Value.ref _) _) _ _ _)); (fail_if_success (with_reducible show wpAny _ _ (exec (Stmt.Assign [Expr.Name _ _] (Expr.ListComp _ _ _ _) _) _) _ _ _)); (fail_if_success (with_reducible show wpAny _ _ (eval (Expr.ListComp _ _ _ _) _) _ _ _)))); (((fail_if_success (with_reducible show wpAny _ _ (exec (Stmt.While _ _ _ _) _) _ _ _)); (fail_if_success (with_reducible show wpAny _ _ (exec (Stmt.For _ _ _ _ _) _) _ _ _)))); dsimp only)))
      rename Fr _ _ _ _ => F23
      rename News _ _ _ _ => N23
      rw [← cat_vals] at N23
      obtain ⟨m23, F24⟩ : ∃ m23, Fr _ _ _ (ovr [(Str.ofString "first", .int (n1 : Nat) u1), (Str.ofString "second", .int (n2 : Nat) u2), (Str.ofString "marks", .ref D), (Str.ofString "one", .ref a1), (Str.ofString "early", .int (l1 : Nat) tl1), (Str.ofString "two", .ref a2), (Str.ofString "late", .int (l2' : Nat) tl2)] m23) := ⟨_, fr_ovr F23 (by ((repeat (first | exact List.forall_mem_nil _ | (refine List.forall_mem_cons.mpr ⟨by with_unfolding_all rfl, ?_⟩)))))⟩
      clear F23
      refine gen_my (P := fun s' => wpAny _ _ _ _ _ s') hgs4 hos4 F24 N23 ?_
      clear F24 N23
      intro s6 hgs5 hos5 F25 N25
      rename_i Ds2 _ _
      have hv30 := vm_three hv1 hv2 (by (first | lia | omega))
      have hTr3 : Trees nw2 (cat d1 kd1 d2) (kd1 + kd2) := cat_trees (vm_tale _ _ _) hv30 (fun i hi => (ti1 i hi).mono fun q hq => sub2 _ (by ((repeat (first | (with_reducible assumption) | exact List.mem_cons_self | (refine List.mem_cons_of_mem _ ?_)))))) ti2
      refine meld_spec (V := Vm (marksOf (7 + z3) (n1 + n2)) (n1 + n2) (kd1 + kd2)) (f := cat d1 kd1 d2) (N := kd1 + kd2) (room_law _) X0 T0 F25 N25 (by (first | lia | omega)) List.mem_cons_self (hTr3.mono fun q hq => by ((repeat (first | (with_reducible assumption) | exact List.mem_cons_self | (refine List.mem_cons_of_mem _ ?_))))) (vm_tale _ _ _) hv30 ?_
      intro d3 kd3 ep3 l3' tl3 b3 a3 nw3 h26 tk26 F26 N26 sub3 ti3 kl3 hv3
      have ha1' : (a1, W.listOf (vals d1 kd1).toArray ep1) ∈ nw3 := sub3 _ (by ((repeat (first | (with_reducible assumption) | exact List.mem_cons_self | (refine List.mem_cons_of_mem _ ?_)))))
      have ha2' : (a2, W.listOf (vals d2 kd2).toArray ep2) ∈ nw3 := sub3 _ (by ((repeat (first | (with_reducible assumption) | exact List.mem_cons_self | (refine List.mem_cons_of_mem _ ?_)))))
      have hk3 := vm_few hv3
      have hl3 : (vals d3 kd3).length = kd3 := vals_length
      have tr1 : Trees nw3 d1 kd1 := vm_trees hv1 fun i hi => (ti1 i hi).mono fun q hq => sub3 _ (by have := sub2 q (by ((repeat (first | (with_reducible assumption) | exact List.mem_cons_self | (refine List.mem_cons_of_mem _ ?_))))); ((repeat (first | (with_reducible assumption) | exact List.mem_cons_self | (refine List.mem_cons_of_mem _ ?_)))))
      have tr2 : Trees nw3 d2 kd2 := vm_trees hv2 fun i hi => (ti2 i hi).mono fun q hq => sub3 _ (by ((repeat (first | (with_reducible assumption) | exact List.mem_cons_self | (refine List.mem_cons_of_mem _ ?_)))))
      have tr3 : Trees nw3 d3 kd3 := vm_trees hv3 ti3
      (repeat' (first | (k_unfold; (try dsimp only)) | (k_end; wrow_close) | ((((fail_if_success (with_reducible show wpAny _ _ (compareOp _ (Value.ref _) (Value.ref _)) _ _ _)); (fail_if_success (with_reducible show wpAny _ _ (call (Value.ref _) _) _ _ _)); (fail_if_success (with_reducible show wpAny _ _ (exec (Stmt.Assign [Expr.Name _ _] (Expr.ListComp _ _ _ _) _) _) _ _ _)); (fail_if_success (with_reducible show wpAny _ _ (eval (Expr.ListComp _ _ _ _) _) _ _ _)))); (((fail_if_success (with_reducible show wpAny _ _ (exec (Stmt.While _ _ _ _) _) _ _ _)); (fail_if_success (with_reducible show wpAny _ _ (exec (Stmt.For _ _ _ _ _) _) _ _ _)))); (first | with_reducible (k_here; (with_reducible show wpAny _ _ (call (Value.type "int") _) _ _ _); (k_here; (refine' int_num_my ?ye ?ya ?yb ?_); (case ye => with_reducible assumption); (case ya => with_reducible assumption); (case yb => with_reducible assumption))) | with_reducible (k_here; (with_reducible show wpAny _ _ (call (Value.builtin "len") [Value.ref _]) _ _ _); (refine' len_my ?yN ?ya ?yz ?_); (case yN => k_asm); (case ya => ((repeat (first | (with_reducible assumption) | exact List.mem_cons_self | (refine List.mem_cons_of_mem _ ?_))))); (case yz => (first | lia | omega))) | with_reducible (k_here; (with_reducible show wpAny _ _ (binaryOp _ (Value.ref _) (Value.int _ _)) _ _ _); (refine' mul_my ?yF ?yN ?ya ?yx ?yz ?_); (case yF => k_asm); (case yN => k_asm); (case ya => ((repeat (first | (with_reducible assumption) | exact List.mem_cons_self | (refine List.mem_cons_of_mem _ ?_))))); (case yx => rfl); (case yz => (first | lia | omega)); intro _ _ _ _ _) | with_reducible (k_here; (with_reducible show wpAny _ _ (subscriptTail _ _ (Value.ref _) (Value.ref _)) _ _ _); (k_here; (refine' slice_my ?yF ?yN ?yl ?yp ?yq ?yz ?_ ?ys ?yt); (case yF => k_asm); (case yN => k_asm); (case yl => ((repeat (first | (with_reducible assumption) | exact List.mem_cons_self | (refine List.mem_cons_of_mem _ ?_))))); (case yp => kmk_part); (case yq => kmk_part); (case yz => simp only [vals_length]; (first | lia | omega)); (case ys => with_unfolding_all rfl); (case yt => kmk_pure); intro _ _ _ _ _)) | with_reducible (k_here; (with_reducible show wpAny _ _ (binaryOp _ (Value.ref _) (Value.ref _)) _ _ _); (refine' add_my ?yF ?yN ?ya ?yb ?yz ?_); (case yF => k_asm); (case yN => k_asm); (case ya => ((repeat (first | (with_reducible assumption) | exact List.mem_cons_self | (refine List.mem_cons_of_mem _ ?_))))); (case yb => ((repeat (first | (with_reducible assumption) | exact List.mem_cons_self | (refine List.mem_cons_of_mem _ ?_))))); (case yz => (first | lia | omega)); intro _ _ _ _ _) | with_reducible (k_here; (with_reducible show wpAny _ _ (call (Value.builtin "sum") [Value.ref _]) _ _ _); k_dflt (refine' sum_my ?yk0 ?yk1 ?yk2 ?yk3 ?_); (case yk0 => with_unfolding_all rfl); (case yk1 => k_asm); (case yk2 => k_asm); (case yk3 => with_reducible assumption); intro _ _ _ _ _ _) | (k_here; (with_reducible show wpAny _ _ (subscriptTail _ _ (Value.ref _) (Value.ref _)) _ _ _); (k_here; (with_reducible show wpAny _ _ (subscriptTail _ (PySem.Expr.Slice _ _ (some _) _) (Value.ref _) (Value.ref _)) _ _ _); k_dflt (refine' slice3_my ?yF ?yN ?yl ?yi ?yp ?yq ?yk ?yo ?yz ?_ ?ys ?yt); (case yF => k_asm); (case yN => k_asm); (case yl => kmk_list); (case yi => l_ints); (case yp => kmk_part); (case yq => kmk_part); (case yk => kmk_part); (case yo => decide); (case yz => first | (first | lia | omega) | (simp only [List.length_map] at *; (first | lia | omega))); (case ys => with_unfolding_all rfl); (case yt => kmk_pure); intro _ _ _ _ _ _ _ _)) | walk1)) | ((((fail_if_success (with_reducible show wpAny _ _ (compareOp _ (Value.ref _) (Value.ref _)) _ _ _)); (fail_if_success (with_reducible show wpAny _ _ (call (Value.ref _) _) _ _ _)); (fail_if_success (with_reducible show wpAny _ _ (exec (Stmt.Assign [Expr.Name _ _] (Expr.ListComp _ _ _ _) _) _) _ _ _)); (fail_if_success (with_reducible show wpAny _ _ (eval (Expr.ListComp _ _ _ _) _) _ _ _)))); (((fail_if_success (with_reducible show wpAny _ _ (exec (Stmt.While _ _ _ _) _) _ _ _)); (fail_if_success (with_reducible show wpAny _ _ (exec (Stmt.For _ _ _ _ _) _) _ _ _)))); dsimp only)))
      rename Fr _ _ _ _ => F27
      rename News _ _ _ _ => N27
      obtain ⟨m27, F28⟩ : ∃ m27, Fr _ _ _ (ovr [(Str.ofString "first", .int (n1 : Nat) u1), (Str.ofString "second", .int (n2 : Nat) u2), (Str.ofString "marks", .ref D), (Str.ofString "one", .ref a1), (Str.ofString "early", .int (l1 : Nat) tl1), (Str.ofString "two", .ref a2), (Str.ofString "late", .int (l2' : Nat) tl2), (Str.ofString "whole", .ref a3), (Str.ofString "last", .int (l3' : Nat) tl3)] m27) := ⟨_, fr_ovr F27 (by ((repeat (first | exact List.forall_mem_nil _ | (refine List.forall_mem_cons.mpr ⟨by with_unfolding_all rfl, ?_⟩)))))⟩
      clear F27
      refine gen_my (P := fun s' => wpAny _ _ _ _ _ s') hgs5 hos5 F28 N27 ?_
      clear F28 N27
      intro s7 hgs6 hos6 F29 N29
      refine words_spec (f := d1) (N := kd1) ((room_law _).less (by decide)) X0 T0 F29 N29 (by (first | lia | omega)) (by ((repeat (first | (with_reducible assumption) | exact List.mem_cons_self | (refine List.mem_cons_of_mem _ ?_))))) (tr1.mono fun q hq => by ((repeat (first | (with_reducible assumption) | exact List.mem_cons_self | (refine List.mem_cons_of_mem _ ?_))))) (vm_r5 hv1) ?_
      rw [vm_words hv1]
      intro h30 tk30 tw1 F30 N30
      (repeat' (first | (k_unfold; (try dsimp only)) | (k_end; wrow_close) | ((((fail_if_success (with_reducible show wpAny _ _ (compareOp _ (Value.ref _) (Value.ref _)) _ _ _)); (fail_if_success (with_reducible show wpAny _ _ (call (Value.ref _) _) _ _ _)); (fail_if_success (with_reducible show wpAny _ _ (exec (Stmt.Assign [Expr.Name _ _] (Expr.ListComp _ _ _ _) _) _) _ _ _)); (fail_if_success (with_reducible show wpAny _ _ (eval (Expr.ListComp _ _ _ _) _) _ _ _)))); (((fail_if_success (with_reducible show wpAny _ _ (exec (Stmt.While _ _ _ _) _) _ _ _)); (fail_if_success (with_reducible show wpAny _ _ (exec (Stmt.For _ _ _ _ _) _) _ _ _)))); (first | with_reducible (k_here; (with_reducible show wpAny _ _ (call (Value.type "int") _) _ _ _); (k_here; (refine' int_num_my ?ye ?ya ?yb ?_); (case ye => with_reducible assumption); (case ya => with_reducible assumption); (case yb => with_reducible assumption))) | with_reducible (k_here; (with_reducible show wpAny _ _ (call (Value.builtin "len") [Value.ref _]) _ _ _); (refine' len_my ?yN ?ya ?yz ?_); (case yN => k_asm); (case ya => ((repeat (first | (with_reducible assumption) | exact List.mem_cons_self | (refine List.mem_cons_of_mem _ ?_))))); (case yz => (first | lia | omega))) | with_reducible (k_here; (with_reducible show wpAny _ _ (binaryOp _ (Value.ref _) (Value.int _ _)) _ _ _); (refine' mul_my ?yF ?yN ?ya ?yx ?yz ?_); (case yF => k_asm); (case yN => k_asm); (case ya => ((repeat (first | (with_reducible assumption) | exact List.mem_cons_self | (refine List.mem_cons_of_mem _ ?_))))); (case yx => rfl); (case yz => (first | lia | omega)); intro _ _ _ _ _) | with_reducible (k_here; (with_reducible show wpAny _ _ (subscriptTail _ _ (Value.ref _) (Value.ref _)) _ _ _); (k_here; (refine' slice_my ?yF ?yN ?yl ?yp ?yq ?yz ?_ ?ys ?yt); (case yF => k_asm); (case yN => k_asm); (case yl => ((repeat (first | (with_reducible assumption) | exact List.mem_cons_self | (refine List.mem_cons_of_mem _ ?_))))); (case yp => kmk_part); (case yq => kmk_part); (case yz => simp only [vals_length]; (first | lia | omega)); (case ys => with_unfolding_all rfl); (case yt => kmk_pure); intro _ _ _ _ _)) | with_reducible (k_here; (with_reducible show wpAny _ _ (binaryOp _ (Value.ref _) (Value.ref _)) _ _ _); (refine' add_my ?yF ?yN ?ya ?yb ?yz ?_); (case yF => k_asm); (case yN => k_asm); (case ya => ((repeat (first | (with_reducible assumption) | exact List.mem_cons_self | (refine List.mem_cons_of_mem _ ?_))))); (case yb => ((repeat (first | (with_reducible assumption) | exact List.mem_cons_self | (refine List.mem_cons_of_mem _ ?_))))); (case yz => (first | lia | omega)); intro _ _ _ _ _) | with_reducible (k_here; (with_reducible show wpAny _ _ (call (Value.builtin "sum") [Value.ref _]) _ _ _); k_dflt (refine' sum_my ?yk0 ?yk1 ?yk2 ?yk3 ?_); (case yk0 => with_unfolding_all rfl); (case yk1 => k_asm); (case yk2 => k_asm); (case yk3 => with_reducible assumption); intro _ _ _ _ _ _) | (k_here; (with_reducible show wpAny _ _ (subscriptTail _ _ (Value.ref _) (Value.ref _)) _ _ _); (k_here; (with_reducible show wpAny _ _ (subscriptTail _ (PySem.Expr.Slice _ _ (some _) _) (Value.ref _) (Value.ref _)) _ _ _); k_dflt (refine' slice3_my ?yF ?yN ?yl ?yi ?yp ?yq ?yk ?yo ?yz ?_ ?ys ?yt); (case yF => k_asm); (case yN => k_asm); (case yl => kmk_list); (case yi => l_ints); (case yp => kmk_part); (case yq => kmk_part); (case yk => kmk_part); (case yo => decide); (case yz => first | (first | lia | omega) | (simp only [List.length_map] at *; (first | lia | omega))); (case ys => with_unfolding_all rfl); (case yt => kmk_pure); intro _ _ _ _ _ _ _ _)) | walk1)) | ((((fail_if_success (with_reducible show wpAny _ _ (compareOp _ (Value.ref _) (Value.ref _)) _ _ _)); (fail_if_success (with_reducible show wpAny _ _ (call (Value.ref _) _) _ _ _)); (fail_if_success (with_reducible show wpAny _ _ (exec (Stmt.Assign [Expr.Name _ _] (Expr.ListComp _ _ _ _) _) _) _ _ _)); (fail_if_success (with_reducible show wpAny _ _ (eval (Expr.ListComp _ _ _ _) _) _ _ _)))); (((fail_if_success (with_reducible show wpAny _ _ (exec (Stmt.While _ _ _ _) _) _ _ _)); (fail_if_success (with_reducible show wpAny _ _ (exec (Stmt.For _ _ _ _ _) _) _ _ _)))); dsimp only)))
      refine words_spec (f := d2) (N := kd2) ((room_law _).less (by decide)) X0 T0 F30 N30 (by (first | lia | omega)) (by ((repeat (first | (with_reducible assumption) | exact List.mem_cons_self | (refine List.mem_cons_of_mem _ ?_))))) (tr2.mono fun q hq => by ((repeat (first | (with_reducible assumption) | exact List.mem_cons_self | (refine List.mem_cons_of_mem _ ?_))))) (vm_r5 hv2) ?_
      rw [vm_words hv2]
      intro h31 tk31 tw2 F31 N31
      (repeat' (first | (k_unfold; (try dsimp only)) | (k_end; wrow_close) | ((((fail_if_success (with_reducible show wpAny _ _ (compareOp _ (Value.ref _) (Value.ref _)) _ _ _)); (fail_if_success (with_reducible show wpAny _ _ (call (Value.ref _) _) _ _ _)); (fail_if_success (with_reducible show wpAny _ _ (exec (Stmt.Assign [Expr.Name _ _] (Expr.ListComp _ _ _ _) _) _) _ _ _)); (fail_if_success (with_reducible show wpAny _ _ (eval (Expr.ListComp _ _ _ _) _) _ _ _)))); (((fail_if_success (with_reducible show wpAny _ _ (exec (Stmt.While _ _ _ _) _) _ _ _)); (fail_if_success (with_reducible show wpAny _ _ (exec (Stmt.For _ _ _ _ _) _) _ _ _)))); (first | with_reducible (k_here; (with_reducible show wpAny _ _ (call (Value.type "int") _) _ _ _); (k_here; (refine' int_num_my ?ye ?ya ?yb ?_); (case ye => with_reducible assumption); (case ya => with_reducible assumption); (case yb => with_reducible assumption))) | with_reducible (k_here; (with_reducible show wpAny _ _ (call (Value.builtin "len") [Value.ref _]) _ _ _); (refine' len_my ?yN ?ya ?yz ?_); (case yN => k_asm); (case ya => ((repeat (first | (with_reducible assumption) | exact List.mem_cons_self | (refine List.mem_cons_of_mem _ ?_))))); (case yz => (first | lia | omega))) | with_reducible (k_here; (with_reducible show wpAny _ _ (binaryOp _ (Value.ref _) (Value.int _ _)) _ _ _); (refine' mul_my ?yF ?yN ?ya ?yx ?yz ?_); (case yF => k_asm); (case yN => k_asm); (case ya => ((repeat (first | (with_reducible assumption) | exact List.mem_cons_self | (refine List.mem_cons_of_mem _ ?_))))); (case yx => rfl); (case yz => (first | lia | omega)); intro _ _ _ _ _) | with_reducible (k_here; (with_reducible show wpAny _ _ (subscriptTail _ _ (Value.ref _) (Value.ref _)) _ _ _); (k_here; (refine' slice_my ?yF ?yN ?yl ?yp ?yq ?yz ?_ ?ys ?yt); (case yF => k_asm); (case yN => k_asm); (case yl => ((repeat (first | (with_reducible assumption) | exact List.mem_cons_self | (refine List.mem_cons_of_mem _ ?_))))); (case yp => kmk_part); (case yq => kmk_part); (case yz => simp only [vals_length]; (first | lia | omega)); (case ys => with_unfolding_all rfl); (case yt => kmk_pure); intro _ _ _ _ _)) | with_reducible (k_here; (with_reducible show wpAny _ _ (binaryOp _ (Value.ref _) (Value.ref _)) _ _ _); (refine' add_my ?yF ?yN ?ya ?yb ?yz ?_); (case yF => k_asm); (case yN => k_asm); (case ya => ((repeat (first | (with_reducible assumption) | exact List.mem_cons_self | (refine List.mem_cons_of_mem _ ?_))))); (case yb => ((repeat (first | (with_reducible assumption) | exact List.mem_cons_self | (refine List.mem_cons_of_mem _ ?_))))); (case yz => (first | lia | omega)); intro _ _ _ _ _) | with_reducible (k_here; (with_reducible show wpAny _ _ (call (Value.builtin "sum") [Value.ref _]) _ _ _); k_dflt (refine' sum_my ?yk0 ?yk1 ?yk2 ?yk3 ?_); (case yk0 => with_unfolding_all rfl); (case yk1 => k_asm); (case yk2 => k_asm); (case yk3 => with_reducible assumption); intro _ _ _ _ _ _) | (k_here; (with_reducible show wpAny _ _ (subscriptTail _ _ (Value.ref _) (Value.ref _)) _ _ _); (k_here; (with_reducible show wpAny _ _ (subscriptTail _ (PySem.Expr.Slice _ _ (some _) _) (Value.ref _) (Value.ref _)) _ _ _); k_dflt (refine' slice3_my ?yF ?yN ?yl ?yi ?yp ?yq ?yk ?yo ?yz ?_ ?ys ?yt); (case yF => k_asm); (case yN => k_asm); (case yl => kmk_list); (case yi => l_ints); (case yp => kmk_part); (case yq => kmk_part); (case yk => kmk_part); (case yo => decide); (case yz => first | (first | lia | omega) | (simp only [List.length_map] at *; (first | lia | omega))); (case ys => with_unfolding_all rfl); (case yt => kmk_pure); intro _ _ _ _ _ _ _ _)) | walk1)) | ((((fail_if_success (with_reducible show wpAny _ _ (compareOp _ (Value.ref _) (Value.ref _)) _ _ _)); (fail_if_success (with_reducible show wpAny _ _ (call (Value.ref _) _) _ _ _)); (fail_if_success (with_reducible show wpAny _ _ (exec (Stmt.Assign [Expr.Name _ _] (Expr.ListComp _ _ _ _) _) _) _ _ _)); (fail_if_success (with_reducible show wpAny _ _ (eval (Expr.ListComp _ _ _ _) _) _ _ _)))); (((fail_if_success (with_reducible show wpAny _ _ (exec (Stmt.While _ _ _ _) _) _ _ _)); (fail_if_success (with_reducible show wpAny _ _ (exec (Stmt.For _ _ _ _ _) _) _ _ _)))); dsimp only)))
      rename Fr _ _ _ _ => F32
      rename News _ _ _ _ => N32
      refine flags_spec (n := n1) ((room_law _).less (by decide)) X0 T0 F32 N32 (by (first | lia | omega)) (by (first | lia | omega)) ?_
      intro h33 tk33 tw3 F33 N33
      (repeat' (first | (k_unfold; (try dsimp only)) | (k_end; wrow_close) | ((((fail_if_success (with_reducible show wpAny _ _ (compareOp _ (Value.ref _) (Value.ref _)) _ _ _)); (fail_if_success (with_reducible show wpAny _ _ (call (Value.ref _) _) _ _ _)); (fail_if_success (with_reducible show wpAny _ _ (exec (Stmt.Assign [Expr.Name _ _] (Expr.ListComp _ _ _ _) _) _) _ _ _)); (fail_if_success (with_reducible show wpAny _ _ (eval (Expr.ListComp _ _ _ _) _) _ _ _)))); (((fail_if_success (with_reducible show wpAny _ _ (exec (Stmt.While _ _ _ _) _) _ _ _)); (fail_if_success (with_reducible show wpAny _ _ (exec (Stmt.For _ _ _ _ _) _) _ _ _)))); (first | with_reducible (k_here; (with_reducible show wpAny _ _ (call (Value.type "int") _) _ _ _); (k_here; (refine' int_num_my ?ye ?ya ?yb ?_); (case ye => with_reducible assumption); (case ya => with_reducible assumption); (case yb => with_reducible assumption))) | with_reducible (k_here; (with_reducible show wpAny _ _ (call (Value.builtin "len") [Value.ref _]) _ _ _); (refine' len_my ?yN ?ya ?yz ?_); (case yN => k_asm); (case ya => ((repeat (first | (with_reducible assumption) | exact List.mem_cons_self | (refine List.mem_cons_of_mem _ ?_))))); (case yz => (first | lia | omega))) | with_reducible (k_here; (with_reducible show wpAny _ _ (binaryOp _ (Value.ref _) (Value.int _ _)) _ _ _); (refine' mul_my ?yF ?yN ?ya ?yx ?yz ?_); (case yF => k_asm); (case yN => k_asm); (case ya => ((repeat (first | (with_reducible assumption) | exact List.mem_cons_self | (refine List.mem_cons_of_mem _ ?_))))); (case yx => rfl); (case yz => (first | lia | omega)); intro _ _ _ _ _) | with_reducible (k_here; (with_reducible show wpAny _ _ (subscriptTail _ _ (Value.ref _) (Value.ref _)) _ _ _); (k_here; (refine' slice_my ?yF ?yN ?yl ?yp ?yq ?yz ?_ ?ys ?yt); (case yF => k_asm); (case yN => k_asm); (case yl => ((repeat (first | (with_reducible assumption) | exact List.mem_cons_self | (refine List.mem_cons_of_mem _ ?_))))); (case yp => kmk_part); (case yq => kmk_part); (case yz => simp only [vals_length]; (first | lia | omega)); (case ys => with_unfolding_all rfl); (case yt => kmk_pure); intro _ _ _ _ _)) | with_reducible (k_here; (with_reducible show wpAny _ _ (binaryOp _ (Value.ref _) (Value.ref _)) _ _ _); (refine' add_my ?yF ?yN ?ya ?yb ?yz ?_); (case yF => k_asm); (case yN => k_asm); (case ya => ((repeat (first | (with_reducible assumption) | exact List.mem_cons_self | (refine List.mem_cons_of_mem _ ?_))))); (case yb => ((repeat (first | (with_reducible assumption) | exact List.mem_cons_self | (refine List.mem_cons_of_mem _ ?_))))); (case yz => (first | lia | omega)); intro _ _ _ _ _) | with_reducible (k_here; (with_reducible show wpAny _ _ (call (Value.builtin "sum") [Value.ref _]) _ _ _); k_dflt (refine' sum_my ?yk0 ?yk1 ?yk2 ?yk3 ?_); (case yk0 => with_unfolding_all rfl); (case yk1 => k_asm); (case yk2 => k_asm); (case yk3 => with_reducible assumption); intro _ _ _ _ _ _) | (k_here; (with_reducible show wpAny _ _ (subscriptTail _ _ (Value.ref _) (Value.ref _)) _ _ _); (k_here; (with_reducible show wpAny _ _ (subscriptTail _ (PySem.Expr.Slice _ _ (some _) _) (Value.ref _) (Value.ref _)) _ _ _); k_dflt (refine' slice3_my ?yF ?yN ?yl ?yi ?yp ?yq ?yk ?yo ?yz ?_ ?ys ?yt); (case yF => k_asm); (case yN => k_asm); (case yl => kmk_list); (case yi => l_ints); (case yp => kmk_part); (case yq => kmk_part); (case yk => kmk_part); (case yo => decide); (case yz => first | (first | lia | omega) | (simp only [List.length_map] at *; (first | lia | omega))); (case ys => with_unfolding_all rfl); (case yt => kmk_pure); intro _ _ _ _ _ _ _ _)) | walk1)) | ((((fail_if_success (with_reducible show wpAny _ _ (compareOp _ (Value.ref _) (Value.ref _)) _ _ _)); (fail_if_success (with_reducible show wpAny _ _ (call (Value.ref _) _) _ _ _)); (fail_if_success (with_reducible show wpAny _ _ (exec (Stmt.Assign [Expr.Name _ _] (Expr.ListComp _ _ _ _) _) _) _ _ _)); (fail_if_success (with_reducible show wpAny _ _ (eval (Expr.ListComp _ _ _ _) _) _ _ _)))); (((fail_if_success (with_reducible show wpAny _ _ (exec (Stmt.While _ _ _ _) _) _ _ _)); (fail_if_success (with_reducible show wpAny _ _ (exec (Stmt.For _ _ _ _ _) _) _ _ _)))); dsimp only)))
      refine flags_spec (n := n2) ((room_law _).less (by decide)) X0 T0 F33 N33 (by (first | lia | omega)) (by (first | lia | omega)) ?_
      intro h34 tk34 tw4 F34 N34
      (repeat' (first | (k_unfold; (try dsimp only)) | (k_end; wrow_close) | ((((fail_if_success (with_reducible show wpAny _ _ (compareOp _ (Value.ref _) (Value.ref _)) _ _ _)); (fail_if_success (with_reducible show wpAny _ _ (call (Value.ref _) _) _ _ _)); (fail_if_success (with_reducible show wpAny _ _ (exec (Stmt.Assign [Expr.Name _ _] (Expr.ListComp _ _ _ _) _) _) _ _ _)); (fail_if_success (with_reducible show wpAny _ _ (eval (Expr.ListComp _ _ _ _) _) _ _ _)))); (((fail_if_success (with_reducible show wpAny _ _ (exec (Stmt.While _ _ _ _) _) _ _ _)); (fail_if_success (with_reducible show wpAny _ _ (exec (Stmt.For _ _ _ _ _) _) _ _ _)))); (first | with_reducible (k_here; (with_reducible show wpAny _ _ (call (Value.type "int") _) _ _ _); (k_here; (refine' int_num_my ?ye ?ya ?yb ?_); (case ye => with_reducible assumption); (case ya => with_reducible assumption); (case yb => with_reducible assumption))) | with_reducible (k_here; (with_reducible show wpAny _ _ (call (Value.builtin "len") [Value.ref _]) _ _ _); (refine' len_my ?yN ?ya ?yz ?_); (case yN => k_asm); (case ya => ((repeat (first | (with_reducible assumption) | exact List.mem_cons_self | (refine List.mem_cons_of_mem _ ?_))))); (case yz => (first | lia | omega))) | with_reducible (k_here; (with_reducible show wpAny _ _ (binaryOp _ (Value.ref _) (Value.int _ _)) _ _ _); (refine' mul_my ?yF ?yN ?ya ?yx ?yz ?_); (case yF => k_asm); (case yN => k_asm); (case ya => ((repeat (first | (with_reducible assumption) | exact List.mem_cons_self | (refine List.mem_cons_of_mem _ ?_))))); (case yx => rfl); (case yz => (first | lia | omega)); intro _ _ _ _ _) | with_reducible (k_here; (with_reducible show wpAny _ _ (subscriptTail _ _ (Value.ref _) (Value.ref _)) _ _ _); (k_here; (refine' slice_my ?yF ?yN ?yl ?yp ?yq ?yz ?_ ?ys ?yt); (case yF => k_asm); (case yN => k_asm); (case yl => ((repeat (first | (with_reducible assumption) | exact List.mem_cons_self | (refine List.mem_cons_of_mem _ ?_))))); (case yp => kmk_part); (case yq => kmk_part); (case yz => simp only [vals_length]; (first | lia | omega)); (case ys => with_unfolding_all rfl); (case yt => kmk_pure); intro _ _ _ _ _)) | with_reducible (k_here; (with_reducible show wpAny _ _ (binaryOp _ (Value.ref _) (Value.ref _)) _ _ _); (refine' add_my ?yF ?yN ?ya ?yb ?yz ?_); (case yF => k_asm); (case yN => k_asm); (case ya => ((repeat (first | (with_reducible assumption) | exact List.mem_cons_self | (refine List.mem_cons_of_mem _ ?_))))); (case yb => ((repeat (first | (with_reducible assumption) | exact List.mem_cons_self | (refine List.mem_cons_of_mem _ ?_))))); (case yz => (first | lia | omega)); intro _ _ _ _ _) | with_reducible (k_here; (with_reducible show wpAny _ _ (call (Value.builtin "sum") [Value.ref _]) _ _ _); k_dflt (refine' sum_my ?yk0 ?yk1 ?yk2 ?yk3 ?_); (case yk0 => with_unfolding_all rfl); (case yk1 => k_asm); (case yk2 => k_asm); (case yk3 => with_reducible assumption); intro _ _ _ _ _ _) | (k_here; (with_reducible show wpAny _ _ (subscriptTail _ _ (Value.ref _) (Value.ref _)) _ _ _); (k_here; (with_reducible show wpAny _ _ (subscriptTail _ (PySem.Expr.Slice _ _ (some _) _) (Value.ref _) (Value.ref _)) _ _ _); k_dflt (refine' slice3_my ?yF ?yN ?yl ?yi ?yp ?yq ?yk ?yo ?yz ?_ ?ys ?yt); (case yF => k_asm); (case yN => k_asm); (case yl => kmk_list); (case yi => l_ints); (case yp => kmk_part); (case yq => kmk_part); (case yk => kmk_part); (case yo => decide); (case yz => first | (first | lia | omega) | (simp only [List.length_map] at *; (first | lia | omega))); (case ys => with_unfolding_all rfl); (case yt => kmk_pure); intro _ _ _ _ _ _ _ _)) | walk1)) | ((((fail_if_success (with_reducible show wpAny _ _ (compareOp _ (Value.ref _) (Value.ref _)) _ _ _)); (fail_if_success (with_reducible show wpAny _ _ (call (Value.ref _) _) _ _ _)); (fail_if_success (with_reducible show wpAny _ _ (exec (Stmt.Assign [Expr.Name _ _] (Expr.ListComp _ _ _ _) _) _) _ _ _)); (fail_if_success (with_reducible show wpAny _ _ (eval (Expr.ListComp _ _ _ _) _) _ _ _)))); (((fail_if_success (with_reducible show wpAny _ _ (exec (Stmt.While _ _ _ _) _) _ _ _)); (fail_if_success (with_reducible show wpAny _ _ (exec (Stmt.For _ _ _ _ _) _) _ _ _)))); dsimp only)))
      rename News _ _ _ _ => N35
      refine ne_strs_same N35 (vs := [.str _ _, .str _ _]) (ws := [.str _ _, .str _ _]) (by ((repeat (first | (with_reducible assumption) | exact List.mem_cons_self | (refine List.mem_cons_of_mem _ ?_))))) (by ((repeat (first | (with_reducible assumption) | exact List.mem_cons_self | (refine List.mem_cons_of_mem _ ?_))))) (.cons _ _ (.cons _ _ .nil)) (.cons _ _ (.cons _ _ .nil)) (by show 4 + 3 < cLine; decide +kernel) ?_
      (repeat' (first | (k_unfold; (try dsimp only)) | (k_end; wrow_close) | ((((fail_if_success (with_reducible show wpAny _ _ (compareOp _ (Value.ref _) (Value.ref _)) _ _ _)); (fail_if_success (with_reducible show wpAny _ _ (call (Value.ref _) _) _ _ _)); (fail_if_success (with_reducible show wpAny _ _ (exec (Stmt.Assign [Expr.Name _ _] (Expr.ListComp _ _ _ _) _) _) _ _ _)); (fail_if_success (with_reducible show wpAny _ _ (eval (Expr.ListComp _ _ _ _) _) _ _ _)))); (((fail_if_success (with_reducible show wpAny _ _ (exec (Stmt.While _ _ _ _) _) _ _ _)); (fail_if_success (with_reducible show wpAny _ _ (exec (Stmt.For _ _ _ _ _) _) _ _ _)))); (first | with_reducible (k_here; (with_reducible show wpAny _ _ (call (Value.type "int") _) _ _ _); (k_here; (refine' int_num_my ?ye ?ya ?yb ?_); (case ye => with_reducible assumption); (case ya => with_reducible assumption); (case yb => with_reducible assumption))) | with_reducible (k_here; (with_reducible show wpAny _ _ (call (Value.builtin "len") [Value.ref _]) _ _ _); (refine' len_my ?yN ?ya ?yz ?_); (case yN => k_asm); (case ya => ((repeat (first | (with_reducible assumption) | exact List.mem_cons_self | (refine List.mem_cons_of_mem _ ?_))))); (case yz => (first | lia | omega))) | with_reducible (k_here; (with_reducible show wpAny _ _ (binaryOp _ (Value.ref _) (Value.int _ _)) _ _ _); (refine' mul_my ?yF ?yN ?ya ?yx ?yz ?_); (case yF => k_asm); (case yN => k_asm); (case ya => ((repeat (first | (with_reducible assumption) | exact List.mem_cons_self | (refine List.mem_cons_of_mem _ ?_))))); (case yx => rfl); (case yz => (first | lia | omega)); intro _ _ _ _ _) | with_reducible (k_here; (with_reducible show wpAny _ _ (subscriptTail _ _ (Value.ref _) (Value.ref _)) _ _ _); (k_here; (refine' slice_my ?yF ?yN ?yl ?yp ?yq ?yz ?_ ?ys ?yt); (case yF => k_asm); (case yN => k_asm); (case yl => ((repeat (first | (with_reducible assumption) | exact List.mem_cons_self | (refine List.mem_cons_of_mem _ ?_))))); (case yp => kmk_part); (case yq => kmk_part); (case yz => simp only [vals_length]; (first | lia | omega)); (case ys => with_unfolding_all rfl); (case yt => kmk_pure); intro _ _ _ _ _)) | with_reducible (k_here; (with_reducible show wpAny _ _ (binaryOp _ (Value.ref _) (Value.ref _)) _ _ _); (refine' add_my ?yF ?yN ?ya ?yb ?yz ?_); (case yF => k_asm); (case yN => k_asm); (case ya => ((repeat (first | (with_reducible assumption) | exact List.mem_cons_self | (refine List.mem_cons_of_mem _ ?_))))); (case yb => ((repeat (first | (with_reducible assumption) | exact List.mem_cons_self | (refine List.mem_cons_of_mem _ ?_))))); (case yz => (first | lia | omega)); intro _ _ _ _ _) | with_reducible (k_here; (with_reducible show wpAny _ _ (call (Value.builtin "sum") [Value.ref _]) _ _ _); k_dflt (refine' sum_my ?yk0 ?yk1 ?yk2 ?yk3 ?_); (case yk0 => with_unfolding_all rfl); (case yk1 => k_asm); (case yk2 => k_asm); (case yk3 => with_reducible assumption); intro _ _ _ _ _ _) | (k_here; (with_reducible show wpAny _ _ (subscriptTail _ _ (Value.ref _) (Value.ref _)) _ _ _); (k_here; (with_reducible show wpAny _ _ (subscriptTail _ (PySem.Expr.Slice _ _ (some _) _) (Value.ref _) (Value.ref _)) _ _ _); k_dflt (refine' slice3_my ?yF ?yN ?yl ?yi ?yp ?yq ?yk ?yo ?yz ?_ ?ys ?yt); (case yF => k_asm); (case yN => k_asm); (case yl => kmk_list); (case yi => l_ints); (case yp => kmk_part); (case yq => kmk_part); (case yk => kmk_part); (case yo => decide); (case yz => first | (first | lia | omega) | (simp only [List.length_map] at *; (first | lia | omega))); (case ys => with_unfolding_all rfl); (case yt => kmk_pure); intro _ _ _ _ _ _ _ _)) | walk1)) | ((((fail_if_success (with_reducible show wpAny _ _ (compareOp _ (Value.ref _) (Value.ref _)) _ _ _)); (fail_if_success (with_reducible show wpAny _ _ (call (Value.ref _) _) _ _ _)); (fail_if_success (with_reducible show wpAny _ _ (exec (Stmt.Assign [Expr.Name _ _] (Expr.ListComp _ _ _ _) _) _) _ _ _)); (fail_if_success (with_reducible show wpAny _ _ (eval (Expr.ListComp _ _ _ _) _) _ _ _)))); (((fail_if_success (with_reducible show wpAny _ _ (exec (Stmt.While _ _ _ _) _) _ _ _)); (fail_if_success (with_reducible show wpAny _ _ (exec (Stmt.For _ _ _ _ _) _) _ _ _)))); dsimp only)))
      rename Fr _ _ _ _ => F36
      rename News _ _ _ _ => N36
      have N37 : News _ _ _ ((a3, W.listOf (vals d3 kd3).toArray ep3) :: nw3) := News.sub N36 fun q hq => by ((repeat (first | (with_reducible assumption) | exact List.mem_cons_self | (refine List.mem_cons_of_mem _ ?_))))
      refine gen_my (P := fun s' => wpAny _ _ _ _ _ s') hgs6 hos6 F36 N37 ?_
      clear F36 N36 N37
      intro s8 hgs7 hos7 F37 N37
      refine words_spec (f := d3) (N := kd3) ((room_law _).less (by decide)) X0 T0 F37 N37 (by (first | lia | omega)) (by ((repeat (first | (with_reducible assumption) | exact List.mem_cons_self | (refine List.mem_cons_of_mem _ ?_))))) (tr3.mono fun q hq => by ((repeat (first | (with_reducible assumption) | exact List.mem_cons_self | (refine List.mem_cons_of_mem _ ?_))))) (vm_r5 hv3) ?_
      rw [vm_words hv3]
      intro h38 tk38 tw5 F38 N38
      (repeat' (first | (k_unfold; (try dsimp only)) | (k_end; wrow_close) | ((((fail_if_success (with_reducible show wpAny _ _ (compareOp _ (Value.ref _) (Value.ref _)) _ _ _)); (fail_if_success (with_reducible show wpAny _ _ (call (Value.ref _) _) _ _ _)); (fail_if_success (with_reducible show wpAny _ _ (exec (Stmt.Assign [Expr.Name _ _] (Expr.ListComp _ _ _ _) _) _) _ _ _)); (fail_if_success (with_reducible show wpAny _ _ (eval (Expr.ListComp _ _ _ _) _) _ _ _)))); (((fail_if_success (with_reducible show wpAny _ _ (exec (Stmt.While _ _ _ _) _) _ _ _)); (fail_if_success (with_reducible show wpAny _ _ (exec (Stmt.For _ _ _ _ _) _) _ _ _)))); (first | with_reducible (k_here; (with_reducible show wpAny _ _ (call (Value.type "int") _) _ _ _); (k_here; (refine' int_num_my ?ye ?ya ?yb ?_); (case ye => with_reducible assumption); (case ya => with_reducible assumption); (case yb => with_reducible assumption))) | with_reducible (k_here; (with_reducible show wpAny _ _ (call (Value.builtin "len") [Value.ref _]) _ _ _); (refine' len_my ?yN ?ya ?yz ?_); (case yN => k_asm); (case ya => ((repeat (first | (with_reducible assumption) | exact List.mem_cons_self | (refine List.mem_cons_of_mem _ ?_))))); (case yz => (first | lia | omega))) | with_reducible (k_here; (with_reducible show wpAny _ _ (binaryOp _ (Value.ref _) (Value.int _ _)) _ _ _); (refine' mul_my ?yF ?yN ?ya ?yx ?yz ?_); (case yF => k_asm); (case yN => k_asm); (case ya => ((repeat (first | (with_reducible assumption) | exact List.mem_cons_self | (refine List.mem_cons_of_mem _ ?_))))); (case yx => rfl); (case yz => (first | lia | omega)); intro _ _ _ _ _) | with_reducible (k_here; (with_reducible show wpAny _ _ (subscriptTail _ _ (Value.ref _) (Value.ref _)) _ _ _); (k_here; (refine' slice_my ?yF ?yN ?yl ?yp ?yq ?yz ?_ ?ys ?yt); (case yF => k_asm); (case yN => k_asm); (case yl => ((repeat (first | (with_reducible assumption) | exact List.mem_cons_self | (refine List.mem_cons_of_mem _ ?_))))); (case yp => kmk_part); (case yq => kmk_part); (case yz => simp only [vals_length]; (first | lia | omega)); (case ys => with_unfolding_all rfl); (case yt => kmk_pure); intro _ _ _ _ _)) | with_reducible (k_here; (with_reducible show wpAny _ _ (binaryOp _ (Value.ref _) (Value.ref _)) _ _ _); (refine' add_my ?yF ?yN ?ya ?yb ?yz ?_); (case yF => k_asm); (case yN => k_asm); (case ya => ((repeat (first | (with_reducible assumption) | exact List.mem_cons_self | (refine List.mem_cons_of_mem _ ?_))))); (case yb => ((repeat (first | (with_reducible assumption) | exact List.mem_cons_self | (refine List.mem_cons_of_mem _ ?_))))); (case yz => (first | lia | omega)); intro _ _ _ _ _) | with_reducible (k_here; (with_reducible show wpAny _ _ (call (Value.builtin "sum") [Value.ref _]) _ _ _); k_dflt (refine' sum_my ?yk0 ?yk1 ?yk2 ?yk3 ?_); (case yk0 => with_unfolding_all rfl); (case yk1 => k_asm); (case yk2 => k_asm); (case yk3 => with_reducible assumption); intro _ _ _ _ _ _) | (k_here; (with_reducible show wpAny _ _ (subscriptTail _ _ (Value.ref _) (Value.ref _)) _ _ _); (k_here; (with_reducible show wpAny _ _ (subscriptTail _ (PySem.Expr.Slice _ _ (some _) _) (Value.ref _) (Value.ref _)) _ _ _); k_dflt (refine' slice3_my ?yF ?yN ?yl ?yi ?yp ?yq ?yk ?yo ?yz ?_ ?ys ?yt); (case yF => k_asm); (case yN => k_asm); (case yl => kmk_list); (case yi => l_ints); (case yp => kmk_part); (case yq => kmk_part); (case yk => kmk_part); (case yo => decide); (case yz => first | (first | lia | omega) | (simp only [List.length_map] at *; (first | lia | omega))); (case ys => with_unfolding_all rfl); (case yt => kmk_pure); intro _ _ _ _ _ _ _ _)) | walk1)) | ((((fail_if_success (with_reducible show wpAny _ _ (compareOp _ (Value.ref _) (Value.ref _)) _ _ _)); (fail_if_success (with_reducible show wpAny _ _ (call (Value.ref _) _) _ _ _)); (fail_if_success (with_reducible show wpAny _ _ (exec (Stmt.Assign [Expr.Name _ _] (Expr.ListComp _ _ _ _) _) _) _ _ _)); (fail_if_success (with_reducible show wpAny _ _ (eval (Expr.ListComp _ _ _ _) _) _ _ _)))); (((fail_if_success (with_reducible show wpAny _ _ (exec (Stmt.While _ _ _ _) _) _ _ _)); (fail_if_success (with_reducible show wpAny _ _ (exec (Stmt.For _ _ _ _ _) _) _ _ _)))); dsimp only)))
      refine flags_spec (n := n1 + n2) ((room_law _).less (by decide)) X0 T0 F38 N38 (by (first | lia | omega)) (by (first | lia | omega)) ?_
      intro h39 tk39 tw6 F39 N39
      (repeat' (first | (k_unfold; (try dsimp only)) | (k_end; wrow_close) | ((((fail_if_success (with_reducible show wpAny _ _ (compareOp _ (Value.ref _) (Value.ref _)) _ _ _)); (fail_if_success (with_reducible show wpAny _ _ (call (Value.ref _) _) _ _ _)); (fail_if_success (with_reducible show wpAny _ _ (exec (Stmt.Assign [Expr.Name _ _] (Expr.ListComp _ _ _ _) _) _) _ _ _)); (fail_if_success (with_reducible show wpAny _ _ (eval (Expr.ListComp _ _ _ _) _) _ _ _)))); (((fail_if_success (with_reducible show wpAny _ _ (exec (Stmt.While _ _ _ _) _) _ _ _)); (fail_if_success (with_reducible show wpAny _ _ (exec (Stmt.For _ _ _ _ _) _) _ _ _)))); (first | with_reducible (k_here; (with_reducible show wpAny _ _ (call (Value.type "int") _) _ _ _); (k_here; (refine' int_num_my ?ye ?ya ?yb ?_); (case ye => with_reducible assumption); (case ya => with_reducible assumption); (case yb => with_reducible assumption))) | with_reducible (k_here; (with_reducible show wpAny _ _ (call (Value.builtin "len") [Value.ref _]) _ _ _); (refine' len_my ?yN ?ya ?yz ?_); (case yN => k_asm); (case ya => ((repeat (first | (with_reducible assumption) | exact List.mem_cons_self | (refine List.mem_cons_of_mem _ ?_))))); (case yz => (first | lia | omega))) | with_reducible (k_here; (with_reducible show wpAny _ _ (binaryOp _ (Value.ref _) (Value.int _ _)) _ _ _); (refine' mul_my ?yF ?yN ?ya ?yx ?yz ?_); (case yF => k_asm); (case yN => k_asm); (case ya => ((repeat (first | (with_reducible assumption) | exact List.mem_cons_self | (refine List.mem_cons_of_mem _ ?_))))); (case yx => rfl); (case yz => (first | lia | omega)); intro _ _ _ _ _) | with_reducible (k_here; (with_reducible show wpAny _ _ (subscriptTail _ _ (Value.ref _) (Value.ref _)) _ _ _); (k_here; (refine' slice_my ?yF ?yN ?yl ?yp ?yq ?yz ?_ ?ys ?yt); (case yF => k_asm); (case yN => k_asm); (case yl => ((repeat (first | (with_reducible assumption) | exact List.mem_cons_self | (refine List.mem_cons_of_mem _ ?_))))); (case yp => kmk_part); (case yq => kmk_part); (case yz => simp only [vals_length]; (first | lia | omega)); (case ys => with_unfolding_all rfl); (case yt => kmk_pure); intro _ _ _ _ _)) | with_reducible (k_here; (with_reducible show wpAny _ _ (binaryOp _ (Value.ref _) (Value.ref _)) _ _ _); (refine' add_my ?yF ?yN ?ya ?yb ?yz ?_); (case yF => k_asm); (case yN => k_asm); (case ya => ((repeat (first | (with_reducible assumption) | exact List.mem_cons_self | (refine List.mem_cons_of_mem _ ?_))))); (case yb => ((repeat (first | (with_reducible assumption) | exact List.mem_cons_self | (refine List.mem_cons_of_mem _ ?_))))); (case yz => (first | lia | omega)); intro _ _ _ _ _) | with_reducible (k_here; (with_reducible show wpAny _ _ (call (Value.builtin "sum") [Value.ref _]) _ _ _); k_dflt (refine' sum_my ?yk0 ?yk1 ?yk2 ?yk3 ?_); (case yk0 => with_unfolding_all rfl); (case yk1 => k_asm); (case yk2 => k_asm); (case yk3 => with_reducible assumption); intro _ _ _ _ _ _) | (k_here; (with_reducible show wpAny _ _ (subscriptTail _ _ (Value.ref _) (Value.ref _)) _ _ _); (k_here; (with_reducible show wpAny _ _ (subscriptTail _ (PySem.Expr.Slice _ _ (some _) _) (Value.ref _) (Value.ref _)) _ _ _); k_dflt (refine' slice3_my ?yF ?yN ?yl ?yi ?yp ?yq ?yk ?yo ?yz ?_ ?ys ?yt); (case yF => k_asm); (case yN => k_asm); (case yl => kmk_list); (case yi => l_ints); (case yp => kmk_part); (case yq => kmk_part); (case yk => kmk_part); (case yo => decide); (case yz => first | (first | lia | omega) | (simp only [List.length_map] at *; (first | lia | omega))); (case ys => with_unfolding_all rfl); (case yt => kmk_pure); intro _ _ _ _ _ _ _ _)) | walk1)) | ((((fail_if_success (with_reducible show wpAny _ _ (compareOp _ (Value.ref _) (Value.ref _)) _ _ _)); (fail_if_success (with_reducible show wpAny _ _ (call (Value.ref _) _) _ _ _)); (fail_if_success (with_reducible show wpAny _ _ (exec (Stmt.Assign [Expr.Name _ _] (Expr.ListComp _ _ _ _) _) _) _ _ _)); (fail_if_success (with_reducible show wpAny _ _ (eval (Expr.ListComp _ _ _ _) _) _ _ _)))); (((fail_if_success (with_reducible show wpAny _ _ (exec (Stmt.While _ _ _ _) _) _ _ _)); (fail_if_success (with_reducible show wpAny _ _ (exec (Stmt.For _ _ _ _ _) _) _ _ _)))); dsimp only)))
      · exfalso; rename (_ != _) = true => hb; simp at hb
      have hf1 : ((fact n1 : Nat) : Int) ≠ 0 := by have := (fact_nat (a := n1) (by (first | lia | omega))).1; (first | lia | omega)
      have hf2 : ((fact n2 : Nat) : Int) ≠ 0 := by have := (fact_nat (a := n2) (by (first | lia | omega))).1; (first | lia | omega)
      refine prod_spec (n := n1 + n2) ((room_law _).less (by decide)) X0 T0 F39 N39 (by (first | lia | omega)) ?_
      intro h40 tk40 tw7 F40 N40
      (repeat' (first | (k_unfold; (try dsimp only)) | (k_end; wrow_close) | ((((fail_if_success (with_reducible show wpAny _ _ (compareOp _ (Value.ref _) (Value.ref _)) _ _ _)); (fail_if_success (with_reducible show wpAny _ _ (call (Value.ref _) _) _ _ _)); (fail_if_success (with_reducible show wpAny _ _ (exec (Stmt.Assign [Expr.Name _ _] (Expr.ListComp _ _ _ _) _) _) _ _ _)); (fail_if_success (with_reducible show wpAny _ _ (eval (Expr.ListComp _ _ _ _) _) _ _ _)))); (((fail_if_success (with_reducible show wpAny _ _ (exec (Stmt.While _ _ _ _) _) _ _ _)); (fail_if_success (with_reducible show wpAny _ _ (exec (Stmt.For _ _ _ _ _) _) _ _ _)))); (first | with_reducible (k_here; (with_reducible show wpAny _ _ (call (Value.type "int") _) _ _ _); (k_here; (refine' int_num_my ?ye ?ya ?yb ?_); (case ye => with_reducible assumption); (case ya => with_reducible assumption); (case yb => with_reducible assumption))) | with_reducible (k_here; (with_reducible show wpAny _ _ (call (Value.builtin "len") [Value.ref _]) _ _ _); (refine' len_my ?yN ?ya ?yz ?_); (case yN => k_asm); (case ya => ((repeat (first | (with_reducible assumption) | exact List.mem_cons_self | (refine List.mem_cons_of_mem _ ?_))))); (case yz => (first | lia | omega))) | with_reducible (k_here; (with_reducible show wpAny _ _ (binaryOp _ (Value.ref _) (Value.int _ _)) _ _ _); (refine' mul_my ?yF ?yN ?ya ?yx ?yz ?_); (case yF => k_asm); (case yN => k_asm); (case ya => ((repeat (first | (with_reducible assumption) | exact List.mem_cons_self | (refine List.mem_cons_of_mem _ ?_))))); (case yx => rfl); (case yz => (first | lia | omega)); intro _ _ _ _ _) | with_reducible (k_here; (with_reducible show wpAny _ _ (subscriptTail _ _ (Value.ref _) (Value.ref _)) _ _ _); (k_here; (refine' slice_my ?yF ?yN ?yl ?yp ?yq ?yz ?_ ?ys ?yt); (case yF => k_asm); (case yN => k_asm); (case yl => ((repeat (first | (with_reducible assumption) | exact List.mem_cons_self | (refine List.mem_cons_of_mem _ ?_))))); (case yp => kmk_part); (case yq => kmk_part); (case yz => simp only [vals_length]; (first | lia | omega)); (case ys => with_unfolding_all rfl); (case yt => kmk_pure); intro _ _ _ _ _)) | with_reducible (k_here; (with_reducible show wpAny _ _ (binaryOp _ (Value.ref _) (Value.ref _)) _ _ _); (refine' add_my ?yF ?yN ?ya ?yb ?yz ?_); (case yF => k_asm); (case yN => k_asm); (case ya => ((repeat (first | (with_reducible assumption) | exact List.mem_cons_self | (refine List.mem_cons_of_mem _ ?_))))); (case yb => ((repeat (first | (with_reducible assumption) | exact List.mem_cons_self | (refine List.mem_cons_of_mem _ ?_))))); (case yz => (first | lia | omega)); intro _ _ _ _ _) | with_reducible (k_here; (with_reducible show wpAny _ _ (call (Value.builtin "sum") [Value.ref _]) _ _ _); k_dflt (refine' sum_my ?yk0 ?yk1 ?yk2 ?yk3 ?_); (case yk0 => with_unfolding_all rfl); (case yk1 => k_asm); (case yk2 => k_asm); (case yk3 => with_reducible assumption); intro _ _ _ _ _ _) | (k_here; (with_reducible show wpAny _ _ (subscriptTail _ _ (Value.ref _) (Value.ref _)) _ _ _); (k_here; (with_reducible show wpAny _ _ (subscriptTail _ (PySem.Expr.Slice _ _ (some _) _) (Value.ref _) (Value.ref _)) _ _ _); k_dflt (refine' slice3_my ?yF ?yN ?yl ?yi ?yp ?yq ?yk ?yo ?yz ?_ ?ys ?yt); (case yF => k_asm); (case yN => k_asm); (case yl => kmk_list); (case yi => l_ints); (case yp => kmk_part); (case yq => kmk_part); (case yk => kmk_part); (case yo => decide); (case yz => first | (first | lia | omega) | (simp only [List.length_map] at *; (first | lia | omega))); (case ys => with_unfolding_all rfl); (case yt => kmk_pure); intro _ _ _ _ _ _ _ _)) | walk1)) | ((((fail_if_success (with_reducible show wpAny _ _ (compareOp _ (Value.ref _) (Value.ref _)) _ _ _)); (fail_if_success (with_reducible show wpAny _ _ (call (Value.ref _) _) _ _ _)); (fail_if_success (with_reducible show wpAny _ _ (exec (Stmt.Assign [Expr.Name _ _] (Expr.ListComp _ _ _ _) _) _) _ _ _)); (fail_if_success (with_reducible show wpAny _ _ (eval (Expr.ListComp _ _ _ _) _) _ _ _)))); (((fail_if_success (with_reducible show wpAny _ _ (exec (Stmt.While _ _ _ _) _) _ _ _)); (fail_if_success (with_reducible show wpAny _ _ (exec (Stmt.For _ _ _ _ _) _) _ _ _)))); dsimp only)))
      refine prod_spec (n := n1) ((room_law _).less (by decide)) X0 T0 F40 N40 (by (first | lia | omega)) ?_
      intro h41 tk41 tw8 F41 N41
      (repeat' (first | (k_unfold; (try dsimp only)) | (k_end; wrow_close) | ((((fail_if_success (with_reducible show wpAny _ _ (compareOp _ (Value.ref _) (Value.ref _)) _ _ _)); (fail_if_success (with_reducible show wpAny _ _ (call (Value.ref _) _) _ _ _)); (fail_if_success (with_reducible show wpAny _ _ (exec (Stmt.Assign [Expr.Name _ _] (Expr.ListComp _ _ _ _) _) _) _ _ _)); (fail_if_success (with_reducible show wpAny _ _ (eval (Expr.ListComp _ _ _ _) _) _ _ _)))); (((fail_if_success (with_reducible show wpAny _ _ (exec (Stmt.While _ _ _ _) _) _ _ _)); (fail_if_success (with_reducible show wpAny _ _ (exec (Stmt.For _ _ _ _ _) _) _ _ _)))); (first | with_reducible (k_here; (with_reducible show wpAny _ _ (call (Value.type "int") _) _ _ _); (k_here; (refine' int_num_my ?ye ?ya ?yb ?_); (case ye => with_reducible assumption); (case ya => with_reducible assumption); (case yb => with_reducible assumption))) | with_reducible (k_here; (with_reducible show wpAny _ _ (call (Value.builtin "len") [Value.ref _]) _ _ _); (refine' len_my ?yN ?ya ?yz ?_); (case yN => k_asm); (case ya => ((repeat (first | (with_reducible assumption) | exact List.mem_cons_self | (refine List.mem_cons_of_mem _ ?_))))); (case yz => (first | lia | omega))) | with_reducible (k_here; (with_reducible show wpAny _ _ (binaryOp _ (Value.ref _) (Value.int _ _)) _ _ _); (refine' mul_my ?yF ?yN ?ya ?yx ?yz ?_); (case yF => k_asm); (case yN => k_asm); (case ya => ((repeat (first | (with_reducible assumption) | exact List.mem_cons_self | (refine List.mem_cons_of_mem _ ?_))))); (case yx => rfl); (case yz => (first | lia | omega)); intro _ _ _ _ _) | with_reducible (k_here; (with_reducible show wpAny _ _ (subscriptTail _ _ (Value.ref _) (Value.ref _)) _ _ _); (k_here; (refine' slice_my ?yF ?yN ?yl ?yp ?yq ?yz ?_ ?ys ?yt); (case yF => k_asm); (case yN => k_asm); (case yl => ((repeat (first | (with_reducible assumption) | exact List.mem_cons_self | (refine List.mem_cons_of_mem _ ?_))))); (case yp => kmk_part); (case yq => kmk_part); (case yz => simp only [vals_length]; (first | lia | omega)); (case ys => with_unfolding_all rfl); (case yt => kmk_pure); intro _ _ _ _ _)) | with_reducible (k_here; (with_reducible show wpAny _ _ (binaryOp _ (Value.ref _) (Value.ref _)) _ _ _); (refine' add_my ?yF ?yN ?ya ?yb ?yz ?_); (case yF => k_asm); (case yN => k_asm); (case ya => ((repeat (first | (with_reducible assumption) | exact List.mem_cons_self | (refine List.mem_cons_of_mem _ ?_))))); (case yb => ((repeat (first | (with_reducible assumption) | exact List.mem_cons_self | (refine List.mem_cons_of_mem _ ?_))))); (case yz => (first | lia | omega)); intro _ _ _ _ _) | with_reducible (k_here; (with_reducible show wpAny _ _ (call (Value.builtin "sum") [Value.ref _]) _ _ _); k_dflt (refine' sum_my ?yk0 ?yk1 ?yk2 ?yk3 ?_); (case yk0 => with_unfolding_all rfl); (case yk1 => k_asm); (case yk2 => k_asm); (case yk3 => with_reducible assumption); intro _ _ _ _ _ _) | (k_here; (with_reducible show wpAny _ _ (subscriptTail _ _ (Value.ref _) (Value.ref _)) _ _ _); (k_here; (with_reducible show wpAny _ _ (subscriptTail _ (PySem.Expr.Slice _ _ (some _) _) (Value.ref _) (Value.ref _)) _ _ _); k_dflt (refine' slice3_my ?yF ?yN ?yl ?yi ?yp ?yq ?yk ?yo ?yz ?_ ?ys ?yt); (case yF => k_asm); (case yN => k_asm); (case yl => kmk_list); (case yi => l_ints); (case yp => kmk_part); (case yq => kmk_part); (case yk => kmk_part); (case yo => decide); (case yz => first | (first | lia | omega) | (simp only [List.length_map] at *; (first | lia | omega))); (case ys => with_unfolding_all rfl); (case yt => kmk_pure); intro _ _ _ _ _ _ _ _)) | walk1)) | ((((fail_if_success (with_reducible show wpAny _ _ (compareOp _ (Value.ref _) (Value.ref _)) _ _ _)); (fail_if_success (with_reducible show wpAny _ _ (call (Value.ref _) _) _ _ _)); (fail_if_success (with_reducible show wpAny _ _ (exec (Stmt.Assign [Expr.Name _ _] (Expr.ListComp _ _ _ _) _) _) _ _ _)); (fail_if_success (with_reducible show wpAny _ _ (eval (Expr.ListComp _ _ _ _) _) _ _ _)))); (((fail_if_success (with_reducible show wpAny _ _ (exec (Stmt.While _ _ _ _) _) _ _ _)); (fail_if_success (with_reducible show wpAny _ _ (exec (Stmt.For _ _ _ _ _) _) _ _ _)))); dsimp only)))
      · exfalso; rename _ = (0 : Int) => hz; exact hf1 hz
      rename Fr _ _ _ _ => F41'
      rename News _ _ _ _ => N41'
      refine prod_spec (n := n2) ((room_law _).less (by decide)) X0 T0 F41' N41' (by (first | lia | omega)) ?_
      intro h42 tk42 tw9 F42 N42
      (repeat' (first | (k_unfold; (try dsimp only)) | (k_end; wrow_close) | ((((fail_if_success (with_reducible show wpAny _ _ (compareOp _ (Value.ref _) (Value.ref _)) _ _ _)); (fail_if_success (with_reducible show wpAny _ _ (call (Value.ref _) _) _ _ _)); (fail_if_success (with_reducible show wpAny _ _ (exec (Stmt.Assign [Expr.Name _ _] (Expr.ListComp _ _ _ _) _) _) _ _ _)); (fail_if_success (with_reducible show wpAny _ _ (eval (Expr.ListComp _ _ _ _) _) _ _ _)))); (((fail_if_success (with_reducible show wpAny _ _ (exec (Stmt.While _ _ _ _) _) _ _ _)); (fail_if_success (with_reducible show wpAny _ _ (exec (Stmt.For _ _ _ _ _) _) _ _ _)))); (first | with_reducible (k_here; (with_reducible show wpAny _ _ (call (Value.type "int") _) _ _ _); (k_here; (refine' int_num_my ?ye ?ya ?yb ?_); (case ye => with_reducible assumption); (case ya => with_reducible assumption); (case yb => with_reducible assumption))) | with_reducible (k_here; (with_reducible show wpAny _ _ (call (Value.builtin "len") [Value.ref _]) _ _ _); (refine' len_my ?yN ?ya ?yz ?_); (case yN => k_asm); (case ya => ((repeat (first | (with_reducible assumption) | exact List.mem_cons_self | (refine List.mem_cons_of_mem _ ?_))))); (case yz => (first | lia | omega))) | with_reducible (k_here; (with_reducible show wpAny _ _ (binaryOp _ (Value.ref _) (Value.int _ _)) _ _ _); (refine' mul_my ?yF ?yN ?ya ?yx ?yz ?_); (case yF => k_asm); (case yN => k_asm); (case ya => ((repeat (first | (with_reducible assumption) | exact List.mem_cons_self | (refine List.mem_cons_of_mem _ ?_))))); (case yx => rfl); (case yz => (first | lia | omega)); intro _ _ _ _ _) | with_reducible (k_here; (with_reducible show wpAny _ _ (subscriptTail _ _ (Value.ref _) (Value.ref _)) _ _ _); (k_here; (refine' slice_my ?yF ?yN ?yl ?yp ?yq ?yz ?_ ?ys ?yt); (case yF => k_asm); (case yN => k_asm); (case yl => ((repeat (first | (with_reducible assumption) | exact List.mem_cons_self | (refine List.mem_cons_of_mem _ ?_))))); (case yp => kmk_part); (case yq => kmk_part); (case yz => simp only [vals_length]; (first | lia | omega)); (case ys => with_unfolding_all rfl); (case yt => kmk_pure); intro _ _ _ _ _)) | with_reducible (k_here; (with_reducible show wpAny _ _ (binaryOp _ (Value.ref _) (Value.ref _)) _ _ _); (refine' add_my ?yF ?yN ?ya ?yb ?yz ?_); (case yF => k_asm); (case yN => k_asm); (case ya => ((repeat (first | (with_reducible assumption) | exact List.mem_cons_self | (refine List.mem_cons_of_mem _ ?_))))); (case yb => ((repeat (first | (with_reducible assumption) | exact List.mem_cons_self | (refine List.mem_cons_of_mem _ ?_))))); (case yz => (first | lia | omega)); intro _ _ _ _ _) | with_reducible (k_here; (with_reducible show wpAny _ _ (call (Value.builtin "sum") [Value.ref _]) _ _ _); k_dflt (refine' sum_my ?yk0 ?yk1 ?yk2 ?yk3 ?_); (case yk0 => with_unfolding_all rfl); (case yk1 => k_asm); (case yk2 => k_asm); (case yk3 => with_reducible assumption); intro _ _ _ _ _ _) | (k_here; (with_reducible show wpAny _ _ (subscriptTail _ _ (Value.ref _) (Value.ref _)) _ _ _); (k_here; (with_reducible show wpAny _ _ (subscriptTail _ (PySem.Expr.Slice _ _ (some _) _) (Value.ref _) (Value.ref _)) _ _ _); k_dflt (refine' slice3_my ?yF ?yN ?yl ?yi ?yp ?yq ?yk ?yo ?yz ?_ ?ys ?yt); (case yF => k_asm); (case yN => k_asm); (case yl => kmk_list); (case yi => l_ints); (case yp => kmk_part); (case yq => kmk_part); (case yk => kmk_part); (case yo => decide); (case yz => first | (first | lia | omega) | (simp only [List.length_map] at *; (first | lia | omega))); (case ys => with_unfolding_all rfl); (case yt => kmk_pure); intro _ _ _ _ _ _ _ _)) | walk1)) | ((((fail_if_success (with_reducible show wpAny _ _ (compareOp _ (Value.ref _) (Value.ref _)) _ _ _)); (fail_if_success (with_reducible show wpAny _ _ (call (Value.ref _) _) _ _ _)); (fail_if_success (with_reducible show wpAny _ _ (exec (Stmt.Assign [Expr.Name _ _] (Expr.ListComp _ _ _ _) _) _) _ _ _)); (fail_if_success (with_reducible show wpAny _ _ (eval (Expr.ListComp _ _ _ _) _) _ _ _)))); (((fail_if_success (with_reducible show wpAny _ _ (exec (Stmt.While _ _ _ _) _) _ _ _)); (fail_if_success (with_reducible show wpAny _ _ (exec (Stmt.For _ _ _ _ _) _) _ _ _)))); dsimp only)))
      · exfalso; rename _ = (0 : Int) => hz; exact hf2 hz
      rename Fr _ _ _ _ => F43
      rename News _ _ _ _ => N43
      rw [fdiv_nat, fdiv_nat] at F43
      obtain ⟨tq, m43, F44⟩ : Ex2 fun tq m43 => Fr _ _ _ (ovr [(Str.ofString "first", .int (n1 : Nat) u1), (Str.ofString "second", .int (n2 : Nat) u2), (Str.ofString "marks", .ref D), (Str.ofString "early", .int (l1 : Nat) tl1), (Str.ofString "late", .int (l2' : Nat) tl2), (Str.ofString "whole", .ref a3), (Str.ofString "last", .int (l3' : Nat) tl3), (Str.ofString "ways", .int ((fact (n1 + n2) / fact n1 / fact n2 : Nat) : Int) tq)] m43) := ⟨_, _, fr_ovr F43 (by ((repeat (first | exact List.forall_mem_nil _ | (refine List.forall_mem_cons.mpr ⟨by with_unfolding_all rfl, ?_⟩)))))⟩
      clear F43
      refine gen_my (P := fun s' => wpAny _ _ _ _ _ s') hgs7 hos7 F44 N43 ?_
      clear F44 N43
      intro s9 hgs8 hos8 F44 N44
      refine prod_spec (n := n1) ((room_law _).less (by decide)) X0 T0 F44 N44 (by (first | lia | omega)) ?_
      intro h45 tk45 tw45 F45 N45
      (repeat' (first | (k_unfold; (try dsimp only)) | (k_end; wrow_close) | ((((fail_if_success (with_reducible show wpAny _ _ (compareOp _ (Value.ref _) (Value.ref _)) _ _ _)); (fail_if_success (with_reducible show wpAny _ _ (call (Value.ref _) _) _ _ _)); (fail_if_success (with_reducible show wpAny _ _ (exec (Stmt.Assign [Expr.Name _ _] (Expr.ListComp _ _ _ _) _) _) _ _ _)); (fail_if_success (with_reducible show wpAny _ _ (eval (Expr.ListComp _ _ _ _) _) _ _ _)))); (((fail_if_success (with_reducible show wpAny _ _ (exec (Stmt.While _ _ _ _) _) _ _ _)); (fail_if_success (with_reducible show wpAny _ _ (exec (Stmt.For _ _ _ _ _) _) _ _ _)))); (first | with_reducible (k_here; (with_reducible show wpAny _ _ (call (Value.type "int") _) _ _ _); (k_here; (refine' int_num_my ?ye ?ya ?yb ?_); (case ye => with_reducible assumption); (case ya => with_reducible assumption); (case yb => with_reducible assumption))) | with_reducible (k_here; (with_reducible show wpAny _ _ (call (Value.builtin "len") [Value.ref _]) _ _ _); (refine' len_my ?yN ?ya ?yz ?_); (case yN => k_asm); (case ya => ((repeat (first | (with_reducible assumption) | exact List.mem_cons_self | (refine List.mem_cons_of_mem _ ?_))))); (case yz => (first | lia | omega))) | with_reducible (k_here; (with_reducible show wpAny _ _ (binaryOp _ (Value.ref _) (Value.int _ _)) _ _ _); (refine' mul_my ?yF ?yN ?ya ?yx ?yz ?_); (case yF => k_asm); (case yN => k_asm); (case ya => ((repeat (first | (with_reducible assumption) | exact List.mem_cons_self | (refine List.mem_cons_of_mem _ ?_))))); (case yx => rfl); (case yz => (first | lia | omega)); intro _ _ _ _ _) | with_reducible (k_here; (with_reducible show wpAny _ _ (subscriptTail _ _ (Value.ref _) (Value.ref _)) _ _ _); (k_here; (refine' slice_my ?yF ?yN ?yl ?yp ?yq ?yz ?_ ?ys ?yt); (case yF => k_asm); (case yN => k_asm); (case yl => ((repeat (first | (with_reducible assumption) | exact List.mem_cons_self | (refine List.mem_cons_of_mem _ ?_))))); (case yp => kmk_part); (case yq => kmk_part); (case yz => simp only [vals_length]; (first | lia | omega)); (case ys => with_unfolding_all rfl); (case yt => kmk_pure); intro _ _ _ _ _)) | with_reducible (k_here; (with_reducible show wpAny _ _ (binaryOp _ (Value.ref _) (Value.ref _)) _ _ _); (refine' add_my ?yF ?yN ?ya ?yb ?yz ?_); (case yF => k_asm); (case yN => k_asm); (case ya => ((repeat (first | (with_reducible assumption) | exact List.mem_cons_self | (refine List.mem_cons_of_mem _ ?_))))); (case yb => ((repeat (first | (with_reducible assumption) | exact List.mem_cons_self | (refine List.mem_cons_of_mem _ ?_))))); (case yz => (first | lia | omega)); intro _ _ _ _ _) | with_reducible (k_here; (with_reducible show wpAny _ _ (call (Value.builtin "sum") [Value.ref _]) _ _ _); k_dflt (refine' sum_my ?yk0 ?yk1 ?yk2 ?yk3 ?_); (case yk0 => with_unfolding_all rfl); (case yk1 => k_asm); (case yk2 => k_asm); (case yk3 => with_reducible assumption); intro _ _ _ _ _ _) | (k_here; (with_reducible show wpAny _ _ (subscriptTail _ _ (Value.ref _) (Value.ref _)) _ _ _); (k_here; (with_reducible show wpAny _ _ (subscriptTail _ (PySem.Expr.Slice _ _ (some _) _) (Value.ref _) (Value.ref _)) _ _ _); k_dflt (refine' slice3_my ?yF ?yN ?yl ?yi ?yp ?yq ?yk ?yo ?yz ?_ ?ys ?yt); (case yF => k_asm); (case yN => k_asm); (case yl => kmk_list); (case yi => l_ints); (case yp => kmk_part); (case yq => kmk_part); (case yk => kmk_part); (case yo => decide); (case yz => first | (first | lia | omega) | (simp only [List.length_map] at *; (first | lia | omega))); (case ys => with_unfolding_all rfl); (case yt => kmk_pure); intro _ _ _ _ _ _ _ _)) | walk1)) | ((((fail_if_success (with_reducible show wpAny _ _ (compareOp _ (Value.ref _) (Value.ref _)) _ _ _)); (fail_if_success (with_reducible show wpAny _ _ (call (Value.ref _) _) _ _ _)); (fail_if_success (with_reducible show wpAny _ _ (exec (Stmt.Assign [Expr.Name _ _] (Expr.ListComp _ _ _ _) _) _) _ _ _)); (fail_if_success (with_reducible show wpAny _ _ (eval (Expr.ListComp _ _ _ _) _) _ _ _)))); (((fail_if_success (with_reducible show wpAny _ _ (exec (Stmt.While _ _ _ _) _) _ _ _)); (fail_if_success (with_reducible show wpAny _ _ (exec (Stmt.For _ _ _ _ _) _) _ _ _)))); dsimp only)))
      refine twos_spec (n := fact n1) ((room_law _).less (by decide)) X0 T0 F45 N45 (fact_nat (by (first | lia | omega))).2 (fact_nat (by (first | lia | omega))).1 ?_
      intro h46 tk46 tw46 F46 N46
      (repeat' (first | (k_unfold; (try dsimp only)) | (k_end; wrow_close) | ((((fail_if_success (with_reducible show wpAny _ _ (compareOp _ (Value.ref _) (Value.ref _)) _ _ _)); (fail_if_success (with_reducible show wpAny _ _ (call (Value.ref _) _) _ _ _)); (fail_if_success (with_reducible show wpAny _ _ (exec (Stmt.Assign [Expr.Name _ _] (Expr.ListComp _ _ _ _) _) _) _ _ _)); (fail_if_success (with_reducible show wpAny _ _ (eval (Expr.ListComp _ _ _ _) _) _ _ _)))); (((fail_if_success (with_reducible show wpAny _ _ (exec (Stmt.While _ _ _ _) _) _ _ _)); (fail_if_success (with_reducible show wpAny _ _ (exec (Stmt.For _ _ _ _ _) _) _ _ _)))); (first | with_reducible (k_here; (with_reducible show wpAny _ _ (call (Value.type "int") _) _ _ _); (k_here; (refine' int_num_my ?ye ?ya ?yb ?_); (case ye => with_reducible assumption); (case ya => with_reducible assumption); (case yb => with_reducible assumption))) | with_reducible (k_here; (with_reducible show wpAny _ _ (call (Value.builtin "len") [Value.ref _]) _ _ _); (refine' len_my ?yN ?ya ?yz ?_); (case yN => k_asm); (case ya => ((repeat (first | (with_reducible assumption) | exact List.mem_cons_self | (refine List.mem_cons_of_mem _ ?_))))); (case yz => (first | lia | omega))) | with_reducible (k_here; (with_reducible show wpAny _ _ (binaryOp _ (Value.ref _) (Value.int _ _)) _ _ _); (refine' mul_my ?yF ?yN ?ya ?yx ?yz ?_); (case yF => k_asm); (case yN => k_asm); (case ya => ((repeat (first | (with_reducible assumption) | exact List.mem_cons_self | (refine List.mem_cons_of_mem _ ?_))))); (case yx => rfl); (case yz => (first | lia | omega)); intro _ _ _ _ _) | with_reducible (k_here; (with_reducible show wpAny _ _ (subscriptTail _ _ (Value.ref _) (Value.ref _)) _ _ _); (k_here; (refine' slice_my ?yF ?yN ?yl ?yp ?yq ?yz ?_ ?ys ?yt); (case yF => k_asm); (case yN => k_asm); (case yl => ((repeat (first | (with_reducible assumption) | exact List.mem_cons_self | (refine List.mem_cons_of_mem _ ?_))))); (case yp => kmk_part); (case yq => kmk_part); (case yz => simp only [vals_length]; (first | lia | omega)); (case ys => with_unfolding_all rfl); (case yt => kmk_pure); intro _ _ _ _ _)) | with_reducible (k_here; (with_reducible show wpAny _ _ (binaryOp _ (Value.ref _) (Value.ref _)) _ _ _); (refine' add_my ?yF ?yN ?ya ?yb ?yz ?_); (case yF => k_asm); (case yN => k_asm); (case ya => ((repeat (first | (with_reducible assumption) | exact List.mem_cons_self | (refine List.mem_cons_of_mem _ ?_))))); (case yb => ((repeat (first | (with_reducible assumption) | exact List.mem_cons_self | (refine List.mem_cons_of_mem _ ?_))))); (case yz => (first | lia | omega)); intro _ _ _ _ _) | with_reducible (k_here; (with_reducible show wpAny _ _ (call (Value.builtin "sum") [Value.ref _]) _ _ _); k_dflt (refine' sum_my ?yk0 ?yk1 ?yk2 ?yk3 ?_); (case yk0 => with_unfolding_all rfl); (case yk1 => k_asm); (case yk2 => k_asm); (case yk3 => with_reducible assumption); intro _ _ _ _ _ _) | (k_here; (with_reducible show wpAny _ _ (subscriptTail _ _ (Value.ref _) (Value.ref _)) _ _ _); (k_here; (with_reducible show wpAny _ _ (subscriptTail _ (PySem.Expr.Slice _ _ (some _) _) (Value.ref _) (Value.ref _)) _ _ _); k_dflt (refine' slice3_my ?yF ?yN ?yl ?yi ?yp ?yq ?yk ?yo ?yz ?_ ?ys ?yt); (case yF => k_asm); (case yN => k_asm); (case yl => kmk_list); (case yi => l_ints); (case yp => kmk_part); (case yq => kmk_part); (case yk => kmk_part); (case yo => decide); (case yz => first | (first | lia | omega) | (simp only [List.length_map] at *; (first | lia | omega))); (case ys => with_unfolding_all rfl); (case yt => kmk_pure); intro _ _ _ _ _ _ _ _)) | walk1)) | ((((fail_if_success (with_reducible show wpAny _ _ (compareOp _ (Value.ref _) (Value.ref _)) _ _ _)); (fail_if_success (with_reducible show wpAny _ _ (call (Value.ref _) _) _ _ _)); (fail_if_success (with_reducible show wpAny _ _ (exec (Stmt.Assign [Expr.Name _ _] (Expr.ListComp _ _ _ _) _) _) _ _ _)); (fail_if_success (with_reducible show wpAny _ _ (eval (Expr.ListComp _ _ _ _) _) _ _ _)))); (((fail_if_success (with_reducible show wpAny _ _ (exec (Stmt.While _ _ _ _) _) _ _ _)); (fail_if_success (with_reducible show wpAny _ _ (exec (Stmt.For _ _ _ _ _) _) _ _ _)))); dsimp only)))
      refine prod_spec (n := n2) ((room_law _).less (by decide)) X0 T0 F46 N46 (by (first | lia | omega)) ?_
      intro h47 tk47 tw47 F47 N47
      (repeat' (first | (k_unfold; (try dsimp only)) | (k_end; wrow_close) | ((((fail_if_success (with_reducible show wpAny _ _ (compareOp _ (Value.ref _) (Value.ref _)) _ _ _)); (fail_if_success (with_reducible show wpAny _ _ (call (Value.ref _) _) _ _ _)); (fail_if_success (with_reducible show wpAny _ _ (exec (Stmt.Assign [Expr.Name _ _] (Expr.ListComp _ _ _ _) _) _) _ _ _)); (fail_if_success (with_reducible show wpAny _ _ (eval (Expr.ListComp _ _ _ _) _) _ _ _)))); (((fail_if_success (with_reducible show wpAny _ _ (exec (Stmt.While _ _ _ _) _) _ _ _)); (fail_if_success (with_reducible show wpAny _ _ (exec (Stmt.For _ _ _ _ _) _) _ _ _)))); (first | with_reducible (k_here; (with_reducible show wpAny _ _ (call (Value.type "int") _) _ _ _); (k_here; (refine' int_num_my ?ye ?ya ?yb ?_); (case ye => with_reducible assumption); (case ya => with_reducible assumption); (case yb => with_reducible assumption))) | with_reducible (k_here; (with_reducible show wpAny _ _ (call (Value.builtin "len") [Value.ref _]) _ _ _); (refine' len_my ?yN ?ya ?yz ?_); (case yN => k_asm); (case ya => ((repeat (first | (with_reducible assumption) | exact List.mem_cons_self | (refine List.mem_cons_of_mem _ ?_))))); (case yz => (first | lia | omega))) | with_reducible (k_here; (with_reducible show wpAny _ _ (binaryOp _ (Value.ref _) (Value.int _ _)) _ _ _); (refine' mul_my ?yF ?yN ?ya ?yx ?yz ?_); (case yF => k_asm); (case yN => k_asm); (case ya => ((repeat (first | (with_reducible assumption) | exact List.mem_cons_self | (refine List.mem_cons_of_mem _ ?_))))); (case yx => rfl); (case yz => (first | lia | omega)); intro _ _ _ _ _) | with_reducible (k_here; (with_reducible show wpAny _ _ (subscriptTail _ _ (Value.ref _) (Value.ref _)) _ _ _); (k_here; (refine' slice_my ?yF ?yN ?yl ?yp ?yq ?yz ?_ ?ys ?yt); (case yF => k_asm); (case yN => k_asm); (case yl => ((repeat (first | (with_reducible assumption) | exact List.mem_cons_self | (refine List.mem_cons_of_mem _ ?_))))); (case yp => kmk_part); (case yq => kmk_part); (case yz => simp only [vals_length]; (first | lia | omega)); (case ys => with_unfolding_all rfl); (case yt => kmk_pure); intro _ _ _ _ _)) | with_reducible (k_here; (with_reducible show wpAny _ _ (binaryOp _ (Value.ref _) (Value.ref _)) _ _ _); (refine' add_my ?yF ?yN ?ya ?yb ?yz ?_); (case yF => k_asm); (case yN => k_asm); (case ya => ((repeat (first | (with_reducible assumption) | exact List.mem_cons_self | (refine List.mem_cons_of_mem _ ?_))))); (case yb => ((repeat (first | (with_reducible assumption) | exact List.mem_cons_self | (refine List.mem_cons_of_mem _ ?_))))); (case yz => (first | lia | omega)); intro _ _ _ _ _) | with_reducible (k_here; (with_reducible show wpAny _ _ (call (Value.builtin "sum") [Value.ref _]) _ _ _); k_dflt (refine' sum_my ?yk0 ?yk1 ?yk2 ?yk3 ?_); (case yk0 => with_unfolding_all rfl); (case yk1 => k_asm); (case yk2 => k_asm); (case yk3 => with_reducible assumption); intro _ _ _ _ _ _) | (k_here; (with_reducible show wpAny _ _ (subscriptTail _ _ (Value.ref _) (Value.ref _)) _ _ _); (k_here; (with_reducible show wpAny _ _ (subscriptTail _ (PySem.Expr.Slice _ _ (some _) _) (Value.ref _) (Value.ref _)) _ _ _); k_dflt (refine' slice3_my ?yF ?yN ?yl ?yi ?yp ?yq ?yk ?yo ?yz ?_ ?ys ?yt); (case yF => k_asm); (case yN => k_asm); (case yl => kmk_list); (case yi => l_ints); (case yp => kmk_part); (case yq => kmk_part); (case yk => kmk_part); (case yo => decide); (case yz => first | (first | lia | omega) | (simp only [List.length_map] at *; (first | lia | omega))); (case ys => with_unfolding_all rfl); (case yt => kmk_pure); intro _ _ _ _ _ _ _ _)) | walk1)) | ((((fail_if_success (with_reducible show wpAny _ _ (compareOp _ (Value.ref _) (Value.ref _)) _ _ _)); (fail_if_success (with_reducible show wpAny _ _ (call (Value.ref _) _) _ _ _)); (fail_if_success (with_reducible show wpAny _ _ (exec (Stmt.Assign [Expr.Name _ _] (Expr.ListComp _ _ _ _) _) _) _ _ _)); (fail_if_success (with_reducible show wpAny _ _ (eval (Expr.ListComp _ _ _ _) _) _ _ _)))); (((fail_if_success (with_reducible show wpAny _ _ (exec (Stmt.While _ _ _ _) _) _ _ _)); (fail_if_success (with_reducible show wpAny _ _ (exec (Stmt.For _ _ _ _ _) _) _ _ _)))); dsimp only)))
      refine twos_spec (n := fact n2) ((room_law _).less (by decide)) X0 T0 F47 N47 (fact_nat (by (first | lia | omega))).2 (fact_nat (by (first | lia | omega))).1 ?_
      intro h48 tk48 tw48 F48 N48
      (repeat' (first | (k_unfold; (try dsimp only)) | (k_end; wrow_close) | ((((fail_if_success (with_reducible show wpAny _ _ (compareOp _ (Value.ref _) (Value.ref _)) _ _ _)); (fail_if_success (with_reducible show wpAny _ _ (call (Value.ref _) _) _ _ _)); (fail_if_success (with_reducible show wpAny _ _ (exec (Stmt.Assign [Expr.Name _ _] (Expr.ListComp _ _ _ _) _) _) _ _ _)); (fail_if_success (with_reducible show wpAny _ _ (eval (Expr.ListComp _ _ _ _) _) _ _ _)))); (((fail_if_success (with_reducible show wpAny _ _ (exec (Stmt.While _ _ _ _) _) _ _ _)); (fail_if_success (with_reducible show wpAny _ _ (exec (Stmt.For _ _ _ _ _) _) _ _ _)))); (first | with_reducible (k_here; (with_reducible show wpAny _ _ (call (Value.type "int") _) _ _ _); (k_here; (refine' int_num_my ?ye ?ya ?yb ?_); (case ye => with_reducible assumption); (case ya => with_reducible assumption); (case yb => with_reducible assumption))) | with_reducible (k_here; (with_reducible show wpAny _ _ (call (Value.builtin "len") [Value.ref _]) _ _ _); (refine' len_my ?yN ?ya ?yz ?_); (case yN => k_asm); (case ya => ((repeat (first | (with_reducible assumption) | exact List.mem_cons_self | (refine List.mem_cons_of_mem _ ?_))))); (case yz => (first | lia | omega))) | with_reducible (k_here; (with_reducible show wpAny _ _ (binaryOp _ (Value.ref _) (Value.int _ _)) _ _ _); (refine' mul_my ?yF ?yN ?ya ?yx ?yz ?_); (case yF => k_asm); (case yN => k_asm); (case ya => ((repeat (first | (with_reducible assumption) | exact List.mem_cons_self | (refine List.mem_cons_of_mem _ ?_))))); (case yx => rfl); (case yz => (first | lia | omega)); intro _ _ _ _ _) | with_reducible (k_here; (with_reducible show wpAny _ _ (subscriptTail _ _ (Value.ref _) (Value.ref _)) _ _ _); (k_here; (refine' slice_my ?yF ?yN ?yl ?yp ?yq ?yz ?_ ?ys ?yt); (case yF => k_asm); (case yN => k_asm); (case yl => ((repeat (first | (with_reducible assumption) | exact List.mem_cons_self | (refine List.mem_cons_of_mem _ ?_))))); (case yp => kmk_part); (case yq => kmk_part); (case yz => simp only [vals_length]; (first | lia | omega)); (case ys => with_unfolding_all rfl); (case yt => kmk_pure); intro _ _ _ _ _)) | with_reducible (k_here; (with_reducible show wpAny _ _ (binaryOp _ (Value.ref _) (Value.ref _)) _ _ _); (refine' add_my ?yF ?yN ?ya ?yb ?yz ?_); (case yF => k_asm); (case yN => k_asm); (case ya => ((repeat (first | (with_reducible assumption) | exact List.mem_cons_self | (refine List.mem_cons_of_mem _ ?_))))); (case yb => ((repeat (first | (with_reducible assumption) | exact List.mem_cons_self | (refine List.mem_cons_of_mem _ ?_))))); (case yz => (first | lia | omega)); intro _ _ _ _ _) | with_reducible (k_here; (with_reducible show wpAny _ _ (call (Value.builtin "sum") [Value.ref _]) _ _ _); k_dflt (refine' sum_my ?yk0 ?yk1 ?yk2 ?yk3 ?_); (case yk0 => with_unfolding_all rfl); (case yk1 => k_asm); (case yk2 => k_asm); (case yk3 => with_reducible assumption); intro _ _ _ _ _ _) | (k_here; (with_reducible show wpAny _ _ (subscriptTail _ _ (Value.ref _) (Value.ref _)) _ _ _); (k_here; (with_reducible show wpAny _ _ (subscriptTail _ (PySem.Expr.Slice _ _ (some _) _) (Value.ref _) (Value.ref _)) _ _ _); k_dflt (refine' slice3_my ?yF ?yN ?yl ?yi ?yp ?yq ?yk ?yo ?yz ?_ ?ys ?yt); (case yF => k_asm); (case yN => k_asm); (case yl => kmk_list); (case yi => l_ints); (case yp => kmk_part); (case yq => kmk_part); (case yk => kmk_part); (case yo => decide); (case yz => first | (first | lia | omega) | (simp only [List.length_map] at *; (first | lia | omega))); (case ys => with_unfolding_all rfl); (case yt => kmk_pure); intro _ _ _ _ _ _ _ _)) | walk1)) | ((((fail_if_success (with_reducible show wpAny _ _ (compareOp _ (Value.ref _) (Value.ref _)) _ _ _)); (fail_if_success (with_reducible show wpAny _ _ (call (Value.ref _) _) _ _ _)); (fail_if_success (with_reducible show wpAny _ _ (exec (Stmt.Assign [Expr.Name _ _] (Expr.ListComp _ _ _ _) _) _) _ _ _)); (fail_if_success (with_reducible show wpAny _ _ (eval (Expr.ListComp _ _ _ _) _) _ _ _)))); (((fail_if_success (with_reducible show wpAny _ _ (exec (Stmt.While _ _ _ _) _) _ _ _)); (fail_if_success (with_reducible show wpAny _ _ (exec (Stmt.For _ _ _ _ _) _) _ _ _)))); dsimp only)))
      refine twos_spec (n := fact (n1 + n2) / fact n1 / fact n2) ((room_law _).less (by decide)) X0 T0 F48 N48 (ways_nat (by (first | lia | omega)) (by (first | lia | omega))).2 (ways_nat (by (first | lia | omega)) (by (first | lia | omega))).1 ?_
      intro h49 tk49 tw49 F49 N49
      (repeat' (first | (k_unfold; (try dsimp only)) | (k_end; wrow_close) | ((((fail_if_success (with_reducible show wpAny _ _ (compareOp _ (Value.ref _) (Value.ref _)) _ _ _)); (fail_if_success (with_reducible show wpAny _ _ (call (Value.ref _) _) _ _ _)); (fail_if_success (with_reducible show wpAny _ _ (exec (Stmt.Assign [Expr.Name _ _] (Expr.ListComp _ _ _ _) _) _) _ _ _)); (fail_if_success (with_reducible show wpAny _ _ (eval (Expr.ListComp _ _ _ _) _) _ _ _)))); (((fail_if_success (with_reducible show wpAny _ _ (exec (Stmt.While _ _ _ _) _) _ _ _)); (fail_if_success (with_reducible show wpAny _ _ (exec (Stmt.For _ _ _ _ _) _) _ _ _)))); (first | with_reducible (k_here; (with_reducible show wpAny _ _ (call (Value.type "int") _) _ _ _); (k_here; (refine' int_num_my ?ye ?ya ?yb ?_); (case ye => with_reducible assumption); (case ya => with_reducible assumption); (case yb => with_reducible assumption))) | with_reducible (k_here; (with_reducible show wpAny _ _ (call (Value.builtin "len") [Value.ref _]) _ _ _); (refine' len_my ?yN ?ya ?yz ?_); (case yN => k_asm); (case ya => ((repeat (first | (with_reducible assumption) | exact List.mem_cons_self | (refine List.mem_cons_of_mem _ ?_))))); (case yz => (first | lia | omega))) | with_reducible (k_here; (with_reducible show wpAny _ _ (binaryOp _ (Value.ref _) (Value.int _ _)) _ _ _); (refine' mul_my ?yF ?yN ?ya ?yx ?yz ?_); (case yF => k_asm); (case yN => k_asm); (case ya => ((repeat (first | (with_reducible assumption) | exact List.mem_cons_self | (refine List.mem_cons_of_mem _ ?_))))); (case yx => rfl); (case yz => (first | lia | omega)); intro _ _ _ _ _) | with_reducible (k_here; (with_reducible show wpAny _ _ (subscriptTail _ _ (Value.ref _) (Value.ref _)) _ _ _); (k_here; (refine' slice_my ?yF ?yN ?yl ?yp ?yq ?yz ?_ ?ys ?yt); (case yF => k_asm); (case yN => k_asm); (case yl => ((repeat (first | (with_reducible assumption) | exact List.mem_cons_self | (refine List.mem_cons_of_mem _ ?_))))); (case yp => kmk_part); (case yq => kmk_part); (case yz => simp only [vals_length]; (first | lia | omega)); (case ys => with_unfolding_all rfl); (case yt => kmk_pure); intro _ _ _ _ _)) | with_reducible (k_here; (with_reducible show wpAny _ _ (binaryOp _ (Value.ref _) (Value.ref _)) _ _ _); (refine' add_my ?yF ?yN ?ya ?yb ?yz ?_); (case yF => k_asm); (case yN => k_asm); (case ya => ((repeat (first | (with_reducible assumption) | exact List.mem_cons_self | (refine List.mem_cons_of_mem _ ?_))))); (case yb => ((repeat (first | (with_reducible assumption) | exact List.mem_cons_self | (refine List.mem_cons_of_mem _ ?_))))); (case yz => (first | lia | omega)); intro _ _ _ _ _) | with_reducible (k_here; (with_reducible show wpAny _ _ (call (Value.builtin "sum") [Value.ref _]) _ _ _); k_dflt (refine' sum_my ?yk0 ?yk1 ?yk2 ?yk3 ?_); (case yk0 => with_unfolding_all rfl); (case yk1 => k_asm); (case yk2 => k_asm); (case yk3 => with_reducible assumption); intro _ _ _ _ _ _) | (k_here; (with_reducible show wpAny _ _ (subscriptTail _ _ (Value.ref _) (Value.ref _)) _ _ _); (k_here; (with_reducible show wpAny _ _ (subscriptTail _ (PySem.Expr.Slice _ _ (some _) _) (Value.ref _) (Value.ref _)) _ _ _); k_dflt (refine' slice3_my ?yF ?yN ?yl ?yi ?yp ?yq ?yk ?yo ?yz ?_ ?ys ?yt); (case yF => k_asm); (case yN => k_asm); (case yl => kmk_list); (case yi => l_ints); (case yp => kmk_part); (case yq => kmk_part); (case yk => kmk_part); (case yo => decide); (case yz => first | (first | lia | omega) | (simp only [List.length_map] at *; (first | lia | omega))); (case ys => with_unfolding_all rfl); (case yt => kmk_pure); intro _ _ _ _ _ _ _ _)) | walk1)) | ((((fail_if_success (with_reducible show wpAny _ _ (compareOp _ (Value.ref _) (Value.ref _)) _ _ _)); (fail_if_success (with_reducible show wpAny _ _ (call (Value.ref _) _) _ _ _)); (fail_if_success (with_reducible show wpAny _ _ (exec (Stmt.Assign [Expr.Name _ _] (Expr.ListComp _ _ _ _) _) _) _ _ _)); (fail_if_success (with_reducible show wpAny _ _ (eval (Expr.ListComp _ _ _ _) _) _ _ _)))); (((fail_if_success (with_reducible show wpAny _ _ (exec (Stmt.While _ _ _ _) _) _ _ _)); (fail_if_success (with_reducible show wpAny _ _ (exec (Stmt.For _ _ _ _ _) _) _ _ _)))); dsimp only)))
      rename Fr _ _ _ _ => F50
      rename News _ _ _ _ => N50
      have lk := vm_links hv1 hv2 hv3 (by (first | lia | omega)) (by (first | lia | omega))
      refine ne_ints_my (vs := [.int _ _, .int _ _, .int _ _]) (ws := [.int _ _, .int _ _, .int _ _]) N50 (by ((repeat (first | (with_reducible assumption) | exact List.mem_cons_self | (refine List.mem_cons_of_mem _ ?_))))) (by ((repeat (first | (with_reducible assumption) | exact List.mem_cons_self | (refine List.mem_cons_of_mem _ ?_))))) (.cons _ _ (.cons _ _ (.cons _ _ .nil))) (.cons _ _ (.cons _ _ (.cons _ _ .nil))) (by show 4 + 3 + 64 < cLine; decide +kernel) ?_
      rw [decide_eq_true (by rw [lk.1, lk.2.1, lk.2.2])]
      obtain ⟨m50, F51⟩ : ∃ m50, Fr _ _ _ (ovr [(Str.ofString "marks", .ref D), (Str.ofString "whole", .ref a3)] m50) := ⟨_, fr_ovr F50 (by ((repeat (first | exact List.forall_mem_nil _ | (refine List.forall_mem_cons.mpr ⟨by with_unfolding_all rfl, ?_⟩)))))⟩
      clear F50
      have N51 : News _ _ _ ((a3, W.listOf (vals d3 kd3).toArray ep3) :: nw3) := News.sub N50 fun q hq => by ((repeat (first | (with_reducible assumption) | exact List.mem_cons_self | (refine List.mem_cons_of_mem _ ?_))))
      (repeat' (first | (k_unfold; (try dsimp only)) | (k_end; wrow_close) | ((((fail_if_success (with_reducible show wpAny _ _ (compareOp _ (Value.ref _) (Value.ref _)) _ _ _)); (fail_if_success (with_reducible show wpAny _ _ (call (Value.ref _) _) _ _ _)); (fail_if_success (with_reducible show wpAny _ _ (exec (Stmt.Assign [Expr.Name _ _] (Expr.ListComp _ _ _ _) _) _) _ _ _)); (fail_if_success (with_reducible show wpAny _ _ (eval (Expr.ListComp _ _ _ _) _) _ _ _)))); (((fail_if_success (with_reducible show wpAny _ _ (exec (Stmt.While _ _ _ _) _) _ _ _)); (fail_if_success (with_reducible show wpAny _ _ (exec (Stmt.For _ _ _ _ _) _) _ _ _)))); (first | with_reducible (k_here; (with_reducible show wpAny _ _ (call (Value.type "int") _) _ _ _); (k_here; (refine' int_num_my ?ye ?ya ?yb ?_); (case ye => with_reducible assumption); (case ya => with_reducible assumption); (case yb => with_reducible assumption))) | with_reducible (k_here; (with_reducible show wpAny _ _ (call (Value.builtin "len") [Value.ref _]) _ _ _); (refine' len_my ?yN ?ya ?yz ?_); (case yN => k_asm); (case ya => ((repeat (first | (with_reducible assumption) | exact List.mem_cons_self | (refine List.mem_cons_of_mem _ ?_))))); (case yz => (first | lia | omega))) | with_reducible (k_here; (with_reducible show wpAny _ _ (binaryOp _ (Value.ref _) (Value.int _ _)) _ _ _); (refine' mul_my ?yF ?yN ?ya ?yx ?yz ?_); (case yF => k_asm); (case yN => k_asm); (case ya => ((repeat (first | (with_reducible assumption) | exact List.mem_cons_self | (refine List.mem_cons_of_mem _ ?_))))); (case yx => rfl); (case yz => (first | lia | omega)); intro _ _ _ _ _) | with_reducible (k_here; (with_reducible show wpAny _ _ (subscriptTail _ _ (Value.ref _) (Value.ref _)) _ _ _); (k_here; (refine' slice_my ?yF ?yN ?yl ?yp ?yq ?yz ?_ ?ys ?yt); (case yF => k_asm); (case yN => k_asm); (case yl => ((repeat (first | (with_reducible assumption) | exact List.mem_cons_self | (refine List.mem_cons_of_mem _ ?_))))); (case yp => kmk_part); (case yq => kmk_part); (case yz => simp only [vals_length]; (first | lia | omega)); (case ys => with_unfolding_all rfl); (case yt => kmk_pure); intro _ _ _ _ _)) | with_reducible (k_here; (with_reducible show wpAny _ _ (binaryOp _ (Value.ref _) (Value.ref _)) _ _ _); (refine' add_my ?yF ?yN ?ya ?yb ?yz ?_); (case yF => k_asm); (case yN => k_asm); (case ya => ((repeat (first | (with_reducible assumption) | exact List.mem_cons_self | (refine List.mem_cons_of_mem _ ?_))))); (case yb => ((repeat (first | (with_reducible assumption) | exact List.mem_cons_self | (refine List.mem_cons_of_mem _ ?_))))); (case yz => (first | lia | omega)); intro _ _ _ _ _) | with_reducible (k_here; (with_reducible show wpAny _ _ (call (Value.builtin "sum") [Value.ref _]) _ _ _); k_dflt (refine' sum_my ?yk0 ?yk1 ?yk2 ?yk3 ?_); (case yk0 => with_unfolding_all rfl); (case yk1 => k_asm); (case yk2 => k_asm); (case yk3 => with_reducible assumption); intro _ _ _ _ _ _) | (k_here; (with_reducible show wpAny _ _ (subscriptTail _ _ (Value.ref _) (Value.ref _)) _ _ _); (k_here; (with_reducible show wpAny _ _ (subscriptTail _ (PySem.Expr.Slice _ _ (some _) _) (Value.ref _) (Value.ref _)) _ _ _); k_dflt (refine' slice3_my ?yF ?yN ?yl ?yi ?yp ?yq ?yk ?yo ?yz ?_ ?ys ?yt); (case yF => k_asm); (case yN => k_asm); (case yl => kmk_list); (case yi => l_ints); (case yp => kmk_part); (case yq => kmk_part); (case yk => kmk_part); (case yo => decide); (case yz => first | (first | lia | omega) | (simp only [List.length_map] at *; (first | lia | omega))); (case ys => with_unfolding_all rfl); (case yt => kmk_pure); intro _ _ _ _ _ _ _ _)) | walk1)) | ((((fail_if_success (with_reducible show wpAny _ _ (compareOp _ (Value.ref _) (Value.ref _)) _ _ _)); (fail_if_success (with_reducible show wpAny _ _ (call (Value.ref _) _) _ _ _)); (fail_if_success (with_reducible show wpAny _ _ (exec (Stmt.Assign [Expr.Name _ _] (Expr.ListComp _ _ _ _) _) _) _ _ _)); (fail_if_success (with_reducible show wpAny _ _ (eval (Expr.ListComp _ _ _ _) _) _ _ _)))); (((fail_if_success (with_reducible show wpAny _ _ (exec (Stmt.While _ _ _ _) _) _ _ _)); (fail_if_success (with_reducible show wpAny _ _ (exec (Stmt.For _ _ _ _ _) _) _ _ _)))); dsimp only)))
      refine gen_my (P := fun s' => wpAny _ _ _ _ _ s') hgs8 hos8 F51 N51 ?_
      clear F51 N51
      intro s10 hgs9 hos9 F52 N52
      (repeat' (first | (k_unfold; (try dsimp only)) | (k_end; wrow_close) | ((((fail_if_success (with_reducible show wpAny _ _ (compareOp _ (Value.ref _) (Value.ref _)) _ _ _)); (fail_if_success (with_reducible show wpAny _ _ (call (Value.ref _) _) _ _ _)); (fail_if_success (with_reducible show wpAny _ _ (exec (Stmt.Assign [Expr.Name _ _] (Expr.ListComp _ _ _ _) _) _) _ _ _)); (fail_if_success (with_reducible show wpAny _ _ (eval (Expr.ListComp _ _ _ _) _) _ _ _)))); (((fail_if_success (with_reducible show wpAny _ _ (exec (Stmt.While _ _ _ _) _) _ _ _)); (fail_if_success (with_reducible show wpAny _ _ (exec (Stmt.For _ _ _ _ _) _) _ _ _)))); (first | with_reducible (k_here; (with_reducible show wpAny _ _ (call (Value.type "int") _) _ _ _); (k_here; (refine' int_num_my ?ye ?ya ?yb ?_); (case ye => with_reducible assumption); (case ya => with_reducible assumption); (case yb => with_reducible assumption))) | with_reducible (k_here; (with_reducible show wpAny _ _ (call (Value.builtin "len") [Value.ref _]) _ _ _); (refine' len_my ?yN ?ya ?yz ?_); (case yN => k_asm); (case ya => ((repeat (first | (with_reducible assumption) | exact List.mem_cons_self | (refine List.mem_cons_of_mem _ ?_))))); (case yz => (first | lia | omega))) | with_reducible (k_here; (with_reducible show wpAny _ _ (binaryOp _ (Value.ref _) (Value.int _ _)) _ _ _); (refine' mul_my ?yF ?yN ?ya ?yx ?yz ?_); (case yF => k_asm); (case yN => k_asm); (case ya => ((repeat (first | (with_reducible assumption) | exact List.mem_cons_self | (refine List.mem_cons_of_mem _ ?_))))); (case yx => rfl); (case yz => (first | lia | omega)); intro _ _ _ _ _) | with_reducible (k_here; (with_reducible show wpAny _ _ (subscriptTail _ _ (Value.ref _) (Value.ref _)) _ _ _); (k_here; (refine' slice_my ?yF ?yN ?yl ?yp ?yq ?yz ?_ ?ys ?yt); (case yF => k_asm); (case yN => k_asm); (case yl => ((repeat (first | (with_reducible assumption) | exact List.mem_cons_self | (refine List.mem_cons_of_mem _ ?_))))); (case yp => kmk_part); (case yq => kmk_part); (case yz => simp only [vals_length]; (first | lia | omega)); (case ys => with_unfolding_all rfl); (case yt => kmk_pure); intro _ _ _ _ _)) | with_reducible (k_here; (with_reducible show wpAny _ _ (binaryOp _ (Value.ref _) (Value.ref _)) _ _ _); (refine' add_my ?yF ?yN ?ya ?yb ?yz ?_); (case yF => k_asm); (case yN => k_asm); (case ya => ((repeat (first | (with_reducible assumption) | exact List.mem_cons_self | (refine List.mem_cons_of_mem _ ?_))))); (case yb => ((repeat (first | (with_reducible assumption) | exact List.mem_cons_self | (refine List.mem_cons_of_mem _ ?_))))); (case yz => (first | lia | omega)); intro _ _ _ _ _) | with_reducible (k_here; (with_reducible show wpAny _ _ (call (Value.builtin "sum") [Value.ref _]) _ _ _); k_dflt (refine' sum_my ?yk0 ?yk1 ?yk2 ?yk3 ?_); (case yk0 => with_unfolding_all rfl); (case yk1 => k_asm); (case yk2 => k_asm); (case yk3 => with_reducible assumption); intro _ _ _ _ _ _) | (k_here; (with_reducible show wpAny _ _ (subscriptTail _ _ (Value.ref _) (Value.ref _)) _ _ _); (k_here; (with_reducible show wpAny _ _ (subscriptTail _ (PySem.Expr.Slice _ _ (some _) _) (Value.ref _) (Value.ref _)) _ _ _); k_dflt (refine' slice3_my ?yF ?yN ?yl ?yi ?yp ?yq ?yk ?yo ?yz ?_ ?ys ?yt); (case yF => k_asm); (case yN => k_asm); (case yl => kmk_list); (case yi => l_ints); (case yp => kmk_part); (case yq => kmk_part); (case yk => kmk_part); (case yo => decide); (case yz => first | (first | lia | omega) | (simp only [List.length_map] at *; (first | lia | omega))); (case ys => with_unfolding_all rfl); (case yt => kmk_pure); intro _ _ _ _ _ _ _ _)) | walk1)) | ((((fail_if_success (with_reducible show wpAny _ _ (compareOp _ (Value.ref _) (Value.ref _)) _ _ _)); (fail_if_success (with_reducible show wpAny _ _ (call (Value.ref _) _) _ _ _)); (fail_if_success (with_reducible show wpAny _ _ (exec (Stmt.Assign [Expr.Name _ _] (Expr.ListComp _ _ _ _) _) _) _ _ _)); (fail_if_success (with_reducible show wpAny _ _ (eval (Expr.ListComp _ _ _ _) _) _ _ _)))); (((fail_if_success (with_reducible show wpAny _ _ (exec (Stmt.While _ _ _ _) _) _ _ _)); (fail_if_success (with_reducible show wpAny _ _ (exec (Stmt.For _ _ _ _ _) _) _ _ _)))); dsimp only)))
      refine ListComp2 F52 (by with_unfolding_all rfl) (by with_unfolding_all rfl) (by decide) (by rfl) (by decide) (by rfl) (by rfl) (by rfl) (by rfl) (by decide) (by decide) (by decide) (by decide) ?_ (by intro _; with_unfolding_all rfl)
      (repeat' (first | (k_unfold; (try dsimp only)) | (k_end; wrow_close) | ((((fail_if_success (with_reducible show wpAny _ _ (compareOp _ (Value.ref _) (Value.ref _)) _ _ _)); (fail_if_success (with_reducible show wpAny _ _ (call (Value.ref _) _) _ _ _)); (fail_if_success (with_reducible show wpAny _ _ (exec (Stmt.Assign [Expr.Name _ _] (Expr.ListComp _ _ _ _) _) _) _ _ _)); (fail_if_success (with_reducible show wpAny _ _ (eval (Expr.ListComp _ _ _ _) _) _ _ _)))); (((fail_if_success (with_reducible show wpAny _ _ (exec (Stmt.While _ _ _ _) _) _ _ _)); (fail_if_success (with_reducible show wpAny _ _ (exec (Stmt.For _ _ _ _ _) _) _ _ _)))); (first | with_reducible (k_here; (with_reducible show wpAny _ _ (call (Value.type "int") _) _ _ _); (k_here; (refine' int_num_my ?ye ?ya ?yb ?_); (case ye => with_reducible assumption); (case ya => with_reducible assumption); (case yb => with_reducible assumption))) | with_reducible (k_here; (with_reducible show wpAny _ _ (call (Value.builtin "len") [Value.ref _]) _ _ _); (refine' len_my ?yN ?ya ?yz ?_); (case yN => k_asm); (case ya => ((repeat (first | (with_reducible assumption) | exact List.mem_cons_self | (refine List.mem_cons_of_mem _ ?_))))); (case yz => (first | lia | omega))) | with_reducible (k_here; (with_reducible show wpAny _ _ (binaryOp _ (Value.ref _) (Value.int _ _)) _ _ _); (refine' mul_my ?yF ?yN ?ya ?yx ?yz ?_); (case yF => k_asm); (case yN => k_asm); (case ya => ((repeat (first | (with_reducible assumption) | exact List.mem_cons_self | (refine List.mem_cons_of_mem _ ?_))))); (case yx => rfl); (case yz => (first | lia | omega)); intro _ _ _ _ _) | with_reducible (k_here; (with_reducible show wpAny _ _ (subscriptTail _ _ (Value.ref _) (Value.ref _)) _ _ _); (k_here; (refine' slice_my ?yF ?yN ?yl ?yp ?yq ?yz ?_ ?ys ?yt); (case yF => k_asm); (case yN => k_asm); (case yl => ((repeat (first | (with_reducible assumption) | exact List.mem_cons_self | (refine List.mem_cons_of_mem _ ?_))))); (case yp => kmk_part); (case yq => kmk_part); (case yz => simp only [vals_length]; (first | lia | omega)); (case ys => with_unfolding_all rfl); (case yt => kmk_pure); intro _ _ _ _ _)) | with_reducible (k_here; (with_reducible show wpAny _ _ (binaryOp _ (Value.ref _) (Value.ref _)) _ _ _); (refine' add_my ?yF ?yN ?ya ?yb ?yz ?_); (case yF => k_asm); (case yN => k_asm); (case ya => ((repeat (first | (with_reducible assumption) | exact List.mem_cons_self | (refine List.mem_cons_of_mem _ ?_))))); (case yb => ((repeat (first | (with_reducible assumption) | exact List.mem_cons_self | (refine List.mem_cons_of_mem _ ?_))))); (case yz => (first | lia | omega)); intro _ _ _ _ _) | with_reducible (k_here; (with_reducible show wpAny _ _ (call (Value.builtin "sum") [Value.ref _]) _ _ _); k_dflt (refine' sum_my ?yk0 ?yk1 ?yk2 ?yk3 ?_); (case yk0 => with_unfolding_all rfl); (case yk1 => k_asm); (case yk2 => k_asm); (case yk3 => with_reducible assumption); intro _ _ _ _ _ _) | (k_here; (with_reducible show wpAny _ _ (subscriptTail _ _ (Value.ref _) (Value.ref _)) _ _ _); (k_here; (with_reducible show wpAny _ _ (subscriptTail _ (PySem.Expr.Slice _ _ (some _) _) (Value.ref _) (Value.ref _)) _ _ _); k_dflt (refine' slice3_my ?yF ?yN ?yl ?yi ?yp ?yq ?yk ?yo ?yz ?_ ?ys ?yt); (case yF => k_asm); (case yN => k_asm); (case yl => kmk_list); (case yi => l_ints); (case yp => kmk_part); (case yq => kmk_part); (case yk => kmk_part); (case yo => decide); (case yz => first | (first | lia | omega) | (simp only [List.length_map] at *; (first | lia | omega))); (case ys => with_unfolding_all rfl); (case yt => kmk_pure); intro _ _ _ _ _ _ _ _)) | walk1)) | ((((fail_if_success (with_reducible show wpAny _ _ (compareOp _ (Value.ref _) (Value.ref _)) _ _ _)); (fail_if_success (with_reducible show wpAny _ _ (call (Value.ref _) _) _ _ _)); (fail_if_success (with_reducible show wpAny _ _ (exec (Stmt.Assign [Expr.Name _ _] (Expr.ListComp _ _ _ _) _) _) _ _ _)); (fail_if_success (with_reducible show wpAny _ _ (eval (Expr.ListComp _ _ _ _) _) _ _ _)))); (((fail_if_success (with_reducible show wpAny _ _ (exec (Stmt.While _ _ _ _) _) _ _ _)); (fail_if_success (with_reducible show wpAny _ _ (exec (Stmt.For _ _ _ _ _) _) _ _ _)))); dsimp only)))
      refine ⟨a3, d3, kd3, ep3, _, FJ d3 kd3, FK d3 kd3, rfl, List.mem_cons_self, fun i hi => (tr3.isin i hi).mono fun q hq => List.mem_cons_of_mem _ hq, F52, N52, fj_nil _ _, fk_zero, fk_all, fk_len (vm_few hv3), fun i hi => ?_, ?_, ?_⟩
      · have := (vm_tree hv3 i hi).1.few; (first | lia | omega)
      · intro C D' i j q tq ys' s11 oC m₂ RR hRR hi hq hK hn hx F53 N53
        have pqA := path_fact hv3 hi hq
        have pq1 := pqA.1
        have pq2 := pqA.2.1
        have pq3 := pqA.2.2.1
        have pq4 := pqA.2.2.2
        clear pqA
        (repeat' (first | (k_unfold; (try dsimp only)) | (k_end; wrow_close) | ((((fail_if_success (with_reducible show wpAny _ _ (compareOp _ (Value.ref _) (Value.ref _)) _ _ _)); (fail_if_success (with_reducible show wpAny _ _ (call (Value.ref _) _) _ _ _)); (fail_if_success (with_reducible show wpAny _ _ (exec (Stmt.Assign [Expr.Name _ _] (Expr.ListComp _ _ _ _) _) _) _ _ _)); (fail_if_success (with_reducible show wpAny _ _ (eval (Expr.ListComp _ _ _ _) _) _ _ _)))); (((fail_if_success (with_reducible show wpAny _ _ (exec (Stmt.While _ _ _ _) _) _ _ _)); (fail_if_success (with_reducible show wpAny _ _ (exec (Stmt.For _ _ _ _ _) _) _ _ _)))); (first | with_reducible (k_here; (with_reducible show wpAny _ _ (call (Value.type "int") _) _ _ _); (k_here; (refine' int_num_my ?ye ?ya ?yb ?_); (case ye => with_reducible assumption); (case ya => with_reducible assumption); (case yb => with_reducible assumption))) | with_reducible (k_here; (with_reducible show wpAny _ _ (call (Value.builtin "len") [Value.ref _]) _ _ _); (refine' len_my ?yN ?ya ?yz ?_); (case yN => k_asm); (case ya => ((repeat (first | (with_reducible assumption) | exact List.mem_cons_self | (refine List.mem_cons_of_mem _ ?_))))); (case yz => (first | lia | omega))) | with_reducible (k_here; (with_reducible show wpAny _ _ (binaryOp _ (Value.ref _) (Value.int _ _)) _ _ _); (refine' mul_my ?yF ?yN ?ya ?yx ?yz ?_); (case yF => k_asm); (case yN => k_asm); (case ya => ((repeat (first | (with_reducible assumption) | exact List.mem_cons_self | (refine List.mem_cons_of_mem _ ?_))))); (case yx => rfl); (case yz => (first | lia | omega)); intro _ _ _ _ _) | with_reducible (k_here; (with_reducible show wpAny _ _ (subscriptTail _ _ (Value.ref _) (Value.ref _)) _ _ _); (k_here; (refine' slice_my ?yF ?yN ?yl ?yp ?yq ?yz ?_ ?ys ?yt); (case yF => k_asm); (case yN => k_asm); (case yl => ((repeat (first | (with_reducible assumption) | exact List.mem_cons_self | (refine List.mem_cons_of_mem _ ?_))))); (case yp => kmk_part); (case yq => kmk_part); (case yz => simp only [vals_length]; (first | lia | omega)); (case ys => with_unfolding_all rfl); (case yt => kmk_pure); intro _ _ _ _ _)) | with_reducible (k_here; (with_reducible show wpAny _ _ (binaryOp _ (Value.ref _) (Value.ref _)) _ _ _); (refine' add_my ?yF ?yN ?ya ?yb ?yz ?_); (case yF => k_asm); (case yN => k_asm); (case ya => ((repeat (first | (with_reducible assumption) | exact List.mem_cons_self | (refine List.mem_cons_of_mem _ ?_))))); (case yb => ((repeat (first | (with_reducible assumption) | exact List.mem_cons_self | (refine List.mem_cons_of_mem _ ?_))))); (case yz => (first | lia | omega)); intro _ _ _ _ _) | with_reducible (k_here; (with_reducible show wpAny _ _ (call (Value.builtin "sum") [Value.ref _]) _ _ _); k_dflt (refine' sum_my ?yk0 ?yk1 ?yk2 ?yk3 ?_); (case yk0 => with_unfolding_all rfl); (case yk1 => k_asm); (case yk2 => k_asm); (case yk3 => with_reducible assumption); intro _ _ _ _ _ _) | (k_here; (with_reducible show wpAny _ _ (subscriptTail _ _ (Value.ref _) (Value.ref _)) _ _ _); (k_here; (with_reducible show wpAny _ _ (subscriptTail _ (PySem.Expr.Slice _ _ (some _) _) (Value.ref _) (Value.ref _)) _ _ _); k_dflt (refine' slice3_my ?yF ?yN ?yl ?yi ?yp ?yq ?yk ?yo ?yz ?_ ?ys ?yt); (case yF => k_asm); (case yN => k_asm); (case yl => kmk_list); (case yi => l_ints); (case yp => kmk_part); (case yq => kmk_part); (case yk => kmk_part); (case yo => decide); (case yz => first | (first | lia | omega) | (simp only [List.length_map] at *; (first | lia | omega))); (case ys => with_unfolding_all rfl); (case yt => kmk_pure); intro _ _ _ _ _ _ _ _)) | walk1)) | ((((fail_if_success (with_reducible show wpAny _ _ (compareOp _ (Value.ref _) (Value.ref _)) _ _ _)); (fail_if_success (with_reducible show wpAny _ _ (call (Value.ref _) _) _ _ _)); (fail_if_success (with_reducible show wpAny _ _ (exec (Stmt.Assign [Expr.Name _ _] (Expr.ListComp _ _ _ _) _) _) _ _ _)); (fail_if_success (with_reducible show wpAny _ _ (eval (Expr.ListComp _ _ _ _) _) _ _ _)))); (((fail_if_success (with_reducible show wpAny _ _ (exec (Stmt.While _ _ _ _) _) _ _ _)); (fail_if_success (with_reducible show wpAny _ _ (exec (Stmt.For _ _ _ _ _) _) _ _ _)))); dsimp only)))
        refine base_spec ((room_law _).less (by decide)) X0 T0 F53 N53 pq1 ?_
        intro h54 tk54 tk54' F54 N54
        (repeat' (first | (k_unfold; (try dsimp only)) | (k_end; wrow_close) | ((((fail_if_success (with_reducible show wpAny _ _ (compareOp _ (Value.ref _) (Value.ref _)) _ _ _)); (fail_if_success (with_reducible show wpAny _ _ (call (Value.ref _) _) _ _ _)); (fail_if_success (with_reducible show wpAny _ _ (exec (Stmt.Assign [Expr.Name _ _] (Expr.ListComp _ _ _ _) _) _) _ _ _)); (fail_if_success (with_reducible show wpAny _ _ (eval (Expr.ListComp _ _ _ _) _) _ _ _)))); (((fail_if_success (with_reducible show wpAny _ _ (exec (Stmt.While _ _ _ _) _) _ _ _)); (fail_if_success (with_reducible show wpAny _ _ (exec (Stmt.For _ _ _ _ _) _) _ _ _)))); (first | with_reducible (k_here; (with_reducible show wpAny _ _ (call (Value.type "int") _) _ _ _); (k_here; (refine' int_num_my ?ye ?ya ?yb ?_); (case ye => with_reducible assumption); (case ya => with_reducible assumption); (case yb => with_reducible assumption))) | with_reducible (k_here; (with_reducible show wpAny _ _ (call (Value.builtin "len") [Value.ref _]) _ _ _); (refine' len_my ?yN ?ya ?yz ?_); (case yN => k_asm); (case ya => ((repeat (first | (with_reducible assumption) | exact List.mem_cons_self | (refine List.mem_cons_of_mem _ ?_))))); (case yz => (first | lia | omega))) | with_reducible (k_here; (with_reducible show wpAny _ _ (binaryOp _ (Value.ref _) (Value.int _ _)) _ _ _); (refine' mul_my ?yF ?yN ?ya ?yx ?yz ?_); (case yF => k_asm); (case yN => k_asm); (case ya => ((repeat (first | (with_reducible assumption) | exact List.mem_cons_self | (refine List.mem_cons_of_mem _ ?_))))); (case yx => rfl); (case yz => (first | lia | omega)); intro _ _ _ _ _) | with_reducible (k_here; (with_reducible show wpAny _ _ (subscriptTail _ _ (Value.ref _) (Value.ref _)) _ _ _); (k_here; (refine' slice_my ?yF ?yN ?yl ?yp ?yq ?yz ?_ ?ys ?yt); (case yF => k_asm); (case yN => k_asm); (case yl => ((repeat (first | (with_reducible assumption) | exact List.mem_cons_self | (refine List.mem_cons_of_mem _ ?_))))); (case yp => kmk_part); (case yq => kmk_part); (case yz => simp only [vals_length]; (first | lia | omega)); (case ys => with_unfolding_all rfl); (case yt => kmk_pure); intro _ _ _ _ _)) | with_reducible (k_here; (with_reducible show wpAny _ _ (binaryOp _ (Value.ref _) (Value.ref _)) _ _ _); (refine' add_my ?yF ?yN ?ya ?yb ?yz ?_); (case yF => k_asm); (case yN => k_asm); (case ya => ((repeat (first | (with_reducible assumption) | exact List.mem_cons_self | (refine List.mem_cons_of_mem _ ?_))))); (case yb => ((repeat (first | (with_reducible assumption) | exact List.mem_cons_self | (refine List.mem_cons_of_mem _ ?_))))); (case yz => (first | lia | omega)); intro _ _ _ _ _) | with_reducible (k_here; (with_reducible show wpAny _ _ (call (Value.builtin "sum") [Value.ref _]) _ _ _); k_dflt (refine' sum_my ?yk0 ?yk1 ?yk2 ?yk3 ?_); (case yk0 => with_unfolding_all rfl); (case yk1 => k_asm); (case yk2 => k_asm); (case yk3 => with_reducible assumption); intro _ _ _ _ _ _) | (k_here; (with_reducible show wpAny _ _ (subscriptTail _ _ (Value.ref _) (Value.ref _)) _ _ _); (k_here; (with_reducible show wpAny _ _ (subscriptTail _ (PySem.Expr.Slice _ _ (some _) _) (Value.ref _) (Value.ref _)) _ _ _); k_dflt (refine' slice3_my ?yF ?yN ?yl ?yi ?yp ?yq ?yk ?yo ?yz ?_ ?ys ?yt); (case yF => k_asm); (case yN => k_asm); (case yl => kmk_list); (case yi => l_ints); (case yp => kmk_part); (case yq => kmk_part); (case yk => kmk_part); (case yo => decide); (case yz => first | (first | lia | omega) | (simp only [List.length_map] at *; (first | lia | omega))); (case ys => with_unfolding_all rfl); (case yt => kmk_pure); intro _ _ _ _ _ _ _ _)) | walk1)) | ((((fail_if_success (with_reducible show wpAny _ _ (compareOp _ (Value.ref _) (Value.ref _)) _ _ _)); (fail_if_success (with_reducible show wpAny _ _ (call (Value.ref _) _) _ _ _)); (fail_if_success (with_reducible show wpAny _ _ (exec (Stmt.Assign [Expr.Name _ _] (Expr.ListComp _ _ _ _) _) _) _ _ _)); (fail_if_success (with_reducible show wpAny _ _ (eval (Expr.ListComp _ _ _ _) _) _ _ _)))); (((fail_if_success (with_reducible show wpAny _ _ (exec (Stmt.While _ _ _ _) _) _ _ _)); (fail_if_success (with_reducible show wpAny _ _ (exec (Stmt.For _ _ _ _ _) _) _ _ _)))); dsimp only)))
        exact ⟨_, _, rfl, F54, N54, fk_step hK hq (vm_tree hv3 i hi).1.few rfl⟩
      · intro ys' D' h53 tk53 hJ F53 N53 hD
        have hP := flat_perm hv3
        (repeat' (first | (k_unfold; (try dsimp only)) | (k_end; wrow_close) | ((((fail_if_success (with_reducible show wpAny _ _ (compareOp _ (Value.ref _) (Value.ref _)) _ _ _)); (fail_if_success (with_reducible show wpAny _ _ (call (Value.ref _) _) _ _ _)); (fail_if_success (with_reducible show wpAny _ _ (exec (Stmt.Assign [Expr.Name _ _] (Expr.ListComp _ _ _ _) _) _) _ _ _)); (fail_if_success (with_reducible show wpAny _ _ (eval (Expr.ListComp _ _ _ _) _) _ _ _)))); (((fail_if_success (with_reducible show wpAny _ _ (exec (Stmt.While _ _ _ _) _) _ _ _)); (fail_if_success (with_reducible show wpAny _ _ (exec (Stmt.For _ _ _ _ _) _) _ _ _)))); (first | with_reducible (k_here; (with_reducible show wpAny _ _ (call (Value.type "int") _) _ _ _); (k_here; (refine' int_num_my ?ye ?ya ?yb ?_); (case ye => with_reducible assumption); (case ya => with_reducible assumption); (case yb => with_reducible assumption))) | with_reducible (k_here; (with_reducible show wpAny _ _ (call (Value.builtin "len") [Value.ref _]) _ _ _); (refine' len_my ?yN ?ya ?yz ?_); (case yN => k_asm); (case ya => ((repeat (first | (with_reducible assumption) | exact List.mem_cons_self | (refine List.mem_cons_of_mem _ ?_))))); (case yz => (first | lia | omega))) | with_reducible (k_here; (with_reducible show wpAny _ _ (binaryOp _ (Value.ref _) (Value.int _ _)) _ _ _); (refine' mul_my ?yF ?yN ?ya ?yx ?yz ?_); (case yF => k_asm); (case yN => k_asm); (case ya => ((repeat (first | (with_reducible assumption) | exact List.mem_cons_self | (refine List.mem_cons_of_mem _ ?_))))); (case yx => rfl); (case yz => (first | lia | omega)); intro _ _ _ _ _) | with_reducible (k_here; (with_reducible show wpAny _ _ (subscriptTail _ _ (Value.ref _) (Value.ref _)) _ _ _); (k_here; (refine' slice_my ?yF ?yN ?yl ?yp ?yq ?yz ?_ ?ys ?yt); (case yF => k_asm); (case yN => k_asm); (case yl => ((repeat (first | (with_reducible assumption) | exact List.mem_cons_self | (refine List.mem_cons_of_mem _ ?_))))); (case yp => kmk_part); (case yq => kmk_part); (case yz => simp only [vals_length]; (first | lia | omega)); (case ys => with_unfolding_all rfl); (case yt => kmk_pure); intro _ _ _ _ _)) | with_reducible (k_here; (with_reducible show wpAny _ _ (binaryOp _ (Value.ref _) (Value.ref _)) _ _ _); (refine' add_my ?yF ?yN ?ya ?yb ?yz ?_); (case yF => k_asm); (case yN => k_asm); (case ya => ((repeat (first | (with_reducible assumption) | exact List.mem_cons_self | (refine List.mem_cons_of_mem _ ?_))))); (case yb => ((repeat (first | (with_reducible assumption) | exact List.mem_cons_self | (refine List.mem_cons_of_mem _ ?_))))); (case yz => (first | lia | omega)); intro _ _ _ _ _) | with_reducible (k_here; (with_reducible show wpAny _ _ (call (Value.builtin "sum") [Value.ref _]) _ _ _); k_dflt (refine' sum_my ?yk0 ?yk1 ?yk2 ?yk3 ?_); (case yk0 => with_unfolding_all rfl); (case yk1 => k_asm); (case yk2 => k_asm); (case yk3 => with_reducible assumption); intro _ _ _ _ _ _) | (k_here; (with_reducible show wpAny _ _ (subscriptTail _ _ (Value.ref _) (Value.ref _)) _ _ _); (k_here; (with_reducible show wpAny _ _ (subscriptTail _ (PySem.Expr.Slice _ _ (some _) _) (Value.ref _) (Value.ref _)) _ _ _); k_dflt (refine' slice3_my ?yF ?yN ?yl ?yi ?yp ?yq ?yk ?yo ?yz ?_ ?ys ?yt); (case yF => k_asm); (case yN => k_asm); (case yl => kmk_list); (case yi => l_ints); (case yp => kmk_part); (case yq => kmk_part); (case yk => kmk_part); (case yo => decide); (case yz => first | (first | lia | omega) | (simp only [List.length_map] at *; (first | lia | omega))); (case ys => with_unfolding_all rfl); (case yt => kmk_pure); intro _ _ _ _ _ _ _ _)) | walk1)) | ((((fail_if_success (with_reducible show wpAny _ _ (compareOp _ (Value.ref _) (Value.ref _)) _ _ _)); (fail_if_success (with_reducible show wpAny _ _ (call (Value.ref _) _) _ _ _)); (fail_if_success (with_reducible show wpAny _ _ (exec (Stmt.Assign [Expr.Name _ _] (Expr.ListComp _ _ _ _) _) _) _ _ _)); (fail_if_success (with_reducible show wpAny _ _ (eval (Expr.ListComp _ _ _ _) _) _ _ _)))); (((fail_if_success (with_reducible show wpAny _ _ (exec (Stmt.While _ _ _ _) _) _ _ _)); (fail_if_success (with_reducible show wpAny _ _ (exec (Stmt.For _ _ _ _ _) _) _ _ _)))); dsimp only)))
        rw [show LCg.lst ys' = W.listOf (List.toArray ys') ys'.length from rfl] at N53
        have hflen : (flat d3 kd3).length = n1 + n2 := by rw [hP.length_eq, marksOf_len]
        have hmD0 := hsub (D, W.listOf ys.toArray ys.length) List.mem_cons_self
        have hmD1 := sub1 (D, W.listOf ys.toArray ys.length) (by ((repeat (first | (with_reducible assumption) | exact List.mem_cons_self | (refine List.mem_cons_of_mem _ ?_)))))
        have hmD2 := sub2 (D, W.listOf ys.toArray ys.length) (by ((repeat (first | (with_reducible assumption) | exact List.mem_cons_self | (refine List.mem_cons_of_mem _ ?_)))))
        have hmD3 := sub3 (D, W.listOf ys.toArray ys.length) (by ((repeat (first | (with_reducible assumption) | exact List.mem_cons_self | (refine List.mem_cons_of_mem _ ?_)))))
        refine sorted_my F53 N53 List.mem_cons_self hJ.1 (by (first | lia | omega)) ?_
        intro D5 vs5 ns5 c5 h54 F54 N54 l54 i54 p54 o54
        (repeat' (first | (k_unfold; (try dsimp only)) | (k_end; wrow_close) | ((((fail_if_success (with_reducible show wpAny _ _ (compareOp _ (Value.ref _) (Value.ref _)) _ _ _)); (fail_if_success (with_reducible show wpAny _ _ (call (Value.ref _) _) _ _ _)); (fail_if_success (with_reducible show wpAny _ _ (exec (Stmt.Assign [Expr.Name _ _] (Expr.ListComp _ _ _ _) _) _) _ _ _)); (fail_if_success (with_reducible show wpAny _ _ (eval (Expr.ListComp _ _ _ _) _) _ _ _)))); (((fail_if_success (with_reducible show wpAny _ _ (exec (Stmt.While _ _ _ _) _) _ _ _)); (fail_if_success (with_reducible show wpAny _ _ (exec (Stmt.For _ _ _ _ _) _) _ _ _)))); (first | with_reducible (k_here; (with_reducible show wpAny _ _ (call (Value.type "int") _) _ _ _); (k_here; (refine' int_num_my ?ye ?ya ?yb ?_); (case ye => with_reducible assumption); (case ya => with_reducible assumption); (case yb => with_reducible assumption))) | with_reducible (k_here; (with_reducible show wpAny _ _ (call (Value.builtin "len") [Value.ref _]) _ _ _); (refine' len_my ?yN ?ya ?yz ?_); (case yN => k_asm); (case ya => ((repeat (first | (with_reducible assumption) | exact List.mem_cons_self | (refine List.mem_cons_of_mem _ ?_))))); (case yz => (first | lia | omega))) | with_reducible (k_here; (with_reducible show wpAny _ _ (binaryOp _ (Value.ref _) (Value.int _ _)) _ _ _); (refine' mul_my ?yF ?yN ?ya ?yx ?yz ?_); (case yF => k_asm); (case yN => k_asm); (case ya => ((repeat (first | (with_reducible assumption) | exact List.mem_cons_self | (refine List.mem_cons_of_mem _ ?_))))); (case yx => rfl); (case yz => (first | lia | omega)); intro _ _ _ _ _) | with_reducible (k_here; (with_reducible show wpAny _ _ (subscriptTail _ _ (Value.ref _) (Value.ref _)) _ _ _); (k_here; (refine' slice_my ?yF ?yN ?yl ?yp ?yq ?yz ?_ ?ys ?yt); (case yF => k_asm); (case yN => k_asm); (case yl => ((repeat (first | (with_reducible assumption) | exact List.mem_cons_self | (refine List.mem_cons_of_mem _ ?_))))); (case yp => kmk_part); (case yq => kmk_part); (case yz => simp only [vals_length]; (first | lia | omega)); (case ys => with_unfolding_all rfl); (case yt => kmk_pure); intro _ _ _ _ _)) | with_reducible (k_here; (with_reducible show wpAny _ _ (binaryOp _ (Value.ref _) (Value.ref _)) _ _ _); (refine' add_my ?yF ?yN ?ya ?yb ?yz ?_); (case yF => k_asm); (case yN => k_asm); (case ya => ((repeat (first | (with_reducible assumption) | exact List.mem_cons_self | (refine List.mem_cons_of_mem _ ?_))))); (case yb => ((repeat (first | (with_reducible assumption) | exact List.mem_cons_self | (refine List.mem_cons_of_mem _ ?_))))); (case yz => (first | lia | omega)); intro _ _ _ _ _) | with_reducible (k_here; (with_reducible show wpAny _ _ (call (Value.builtin "sum") [Value.ref _]) _ _ _); k_dflt (refine' sum_my ?yk0 ?yk1 ?yk2 ?yk3 ?_); (case yk0 => with_unfolding_all rfl); (case yk1 => k_asm); (case yk2 => k_asm); (case yk3 => with_reducible assumption); intro _ _ _ _ _ _) | (k_here; (with_reducible show wpAny _ _ (subscriptTail _ _ (Value.ref _) (Value.ref _)) _ _ _); (k_here; (with_reducible show wpAny _ _ (subscriptTail _ (PySem.Expr.Slice _ _ (some _) _) (Value.ref _) (Value.ref _)) _ _ _); k_dflt (refine' slice3_my ?yF ?yN ?yl ?yi ?yp ?yq ?yk ?yo ?yz ?_ ?ys ?yt); (case yF => k_asm); (case yN => k_asm); (case yl => kmk_list); (case yi => l_ints); (case yp => kmk_part); (case yq => kmk_part); (case yk => kmk_part); (case yo => decide); (case yz => first | (first | lia | omega) | (simp only [List.length_map] at *; (first | lia | omega))); (case ys => with_unfolding_all rfl); (case yt => kmk_pure); intro _ _ _ _ _ _ _ _)) | walk1)) | ((((fail_if_success (with_reducible show wpAny _ _ (compareOp _ (Value.ref _) (Value.ref _)) _ _ _)); (fail_if_success (with_reducible show wpAny _ _ (call (Value.ref _) _) _ _ _)); (fail_if_success (with_reducible show wpAny _ _ (exec (Stmt.Assign [Expr.Name _ _] (Expr.ListComp _ _ _ _) _) _) _ _ _)); (fail_if_success (with_reducible show wpAny _ _ (eval (Expr.ListComp _ _ _ _) _) _ _ _)))); (((fail_if_success (with_reducible show wpAny _ _ (exec (Stmt.While _ _ _ _) _) _ _ _)); (fail_if_success (with_reducible show wpAny _ _ (exec (Stmt.For _ _ _ _ _) _) _ _ _)))); dsimp only)))
        refine sorted_my F54 N54 (by ((repeat (first | (with_reducible assumption) | exact List.mem_cons_self | (refine List.mem_cons_of_mem _ ?_))))) hI4 (by rw [marksOf_len]; (first | lia | omega)) ?_
        intro D6 vs6 ns6 c6 h56 F56 N56 l56 i56 p56 o56
        have hsame : ns5 = ns6 := ints_sorted_same (p54.trans (hP.trans p56.symm)) o54 o56
        (repeat' (first | (k_unfold; (try dsimp only)) | (k_end; wrow_close) | ((((fail_if_success (with_reducible show wpAny _ _ (compareOp _ (Value.ref _) (Value.ref _)) _ _ _)); (fail_if_success (with_reducible show wpAny _ _ (call (Value.ref _) _) _ _ _)); (fail_if_success (with_reducible show wpAny _ _ (exec (Stmt.Assign [Expr.Name _ _] (Expr.ListComp _ _ _ _) _) _) _ _ _)); (fail_if_success (with_reducible show wpAny _ _ (eval (Expr.ListComp _ _ _ _) _) _ _ _)))); (((fail_if_success (with_reducible show wpAny _ _ (exec (Stmt.While _ _ _ _) _) _ _ _)); (fail_if_success (with_reducible show wpAny _ _ (exec (Stmt.For _ _ _ _ _) _) _ _ _)))); (first | with_reducible (k_here; (with_reducible show wpAny _ _ (call (Value.type "int") _) _ _ _); (k_here; (refine' int_num_my ?ye ?ya ?yb ?_); (case ye => with_reducible assumption); (case ya => with_reducible assumption); (case yb => with_reducible assumption))) | with_reducible (k_here; (with_reducible show wpAny _ _ (call (Value.builtin "len") [Value.ref _]) _ _ _); (refine' len_my ?yN ?ya ?yz ?_); (case yN => k_asm); (case ya => ((repeat (first | (with_reducible assumption) | exact List.mem_cons_self | (refine List.mem_cons_of_mem _ ?_))))); (case yz => (first | lia | omega))) | with_reducible (k_here; (with_reducible show wpAny _ _ (binaryOp _ (Value.ref _) (Value.int _ _)) _ _ _); (refine' mul_my ?yF ?yN ?ya ?yx ?yz ?_); (case yF => k_asm); (case yN => k_asm); (case ya => ((repeat (first | (with_reducible assumption) | exact List.mem_cons_self | (refine List.mem_cons_of_mem _ ?_))))); (case yx => rfl); (case yz => (first | lia | omega)); intro _ _ _ _ _) | with_reducible (k_here; (with_reducible show wpAny _ _ (subscriptTail _ _ (Value.ref _) (Value.ref _)) _ _ _); (k_here; (refine' slice_my ?yF ?yN ?yl ?yp ?yq ?yz ?_ ?ys ?yt); (case yF => k_asm); (case yN => k_asm); (case yl => ((repeat (first | (with_reducible assumption) | exact List.mem_cons_self | (refine List.mem_cons_of_mem _ ?_))))); (case yp => kmk_part); (case yq => kmk_part); (case yz => simp only [vals_length]; (first | lia | omega)); (case ys => with_unfolding_all rfl); (case yt => kmk_pure); intro _ _ _ _ _)) | with_reducible (k_here; (with_reducible show wpAny _ _ (binaryOp _ (Value.ref _) (Value.ref _)) _ _ _); (refine' add_my ?yF ?yN ?ya ?yb ?yz ?_); (case yF => k_asm); (case yN => k_asm); (case ya => ((repeat (first | (with_reducible assumption) | exact List.mem_cons_self | (refine List.mem_cons_of_mem _ ?_))))); (case yb => ((repeat (first | (with_reducible assumption) | exact List.mem_cons_self | (refine List.mem_cons_of_mem _ ?_))))); (case yz => (first | lia | omega)); intro _ _ _ _ _) | with_reducible (k_here; (with_reducible show wpAny _ _ (call (Value.builtin "sum") [Value.ref _]) _ _ _); k_dflt (refine' sum_my ?yk0 ?yk1 ?yk2 ?yk3 ?_); (case yk0 => with_unfolding_all rfl); (case yk1 => k_asm); (case yk2 => k_asm); (case yk3 => with_reducible assumption); intro _ _ _ _ _ _) | (k_here; (with_reducible show wpAny _ _ (subscriptTail _ _ (Value.ref _) (Value.ref _)) _ _ _); (k_here; (with_reducible show wpAny _ _ (subscriptTail _ (PySem.Expr.Slice _ _ (some _) _) (Value.ref _) (Value.ref _)) _ _ _); k_dflt (refine' slice3_my ?yF ?yN ?yl ?yi ?yp ?yq ?yk ?yo ?yz ?_ ?ys ?yt); (case yF => k_asm); (case yN => k_asm); (case yl => kmk_list); (case yi => l_ints); (case yp => kmk_part); (case yq => kmk_part); (case yk => kmk_part); (case yo => decide); (case yz => first | (first | lia | omega) | (simp only [List.length_map] at *; (first | lia | omega))); (case ys => with_unfolding_all rfl); (case yt => kmk_pure); intro _ _ _ _ _ _ _ _)) | walk1)) | ((((fail_if_success (with_reducible show wpAny _ _ (compareOp _ (Value.ref _) (Value.ref _)) _ _ _)); (fail_if_success (with_reducible show wpAny _ _ (call (Value.ref _) _) _ _ _)); (fail_if_success (with_reducible show wpAny _ _ (exec (Stmt.Assign [Expr.Name _ _] (Expr.ListComp _ _ _ _) _) _) _ _ _)); (fail_if_success (with_reducible show wpAny _ _ (eval (Expr.ListComp _ _ _ _) _) _ _ _)))); (((fail_if_success (with_reducible show wpAny _ _ (exec (Stmt.While _ _ _ _) _) _ _ _)); (fail_if_success (with_reducible show wpAny _ _ (exec (Stmt.For _ _ _ _ _) _) _ _ _)))); dsimp only)))
        refine ne_ints_my N56 (by ((repeat (first | (with_reducible assumption) | exact List.mem_cons_self | (refine List.mem_cons_of_mem _ ?_))))) (by ((repeat (first | (with_reducible assumption) | exact List.mem_cons_self | (refine List.mem_cons_of_mem _ ?_))))) i54 i56 (by show 4 + 3 + 64 < cLine; decide +kernel) ?_
        rw [decide_eq_true hsame]
        (repeat' (first | (k_unfold; (try dsimp only)) | (k_end; wrow_close) | ((((fail_if_success (with_reducible show wpAny _ _ (compareOp _ (Value.ref _) (Value.ref _)) _ _ _)); (fail_if_success (with_reducible show wpAny _ _ (call (Value.ref _) _) _ _ _)); (fail_if_success (with_reducible show wpAny _ _ (exec (Stmt.Assign [Expr.Name _ _] (Expr.ListComp _ _ _ _) _) _) _ _ _)); (fail_if_success (with_reducible show wpAny _ _ (eval (Expr.ListComp _ _ _ _) _) _ _ _)))); (((fail_if_success (with_reducible show wpAny _ _ (exec (Stmt.While _ _ _ _) _) _ _ _)); (fail_if_success (with_reducible show wpAny _ _ (exec (Stmt.For _ _ _ _ _) _) _ _ _)))); (first | with_reducible (k_here; (with_reducible show wpAny _ _ (call (Value.type "int") _) _ _ _); (k_here; (refine' int_num_my ?ye ?ya ?yb ?_); (case ye => with_reducible assumption); (case ya => with_reducible assumption); (case yb => with_reducible assumption))) | with_reducible (k_here; (with_reducible show wpAny _ _ (call (Value.builtin "len") [Value.ref _]) _ _ _); (refine' len_my ?yN ?ya ?yz ?_); (case yN => k_asm); (case ya => ((repeat (first | (with_reducible assumption) | exact List.mem_cons_self | (refine List.mem_cons_of_mem _ ?_))))); (case yz => (first | lia | omega))) | with_reducible (k_here; (with_reducible show wpAny _ _ (binaryOp _ (Value.ref _) (Value.int _ _)) _ _ _); (refine' mul_my ?yF ?yN ?ya ?yx ?yz ?_); (case yF => k_asm); (case yN => k_asm); (case ya => ((repeat (first | (with_reducible assumption) | exact List.mem_cons_self | (refine List.mem_cons_of_mem _ ?_))))); (case yx => rfl); (case yz => (first | lia | omega)); intro _ _ _ _ _) | with_reducible (k_here; (with_reducible show wpAny _ _ (subscriptTail _ _ (Value.ref _) (Value.ref _)) _ _ _); (k_here; (refine' slice_my ?yF ?yN ?yl ?yp ?yq ?yz ?_ ?ys ?yt); (case yF => k_asm); (case yN => k_asm); (case yl => ((repeat (first | (with_reducible assumption) | exact List.mem_cons_self | (refine List.mem_cons_of_mem _ ?_))))); (case yp => kmk_part); (case yq => kmk_part); (case yz => simp only [vals_length]; (first | lia | omega)); (case ys => with_unfolding_all rfl); (case yt => kmk_pure); intro _ _ _ _ _)) | with_reducible (k_here; (with_reducible show wpAny _ _ (binaryOp _ (Value.ref _) (Value.ref _)) _ _ _); (refine' add_my ?yF ?yN ?ya ?yb ?yz ?_); (case yF => k_asm); (case yN => k_asm); (case ya => ((repeat (first | (with_reducible assumption) | exact List.mem_cons_self | (refine List.mem_cons_of_mem _ ?_))))); (case yb => ((repeat (first | (with_reducible assumption) | exact List.mem_cons_self | (refine List.mem_cons_of_mem _ ?_))))); (case yz => (first | lia | omega)); intro _ _ _ _ _) | with_reducible (k_here; (with_reducible show wpAny _ _ (call (Value.builtin "sum") [Value.ref _]) _ _ _); k_dflt (refine' sum_my ?yk0 ?yk1 ?yk2 ?yk3 ?_); (case yk0 => with_unfolding_all rfl); (case yk1 => k_asm); (case yk2 => k_asm); (case yk3 => with_reducible assumption); intro _ _ _ _ _ _) | (k_here; (with_reducible show wpAny _ _ (subscriptTail _ _ (Value.ref _) (Value.ref _)) _ _ _); (k_here; (with_reducible show wpAny _ _ (subscriptTail _ (PySem.Expr.Slice _ _ (some _) _) (Value.ref _) (Value.ref _)) _ _ _); k_dflt (refine' slice3_my ?yF ?yN ?yl ?yi ?yp ?yq ?yk ?yo ?yz ?_ ?ys ?yt); (case yF => k_asm); (case yN => k_asm); (case yl => kmk_list); (case yi => l_ints); (case yp => kmk_part); (case yq => kmk_part); (case yk => kmk_part); (case yo => decide); (case yz => first | (first | lia | omega) | (simp only [List.length_map] at *; (first | lia | omega))); (case ys => with_unfolding_all rfl); (case yt => kmk_pure); intro _ _ _ _ _ _ _ _)) | walk1)) | ((((fail_if_success (with_reducible show wpAny _ _ (compareOp _ (Value.ref _) (Value.ref _)) _ _ _)); (fail_if_success (with_reducible show wpAny _ _ (call (Value.ref _) _) _ _ _)); (fail_if_success (with_reducible show wpAny _ _ (exec (Stmt.Assign [Expr.Name _ _] (Expr.ListComp _ _ _ _) _) _) _ _ _)); (fail_if_success (with_reducible show wpAny _ _ (eval (Expr.ListComp _ _ _ _) _) _ _ _)))); (((fail_if_success (with_reducible show wpAny _ _ (exec (Stmt.While _ _ _ _) _) _ _ _)); (fail_if_success (with_reducible show wpAny _ _ (exec (Stmt.For _ _ _ _ _) _) _ _ _)))); dsimp only)))
        refine ListComp_my (by k_asm) (by with_unfolding_all rfl) (CMade.plain (by decide) rfl) (by rfl) (by decide) ?_ (by intro _; with_unfolding_all rfl)
        (repeat' (first | (k_unfold; (try dsimp only)) | (k_end; wrow_close) | ((((fail_if_success (with_reducible show wpAny _ _ (compareOp _ (Value.ref _) (Value.ref _)) _ _ _)); (fail_if_success (with_reducible show wpAny _ _ (call (Value.ref _) _) _ _ _)); (fail_if_success (with_reducible show wpAny _ _ (exec (Stmt.Assign [Expr.Name _ _] (Expr.ListComp _ _ _ _) _) _) _ _ _)); (fail_if_success (with_reducible show wpAny _ _ (eval (Expr.ListComp _ _ _ _) _) _ _ _)))); (((fail_if_success (with_reducible show wpAny _ _ (exec (Stmt.While _ _ _ _) _) _ _ _)); (fail_if_success (with_reducible show wpAny _ _ (exec (Stmt.For _ _ _ _ _) _) _ _ _)))); (first | with_reducible (k_here; (with_reducible show wpAny _ _ (call (Value.type "int") _) _ _ _); (k_here; (refine' int_num_my ?ye ?ya ?yb ?_); (case ye => with_reducible assumption); (case ya => with_reducible assumption); (case yb => with_reducible assumption))) | with_reducible (k_here; (with_reducible show wpAny _ _ (call (Value.builtin "len") [Value.ref _]) _ _ _); (refine' len_my ?yN ?ya ?yz ?_); (case yN => k_asm); (case ya => ((repeat (first | (with_reducible assumption) | exact List.mem_cons_self | (refine List.mem_cons_of_mem _ ?_))))); (case yz => (first | lia | omega))) | with_reducible (k_here; (with_reducible show wpAny _ _ (binaryOp _ (Value.ref _) (Value.int _ _)) _ _ _); (refine' mul_my ?yF ?yN ?ya ?yx ?yz ?_); (case yF => k_asm); (case yN => k_asm); (case ya => ((repeat (first | (with_reducible assumption) | exact List.mem_cons_self | (refine List.mem_cons_of_mem _ ?_))))); (case yx => rfl); (case yz => (first | lia | omega)); intro _ _ _ _ _) | with_reducible (k_here; (with_reducible show wpAny _ _ (subscriptTail _ _ (Value.ref _) (Value.ref _)) _ _ _); (k_here; (refine' slice_my ?yF ?yN ?yl ?yp ?yq ?yz ?_ ?ys ?yt); (case yF => k_asm); (case yN => k_asm); (case yl => ((repeat (first | (with_reducible assumption) | exact List.mem_cons_self | (refine List.mem_cons_of_mem _ ?_))))); (case yp => kmk_part); (case yq => kmk_part); (case yz => simp only [vals_length]; (first | lia | omega)); (case ys => with_unfolding_all rfl); (case yt => kmk_pure); intro _ _ _ _ _)) | with_reducible (k_here; (with_reducible show wpAny _ _ (binaryOp _ (Value.ref _) (Value.ref _)) _ _ _); (refine' add_my ?yF ?yN ?ya ?yb ?yz ?_); (case yF => k_asm); (case yN => k_asm); (case ya => ((repeat (first | (with_reducible assumption) | exact List.mem_cons_self | (refine List.mem_cons_of_mem _ ?_))))); (case yb => ((repeat (first | (with_reducible assumption) | exact List.mem_cons_self | (refine List.mem_cons_of_mem _ ?_))))); (case yz => (first | lia | omega)); intro _ _ _ _ _) | with_reducible (k_here; (with_reducible show wpAny _ _ (call (Value.builtin "sum") [Value.ref _]) _ _ _); k_dflt (refine' sum_my ?yk0 ?yk1 ?yk2 ?yk3 ?_); (case yk0 => with_unfolding_all rfl); (case yk1 => k_asm); (case yk2 => k_asm); (case yk3 => with_reducible assumption); intro _ _ _ _ _ _) | (k_here; (with_reducible show wpAny _ _ (subscriptTail _ _ (Value.ref _) (Value.ref _)) _ _ _); (k_here; (with_reducible show wpAny _ _ (subscriptTail _ (PySem.Expr.Slice _ _ (some _) _) (Value.ref _) (Value.ref _)) _ _ _); k_dflt (refine' slice3_my ?yF ?yN ?yl ?yi ?yp ?yq ?yk ?yo ?yz ?_ ?ys ?yt); (case yF => k_asm); (case yN => k_asm); (case yl => kmk_list); (case yi => l_ints); (case yp => kmk_part); (case yq => kmk_part); (case yk => kmk_part); (case yo => decide); (case yz => first | (first | lia | omega) | (simp only [List.length_map] at *; (first | lia | omega))); (case ys => with_unfolding_all rfl); (case yt => kmk_pure); intro _ _ _ _ _ _ _ _)) | walk1)) | ((((fail_if_success (with_reducible show wpAny _ _ (compareOp _ (Value.ref _) (Value.ref _)) _ _ _)); (fail_if_success (with_reducible show wpAny _ _ (call (Value.ref _) _) _ _ _)); (fail_if_success (with_reducible show wpAny _ _ (exec (Stmt.Assign [Expr.Name _ _] (Expr.ListComp _ _ _ _) _) _) _ _ _)); (fail_if_success (with_reducible show wpAny _ _ (eval (Expr.ListComp _ _ _ _) _) _ _ _)))); (((fail_if_success (with_reducible show wpAny _ _ (exec (Stmt.While _ _ _ _) _) _ _ _)); (fail_if_success (with_reducible show wpAny _ _ (exec (Stmt.For _ _ _ _ _) _) _ _ _)))); dsimp only)))
        obtain ⟨NW, hNW⟩ : ∃ NW, NW = (D6, W.listOf vs6.toArray c6) :: (D5, W.listOf vs5.toArray c5) :: (D', W.listOf (List.toArray ys') ys'.length) :: (a3, W.listOf (vals d3 kd3).toArray ep3) :: nw3 := ⟨_, rfl⟩
        have hmw : (a3, W.listOf (vals d3 kd3).toArray ep3) ∈ NW := by rw [hNW]; ((repeat (first | (with_reducible assumption) | exact List.mem_cons_self | (refine List.mem_cons_of_mem _ ?_))))
        have hsw : ∀ q ∈ nw3, q ∈ NW := fun q hq => by rw [hNW]; ((repeat (first | (with_reducible assumption) | exact List.mem_cons_self | (refine List.mem_cons_of_mem _ ?_))))
        rw [← hNW] at N56
        clear hNW
        refine CSrc.list (vs := vals d3 kd3) (ep := ep3) (fun C i ys nw => nw = NW ∧ ys = List.replicate i (.bool true)) rfl F56 N56 (by rw [vals_length]; have := vm_few hv3; (first | lia | omega)) hmw (fun C i ys nw hj => by rw [hj.1]; exact hmw) (fun C _ => ⟨rfl, rfl⟩) ?_ ?_
        · rintro I C D7 i v ys nw h tk1 oI oC m₂ hi hv st ⟨rfl, hS⟩ off dist hn F57 N57
          rw [vals_length] at hi
          have hv' : v = (d3 i).1 := by
            have := hv; rw [vals, lst_get hi] at this; exact (Option.some.inj this).symm
          obtain ⟨a, t1, t2, la, q1, q2, its, e, hm1, hm2, hm3⟩ := tr3.isin i hi
          rw [e] at hv'
          subst hv'
          refine tup3 rfl (by rfl) (by rfl) (by rfl) (by rfl) (by decide) (by decide) (by decide) st.1 (hsw _ hm1) off dist hn F57 N57 ?_
          intro h58 tk58 oC3 m3 hn3 hx1 hx2 hx3 F58 N58
          have vt := vm_tree hv3 i hi
          have ok := vt.1
          have h5 := vt.2.1
          obtain ⟨P, G⟩ := vt.2.2
          clear vt
          have hrn : (d3 i).2.r = (((d3 i).2.r.toNat : Nat) : Int) := by have := ok.r0; (first | lia | omega)
          rw [hrn] at hx1
          (repeat' (first | (k_unfold; (try dsimp only)) | (k_end; wrow_close) | ((((fail_if_success (with_reducible show wpAny _ _ (compareOp _ (Value.ref _) (Value.ref _)) _ _ _)); (fail_if_success (with_reducible show wpAny _ _ (call (Value.ref _) _) _ _ _)); (fail_if_success (with_reducible show wpAny _ _ (exec (Stmt.Assign [Expr.Name _ _] (Expr.ListComp _ _ _ _) _) _) _ _ _)); (fail_if_success (with_reducible show wpAny _ _ (eval (Expr.ListComp _ _ _ _) _) _ _ _)))); (((fail_if_success (with_reducible show wpAny _ _ (exec (Stmt.While _ _ _ _) _) _ _ _)); (fail_if_success (with_reducible show wpAny _ _ (exec (Stmt.For _ _ _ _ _) _) _ _ _)))); (first | with_reducible (k_here; (with_reducible show wpAny _ _ (call (Value.type "int") _) _ _ _); (k_here; (refine' int_num_my ?ye ?ya ?yb ?_); (case ye => with_reducible assumption); (case ya => with_reducible assumption); (case yb => with_reducible assumption))) | with_reducible (k_here; (with_reducible show wpAny _ _ (call (Value.builtin "len") [Value.ref _]) _ _ _); (refine' len_my ?yN ?ya ?yz ?_); (case yN => k_asm); (case ya => ((repeat (first | (with_reducible assumption) | exact List.mem_cons_self | (refine List.mem_cons_of_mem _ ?_))))); (case yz => (first | lia | omega))) | with_reducible (k_here; (with_reducible show wpAny _ _ (binaryOp _ (Value.ref _) (Value.int _ _)) _ _ _); (refine' mul_my ?yF ?yN ?ya ?yx ?yz ?_); (case yF => k_asm); (case yN => k_asm); (case ya => ((repeat (first | (with_reducible assumption) | exact List.mem_cons_self | (refine List.mem_cons_of_mem _ ?_))))); (case yx => rfl); (case yz => (first | lia | omega)); intro _ _ _ _ _) | with_reducible (k_here; (with_reducible show wpAny _ _ (subscriptTail _ _ (Value.ref _) (Value.ref _)) _ _ _); (k_here; (refine' slice_my ?yF ?yN ?yl ?yp ?yq ?yz ?_ ?ys ?yt); (case yF => k_asm); (case yN => k_asm); (case yl => ((repeat (first | (with_reducible assumption) | exact List.mem_cons_self | (refine List.mem_cons_of_mem _ ?_))))); (case yp => kmk_part); (case yq => kmk_part); (case yz => simp only [vals_length]; (first | lia | omega)); (case ys => with_unfolding_all rfl); (case yt => kmk_pure); intro _ _ _ _ _)) | with_reducible (k_here; (with_reducible show wpAny _ _ (binaryOp _ (Value.ref _) (Value.ref _)) _ _ _); (refine' add_my ?yF ?yN ?ya ?yb ?yz ?_); (case yF => k_asm); (case yN => k_asm); (case ya => ((repeat (first | (with_reducible assumption) | exact List.mem_cons_self | (refine List.mem_cons_of_mem _ ?_))))); (case yb => ((repeat (first | (with_reducible assumption) | exact List.mem_cons_self | (refine List.mem_cons_of_mem _ ?_))))); (case yz => (first | lia | omega)); intro _ _ _ _ _) | with_reducible (k_here; (with_reducible show wpAny _ _ (call (Value.builtin "sum") [Value.ref _]) _ _ _); k_dflt (refine' sum_my ?yk0 ?yk1 ?yk2 ?yk3 ?_); (case yk0 => with_unfolding_all rfl); (case yk1 => k_asm); (case yk2 => k_asm); (case yk3 => with_reducible assumption); intro _ _ _ _ _ _) | (k_here; (with_reducible show wpAny _ _ (subscriptTail _ _ (Value.ref _) (Value.ref _)) _ _ _); (k_here; (with_reducible show wpAny _ _ (subscriptTail _ (PySem.Expr.Slice _ _ (some _) _) (Value.ref _) (Value.ref _)) _ _ _); k_dflt (refine' slice3_my ?yF ?yN ?yl ?yi ?yp ?yq ?yk ?yo ?yz ?_ ?ys ?yt); (case yF => k_asm); (case yN => k_asm); (case yl => kmk_list); (case yi => l_ints); (case yp => kmk_part); (case yq => kmk_part); (case yk => kmk_part); (case yo => decide); (case yz => first | (first | lia | omega) | (simp only [List.length_map] at *; (first | lia | omega))); (case ys => with_unfolding_all rfl); (case yt => kmk_pure); intro _ _ _ _ _ _ _ _)) | walk1)) | ((((fail_if_success (with_reducible show wpAny _ _ (compareOp _ (Value.ref _) (Value.ref _)) _ _ _)); (fail_if_success (with_reducible show wpAny _ _ (call (Value.ref _) _) _ _ _)); (fail_if_success (with_reducible show wpAny _ _ (exec (Stmt.Assign [Expr.Name _ _] (Expr.ListComp _ _ _ _) _) _) _ _ _)); (fail_if_success (with_reducible show wpAny _ _ (eval (Expr.ListComp _ _ _ _) _) _ _ _)))); (((fail_if_success (with_reducible show wpAny _ _ (exec (Stmt.While _ _ _ _) _) _ _ _)); (fail_if_success (with_reducible show wpAny _ _ (exec (Stmt.For _ _ _ _ _) _) _ _ _)))); dsimp only)))
          refine grown_spec ((room_law _).less (by decide)) X0 T0 F58 N58 (by have := ok.r0; (first | lia | omega)) ok.t0 ok.t1 (List.mem_cons_of_mem _ (List.mem_cons_of_mem _ (List.mem_cons_of_mem _ (hsw _ hm2)))) hm3 ok.few (good_cnt G) (good_path G h5) ?_
          intro h59 tk59 F59 N59
          refine CEnd.intro hn3 F59 N59 off ⟨rfl, ?_⟩
          rw [hS, List.replicate_succ']
        · rintro h9 C ys nw ⟨rfl, hS⟩ D7 h tk9 F57 N57 hD7
          rw [vals_length] at hS
          rw [show LCg.lst ys = W.listOf (List.toArray ys) ys.length from rfl] at N57
          have hk5 := vm_few hv3
          (repeat' (first | (k_unfold; (try dsimp only)) | (k_end; wrow_close) | ((((fail_if_success (with_reducible show wpAny _ _ (compareOp _ (Value.ref _) (Value.ref _)) _ _ _)); (fail_if_success (with_reducible show wpAny _ _ (call (Value.ref _) _) _ _ _)); (fail_if_success (with_reducible show wpAny _ _ (exec (Stmt.Assign [Expr.Name _ _] (Expr.ListComp _ _ _ _) _) _) _ _ _)); (fail_if_success (with_reducible show wpAny _ _ (eval (Expr.ListComp _ _ _ _) _) _ _ _)))); (((fail_if_success (with_reducible show wpAny _ _ (exec (Stmt.While _ _ _ _) _) _ _ _)); (fail_if_success (with_reducible show wpAny _ _ (exec (Stmt.For _ _ _ _ _) _) _ _ _)))); (first | with_reducible (k_here; (with_reducible show wpAny _ _ (call (Value.type "int") _) _ _ _); (k_here; (refine' int_num_my ?ye ?ya ?yb ?_); (case ye => with_reducible assumption); (case ya => with_reducible assumption); (case yb => with_reducible assumption))) | with_reducible (k_here; (with_reducible show wpAny _ _ (call (Value.builtin "len") [Value.ref _]) _ _ _); (refine' len_my ?yN ?ya ?yz ?_); (case yN => k_asm); (case ya => ((repeat (first | (with_reducible assumption) | exact List.mem_cons_self | (refine List.mem_cons_of_mem _ ?_))))); (case yz => (first | lia | omega))) | with_reducible (k_here; (with_reducible show wpAny _ _ (binaryOp _ (Value.ref _) (Value.int _ _)) _ _ _); (refine' mul_my ?yF ?yN ?ya ?yx ?yz ?_); (case yF => k_asm); (case yN => k_asm); (case ya => ((repeat (first | (with_reducible assumption) | exact List.mem_cons_self | (refine List.mem_cons_of_mem _ ?_))))); (case yx => rfl); (case yz => (first | lia | omega)); intro _ _ _ _ _) | with_reducible (k_here; (with_reducible show wpAny _ _ (subscriptTail _ _ (Value.ref _) (Value.ref _)) _ _ _); (k_here; (refine' slice_my ?yF ?yN ?yl ?yp ?yq ?yz ?_ ?ys ?yt); (case yF => k_asm); (case yN => k_asm); (case yl => ((repeat (first | (with_reducible assumption) | exact List.mem_cons_self | (refine List.mem_cons_of_mem _ ?_))))); (case yp => kmk_part); (case yq => kmk_part); (case yz => simp only [vals_length]; (first | lia | omega)); (case ys => with_unfolding_all rfl); (case yt => kmk_pure); intro _ _ _ _ _)) | with_reducible (k_here; (with_reducible show wpAny _ _ (binaryOp _ (Value.ref _) (Value.ref _)) _ _ _); (refine' add_my ?yF ?yN ?ya ?yb ?yz ?_); (case yF => k_asm); (case yN => k_asm); (case ya => ((repeat (first | (with_reducible assumption) | exact List.mem_cons_self | (refine List.mem_cons_of_mem _ ?_))))); (case yb => ((repeat (first | (with_reducible assumption) | exact List.mem_cons_self | (refine List.mem_cons_of_mem _ ?_))))); (case yz => (first | lia | omega)); intro _ _ _ _ _) | with_reducible (k_here; (with_reducible show wpAny _ _ (call (Value.builtin "sum") [Value.ref _]) _ _ _); k_dflt (refine' sum_my ?yk0 ?yk1 ?yk2 ?yk3 ?_); (case yk0 => with_unfolding_all rfl); (case yk1 => k_asm); (case yk2 => k_asm); (case yk3 => with_reducible assumption); intro _ _ _ _ _ _) | (k_here; (with_reducible show wpAny _ _ (subscriptTail _ _ (Value.ref _) (Value.ref _)) _ _ _); (k_here; (with_reducible show wpAny _ _ (subscriptTail _ (PySem.Expr.Slice _ _ (some _) _) (Value.ref _) (Value.ref _)) _ _ _); k_dflt (refine' slice3_my ?yF ?yN ?yl ?yi ?yp ?yq ?yk ?yo ?yz ?_ ?ys ?yt); (case yF => k_asm); (case yN => k_asm); (case yl => kmk_list); (case yi => l_ints); (case yp => kmk_part); (case yq => kmk_part); (case yk => kmk_part); (case yo => decide); (case yz => first | (first | lia | omega) | (simp only [List.length_map] at *; (first | lia | omega))); (case ys => with_unfolding_all rfl); (case yt => kmk_pure); intro _ _ _ _ _ _ _ _)) | walk1)) | ((((fail_if_success (with_reducible show wpAny _ _ (compareOp _ (Value.ref _) (Value.ref _)) _ _ _)); (fail_if_success (with_reducible show wpAny _ _ (call (Value.ref _) _) _ _ _)); (fail_if_success (with_reducible show wpAny _ _ (exec (Stmt.Assign [Expr.Name _ _] (Expr.ListComp _ _ _ _) _) _) _ _ _)); (fail_if_success (with_reducible show wpAny _ _ (eval (Expr.ListComp _ _ _ _) _) _ _ _)))); (((fail_if_success (with_reducible show wpAny _ _ (exec (Stmt.While _ _ _ _) _) _ _ _)); (fail_if_success (with_reducible show wpAny _ _ (exec (Stmt.For _ _ _ _ _) _) _ _ _)))); dsimp only)))
          rename Fr _ _ _ _ => F61
          rename News _ _ _ _ => N61
          refine eq_bools_same (n := kd3) N61 (List.mem_cons_of_mem _ (List.mem_cons_of_mem _ List.mem_cons_self)) List.mem_cons_self hS rfl (by show 4 + 3 < cLine; decide +kernel) ?_
          repeat' (first | (k_unfold; (try dsimp only)) | ((((fail_if_success (with_reducible show wpAny _ _ (compareOp _ (Value.ref _) (Value.ref _)) _ _ _)); (fail_if_success (with_reducible show wpAny _ _ (call (Value.ref _) _) _ _ _)); (fail_if_success (with_reducible show wpAny _ _ (exec (Stmt.Assign [Expr.Name _ _] (Expr.ListComp _ _ _ _) _) _) _ _ _)); (fail_if_success (with_reducible show wpAny _ _ (eval (Expr.ListComp _ _ _ _) _) _ _ _)))); (((fail_if_success (with_reducible show wpAny _ _ (exec (Stmt.While _ _ _ _) _) _ _ _)); (fail_if_success (with_reducible show wpAny _ _ (exec (Stmt.For _ _ _ _ _) _) _ _ _)))); k_here; (first | with_reducible (k_here; (with_reducible show wpAny _ _ (call (Value.type "int") _) _ _ _); (k_here; (refine' int_num_my ?ye ?ya ?yb ?_); (case ye => with_reducible assumption); (case ya => with_reducible assumption); (case yb => with_reducible assumption))) | with_reducible (k_here; (with_reducible show wpAny _ _ (call (Value.builtin "len") [Value.ref _]) _ _ _); (refine' len_my ?yN ?ya ?yz ?_); (case yN => k_asm); (case ya => ((repeat (first | (with_reducible assumption) | exact List.mem_cons_self | (refine List.mem_cons_of_mem _ ?_))))); (case yz => (first | lia | omega))) | with_reducible (k_here; (with_reducible show wpAny _ _ (binaryOp _ (Value.ref _) (Value.int _ _)) _ _ _); (refine' mul_my ?yF ?yN ?ya ?yx ?yz ?_); (case yF => k_asm); (case yN => k_asm); (case ya => ((repeat (first | (with_reducible assumption) | exact List.mem_cons_self | (refine List.mem_cons_of_mem _ ?_))))); (case yx => rfl); (case yz => (first | lia | omega)); intro _ _ _ _ _) | with_reducible (k_here; (with_reducible show wpAny _ _ (subscriptTail _ _ (Value.ref _) (Value.ref _)) _ _ _); (k_here; (refine' slice_my ?yF ?yN ?yl ?yp ?yq ?yz ?_ ?ys ?yt); (case yF => k_asm); (case yN => k_asm); (case yl => ((repeat (first | (with_reducible assumption) | exact List.mem_cons_self | (refine List.mem_cons_of_mem _ ?_))))); (case yp => kmk_part); (case yq => kmk_part); (case yz => simp only [vals_length]; (first | lia | omega)); (case ys => with_unfolding_all rfl); (case yt => kmk_pure); intro _ _ _ _ _)) | with_reducible (k_here; (with_reducible show wpAny _ _ (binaryOp _ (Value.ref _) (Value.ref _)) _ _ _); (refine' add_my ?yF ?yN ?ya ?yb ?yz ?_); (case yF => k_asm); (case yN => k_asm); (case ya => ((repeat (first | (with_reducible assumption) | exact List.mem_cons_self | (refine List.mem_cons_of_mem _ ?_))))); (case yb => ((repeat (first | (with_reducible assumption) | exact List.mem_cons_self | (refine List.mem_cons_of_mem _ ?_))))); (case yz => (first | lia | omega)); intro _ _ _ _ _) | with_reducible (k_here; (with_reducible show wpAny _ _ (call (Value.builtin "sum") [Value.ref _]) _ _ _); k_dflt (refine' sum_my ?yk0 ?yk1 ?yk2 ?yk3 ?_); (case yk0 => with_unfolding_all rfl); (case yk1 => k_asm); (case yk2 => k_asm); (case yk3 => with_reducible assumption); intro _ _ _ _ _ _) | (k_here; (with_reducible show wpAny _ _ (subscriptTail _ _ (Value.ref _) (Value.ref _)) _ _ _); (k_here; (with_reducible show wpAny _ _ (subscriptTail _ (PySem.Expr.Slice _ _ (some _) _) (Value.ref _) (Value.ref _)) _ _ _); k_dflt (refine' slice3_my ?yF ?yN ?yl ?yi ?yp ?yq ?yk ?yo ?yz ?_ ?ys ?yt); (case yF => k_asm); (case yN => k_asm); (case yl => kmk_list); (case yi => l_ints); (case yp => kmk_part); (case yq => kmk_part); (case yk => kmk_part); (case yo => decide); (case yz => first | (first | lia | omega) | (simp only [List.length_map] at *; (first | lia | omega))); (case ys => with_unfolding_all rfl); (case yt => kmk_pure); intro _ _ _ _ _ _ _ _)) | walk1)))
          exact goodW_bool F61 hgs9 (law_raises _) (law_post _) hos9)
end
end
end Mine
theorem PySem.Challenge.cw_ik0182_01_holds : PySem.Challenge.rw_ik0182_01.Holds :=
  Mine.fin
