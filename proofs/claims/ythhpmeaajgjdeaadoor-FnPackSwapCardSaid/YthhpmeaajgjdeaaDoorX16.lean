/- sha256: a round of the schedule whose index is below sixteen. -/
import Derived.Test.YthhpmeaajgjdeaaDoorX15

set_option linter.unusedVariables false
set_option linter.unusedSimpArgs false

/- Oc: sha256: the inner round where the word is read (printed by sha.py). -/
namespace Go.Proofs.YthhpmeaajgjdeaaDoor
open Go Go.RowKit

set_option maxHeartbeats 8000000 in
set_option maxRecDepth 1000000 in
theorem caseA (K : Nat → Int) (b o m cp q i : Nat) (r : S8) (V : Nat → Int) (y0 y1 y2 y3 : Int) (c0 c2 c3 c5 c6 c7 c8 c9 c10 c11 c12 c29 c30 c31 c32 c33 c34 c35 c36 c37 c38 c39 c40 c41 c42 c43 c44 c45 c46 c47 c48 c49 c50 c51 c52 c53 c54 c55 c56 c57 c58 c59 c60 c61 c62 c63 c64 c65 c66 c67 c68 c69 c70 c71 c72 c73 c74 c75 c76 c77 c78 c79 c217 c218 c219 c220 c221 c222 c223 c224 c225 c226 c227 c228 c229 c230 c231 c232 c233 c234 c235 c236 c237 c238 c239 c240 c241 c242 c243 c244 c245 c246 c247 c248 c249 c250 c251 c252 c253 c254 c255 c256 c257 c258 c259 c260 c261 c262 c263 c264 c265 c266 c267 c268 c269 c270 c271 c272 c273 c274 c275 c276 c277 c278 c279 c280 c281 c282 : Value) (u21 u22 u23 u24 u25 u26 u27 u28 u81 u82 u83 u84 u85 u86 u87 u88 u89 u90 u91 u92 u93 u94 u95 u96 u97 u98 u99 u100 u101 u102 u103 u104 u105 u106 u107 u108 u109 u110 u111 u112 u113 u114 u115 u116 u117 u118 u119 u120 u121 u122 u123 u124 u125 u126 u127 u128 u129 u130 u131 u132 u133 u134 u135 u136 u137 u138 u139 u140 u141 u142 u143 u144 u145 u146 u147 u148 u149 u150 u151 u152 u153 u154 u155 u156 u157 u158 u159 u160 u161 u162 u163 u164 u165 u166 u167 u168 u169 u170 u171 u172 u173 u174 u175 u176 u177 u178 u179 u180 u181 u182 u183 u184 u185 u186 u187 u188 u189 u190 u191 u192 u193 u194 u195 u196 u197 u198 u199 u200 u201 u202 u203 u204 u205 u206 u207 u208 u209 u210 u211 u212 u213 u214 u215 u216 : Value) (wr : World) (Q : Exit → Act → World → Prop)
    (hi16 : i < 16) (hV : WAt wr q V) (kc : wr.cell? ⟨7, i, none⟩ = some (.int .u32 (K i))) (hbq : ¬ b = q) (h7q : ¬ 7 = q) (hm : i * 4 + 3 < m) (hcp : m ≤ cp) (hcp2 : cp ≤ 9223372036854775807)
    (k0 : wr.cell? ⟨b, o + i * 4, none⟩ = some (.int .u8 y0)) (k1 : wr.cell? ⟨b, o + (i * 4 + 1), none⟩ = some (.int .u8 y1)) (k2 : wr.cell? ⟨b, o + (i * 4 + 2), none⟩ = some (.int .u8 y2)) (k3 : wr.cell? ⟨b, o + (i * 4 + 3), none⟩ = some (.int .u8 y3))
    (hQ : ∀ (v21 v22 v23 v24 v25 v26 v27 v28 v81 v82 v83 v84 v85 v86 v87 v88 v89 v90 v91 v92 v93 v94 v95 v96 v97 v98 v99 v100 v101 v102 v103 v104 v105 v106 v107 v108 v109 v110 v111 v112 v113 v114 v115 v116 v117 v118 v119 v120 v121 v122 v123 v124 v125 v126 v127 v128 v129 v130 v131 v132 v133 v134 v135 v136 v137 v138 v139 v140 v141 v142 v143 v144 v145 v146 v147 v148 v149 v150 v151 v152 v153 v154 v155 v156 v157 v158 v159 v160 v161 v162 v163 v164 v165 v166 v167 v168 v169 v170 v171 v172 v173 v174 v175 v176 v177 v178 v179 v180 v181 v182 v183 v184 v185 v186 v187 v188 v189 v190 v191 v192 v193 v194 v195 v196 v197 v198 v199 v200 v201 v202 v203 v204 v205 v206 v207 v208 v209 v210 v211 v212 v213 v214 v215 v216 : Value) (w'' : World), WAt w'' q (upd V i (wordI y0 y1 y2 y3)) → Keeps (fun k => k = q) wr w'' → Q .normal ⟨#[c0, (.slice (some ⟨b, o, none⟩) m cp), c2, c3, .pointer (some ⟨q, 0, none⟩), c5, c6, c7, c8, c9, c10, c11, c12, .int .u32 (stepS K r i (wordI y0 y1 y2 y3)).a, .int .u32 (stepS K r i (wordI y0 y1 y2 y3)).b, .int .u32 (stepS K r i (wordI y0 y1 y2 y3)).c, .int .u32 (stepS K r i (wordI y0 y1 y2 y3)).d, .int .u32 (stepS K r i (wordI y0 y1 y2 y3)).e, .int .u32 (stepS K r i (wordI y0 y1 y2 y3)).f, .int .u32 (stepS K r i (wordI y0 y1 y2 y3)).g, .int .u32 (stepS K r i (wordI y0 y1 y2 y3)).h, v21, v22, v23, v24, v25, v26, v27, v28, c29, c30, c31, c32, c33, c34, c35, c36, c37, c38, c39, c40, c41, c42, c43, c44, c45, c46, c47, c48, c49, c50, c51, c52, c53, c54, c55, c56, c57, c58, c59, c60, c61, c62, c63, c64, c65, c66, c67, c68, c69, c70, c71, c72, c73, c74, c75, c76, c77, c78, c79, .int .i64 ((i : Int) + 1), v81, v82, v83, v84, v85, v86, v87, v88, v89, v90, v91, v92, v93, v94, v95, v96, v97, v98, v99, v100, v101, v102, v103, v104, v105, v106, v107, v108, v109, v110, v111, v112, v113, v114, v115, v116, v117, v118, v119, v120, v121, v122, v123, v124, v125, v126, v127, v128, v129, v130, v131, v132, v133, v134, v135, v136, v137, v138, v139, v140, v141, v142, v143, v144, v145, v146, v147, v148, v149, v150, v151, v152, v153, v154, v155, v156, v157, v158, v159, v160, v161, v162, v163, v164, v165, v166, v167, v168, v169, v170, v171, v172, v173, v174, v175, v176, v177, v178, v179, v180, v181, v182, v183, v184, v185, v186, v187, v188, v189, v190, v191, v192, v193, v194, v195, v196, v197, v198, v199, v200, v201, v202, v203, v204, v205, v206, v207, v208, v209, v210, v211, v212, v213, v214, v215, v216, c217, c218, c219, c220, c221, c222, c223, c224, c225, c226, c227, c228, c229, c230, c231, c232, c233, c234, c235, c236, c237, c238, c239, c240, c241, c242, c243, c244, c245, c246, c247, c248, c249, c250, c251, c252, c253, c254, c255, c256, c257, c258, c259, c260, c261, c262, c263, c264, c265, c266, c267, c268, c269, c270, c271, c272, c273, c274, c275, c276, c277, c278, c279, c280, c281, c282], []⟩ w'') :
    Code.wp Tryd.prog body2 Q ⟨#[c0, (.slice (some ⟨b, o, none⟩) m cp), c2, c3, .pointer (some ⟨q, 0, none⟩), c5, c6, c7, c8, c9, c10, c11, c12, .int .u32 r.a, .int .u32 r.b, .int .u32 r.c, .int .u32 r.d, .int .u32 r.e, .int .u32 r.f, .int .u32 r.g, .int .u32 r.h, u21, u22, u23, u24, u25, u26, u27, u28, c29, c30, c31, c32, c33, c34, c35, c36, c37, c38, c39, c40, c41, c42, c43, c44, c45, c46, c47, c48, c49, c50, c51, c52, c53, c54, c55, c56, c57, c58, c59, c60, c61, c62, c63, c64, c65, c66, c67, c68, c69, c70, c71, c72, c73, c74, c75, c76, c77, c78, c79, .int .i64 i, u81, u82, u83, u84, u85, u86, u87, u88, u89, u90, u91, u92, u93, u94, u95, u96, u97, u98, u99, u100, u101, u102, u103, u104, u105, u106, u107, u108, u109, u110, u111, u112, u113, u114, u115, u116, u117, u118, u119, u120, u121, u122, u123, u124, u125, u126, u127, u128, u129, u130, u131, u132, u133, u134, u135, u136, u137, u138, u139, u140, u141, u142, u143, u144, u145, u146, u147, u148, u149, u150, u151, u152, u153, u154, u155, u156, u157, u158, u159, u160, u161, u162, u163, u164, u165, u166, u167, u168, u169, u170, u171, u172, u173, u174, u175, u176, u177, u178, u179, u180, u181, u182, u183, u184, u185, u186, u187, u188, u189, u190, u191, u192, u193, u194, u195, u196, u197, u198, u199, u200, u201, u202, u203, u204, u205, u206, u207, u208, u209, u210, u211, u212, u213, u214, u215, u216, c217, c218, c219, c220, c221, c222, c223, c224, c225, c226, c227, c228, c229, c230, c231, c232, c233, c234, c235, c236, c237, c238, c239, c240, c241, c242, c243, c244, c245, c246, c247, c248, c249, c250, c251, c252, c253, c254, c255, c256, c257, c258, c259, c260, c261, c262, c263, c264, c265, c266, c267, c268, c269, c270, c271, c272, c273, c274, c275, c276, c277, c278, c279, c280, c281, c282], []⟩ wr := by
  have hbq' := Ne.symm hbq
  have h7q' := Ne.symm h7q
  have hi16i : (i : Int) < 16 := by omega
  have kV := hV.cell i (by omega)
  have kF := hV.frozen i
  have b00 : (0 : Int) ≤ (i : Int) * 4 := by omega
  have b0 : (i : Int) * 4 < (m : Int) := by omega
  have b1 : (i : Int) * 4 + 1 < (m : Int) := by omega
  have b2 : (i : Int) * 4 + 2 < (m : Int) := by omega
  have b3 : (i : Int) * 4 + 3 < (m : Int) := by omega
  have b01 : (0 : Int) ≤ (i : Int) * 4 + 1 := by omega
  have b02 : (0 : Int) ≤ (i : Int) * 4 + 2 := by omega
  have b03 : (0 : Int) ≤ (i : Int) * 4 + 3 := by omega
  have wr1 : IntKind.i64.wrap ((i : Int) * 4 + 1) = (i : Int) * 4 + 1 := by rw [IntKind.wrap_i64]; omega
  have wr2 : IntKind.i64.wrap ((i : Int) * 4 + 2) = (i : Int) * 4 + 2 := by rw [IntKind.wrap_i64]; omega
  have wr3 : IntKind.i64.wrap ((i : Int) * 4 + 3) = (i : Int) * 4 + 3 := by rw [IntKind.wrap_i64]; omega
  have tn0 : ((i : Int) * 4).toNat = i * 4 := by omega
  have tn1 : ((i : Int) * 4 + 1).toNat = i * 4 + 1 := by omega
  have tn2 : ((i : Int) * 4 + 2).toNat = i * 4 + 2 := by omega
  have tn3 : ((i : Int) * 4 + 3).toNat = i * 4 + 3 := by omega
  have bi : (i : Int) < 64 := by omega
  have HV := Lib.hid hV
  clear hV
  conv => arg 2; whnf
  go_wp2
  go_region_held3 (fun W => W.cell? ⟨b, o + i * 4, none⟩ = some (.int .u8 y0) ∧ W.cell? ⟨b, o + (i * 4 + 1), none⟩ = some (.int .u8 y1) ∧ W.cell? ⟨b, o + (i * 4 + 2), none⟩ = some (.int .u8 y2) ∧ W.cell? ⟨b, o + (i * 4 + 3), none⟩ = some (.int .u8 y3))
    (first | exact ⟨k0, k1, k2, k3⟩ | go_keep) (first | fail)
  have hW := HV.out.set i (bits .or .u32 (bits .or .u32 (bits .or .u32 (IntKind.u32.wrap (IntKind.u32.wrap y0 * 16777216)) (IntKind.u32.wrap (IntKind.u32.wrap y1 * 65536))) (IntKind.u32.wrap (IntKind.u32.wrap y2 * 256))) (IntKind.u32.wrap y3))
  have vi := hW.cell i (by omega)
  simp only [upd, if_true] at vi
  have hkd : Keeps (fun k => k = q) wr (wr.setCell ⟨q, i, none⟩ (.int .u32 (bits .or .u32 (bits .or .u32 (bits .or .u32 (IntKind.u32.wrap (IntKind.u32.wrap y0 * 16777216)) (IntKind.u32.wrap (IntKind.u32.wrap y1 * 65536))) (IntKind.u32.wrap (IntKind.u32.wrap y2 * 256))) (IntKind.u32.wrap y3)))).drew := ((Keeps.refl (fun k => k = q) wr).setCell (p := ⟨q, i, none⟩) (by exact Or.inl rfl) _).drew
  replace kc := hkd.cell kc h7q
  generalize hv : bits BinOp.or IntKind.u32 (bits .or .u32 (bits .or .u32 (IntKind.u32.wrap (IntKind.u32.wrap y0 * 16777216)) (IntKind.u32.wrap (IntKind.u32.wrap y1 * 65536))) (IntKind.u32.wrap (IntKind.u32.wrap y2 * 256))) (IntKind.u32.wrap y3) = v at *
  generalize hW2 : (wr.setCell ⟨q, i, none⟩ (.int .u32 v)).drew = w2 at *
  replace vi : w2.cell? ⟨q, i, none⟩ = some (.int .u32 v) := by rw [← hW2]; exact vi
  have hWW : Hid (WAt w2 q (upd V i v)) := by rw [← hW2]; exact ⟨hW.blk, hW.cell⟩
  have HKD := Lib.hid hkd
  clear hW2 hkd hW HV k0 k1 k2 k3 kV kF b00 b0 b1 b2 b3 b01 b02 b03 wr1 wr2 wr3 tn0 tn1 tn2 tn3 hbq hbq' h7q h7q'
  have HQ := Lib.hid hQ
  clear hQ
  go_wp2
  go_quiet (first | (go_at_call 110; refine Calls.quiet_of_same (rotAny _ _ (by decide) _)))
  go_wp2_with (go_at_call 110; refine (rotAny _ _ (by decide) _).mono ?_; rintro e w3 ⟨rfl, rfl⟩)
  subst hv
  exact HQ.out _ _ _ _ _ _ _ _ _ _ _ _ _ _ _ _ _ _ _ _ _ _ _ _ _ _ _ _ _ _ _ _ _ _ _ _ _ _ _ _ _ _ _ _ _ _ _ _ _ _ _ _ _ _ _ _ _ _ _ _ _ _ _ _ _ _ _ _ _ _ _ _ _ _ _ _ _ _ _ _ _ _ _ _ _ _ _ _ _ _ _ _ _ _ _ _ _ _ _ _ _ _ _ _ _ _ _ _ _ _ _ _ _ _ _ _ _ _ _ _ _ _ _ _ _ _ _ _ _ _ _ _ _ _ _ _ _ _ _ _ _ _ _ _ _ (by exact ⟨hWW.out.blk, hWW.out.cell⟩) (by exact HKD.out.drewN nq)

end Go.Proofs.YthhpmeaajgjdeaaDoor
