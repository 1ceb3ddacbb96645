/-
  The law 'FnSplitRowsGivesEachGroupItsRows' (function 3): SplitRows called, where it fails.
-/
import Derived.Test.Qxb6615609aFmtLaw3M
import Derived.Deep.DeepCutAuto
import Derived.Deep.RegionHeld3
import Derived.BigRegion
namespace Go.Proofs.Qxb6615609aFmt
open Go.RowKit Go.Extern.Stop Go.Stop Go.Extern

set_option maxRecDepth 100000 in
set_option maxHeartbeats 16000000 in
/-- .. where SplitRows hands back no split and an error. -/
theorem partD_fails (F : Interp) (w0 : World) (db nm : ByteArray) (nw rows : Nat) (ad : Option Addr) (nd cd : Nat) (ag : Option Addr) (ng cg : Nat) (w : World) (aw : Option Addr) (cw : Nat) (a20 : Option Addr) (c20 : Nat) (a21 : Option Addr) (c21 : Nat) (a23 : Option Addr) (c23 pn : Nat) (Hb : Hid (Below w0.heap.size w0 w)) (HF : Hid (F.answers w0.tape))
    (Hs : Hid (∀ wt, Below w.heap.size w wt → F.answers wt.tape → w.heap.size < wt.heap.size → wt.cell? ⟨w.heap.size, 4, none⟩ = some (.slice aw nw cw) → wt.cell? ⟨w.heap.size, 0, none⟩ = some (.string db) → wt.cell? ⟨w.heap.size, 1, none⟩ = some (.string nm) →
      Calls Tryf.prog 10 #[.pointer (some ⟨w.heap.size, 0, none⟩), .int .i64 rows, .slice ad nd cd, .slice ag ng cg] wt (SplitBad wt)))
    (K : Act → World → Prop) (c12 c13 c14 c15 c16 c17 c18 c19 c25 c26 c27 c28 c29 c30 c31 c32 c33 c42 c43 c44 c45 c46 c47 c48 c49 c50 c51 c52 c53 c54 c55 c56 c57 c58 c59 c60 c61 c62 c63 c64 c65 c66 c67 c68 c69 c70 c71 c72 c73 c74 c75 c76 c77 c78 c79 c80 c81 c82 c83 c84 c85 c86 c87 c88 c89 c90 c91 c92 c93 c94 c95 c96 c97 c98 c99 c100 c101 c102 c103 c104 c105 c106 c107 c108 c109 c110 c111 c112 c113 c114 c115 c116 c117 c118 c119 c120 c121 c122 c123 c124 c125 c126 c127 c128 c129 c130 c131 c132 c133 c134 c135 c136 c137 c138 c139 c140 c141 c142 c143 c144 c145 c146 c147 c148 c149 c150 c151 c152 c153 c154 c155 c156 c157 c158 c159 c160 c161 c162 c163 c164 c165 c166 c167 c168 c169 c170 c171 c172 c173 c174 c175 c176 c177 c178 c179 c180 c181 c182 c183 c184 c185 c186 c187 c188 c189 c190 c191 c192 c193 c194 c195 c196 c197 c198 c199 c200 c201 c202 c203 c204 c205 c206 c207 c208 c209 c210 c211 c212 c213 c214 c215 c216 c217 c218 c219 c220 c221 c222 c223 c224 c225 c226 c227 c228 c229 c230 c231 c232 c233 c234 c235 c236 c237 c238 c239 c240 c241 c242 c243 c244 c245 c246 c247 c248 c249 c250 c251 c252 c253 c254 c255 c256 c257 c258 c259 c260 c261 c262 c263 c264 c265 c266 c267 c268 c269 c270 c271 c272 c273 c274 c275 c276 c277 c278 c279 c280 c281 c282 c283 c284 c285 c286 c287 c288 c289 c290 c291 c292 c293 c294 c295 c296 c297 c298 c299 c300 c301 c302 c303 c304 c305 c306 c307 c308 c309 c310 c311 : Value) (hK : ∀ a w', Code.wp Tryf.prog (restOf 92 body3) (bodyPost Tryf.prog Tryf.f3 (Held w0)) a w' → K a w') : Code.wp Tryf.prog (stmtOf 92 body3) (Exit.then K (bodyPost Tryf.prog Tryf.f3 (Held w0))) ⟨#[.string db, .string nm, .slice aw nw cw, .int .i64 rows, .slice ad nd cd, .slice ag ng cg, undef, undef, undef, undef, undef, undef, c12, c13, c14, c15, c16, c17, c18, c19, .slice a20 nw c20, .slice a21 nd c21, .bool true, .slice a23 nd c23, .int .i64 pn, c25, c26, c27, c28, c29, c30, c31, c32, c33, undef, undef, undef, undef, undef, undef, undef, undef, c42, c43, c44, c45, c46, c47, c48, c49, c50, c51, c52, c53, c54, c55, c56, c57, c58, c59, c60, c61, c62, c63, c64, c65, c66, c67, c68, c69, c70, c71, c72, c73, c74, c75, c76, c77, c78, c79, c80, c81, c82, c83, c84, c85, c86, c87, c88, c89, c90, c91, c92, c93, c94, c95, c96, c97, c98, c99, c100, c101, c102, c103, c104, c105, c106, c107, c108, c109, c110, c111, c112, c113, c114, c115, c116, c117, c118, c119, c120, c121, c122, c123, c124, c125, c126, c127, c128, c129, c130, c131, c132, c133, c134, c135, c136, c137, c138, c139, c140, c141, c142, c143, c144, c145, c146, c147, c148, c149, c150, c151, c152, c153, c154, c155, c156, c157, c158, c159, c160, c161, c162, c163, c164, c165, c166, c167, c168, c169, c170, c171, c172, c173, c174, c175, c176, c177, c178, c179, c180, c181, c182, c183, c184, c185, c186, c187, c188, c189, c190, c191, c192, c193, c194, c195, c196, c197, c198, c199, c200, c201, c202, c203, c204, c205, c206, c207, c208, c209, c210, c211, c212, c213, c214, c215, c216, c217, c218, c219, c220, c221, c222, c223, c224, c225, c226, c227, c228, c229, c230, c231, c232, c233, c234, c235, c236, c237, c238, c239, c240, c241, c242, c243, c244, c245, c246, c247, c248, c249, c250, c251, c252, c253, c254, c255, c256, c257, c258, c259, c260, c261, c262, c263, c264, c265, c266, c267, c268, c269, c270, c271, c272, c273, c274, c275, c276, c277, c278, c279, c280, c281, c282, c283, c284, c285, c286, c287, c288, c289, c290, c291, c292, c293, c294, c295, c296, c297, c298, c299, c300, c301, c302, c303, c304, c305, c306, c307, c308, c309, c310, c311, undef, undef, undef, undef, undef, undef, undef, undef, undef, undef, undef, undef, undef, undef, undef, undef, undef, undef, undef, undef, undef, undef, undef, undef, undef, undef, undef, undef, undef, undef, undef, undef, undef, undef, undef, undef, undef, undef, undef, undef, undef, undef, undef, undef, undef, undef, undef, undef, undef, undef, undef, undef, undef, undef, undef, undef, undef, undef, undef, undef, undef, undef, undef, undef, undef, undef, undef, undef, undef, undef, undef, undef, undef, undef, undef, undef, undef, undef, undef, undef, undef, undef, undef, undef, undef, undef, undef, undef, undef, undef, undef, undef, undef, undef, undef, undef, undef, undef], []⟩ w := by
  conv => arg 2; whnf
  conv at hK => enter [a, w', 1, 2]; whnf
  go_wp2_with fail
  refine (table9x db nm aw nw cw w).mono ?_
  rintro e wt ⟨rfl, hbt, hst, hc4, hc0, hc1⟩
  have Hbt := hide hbt
  have Hc := hide (Hs.out wt hbt (by rw [hbt.tape, Hb.out.tape]; exact HF.out) (by omega) hc4 hc0 hc1)
  clear hbt hst hc4 hc0 hc1
  go_wp2_with fail
  refine Hc.out.mono ?_
  rintro e w5 ⟨ty, ad2, rfl, hb5⟩
  have Hb5 := hide hb5
  clear hb5 Hc
  have heq := fun w => run_eql_slice_nil (P := Tryf.prog) w 29 23 none 0 0 Tryf.underlying29
  go_wp2
  go_ret
  exact ⟨rfl, Hb.out.trans ((Hbt.out.mono Hb.out.size).trans (Hb5.out.mono (Nat.le_trans Hb.out.size Hbt.out.size)))⟩
end Go.Proofs.Qxb6615609aFmt
