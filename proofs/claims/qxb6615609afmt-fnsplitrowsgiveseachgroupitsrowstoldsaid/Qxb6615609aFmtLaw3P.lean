/-
  The law 'FnSplitRowsGivesEachGroupItsRows' (function 3), its parts joined: true; nothing that was there has turned.
-/
import Derived.Test.Qxb6615609aFmtLaw3E
import Derived.Test.Qxb6615609aFmtLaw3A
import Derived.Test.Qxb6615609aFmtLaw3B
import Derived.Test.Qxb6615609aFmtLaw3C
import Derived.Test.Qxb6615609aFmtLaw3D
import Derived.Test.Qxb6615609aFmtLaw3G
namespace Go.Proofs.Qxb6615609aFmt
open Go.RowKit Go.Extern.Stop Go.Stop Go.Extern

set_option maxRecDepth 100000 in
set_option maxHeartbeats 4000000 in
theorem partD (F : Interp) (w0 : World) (db nm : ByteArray) (nw : Nat) (wd : Nat → Int) (rows : Nat) (ad : Option Addr) (nd cd : Nat) (da : Nat → Option Addr) (dn dc : Nat → Nat) (L : Nat → List UInt8) (ag : Option Addr) (ng cg : Nat) (ga : Nat → Option Addr) (gn gc : Nat → Nat) (z : Nat → Nat → Int) (HF : F.answers w0.tape) : PartD w0 db nm nw wd rows ad nd cd da dn dc L ag ng cg ga gn gc z := by
  intro w aw cw a20 c20 a21 c21 a23 c23 ma mc va vc E pn bad H Hv Hb hdb hnm _ hnd hng hrows K c12 c13 c14 c15 c16 c17 c18 c19 c25 c26 c27 c28 c29 c30 c31 c32 c33 c42 c43 c44 c45 c46 c47 c48 c49 c50 c51 c52 c53 c54 c55 c56 c57 c58 c59 c60 c61 c62 c63 c64 c65 c66 c67 c68 c69 c70 c71 c72 c73 c74 c75 c76 c77 c78 c79 c80 c81 c82 c83 c84 c85 c86 c87 c88 c89 c90 c91 c92 c93 c94 c95 c96 c97 c98 c99 c100 c101 c102 c103 c104 c105 c106 c107 c108 c109 c110 c111 c112 c113 c114 c115 c116 c117 c118 c119 c120 c121 c122 c123 c124 c125 c126 c127 c128 c129 c130 c131 c132 c133 c134 c135 c136 c137 c138 c139 c140 c141 c142 c143 c144 c145 c146 c147 c148 c149 c150 c151 c152 c153 c154 c155 c156 c157 c158 c159 c160 c161 c162 c163 c164 c165 c166 c167 c168 c169 c170 c171 c172 c173 c174 c175 c176 c177 c178 c179 c180 c181 c182 c183 c184 c185 c186 c187 c188 c189 c190 c191 c192 c193 c194 c195 c196 c197 c198 c199 c200 c201 c202 c203 c204 c205 c206 c207 c208 c209 c210 c211 c212 c213 c214 c215 c216 c217 c218 c219 c220 c221 c222 c223 c224 c225 c226 c227 c228 c229 c230 c231 c232 c233 c234 c235 c236 c237 c238 c239 c240 c241 c242 c243 c244 c245 c246 c247 c248 c249 c250 c251 c252 c253 c254 c255 c256 c257 c258 c259 c260 c261 c262 c263 c264 c265 c266 c267 c268 c269 c270 c271 c272 c273 c274 c275 c276 c277 c278 c279 c280 c281 c282 c283 c284 c285 c286 c287 c288 c289 c290 c291 c292 c293 c294 c295 c296 c297 c298 c299 c300 c301 c302 c303 c304 c305 c306 c307 c308 c309 c310 c311 hK
  cases bad with
  | false =>
    obtain ⟨h1, h2⟩ := Hv.out.well rfl
    subst h1
    subst h2
    exact partD_serves w0 db nm wd rows ad pn cd da dn dc L ag ng cg ga gn gc z w aw cw a20 c20 a21 c21 a23 c23 ma mc va vc E H Hv Hb hnd hng hrows K c12 c13 c14 c15 c16 c17 c18 c19 c25 c26 c27 c28 c29 c30 c31 c32 c33 c42 c43 c44 c45 c46 c47 c48 c49 c50 c51 c52 c53 c54 c55 c56 c57 c58 c59 c60 c61 c62 c63 c64 c65 c66 c67 c68 c69 c70 c71 c72 c73 c74 c75 c76 c77 c78 c79 c80 c81 c82 c83 c84 c85 c86 c87 c88 c89 c90 c91 c92 c93 c94 c95 c96 c97 c98 c99 c100 c101 c102 c103 c104 c105 c106 c107 c108 c109 c110 c111 c112 c113 c114 c115 c116 c117 c118 c119 c120 c121 c122 c123 c124 c125 c126 c127 c128 c129 c130 c131 c132 c133 c134 c135 c136 c137 c138 c139 c140 c141 c142 c143 c144 c145 c146 c147 c148 c149 c150 c151 c152 c153 c154 c155 c156 c157 c158 c159 c160 c161 c162 c163 c164 c165 c166 c167 c168 c169 c170 c171 c172 c173 c174 c175 c176 c177 c178 c179 c180 c181 c182 c183 c184 c185 c186 c187 c188 c189 c190 c191 c192 c193 c194 c195 c196 c197 c198 c199 c200 c201 c202 c203 c204 c205 c206 c207 c208 c209 c210 c211 c212 c213 c214 c215 c216 c217 c218 c219 c220 c221 c222 c223 c224 c225 c226 c227 c228 c229 c230 c231 c232 c233 c234 c235 c236 c237 c238 c239 c240 c241 c242 c243 c244 c245 c246 c247 c248 c249 c250 c251 c252 c253 c254 c255 c256 c257 c258 c259 c260 c261 c262 c263 c264 c265 c266 c267 c268 c269 c270 c271 c272 c273 c274 c275 c276 c277 c278 c279 c280 c281 c282 c283 c284 c285 c286 c287 c288 c289 c290 c291 c292 c293 c294 c295 c296 c297 c298 c299 c300 c301 c302 c303 c304 c305 c306 c307 c308 c309 c310 c311 hK
  | true =>
    rcases Hv.out.worse rfl with hne | ⟨h1, hlt, hno⟩
    · exact partD_fails F w0 db nm nw rows ad nd cd ag ng cg w aw cw a20 c20 a21 c21 a23 c23 pn Hb HF (fun wt _ hF _ h4 h0 h1 => split10_len F db nm w.heap.size aw ad nw nd cw cd ag ng cg rows wt hF h4 h0 h1 hdb hnm hne) K c12 c13 c14 c15 c16 c17 c18 c19 c25 c26 c27 c28 c29 c30 c31 c32 c33 c42 c43 c44 c45 c46 c47 c48 c49 c50 c51 c52 c53 c54 c55 c56 c57 c58 c59 c60 c61 c62 c63 c64 c65 c66 c67 c68 c69 c70 c71 c72 c73 c74 c75 c76 c77 c78 c79 c80 c81 c82 c83 c84 c85 c86 c87 c88 c89 c90 c91 c92 c93 c94 c95 c96 c97 c98 c99 c100 c101 c102 c103 c104 c105 c106 c107 c108 c109 c110 c111 c112 c113 c114 c115 c116 c117 c118 c119 c120 c121 c122 c123 c124 c125 c126 c127 c128 c129 c130 c131 c132 c133 c134 c135 c136 c137 c138 c139 c140 c141 c142 c143 c144 c145 c146 c147 c148 c149 c150 c151 c152 c153 c154 c155 c156 c157 c158 c159 c160 c161 c162 c163 c164 c165 c166 c167 c168 c169 c170 c171 c172 c173 c174 c175 c176 c177 c178 c179 c180 c181 c182 c183 c184 c185 c186 c187 c188 c189 c190 c191 c192 c193 c194 c195 c196 c197 c198 c199 c200 c201 c202 c203 c204 c205 c206 c207 c208 c209 c210 c211 c212 c213 c214 c215 c216 c217 c218 c219 c220 c221 c222 c223 c224 c225 c226 c227 c228 c229 c230 c231 c232 c233 c234 c235 c236 c237 c238 c239 c240 c241 c242 c243 c244 c245 c246 c247 c248 c249 c250 c251 c252 c253 c254 c255 c256 c257 c258 c259 c260 c261 c262 c263 c264 c265 c266 c267 c268 c269 c270 c271 c272 c273 c274 c275 c276 c277 c278 c279 c280 c281 c282 c283 c284 c285 c286 c287 c288 c289 c290 c291 c292 c293 c294 c295 c296 c297 c298 c299 c300 c301 c302 c303 c304 c305 c306 c307 c308 c309 c310 c311 hK
    · subst h1
      exact partD_fails F w0 db nm nd rows ad nd cd ag ng cg w aw cw a20 c20 a21 c21 a23 c23 pn Hb HF (fun wt hb hF hsz h4 h0 h1 => split10_bad F db nm pn wt.heap.size wt w.heap.size aw cw nd wd ad cd da dc L ag ng cg ga gn gc z rows E (given3 (H.out.below hb) hsz h4) (Nat.le_refl _) hrows hnd hng hF hlt hno h0 h1 hdb hnm Hv.out.ends (fun g s k hg hs hk => by
        have hg1 := H.out.gle g hg
        have hd1 := H.out.dle s (by omega)
        rw [(H.out.args.dsize s (by omega)).1] at hd1
        exact Nat.le_trans (piece_le' (by omega) hd1) (by omega))) K c12 c13 c14 c15 c16 c17 c18 c19 c25 c26 c27 c28 c29 c30 c31 c32 c33 c42 c43 c44 c45 c46 c47 c48 c49 c50 c51 c52 c53 c54 c55 c56 c57 c58 c59 c60 c61 c62 c63 c64 c65 c66 c67 c68 c69 c70 c71 c72 c73 c74 c75 c76 c77 c78 c79 c80 c81 c82 c83 c84 c85 c86 c87 c88 c89 c90 c91 c92 c93 c94 c95 c96 c97 c98 c99 c100 c101 c102 c103 c104 c105 c106 c107 c108 c109 c110 c111 c112 c113 c114 c115 c116 c117 c118 c119 c120 c121 c122 c123 c124 c125 c126 c127 c128 c129 c130 c131 c132 c133 c134 c135 c136 c137 c138 c139 c140 c141 c142 c143 c144 c145 c146 c147 c148 c149 c150 c151 c152 c153 c154 c155 c156 c157 c158 c159 c160 c161 c162 c163 c164 c165 c166 c167 c168 c169 c170 c171 c172 c173 c174 c175 c176 c177 c178 c179 c180 c181 c182 c183 c184 c185 c186 c187 c188 c189 c190 c191 c192 c193 c194 c195 c196 c197 c198 c199 c200 c201 c202 c203 c204 c205 c206 c207 c208 c209 c210 c211 c212 c213 c214 c215 c216 c217 c218 c219 c220 c221 c222 c223 c224 c225 c226 c227 c228 c229 c230 c231 c232 c233 c234 c235 c236 c237 c238 c239 c240 c241 c242 c243 c244 c245 c246 c247 c248 c249 c250 c251 c252 c253 c254 c255 c256 c257 c258 c259 c260 c261 c262 c263 c264 c265 c266 c267 c268 c269 c270 c271 c272 c273 c274 c275 c276 c277 c278 c279 c280 c281 c282 c283 c284 c285 c286 c287 c288 c289 c290 c291 c292 c293 c294 c295 c296 c297 c298 c299 c300 c301 c302 c303 c304 c305 c306 c307 c308 c309 c310 c311 hK

theorem law3 (F : Interp) (w : World) (db nm : ByteArray) (nw : Nat) (wd : Nat → Int) (rowz : Int) (ad : Option Addr) (nd cd : Nat) (da : Nat → Option Addr) (dn dc : Nat → Nat) (L : Nat → List UInt8) (ag : Option Addr) (ng cg : Nat) (ga : Nat → Option Addr) (gn gc : Nat → Nat) (z : Nat → Nat → Int) (aw : Option Addr) (cw : Nat) (hF : F.answers w.tape) (H : Args3 w.heap.size w aw nw wd ad nd da dn dc L ag ng ga gn gc z)
    (hdb : db.size ≤ 9223372036854775807) (hnm : nm.size ≤ 9223372036854775807) (hnw : nw ≤ 9223372036854775807) (hnd : nd ≤ 9223372036854775807) (hng : ng ≤ 9223372036854775807) :
    Calls Tryf.prog 3 #[.string db, .string nm, .slice aw nw cw, .int .i64 rowz, .slice ad nd cd, .slice ag ng cg] w (Held w) := by
  have HA : PartA w db nm nw wd rowz ad nd cd da dn dc L ag ng cg ga gn gc z :=
    partA w db nm nw wd rowz ad nd cd da dn dc L ag ng cg ga gn gc z (fun r => partB w db nm nw wd r ad nd cd da dn dc L ag ng cg ga gn gc z (partC w db nm nw wd r ad nd cd da dn dc L ag ng cg ga gn gc z (partD F w db nm nw wd r ad nd cd da dn dc L ag ng cg ga gn gc z hF)))
  cases aw with
  | none =>
    obtain rfl : nw = 0 := by
      rcases Nat.eq_zero_or_pos nw with h | h
      · exact h
      · obtain ⟨b, off, hx, _⟩ := H.widths 0 h
        cases hx
    exact entry3_none w db nm wd rowz ad nd cd da dn dc L ag ng cg ga gn gc z cw HA H hdb hnm hnd hng
  | some a => exact entry3_some w db nm nw wd rowz ad nd cd da dn dc L ag ng cg ga gn gc z a cw HA H hdb hnm hnw hnd hng
end Go.Proofs.Qxb6615609aFmt
