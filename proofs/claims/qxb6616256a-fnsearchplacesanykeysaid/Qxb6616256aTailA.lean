import Derived.Test.Qxb6616256aValid
import Derived.Test.Qxb6616256aCopies
namespace Go.Proofs.Qxb6616256a
open Go.RowKit
set_option maxHeartbeats 4000000
set_option maxRecDepth 1000000

theorem docValid_any (t : ByteArray) (ent : Nat → Ent) (a1 a2 a3 a4 a5 a6 : Option Addr) (n1 c1 n2 c2 n3 c3 n4 c4 n5 c5 n6 c6 : Nat) (w : World) (hn : n1 ≤ 1048576) (ht : t.size ≤ 1048576)
    (r1 : Rd w a1 n1 fun i => .int .u32 (ent i).at') (r2 : Rd w a2 n2 fun i => .int .u32 (ent i).nl) (r3 : Rd w a3 n3 fun i => .int .u32 (ent i).vl) (r4 : Rd w a4 n4 fun i => .int .u32 (ent i).fl)
    (r5 : Rd w a5 n5 fun i => .bool (ent i).whole) (r6 : Rd w a6 n6 fun i => .bool (ent i).sp) :
    Calls Try.prog 7 #[.string t, .slice a1 n1 c1, .slice a2 n2 c2, .slice a3 n3 c3, .slice a4 n4 c4, .slice a5 n5 c5, .slice a6 n6 c6, .bool false] w (ValidPost w t ent n1 n2 n3 n4 n5 n6) := by
  by_cases h : n2 = n1 ∧ n3 = n1 ∧ n4 = n1 ∧ n5 = n1 ∧ n6 = n1
  · obtain ⟨rfl, rfl, rfl, rfl, rfl⟩ := h
    exact valid_any t ent a1 a2 a3 a4 a5 a6 _ c1 c2 c3 c4 c5 c6 w hn ht r1 r2 r3 r4 r5 r6
  · exact valid_len t ent a1 a2 a3 a4 a5 a6 n1 c1 n2 c2 n3 c3 n4 c4 n5 c5 n6 c6 w h

def RestB (r : Code) (t f nm : ByteArray) (wh : Bool) (ent : Nat → Ent) (x1 x2 x3 x4 x5 x6 : Option Addr) (y1 y2 y3 y4 y5 y6 : Nat) (w0 : World) : Prop :=
  ∀ (n : Nat) (i : Nat) (b : Bool) (w : World), n ≤ 1048576 → Rd w x1 n (fun i => .int .u32 (ent i).at') → Rd w x2 n (fun i => .int .u32 (ent i).nl) → Rd w x3 n (fun i => .int .u32 (ent i).vl) → Rd w x4 n (fun i => .int .u32 (ent i).fl) → Rd w x5 n (fun i => .bool (ent i).whole) → Rd w x6 n (fun i => .bool (ent i).sp) → Below w0.heap.size w0 w → (∀ i, i < n → (ent i).Fits t) → Pl.Sorted (keyAt ent t) n →
      Pl.Found (keyAt ent t) n (mkKey f wh nm) i → (b = true ↔ i < n ∧ Pl.kc (keyAt ent t i) (mkKey f wh nm) = 0) →
      ∀ (u10 u11 u12 u13 u14 u15 u16 u17 u18 u19 u20 u21 u22 u23 u24 u25 u26 u27 u28 u31 u32 u33 u34 u35 u36 u37 u38 u39 u40 u41 u42 u43 u44 u45 u46 u47 u48 u49 u50 u51 u52 u53 u54 u55 u56 u57 u58 u59 u60 u61 u62 u63 u64 u65 u66 u67 u68 u69 u70 u71 u72 u73 u74 u75 u76 u77 u78 u79 u80 u81 u82 u83 u84 u85 u86 u87 u88 u89 u90 u91 u92 u93 u94 u95 u96 u97 u98 u99 u100 u101 u102 u103 u104 u105 u106 u107 u108 u109 u110 u111 u112 u113 u114 u115 u116 u117 u118 u119 u120 u121 u122 u123 u124 u125 u126 u127 u128 u129 u130 u131 u132 u133 u134 u135 u136 u137 u138 u139 u140 u141 u142 u143 u144 u145 u146 u147 u148 u149 u150 u151 u152 u153 u154 u155 u156 u157 u158 u159 u160 u161 u162 u163 u164 u165 u166 u167 u168 u169 u170 u171 u172 u173 u174 u175 u176 u177 u178 u179 u180 u181 u182 u183 u184 u185 u186 u187 u188 u189 u190 u191 u192 u193 u194 u195 u196 u197 u198 u199 u200 u201 u202 u203 u204 u205 u206 u207 u208 u209 u210 u211 u212 u213 u214 u215 u216 u217 u218 u219 u220 u221 u222 u223 u224 u225 u226 u227 u228 u229 u230 u231 u232 u233 u234 u235 u236 u237 u238 u239 u240 u241 u242 u243 u244 u245 u246 u247 u248 u249 u250 u251 u252 u253 u254 u255 u256 u257 u258 u259 u260 u261 u262 u263 u264 u265 u266 u267 u268 u269 u270 u271 u272 u273 u274 u275 u276 u277 u278 u279 u280 u281 u282 u283 u284 u285 u286 u287 u288 u289 u290 : Value), Code.wp Try.prog r (bodyPost Try.prog Try.f3 (fun e w' => e = .returned (.bool true) ∧ Below w0.heap.size w0 w')) ⟨List.toArray (.string t :: .slice x1 n y1 :: .slice x2 n y2 :: .slice x3 n y3 :: .slice x4 n y4 :: .slice x5 n y5 :: .slice x6 n y6 :: .string f :: .bool wh :: .string nm :: u10 :: u11 :: u12 :: u13 :: u14 :: u15 :: u16 :: u17 :: u18 :: u19 :: u20 :: u21 :: u22 :: u23 :: u24 :: u25 :: u26 :: u27 :: u28 :: .int .i64 (i : Int) :: .bool b :: u31 :: u32 :: u33 :: u34 :: u35 :: u36 :: u37 :: u38 :: u39 :: u40 :: u41 :: u42 :: u43 :: u44 :: u45 :: u46 :: u47 :: u48 :: u49 :: u50 :: u51 :: u52 :: u53 :: u54 :: u55 :: u56 :: u57 :: u58 :: u59 :: u60 :: u61 :: u62 :: u63 :: u64 :: u65 :: u66 :: u67 :: u68 :: u69 :: u70 :: u71 :: u72 :: u73 :: u74 :: u75 :: u76 :: u77 :: u78 :: u79 :: u80 :: u81 :: u82 :: u83 :: u84 :: u85 :: u86 :: u87 :: u88 :: u89 :: u90 :: u91 :: u92 :: u93 :: u94 :: u95 :: u96 :: u97 :: u98 :: u99 :: u100 :: u101 :: u102 :: u103 :: u104 :: u105 :: u106 :: u107 :: u108 :: u109 :: u110 :: u111 :: u112 :: u113 :: u114 :: u115 :: u116 :: u117 :: u118 :: u119 :: u120 :: u121 :: u122 :: u123 :: u124 :: u125 :: u126 :: u127 :: u128 :: u129 :: u130 :: u131 :: u132 :: u133 :: u134 :: u135 :: u136 :: u137 :: u138 :: u139 :: u140 :: u141 :: u142 :: u143 :: u144 :: u145 :: u146 :: u147 :: u148 :: u149 :: u150 :: u151 :: u152 :: u153 :: u154 :: u155 :: u156 :: u157 :: u158 :: u159 :: u160 :: u161 :: u162 :: u163 :: u164 :: u165 :: u166 :: u167 :: u168 :: u169 :: u170 :: u171 :: u172 :: u173 :: u174 :: u175 :: u176 :: u177 :: u178 :: u179 :: u180 :: u181 :: u182 :: u183 :: u184 :: u185 :: u186 :: u187 :: u188 :: u189 :: u190 :: u191 :: u192 :: u193 :: u194 :: u195 :: u196 :: u197 :: u198 :: u199 :: u200 :: u201 :: u202 :: u203 :: u204 :: u205 :: u206 :: u207 :: u208 :: u209 :: u210 :: u211 :: u212 :: u213 :: u214 :: u215 :: u216 :: u217 :: u218 :: u219 :: u220 :: u221 :: u222 :: u223 :: u224 :: u225 :: u226 :: u227 :: u228 :: u229 :: u230 :: u231 :: u232 :: u233 :: u234 :: u235 :: u236 :: u237 :: u238 :: u239 :: u240 :: u241 :: u242 :: u243 :: u244 :: u245 :: u246 :: u247 :: u248 :: u249 :: u250 :: u251 :: u252 :: u253 :: u254 :: u255 :: u256 :: u257 :: u258 :: u259 :: u260 :: u261 :: u262 :: u263 :: u264 :: u265 :: u266 :: u267 :: u268 :: u269 :: u270 :: u271 :: u272 :: u273 :: u274 :: u275 :: u276 :: u277 :: u278 :: u279 :: u280 :: u281 :: u282 :: u283 :: u284 :: u285 :: u286 :: u287 :: u288 :: u289 :: u290 :: []), []⟩ w

theorem tailA (r : Code) (t f nm : ByteArray) (wh : Bool) (ent : Nat → Ent) (x1 x2 x3 x4 x5 x6 : Option Addr) (n1 y1 n2 y2 n3 y3 n4 y4 n5 y5 n6 y6 : Nat) (w0 w : World)
    (h0 : t.size ≤ 1048576) (h7 : f.size ≤ 1048576) (h9 : nm.size ≤ 1048576) (h1 : n1 ≤ 1048576) (h2 : n2 ≤ 1048576) (h3 : n3 ≤ 1048576) (h4 : n4 ≤ 1048576) (h5 : n5 ≤ 1048576) (h6 : n6 ≤ 1048576)
    (r1 : Rd w x1 n1 fun i => .int .u32 (ent i).at') (r2 : Rd w x2 n2 fun i => .int .u32 (ent i).nl) (r3 : Rd w x3 n3 fun i => .int .u32 (ent i).vl) (r4 : Rd w x4 n4 fun i => .int .u32 (ent i).fl) (r5 : Rd w x5 n5 fun i => .bool (ent i).whole) (r6 : Rd w x6 n6 fun i => .bool (ent i).sp) (hb : Below w0.heap.size w0 w)
    (hr : RestB r t f nm wh ent x1 x2 x3 x4 x5 x6 y1 y2 y3 y4 y5 y6 w0)
    (u10 u11 u12 u13 u14 u15 u16 u17 u18 u19 u20 u21 u22 u23 u24 u25 u26 u27 u28 u29 u30 u31 u32 u33 u34 u35 u36 u37 u38 u39 u40 u41 u42 u43 u44 u45 u46 u47 u48 u49 u50 u51 u52 u53 u54 u55 u56 u57 u58 u59 u60 u61 u62 u63 u64 u65 u66 u67 u68 u69 u70 u71 u72 u73 u74 u75 u76 u77 u78 u79 u80 u81 u82 u83 u84 u85 u86 u87 u88 u89 u90 u91 u92 u93 u94 u95 u96 u97 u98 u99 u100 u101 u102 u103 u104 u105 u106 u107 u108 u109 u110 u111 u112 u113 u114 u115 u116 u117 u118 u119 u120 u121 u122 u123 u124 u125 u126 u127 u128 u129 u130 u131 u132 u133 u134 u135 u136 u137 u138 u139 u140 u141 u142 u143 u144 u145 u146 u147 u148 u149 u150 u151 u152 u153 u154 u155 u156 u157 u158 u159 u160 u161 u162 u163 u164 u165 u166 u167 u168 u169 u170 u171 u172 u173 u174 u175 u176 u177 u178 u179 u180 u181 u182 u183 u184 u185 u186 u187 u188 u189 u190 u191 u192 u193 u194 u195 u196 u197 u198 u199 u200 u201 u202 u203 u204 u205 u206 u207 u208 u209 u210 u211 u212 u213 u214 u215 u216 u217 u218 u219 u220 u221 u222 u223 u224 u225 u226 u227 u228 u229 u230 u231 u232 u233 u234 u235 u236 u237 u238 u239 u240 u241 u242 u243 u244 u245 u246 u247 u248 u249 u250 u251 u252 u253 u254 u255 u256 u257 u258 u259 u260 u261 u262 u263 u264 u265 u266 u267 u268 u269 u270 u271 u272 u273 u274 u275 u276 u277 u278 u279 u280 u281 u282 u283 u284 u285 u286 u287 u288 u289 u290 : Value) :
    Code.wp Try.prog (.seq (stmtOf (spine 8 (Try.f3.body.getD .skip))) (.seq (stmtOf (spine 9 (Try.f3.body.getD .skip))) (.seq (stmtOf (spine 10 (Try.f3.body.getD .skip))) (.seq (stmtOf (spine 11 (Try.f3.body.getD .skip))) (.seq (stmtOf (spine 12 (Try.f3.body.getD .skip))) (.seq (stmtOf (spine 13 (Try.f3.body.getD .skip))) (.seq (stmtOf (spine 14 (Try.f3.body.getD .skip))) r))))))) (bodyPost Try.prog Try.f3 (fun e w' => e = .returned (.bool true) ∧ Below w0.heap.size w0 w')) ⟨List.toArray (.string t :: .slice x1 n1 y1 :: .slice x2 n2 y2 :: .slice x3 n3 y3 :: .slice x4 n4 y4 :: .slice x5 n5 y5 :: .slice x6 n6 y6 :: .string f :: .bool wh :: .string nm :: u10 :: u11 :: u12 :: u13 :: u14 :: u15 :: u16 :: u17 :: u18 :: u19 :: u20 :: u21 :: u22 :: u23 :: u24 :: u25 :: u26 :: u27 :: u28 :: u29 :: u30 :: u31 :: u32 :: u33 :: u34 :: u35 :: u36 :: u37 :: u38 :: u39 :: u40 :: u41 :: u42 :: u43 :: u44 :: u45 :: u46 :: u47 :: u48 :: u49 :: u50 :: u51 :: u52 :: u53 :: u54 :: u55 :: u56 :: u57 :: u58 :: u59 :: u60 :: u61 :: u62 :: u63 :: u64 :: u65 :: u66 :: u67 :: u68 :: u69 :: u70 :: u71 :: u72 :: u73 :: u74 :: u75 :: u76 :: u77 :: u78 :: u79 :: u80 :: u81 :: u82 :: u83 :: u84 :: u85 :: u86 :: u87 :: u88 :: u89 :: u90 :: u91 :: u92 :: u93 :: u94 :: u95 :: u96 :: u97 :: u98 :: u99 :: u100 :: u101 :: u102 :: u103 :: u104 :: u105 :: u106 :: u107 :: u108 :: u109 :: u110 :: u111 :: u112 :: u113 :: u114 :: u115 :: u116 :: u117 :: u118 :: u119 :: u120 :: u121 :: u122 :: u123 :: u124 :: u125 :: u126 :: u127 :: u128 :: u129 :: u130 :: u131 :: u132 :: u133 :: u134 :: u135 :: u136 :: u137 :: u138 :: u139 :: u140 :: u141 :: u142 :: u143 :: u144 :: u145 :: u146 :: u147 :: u148 :: u149 :: u150 :: u151 :: u152 :: u153 :: u154 :: u155 :: u156 :: u157 :: u158 :: u159 :: u160 :: u161 :: u162 :: u163 :: u164 :: u165 :: u166 :: u167 :: u168 :: u169 :: u170 :: u171 :: u172 :: u173 :: u174 :: u175 :: u176 :: u177 :: u178 :: u179 :: u180 :: u181 :: u182 :: u183 :: u184 :: u185 :: u186 :: u187 :: u188 :: u189 :: u190 :: u191 :: u192 :: u193 :: u194 :: u195 :: u196 :: u197 :: u198 :: u199 :: u200 :: u201 :: u202 :: u203 :: u204 :: u205 :: u206 :: u207 :: u208 :: u209 :: u210 :: u211 :: u212 :: u213 :: u214 :: u215 :: u216 :: u217 :: u218 :: u219 :: u220 :: u221 :: u222 :: u223 :: u224 :: u225 :: u226 :: u227 :: u228 :: u229 :: u230 :: u231 :: u232 :: u233 :: u234 :: u235 :: u236 :: u237 :: u238 :: u239 :: u240 :: u241 :: u242 :: u243 :: u244 :: u245 :: u246 :: u247 :: u248 :: u249 :: u250 :: u251 :: u252 :: u253 :: u254 :: u255 :: u256 :: u257 :: u258 :: u259 :: u260 :: u261 :: u262 :: u263 :: u264 :: u265 :: u266 :: u267 :: u268 :: u269 :: u270 :: u271 :: u272 :: u273 :: u274 :: u275 :: u276 :: u277 :: u278 :: u279 :: u280 :: u281 :: u282 :: u283 :: u284 :: u285 :: u286 :: u287 :: u288 :: u289 :: u290 :: []), []⟩ w := by
  conv => arg 2; arg 1; whnf
  conv => arg 2; arg 2; arg 1; whnf
  conv => arg 2; arg 2; arg 2; arg 1; whnf
  conv => arg 2; arg 2; arg 2; arg 2; arg 1; whnf
  conv => arg 2; arg 2; arg 2; arg 2; arg 2; arg 1; whnf
  conv => arg 2; arg 2; arg 2; arg 2; arg 2; arg 2; arg 1; whnf
  conv => arg 2; arg 2; arg 2; arg 2; arg 2; arg 2; arg 2; arg 1; whnf
  have C7 := hid (fun w hn r1 r2 r3 r4 r5 r6 => docValid_any t ent x1 x2 x3 x4 x5 x6 n1 y1 n2 y2 n3 y3 n4 y4 n5 y5 n6 y6 w hn h0 r1 r2 r3 r4 r5 r6)
  go_wp2_with fail
  refine (docSize_any t x1 x2 x3 x4 x5 x6 n1 y1 n2 y2 n3 y3 n4 y4 n5 y5 n6 y6 w h0 h1 h2 h3 h4 h5 h6).mono ?_
  rintro e w' ⟨tt, b, rfl, rfl, k1, k2⟩
  cases b
  · go_wp2_with fail
    go_ret
    exact ⟨rfl, hb⟩
  go_wp2_with fail
  refine (add_any _ _ _ _ k1 k2 (by omega) (by omega) (by decide)).mono ?_
  rintro e w' ⟨tt, b, rfl, rfl, k1, k2⟩
  cases b
  · go_wp2_with fail
    go_ret
    exact ⟨rfl, hb⟩
  go_wp2_with fail
  refine (add_any _ _ _ _ k1 k2 (by omega) (by omega) (by decide)).mono ?_
  rintro e w' ⟨tt2, b, rfl, rfl, -, -⟩
  cases b
  · go_wp2_with fail
    go_ret
    exact ⟨rfl, hb⟩
  clear k1 k2
  go_wp2_with fail
  refine (C7.out _ h1 r1 r2 r3 r4 r5 r6).mono ?_
  rintro e w7 ⟨b, rfl, hb7, hv⟩
  have hb8 := hb.trans (hb7.mono hb.size)
  cases b
  · clear hv C7 r1 r2 r3 r4 r5 r6
    go_wp2_with fail
    go_ret
    exact ⟨rfl, hb8⟩
  obtain ⟨e2, e3, e4, e5, e6, hfit, hsort⟩ := hv rfl
  subst e2 e3 e4 e5 e6
  replace r1 := r1.below hb7
  replace r2 := r2.below hb7
  replace r3 := r3.below hb7
  replace r4 := r4.below hb7
  replace r5 := r5.below hb7
  replace r6 := r6.below hb7
  have HF := hid hfit
  have HS := hid hsort
  clear C7 hb hb7 hfit h2 h3 h4 h5 h6 hsort hv
  go_wp2_with fail
  refine (zzsearch_any t _ ent f wh nm x1 x2 x3 x4 x5 x6 y1 y2 y3 y4 y5 y6 w7 h1 r1 r2 r3 r4 r5 r6 HF.out HS.out).mono ?_
  rintro e w9 ⟨i, b, rfl, hfo, hib, hb9⟩
  have r1' := r1.below hb9
  have r2' := r2.below hb9
  have r3' := r3.below hb9
  have r4' := r4.below hb9
  have r5' := r5.below hb9
  have r6' := r6.below hb9
  have hb10 := hb8.trans (hb9.mono hb8.size)
  have HFo := hid hfo
  have HIb := hid hib
  clear hfo hib hb9 hb8 r1 r2 r3 r4 r5 r6
  go_wp2_with fail
  exact hr _ i b w9 h1 r1' r2' r3' r4' r5' r6' hb10 HF.out HS.out HFo.out HIb.out _ _ _ _ _ _ _ _ _ _ _ _ _ _ _ _ _ _ _ _ _ _ _ _ _ _ _ _ _ _ _ _ _ _ _ _ _ _ _ _ _ _ _ _ _ _ _ _ _ _ _ _ _ _ _ _ _ _ _ _ _ _ _ _ _ _ _ _ _ _ _ _ _ _ _ _ _ _ _ _ _ _ _ _ _ _ _ _ _ _ _ _ _ _ _ _ _ _ _ _ _ _ _ _ _ _ _ _ _ _ _ _ _ _ _ _ _ _ _ _ _ _ _ _ _ _ _ _ _ _ _ _ _ _ _ _ _ _ _ _ _ _ _ _ _ _ _ _ _ _ _ _ _ _ _ _ _ _ _ _ _ _ _ _ _ _ _ _ _ _ _ _ _ _ _ _ _ _ _ _ _ _ _ _ _ _ _ _ _ _ _ _ _ _ _ _ _ _ _ _ _ _ _ _ _ _ _ _ _ _ _ _ _ _ _ _ _ _ _ _ _ _ _ _ _ _ _ _ _ _ _ _ _ _ _ _ _ _ _ _ _ _ _ _ _ _ _ _ _ _ _ _ _ _ _ _ _ _ _ _ _ _ _ _ _ _ _ _ _ _ _ _ _ _ _ _ _ _ _

end Go.Proofs.Qxb6616256a
