import Derived.Test.Qxb6616256aTailA
import Derived.Deep.LoopGhost
namespace Go.Proofs.Qxb6616256a
open Go.RowKit
set_option maxHeartbeats 4000000
set_option maxRecDepth 1000000

def RestC (r : Code) (t f nm : ByteArray) (wh : Bool) (ent : Nat → Ent) (x1 x2 x3 x4 x5 x6 : Option Addr) (y1 y2 y3 y4 y5 y6 : Nat) (w0 : World) : Prop :=
  ∀ (n : Nat) (i : Nat) (b : Bool) (w : World), n ≤ 1048576 → Rd w x1 n (fun i => .int .u32 (ent i).at') → Rd w x2 n (fun i => .int .u32 (ent i).nl) → Rd w x3 n (fun i => .int .u32 (ent i).vl) → Rd w x4 n (fun i => .int .u32 (ent i).fl) → Rd w x5 n (fun i => .bool (ent i).whole) → Rd w x6 n (fun i => .bool (ent i).sp) → Below w0.heap.size w0 w → (∀ i, i < n → (ent i).Fits t) → Pl.Sorted (keyAt ent t) n →
      Pl.Found (keyAt ent t) n (mkKey f wh nm) i → (b = true ↔ i < n ∧ Pl.kc (keyAt ent t i) (mkKey f wh nm) = 0) →
      ∀ (u10 u11 u12 u13 u14 u15 u16 u17 u18 u19 u20 u21 u22 u23 u24 u25 u26 u27 u28 u32 u33 u34 u35 u36 u37 u38 u39 u40 u41 u42 u43 u44 u45 u46 u47 u48 u49 u50 u51 u52 u53 u54 u55 u56 u57 u58 u59 u60 u61 u62 u63 u64 u65 u66 u67 u68 u69 u70 u71 u72 u73 u74 u75 u76 u77 u78 u79 u80 u81 u82 u83 u84 u85 u86 u87 u88 u89 u90 u91 u92 u93 u94 u95 u96 u97 u98 u99 u100 u101 u102 u103 u104 u105 u106 u107 u108 u109 u110 u111 u112 u113 u114 u115 u116 u117 u118 u119 u120 u121 u122 u123 u124 u125 u126 u127 u128 u129 u130 u131 u132 u133 u134 u135 u136 u137 u138 u139 u140 u141 u142 u143 u144 u145 u146 u147 u148 u149 u150 u151 u152 u153 u154 u155 u156 u157 u158 u159 u160 u161 u162 u163 u164 u165 u166 u167 u168 u169 u170 u171 u172 u173 u174 u175 u176 u177 u178 u179 u180 u181 u182 u183 u184 u185 u186 u187 u188 u189 u190 u191 u192 u193 u194 u195 u196 u197 u198 u199 u200 u201 u202 u203 u204 u205 u206 u207 u208 u209 u210 u211 u212 u213 u214 u215 u216 u217 u218 u219 u220 u221 u222 u223 u224 u225 u226 u227 u228 u229 u230 u231 u232 u233 u234 u235 u236 u237 u238 u239 u240 u241 u242 u243 u244 u245 u246 u247 u248 u249 u250 u251 u252 u253 u254 u255 u256 u257 u258 u259 u260 u261 u262 u263 u264 u265 u266 u267 u268 u269 u270 u271 u272 u273 u274 u275 u276 u277 u278 u279 u280 u281 u282 u283 u284 u285 u286 u287 u288 u289 u290 : Value), Code.wp Try.prog r (bodyPost Try.prog Try.f3 (fun e w' => e = .returned (.bool true) ∧ Below w0.heap.size w0 w')) ⟨List.toArray (.string t :: .slice x1 n y1 :: .slice x2 n y2 :: .slice x3 n y3 :: .slice x4 n y4 :: .slice x5 n y5 :: .slice x6 n y6 :: .string f :: .bool wh :: .string nm :: u10 :: u11 :: u12 :: u13 :: u14 :: u15 :: u16 :: u17 :: u18 :: u19 :: u20 :: u21 :: u22 :: u23 :: u24 :: u25 :: u26 :: u27 :: u28 :: .int .i64 (i : Int) :: .bool b :: .int .i64 (n : Int) :: u32 :: u33 :: u34 :: u35 :: u36 :: u37 :: u38 :: u39 :: u40 :: u41 :: u42 :: u43 :: u44 :: u45 :: u46 :: u47 :: u48 :: u49 :: u50 :: u51 :: u52 :: u53 :: u54 :: u55 :: u56 :: u57 :: u58 :: u59 :: u60 :: u61 :: u62 :: u63 :: u64 :: u65 :: u66 :: u67 :: u68 :: u69 :: u70 :: u71 :: u72 :: u73 :: u74 :: u75 :: u76 :: u77 :: u78 :: u79 :: u80 :: u81 :: u82 :: u83 :: u84 :: u85 :: u86 :: u87 :: u88 :: u89 :: u90 :: u91 :: u92 :: u93 :: u94 :: u95 :: u96 :: u97 :: u98 :: u99 :: u100 :: u101 :: u102 :: u103 :: u104 :: u105 :: u106 :: u107 :: u108 :: u109 :: u110 :: u111 :: u112 :: u113 :: u114 :: u115 :: u116 :: u117 :: u118 :: u119 :: u120 :: u121 :: u122 :: u123 :: u124 :: u125 :: u126 :: u127 :: u128 :: u129 :: u130 :: u131 :: u132 :: u133 :: u134 :: u135 :: u136 :: u137 :: u138 :: u139 :: u140 :: u141 :: u142 :: u143 :: u144 :: u145 :: u146 :: u147 :: u148 :: u149 :: u150 :: u151 :: u152 :: u153 :: u154 :: u155 :: u156 :: u157 :: u158 :: u159 :: u160 :: u161 :: u162 :: u163 :: u164 :: u165 :: u166 :: u167 :: u168 :: u169 :: u170 :: u171 :: u172 :: u173 :: u174 :: u175 :: u176 :: u177 :: u178 :: u179 :: u180 :: u181 :: u182 :: u183 :: u184 :: u185 :: u186 :: u187 :: u188 :: u189 :: u190 :: u191 :: u192 :: u193 :: u194 :: u195 :: u196 :: u197 :: u198 :: u199 :: u200 :: u201 :: u202 :: u203 :: u204 :: u205 :: u206 :: u207 :: u208 :: u209 :: u210 :: u211 :: u212 :: u213 :: u214 :: u215 :: u216 :: u217 :: u218 :: u219 :: u220 :: u221 :: u222 :: u223 :: u224 :: u225 :: u226 :: u227 :: u228 :: u229 :: u230 :: u231 :: u232 :: u233 :: u234 :: u235 :: u236 :: u237 :: u238 :: u239 :: u240 :: u241 :: u242 :: u243 :: u244 :: u245 :: u246 :: u247 :: u248 :: u249 :: u250 :: u251 :: u252 :: u253 :: u254 :: u255 :: u256 :: u257 :: u258 :: u259 :: u260 :: u261 :: u262 :: u263 :: u264 :: u265 :: u266 :: u267 :: u268 :: u269 :: u270 :: u271 :: u272 :: u273 :: u274 :: u275 :: u276 :: u277 :: u278 :: u279 :: u280 :: u281 :: u282 :: u283 :: u284 :: u285 :: u286 :: u287 :: u288 :: u289 :: u290 :: []), []⟩ w

theorem tailB (r : Code) (t f nm : ByteArray) (wh : Bool) (ent : Nat → Ent) (x1 x2 x3 x4 x5 x6 : Option Addr) (y1 y2 y3 y4 y5 y6 : Nat) (w0 : World)
    (hr : RestC r t f nm wh ent x1 x2 x3 x4 x5 x6 y1 y2 y3 y4 y5 y6 w0) : RestB (.seq (stmtOf (spine 15 (Try.f3.body.getD .skip))) (.seq (stmtOf (spine 16 (Try.f3.body.getD .skip))) (.seq (stmtOf (spine 17 (Try.f3.body.getD .skip))) r))) t f nm wh ent x1 x2 x3 x4 x5 x6 y1 y2 y3 y4 y5 y6 w0 := by
  intro n i b w hn r1 r2 r3 r4 r5 r6 hb hfit hsort hfo hib u10 u11 u12 u13 u14 u15 u16 u17 u18 u19 u20 u21 u22 u23 u24 u25 u26 u27 u28 u31 u32 u33 u34 u35 u36 u37 u38 u39 u40 u41 u42 u43 u44 u45 u46 u47 u48 u49 u50 u51 u52 u53 u54 u55 u56 u57 u58 u59 u60 u61 u62 u63 u64 u65 u66 u67 u68 u69 u70 u71 u72 u73 u74 u75 u76 u77 u78 u79 u80 u81 u82 u83 u84 u85 u86 u87 u88 u89 u90 u91 u92 u93 u94 u95 u96 u97 u98 u99 u100 u101 u102 u103 u104 u105 u106 u107 u108 u109 u110 u111 u112 u113 u114 u115 u116 u117 u118 u119 u120 u121 u122 u123 u124 u125 u126 u127 u128 u129 u130 u131 u132 u133 u134 u135 u136 u137 u138 u139 u140 u141 u142 u143 u144 u145 u146 u147 u148 u149 u150 u151 u152 u153 u154 u155 u156 u157 u158 u159 u160 u161 u162 u163 u164 u165 u166 u167 u168 u169 u170 u171 u172 u173 u174 u175 u176 u177 u178 u179 u180 u181 u182 u183 u184 u185 u186 u187 u188 u189 u190 u191 u192 u193 u194 u195 u196 u197 u198 u199 u200 u201 u202 u203 u204 u205 u206 u207 u208 u209 u210 u211 u212 u213 u214 u215 u216 u217 u218 u219 u220 u221 u222 u223 u224 u225 u226 u227 u228 u229 u230 u231 u232 u233 u234 u235 u236 u237 u238 u239 u240 u241 u242 u243 u244 u245 u246 u247 u248 u249 u250 u251 u252 u253 u254 u255 u256 u257 u258 u259 u260 u261 u262 u263 u264 u265 u266 u267 u268 u269 u270 u271 u272 u273 u274 u275 u276 u277 u278 u279 u280 u281 u282 u283 u284 u285 u286 u287 u288 u289 u290
  conv => arg 2; arg 1; whnf
  conv => arg 2; arg 2; arg 1; whnf
  conv => arg 2; arg 2; arg 2; arg 1; whnf
  have hin : i ≤ n := hfo.1
  have HF := hid hfit
  have HS := hid hsort
  have HFo := hid hfo
  have HIb := hid hib
  clear hfit hsort hfo hib
  go_wp2_with fail
  go_loopw [32] (fun a wr => ∃ k : Nat, a = .int .i64 k ∧ k ≤ n ∧ Below w.heap.size w wr) (fun a _ => (n - intOf a).toNat)
  case atStart => exact ⟨0, rfl, Nat.zero_le _, Below.refl _ _⟩
  case round =>
    obtain ⟨k, rfl, hk, hbr⟩ := hrel
    by_cases hlt : k < n
    · have hltI : (k : Int) < (n : Int) := by omega
      obtain ⟨b1, o1, rfl, d1, l1⟩ := (r1.below hbr).open hlt
      obtain ⟨b2, o2, rfl, d2, l2⟩ := (r2.below hbr).open hlt
      obtain ⟨b3, o3, rfl, d3, l3⟩ := (r3.below hbr).open hlt
      obtain ⟨b4, o4, rfl, d4, l4⟩ := (r4.below hbr).open hlt
      obtain ⟨b5, o5, rfl, d5, l5⟩ := (r5.below hbr).open hlt
      obtain ⟨b6, o6, rfl, d6, l6⟩ := (r6.below hbr).open hlt
      have hfk := HF.out k hlt
      have hd1 : k < i → Pl.kc (mkKey ((ent k).form t) (ent k).whole ((ent k).name t)) (mkKey f wh nm) < 0 := HFo.out.2.1 k
      have hd2 : ¬ k < i → 0 ≤ Pl.kc (mkKey ((ent k).form t) (ent k).whole ((ent k).name t)) (mkKey f wh nm) := fun h => HFo.out.2.2 k (by omega) hlt
      have Hd1 := hid hd1
      have Hd2 := hid hd2
      clear hd1 hd2
      have C10 := hid (fun w => form_any t (ent k) w hfk)
      have C11 := hid (fun w => name_any t (ent k) w hfk)
      clear l1 l2 l3 l4 l5 l6 r1 r2 r3 r4 r5 r6 HF HS HFo HIb hfk hr
      go_wp2_with fail
      go_quiet ((first | (go_at_call 10; exact Calls.quiet_of_same (C10.out _)) | (go_at_call 11; exact Calls.quiet_of_same (C11.out _)) | (go_at_call 9; exact Calls.quiet_of_same (keyCmp_any _ _ _ _ _ _ _))))
      clear d1 d2 d3 d4 d5 d6 C10 C11
      by_cases hki : k < i
      · have hc := Hd1.out hki
        go_wp2_with fail
        go_roundw
        case rel => exact ⟨k + 1, by go_num, by omega, below_drewN hbr _⟩
        case measure => simp [intOf]; omega
      · have hc := Hd2.out hki
        have hcb : decide (Pl.kc (mkKey ((ent k).form t) (ent k).whole ((ent k).name t)) (mkKey f wh nm) < 0) = false := decide_eq_false (by omega)
        have hkb : decide (k < i) = false := decide_eq_false hki
        clear hc
        go_wp2_with fail
        go_roundw
        case rel => exact ⟨k + 1, by go_num, by omega, below_drewN hbr _⟩
        case measure => simp [intOf]; omega
    · obtain rfl : k = n := by omega
      have hbx := hb.trans (hbr.mono hb.size)
      have r1' := r1.below hbr
      have r2' := r2.below hbr
      have r3' := r3.below hbr
      have r4' := r4.below hbr
      have r5' := r5.below hbr
      have r6' := r6.below hbr
      clear r1 r2 r3 r4 r5 r6 hbr hb
      go_wp2_with fail
      exact hr _ i b wr hn r1' r2' r3' r4' r5' r6' hbx HF.out HS.out HFo.out HIb.out _ _ _ _ _ _ _ _ _ _ _ _ _ _ _ _ _ _ _ _ _ _ _ _ _ _ _ _ _ _ _ _ _ _ _ _ _ _ _ _ _ _ _ _ _ _ _ _ _ _ _ _ _ _ _ _ _ _ _ _ _ _ _ _ _ _ _ _ _ _ _ _ _ _ _ _ _ _ _ _ _ _ _ _ _ _ _ _ _ _ _ _ _ _ _ _ _ _ _ _ _ _ _ _ _ _ _ _ _ _ _ _ _ _ _ _ _ _ _ _ _ _ _ _ _ _ _ _ _ _ _ _ _ _ _ _ _ _ _ _ _ _ _ _ _ _ _ _ _ _ _ _ _ _ _ _ _ _ _ _ _ _ _ _ _ _ _ _ _ _ _ _ _ _ _ _ _ _ _ _ _ _ _ _ _ _ _ _ _ _ _ _ _ _ _ _ _ _ _ _ _ _ _ _ _ _ _ _ _ _ _ _ _ _ _ _ _ _ _ _ _ _ _ _ _ _ _ _ _ _ _ _ _ _ _ _ _ _ _ _ _ _ _ _ _ _ _ _ _ _ _ _ _ _ _ _ _ _ _ _ _ _ _ _ _ _ _ _ _ _ _ _ _ _ _ _ _ _

end Go.Proofs.Qxb6616256a
