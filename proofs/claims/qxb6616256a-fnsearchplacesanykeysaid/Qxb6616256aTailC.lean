import Derived.Test.Qxb6616256aTailB
namespace Go.Proofs.Qxb6616256a
open Go.RowKit
set_option maxHeartbeats 4000000
set_option maxRecDepth 1000000

theorem tailC (t f nm : ByteArray) (wh : Bool) (ent : Nat → Ent) (x1 x2 x3 x4 x5 x6 : Option Addr) (y1 y2 y3 y4 y5 y6 : Nat) (w0 : World) :
    RestC (spine 18 (Try.f3.body.getD .skip)) t f nm wh ent x1 x2 x3 x4 x5 x6 y1 y2 y3 y4 y5 y6 w0 := by
  intro n i b w hn r1 r2 r3 r4 r5 r6 hb hfit hsort hfo hib u10 u11 u12 u13 u14 u15 u16 u17 u18 u19 u20 u21 u22 u23 u24 u25 u26 u27 u28 u32 u33 u34 u35 u36 u37 u38 u39 u40 u41 u42 u43 u44 u45 u46 u47 u48 u49 u50 u51 u52 u53 u54 u55 u56 u57 u58 u59 u60 u61 u62 u63 u64 u65 u66 u67 u68 u69 u70 u71 u72 u73 u74 u75 u76 u77 u78 u79 u80 u81 u82 u83 u84 u85 u86 u87 u88 u89 u90 u91 u92 u93 u94 u95 u96 u97 u98 u99 u100 u101 u102 u103 u104 u105 u106 u107 u108 u109 u110 u111 u112 u113 u114 u115 u116 u117 u118 u119 u120 u121 u122 u123 u124 u125 u126 u127 u128 u129 u130 u131 u132 u133 u134 u135 u136 u137 u138 u139 u140 u141 u142 u143 u144 u145 u146 u147 u148 u149 u150 u151 u152 u153 u154 u155 u156 u157 u158 u159 u160 u161 u162 u163 u164 u165 u166 u167 u168 u169 u170 u171 u172 u173 u174 u175 u176 u177 u178 u179 u180 u181 u182 u183 u184 u185 u186 u187 u188 u189 u190 u191 u192 u193 u194 u195 u196 u197 u198 u199 u200 u201 u202 u203 u204 u205 u206 u207 u208 u209 u210 u211 u212 u213 u214 u215 u216 u217 u218 u219 u220 u221 u222 u223 u224 u225 u226 u227 u228 u229 u230 u231 u232 u233 u234 u235 u236 u237 u238 u239 u240 u241 u242 u243 u244 u245 u246 u247 u248 u249 u250 u251 u252 u253 u254 u255 u256 u257 u258 u259 u260 u261 u262 u263 u264 u265 u266 u267 u268 u269 u270 u271 u272 u273 u274 u275 u276 u277 u278 u279 u280 u281 u282 u283 u284 u285 u286 u287 u288 u289 u290
  conv => arg 2; whnf
  have hin : i ≤ n := hfo.1
  by_cases hi : i < n
  · have hiI : (i : Int) < (n : Int) := by omega
    have hne : ((i : Int) == (n : Int)) = false := beq_eq_false_iff_ne.2 (by omega)
    have hfi := hfit i hi
    have C10 := hid (fun w => form_any t (ent i) w hfi)
    have C11 := hid (fun w => name_any t (ent i) w hfi)
    have hbe : b = (Pl.kc (mkKey ((ent i).form t) (ent i).whole ((ent i).name t)) (mkKey f wh nm) == 0) := by
      rw [Bool.eq_iff_iff, beq_iff_eq, hib]
      exact ⟨fun h => h.2, fun h => ⟨hi, h⟩⟩
    have HF := hid hfit
    have HS := hid hsort
    have HFo := hid hfo
    have R1 := hid r1
    have R2 := hid r2
    have R3 := hid r3
    have R4 := hid r4
    have R5 := hid r5
    have R6 := hid r6
    obtain ⟨b1, o1, rfl, d1, l1⟩ := r1.open hi
    obtain ⟨b2, o2, rfl, d2, l2⟩ := r2.open hi
    obtain ⟨b3, o3, rfl, d3, l3⟩ := r3.open hi
    obtain ⟨b4, o4, rfl, d4, l4⟩ := r4.open hi
    obtain ⟨b5, o5, rfl, d5, l5⟩ := r5.open hi
    obtain ⟨b6, o6, rfl, d6, l6⟩ := r6.open hi
    clear l1 l2 l3 l4 l5 l6 hfit hsort hfo hib hfi r1 r2 r3 r4 r5 r6
    subst hbe
    go_wp2_with fail
    go_quiet ((first | (go_at_call 10; exact Calls.quiet_of_same (C10.out _))))
    go_wp2_with fail
    go_quiet ((first | (go_at_call 11; first | exact Calls.quiet_of_same (C11.out _) | exact quiet_same2 (C11.out _))))
    go_wp2_with (go_at_call 9; refine (keyCmp_any _ _ _ _ _ _ _).mono ?_; rintro e w' ⟨rfl, rfl⟩)
    have up := fun k => below_drewN (Below.refl w.heap.size w) k
    refine (zzsearch_any t n ent ((ent i).form t) (ent i).whole ((ent i).name t) _ _ _ _ _ _ y1 y2 y3 y4 y5 y6 _ hn (R1.out.below (up _)) (R2.out.below (up _)) (R3.out.below (up _)) (R4.out.below (up _)) (R5.out.below (up _)) (R6.out.below (up _)) HF.out HS.out).mono ?_
    rintro e w9 ⟨i2, b2', rfl, hfo2, hib2, hb9⟩
    have e2 : i2 = i := Pl.found_self HFo.out hi hfo2
    have hbt : b2' = true := hib2.2 ⟨by omega, by rw [e2]; exact Pl.kc_refl _⟩
    have hbx : Below w0.heap.size w0 w9 := hb.trans (((up _).trans hb9).mono hb.size)
    subst e2 hbt
    clear hfo2 hib2 hb9 up R1 R2 R3 R4 R5 R6 HF HS HFo C10 C11 d1 d2 d3 d4 d5 d6
    go_wp2_with fail
    go_ret
    exact ⟨rfl, hbx⟩
  · obtain rfl : i = n := by omega
    have hbf : b = false := by
      cases b
      · rfl
      · exact absurd (hib.1 rfl).1 hi
    subst hbf
    clear r1 r2 r3 r4 r5 r6 hfit hsort hfo hib hi
    go_wp2_with fail
    go_ret
    exact ⟨rfl, hb⟩

end Go.Proofs.Qxb6616256a
