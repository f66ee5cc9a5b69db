import Derived.Test.Qxb6616256aRound
namespace Go.Proofs.Qxb6616256a
open Go.RowKit
set_option maxHeartbeats 4000000
set_option maxRecDepth 1000000

theorem T3 (Q : Exit → Act → World → Prop) (t : ByteArray) (n c1 c2 c3 c4 c5 c6 b1 o1 b2 o2 b3 o3 b4 o4 b5 o5 b6 o6 : Nat) (m : Nat) (e em : Ent) (w : World) (hlt : m + 1 < n) (hn : n ≤ 1048576) (hA : At6 w b1 o1 b2 o2 b3 o3 b4 o4 b5 o5 b6 o6 (m + 1) e) (hM : At6 w b1 o1 b2 o2 b3 o3 b4 o4 b5 o5 b6 o6 m em) (hfe : e.Fits t) (hfm : em.Fits t) (hret : RetOk Q w)
    (hend : ¬ 0 < Pl.kc (mkKey (em.form t) em.whole (em.name t)) (mkKey (e.form t) e.whole (e.name t)) → ∀ q, End Q t n c1 c2 c3 c4 c5 c6 b1 o1 b2 o2 b3 o3 b4 o4 b5 o5 b6 o6 (m + 1) (w.drewN q)) : At (spine 6 (inBody (inLoop (stmtOf (spine 3 (Try.f7.body.getD .skip)))))) Q t n c1 c2 c3 c4 c5 c6 b1 o1 b2 o2 b3 o3 b4 o4 b5 o5 b6 o6 (m + 1) w := by
  intro u8 u9 u10 u11 u12 u13 u14 u15 u16 u19 u20 u21 u22 u23 u24 u25 u26 u27 u28 u29 u30 u31 u32 u33 u34 u35 u36 u37 u38 u39 u40 u41 u42 u43 u44 u45 u46 u47 u48 u49 u50 u51 u52 u53 u54 u55 u56 u57 u58 u59 u60 u61 u62 u63 u64 u65 u66 u67 u68 u69 u70 u71 u72 u73 u74 u75 u76 u77 u78 u79 u80 u81 u82 u83 u84 u85 u86 u87 u88 u89 u90 u91 u92 u93 u94 u95 u96 u97 u98 u99 u100 u101 u102 u103 u104 u105 u106 u107 u108 u109 u110 u111 u112 u113 u114 u115 u116 u117 u118 u119 u120 u121 u122 u123 u124 u125 u126 u127 u128 u129 u130 u131 u132 u133 u134 u135 u136 u137 u138 u139 u140 u141 u142 u143 u144 u145 u146 u147 u148 u149 u150 u151 u152 u153 u154 u155 u156 u157 u158 u159 u160 u161 u162 u163 u164 u165 u166 u167 u168 u169 u170 u171 u172 u173 u174 u175 u176 u177 u178 u179 u180 u181 u182 u183 u184 u185 u186 u187 u188 u189 u190 u191 u192 u193 u194 u195 u196 u197 u198 u199 u200 u201 u202 u203 u204 u205 u206 u207 u208 u209 u210 u211 u212 u213 u214 u215
  conv => arg 2; whnf
  have hltI : (m : Int) + 1 < (n : Int) := by omega
  have hiJ : (m : Int) < (n : Int) := by omega
  have hwm : IntKind.i64.wrap (m : Int) = (m : Int) := by rw [IntKind.wrap_i64]; omega
  obtain ⟨d1, d2, d3, d4, d5, d6⟩ := hA
  obtain ⟨p1, p2, p3, p4, p5, p6⟩ := hM
  have C10k := hid (fun w => form_any t e w hfe)
  have C11k := hid (fun w => name_any t e w hfe)
  have C10m := hid (fun w => form_any t em w hfm)
  have C11m := hid (fun w => name_any t em w hfm)
  have HE := hid hend
  clear hend hfe hfm
  generalize em.form t = Fm at *
  generalize em.name t = Nm at *
  generalize e.form t = Fk at *
  generalize e.name t = Nk at *
  go_wp2_with fail
  go_quiet ((first | (go_at_call_of 10 em; exact Calls.quiet_of_same (C10m.out _)) | (go_at_call_of 10 e; exact Calls.quiet_of_same (C10k.out _)) | (go_at_call_of 11 em; exact Calls.quiet_of_same (C11m.out _)) | (go_at_call_of 11 e; exact Calls.quiet_of_same (C11k.out _)) | (go_at_call 9; exact Calls.quiet_of_same (keyCmp_any _ _ _ _ _ _ _))))
  clear d1 d2 d3 d4 d5 d6 p1 p2 p3 p4 p5 p6 C10k C11k C10m C11m
  by_cases hc : 0 < Pl.kc (mkKey Fm em.whole Nm) (mkKey Fk e.whole Nk)
  · clear HE
    go_wp2_with fail
    exact hret _ _ rfl rfl (below_drewN (Below.refl _ _) _)
  · have hend := HE.out (Int.not_lt.1 hc)
    clear HE
    go_wp2_with fail
    exact hend _ _ _ _ _ _ _ _ _ _ _ _ _ _ _ _ _ _ _ _ _ _ _ _ _ _ _ _ _ _ _ _ _ _ _ _ _ _ _ _ _ _ _ _ _ _ _ _ _ _ _ _ _ _ _ _ _ _ _ _ _ _ _ _ _ _ _ _ _ _ _ _ _ _ _ _ _ _ _ _ _ _ _ _ _ _ _ _ _ _ _ _ _ _ _ _ _ _ _ _ _ _ _ _ _ _ _ _ _ _ _ _ _ _ _ _ _ _ _ _ _ _ _ _ _ _ _ _ _ _ _ _ _ _ _ _ _ _ _ _ _ _ _ _ _ _ _ _ _ _ _ _ _ _ _ _ _ _ _ _ _ _ _ _ _ _ _ _ _ _ _ _ _ _ _ _ _ _ _ _ _ _ _ _ _ _ _ _ _ _ _ _ _ _ _ _ _ _ _ _ _ _ _ _ _ _ _

end Go.Proofs.Qxb6616256a
