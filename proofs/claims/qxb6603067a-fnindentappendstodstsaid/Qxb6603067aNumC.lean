/-
  THE WALK of the layout model's number (44), cut into declarations: the exponent.
-/
import Derived.Test.Qxb6603067aNumB
namespace Go.Proofs.Qxb6603067a
open Go.RowKit
open Plain

set_option maxRecDepth 100000 in
set_option maxHeartbeats 4000000 in
theorem exp_in (m : Mod) (out : List Int) (ln dp p : Nat) (w w0 : World) (h : MI w m out ln dp) (hb0 : Below m.M w0 w) (hlen : m.len ≤ 1048576) (hp : p < m.len) (hol : out.length + m.len + 20 ≤ 140737488355328) (q2 : Nat) (hj2 : q2 < m.len) (hno : isD m.zs (expSign m.zs (q2 + 1)) = false → number m.zs p = none) (K : Act → World → Prop)
    (hK : isD m.zs (expSign m.zs (q2 + 1)) = true → ∀ D, D = dend m.zs (expSign m.zs (q2 + 1)) → ∀ {u2 u3 u4 u5 u7 u8 u9 u10 u11 u12 u13 u14 u15 u16 u17 u18 u19 u20 u21 u22 u23 u24 u25 u26 u27 u28 u29 u30 u31 u32 u33 u34 u35 u36 u37 u38 u39 u40 u41 u42 u43 u44 u45 u46 u47 u48 u49 u50 u51 u52 u53 u54 u55 u56 u57 u58 u59 u60 u61 u62 u63 u64 u65 u66 u67 u68 u69 u70 u71 u72 u73 u74 u75 u76 u77 u78 u79 u80 u81 u82 u83 u84 u85 u86 u87 u88 u89 u90 u91 u92 u93 u94 u95 u96 u97 u98 u99 u100 u101 u102 u103 u104 u105 u106 u107 u108 u109 u110 u111 u112 u113 u114 u115 u116 u117 u118 u119 u120 u121 u122 u123 u124 u125 u126 u127 u128 u129 u130 u131 u132 u133 u134 u135 u136 u137 u138 u139 u140 u141 u142 u143 u144 u145 u146 u147 u148 u149 u150 u151 u152 u153 u154 u155 u156 u157 u158 u159 u160 u161 u162 u163 u164 u165 u166 u167 u168 u169 u170 u171 u172 u173 u174 u175 u176 u177 u178 u179 u180 u181 u182 u183 u184 u185 u186 u187 u188 u189 u190 u191 u192 u193 u194 u195 u196 u197 u198 u199 u200 u201 u202 u203 u204 u205 u206 u207 u208 u209 u210 u211 u212 u213 u214 u215 u216 u217 u218 u219 u220 u221 u222 u223 u224 u225 u226 u227 u228 u229 u230 u231 u232 u233 u234 u235 : Value}, K ⟨(.pointer (some ⟨m.M, 0, none⟩) :: .int .i64 D :: u2 :: u3 :: u4 :: u5 :: .int .i64 p :: u7 :: u8 :: u9 :: u10 :: u11 :: u12 :: u13 :: u14 :: u15 :: u16 :: u17 :: u18 :: u19 :: u20 :: u21 :: u22 :: u23 :: u24 :: u25 :: u26 :: u27 :: u28 :: u29 :: u30 :: u31 :: u32 :: u33 :: u34 :: u35 :: u36 :: u37 :: u38 :: u39 :: u40 :: u41 :: u42 :: u43 :: u44 :: u45 :: u46 :: u47 :: u48 :: u49 :: u50 :: u51 :: u52 :: u53 :: u54 :: u55 :: u56 :: u57 :: u58 :: u59 :: u60 :: u61 :: u62 :: u63 :: u64 :: u65 :: u66 :: u67 :: u68 :: u69 :: u70 :: u71 :: u72 :: u73 :: u74 :: u75 :: u76 :: u77 :: u78 :: u79 :: u80 :: u81 :: u82 :: u83 :: u84 :: u85 :: u86 :: u87 :: u88 :: u89 :: u90 :: u91 :: u92 :: u93 :: u94 :: u95 :: u96 :: u97 :: u98 :: u99 :: u100 :: u101 :: u102 :: u103 :: u104 :: u105 :: u106 :: u107 :: u108 :: u109 :: u110 :: u111 :: u112 :: u113 :: u114 :: u115 :: u116 :: u117 :: u118 :: u119 :: u120 :: u121 :: u122 :: u123 :: u124 :: u125 :: u126 :: u127 :: u128 :: u129 :: u130 :: u131 :: u132 :: u133 :: u134 :: u135 :: u136 :: u137 :: u138 :: u139 :: u140 :: u141 :: u142 :: u143 :: u144 :: u145 :: u146 :: u147 :: u148 :: u149 :: u150 :: u151 :: u152 :: u153 :: u154 :: u155 :: u156 :: u157 :: u158 :: u159 :: u160 :: u161 :: u162 :: u163 :: u164 :: u165 :: u166 :: u167 :: u168 :: u169 :: u170 :: u171 :: u172 :: u173 :: u174 :: u175 :: u176 :: u177 :: u178 :: u179 :: u180 :: u181 :: u182 :: u183 :: u184 :: u185 :: u186 :: u187 :: u188 :: u189 :: u190 :: u191 :: u192 :: u193 :: u194 :: u195 :: u196 :: u197 :: u198 :: u199 :: u200 :: u201 :: u202 :: u203 :: u204 :: u205 :: u206 :: u207 :: u208 :: u209 :: u210 :: u211 :: u212 :: u213 :: u214 :: u215 :: u216 :: u217 :: u218 :: u219 :: u220 :: u221 :: u222 :: u223 :: u224 :: u225 :: u226 :: u227 :: u228 :: u229 :: u230 :: u231 :: u232 :: u233 :: u234 :: u235 :: []).toArray, []⟩ w)
    {u2 u3 u4 u5 u7 u8 u9 u10 u11 u12 u13 u14 u15 u16 u17 u18 u19 u20 u21 u22 u23 u24 u25 u26 u27 u28 u29 u30 u31 u32 u33 u34 u35 u36 u37 u38 u39 u40 u41 u42 u43 u44 u45 u46 u47 u48 u49 u50 u51 u52 u53 u54 u55 u56 u57 u58 u59 u60 u61 u62 u63 u64 u65 u66 u67 u68 u69 u70 u71 u72 u73 u74 u75 u76 u77 u78 u79 u80 u81 u82 u83 u84 u85 u86 u87 u88 u89 u90 u91 u92 u93 u94 u95 u96 u97 u98 u99 u100 u101 u102 u103 u104 u105 u106 u107 u108 u109 u110 u111 u112 u113 u114 u115 u116 u117 u118 u119 u120 u121 u122 u123 u124 u125 u126 u127 u128 u129 u130 u131 u132 u133 u134 u135 u136 u137 u138 u139 u140 u141 u142 u143 u144 u145 u146 u147 u148 u149 u150 u151 u152 u153 u154 u155 u156 u157 u158 u159 u160 u161 u162 u163 u164 u165 u166 u167 u168 u169 u170 u171 u172 u173 u174 u175 u176 u177 u178 u179 u180 u181 u182 u183 u184 u185 u186 u187 u188 u189 u190 u191 u192 u193 u194 u195 u196 u197 u198 u199 u200 u201 u202 u203 u204 u205 u206 u207 u208 u209 u210 u211 u212 u213 u214 u215 u216 u217 u218 u219 u220 u221 u222 u223 u224 u225 u226 u227 u228 u229 u230 u231 u232 u233 u234 u235 : Value} :
    Code.wp Try.prog (exp44 0) (Exit.then K (bodyPost Try.prog Try.f44 (PcPost m out ln dp w0 p (number m.zs p)))) ⟨(.pointer (some ⟨m.M, 0, none⟩) :: .int .i64 q2 :: u2 :: u3 :: u4 :: u5 :: .int .i64 p :: u7 :: u8 :: u9 :: u10 :: u11 :: u12 :: u13 :: u14 :: u15 :: u16 :: u17 :: u18 :: u19 :: u20 :: u21 :: u22 :: u23 :: u24 :: u25 :: u26 :: u27 :: u28 :: u29 :: u30 :: u31 :: u32 :: u33 :: u34 :: u35 :: u36 :: u37 :: u38 :: u39 :: u40 :: u41 :: u42 :: u43 :: u44 :: u45 :: u46 :: u47 :: u48 :: u49 :: u50 :: u51 :: u52 :: u53 :: u54 :: u55 :: u56 :: u57 :: u58 :: u59 :: u60 :: u61 :: u62 :: u63 :: u64 :: u65 :: u66 :: u67 :: u68 :: u69 :: u70 :: u71 :: u72 :: u73 :: u74 :: u75 :: u76 :: u77 :: u78 :: u79 :: u80 :: u81 :: u82 :: u83 :: u84 :: u85 :: u86 :: u87 :: u88 :: u89 :: u90 :: u91 :: u92 :: u93 :: u94 :: u95 :: u96 :: u97 :: u98 :: u99 :: u100 :: u101 :: u102 :: u103 :: u104 :: u105 :: u106 :: u107 :: u108 :: u109 :: u110 :: u111 :: u112 :: u113 :: u114 :: u115 :: u116 :: u117 :: u118 :: u119 :: u120 :: u121 :: u122 :: u123 :: u124 :: u125 :: u126 :: u127 :: u128 :: u129 :: u130 :: u131 :: u132 :: u133 :: u134 :: u135 :: u136 :: u137 :: u138 :: u139 :: u140 :: u141 :: u142 :: u143 :: u144 :: u145 :: u146 :: u147 :: u148 :: u149 :: u150 :: u151 :: u152 :: u153 :: u154 :: u155 :: u156 :: u157 :: u158 :: u159 :: u160 :: u161 :: u162 :: u163 :: u164 :: u165 :: u166 :: u167 :: u168 :: u169 :: u170 :: u171 :: u172 :: u173 :: u174 :: u175 :: u176 :: u177 :: u178 :: u179 :: u180 :: u181 :: u182 :: u183 :: u184 :: u185 :: u186 :: u187 :: u188 :: u189 :: u190 :: u191 :: u192 :: u193 :: u194 :: u195 :: u196 :: u197 :: u198 :: u199 :: u200 :: u201 :: u202 :: u203 :: u204 :: u205 :: u206 :: u207 :: u208 :: u209 :: u210 :: u211 :: u212 :: u213 :: u214 :: u215 :: u216 :: u217 :: u218 :: u219 :: u220 :: u221 :: u222 :: u223 :: u224 :: u225 :: u226 :: u227 :: u228 :: u229 :: u230 :: u231 :: u232 :: u233 :: u234 :: u235 :: []).toArray, []⟩ w := by
  have hzl := h.bytes.1
  obtain ⟨b, off, ha, hbW, c0, HC⟩ := h.open_ (by omega)
  have HK : Hid _ := @hK
  clear hK
  have HNO : Hid _ := hno
  clear hno
  obtain ⟨B3, hB3⟩ : ∃ B, B = (isAt m.zs (q2 + 1) 43 || isAt m.zs (q2 + 1) 45) := ⟨_, rfl⟩
  have HB3 : Hid _ := hB3
  clear hB3
  conv => arg 2; whnf
  go_upto_region 18 with fail
  go_cut [179] (fun t wx => t = .bool B3 ∧ wx = w)
  case first =>
    by_cases hjl : q2 + 1 < m.len
    · have hcc := HC.out (q2 + 1) hjl
      obtain ⟨x, hx⟩ : ∃ x, m.zs.getD (q2 + 1) 0 = x := ⟨_, rfl⟩
      rw [hx] at hcc
      have hbx : B3 = ((x == 43) || (x == 45)) := by rw [HB3.out]; unfold isAt; rw [hx, decide_eq_true (by (go_light; omega) : q2 + 1 < m.zs.length)]; rfl
      clear hx
      cases hx1 : (x == 43) <;> cases hx2 : (x == 45)
      all_goals
        rw [hx1, hx2] at hbx
        have HBX : Hid _ := hbx
        clear hbx
        go_wp2
        go_meet
        exact ⟨by rw [HBX.out]; rfl, rfl⟩
    · have hbx : B3 = false := by rw [HB3.out]; unfold isAt; rw [decide_eq_false (by (go_light; omega) : ¬ q2 + 1 < m.zs.length)]; rfl
      have HBX : Hid _ := hbx
      clear hbx
      go_wp2
      go_meet
      exact ⟨by rw [HBX.out], rfl⟩
  case rest =>
    obtain ⟨rfl, rfl⟩ := hcut
    go_upto_if 179 with fail
    go_cut [1] (fun t wx => t = .int .i64 (expSign m.zs (q2 + 1)) ∧ wx = wc)
    case first =>
      cases B3
      · have : expSign m.zs (q2 + 1) = q2 + 1 := by unfold expSign; rw [← HB3.out]; rfl
        go_wp2_with fail
        go_meet
        exact ⟨by rw [this]; go_num, rfl⟩
      · have : expSign m.zs (q2 + 1) = q2 + 1 + 1 := by unfold expSign; rw [← HB3.out]; rfl
        go_wp2_with fail
        go_meet
        exact ⟨by rw [this]; go_num, rfl⟩
    case rest =>
      obtain ⟨rfl, rfl⟩ := hcut
      go_step
      exact exp_test m out ln dp p _ w0 h hb0 hlen hp hol _ HNO.out K HK.out

set_option maxRecDepth 100000 in
set_option maxHeartbeats 4000000 in
theorem exp_cond (m : Mod) (out : List Int) (ln dp p : Nat) (w w0 : World) (h : MI w m out ln dp) (hb0 : Below m.M w0 w) (hlen : m.len ≤ 1048576) (hp : p < m.len) (hol : out.length + m.len + 20 ≤ 140737488355328) (q2 : Nat) (hno : expEnd m.zs q2 = none → number m.zs p = none) (K : Act → World → Prop)
    (hK : ∀ D, expEnd m.zs q2 = some D → ∀ {u2 u3 u4 u5 u7 u8 u9 u10 u11 u12 u13 u14 u15 u16 u17 u18 u19 u20 u21 u22 u23 u24 u25 u26 u27 u28 u29 u30 u31 u32 u33 u34 u35 u36 u37 u38 u39 u40 u41 u42 u43 u44 u45 u46 u47 u48 u49 u50 u51 u52 u53 u54 u55 u56 u57 u58 u59 u60 u61 u62 u63 u64 u65 u66 u67 u68 u69 u70 u71 u72 u73 u74 u75 u76 u77 u78 u79 u80 u81 u82 u83 u84 u85 u86 u87 u88 u89 u90 u91 u92 u93 u94 u95 u96 u97 u98 u99 u100 u101 u102 u103 u104 u105 u106 u107 u108 u109 u110 u111 u112 u113 u114 u115 u116 u117 u118 u119 u120 u121 u122 u123 u124 u125 u126 u127 u128 u129 u130 u131 u132 u133 u134 u135 u136 u137 u138 u139 u140 u141 u142 u143 u144 u145 u146 u147 u148 u149 u150 u151 u152 u153 u154 u155 u156 u157 u158 u159 u160 u161 u162 u163 u164 u165 u166 u167 u168 u169 u170 u171 u172 u173 u174 u175 u176 u177 u178 u179 u180 u181 u182 u183 u184 u185 u186 u187 u188 u189 u190 u191 u192 u193 u194 u195 u196 u197 u198 u199 u200 u201 u202 u203 u204 u205 u206 u207 u208 u209 u210 u211 u212 u213 u214 u215 u216 u217 u218 u219 u220 u221 u222 u223 u224 u225 u226 u227 u228 u229 u230 u231 u232 u233 u234 u235 : Value}, K ⟨(.pointer (some ⟨m.M, 0, none⟩) :: .int .i64 D :: u2 :: u3 :: u4 :: u5 :: .int .i64 p :: u7 :: u8 :: u9 :: u10 :: u11 :: u12 :: u13 :: u14 :: u15 :: u16 :: u17 :: u18 :: u19 :: u20 :: u21 :: u22 :: u23 :: u24 :: u25 :: u26 :: u27 :: u28 :: u29 :: u30 :: u31 :: u32 :: u33 :: u34 :: u35 :: u36 :: u37 :: u38 :: u39 :: u40 :: u41 :: u42 :: u43 :: u44 :: u45 :: u46 :: u47 :: u48 :: u49 :: u50 :: u51 :: u52 :: u53 :: u54 :: u55 :: u56 :: u57 :: u58 :: u59 :: u60 :: u61 :: u62 :: u63 :: u64 :: u65 :: u66 :: u67 :: u68 :: u69 :: u70 :: u71 :: u72 :: u73 :: u74 :: u75 :: u76 :: u77 :: u78 :: u79 :: u80 :: u81 :: u82 :: u83 :: u84 :: u85 :: u86 :: u87 :: u88 :: u89 :: u90 :: u91 :: u92 :: u93 :: u94 :: u95 :: u96 :: u97 :: u98 :: u99 :: u100 :: u101 :: u102 :: u103 :: u104 :: u105 :: u106 :: u107 :: u108 :: u109 :: u110 :: u111 :: u112 :: u113 :: u114 :: u115 :: u116 :: u117 :: u118 :: u119 :: u120 :: u121 :: u122 :: u123 :: u124 :: u125 :: u126 :: u127 :: u128 :: u129 :: u130 :: u131 :: u132 :: u133 :: u134 :: u135 :: u136 :: u137 :: u138 :: u139 :: u140 :: u141 :: u142 :: u143 :: u144 :: u145 :: u146 :: u147 :: u148 :: u149 :: u150 :: u151 :: u152 :: u153 :: u154 :: u155 :: u156 :: u157 :: u158 :: u159 :: u160 :: u161 :: u162 :: u163 :: u164 :: u165 :: u166 :: u167 :: u168 :: u169 :: u170 :: u171 :: u172 :: u173 :: u174 :: u175 :: u176 :: u177 :: u178 :: u179 :: u180 :: u181 :: u182 :: u183 :: u184 :: u185 :: u186 :: u187 :: u188 :: u189 :: u190 :: u191 :: u192 :: u193 :: u194 :: u195 :: u196 :: u197 :: u198 :: u199 :: u200 :: u201 :: u202 :: u203 :: u204 :: u205 :: u206 :: u207 :: u208 :: u209 :: u210 :: u211 :: u212 :: u213 :: u214 :: u215 :: u216 :: u217 :: u218 :: u219 :: u220 :: u221 :: u222 :: u223 :: u224 :: u225 :: u226 :: u227 :: u228 :: u229 :: u230 :: u231 :: u232 :: u233 :: u234 :: u235 :: []).toArray, []⟩ w)
    {u2 u3 u4 u5 u7 u8 u9 u10 u11 u12 u13 u14 u15 u16 u17 u18 u19 u20 u21 u22 u23 u24 u25 u26 u27 u28 u29 u30 u31 u32 u33 u34 u35 u36 u37 u38 u39 u40 u41 u42 u43 u44 u45 u46 u47 u48 u49 u50 u51 u52 u53 u54 u55 u56 u57 u58 u59 u60 u61 u62 u63 u64 u65 u66 u67 u68 u69 u70 u71 u72 u73 u74 u75 u76 u77 u78 u79 u80 u81 u82 u83 u84 u85 u86 u87 u88 u89 u90 u91 u92 u93 u94 u95 u96 u97 u98 u99 u100 u101 u102 u103 u104 u105 u106 u107 u108 u109 u110 u111 u112 u113 u114 u115 u116 u117 u118 u119 u120 u121 u122 u123 u124 u125 u126 u127 u128 u129 u130 u131 u132 u133 u134 u135 u136 u137 u138 u139 u140 u141 u142 u143 u144 u145 u146 u147 u148 u149 u151 u152 u153 u154 u155 u156 u157 u158 u159 u160 u161 u162 u163 u164 u165 u166 u167 u168 u169 u170 u171 u172 u173 u174 u175 u176 u177 u178 u179 u180 u181 u182 u183 u184 u185 u186 u187 u188 u189 u190 u191 u192 u193 u194 u195 u196 u197 u198 u199 u200 u201 u202 u203 u204 u205 u206 u207 u208 u209 u210 u211 u212 u213 u214 u215 u216 u217 u218 u219 u220 u221 u222 u223 u224 u225 u226 u227 u228 u229 u230 u231 u232 u233 u234 u235 : Value} :
    Code.wp Try.prog (dropS 1 (seqL (tail44 6))) (Exit.then K (bodyPost Try.prog Try.f44 (PcPost m out ln dp w0 p (number m.zs p)))) ⟨(.pointer (some ⟨m.M, 0, none⟩) :: .int .i64 q2 :: u2 :: u3 :: u4 :: u5 :: .int .i64 p :: u7 :: u8 :: u9 :: u10 :: u11 :: u12 :: u13 :: u14 :: u15 :: u16 :: u17 :: u18 :: u19 :: u20 :: u21 :: u22 :: u23 :: u24 :: u25 :: u26 :: u27 :: u28 :: u29 :: u30 :: u31 :: u32 :: u33 :: u34 :: u35 :: u36 :: u37 :: u38 :: u39 :: u40 :: u41 :: u42 :: u43 :: u44 :: u45 :: u46 :: u47 :: u48 :: u49 :: u50 :: u51 :: u52 :: u53 :: u54 :: u55 :: u56 :: u57 :: u58 :: u59 :: u60 :: u61 :: u62 :: u63 :: u64 :: u65 :: u66 :: u67 :: u68 :: u69 :: u70 :: u71 :: u72 :: u73 :: u74 :: u75 :: u76 :: u77 :: u78 :: u79 :: u80 :: u81 :: u82 :: u83 :: u84 :: u85 :: u86 :: u87 :: u88 :: u89 :: u90 :: u91 :: u92 :: u93 :: u94 :: u95 :: u96 :: u97 :: u98 :: u99 :: u100 :: u101 :: u102 :: u103 :: u104 :: u105 :: u106 :: u107 :: u108 :: u109 :: u110 :: u111 :: u112 :: u113 :: u114 :: u115 :: u116 :: u117 :: u118 :: u119 :: u120 :: u121 :: u122 :: u123 :: u124 :: u125 :: u126 :: u127 :: u128 :: u129 :: u130 :: u131 :: u132 :: u133 :: u134 :: u135 :: u136 :: u137 :: u138 :: u139 :: u140 :: u141 :: u142 :: u143 :: u144 :: u145 :: u146 :: u147 :: u148 :: u149 :: .bool (isAt m.zs q2 101 || isAt m.zs q2 69) :: u151 :: u152 :: u153 :: u154 :: u155 :: u156 :: u157 :: u158 :: u159 :: u160 :: u161 :: u162 :: u163 :: u164 :: u165 :: u166 :: u167 :: u168 :: u169 :: u170 :: u171 :: u172 :: u173 :: u174 :: u175 :: u176 :: u177 :: u178 :: u179 :: u180 :: u181 :: u182 :: u183 :: u184 :: u185 :: u186 :: u187 :: u188 :: u189 :: u190 :: u191 :: u192 :: u193 :: u194 :: u195 :: u196 :: u197 :: u198 :: u199 :: u200 :: u201 :: u202 :: u203 :: u204 :: u205 :: u206 :: u207 :: u208 :: u209 :: u210 :: u211 :: u212 :: u213 :: u214 :: u215 :: u216 :: u217 :: u218 :: u219 :: u220 :: u221 :: u222 :: u223 :: u224 :: u225 :: u226 :: u227 :: u228 :: u229 :: u230 :: u231 :: u232 :: u233 :: u234 :: u235 :: []).toArray, []⟩ w := by
  have hzl := h.bytes.1
  have HK : Hid _ := @hK
  clear hK
  have HNO : Hid _ := hno
  clear hno
  obtain ⟨B2, hB2⟩ : ∃ B, (isAt m.zs q2 101 || isAt m.zs q2 69) = B := ⟨_, rfl⟩
  rw [hB2]
  have HB2 : Hid _ := hB2
  clear hB2
  conv => arg 2; whnf
  cases B2
  · have HF : Hid (expEnd m.zs q2 = some q2) := show _ = _ by unfold expEnd; rw [HB2.out]; rfl
    go_wp2_with fail
    exact HK.out q2 HF.out
  · have hj2 : q2 < m.zs.length := by
      rcases Bool.or_eq_true _ _ ▸ HB2.out with h1 | h1
      · exact ((isAt_iff _ _ _).1 h1).1
      · exact ((isAt_iff _ _ _).1 h1).1
    go_step
    exact exp_in m out ln dp p _ w0 h hb0 hlen hp hol q2 (by (go_light; omega)) (fun e => HNO.out (by unfold expEnd; rw [HB2.out, if_pos rfl, e]; rfl)) K (fun e D hD => HK.out D (by unfold expEnd; rw [HB2.out, if_pos rfl, e, if_pos rfl, hD]))

set_option maxRecDepth 100000 in
set_option maxHeartbeats 4000000 in
theorem num_t6 (m : Mod) (out : List Int) (ln dp p : Nat) (w w0 : World) (h : MI w m out ln dp) (hb0 : Below m.M w0 w) (hlen : m.len ≤ 1048576) (hp : p < m.len) (hol : out.length + m.len + 20 ≤ 140737488355328) (q2 : Nat) (hq2b : q2 ≤ m.len) (hne : numEnd m.zs p = expEnd m.zs q2)
    {u2 u3 u4 u5 u7 u8 u9 u10 u11 u12 u13 u14 u15 u16 u17 u18 u19 u20 u21 u22 u23 u24 u25 u26 u27 u28 u29 u30 u31 u32 u33 u34 u35 u36 u37 u38 u39 u40 u41 u42 u43 u44 u45 u46 u47 u48 u49 u50 u51 u52 u53 u54 u55 u56 u57 u58 u59 u60 u61 u62 u63 u64 u65 u66 u67 u68 u69 u70 u71 u72 u73 u74 u75 u76 u77 u78 u79 u80 u81 u82 u83 u84 u85 u86 u87 u88 u89 u90 u91 u92 u93 u94 u95 u96 u97 u98 u99 u100 u101 u102 u103 u104 u105 u106 u107 u108 u109 u110 u111 u112 u113 u114 u115 u116 u117 u118 u119 u120 u121 u122 u123 u124 u125 u126 u127 u128 u129 u130 u131 u132 u133 u134 u135 u136 u137 u138 u139 u140 u141 u142 u143 u144 u145 u146 u147 u148 u149 u150 u151 u152 u153 u154 u155 u156 u157 u158 u159 u160 u161 u162 u163 u164 u165 u166 u167 u168 u169 u170 u171 u172 u173 u174 u175 u176 u177 u178 u179 u180 u181 u182 u183 u184 u185 u186 u187 u188 u189 u190 u191 u192 u193 u194 u195 u196 u197 u198 u199 u200 u201 u202 u203 u204 u205 u206 u207 u208 u209 u210 u211 u212 u213 u214 u215 u216 u217 u218 u219 u220 u221 u222 u223 u224 u225 u226 u227 u228 u229 u230 u231 u232 u233 u234 u235 : Value} :
    Code.wp Try.prog (tail44 6) (bodyPost Try.prog Try.f44 (PcPost m out ln dp w0 p (number m.zs p))) ⟨(.pointer (some ⟨m.M, 0, none⟩) :: .int .i64 q2 :: u2 :: u3 :: u4 :: u5 :: .int .i64 p :: u7 :: u8 :: u9 :: u10 :: u11 :: u12 :: u13 :: u14 :: u15 :: u16 :: u17 :: u18 :: u19 :: u20 :: u21 :: u22 :: u23 :: u24 :: u25 :: u26 :: u27 :: u28 :: u29 :: u30 :: u31 :: u32 :: u33 :: u34 :: u35 :: u36 :: u37 :: u38 :: u39 :: u40 :: u41 :: u42 :: u43 :: u44 :: u45 :: u46 :: u47 :: u48 :: u49 :: u50 :: u51 :: u52 :: u53 :: u54 :: u55 :: u56 :: u57 :: u58 :: u59 :: u60 :: u61 :: u62 :: u63 :: u64 :: u65 :: u66 :: u67 :: u68 :: u69 :: u70 :: u71 :: u72 :: u73 :: u74 :: u75 :: u76 :: u77 :: u78 :: u79 :: u80 :: u81 :: u82 :: u83 :: u84 :: u85 :: u86 :: u87 :: u88 :: u89 :: u90 :: u91 :: u92 :: u93 :: u94 :: u95 :: u96 :: u97 :: u98 :: u99 :: u100 :: u101 :: u102 :: u103 :: u104 :: u105 :: u106 :: u107 :: u108 :: u109 :: u110 :: u111 :: u112 :: u113 :: u114 :: u115 :: u116 :: u117 :: u118 :: u119 :: u120 :: u121 :: u122 :: u123 :: u124 :: u125 :: u126 :: u127 :: u128 :: u129 :: u130 :: u131 :: u132 :: u133 :: u134 :: u135 :: u136 :: u137 :: u138 :: u139 :: u140 :: u141 :: u142 :: u143 :: u144 :: u145 :: u146 :: u147 :: u148 :: u149 :: u150 :: u151 :: u152 :: u153 :: u154 :: u155 :: u156 :: u157 :: u158 :: u159 :: u160 :: u161 :: u162 :: u163 :: u164 :: u165 :: u166 :: u167 :: u168 :: u169 :: u170 :: u171 :: u172 :: u173 :: u174 :: u175 :: u176 :: u177 :: u178 :: u179 :: u180 :: u181 :: u182 :: u183 :: u184 :: u185 :: u186 :: u187 :: u188 :: u189 :: u190 :: u191 :: u192 :: u193 :: u194 :: u195 :: u196 :: u197 :: u198 :: u199 :: u200 :: u201 :: u202 :: u203 :: u204 :: u205 :: u206 :: u207 :: u208 :: u209 :: u210 :: u211 :: u212 :: u213 :: u214 :: u215 :: u216 :: u217 :: u218 :: u219 :: u220 :: u221 :: u222 :: u223 :: u224 :: u225 :: u226 :: u227 :: u228 :: u229 :: u230 :: u231 :: u232 :: u233 :: u234 :: u235 :: []).toArray, []⟩ w := by
  have hzl := h.bytes.1
  obtain ⟨b, off, ha, hbW, c0, HC⟩ := h.open_ (by omega)
  have HNE : Hid _ := hne
  clear hne
  obtain ⟨B2, hB2⟩ : ∃ B, B = (isAt m.zs q2 101 || isAt m.zs q2 69) := ⟨_, rfl⟩
  have HB2 : Hid _ := hB2
  clear hB2
  conv => arg 2; whnf
  go_upto_region 16 with fail
  go_cut [150] (fun t wx => t = .bool B2 ∧ wx = w)
  case first =>
    by_cases hjl : q2 < m.len
    · have hcc := HC.out (q2) hjl
      obtain ⟨x, hx⟩ : ∃ x, m.zs.getD (q2) 0 = x := ⟨_, rfl⟩
      rw [hx] at hcc
      have hbx : B2 = ((x == 101) || (x == 69)) := by rw [HB2.out]; unfold isAt; rw [hx, decide_eq_true (by (go_light; omega) : q2 < m.zs.length)]; rfl
      clear hx
      cases hx1 : (x == 101) <;> cases hx2 : (x == 69)
      all_goals
        rw [hx1, hx2] at hbx
        have HBX : Hid _ := hbx
        clear hbx
        go_wp2
        go_meet
        exact ⟨by rw [HBX.out]; rfl, rfl⟩
    · have hbx : B2 = false := by rw [HB2.out]; unfold isAt; rw [decide_eq_false (by (go_light; omega) : ¬ q2 < m.zs.length)]; rfl
      have HBX : Hid _ := hbx
      clear hbx
      go_wp2
      go_meet
      exact ⟨by rw [HBX.out], rfl⟩
  case rest =>
    obtain ⟨rfl, rfl⟩ := hcut
    rw [HB2.out]
    go_upto_if 150 with fail
    refine exp_cond m out ln dp p _ w0 h hb0 hlen hp hol q2 (fun e => by unfold number; rw [HNE.out, e]; rfl) _ (fun D hE => ?_)
    have hq3b := numEnd_run (by (go_light; omega)) (HNE.out.trans hE)
    have h1 := hq3b.1.1
    have h2 := hq3b.1.2.1
    intros
    go_step
    exact num_t7 m out ln dp p D _ w0 h hb0 hlen hp h1 (by rw [← hzl]; exact h2) hol (HNE.out.trans hE)

end Go.Proofs.Qxb6603067a
