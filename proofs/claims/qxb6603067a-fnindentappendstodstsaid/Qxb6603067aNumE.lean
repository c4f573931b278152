/-
  THE WALK of the layout model's number (44), cut into declarations: the integer part, the sign; the whole.
-/
import Derived.Test.Qxb6603067aNumD
namespace Go.Proofs.Qxb6603067a
open Go.RowKit
open Plain

set_option maxRecDepth 100000 in
set_option maxHeartbeats 4000000 in
theorem int_cond (m : Mod) (out : List Int) (ln dp p : Nat) (w : World) (h : MI w m out ln dp) (hlen : m.len ≤ 1048576) (s : Nat) (hs : s < m.len) (K : Act → World → Prop) (Q0 : Exit → Act → World → Prop)
    (hK : ∀ {u2 u3 u4 u5 u7 u8 u9 u10 u11 u12 u13 u14 u15 u16 u17 u18 u19 u20 u21 u22 u23 u24 u25 u26 u27 u28 u29 u30 u31 u32 u33 u34 u35 u36 u37 u38 u39 u40 u41 u42 u43 u44 u45 u46 u47 u48 u49 u50 u51 u52 u53 u54 u55 u56 u57 u58 u59 u60 u61 u62 u63 u64 u65 u66 u67 u68 u69 u70 u71 u72 u73 u74 u75 u76 u77 u78 u79 u80 u81 u82 u83 u84 u85 u86 u87 u88 u89 u90 u91 u92 u93 u94 u95 u96 u97 u98 u99 u100 u101 u102 u103 u104 u105 u106 u107 u108 u109 u110 u111 u112 u113 u114 u115 u116 u117 u118 u119 u120 u121 u122 u123 u124 u125 u126 u127 u128 u129 u130 u131 u132 u133 u134 u135 u136 u137 u138 u139 u140 u141 u142 u143 u144 u145 u146 u147 u148 u149 u150 u151 u152 u153 u154 u155 u156 u157 u158 u159 u160 u161 u162 u163 u164 u165 u166 u167 u168 u169 u170 u171 u172 u173 u174 u175 u176 u177 u178 u179 u180 u181 u182 u183 u184 u185 u186 u187 u188 u189 u190 u191 u192 u193 u194 u195 u196 u197 u198 u199 u200 u201 u202 u203 u204 u205 u206 u207 u208 u209 u210 u211 u212 u213 u214 u215 u216 u217 u218 u219 u220 u221 u222 u223 u224 u225 u226 u227 u228 u229 u230 u231 u232 u233 u234 u235 : Value}, K ⟨(.pointer (some ⟨m.M, 0, none⟩) :: .int .i64 (intEnd m.zs s) :: u2 :: u3 :: u4 :: u5 :: .int .i64 p :: u7 :: u8 :: u9 :: u10 :: u11 :: u12 :: u13 :: u14 :: u15 :: u16 :: u17 :: u18 :: u19 :: u20 :: u21 :: u22 :: u23 :: u24 :: u25 :: u26 :: u27 :: u28 :: u29 :: u30 :: u31 :: u32 :: u33 :: u34 :: u35 :: u36 :: u37 :: u38 :: u39 :: u40 :: u41 :: u42 :: u43 :: u44 :: u45 :: u46 :: u47 :: u48 :: u49 :: u50 :: u51 :: u52 :: u53 :: u54 :: u55 :: u56 :: u57 :: u58 :: u59 :: u60 :: u61 :: u62 :: u63 :: u64 :: u65 :: u66 :: u67 :: u68 :: u69 :: u70 :: u71 :: u72 :: u73 :: u74 :: u75 :: u76 :: u77 :: u78 :: u79 :: u80 :: u81 :: u82 :: u83 :: u84 :: u85 :: u86 :: u87 :: u88 :: u89 :: u90 :: u91 :: u92 :: u93 :: u94 :: u95 :: u96 :: u97 :: u98 :: u99 :: u100 :: u101 :: u102 :: u103 :: u104 :: u105 :: u106 :: u107 :: u108 :: u109 :: u110 :: u111 :: u112 :: u113 :: u114 :: u115 :: u116 :: u117 :: u118 :: u119 :: u120 :: u121 :: u122 :: u123 :: u124 :: u125 :: u126 :: u127 :: u128 :: u129 :: u130 :: u131 :: u132 :: u133 :: u134 :: u135 :: u136 :: u137 :: u138 :: u139 :: u140 :: u141 :: u142 :: u143 :: u144 :: u145 :: u146 :: u147 :: u148 :: u149 :: u150 :: u151 :: u152 :: u153 :: u154 :: u155 :: u156 :: u157 :: u158 :: u159 :: u160 :: u161 :: u162 :: u163 :: u164 :: u165 :: u166 :: u167 :: u168 :: u169 :: u170 :: u171 :: u172 :: u173 :: u174 :: u175 :: u176 :: u177 :: u178 :: u179 :: u180 :: u181 :: u182 :: u183 :: u184 :: u185 :: u186 :: u187 :: u188 :: u189 :: u190 :: u191 :: u192 :: u193 :: u194 :: u195 :: u196 :: u197 :: u198 :: u199 :: u200 :: u201 :: u202 :: u203 :: u204 :: u205 :: u206 :: u207 :: u208 :: u209 :: u210 :: u211 :: u212 :: u213 :: u214 :: u215 :: u216 :: u217 :: u218 :: u219 :: u220 :: u221 :: u222 :: u223 :: u224 :: u225 :: u226 :: u227 :: u228 :: u229 :: u230 :: u231 :: u232 :: u233 :: u234 :: u235 :: []).toArray, []⟩ w)
    {u2 u3 u4 u5 u7 u8 u9 u10 u11 u12 u13 u14 u15 u16 u17 u18 u19 u20 u21 u22 u23 u24 u25 u26 u27 u28 u29 u30 u31 u32 u33 u34 u35 u36 u37 u38 u39 u40 u41 u42 u43 u44 u46 u47 u48 u49 u50 u51 u52 u53 u54 u55 u56 u57 u58 u59 u60 u61 u62 u63 u64 u65 u66 u67 u68 u69 u70 u71 u72 u73 u74 u75 u76 u77 u78 u79 u80 u81 u82 u83 u84 u85 u86 u87 u88 u89 u90 u91 u92 u93 u94 u95 u96 u97 u98 u99 u100 u101 u102 u103 u104 u105 u106 u107 u108 u109 u110 u111 u112 u113 u114 u115 u116 u117 u118 u119 u120 u121 u122 u123 u124 u125 u126 u127 u128 u129 u130 u131 u132 u133 u134 u135 u136 u137 u138 u139 u140 u141 u142 u143 u144 u145 u146 u147 u148 u149 u150 u151 u152 u153 u154 u155 u156 u157 u158 u159 u160 u161 u162 u163 u164 u165 u166 u167 u168 u169 u170 u171 u172 u173 u174 u175 u176 u177 u178 u179 u180 u181 u182 u183 u184 u185 u186 u187 u188 u189 u190 u191 u192 u193 u194 u195 u196 u197 u198 u199 u200 u201 u202 u203 u204 u205 u206 u207 u208 u209 u210 u211 u212 u213 u214 u215 u216 u217 u218 u219 u220 u221 u222 u223 u224 u225 u226 u227 u228 u229 u230 u231 u232 u233 u234 u235 : Value} :
    Code.wp Try.prog (dropS 1 (seqL (tail44 4))) (Exit.then K Q0) ⟨(.pointer (some ⟨m.M, 0, none⟩) :: .int .i64 s :: u2 :: u3 :: u4 :: u5 :: .int .i64 p :: u7 :: u8 :: u9 :: u10 :: u11 :: u12 :: u13 :: u14 :: u15 :: u16 :: u17 :: u18 :: u19 :: u20 :: u21 :: u22 :: u23 :: u24 :: u25 :: u26 :: u27 :: u28 :: u29 :: u30 :: u31 :: u32 :: u33 :: u34 :: u35 :: u36 :: u37 :: u38 :: u39 :: u40 :: u41 :: u42 :: u43 :: u44 :: .bool (m.zs.getD s 0 == 48) :: u46 :: u47 :: u48 :: u49 :: u50 :: u51 :: u52 :: u53 :: u54 :: u55 :: u56 :: u57 :: u58 :: u59 :: u60 :: u61 :: u62 :: u63 :: u64 :: u65 :: u66 :: u67 :: u68 :: u69 :: u70 :: u71 :: u72 :: u73 :: u74 :: u75 :: u76 :: u77 :: u78 :: u79 :: u80 :: u81 :: u82 :: u83 :: u84 :: u85 :: u86 :: u87 :: u88 :: u89 :: u90 :: u91 :: u92 :: u93 :: u94 :: u95 :: u96 :: u97 :: u98 :: u99 :: u100 :: u101 :: u102 :: u103 :: u104 :: u105 :: u106 :: u107 :: u108 :: u109 :: u110 :: u111 :: u112 :: u113 :: u114 :: u115 :: u116 :: u117 :: u118 :: u119 :: u120 :: u121 :: u122 :: u123 :: u124 :: u125 :: u126 :: u127 :: u128 :: u129 :: u130 :: u131 :: u132 :: u133 :: u134 :: u135 :: u136 :: u137 :: u138 :: u139 :: u140 :: u141 :: u142 :: u143 :: u144 :: u145 :: u146 :: u147 :: u148 :: u149 :: u150 :: u151 :: u152 :: u153 :: u154 :: u155 :: u156 :: u157 :: u158 :: u159 :: u160 :: u161 :: u162 :: u163 :: u164 :: u165 :: u166 :: u167 :: u168 :: u169 :: u170 :: u171 :: u172 :: u173 :: u174 :: u175 :: u176 :: u177 :: u178 :: u179 :: u180 :: u181 :: u182 :: u183 :: u184 :: u185 :: u186 :: u187 :: u188 :: u189 :: u190 :: u191 :: u192 :: u193 :: u194 :: u195 :: u196 :: u197 :: u198 :: u199 :: u200 :: u201 :: u202 :: u203 :: u204 :: u205 :: u206 :: u207 :: u208 :: u209 :: u210 :: u211 :: u212 :: u213 :: u214 :: u215 :: u216 :: u217 :: u218 :: u219 :: u220 :: u221 :: u222 :: u223 :: u224 :: u225 :: u226 :: u227 :: u228 :: u229 :: u230 :: u231 :: u232 :: u233 :: u234 :: u235 :: []).toArray, []⟩ w := by
  have HK : Hid _ := @hK
  clear hK
  obtain ⟨B, hB⟩ : ∃ B, (m.zs.getD s 0 == 48) = B := ⟨_, rfl⟩
  rw [hB]
  have HB : Hid _ := hB
  clear hB
  conv => arg 2; whnf
  cases B
  · have HQ : Hid (intEnd m.zs s = dend m.zs s) := show _ = _ by unfold intEnd; rw [if_neg (by simpa using HB.out)]
    go_step
    refine int_loop m out ln dp p s _ _ h hlen hs rfl _ _ ?_
    rw [← HQ.out]
    exact HK.out
  · have HQ : intEnd m.zs s = s + 1 := by unfold intEnd; rw [if_pos (by simpa using HB.out)]
    go_wp2_with fail
    have hK2 := @HK.out
    rw [HQ] at hK2
    exact hK2

set_option maxRecDepth 100000 in
set_option maxHeartbeats 4000000 in
theorem num_t4 (m : Mod) (out : List Int) (ln dp p : Nat) (w w0 : World) (h : MI w m out ln dp) (hb0 : Below m.M w0 w) (hlen : m.len ≤ 1048576) (hp : p < m.len) (hol : out.length + m.len + 20 ≤ 140737488355328) (s : Nat) (hisD : isD m.zs s = true) (hne : numEnd m.zs p = (fracEnd m.zs (intEnd m.zs s)).bind (expEnd m.zs))
    {u2 u3 u4 u5 u7 u8 u9 u10 u11 u12 u13 u14 u15 u16 u17 u18 u19 u20 u21 u22 u23 u24 u25 u26 u27 u28 u29 u30 u31 u32 u33 u34 u35 u36 u37 u38 u39 u40 u41 u42 u43 u44 u45 u46 u47 u48 u49 u50 u51 u52 u53 u54 u55 u56 u57 u58 u59 u60 u61 u62 u63 u64 u65 u66 u67 u68 u69 u70 u71 u72 u73 u74 u75 u76 u77 u78 u79 u80 u81 u82 u83 u84 u85 u86 u87 u88 u89 u90 u91 u92 u93 u94 u95 u96 u97 u98 u99 u100 u101 u102 u103 u104 u105 u106 u107 u108 u109 u110 u111 u112 u113 u114 u115 u116 u117 u118 u119 u120 u121 u122 u123 u124 u125 u126 u127 u128 u129 u130 u131 u132 u133 u134 u135 u136 u137 u138 u139 u140 u141 u142 u143 u144 u145 u146 u147 u148 u149 u150 u151 u152 u153 u154 u155 u156 u157 u158 u159 u160 u161 u162 u163 u164 u165 u166 u167 u168 u169 u170 u171 u172 u173 u174 u175 u176 u177 u178 u179 u180 u181 u182 u183 u184 u185 u186 u187 u188 u189 u190 u191 u192 u193 u194 u195 u196 u197 u198 u199 u200 u201 u202 u203 u204 u205 u206 u207 u208 u209 u210 u211 u212 u213 u214 u215 u216 u217 u218 u219 u220 u221 u222 u223 u224 u225 u226 u227 u228 u229 u230 u231 u232 u233 u234 u235 : Value} :
    Code.wp Try.prog (tail44 4) (bodyPost Try.prog Try.f44 (PcPost m out ln dp w0 p (number m.zs p))) ⟨(.pointer (some ⟨m.M, 0, none⟩) :: .int .i64 s :: u2 :: u3 :: u4 :: u5 :: .int .i64 p :: u7 :: u8 :: u9 :: u10 :: u11 :: u12 :: u13 :: u14 :: u15 :: u16 :: u17 :: u18 :: u19 :: u20 :: u21 :: u22 :: u23 :: u24 :: u25 :: u26 :: u27 :: u28 :: u29 :: u30 :: u31 :: u32 :: u33 :: u34 :: u35 :: u36 :: u37 :: u38 :: u39 :: u40 :: u41 :: u42 :: u43 :: u44 :: u45 :: u46 :: u47 :: u48 :: u49 :: u50 :: u51 :: u52 :: u53 :: u54 :: u55 :: u56 :: u57 :: u58 :: u59 :: u60 :: u61 :: u62 :: u63 :: u64 :: u65 :: u66 :: u67 :: u68 :: u69 :: u70 :: u71 :: u72 :: u73 :: u74 :: u75 :: u76 :: u77 :: u78 :: u79 :: u80 :: u81 :: u82 :: u83 :: u84 :: u85 :: u86 :: u87 :: u88 :: u89 :: u90 :: u91 :: u92 :: u93 :: u94 :: u95 :: u96 :: u97 :: u98 :: u99 :: u100 :: u101 :: u102 :: u103 :: u104 :: u105 :: u106 :: u107 :: u108 :: u109 :: u110 :: u111 :: u112 :: u113 :: u114 :: u115 :: u116 :: u117 :: u118 :: u119 :: u120 :: u121 :: u122 :: u123 :: u124 :: u125 :: u126 :: u127 :: u128 :: u129 :: u130 :: u131 :: u132 :: u133 :: u134 :: u135 :: u136 :: u137 :: u138 :: u139 :: u140 :: u141 :: u142 :: u143 :: u144 :: u145 :: u146 :: u147 :: u148 :: u149 :: u150 :: u151 :: u152 :: u153 :: u154 :: u155 :: u156 :: u157 :: u158 :: u159 :: u160 :: u161 :: u162 :: u163 :: u164 :: u165 :: u166 :: u167 :: u168 :: u169 :: u170 :: u171 :: u172 :: u173 :: u174 :: u175 :: u176 :: u177 :: u178 :: u179 :: u180 :: u181 :: u182 :: u183 :: u184 :: u185 :: u186 :: u187 :: u188 :: u189 :: u190 :: u191 :: u192 :: u193 :: u194 :: u195 :: u196 :: u197 :: u198 :: u199 :: u200 :: u201 :: u202 :: u203 :: u204 :: u205 :: u206 :: u207 :: u208 :: u209 :: u210 :: u211 :: u212 :: u213 :: u214 :: u215 :: u216 :: u217 :: u218 :: u219 :: u220 :: u221 :: u222 :: u223 :: u224 :: u225 :: u226 :: u227 :: u228 :: u229 :: u230 :: u231 :: u232 :: u233 :: u234 :: u235 :: []).toArray, []⟩ w := by
  have hzl := h.bytes.1
  obtain ⟨b, off, ha, hbW, c0, HC⟩ := h.open_ (by omega)
  have HNE : Hid _ := hne
  clear hne
  obtain ⟨hsl, hdx⟩ := (isD_iff _ _).1 hisD
  clear hisD hdx
  have hcc := HC.out s (by omega)
  obtain ⟨x, hx⟩ : ∃ x, m.zs.getD s 0 = x := ⟨_, rfl⟩
  have HX : Hid _ := hx
  rw [hx] at hcc
  clear hx
  obtain ⟨q1, hq1⟩ : ∃ q, q = intEnd m.zs s := ⟨_, rfl⟩
  have HQ1 : Hid _ := hq1
  clear hq1
  have hq1b : q1 ≤ m.len := by
    rw [HQ1.out]; unfold intEnd
    split
    · omega
    · have := dend_le (c := m.zs) (j := s) (by omega); omega
  conv => arg 2; whnf
  go_upto_if 45 with fail
  rw [← HX.out]
  refine int_cond m out ln dp p _ h hlen s (by (go_light; omega)) _ _ ?_
  rw [← HQ1.out]
  intros
  go_step
  exact num_t5 m out ln dp p _ w0 h hb0 hlen hp hol q1 hq1b (by rw [HNE.out, HQ1.out])

set_option maxRecDepth 100000 in
set_option maxHeartbeats 4000000 in
theorem num_t3 (m : Mod) (out : List Int) (ln dp p : Nat) (w w0 : World) (h : MI w m out ln dp) (hb0 : Below m.M w0 w) (hlen : m.len ≤ 1048576) (hp : p < m.len) (hol : out.length + m.len + 20 ≤ 140737488355328) (s : Nat) (hs : s = sign m.zs p)
    {u2 u3 u4 u5 u7 u8 u9 u10 u11 u12 u13 u14 u15 u16 u17 u18 u19 u20 u21 u22 u23 u24 u25 u26 u27 u28 u29 u30 u31 u32 u33 u34 u35 u36 u37 u38 u39 u40 u41 u42 u43 u44 u45 u46 u47 u48 u49 u50 u51 u52 u53 u54 u55 u56 u57 u58 u59 u60 u61 u62 u63 u64 u65 u66 u67 u68 u69 u70 u71 u72 u73 u74 u75 u76 u77 u78 u79 u80 u81 u82 u83 u84 u85 u86 u87 u88 u89 u90 u91 u92 u93 u94 u95 u96 u97 u98 u99 u100 u101 u102 u103 u104 u105 u106 u107 u108 u109 u110 u111 u112 u113 u114 u115 u116 u117 u118 u119 u120 u121 u122 u123 u124 u125 u126 u127 u128 u129 u130 u131 u132 u133 u134 u135 u136 u137 u138 u139 u140 u141 u142 u143 u144 u145 u146 u147 u148 u149 u150 u151 u152 u153 u154 u155 u156 u157 u158 u159 u160 u161 u162 u163 u164 u165 u166 u167 u168 u169 u170 u171 u172 u173 u174 u175 u176 u177 u178 u179 u180 u181 u182 u183 u184 u185 u186 u187 u188 u189 u190 u191 u192 u193 u194 u195 u196 u197 u198 u199 u200 u201 u202 u203 u204 u205 u206 u207 u208 u209 u210 u211 u212 u213 u214 u215 u216 u217 u218 u219 u220 u221 u222 u223 u224 u225 u226 u227 u228 u229 u230 u231 u232 u233 u234 u235 : Value} :
    Code.wp Try.prog (tail44 3) (bodyPost Try.prog Try.f44 (PcPost m out ln dp w0 p (number m.zs p))) ⟨(.pointer (some ⟨m.M, 0, none⟩) :: .int .i64 s :: u2 :: u3 :: u4 :: u5 :: .int .i64 p :: u7 :: u8 :: u9 :: u10 :: u11 :: u12 :: u13 :: u14 :: u15 :: u16 :: u17 :: u18 :: u19 :: u20 :: u21 :: u22 :: u23 :: u24 :: u25 :: u26 :: u27 :: u28 :: u29 :: u30 :: u31 :: u32 :: u33 :: u34 :: u35 :: u36 :: u37 :: u38 :: u39 :: u40 :: u41 :: u42 :: u43 :: u44 :: u45 :: u46 :: u47 :: u48 :: u49 :: u50 :: u51 :: u52 :: u53 :: u54 :: u55 :: u56 :: u57 :: u58 :: u59 :: u60 :: u61 :: u62 :: u63 :: u64 :: u65 :: u66 :: u67 :: u68 :: u69 :: u70 :: u71 :: u72 :: u73 :: u74 :: u75 :: u76 :: u77 :: u78 :: u79 :: u80 :: u81 :: u82 :: u83 :: u84 :: u85 :: u86 :: u87 :: u88 :: u89 :: u90 :: u91 :: u92 :: u93 :: u94 :: u95 :: u96 :: u97 :: u98 :: u99 :: u100 :: u101 :: u102 :: u103 :: u104 :: u105 :: u106 :: u107 :: u108 :: u109 :: u110 :: u111 :: u112 :: u113 :: u114 :: u115 :: u116 :: u117 :: u118 :: u119 :: u120 :: u121 :: u122 :: u123 :: u124 :: u125 :: u126 :: u127 :: u128 :: u129 :: u130 :: u131 :: u132 :: u133 :: u134 :: u135 :: u136 :: u137 :: u138 :: u139 :: u140 :: u141 :: u142 :: u143 :: u144 :: u145 :: u146 :: u147 :: u148 :: u149 :: u150 :: u151 :: u152 :: u153 :: u154 :: u155 :: u156 :: u157 :: u158 :: u159 :: u160 :: u161 :: u162 :: u163 :: u164 :: u165 :: u166 :: u167 :: u168 :: u169 :: u170 :: u171 :: u172 :: u173 :: u174 :: u175 :: u176 :: u177 :: u178 :: u179 :: u180 :: u181 :: u182 :: u183 :: u184 :: u185 :: u186 :: u187 :: u188 :: u189 :: u190 :: u191 :: u192 :: u193 :: u194 :: u195 :: u196 :: u197 :: u198 :: u199 :: u200 :: u201 :: u202 :: u203 :: u204 :: u205 :: u206 :: u207 :: u208 :: u209 :: u210 :: u211 :: u212 :: u213 :: u214 :: u215 :: u216 :: u217 :: u218 :: u219 :: u220 :: u221 :: u222 :: u223 :: u224 :: u225 :: u226 :: u227 :: u228 :: u229 :: u230 :: u231 :: u232 :: u233 :: u234 :: u235 :: []).toArray, []⟩ w := by
  have hzl := h.bytes.1
  obtain ⟨b, off, ha, hbW, c0, HC⟩ := h.open_ (by omega)
  have HS : Hid _ := hs
  clear hs
  conv => arg 2; whnf
  cases hisD : isD m.zs s
  · have HN : Hid (number m.zs p = none) := show _ = _ by unfold number numEnd; rw [← HS.out, hisD]; rfl
    by_cases hsl : s < m.len
    · have hcc := HC.out s hsl
      obtain ⟨x, hx⟩ : ∃ x, m.zs.getD s 0 = x := ⟨_, rfl⟩
      rw [hx] at hcc
      have hxx : dg x = false := by
        cases hxx : dg x
        · rfl
        · exfalso
          rw [(isD_iff _ _).2 ⟨by (go_light; omega), by rw [hx]; exact hxx⟩] at hisD
          cases hisD
      clear hx hisD
      go_wp2_with (go_at_call 24; refine (digit_any x _).mono ?_; rw [hxx]; rintro z5 w5 ⟨rfl, rfl⟩)
      go_ret2
      exact .inr ⟨HN.out, s, out, by first | rfl | exact ret2 (by (go_light; omega)), h, hb0⟩
    · clear hisD
      go_wp2_with fail
      go_ret2
      exact .inr ⟨HN.out, s, out, by first | rfl | exact ret2 (by (go_light; omega)), h, hb0⟩
  · obtain ⟨hsl, hdx⟩ := (isD_iff _ _).1 hisD
    have HD : Hid _ := hisD
    clear hisD
    have hcc := HC.out s (by (go_light; omega))
    obtain ⟨x, hx⟩ : ∃ x, m.zs.getD s 0 = x := ⟨_, rfl⟩
    rw [hx] at hcc hdx
    clear hx
    have hxx : dg x = true := hdx
    clear hdx
    have hne : Hid (numEnd m.zs p = (fracEnd m.zs (intEnd m.zs s)).bind (expEnd m.zs)) := show _ = _ by unfold numEnd; rw [← HS.out, HD.out, if_pos rfl]
    go_step
    go_cut [1] (fun t wx => t = .int .i64 s ∧ wx = w)
    case first =>
      go_wp2_with (go_at_call 24; refine (digit_any x _).mono ?_; rw [hxx]; rintro z5 w5 ⟨rfl, rfl⟩)
      go_meet
      exact ⟨rfl, rfl⟩
    case rest =>
      obtain ⟨rfl, rfl⟩ := hcut
      go_step
      exact num_t4 m out ln dp p _ w0 h hb0 hlen hp hol s HD.out hne.out

set_option maxRecDepth 100000 in
set_option maxHeartbeats 4000000 in
theorem number_any (m : Mod) (out : List Int) (ln dp p : Nat) (w : World) (h : MI w m out ln dp) (hlen : m.len ≤ 1048576) (hp : p < m.len) (hol : out.length + m.len + 20 ≤ 140737488355328) :
    Calls Try.prog 44 #[.pointer (some ⟨m.M, 0, none⟩), .int .i64 p] w (PcPost m out ln dp w p (number m.zs p)) := by
  obtain ⟨b, off, ha, hbW, c0, HC⟩ := h.open_ (by omega)
  have hb0 : Below m.M w w := Below.refl _ _
  obtain ⟨s, hs⟩ : ∃ s, s = sign m.zs p := ⟨_, rfl⟩
  have HS : Hid _ := hs
  clear hs
  have hcp := HC.out p hp
  obtain ⟨y, hy⟩ : ∃ y, m.zs.getD p 0 = y := ⟨_, rfl⟩
  rw [hy] at hcp
  have HY : Hid _ := hy
  clear hy
  go_enter Try.func44, Try.ntmps44
  go_upto_if 16 with fail
  go_cut [1] (fun t wx => t = .int .i64 s ∧ wx = w)
  case first =>
    cases e45 : (y == 45)
    · have : s = p := by rw [HS.out]; unfold sign; rw [HY.out, if_neg (by simpa using e45)]
      go_wp2
      go_meet
      exact ⟨by rw [this], rfl⟩
    · have : s = p + 1 := by rw [HS.out]; unfold sign; rw [HY.out, if_pos (by simpa using e45)]
      go_wp2
      go_meet
      exact ⟨by rw [this]; go_num, rfl⟩
  case rest =>
    obtain ⟨rfl, rfl⟩ := hcut
    go_step
    exact num_t3 m out ln dp p _ _ h hb0 hlen hp hol s HS.out
end Go.Proofs.Qxb6603067a
