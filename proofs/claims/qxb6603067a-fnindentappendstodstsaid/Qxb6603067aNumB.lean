/-
  THE WALK of the layout model's number (44), cut into declarations: the runs of digits.
-/
import Derived.Test.Qxb6603067aNumA
namespace Go.Proofs.Qxb6603067a
open Go.RowKit
open Plain

def seqL : Code → Code
  | .seq a _ => a
  | c => c
def condT : Code → Code
  | .cond _ a _ => a
  | c => c
def condF : Code → Code
  | .cond _ _ b => b
  | c => c
noncomputable def exp44 (n : Nat) : Code := dropS n (condT (dropS 1 (seqL (tail44 6))))
noncomputable def frac44 (n : Nat) : Code := dropS n (condT (dropS 1 (seqL (tail44 5))))
noncomputable def int44 : Code := condF (dropS 1 (seqL (tail44 4)))

set_option maxRecDepth 100000 in
set_option maxHeartbeats 4000000 in
theorem exp_loop (m : Mod) (out : List Int) (ln dp p J D : Nat) (w : World) (h : MI w m out ln dp) (hlen : m.len ≤ 1048576) (hJ : J < m.len) (hD : D = dend m.zs J) (K : Act → World → Prop) (Q0 : Exit → Act → World → Prop)
    (hK : ∀ {u2 u3 u4 u5 u7 u8 u9 u10 u11 u12 u13 u14 u15 u16 u17 u18 u19 u20 u21 u22 u23 u24 u25 u26 u27 u28 u29 u30 u31 u32 u33 u34 u35 u36 u37 u38 u39 u40 u41 u42 u43 u44 u45 u46 u47 u48 u49 u50 u51 u52 u53 u54 u55 u56 u57 u58 u59 u60 u61 u62 u63 u64 u65 u66 u67 u68 u69 u70 u71 u72 u73 u74 u75 u76 u77 u78 u79 u80 u81 u82 u83 u84 u85 u86 u87 u88 u89 u90 u91 u92 u93 u94 u95 u96 u97 u98 u99 u100 u101 u102 u103 u104 u105 u106 u107 u108 u109 u110 u111 u112 u113 u114 u115 u116 u117 u118 u119 u120 u121 u122 u123 u124 u125 u126 u127 u128 u129 u130 u131 u132 u133 u134 u135 u136 u137 u138 u139 u140 u141 u142 u143 u144 u145 u146 u147 u148 u149 u150 u151 u152 u153 u154 u155 u156 u157 u158 u159 u160 u161 u162 u163 u164 u165 u166 u167 u168 u169 u170 u171 u172 u173 u174 u175 u176 u177 u178 u179 u180 u181 u182 u183 u184 u185 u186 u187 u188 u189 u190 u191 u192 u193 u194 u195 u196 u197 u198 u199 u200 u201 u202 u203 u204 u205 u206 u207 u208 u209 u210 u211 u212 u213 u214 u215 u216 u217 u218 u219 u220 u221 u222 u223 u224 u225 u226 u227 u228 u229 u230 u231 u232 u233 u234 u235 : Value}, K ⟨(.pointer (some ⟨m.M, 0, none⟩) :: .int .i64 D :: u2 :: u3 :: u4 :: u5 :: .int .i64 p :: u7 :: u8 :: u9 :: u10 :: u11 :: u12 :: u13 :: u14 :: u15 :: u16 :: u17 :: u18 :: u19 :: u20 :: u21 :: u22 :: u23 :: u24 :: u25 :: u26 :: u27 :: u28 :: u29 :: u30 :: u31 :: u32 :: u33 :: u34 :: u35 :: u36 :: u37 :: u38 :: u39 :: u40 :: u41 :: u42 :: u43 :: u44 :: u45 :: u46 :: u47 :: u48 :: u49 :: u50 :: u51 :: u52 :: u53 :: u54 :: u55 :: u56 :: u57 :: u58 :: u59 :: u60 :: u61 :: u62 :: u63 :: u64 :: u65 :: u66 :: u67 :: u68 :: u69 :: u70 :: u71 :: u72 :: u73 :: u74 :: u75 :: u76 :: u77 :: u78 :: u79 :: u80 :: u81 :: u82 :: u83 :: u84 :: u85 :: u86 :: u87 :: u88 :: u89 :: u90 :: u91 :: u92 :: u93 :: u94 :: u95 :: u96 :: u97 :: u98 :: u99 :: u100 :: u101 :: u102 :: u103 :: u104 :: u105 :: u106 :: u107 :: u108 :: u109 :: u110 :: u111 :: u112 :: u113 :: u114 :: u115 :: u116 :: u117 :: u118 :: u119 :: u120 :: u121 :: u122 :: u123 :: u124 :: u125 :: u126 :: u127 :: u128 :: u129 :: u130 :: u131 :: u132 :: u133 :: u134 :: u135 :: u136 :: u137 :: u138 :: u139 :: u140 :: u141 :: u142 :: u143 :: u144 :: u145 :: u146 :: u147 :: u148 :: u149 :: u150 :: u151 :: u152 :: u153 :: u154 :: u155 :: u156 :: u157 :: u158 :: u159 :: u160 :: u161 :: u162 :: u163 :: u164 :: u165 :: u166 :: u167 :: u168 :: u169 :: u170 :: u171 :: u172 :: u173 :: u174 :: u175 :: u176 :: u177 :: u178 :: u179 :: u180 :: u181 :: u182 :: u183 :: u184 :: u185 :: u186 :: u187 :: u188 :: u189 :: u190 :: u191 :: u192 :: u193 :: u194 :: u195 :: u196 :: u197 :: u198 :: u199 :: u200 :: u201 :: u202 :: u203 :: u204 :: u205 :: u206 :: u207 :: u208 :: u209 :: u210 :: u211 :: u212 :: u213 :: u214 :: u215 :: u216 :: u217 :: u218 :: u219 :: u220 :: u221 :: u222 :: u223 :: u224 :: u225 :: u226 :: u227 :: u228 :: u229 :: u230 :: u231 :: u232 :: u233 :: u234 :: u235 :: []).toArray, []⟩ w)
    {u2 u3 u4 u5 u7 u8 u9 u10 u11 u12 u13 u14 u15 u16 u17 u18 u19 u20 u21 u22 u23 u24 u25 u26 u27 u28 u29 u30 u31 u32 u33 u34 u35 u36 u37 u38 u39 u40 u41 u42 u43 u44 u45 u46 u47 u48 u49 u50 u51 u52 u53 u54 u55 u56 u57 u58 u59 u60 u61 u62 u63 u64 u65 u66 u67 u68 u69 u70 u71 u72 u73 u74 u75 u76 u77 u78 u79 u80 u81 u82 u83 u84 u85 u86 u87 u88 u89 u90 u91 u92 u93 u94 u95 u96 u97 u98 u99 u100 u101 u102 u103 u104 u105 u106 u107 u108 u109 u110 u111 u112 u113 u114 u115 u116 u117 u118 u119 u120 u121 u122 u123 u124 u125 u126 u127 u128 u129 u130 u131 u132 u133 u134 u135 u136 u137 u138 u139 u140 u141 u142 u143 u144 u145 u146 u147 u148 u149 u150 u151 u152 u153 u154 u155 u156 u157 u158 u159 u160 u161 u162 u163 u164 u165 u166 u167 u168 u169 u170 u171 u172 u173 u174 u175 u176 u177 u178 u179 u180 u181 u182 u183 u184 u185 u186 u187 u188 u189 u190 u191 u192 u193 u194 u195 u196 u197 u198 u199 u200 u201 u202 u203 u204 u205 u206 u207 u208 u209 u210 u211 u212 u213 u214 u215 u216 u217 u218 u219 u220 u221 u222 u223 u224 u225 u226 u227 u228 u229 u230 u231 u232 u233 u234 u235 : Value} :
    Code.wp Try.prog (exp44 3) (Exit.then K Q0) ⟨(.pointer (some ⟨m.M, 0, none⟩) :: .int .i64 J :: u2 :: u3 :: u4 :: u5 :: .int .i64 p :: u7 :: u8 :: u9 :: u10 :: u11 :: u12 :: u13 :: u14 :: u15 :: u16 :: u17 :: u18 :: u19 :: u20 :: u21 :: u22 :: u23 :: u24 :: u25 :: u26 :: u27 :: u28 :: u29 :: u30 :: u31 :: u32 :: u33 :: u34 :: u35 :: u36 :: u37 :: u38 :: u39 :: u40 :: u41 :: u42 :: u43 :: u44 :: u45 :: u46 :: u47 :: u48 :: u49 :: u50 :: u51 :: u52 :: u53 :: u54 :: u55 :: u56 :: u57 :: u58 :: u59 :: u60 :: u61 :: u62 :: u63 :: u64 :: u65 :: u66 :: u67 :: u68 :: u69 :: u70 :: u71 :: u72 :: u73 :: u74 :: u75 :: u76 :: u77 :: u78 :: u79 :: u80 :: u81 :: u82 :: u83 :: u84 :: u85 :: u86 :: u87 :: u88 :: u89 :: u90 :: u91 :: u92 :: u93 :: u94 :: u95 :: u96 :: u97 :: u98 :: u99 :: u100 :: u101 :: u102 :: u103 :: u104 :: u105 :: u106 :: u107 :: u108 :: u109 :: u110 :: u111 :: u112 :: u113 :: u114 :: u115 :: u116 :: u117 :: u118 :: u119 :: u120 :: u121 :: u122 :: u123 :: u124 :: u125 :: u126 :: u127 :: u128 :: u129 :: u130 :: u131 :: u132 :: u133 :: u134 :: u135 :: u136 :: u137 :: u138 :: u139 :: u140 :: u141 :: u142 :: u143 :: u144 :: u145 :: u146 :: u147 :: u148 :: u149 :: u150 :: u151 :: u152 :: u153 :: u154 :: u155 :: u156 :: u157 :: u158 :: u159 :: u160 :: u161 :: u162 :: u163 :: u164 :: u165 :: u166 :: u167 :: u168 :: u169 :: u170 :: u171 :: u172 :: u173 :: u174 :: u175 :: u176 :: u177 :: u178 :: u179 :: u180 :: u181 :: u182 :: u183 :: u184 :: u185 :: u186 :: u187 :: u188 :: u189 :: u190 :: u191 :: u192 :: u193 :: u194 :: u195 :: u196 :: u197 :: u198 :: u199 :: u200 :: u201 :: u202 :: u203 :: u204 :: u205 :: u206 :: u207 :: u208 :: u209 :: u210 :: u211 :: u212 :: u213 :: u214 :: u215 :: u216 :: u217 :: u218 :: u219 :: u220 :: u221 :: u222 :: u223 :: u224 :: u225 :: u226 :: u227 :: u228 :: u229 :: u230 :: u231 :: u232 :: u233 :: u234 :: u235 :: []).toArray, []⟩ w := by
  have hzl := h.bytes.1
  obtain ⟨b, off, ha, hbW, c0, HC⟩ := h.open_ (by omega)
  have HDQ : Hid _ := hD
  clear hD
  have HK : Hid _ := @hK
  clear hK
  conv => arg 2; whnf
  go_wp2_with fail
  go_loop [1] (fun t => ∃ k : Nat, J ≤ k ∧ k ≤ D ∧ t = .int .i64 k) (fun t => D - (intOf t).toNat)
  case atStart => exact ⟨J, Nat.le_refl _, by have := dend_ge m.zs J; rw [← HDQ.out] at this; exact this, rfl⟩
  case round =>
    obtain ⟨k, hk1, hk2, rfl⟩ := hrel
    have hDl : D ≤ m.len := by have := dend_le (c := m.zs) (j := J) (by (go_light; omega)); rw [← HDQ.out] at this; (go_light; omega)
    by_cases hkl : k < m.len
    · have hcc := HC.out k hkl
      obtain ⟨x, hx⟩ : ∃ x, m.zs.getD k 0 = x := ⟨_, rfl⟩
      rw [hx] at hcc
      by_cases hlt : k < D
      · have hxx : dg x = true := by rw [← hx]; exact dend_dg hk1 (by rw [← HDQ.out]; exact hlt)
        clear hx
        go_wp2_with (go_at_call 24; refine (digit_any x _).mono ?_; rw [hxx]; rintro z5 w5 ⟨rfl, rfl⟩)
        go_round
        case rel => exact ⟨k + 1, by (go_light; omega), by (go_light; omega), by go_num⟩
        case measure => simp [intOf]; (go_light; omega)
      · obtain rfl : k = D := by (go_light; omega)
        have hxx : dg x = false := by rw [← hx, HDQ.out]; exact dend_stop (by rw [← HDQ.out]; (go_light; omega))
        clear hx
        go_wp2_with (go_at_call 24; refine (digit_any x _).mono ?_; rw [hxx]; rintro z5 w5 ⟨rfl, rfl⟩)
        exact HK.out
    · obtain rfl : k = D := by (go_light; omega)
      go_wp2_with fail
      exact HK.out

set_option maxRecDepth 100000 in
set_option maxHeartbeats 4000000 in
theorem frac_loop (m : Mod) (out : List Int) (ln dp p J D : Nat) (w : World) (h : MI w m out ln dp) (hlen : m.len ≤ 1048576) (hJ : J < m.len) (hD : D = dend m.zs J) (K : Act → World → Prop) (Q0 : Exit → Act → World → Prop)
    (hK : ∀ {u2 u3 u4 u5 u7 u8 u9 u10 u11 u12 u13 u14 u15 u16 u17 u18 u19 u20 u21 u22 u23 u24 u25 u26 u27 u28 u29 u30 u31 u32 u33 u34 u35 u36 u37 u38 u39 u40 u41 u42 u43 u44 u45 u46 u47 u48 u49 u50 u51 u52 u53 u54 u55 u56 u57 u58 u59 u60 u61 u62 u63 u64 u65 u66 u67 u68 u69 u70 u71 u72 u73 u74 u75 u76 u77 u78 u79 u80 u81 u82 u83 u84 u85 u86 u87 u88 u89 u90 u91 u92 u93 u94 u95 u96 u97 u98 u99 u100 u101 u102 u103 u104 u105 u106 u107 u108 u109 u110 u111 u112 u113 u114 u115 u116 u117 u118 u119 u120 u121 u122 u123 u124 u125 u126 u127 u128 u129 u130 u131 u132 u133 u134 u135 u136 u137 u138 u139 u140 u141 u142 u143 u144 u145 u146 u147 u148 u149 u150 u151 u152 u153 u154 u155 u156 u157 u158 u159 u160 u161 u162 u163 u164 u165 u166 u167 u168 u169 u170 u171 u172 u173 u174 u175 u176 u177 u178 u179 u180 u181 u182 u183 u184 u185 u186 u187 u188 u189 u190 u191 u192 u193 u194 u195 u196 u197 u198 u199 u200 u201 u202 u203 u204 u205 u206 u207 u208 u209 u210 u211 u212 u213 u214 u215 u216 u217 u218 u219 u220 u221 u222 u223 u224 u225 u226 u227 u228 u229 u230 u231 u232 u233 u234 u235 : Value}, K ⟨(.pointer (some ⟨m.M, 0, none⟩) :: .int .i64 D :: u2 :: u3 :: u4 :: u5 :: .int .i64 p :: u7 :: u8 :: u9 :: u10 :: u11 :: u12 :: u13 :: u14 :: u15 :: u16 :: u17 :: u18 :: u19 :: u20 :: u21 :: u22 :: u23 :: u24 :: u25 :: u26 :: u27 :: u28 :: u29 :: u30 :: u31 :: u32 :: u33 :: u34 :: u35 :: u36 :: u37 :: u38 :: u39 :: u40 :: u41 :: u42 :: u43 :: u44 :: u45 :: u46 :: u47 :: u48 :: u49 :: u50 :: u51 :: u52 :: u53 :: u54 :: u55 :: u56 :: u57 :: u58 :: u59 :: u60 :: u61 :: u62 :: u63 :: u64 :: u65 :: u66 :: u67 :: u68 :: u69 :: u70 :: u71 :: u72 :: u73 :: u74 :: u75 :: u76 :: u77 :: u78 :: u79 :: u80 :: u81 :: u82 :: u83 :: u84 :: u85 :: u86 :: u87 :: u88 :: u89 :: u90 :: u91 :: u92 :: u93 :: u94 :: u95 :: u96 :: u97 :: u98 :: u99 :: u100 :: u101 :: u102 :: u103 :: u104 :: u105 :: u106 :: u107 :: u108 :: u109 :: u110 :: u111 :: u112 :: u113 :: u114 :: u115 :: u116 :: u117 :: u118 :: u119 :: u120 :: u121 :: u122 :: u123 :: u124 :: u125 :: u126 :: u127 :: u128 :: u129 :: u130 :: u131 :: u132 :: u133 :: u134 :: u135 :: u136 :: u137 :: u138 :: u139 :: u140 :: u141 :: u142 :: u143 :: u144 :: u145 :: u146 :: u147 :: u148 :: u149 :: u150 :: u151 :: u152 :: u153 :: u154 :: u155 :: u156 :: u157 :: u158 :: u159 :: u160 :: u161 :: u162 :: u163 :: u164 :: u165 :: u166 :: u167 :: u168 :: u169 :: u170 :: u171 :: u172 :: u173 :: u174 :: u175 :: u176 :: u177 :: u178 :: u179 :: u180 :: u181 :: u182 :: u183 :: u184 :: u185 :: u186 :: u187 :: u188 :: u189 :: u190 :: u191 :: u192 :: u193 :: u194 :: u195 :: u196 :: u197 :: u198 :: u199 :: u200 :: u201 :: u202 :: u203 :: u204 :: u205 :: u206 :: u207 :: u208 :: u209 :: u210 :: u211 :: u212 :: u213 :: u214 :: u215 :: u216 :: u217 :: u218 :: u219 :: u220 :: u221 :: u222 :: u223 :: u224 :: u225 :: u226 :: u227 :: u228 :: u229 :: u230 :: u231 :: u232 :: u233 :: u234 :: u235 :: []).toArray, []⟩ w)
    {u2 u3 u4 u5 u7 u8 u9 u10 u11 u12 u13 u14 u15 u16 u17 u18 u19 u20 u21 u22 u23 u24 u25 u26 u27 u28 u29 u30 u31 u32 u33 u34 u35 u36 u37 u38 u39 u40 u41 u42 u43 u44 u45 u46 u47 u48 u49 u50 u51 u52 u53 u54 u55 u56 u57 u58 u59 u60 u61 u62 u63 u64 u65 u66 u67 u68 u69 u70 u71 u72 u73 u74 u75 u76 u77 u78 u79 u80 u81 u82 u83 u84 u85 u86 u87 u88 u89 u90 u91 u92 u93 u94 u95 u96 u97 u98 u99 u100 u101 u102 u103 u104 u105 u106 u107 u108 u109 u110 u111 u112 u113 u114 u115 u116 u117 u118 u119 u120 u121 u122 u123 u124 u125 u126 u127 u128 u129 u130 u131 u132 u133 u134 u135 u136 u137 u138 u139 u140 u141 u142 u143 u144 u145 u146 u147 u148 u149 u150 u151 u152 u153 u154 u155 u156 u157 u158 u159 u160 u161 u162 u163 u164 u165 u166 u167 u168 u169 u170 u171 u172 u173 u174 u175 u176 u177 u178 u179 u180 u181 u182 u183 u184 u185 u186 u187 u188 u189 u190 u191 u192 u193 u194 u195 u196 u197 u198 u199 u200 u201 u202 u203 u204 u205 u206 u207 u208 u209 u210 u211 u212 u213 u214 u215 u216 u217 u218 u219 u220 u221 u222 u223 u224 u225 u226 u227 u228 u229 u230 u231 u232 u233 u234 u235 : Value} :
    Code.wp Try.prog (frac44 2) (Exit.then K Q0) ⟨(.pointer (some ⟨m.M, 0, none⟩) :: .int .i64 J :: u2 :: u3 :: u4 :: u5 :: .int .i64 p :: u7 :: u8 :: u9 :: u10 :: u11 :: u12 :: u13 :: u14 :: u15 :: u16 :: u17 :: u18 :: u19 :: u20 :: u21 :: u22 :: u23 :: u24 :: u25 :: u26 :: u27 :: u28 :: u29 :: u30 :: u31 :: u32 :: u33 :: u34 :: u35 :: u36 :: u37 :: u38 :: u39 :: u40 :: u41 :: u42 :: u43 :: u44 :: u45 :: u46 :: u47 :: u48 :: u49 :: u50 :: u51 :: u52 :: u53 :: u54 :: u55 :: u56 :: u57 :: u58 :: u59 :: u60 :: u61 :: u62 :: u63 :: u64 :: u65 :: u66 :: u67 :: u68 :: u69 :: u70 :: u71 :: u72 :: u73 :: u74 :: u75 :: u76 :: u77 :: u78 :: u79 :: u80 :: u81 :: u82 :: u83 :: u84 :: u85 :: u86 :: u87 :: u88 :: u89 :: u90 :: u91 :: u92 :: u93 :: u94 :: u95 :: u96 :: u97 :: u98 :: u99 :: u100 :: u101 :: u102 :: u103 :: u104 :: u105 :: u106 :: u107 :: u108 :: u109 :: u110 :: u111 :: u112 :: u113 :: u114 :: u115 :: u116 :: u117 :: u118 :: u119 :: u120 :: u121 :: u122 :: u123 :: u124 :: u125 :: u126 :: u127 :: u128 :: u129 :: u130 :: u131 :: u132 :: u133 :: u134 :: u135 :: u136 :: u137 :: u138 :: u139 :: u140 :: u141 :: u142 :: u143 :: u144 :: u145 :: u146 :: u147 :: u148 :: u149 :: u150 :: u151 :: u152 :: u153 :: u154 :: u155 :: u156 :: u157 :: u158 :: u159 :: u160 :: u161 :: u162 :: u163 :: u164 :: u165 :: u166 :: u167 :: u168 :: u169 :: u170 :: u171 :: u172 :: u173 :: u174 :: u175 :: u176 :: u177 :: u178 :: u179 :: u180 :: u181 :: u182 :: u183 :: u184 :: u185 :: u186 :: u187 :: u188 :: u189 :: u190 :: u191 :: u192 :: u193 :: u194 :: u195 :: u196 :: u197 :: u198 :: u199 :: u200 :: u201 :: u202 :: u203 :: u204 :: u205 :: u206 :: u207 :: u208 :: u209 :: u210 :: u211 :: u212 :: u213 :: u214 :: u215 :: u216 :: u217 :: u218 :: u219 :: u220 :: u221 :: u222 :: u223 :: u224 :: u225 :: u226 :: u227 :: u228 :: u229 :: u230 :: u231 :: u232 :: u233 :: u234 :: u235 :: []).toArray, []⟩ w := by
  have hzl := h.bytes.1
  obtain ⟨b, off, ha, hbW, c0, HC⟩ := h.open_ (by omega)
  have HDQ : Hid _ := hD
  clear hD
  have HK : Hid _ := @hK
  clear hK
  conv => arg 2; whnf
  go_wp2_with fail
  go_loop [1] (fun t => ∃ k : Nat, J ≤ k ∧ k ≤ D ∧ t = .int .i64 k) (fun t => D - (intOf t).toNat)
  case atStart => exact ⟨J, Nat.le_refl _, by have := dend_ge m.zs J; rw [← HDQ.out] at this; exact this, rfl⟩
  case round =>
    obtain ⟨k, hk1, hk2, rfl⟩ := hrel
    have hDl : D ≤ m.len := by have := dend_le (c := m.zs) (j := J) (by (go_light; omega)); rw [← HDQ.out] at this; (go_light; omega)
    by_cases hkl : k < m.len
    · have hcc := HC.out k hkl
      obtain ⟨x, hx⟩ : ∃ x, m.zs.getD k 0 = x := ⟨_, rfl⟩
      rw [hx] at hcc
      by_cases hlt : k < D
      · have hxx : dg x = true := by rw [← hx]; exact dend_dg hk1 (by rw [← HDQ.out]; exact hlt)
        clear hx
        go_wp2_with (go_at_call 24; refine (digit_any x _).mono ?_; rw [hxx]; rintro z5 w5 ⟨rfl, rfl⟩)
        go_round
        case rel => exact ⟨k + 1, by (go_light; omega), by (go_light; omega), by go_num⟩
        case measure => simp [intOf]; (go_light; omega)
      · obtain rfl : k = D := by (go_light; omega)
        have hxx : dg x = false := by rw [← hx, HDQ.out]; exact dend_stop (by rw [← HDQ.out]; (go_light; omega))
        clear hx
        go_wp2_with (go_at_call 24; refine (digit_any x _).mono ?_; rw [hxx]; rintro z5 w5 ⟨rfl, rfl⟩)
        exact HK.out
    · obtain rfl : k = D := by (go_light; omega)
      go_wp2_with fail
      exact HK.out

set_option maxRecDepth 100000 in
set_option maxHeartbeats 4000000 in
theorem int_loop (m : Mod) (out : List Int) (ln dp p J D : Nat) (w : World) (h : MI w m out ln dp) (hlen : m.len ≤ 1048576) (hJ : J < m.len) (hD : D = dend m.zs J) (K : Act → World → Prop) (Q0 : Exit → Act → World → Prop)
    (hK : ∀ {u2 u3 u4 u5 u7 u8 u9 u10 u11 u12 u13 u14 u15 u16 u17 u18 u19 u20 u21 u22 u23 u24 u25 u26 u27 u28 u29 u30 u31 u32 u33 u34 u35 u36 u37 u38 u39 u40 u41 u42 u43 u44 u45 u46 u47 u48 u49 u50 u51 u52 u53 u54 u55 u56 u57 u58 u59 u60 u61 u62 u63 u64 u65 u66 u67 u68 u69 u70 u71 u72 u73 u74 u75 u76 u77 u78 u79 u80 u81 u82 u83 u84 u85 u86 u87 u88 u89 u90 u91 u92 u93 u94 u95 u96 u97 u98 u99 u100 u101 u102 u103 u104 u105 u106 u107 u108 u109 u110 u111 u112 u113 u114 u115 u116 u117 u118 u119 u120 u121 u122 u123 u124 u125 u126 u127 u128 u129 u130 u131 u132 u133 u134 u135 u136 u137 u138 u139 u140 u141 u142 u143 u144 u145 u146 u147 u148 u149 u150 u151 u152 u153 u154 u155 u156 u157 u158 u159 u160 u161 u162 u163 u164 u165 u166 u167 u168 u169 u170 u171 u172 u173 u174 u175 u176 u177 u178 u179 u180 u181 u182 u183 u184 u185 u186 u187 u188 u189 u190 u191 u192 u193 u194 u195 u196 u197 u198 u199 u200 u201 u202 u203 u204 u205 u206 u207 u208 u209 u210 u211 u212 u213 u214 u215 u216 u217 u218 u219 u220 u221 u222 u223 u224 u225 u226 u227 u228 u229 u230 u231 u232 u233 u234 u235 : Value}, K ⟨(.pointer (some ⟨m.M, 0, none⟩) :: .int .i64 D :: u2 :: u3 :: u4 :: u5 :: .int .i64 p :: u7 :: u8 :: u9 :: u10 :: u11 :: u12 :: u13 :: u14 :: u15 :: u16 :: u17 :: u18 :: u19 :: u20 :: u21 :: u22 :: u23 :: u24 :: u25 :: u26 :: u27 :: u28 :: u29 :: u30 :: u31 :: u32 :: u33 :: u34 :: u35 :: u36 :: u37 :: u38 :: u39 :: u40 :: u41 :: u42 :: u43 :: u44 :: u45 :: u46 :: u47 :: u48 :: u49 :: u50 :: u51 :: u52 :: u53 :: u54 :: u55 :: u56 :: u57 :: u58 :: u59 :: u60 :: u61 :: u62 :: u63 :: u64 :: u65 :: u66 :: u67 :: u68 :: u69 :: u70 :: u71 :: u72 :: u73 :: u74 :: u75 :: u76 :: u77 :: u78 :: u79 :: u80 :: u81 :: u82 :: u83 :: u84 :: u85 :: u86 :: u87 :: u88 :: u89 :: u90 :: u91 :: u92 :: u93 :: u94 :: u95 :: u96 :: u97 :: u98 :: u99 :: u100 :: u101 :: u102 :: u103 :: u104 :: u105 :: u106 :: u107 :: u108 :: u109 :: u110 :: u111 :: u112 :: u113 :: u114 :: u115 :: u116 :: u117 :: u118 :: u119 :: u120 :: u121 :: u122 :: u123 :: u124 :: u125 :: u126 :: u127 :: u128 :: u129 :: u130 :: u131 :: u132 :: u133 :: u134 :: u135 :: u136 :: u137 :: u138 :: u139 :: u140 :: u141 :: u142 :: u143 :: u144 :: u145 :: u146 :: u147 :: u148 :: u149 :: u150 :: u151 :: u152 :: u153 :: u154 :: u155 :: u156 :: u157 :: u158 :: u159 :: u160 :: u161 :: u162 :: u163 :: u164 :: u165 :: u166 :: u167 :: u168 :: u169 :: u170 :: u171 :: u172 :: u173 :: u174 :: u175 :: u176 :: u177 :: u178 :: u179 :: u180 :: u181 :: u182 :: u183 :: u184 :: u185 :: u186 :: u187 :: u188 :: u189 :: u190 :: u191 :: u192 :: u193 :: u194 :: u195 :: u196 :: u197 :: u198 :: u199 :: u200 :: u201 :: u202 :: u203 :: u204 :: u205 :: u206 :: u207 :: u208 :: u209 :: u210 :: u211 :: u212 :: u213 :: u214 :: u215 :: u216 :: u217 :: u218 :: u219 :: u220 :: u221 :: u222 :: u223 :: u224 :: u225 :: u226 :: u227 :: u228 :: u229 :: u230 :: u231 :: u232 :: u233 :: u234 :: u235 :: []).toArray, []⟩ w)
    {u2 u3 u4 u5 u7 u8 u9 u10 u11 u12 u13 u14 u15 u16 u17 u18 u19 u20 u21 u22 u23 u24 u25 u26 u27 u28 u29 u30 u31 u32 u33 u34 u35 u36 u37 u38 u39 u40 u41 u42 u43 u44 u45 u46 u47 u48 u49 u50 u51 u52 u53 u54 u55 u56 u57 u58 u59 u60 u61 u62 u63 u64 u65 u66 u67 u68 u69 u70 u71 u72 u73 u74 u75 u76 u77 u78 u79 u80 u81 u82 u83 u84 u85 u86 u87 u88 u89 u90 u91 u92 u93 u94 u95 u96 u97 u98 u99 u100 u101 u102 u103 u104 u105 u106 u107 u108 u109 u110 u111 u112 u113 u114 u115 u116 u117 u118 u119 u120 u121 u122 u123 u124 u125 u126 u127 u128 u129 u130 u131 u132 u133 u134 u135 u136 u137 u138 u139 u140 u141 u142 u143 u144 u145 u146 u147 u148 u149 u150 u151 u152 u153 u154 u155 u156 u157 u158 u159 u160 u161 u162 u163 u164 u165 u166 u167 u168 u169 u170 u171 u172 u173 u174 u175 u176 u177 u178 u179 u180 u181 u182 u183 u184 u185 u186 u187 u188 u189 u190 u191 u192 u193 u194 u195 u196 u197 u198 u199 u200 u201 u202 u203 u204 u205 u206 u207 u208 u209 u210 u211 u212 u213 u214 u215 u216 u217 u218 u219 u220 u221 u222 u223 u224 u225 u226 u227 u228 u229 u230 u231 u232 u233 u234 u235 : Value} :
    Code.wp Try.prog int44 (Exit.then K Q0) ⟨(.pointer (some ⟨m.M, 0, none⟩) :: .int .i64 J :: u2 :: u3 :: u4 :: u5 :: .int .i64 p :: u7 :: u8 :: u9 :: u10 :: u11 :: u12 :: u13 :: u14 :: u15 :: u16 :: u17 :: u18 :: u19 :: u20 :: u21 :: u22 :: u23 :: u24 :: u25 :: u26 :: u27 :: u28 :: u29 :: u30 :: u31 :: u32 :: u33 :: u34 :: u35 :: u36 :: u37 :: u38 :: u39 :: u40 :: u41 :: u42 :: u43 :: u44 :: u45 :: u46 :: u47 :: u48 :: u49 :: u50 :: u51 :: u52 :: u53 :: u54 :: u55 :: u56 :: u57 :: u58 :: u59 :: u60 :: u61 :: u62 :: u63 :: u64 :: u65 :: u66 :: u67 :: u68 :: u69 :: u70 :: u71 :: u72 :: u73 :: u74 :: u75 :: u76 :: u77 :: u78 :: u79 :: u80 :: u81 :: u82 :: u83 :: u84 :: u85 :: u86 :: u87 :: u88 :: u89 :: u90 :: u91 :: u92 :: u93 :: u94 :: u95 :: u96 :: u97 :: u98 :: u99 :: u100 :: u101 :: u102 :: u103 :: u104 :: u105 :: u106 :: u107 :: u108 :: u109 :: u110 :: u111 :: u112 :: u113 :: u114 :: u115 :: u116 :: u117 :: u118 :: u119 :: u120 :: u121 :: u122 :: u123 :: u124 :: u125 :: u126 :: u127 :: u128 :: u129 :: u130 :: u131 :: u132 :: u133 :: u134 :: u135 :: u136 :: u137 :: u138 :: u139 :: u140 :: u141 :: u142 :: u143 :: u144 :: u145 :: u146 :: u147 :: u148 :: u149 :: u150 :: u151 :: u152 :: u153 :: u154 :: u155 :: u156 :: u157 :: u158 :: u159 :: u160 :: u161 :: u162 :: u163 :: u164 :: u165 :: u166 :: u167 :: u168 :: u169 :: u170 :: u171 :: u172 :: u173 :: u174 :: u175 :: u176 :: u177 :: u178 :: u179 :: u180 :: u181 :: u182 :: u183 :: u184 :: u185 :: u186 :: u187 :: u188 :: u189 :: u190 :: u191 :: u192 :: u193 :: u194 :: u195 :: u196 :: u197 :: u198 :: u199 :: u200 :: u201 :: u202 :: u203 :: u204 :: u205 :: u206 :: u207 :: u208 :: u209 :: u210 :: u211 :: u212 :: u213 :: u214 :: u215 :: u216 :: u217 :: u218 :: u219 :: u220 :: u221 :: u222 :: u223 :: u224 :: u225 :: u226 :: u227 :: u228 :: u229 :: u230 :: u231 :: u232 :: u233 :: u234 :: u235 :: []).toArray, []⟩ w := by
  have hzl := h.bytes.1
  obtain ⟨b, off, ha, hbW, c0, HC⟩ := h.open_ (by omega)
  have HDQ : Hid _ := hD
  clear hD
  have HK : Hid _ := @hK
  clear hK
  conv => arg 2; whnf
  go_wp2_with fail
  go_loop [1] (fun t => ∃ k : Nat, J ≤ k ∧ k ≤ D ∧ t = .int .i64 k) (fun t => D - (intOf t).toNat)
  case atStart => exact ⟨J, Nat.le_refl _, by have := dend_ge m.zs J; rw [← HDQ.out] at this; exact this, rfl⟩
  case round =>
    obtain ⟨k, hk1, hk2, rfl⟩ := hrel
    have hDl : D ≤ m.len := by have := dend_le (c := m.zs) (j := J) (by (go_light; omega)); rw [← HDQ.out] at this; (go_light; omega)
    by_cases hkl : k < m.len
    · have hcc := HC.out k hkl
      obtain ⟨x, hx⟩ : ∃ x, m.zs.getD k 0 = x := ⟨_, rfl⟩
      rw [hx] at hcc
      by_cases hlt : k < D
      · have hxx : dg x = true := by rw [← hx]; exact dend_dg hk1 (by rw [← HDQ.out]; exact hlt)
        clear hx
        go_wp2_with (go_at_call 24; refine (digit_any x _).mono ?_; rw [hxx]; rintro z5 w5 ⟨rfl, rfl⟩)
        go_round
        case rel => exact ⟨k + 1, by (go_light; omega), by (go_light; omega), by go_num⟩
        case measure => simp [intOf]; (go_light; omega)
      · obtain rfl : k = D := by (go_light; omega)
        have hxx : dg x = false := by rw [← hx, HDQ.out]; exact dend_stop (by rw [← HDQ.out]; (go_light; omega))
        clear hx
        go_wp2_with (go_at_call 24; refine (digit_any x _).mono ?_; rw [hxx]; rintro z5 w5 ⟨rfl, rfl⟩)
        exact HK.out
    · obtain rfl : k = D := by (go_light; omega)
      go_wp2_with fail
      exact HK.out

set_option maxRecDepth 100000 in
set_option maxHeartbeats 4000000 in
theorem exp_test (m : Mod) (out : List Int) (ln dp p : Nat) (w w0 : World) (h : MI w m out ln dp) (hb0 : Below m.M w0 w) (hlen : m.len ≤ 1048576) (hp : p < m.len) (_hol : out.length + m.len + 20 ≤ 140737488355328) (J : Nat) (hno : isD m.zs J = false → number m.zs p = none) (K : Act → World → Prop)
    (hK : isD m.zs J = true → ∀ D, D = dend m.zs J → ∀ {u2 u3 u4 u5 u7 u8 u9 u10 u11 u12 u13 u14 u15 u16 u17 u18 u19 u20 u21 u22 u23 u24 u25 u26 u27 u28 u29 u30 u31 u32 u33 u34 u35 u36 u37 u38 u39 u40 u41 u42 u43 u44 u45 u46 u47 u48 u49 u50 u51 u52 u53 u54 u55 u56 u57 u58 u59 u60 u61 u62 u63 u64 u65 u66 u67 u68 u69 u70 u71 u72 u73 u74 u75 u76 u77 u78 u79 u80 u81 u82 u83 u84 u85 u86 u87 u88 u89 u90 u91 u92 u93 u94 u95 u96 u97 u98 u99 u100 u101 u102 u103 u104 u105 u106 u107 u108 u109 u110 u111 u112 u113 u114 u115 u116 u117 u118 u119 u120 u121 u122 u123 u124 u125 u126 u127 u128 u129 u130 u131 u132 u133 u134 u135 u136 u137 u138 u139 u140 u141 u142 u143 u144 u145 u146 u147 u148 u149 u150 u151 u152 u153 u154 u155 u156 u157 u158 u159 u160 u161 u162 u163 u164 u165 u166 u167 u168 u169 u170 u171 u172 u173 u174 u175 u176 u177 u178 u179 u180 u181 u182 u183 u184 u185 u186 u187 u188 u189 u190 u191 u192 u193 u194 u195 u196 u197 u198 u199 u200 u201 u202 u203 u204 u205 u206 u207 u208 u209 u210 u211 u212 u213 u214 u215 u216 u217 u218 u219 u220 u221 u222 u223 u224 u225 u226 u227 u228 u229 u230 u231 u232 u233 u234 u235 : Value}, K ⟨(.pointer (some ⟨m.M, 0, none⟩) :: .int .i64 D :: u2 :: u3 :: u4 :: u5 :: .int .i64 p :: u7 :: u8 :: u9 :: u10 :: u11 :: u12 :: u13 :: u14 :: u15 :: u16 :: u17 :: u18 :: u19 :: u20 :: u21 :: u22 :: u23 :: u24 :: u25 :: u26 :: u27 :: u28 :: u29 :: u30 :: u31 :: u32 :: u33 :: u34 :: u35 :: u36 :: u37 :: u38 :: u39 :: u40 :: u41 :: u42 :: u43 :: u44 :: u45 :: u46 :: u47 :: u48 :: u49 :: u50 :: u51 :: u52 :: u53 :: u54 :: u55 :: u56 :: u57 :: u58 :: u59 :: u60 :: u61 :: u62 :: u63 :: u64 :: u65 :: u66 :: u67 :: u68 :: u69 :: u70 :: u71 :: u72 :: u73 :: u74 :: u75 :: u76 :: u77 :: u78 :: u79 :: u80 :: u81 :: u82 :: u83 :: u84 :: u85 :: u86 :: u87 :: u88 :: u89 :: u90 :: u91 :: u92 :: u93 :: u94 :: u95 :: u96 :: u97 :: u98 :: u99 :: u100 :: u101 :: u102 :: u103 :: u104 :: u105 :: u106 :: u107 :: u108 :: u109 :: u110 :: u111 :: u112 :: u113 :: u114 :: u115 :: u116 :: u117 :: u118 :: u119 :: u120 :: u121 :: u122 :: u123 :: u124 :: u125 :: u126 :: u127 :: u128 :: u129 :: u130 :: u131 :: u132 :: u133 :: u134 :: u135 :: u136 :: u137 :: u138 :: u139 :: u140 :: u141 :: u142 :: u143 :: u144 :: u145 :: u146 :: u147 :: u148 :: u149 :: u150 :: u151 :: u152 :: u153 :: u154 :: u155 :: u156 :: u157 :: u158 :: u159 :: u160 :: u161 :: u162 :: u163 :: u164 :: u165 :: u166 :: u167 :: u168 :: u169 :: u170 :: u171 :: u172 :: u173 :: u174 :: u175 :: u176 :: u177 :: u178 :: u179 :: u180 :: u181 :: u182 :: u183 :: u184 :: u185 :: u186 :: u187 :: u188 :: u189 :: u190 :: u191 :: u192 :: u193 :: u194 :: u195 :: u196 :: u197 :: u198 :: u199 :: u200 :: u201 :: u202 :: u203 :: u204 :: u205 :: u206 :: u207 :: u208 :: u209 :: u210 :: u211 :: u212 :: u213 :: u214 :: u215 :: u216 :: u217 :: u218 :: u219 :: u220 :: u221 :: u222 :: u223 :: u224 :: u225 :: u226 :: u227 :: u228 :: u229 :: u230 :: u231 :: u232 :: u233 :: u234 :: u235 :: []).toArray, []⟩ w)
    {u2 u3 u4 u5 u7 u8 u9 u10 u11 u12 u13 u14 u15 u16 u17 u18 u19 u20 u21 u22 u23 u24 u25 u26 u27 u28 u29 u30 u31 u32 u33 u34 u35 u36 u37 u38 u39 u40 u41 u42 u43 u44 u45 u46 u47 u48 u49 u50 u51 u52 u53 u54 u55 u56 u57 u58 u59 u60 u61 u62 u63 u64 u65 u66 u67 u68 u69 u70 u71 u72 u73 u74 u75 u76 u77 u78 u79 u80 u81 u82 u83 u84 u85 u86 u87 u88 u89 u90 u91 u92 u93 u94 u95 u96 u97 u98 u99 u100 u101 u102 u103 u104 u105 u106 u107 u108 u109 u110 u111 u112 u113 u114 u115 u116 u117 u118 u119 u120 u121 u122 u123 u124 u125 u126 u127 u128 u129 u130 u131 u132 u133 u134 u135 u136 u137 u138 u139 u140 u141 u142 u143 u144 u145 u146 u147 u148 u149 u150 u151 u152 u153 u154 u155 u156 u157 u158 u159 u160 u161 u162 u163 u164 u165 u166 u167 u168 u169 u170 u171 u172 u173 u174 u175 u176 u177 u178 u179 u180 u181 u182 u183 u184 u185 u186 u187 u188 u189 u190 u191 u192 u193 u194 u195 u196 u197 u198 u199 u200 u201 u202 u203 u204 u205 u206 u207 u208 u209 u210 u211 u212 u213 u214 u215 u216 u217 u218 u219 u220 u221 u222 u223 u224 u225 u226 u227 u228 u229 u230 u231 u232 u233 u234 u235 : Value} :
    Code.wp Try.prog (exp44 2) (Exit.then K (bodyPost Try.prog Try.f44 (PcPost m out ln dp w0 p (number m.zs p)))) ⟨(.pointer (some ⟨m.M, 0, none⟩) :: .int .i64 J :: u2 :: u3 :: u4 :: u5 :: .int .i64 p :: u7 :: u8 :: u9 :: u10 :: u11 :: u12 :: u13 :: u14 :: u15 :: u16 :: u17 :: u18 :: u19 :: u20 :: u21 :: u22 :: u23 :: u24 :: u25 :: u26 :: u27 :: u28 :: u29 :: u30 :: u31 :: u32 :: u33 :: u34 :: u35 :: u36 :: u37 :: u38 :: u39 :: u40 :: u41 :: u42 :: u43 :: u44 :: u45 :: u46 :: u47 :: u48 :: u49 :: u50 :: u51 :: u52 :: u53 :: u54 :: u55 :: u56 :: u57 :: u58 :: u59 :: u60 :: u61 :: u62 :: u63 :: u64 :: u65 :: u66 :: u67 :: u68 :: u69 :: u70 :: u71 :: u72 :: u73 :: u74 :: u75 :: u76 :: u77 :: u78 :: u79 :: u80 :: u81 :: u82 :: u83 :: u84 :: u85 :: u86 :: u87 :: u88 :: u89 :: u90 :: u91 :: u92 :: u93 :: u94 :: u95 :: u96 :: u97 :: u98 :: u99 :: u100 :: u101 :: u102 :: u103 :: u104 :: u105 :: u106 :: u107 :: u108 :: u109 :: u110 :: u111 :: u112 :: u113 :: u114 :: u115 :: u116 :: u117 :: u118 :: u119 :: u120 :: u121 :: u122 :: u123 :: u124 :: u125 :: u126 :: u127 :: u128 :: u129 :: u130 :: u131 :: u132 :: u133 :: u134 :: u135 :: u136 :: u137 :: u138 :: u139 :: u140 :: u141 :: u142 :: u143 :: u144 :: u145 :: u146 :: u147 :: u148 :: u149 :: u150 :: u151 :: u152 :: u153 :: u154 :: u155 :: u156 :: u157 :: u158 :: u159 :: u160 :: u161 :: u162 :: u163 :: u164 :: u165 :: u166 :: u167 :: u168 :: u169 :: u170 :: u171 :: u172 :: u173 :: u174 :: u175 :: u176 :: u177 :: u178 :: u179 :: u180 :: u181 :: u182 :: u183 :: u184 :: u185 :: u186 :: u187 :: u188 :: u189 :: u190 :: u191 :: u192 :: u193 :: u194 :: u195 :: u196 :: u197 :: u198 :: u199 :: u200 :: u201 :: u202 :: u203 :: u204 :: u205 :: u206 :: u207 :: u208 :: u209 :: u210 :: u211 :: u212 :: u213 :: u214 :: u215 :: u216 :: u217 :: u218 :: u219 :: u220 :: u221 :: u222 :: u223 :: u224 :: u225 :: u226 :: u227 :: u228 :: u229 :: u230 :: u231 :: u232 :: u233 :: u234 :: u235 :: []).toArray, []⟩ w := by
  have hzl := h.bytes.1
  obtain ⟨b, off, ha, hbW, c0, HC⟩ := h.open_ (by omega)
  have HK : Hid _ := @hK
  clear hK
  have HNO : Hid _ := hno
  clear hno
  conv => arg 2; whnf
  cases hisD : isD m.zs J
  · have HN : Hid (number m.zs p = none) := HNO.out hisD
    clear HK HNO
    by_cases hsl : J < m.len
    · have hcc := HC.out J hsl
      obtain ⟨x, hx⟩ : ∃ x, m.zs.getD J 0 = x := ⟨_, rfl⟩
      rw [hx] at hcc
      have hxx : dg x = false := by
        cases hxx : dg x
        · rfl
        · exfalso
          rw [(isD_iff _ _).2 ⟨by (go_light; omega), by rw [hx]; exact hxx⟩] at hisD
          cases hisD
      clear hx hisD
      go_wp2_with (go_at_call 24; refine (digit_any x _).mono ?_; rw [hxx]; rintro z5 w5 ⟨rfl, rfl⟩)
      go_ret2
      exact .inr ⟨HN.out, J, out, by first | rfl | exact ret2 (by (go_light; omega)), h, hb0⟩
    · clear hisD
      go_wp2_with fail
      go_ret2
      exact .inr ⟨HN.out, J, out, by first | rfl | exact ret2 (by (go_light; omega)), h, hb0⟩
  · obtain ⟨hsl, hdx⟩ := (isD_iff _ _).1 hisD
    have HD : Hid _ := hisD
    clear hisD
    have hcc := HC.out J (by (go_light; omega))
    obtain ⟨x, hx⟩ : ∃ x, m.zs.getD J 0 = x := ⟨_, rfl⟩
    rw [hx] at hcc hdx
    clear hx
    have hxx : dg x = true := hdx
    clear hdx
    go_upto_block 4 with (go_at_call 24; refine (digit_any x _).mono ?_; rw [hxx]; rintro z5 w5 ⟨rfl, rfl⟩)
    exact exp_loop m out ln dp p J _ w h hlen (by (go_light; omega)) rfl K _ (HK.out HD.out _ rfl)

set_option maxRecDepth 100000 in
set_option maxHeartbeats 4000000 in
theorem frac_test (m : Mod) (out : List Int) (ln dp p : Nat) (w w0 : World) (h : MI w m out ln dp) (hb0 : Below m.M w0 w) (hlen : m.len ≤ 1048576) (hp : p < m.len) (_hol : out.length + m.len + 20 ≤ 140737488355328) (J : Nat) (hno : isD m.zs J = false → number m.zs p = none) (K : Act → World → Prop)
    (hK : isD m.zs J = true → ∀ D, D = dend m.zs J → ∀ {u2 u3 u4 u5 u7 u8 u9 u10 u11 u12 u13 u14 u15 u16 u17 u18 u19 u20 u21 u22 u23 u24 u25 u26 u27 u28 u29 u30 u31 u32 u33 u34 u35 u36 u37 u38 u39 u40 u41 u42 u43 u44 u45 u46 u47 u48 u49 u50 u51 u52 u53 u54 u55 u56 u57 u58 u59 u60 u61 u62 u63 u64 u65 u66 u67 u68 u69 u70 u71 u72 u73 u74 u75 u76 u77 u78 u79 u80 u81 u82 u83 u84 u85 u86 u87 u88 u89 u90 u91 u92 u93 u94 u95 u96 u97 u98 u99 u100 u101 u102 u103 u104 u105 u106 u107 u108 u109 u110 u111 u112 u113 u114 u115 u116 u117 u118 u119 u120 u121 u122 u123 u124 u125 u126 u127 u128 u129 u130 u131 u132 u133 u134 u135 u136 u137 u138 u139 u140 u141 u142 u143 u144 u145 u146 u147 u148 u149 u150 u151 u152 u153 u154 u155 u156 u157 u158 u159 u160 u161 u162 u163 u164 u165 u166 u167 u168 u169 u170 u171 u172 u173 u174 u175 u176 u177 u178 u179 u180 u181 u182 u183 u184 u185 u186 u187 u188 u189 u190 u191 u192 u193 u194 u195 u196 u197 u198 u199 u200 u201 u202 u203 u204 u205 u206 u207 u208 u209 u210 u211 u212 u213 u214 u215 u216 u217 u218 u219 u220 u221 u222 u223 u224 u225 u226 u227 u228 u229 u230 u231 u232 u233 u234 u235 : Value}, K ⟨(.pointer (some ⟨m.M, 0, none⟩) :: .int .i64 D :: u2 :: u3 :: u4 :: u5 :: .int .i64 p :: u7 :: u8 :: u9 :: u10 :: u11 :: u12 :: u13 :: u14 :: u15 :: u16 :: u17 :: u18 :: u19 :: u20 :: u21 :: u22 :: u23 :: u24 :: u25 :: u26 :: u27 :: u28 :: u29 :: u30 :: u31 :: u32 :: u33 :: u34 :: u35 :: u36 :: u37 :: u38 :: u39 :: u40 :: u41 :: u42 :: u43 :: u44 :: u45 :: u46 :: u47 :: u48 :: u49 :: u50 :: u51 :: u52 :: u53 :: u54 :: u55 :: u56 :: u57 :: u58 :: u59 :: u60 :: u61 :: u62 :: u63 :: u64 :: u65 :: u66 :: u67 :: u68 :: u69 :: u70 :: u71 :: u72 :: u73 :: u74 :: u75 :: u76 :: u77 :: u78 :: u79 :: u80 :: u81 :: u82 :: u83 :: u84 :: u85 :: u86 :: u87 :: u88 :: u89 :: u90 :: u91 :: u92 :: u93 :: u94 :: u95 :: u96 :: u97 :: u98 :: u99 :: u100 :: u101 :: u102 :: u103 :: u104 :: u105 :: u106 :: u107 :: u108 :: u109 :: u110 :: u111 :: u112 :: u113 :: u114 :: u115 :: u116 :: u117 :: u118 :: u119 :: u120 :: u121 :: u122 :: u123 :: u124 :: u125 :: u126 :: u127 :: u128 :: u129 :: u130 :: u131 :: u132 :: u133 :: u134 :: u135 :: u136 :: u137 :: u138 :: u139 :: u140 :: u141 :: u142 :: u143 :: u144 :: u145 :: u146 :: u147 :: u148 :: u149 :: u150 :: u151 :: u152 :: u153 :: u154 :: u155 :: u156 :: u157 :: u158 :: u159 :: u160 :: u161 :: u162 :: u163 :: u164 :: u165 :: u166 :: u167 :: u168 :: u169 :: u170 :: u171 :: u172 :: u173 :: u174 :: u175 :: u176 :: u177 :: u178 :: u179 :: u180 :: u181 :: u182 :: u183 :: u184 :: u185 :: u186 :: u187 :: u188 :: u189 :: u190 :: u191 :: u192 :: u193 :: u194 :: u195 :: u196 :: u197 :: u198 :: u199 :: u200 :: u201 :: u202 :: u203 :: u204 :: u205 :: u206 :: u207 :: u208 :: u209 :: u210 :: u211 :: u212 :: u213 :: u214 :: u215 :: u216 :: u217 :: u218 :: u219 :: u220 :: u221 :: u222 :: u223 :: u224 :: u225 :: u226 :: u227 :: u228 :: u229 :: u230 :: u231 :: u232 :: u233 :: u234 :: u235 :: []).toArray, []⟩ w)
    {u2 u3 u4 u5 u7 u8 u9 u10 u11 u12 u13 u14 u15 u16 u17 u18 u19 u20 u21 u22 u23 u24 u25 u26 u27 u28 u29 u30 u31 u32 u33 u34 u35 u36 u37 u38 u39 u40 u41 u42 u43 u44 u45 u46 u47 u48 u49 u50 u51 u52 u53 u54 u55 u56 u57 u58 u59 u60 u61 u62 u63 u64 u65 u66 u67 u68 u69 u70 u71 u72 u73 u74 u75 u76 u77 u78 u79 u80 u81 u82 u83 u84 u85 u86 u87 u88 u89 u90 u91 u92 u93 u94 u95 u96 u97 u98 u99 u100 u101 u102 u103 u104 u105 u106 u107 u108 u109 u110 u111 u112 u113 u114 u115 u116 u117 u118 u119 u120 u121 u122 u123 u124 u125 u126 u127 u128 u129 u130 u131 u132 u133 u134 u135 u136 u137 u138 u139 u140 u141 u142 u143 u144 u145 u146 u147 u148 u149 u150 u151 u152 u153 u154 u155 u156 u157 u158 u159 u160 u161 u162 u163 u164 u165 u166 u167 u168 u169 u170 u171 u172 u173 u174 u175 u176 u177 u178 u179 u180 u181 u182 u183 u184 u185 u186 u187 u188 u189 u190 u191 u192 u193 u194 u195 u196 u197 u198 u199 u200 u201 u202 u203 u204 u205 u206 u207 u208 u209 u210 u211 u212 u213 u214 u215 u216 u217 u218 u219 u220 u221 u222 u223 u224 u225 u226 u227 u228 u229 u230 u231 u232 u233 u234 u235 : Value} :
    Code.wp Try.prog (frac44 1) (Exit.then K (bodyPost Try.prog Try.f44 (PcPost m out ln dp w0 p (number m.zs p)))) ⟨(.pointer (some ⟨m.M, 0, none⟩) :: .int .i64 J :: u2 :: u3 :: u4 :: u5 :: .int .i64 p :: u7 :: u8 :: u9 :: u10 :: u11 :: u12 :: u13 :: u14 :: u15 :: u16 :: u17 :: u18 :: u19 :: u20 :: u21 :: u22 :: u23 :: u24 :: u25 :: u26 :: u27 :: u28 :: u29 :: u30 :: u31 :: u32 :: u33 :: u34 :: u35 :: u36 :: u37 :: u38 :: u39 :: u40 :: u41 :: u42 :: u43 :: u44 :: u45 :: u46 :: u47 :: u48 :: u49 :: u50 :: u51 :: u52 :: u53 :: u54 :: u55 :: u56 :: u57 :: u58 :: u59 :: u60 :: u61 :: u62 :: u63 :: u64 :: u65 :: u66 :: u67 :: u68 :: u69 :: u70 :: u71 :: u72 :: u73 :: u74 :: u75 :: u76 :: u77 :: u78 :: u79 :: u80 :: u81 :: u82 :: u83 :: u84 :: u85 :: u86 :: u87 :: u88 :: u89 :: u90 :: u91 :: u92 :: u93 :: u94 :: u95 :: u96 :: u97 :: u98 :: u99 :: u100 :: u101 :: u102 :: u103 :: u104 :: u105 :: u106 :: u107 :: u108 :: u109 :: u110 :: u111 :: u112 :: u113 :: u114 :: u115 :: u116 :: u117 :: u118 :: u119 :: u120 :: u121 :: u122 :: u123 :: u124 :: u125 :: u126 :: u127 :: u128 :: u129 :: u130 :: u131 :: u132 :: u133 :: u134 :: u135 :: u136 :: u137 :: u138 :: u139 :: u140 :: u141 :: u142 :: u143 :: u144 :: u145 :: u146 :: u147 :: u148 :: u149 :: u150 :: u151 :: u152 :: u153 :: u154 :: u155 :: u156 :: u157 :: u158 :: u159 :: u160 :: u161 :: u162 :: u163 :: u164 :: u165 :: u166 :: u167 :: u168 :: u169 :: u170 :: u171 :: u172 :: u173 :: u174 :: u175 :: u176 :: u177 :: u178 :: u179 :: u180 :: u181 :: u182 :: u183 :: u184 :: u185 :: u186 :: u187 :: u188 :: u189 :: u190 :: u191 :: u192 :: u193 :: u194 :: u195 :: u196 :: u197 :: u198 :: u199 :: u200 :: u201 :: u202 :: u203 :: u204 :: u205 :: u206 :: u207 :: u208 :: u209 :: u210 :: u211 :: u212 :: u213 :: u214 :: u215 :: u216 :: u217 :: u218 :: u219 :: u220 :: u221 :: u222 :: u223 :: u224 :: u225 :: u226 :: u227 :: u228 :: u229 :: u230 :: u231 :: u232 :: u233 :: u234 :: u235 :: []).toArray, []⟩ w := by
  have hzl := h.bytes.1
  obtain ⟨b, off, ha, hbW, c0, HC⟩ := h.open_ (by omega)
  have HK : Hid _ := @hK
  clear hK
  have HNO : Hid _ := hno
  clear hno
  conv => arg 2; whnf
  cases hisD : isD m.zs J
  · have HN : Hid (number m.zs p = none) := HNO.out hisD
    clear HK HNO
    by_cases hsl : J < m.len
    · have hcc := HC.out J hsl
      obtain ⟨x, hx⟩ : ∃ x, m.zs.getD J 0 = x := ⟨_, rfl⟩
      rw [hx] at hcc
      have hxx : dg x = false := by
        cases hxx : dg x
        · rfl
        · exfalso
          rw [(isD_iff _ _).2 ⟨by (go_light; omega), by rw [hx]; exact hxx⟩] at hisD
          cases hisD
      clear hx hisD
      go_wp2_with (go_at_call 24; refine (digit_any x _).mono ?_; rw [hxx]; rintro z5 w5 ⟨rfl, rfl⟩)
      go_ret2
      exact .inr ⟨HN.out, J, out, by first | rfl | exact ret2 (by (go_light; omega)), h, hb0⟩
    · clear hisD
      go_wp2_with fail
      go_ret2
      exact .inr ⟨HN.out, J, out, by first | rfl | exact ret2 (by (go_light; omega)), h, hb0⟩
  · obtain ⟨hsl, hdx⟩ := (isD_iff _ _).1 hisD
    have HD : Hid _ := hisD
    clear hisD
    have hcc := HC.out J (by (go_light; omega))
    obtain ⟨x, hx⟩ : ∃ x, m.zs.getD J 0 = x := ⟨_, rfl⟩
    rw [hx] at hcc hdx
    clear hx
    have hxx : dg x = true := hdx
    clear hdx
    go_upto_block 2 with (go_at_call 24; refine (digit_any x _).mono ?_; rw [hxx]; rintro z5 w5 ⟨rfl, rfl⟩)
    exact frac_loop m out ln dp p J _ w h hlen (by (go_light; omega)) rfl K _ (HK.out HD.out _ rfl)

end Go.Proofs.Qxb6603067a
