/- THE LAST LOOP OF THE LAW, over the ten rules: its check never fails. -/
import Derived.Test.Qxb6617664aLoops
namespace Go.Proofs.Qxb6617664a
open Go.RowKit

/-- A counter, and what has been seen so far. -/
def Seen (top : Nat) (q : Nat → Prop) (v : Value) : Prop := ∃ k : Nat, k ≤ top ∧ v = .int .i64 k ∧ ∀ i, i < k → q i

/-- What the check will find, in its three ways. -/
def Want (F P : Nat → ByteArray) (C L : Nat → Int) (Ru Le : Nat → Int) (Fi Pr : Nat → ByteArray) (r n q : Nat) (m : Int) (S : St) : Prop :=
  (q = 0 ∧ S.F r = F r ∧ S.P r = P r ∧ S.L r = L r) ∨ (0 < q ∧ 0 < C r ∧ m ≤ L r ∧ S.F r = F r ∧ S.P r = P r ∧ S.L r = L r) ∨
  (0 < q ∧ ¬ (0 < C r ∧ m ≤ L r) ∧ ∃ i, fst Ru Le r m n = some i ∧ i < n ∧ S.F r = Fi i ∧ S.P r = Pr i ∧ S.L r = Le i)
theorem want_none {F P : Nat → ByteArray} {C L : Nat → Int} {Ru Le : Nat → Int} {Fi Pr : Nat → ByteArray} {r n q : Nat} {m : Int} {S : St} (hr : ∀ i, i < n → 0 ≤ Ru i) (h0 : 0 ≤ C r) (hm : mx Ru Le r n = none) (hq : q = cnt Ru r n) (hS : S = run ⟨F, P, C, L⟩ Ru Le Fi Pr n) :
    Want F P C L Ru Le Fi Pr r n q m S := by
  have hz := (mx_none n hm).1
  have := law_none (s := ⟨F, P, C, L⟩) (Le := Le) (Fi := Fi) (Pr := Pr) (r := r) h0 n hr hz
  rw [hS]
  exact .inl ⟨by rw [hq, hz], this⟩
theorem want_some {F P : Nat → ByteArray} {C L : Nat → Int} {Ru Le : Nat → Int} {Fi Pr : Nat → ByteArray} {r n q : Nat} {m : Int} {S : St} (hr : ∀ i, i < n → 0 ≤ Ru i) (h0 : 0 ≤ C r) (hm : mx Ru Le r n = some m) (hq : q = cnt Ru r n) (hS : S = run ⟨F, P, C, L⟩ Ru Le Fi Pr n) :
    Want F P C L Ru Le Fi Pr r n q m S := by
  have hz := (mx_some n m hm).1
  by_cases hk : 0 < C r ∧ m ≤ L r
  · have := law_keep (s := ⟨F, P, C, L⟩) (Le := Le) (Fi := Fi) (Pr := Pr) (r := r) h0 n hr m hm hk
    rw [hS]
    exact .inr (.inl ⟨by omega, hk.1, hk.2, this⟩)
  · have := law_first (s := ⟨F, P, C, L⟩) (Le := Le) (Fi := Fi) (Pr := Pr) (r := r) h0 n hr m hm hk
    rw [hS]
    exact .inr (.inr ⟨by omega, hk, this⟩)

set_option maxHeartbeats 6400000 in
set_option maxRecDepth 1000000 in
theorem loop6 {c0 c1 c2 c3 c9 c10 c11 c12 c13 c14 c15 c16 c17 c18 c24 c25 c26 c27 c28 c29 c30 c31 c32 c33 c34 c35 c36 c37 c38 c39 c40 c41 c42 c43 c44 c45 c46 c47 c48 c49 c50 c51 c52 c53 c54 c55 c56 c57 c58 c59 c60 c61 c62 c63 c64 c65 c66 c67 c68 c69 c70 c71 c72 c73 c74 c75 c76 c77 c78 c79 c80 c81 c82 c83 c84 c85 c86 c87 c88 c89 c90 c91 c92 c93 c94 c95 c96 c97 c98 c99 c100 c101 c102 c103 c104 c105 c106 c107 c108 c109 c110 c111 c112 c113 c114 c115 c116 c117 c118 c119 c120 c121 c122 c123 c124 c125 c126 c127 c128 c129 c130 c131 c132 c133 c134 c135 c136 c137 c138 c139 c140 c141 c142 c143 c144 c145 c146 c147 c148 c149 c150 c151 c152 c153 c154 c155 c156 c157 c158 c159 c160 c161 c162 c163 c164 c165 c166 c167 c168 c169 c170 c171 c172 c173 c174 c175 c176 c177 c178 c179 c180 c181 c182 c183 c184 c185 c186 c187 c188 c189 c190 c191 c192 c193 c194 c195 c196 c197 c198 c199 c200 c201 c202 c203 c204 c205 c206 c207 c208 c209 c210 c211 c212 c213 c214 c215 c216 c217 c218 c219 c220 c221 c222 c223 c224 c225 c226 c227 c228 c229 c230 c231 c232 c233 c234 c235 c236 c237 c238 c239 c240 c241 c242 c243 c244 c245 c246 c247 c248 c249 c250 c251 c252 c253 c254 c255 c256 c257 c258 c259 c260 c261 c262 c263 c264 c265 c266 c267 c268 c269 c270 c271 c272 c273 c274 c275 c276 c277 c278 c279 c280 c281 c282 c283 c284 c285 c286 c287 c288 c289 c290 : Value} (a : Option Addr) (pb po n cap B g : Nat) (F P : Nat → ByteArray) (C L : Nat → Int) (S : St) (Ru Le : Nat → Int) (Fi Pr : Nat → ByteArray) (w : World)
    (hIn5 : Places w a pb po n Ru Le Fi Pr) (hn2 : n ≤ 65536) (hBx5 : Boxes w B F P C L) (hGot : Boxes w g S.F S.P S.C S.L) (HQ : Hid (∀ j, j < 10 → 0 ≤ C j ∧ C j ≤ 1099511627776)) (HR : Hid (∀ i, i < n → 0 ≤ Ru i ∧ Ru i < 10)) (HS : Hid (S = run ⟨F, P, C, L⟩ Ru Le Fi Pr n))
    {Q0 : Exit → Act → World → Prop} (hexit : ∀ x10 x23 x24 x25 x26 x27 x28 x29 x30 x31 x32 x33 x158 x159 x160 x161 x162 x163 x164 x165 x166 x167 x168 x169 x170 x171 x172 x173 x174 x175 x176 x177 x178 x179 x180 x181 x182 x183 x184 x185 x186 x187 x188 x189 x190 x191 x192 x193 x194 x195 x196 x197 x198 x199 x200 x201 x202 x203 x204 x205 x206 x207 x208 x209 x210 x211 x212 x213 x214 x215 x216 x217 x218 x219 x220 x221 x222 x223 x224 x225 x226 x227 x228 x229 x230 x231 x232 x233 x234 x235 x236 x237 x238 x239 x240 x241 x242 x243 x244 x245 x246 x247 x248 x249 x250 x251 x252 x253 x254 x255 x256 x257 x258 x259 x260 x261 x262 x263 x264 x265 x266 x267 x268 x269 x270 x271 x272 x273 x274 x275 x276 x277 x278 x279 x280 x281 x282 x283 x284 x285 x286 x287 x288 x289 x290 : Value, Q0 (.exit 10) ⟨List.toArray (c0 :: c1 :: c2 :: c3 :: .slice a n cap :: .pointer (some ⟨B, 0, none⟩) :: .pointer (some ⟨B + 1, 0, none⟩) :: .pointer (some ⟨B + 1 + 1, 0, none⟩) :: .pointer (some ⟨B + 1 + 1 + 1, 0, none⟩) :: c9 :: x10 :: c11 :: c12 :: c13 :: c14 :: c15 :: c16 :: c17 :: c18 :: .pointer (some ⟨g, 0, none⟩) :: .pointer (some ⟨g + 1, 0, none⟩) :: .pointer (some ⟨g + 1 + 1, 0, none⟩) :: .pointer (some ⟨g + 1 + 1 + 1, 0, none⟩) :: x23 :: x24 :: x25 :: x26 :: x27 :: x28 :: x29 :: x30 :: x31 :: x32 :: x33 :: c34 :: c35 :: c36 :: c37 :: c38 :: c39 :: c40 :: c41 :: c42 :: c43 :: c44 :: c45 :: c46 :: c47 :: c48 :: c49 :: c50 :: c51 :: c52 :: c53 :: c54 :: c55 :: c56 :: c57 :: c58 :: c59 :: c60 :: c61 :: c62 :: c63 :: c64 :: c65 :: c66 :: c67 :: c68 :: c69 :: c70 :: c71 :: c72 :: c73 :: c74 :: c75 :: c76 :: c77 :: c78 :: c79 :: c80 :: c81 :: c82 :: c83 :: c84 :: c85 :: c86 :: c87 :: c88 :: c89 :: c90 :: c91 :: c92 :: c93 :: c94 :: c95 :: c96 :: c97 :: c98 :: c99 :: c100 :: c101 :: c102 :: c103 :: c104 :: c105 :: c106 :: c107 :: c108 :: c109 :: c110 :: c111 :: c112 :: c113 :: c114 :: c115 :: c116 :: c117 :: c118 :: c119 :: c120 :: c121 :: c122 :: c123 :: c124 :: c125 :: c126 :: c127 :: c128 :: c129 :: c130 :: c131 :: c132 :: c133 :: c134 :: c135 :: c136 :: c137 :: c138 :: c139 :: c140 :: c141 :: c142 :: c143 :: c144 :: c145 :: c146 :: c147 :: c148 :: c149 :: c150 :: c151 :: c152 :: c153 :: c154 :: c155 :: c156 :: c157 :: x158 :: x159 :: x160 :: x161 :: x162 :: x163 :: x164 :: x165 :: x166 :: x167 :: x168 :: x169 :: x170 :: x171 :: x172 :: x173 :: x174 :: x175 :: x176 :: x177 :: x178 :: x179 :: x180 :: x181 :: x182 :: x183 :: x184 :: x185 :: x186 :: x187 :: x188 :: x189 :: x190 :: x191 :: x192 :: x193 :: x194 :: x195 :: x196 :: x197 :: x198 :: x199 :: x200 :: x201 :: x202 :: x203 :: x204 :: x205 :: x206 :: x207 :: x208 :: x209 :: x210 :: x211 :: x212 :: x213 :: x214 :: x215 :: x216 :: x217 :: x218 :: x219 :: x220 :: x221 :: x222 :: x223 :: x224 :: x225 :: x226 :: x227 :: x228 :: x229 :: x230 :: x231 :: x232 :: x233 :: x234 :: x235 :: x236 :: x237 :: x238 :: x239 :: x240 :: x241 :: x242 :: x243 :: x244 :: x245 :: x246 :: x247 :: x248 :: x249 :: x250 :: x251 :: x252 :: x253 :: x254 :: x255 :: x256 :: x257 :: x258 :: x259 :: x260 :: x261 :: x262 :: x263 :: x264 :: x265 :: x266 :: x267 :: x268 :: x269 :: x270 :: x271 :: x272 :: x273 :: x274 :: x275 :: x276 :: x277 :: x278 :: x279 :: x280 :: x281 :: x282 :: x283 :: x284 :: x285 :: x286 :: x287 :: x288 :: x289 :: x290 :: []), []⟩ w) :
    Code.wp Try.prog (Code.loop (nthLoop 5 Try.f3)) Q0 ⟨List.toArray (c0 :: c1 :: c2 :: c3 :: .slice a n cap :: .pointer (some ⟨B, 0, none⟩) :: .pointer (some ⟨B + 1, 0, none⟩) :: .pointer (some ⟨B + 1 + 1, 0, none⟩) :: .pointer (some ⟨B + 1 + 1 + 1, 0, none⟩) :: c9 :: c10 :: c11 :: c12 :: c13 :: c14 :: c15 :: c16 :: c17 :: c18 :: .pointer (some ⟨g, 0, none⟩) :: .pointer (some ⟨g + 1, 0, none⟩) :: .pointer (some ⟨g + 1 + 1, 0, none⟩) :: .pointer (some ⟨g + 1 + 1 + 1, 0, none⟩) :: .int .i64 0 :: c24 :: c25 :: c26 :: c27 :: c28 :: c29 :: c30 :: c31 :: c32 :: c33 :: c34 :: c35 :: c36 :: c37 :: c38 :: c39 :: c40 :: c41 :: c42 :: c43 :: c44 :: c45 :: c46 :: c47 :: c48 :: c49 :: c50 :: c51 :: c52 :: c53 :: c54 :: c55 :: c56 :: c57 :: c58 :: c59 :: c60 :: c61 :: c62 :: c63 :: c64 :: c65 :: c66 :: c67 :: c68 :: c69 :: c70 :: c71 :: c72 :: c73 :: c74 :: c75 :: c76 :: c77 :: c78 :: c79 :: c80 :: c81 :: c82 :: c83 :: c84 :: c85 :: c86 :: c87 :: c88 :: c89 :: c90 :: c91 :: c92 :: c93 :: c94 :: c95 :: c96 :: c97 :: c98 :: c99 :: c100 :: c101 :: c102 :: c103 :: c104 :: c105 :: c106 :: c107 :: c108 :: c109 :: c110 :: c111 :: c112 :: c113 :: c114 :: c115 :: c116 :: c117 :: c118 :: c119 :: c120 :: c121 :: c122 :: c123 :: c124 :: c125 :: c126 :: c127 :: c128 :: c129 :: c130 :: c131 :: c132 :: c133 :: c134 :: c135 :: c136 :: c137 :: c138 :: c139 :: c140 :: c141 :: c142 :: c143 :: c144 :: c145 :: c146 :: c147 :: c148 :: c149 :: c150 :: c151 :: c152 :: c153 :: c154 :: c155 :: c156 :: c157 :: c158 :: c159 :: c160 :: c161 :: c162 :: c163 :: c164 :: c165 :: c166 :: c167 :: c168 :: c169 :: c170 :: c171 :: c172 :: c173 :: c174 :: c175 :: c176 :: c177 :: c178 :: c179 :: c180 :: c181 :: c182 :: c183 :: c184 :: c185 :: c186 :: c187 :: c188 :: c189 :: c190 :: c191 :: c192 :: c193 :: c194 :: c195 :: c196 :: c197 :: c198 :: c199 :: c200 :: c201 :: c202 :: c203 :: c204 :: c205 :: c206 :: c207 :: c208 :: c209 :: c210 :: c211 :: c212 :: c213 :: c214 :: c215 :: c216 :: c217 :: c218 :: c219 :: c220 :: c221 :: c222 :: c223 :: c224 :: c225 :: c226 :: c227 :: c228 :: c229 :: c230 :: c231 :: c232 :: c233 :: c234 :: c235 :: c236 :: c237 :: c238 :: c239 :: c240 :: c241 :: c242 :: c243 :: c244 :: c245 :: c246 :: c247 :: c248 :: c249 :: c250 :: c251 :: c252 :: c253 :: c254 :: c255 :: c256 :: c257 :: c258 :: c259 :: c260 :: c261 :: c262 :: c263 :: c264 :: c265 :: c266 :: c267 :: c268 :: c269 :: c270 :: c271 :: c272 :: c273 :: c274 :: c275 :: c276 :: c277 :: c278 :: c279 :: c280 :: c281 :: c282 :: c283 :: c284 :: c285 :: c286 :: c287 :: c288 :: c289 :: c290 :: []), []⟩ w := by
  conv => arg 2; arg 1; whnf
  have HX : Hid (_) := hexit
  clear hexit
  go_loop [23] (fun v => Seen 10 (fun _ => True) v) (fun v => 10 - (intOf v).toNat)
  case atStart => exact ⟨0, by omega, rfl, fun i hi => absurd hi (Nat.not_lt_zero _)⟩
  case round =>
    obtain ⟨r, hr, rfl, -⟩ := hrel
    by_cases hr10 : r < 10
    · go_wp2
      refine loop7 a pb po n cap r Ru Le Fi Pr _ hIn5 hn2 ?_
      rintro x24 x25 x26 x27 x162 x163 x164 x165 x166 x167 x168 x169 x170 x171 x172 x173 x174 x175 x176 x177 x178 x179 x180 x181 x182 x183 x184 x185 x186 x187 x188 x189 x190 x191 x192 ⟨m, rfl, rfl, hcase⟩
      have hcl := cnt_le (Ru := Ru) (r := r) n
      obtain ⟨q, hq⟩ : ∃ q, q = cnt Ru r n := ⟨_, rfl⟩
      rw [← hq] at hcl
      have HQ7 : Hid (q = cnt Ru r n) := hq
      rw [← hq]
      clear hq
      have hC0 : Hid (0 ≤ C r ∧ C r ≤ 1099511627776) := HQ.out r hr10
      have HRu : Hid (∀ i, i < n → 0 ≤ Ru i) := fun i hi => (HR.out i hi).1
      have hSC : Hid (S.C r = C r + q) := by
        rw [HS.out, HQ7.out]; exact run_C (s := ⟨F, P, C, L⟩) n HRu.out
      have hW : Hid (Want F P C L Ru Le Fi Pr r n q m S) := by
        rcases hcase with ⟨hm, _⟩ | hm
        · exact want_none HRu.out hC0.out.1 hm HQ7.out HS.out
        · exact want_some HRu.out hC0.out.1 hm HQ7.out HS.out
      clear hcase HQ7 HRu
      go_wp2
      refine loop8 a pb po n cap r m Ru Le Fi Pr _ hIn5 hn2 ?_
      rintro x28 x29 x193 x194 x195 x196 x197 x198 x199 x200 x201 x202 x203 x204 x205 x206 x207 x208 x209 x210 x211 x212 x213 x214 x215 x216 x217 x218 x219 hcase
      have b1 := hBx5.f r hr10
      have b2 := hBx5.p r hr10
      have b3 := hBx5.c r hr10
      have b4 := hBx5.l r hr10
      have g1 := hGot.f r hr10
      have g2 := hGot.p r hr10
      have g3 := hGot.c r hr10
      have g4 := hGot.l r hr10
      rw [hSC.out] at g3
      have hCb := hC0.out
      obtain ⟨hCb0, hCb1⟩ := hCb
      clear hBx5 hGot
      have ec : (C r + (q : Int) == C r + (q : Int)) = true := beq_self_eq_true _
      rcases hW.out with ⟨hq0, w1, w2, w3⟩ | ⟨hq0, hk1, hk2, w1, w2, w3⟩ | ⟨hq0, hk1, i, hfi, hin, w1, w2, w3⟩
      · rw [w1] at g1
        rw [w2] at g2
        rw [w3] at g4
        have hq1 : ¬ (0 : Int) < (q : Int) := by omega
        clear w1 w2 w3 hIn5 hq0
        go_wp2
        go_round
        case rel => exact ⟨r + 1, by omega, by go_num, fun _ _ => trivial⟩
        case measure => simp [intOf]; omega
      · rw [w1] at g1
        rw [w2] at g2
        rw [w3] at g4
        clear w1 w2 w3 hIn5
        go_wp2
        go_round
        case rel => exact ⟨r + 1, by omega, by go_num, fun _ _ => trivial⟩
        case measure => simp [intOf]; omega
      · rw [w1] at g1
        rw [w2] at g2
        rw [w3] at g4
        obtain rfl := hIn5.top (by omega)
        have c1 := hIn5.c1 i hin
        have c2 := hIn5.c2 i hin
        have c3 := hIn5.c3 i hin
        rcases hcase with ⟨hf, rfl⟩ | ⟨i', hf, rfl⟩
        · rw [hfi] at hf; cases hf
        · rw [hfi] at hf
          obtain rfl := Option.some.inj hf
          clear hf hfi w1 w2 w3 hIn5
          by_cases hk3 : 0 < C r
          · have hk4 : ¬ m ≤ L r := fun h => hk1 ⟨hk3, h⟩
            clear hk1
            go_wp2
            go_round
            case rel => exact ⟨r + 1, by omega, by go_num, fun _ _ => trivial⟩
            case measure => simp [intOf]; omega
          · clear hk1
            go_wp2
            go_round
            case rel => exact ⟨r + 1, by omega, by go_num, fun _ _ => trivial⟩
            case measure => simp [intOf]; omega
    · clear hIn5 hBx5 hGot
      go_wp2
      exact HX.out _ _ _ _ _ _ _ _ _ _ _ _ _ _ _ _ _ _ _ _ _ _ _ _ _ _ _ _ _ _ _ _ _ _ _ _ _ _ _ _ _ _ _ _ _ _ _ _ _ _ _ _ _ _ _ _ _ _ _ _ _ _ _ _ _ _ _ _ _ _ _ _ _ _ _ _ _ _ _ _ _ _ _ _ _ _ _ _ _ _ _ _ _ _ _ _ _ _ _ _ _ _ _ _ _ _ _ _ _ _ _ _ _ _ _ _ _ _ _ _ _ _ _ _ _ _ _ _ _ _ _ _ _ _ _ _ _ _ _ _ _ _ _ _ _
end Go.Proofs.Qxb6617664a
