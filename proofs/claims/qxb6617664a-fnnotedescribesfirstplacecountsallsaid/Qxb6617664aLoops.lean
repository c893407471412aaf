/- THE TWO INNER LOOPS OF THE LAW, each a declaration of its own (the frame has 291 slots: in one declaration the kernel runs out of memory). The frame is written by program: every slot that the loop neither reads nor writes is a letter. -/
import Derived.Test.Qxb6617664aRead
import Derived.Test.Qxb6617664aPlain
namespace Go.Proofs.Qxb6617664a
open Go.RowKit

/-- The bodies of the loops of a function, in the order of the text. -/
def loopsOf : Code → List Code
  | .loop c => c :: loopsOf c
  | .seq a b => loopsOf a ++ loopsOf b
  | .block _ c => loopsOf c
  | .scope c => loopsOf c
  | .cond _ a b => loopsOf a ++ loopsOf b
  | _ => []
def nthLoop (k : Nat) (f : Func) : Code := ((f.body.map loopsOf).getD [])[k]?.getD .skip

/-- What the loop over the places has: the count, whether there was one, the greatest Left. -/
def Rel7 (Ru Le : Nat → Int) (r n : Nat) (c hv m jv : Value) : Prop :=
  ∃ (k : Nat) (m0 : Int) (b0 : Bool), k ≤ n ∧ jv = .int .i64 k ∧ c = .int .i64 (cnt Ru r k : Nat) ∧ hv = .bool b0 ∧ m = .int .i64 m0 ∧ ((mx Ru Le r k = none ∧ b0 = false ∧ m0 = 0) ∨ (mx Ru Le r k = some m0 ∧ b0 = true))
/-- The first of the places with that Left. -/
def Rel8 (Ru Le : Nat → Int) (r n : Nat) (m : Int) (f jv : Value) : Prop :=
  ∃ k : Nat, k ≤ n ∧ jv = .int .i64 k ∧ ((fst Ru Le r m k = none ∧ f = .int .i64 (-1)) ∨ ∃ i : Nat, fst Ru Le r m k = some i ∧ f = .int .i64 i)
section
variable {Ru Le : Nat → Int} {r k : Nat} {m : Int}
theorem cnt_yes (h : Ru k = r) : cnt Ru r (k + 1) = cnt Ru r k + 1 := by
  conv => lhs; unfold cnt
  rw [if_pos h]
theorem cnt_no (h : ¬ Ru k = r) : cnt Ru r (k + 1) = cnt Ru r k := by
  conv => lhs; unfold cnt
  rw [if_neg h]
theorem mx_first (h : Ru k = r) (hm : mx Ru Le r k = none) : mx Ru Le r (k + 1) = some (Le k) := by
  conv => lhs; unfold mx
  rw [if_pos h, hm]
theorem mx_up (h : Ru k = r) (hm : mx Ru Le r k = some m) (hu : m < Le k) : mx Ru Le r (k + 1) = some (Le k) := by
  conv => lhs; unfold mx
  rw [if_pos h, hm]; simp only; rw [if_pos hu]
theorem mx_stay (h : Ru k = r) (hm : mx Ru Le r k = some m) (hu : ¬ m < Le k) : mx Ru Le r (k + 1) = some m := by
  conv => lhs; unfold mx
  rw [if_pos h, hm]; simp only; rw [if_neg hu]
theorem mx_no (h : ¬ Ru k = r) : mx Ru Le r (k + 1) = mx Ru Le r k := by
  conv => lhs; unfold mx
  rw [if_neg h]
theorem fst_keep {i : Nat} (h : fst Ru Le r m k = some i) : fst Ru Le r m (k + 1) = some i := by
  conv => lhs; unfold fst
  rw [h]
theorem fst_hit (h : fst Ru Le r m k = none) (e : Ru k = r ∧ Le k = m) : fst Ru Le r m (k + 1) = some k := by
  conv => lhs; unfold fst
  rw [h]; simp only; rw [if_pos e]
theorem fst_miss (h : fst Ru Le r m k = none) (e : ¬ (Ru k = r ∧ Le k = m)) : fst Ru Le r m (k + 1) = none := by
  conv => lhs; unfold fst
  rw [h]; simp only; rw [if_neg e]
end


/-- What the first inner loop leaves. -/
def End7 (Ru Le : Nat → Int) (r n : Nat) (c m : Value) : Prop :=
  ∃ m0 : Int, c = .int .i64 (cnt Ru r n : Nat) ∧ m = .int .i64 m0 ∧ ((mx Ru Le r n = none ∧ m0 = 0) ∨ mx Ru Le r n = some m0)
/-- What the second leaves. -/
def End8 (Ru Le : Nat → Int) (r n : Nat) (m : Int) (f : Value) : Prop :=
  (fst Ru Le r m n = none ∧ f = .int .i64 (-1)) ∨ ∃ i : Nat, fst Ru Le r m n = some i ∧ f = .int .i64 i

set_option maxHeartbeats 3200000 in
set_option maxRecDepth 1000000 in
theorem loop7 {c0 c1 c2 c3 c5 c6 c7 c8 c9 c10 c11 c12 c13 c14 c15 c16 c17 c18 c19 c20 c21 c22 c28 c29 c30 c31 c32 c33 c34 c35 c36 c37 c38 c39 c40 c41 c42 c43 c44 c45 c46 c47 c48 c49 c50 c51 c52 c53 c54 c55 c56 c57 c58 c59 c60 c61 c62 c63 c64 c65 c66 c67 c68 c69 c70 c71 c72 c73 c74 c75 c76 c77 c78 c79 c80 c81 c82 c83 c84 c85 c86 c87 c88 c89 c90 c91 c92 c93 c94 c95 c96 c97 c98 c99 c100 c101 c102 c103 c104 c105 c106 c107 c108 c109 c110 c111 c112 c113 c114 c115 c116 c117 c118 c119 c120 c121 c122 c123 c124 c125 c126 c127 c128 c129 c130 c131 c132 c133 c134 c135 c136 c137 c138 c139 c140 c141 c142 c143 c144 c145 c146 c147 c148 c149 c150 c151 c152 c153 c154 c155 c156 c157 c158 c159 c160 c161 c162 c163 c164 c165 c166 c167 c168 c169 c170 c171 c172 c173 c174 c175 c176 c177 c178 c179 c180 c181 c182 c183 c184 c185 c186 c187 c188 c189 c190 c191 c192 c193 c194 c195 c196 c197 c198 c199 c200 c201 c202 c203 c204 c205 c206 c207 c208 c209 c210 c211 c212 c213 c214 c215 c216 c217 c218 c219 c220 c221 c222 c223 c224 c225 c226 c227 c228 c229 c230 c231 c232 c233 c234 c235 c236 c237 c238 c239 c240 c241 c242 c243 c244 c245 c246 c247 c248 c249 c250 c251 c252 c253 c254 c255 c256 c257 c258 c259 c260 c261 c262 c263 c264 c265 c266 c267 c268 c269 c270 c271 c272 c273 c274 c275 c276 c277 c278 c279 c280 c281 c282 c283 c284 c285 c286 c287 c288 c289 c290 : Value} (a : Option Addr) (pb po n cap r : Nat) (Ru Le : Nat → Int) (Fi Pr : Nat → ByteArray) (w : World) (hIn5 : Places w a pb po n Ru Le Fi Pr) (hn2 : n ≤ 65536) {Q0 : Exit → Act → World → Prop}
    (hexit : ∀ x24 x25 x26 x27 x162 x163 x164 x165 x166 x167 x168 x169 x170 x171 x172 x173 x174 x175 x176 x177 x178 x179 x180 x181 x182 x183 x184 x185 x186 x187 x188 x189 x190 x191 x192 : Value, End7 Ru Le r n x24 x26 → Q0 (.exit 12) ⟨List.toArray (c0 :: c1 :: c2 :: c3 :: .slice a n cap :: c5 :: c6 :: c7 :: c8 :: c9 :: c10 :: c11 :: c12 :: c13 :: c14 :: c15 :: c16 :: c17 :: c18 :: c19 :: c20 :: c21 :: c22 :: .int .i64 (r : Nat) :: x24 :: x25 :: x26 :: x27 :: c28 :: c29 :: c30 :: c31 :: c32 :: c33 :: c34 :: c35 :: c36 :: c37 :: c38 :: c39 :: c40 :: c41 :: c42 :: c43 :: c44 :: c45 :: c46 :: c47 :: c48 :: c49 :: c50 :: c51 :: c52 :: c53 :: c54 :: c55 :: c56 :: c57 :: c58 :: c59 :: c60 :: c61 :: c62 :: c63 :: c64 :: c65 :: c66 :: c67 :: c68 :: c69 :: c70 :: c71 :: c72 :: c73 :: c74 :: c75 :: c76 :: c77 :: c78 :: c79 :: c80 :: c81 :: c82 :: c83 :: c84 :: c85 :: c86 :: c87 :: c88 :: c89 :: c90 :: c91 :: c92 :: c93 :: c94 :: c95 :: c96 :: c97 :: c98 :: c99 :: c100 :: c101 :: c102 :: c103 :: c104 :: c105 :: c106 :: c107 :: c108 :: c109 :: c110 :: c111 :: c112 :: c113 :: c114 :: c115 :: c116 :: c117 :: c118 :: c119 :: c120 :: c121 :: c122 :: c123 :: c124 :: c125 :: c126 :: c127 :: c128 :: c129 :: c130 :: c131 :: c132 :: c133 :: c134 :: c135 :: c136 :: c137 :: c138 :: c139 :: c140 :: c141 :: c142 :: c143 :: c144 :: c145 :: c146 :: c147 :: c148 :: c149 :: c150 :: c151 :: c152 :: c153 :: c154 :: c155 :: c156 :: c157 :: c158 :: c159 :: c160 :: c161 :: x162 :: x163 :: x164 :: x165 :: x166 :: x167 :: x168 :: x169 :: x170 :: x171 :: x172 :: x173 :: x174 :: x175 :: x176 :: x177 :: x178 :: x179 :: x180 :: x181 :: x182 :: x183 :: x184 :: x185 :: x186 :: x187 :: x188 :: x189 :: x190 :: x191 :: x192 :: c193 :: c194 :: c195 :: c196 :: c197 :: c198 :: c199 :: c200 :: c201 :: c202 :: c203 :: c204 :: c205 :: c206 :: c207 :: c208 :: c209 :: c210 :: c211 :: c212 :: c213 :: c214 :: c215 :: c216 :: c217 :: c218 :: c219 :: c220 :: c221 :: c222 :: c223 :: c224 :: c225 :: c226 :: c227 :: c228 :: c229 :: c230 :: c231 :: c232 :: c233 :: c234 :: c235 :: c236 :: c237 :: c238 :: c239 :: c240 :: c241 :: c242 :: c243 :: c244 :: c245 :: c246 :: c247 :: c248 :: c249 :: c250 :: c251 :: c252 :: c253 :: c254 :: c255 :: c256 :: c257 :: c258 :: c259 :: c260 :: c261 :: c262 :: c263 :: c264 :: c265 :: c266 :: c267 :: c268 :: c269 :: c270 :: c271 :: c272 :: c273 :: c274 :: c275 :: c276 :: c277 :: c278 :: c279 :: c280 :: c281 :: c282 :: c283 :: c284 :: c285 :: c286 :: c287 :: c288 :: c289 :: c290 :: []), []⟩ w) :
    Code.wp Try.prog (Code.loop (nthLoop 6 Try.f3)) Q0 ⟨List.toArray (c0 :: c1 :: c2 :: c3 :: .slice a n cap :: c5 :: c6 :: c7 :: c8 :: c9 :: c10 :: c11 :: c12 :: c13 :: c14 :: c15 :: c16 :: c17 :: c18 :: c19 :: c20 :: c21 :: c22 :: .int .i64 (r : Nat) :: .int .i64 0 :: .bool false :: .int .i64 0 :: .int .i64 0 :: c28 :: c29 :: c30 :: c31 :: c32 :: c33 :: c34 :: c35 :: c36 :: c37 :: c38 :: c39 :: c40 :: c41 :: c42 :: c43 :: c44 :: c45 :: c46 :: c47 :: c48 :: c49 :: c50 :: c51 :: c52 :: c53 :: c54 :: c55 :: c56 :: c57 :: c58 :: c59 :: c60 :: c61 :: c62 :: c63 :: c64 :: c65 :: c66 :: c67 :: c68 :: c69 :: c70 :: c71 :: c72 :: c73 :: c74 :: c75 :: c76 :: c77 :: c78 :: c79 :: c80 :: c81 :: c82 :: c83 :: c84 :: c85 :: c86 :: c87 :: c88 :: c89 :: c90 :: c91 :: c92 :: c93 :: c94 :: c95 :: c96 :: c97 :: c98 :: c99 :: c100 :: c101 :: c102 :: c103 :: c104 :: c105 :: c106 :: c107 :: c108 :: c109 :: c110 :: c111 :: c112 :: c113 :: c114 :: c115 :: c116 :: c117 :: c118 :: c119 :: c120 :: c121 :: c122 :: c123 :: c124 :: c125 :: c126 :: c127 :: c128 :: c129 :: c130 :: c131 :: c132 :: c133 :: c134 :: c135 :: c136 :: c137 :: c138 :: c139 :: c140 :: c141 :: c142 :: c143 :: c144 :: c145 :: c146 :: c147 :: c148 :: c149 :: c150 :: c151 :: c152 :: c153 :: c154 :: c155 :: c156 :: c157 :: c158 :: c159 :: c160 :: c161 :: c162 :: c163 :: c164 :: c165 :: c166 :: c167 :: c168 :: c169 :: c170 :: c171 :: c172 :: c173 :: c174 :: c175 :: c176 :: c177 :: c178 :: c179 :: c180 :: c181 :: c182 :: c183 :: c184 :: c185 :: c186 :: c187 :: c188 :: c189 :: c190 :: c191 :: c192 :: c193 :: c194 :: c195 :: c196 :: c197 :: c198 :: c199 :: c200 :: c201 :: c202 :: c203 :: c204 :: c205 :: c206 :: c207 :: c208 :: c209 :: c210 :: c211 :: c212 :: c213 :: c214 :: c215 :: c216 :: c217 :: c218 :: c219 :: c220 :: c221 :: c222 :: c223 :: c224 :: c225 :: c226 :: c227 :: c228 :: c229 :: c230 :: c231 :: c232 :: c233 :: c234 :: c235 :: c236 :: c237 :: c238 :: c239 :: c240 :: c241 :: c242 :: c243 :: c244 :: c245 :: c246 :: c247 :: c248 :: c249 :: c250 :: c251 :: c252 :: c253 :: c254 :: c255 :: c256 :: c257 :: c258 :: c259 :: c260 :: c261 :: c262 :: c263 :: c264 :: c265 :: c266 :: c267 :: c268 :: c269 :: c270 :: c271 :: c272 :: c273 :: c274 :: c275 :: c276 :: c277 :: c278 :: c279 :: c280 :: c281 :: c282 :: c283 :: c284 :: c285 :: c286 :: c287 :: c288 :: c289 :: c290 :: []), []⟩ w := by
  conv => arg 2; arg 1; whnf
  have HX : Hid (_) := hexit
  clear hexit
  go_loop [24, 25, 26, 27] (fun c hv m jv => Rel7 Ru Le r n c hv m jv) (fun _ _ _ v => n - (intOf v).toNat)
  case atStart => exact ⟨0, 0, false, by omega, rfl, rfl, rfl, rfl, .inl ⟨rfl, rfl, rfl⟩⟩
  case round =>
    obtain ⟨k, m, b0, hk, rfl, rfl, rfl, rfl, hcase⟩ := hrel
    have hcl := cnt_le (Ru := Ru) (r := r) k
    by_cases hlt : k < n
    · obtain rfl := hIn5.top (by omega)
      have c0 := hIn5.c0 k hlt
      have c1 := hIn5.c1 k hlt
      generalize hq : cnt Ru r k = q at *
      have HQ7 : Hid (cnt Ru r k = q) := hq
      clear hq hIn5
      by_cases e : Ru k = r
      · rw [e] at c0
        have HE : Hid (Ru k = r) := e
        have eb : ((r : Int) == (r : Int)) = true := beq_self_eq_true _
        clear e
        rcases hcase with ⟨hm, rfl, rfl⟩ | ⟨hm, rfl⟩
        · have HM : Hid (mx Ru Le r k = none) := hm
          clear hm
          go_wp2
          go_round
          case rel => exact ⟨k + 1, Le k, true, by omega, by go_num, by rw [cnt_yes HE.out, HQ7.out]; rfl, rfl, rfl, .inr ⟨mx_first HE.out HM.out, rfl⟩⟩
          case measure => simp [intOf]; omega
        · have HM : Hid (mx Ru Le r k = some m) := hm
          clear hm
          by_cases hup : m < Le k
          · go_wp2
            go_round
            case rel => exact ⟨k + 1, Le k, true, by omega, by go_num, by rw [cnt_yes HE.out, HQ7.out]; rfl, rfl, rfl, .inr ⟨mx_up HE.out HM.out hup, rfl⟩⟩
            case measure => simp [intOf]; omega
          · go_wp2
            go_round
            case rel => exact ⟨k + 1, m, true, by omega, by go_num, by rw [cnt_yes HE.out, HQ7.out]; rfl, rfl, rfl, .inr ⟨mx_stay HE.out HM.out hup, rfl⟩⟩
            case measure => simp [intOf]; omega
      · have eb : (Ru k == (r : Int)) = false := beq_eq_false_iff_ne.2 e
        have HE : Hid (¬ Ru k = r) := e
        have HC7 : Hid (_) := hcase
        clear e hcase
        go_wp2
        go_round
        case rel => exact ⟨k + 1, m, b0, by omega, by go_num, by rw [cnt_no HE.out, HQ7.out], rfl, rfl, by rw [mx_no HE.out]; exact HC7.out⟩
        case measure => simp [intOf]; omega
    · obtain ⟨n', rfl⟩ : ∃ n', n' = k := ⟨_, rfl⟩
      obtain rfl : n' = n := by omega
      clear hIn5
      have HC : Hid (_) := hcase
      clear hcase
      go_wp2
      exact HX.out _ _ _ _ _ _ _ _ _ _ _ _ _ _ _ _ _ _ _ _ _ _ _ _ _ _ _ _ _ _ _ _ _ _ _ ⟨m, rfl, rfl, by rcases HC.out with ⟨h1, _, h2⟩ | ⟨h1, _⟩; exact .inl ⟨h1, h2⟩; exact .inr h1⟩

set_option maxHeartbeats 3200000 in
set_option maxRecDepth 1000000 in
theorem loop8 {c0 c1 c2 c3 c5 c6 c7 c8 c9 c10 c11 c12 c13 c14 c15 c16 c17 c18 c19 c20 c21 c22 c24 c25 c27 c30 c31 c32 c33 c34 c35 c36 c37 c38 c39 c40 c41 c42 c43 c44 c45 c46 c47 c48 c49 c50 c51 c52 c53 c54 c55 c56 c57 c58 c59 c60 c61 c62 c63 c64 c65 c66 c67 c68 c69 c70 c71 c72 c73 c74 c75 c76 c77 c78 c79 c80 c81 c82 c83 c84 c85 c86 c87 c88 c89 c90 c91 c92 c93 c94 c95 c96 c97 c98 c99 c100 c101 c102 c103 c104 c105 c106 c107 c108 c109 c110 c111 c112 c113 c114 c115 c116 c117 c118 c119 c120 c121 c122 c123 c124 c125 c126 c127 c128 c129 c130 c131 c132 c133 c134 c135 c136 c137 c138 c139 c140 c141 c142 c143 c144 c145 c146 c147 c148 c149 c150 c151 c152 c153 c154 c155 c156 c157 c158 c159 c160 c161 c162 c163 c164 c165 c166 c167 c168 c169 c170 c171 c172 c173 c174 c175 c176 c177 c178 c179 c180 c181 c182 c183 c184 c185 c186 c187 c188 c189 c190 c191 c192 c193 c194 c195 c196 c197 c198 c199 c200 c201 c202 c203 c204 c205 c206 c207 c208 c209 c210 c211 c212 c213 c214 c215 c216 c217 c218 c219 c220 c221 c222 c223 c224 c225 c226 c227 c228 c229 c230 c231 c232 c233 c234 c235 c236 c237 c238 c239 c240 c241 c242 c243 c244 c245 c246 c247 c248 c249 c250 c251 c252 c253 c254 c255 c256 c257 c258 c259 c260 c261 c262 c263 c264 c265 c266 c267 c268 c269 c270 c271 c272 c273 c274 c275 c276 c277 c278 c279 c280 c281 c282 c283 c284 c285 c286 c287 c288 c289 c290 : Value} (a : Option Addr) (pb po n cap r : Nat) (m : Int) (Ru Le : Nat → Int) (Fi Pr : Nat → ByteArray) (w : World) (hIn5 : Places w a pb po n Ru Le Fi Pr) (hn2 : n ≤ 65536) {Q0 : Exit → Act → World → Prop}
    (hexit : ∀ x28 x29 x193 x194 x195 x196 x197 x198 x199 x200 x201 x202 x203 x204 x205 x206 x207 x208 x209 x210 x211 x212 x213 x214 x215 x216 x217 x218 x219 : Value, End8 Ru Le r n m x28 → Q0 (.exit 14) ⟨List.toArray (c0 :: c1 :: c2 :: c3 :: .slice a n cap :: c5 :: c6 :: c7 :: c8 :: c9 :: c10 :: c11 :: c12 :: c13 :: c14 :: c15 :: c16 :: c17 :: c18 :: c19 :: c20 :: c21 :: c22 :: .int .i64 (r : Nat) :: c24 :: c25 :: .int .i64 m :: c27 :: x28 :: x29 :: c30 :: c31 :: c32 :: c33 :: c34 :: c35 :: c36 :: c37 :: c38 :: c39 :: c40 :: c41 :: c42 :: c43 :: c44 :: c45 :: c46 :: c47 :: c48 :: c49 :: c50 :: c51 :: c52 :: c53 :: c54 :: c55 :: c56 :: c57 :: c58 :: c59 :: c60 :: c61 :: c62 :: c63 :: c64 :: c65 :: c66 :: c67 :: c68 :: c69 :: c70 :: c71 :: c72 :: c73 :: c74 :: c75 :: c76 :: c77 :: c78 :: c79 :: c80 :: c81 :: c82 :: c83 :: c84 :: c85 :: c86 :: c87 :: c88 :: c89 :: c90 :: c91 :: c92 :: c93 :: c94 :: c95 :: c96 :: c97 :: c98 :: c99 :: c100 :: c101 :: c102 :: c103 :: c104 :: c105 :: c106 :: c107 :: c108 :: c109 :: c110 :: c111 :: c112 :: c113 :: c114 :: c115 :: c116 :: c117 :: c118 :: c119 :: c120 :: c121 :: c122 :: c123 :: c124 :: c125 :: c126 :: c127 :: c128 :: c129 :: c130 :: c131 :: c132 :: c133 :: c134 :: c135 :: c136 :: c137 :: c138 :: c139 :: c140 :: c141 :: c142 :: c143 :: c144 :: c145 :: c146 :: c147 :: c148 :: c149 :: c150 :: c151 :: c152 :: c153 :: c154 :: c155 :: c156 :: c157 :: c158 :: c159 :: c160 :: c161 :: c162 :: c163 :: c164 :: c165 :: c166 :: c167 :: c168 :: c169 :: c170 :: c171 :: c172 :: c173 :: c174 :: c175 :: c176 :: c177 :: c178 :: c179 :: c180 :: c181 :: c182 :: c183 :: c184 :: c185 :: c186 :: c187 :: c188 :: c189 :: c190 :: c191 :: c192 :: x193 :: x194 :: x195 :: x196 :: x197 :: x198 :: x199 :: x200 :: x201 :: x202 :: x203 :: x204 :: x205 :: x206 :: x207 :: x208 :: x209 :: x210 :: x211 :: x212 :: x213 :: x214 :: x215 :: x216 :: x217 :: x218 :: x219 :: c220 :: c221 :: c222 :: c223 :: c224 :: c225 :: c226 :: c227 :: c228 :: c229 :: c230 :: c231 :: c232 :: c233 :: c234 :: c235 :: c236 :: c237 :: c238 :: c239 :: c240 :: c241 :: c242 :: c243 :: c244 :: c245 :: c246 :: c247 :: c248 :: c249 :: c250 :: c251 :: c252 :: c253 :: c254 :: c255 :: c256 :: c257 :: c258 :: c259 :: c260 :: c261 :: c262 :: c263 :: c264 :: c265 :: c266 :: c267 :: c268 :: c269 :: c270 :: c271 :: c272 :: c273 :: c274 :: c275 :: c276 :: c277 :: c278 :: c279 :: c280 :: c281 :: c282 :: c283 :: c284 :: c285 :: c286 :: c287 :: c288 :: c289 :: c290 :: []), []⟩ w) :
    Code.wp Try.prog (Code.loop (nthLoop 7 Try.f3)) Q0 ⟨List.toArray (c0 :: c1 :: c2 :: c3 :: .slice a n cap :: c5 :: c6 :: c7 :: c8 :: c9 :: c10 :: c11 :: c12 :: c13 :: c14 :: c15 :: c16 :: c17 :: c18 :: c19 :: c20 :: c21 :: c22 :: .int .i64 (r : Nat) :: c24 :: c25 :: .int .i64 m :: c27 :: .int .i64 (-1) :: .int .i64 0 :: c30 :: c31 :: c32 :: c33 :: c34 :: c35 :: c36 :: c37 :: c38 :: c39 :: c40 :: c41 :: c42 :: c43 :: c44 :: c45 :: c46 :: c47 :: c48 :: c49 :: c50 :: c51 :: c52 :: c53 :: c54 :: c55 :: c56 :: c57 :: c58 :: c59 :: c60 :: c61 :: c62 :: c63 :: c64 :: c65 :: c66 :: c67 :: c68 :: c69 :: c70 :: c71 :: c72 :: c73 :: c74 :: c75 :: c76 :: c77 :: c78 :: c79 :: c80 :: c81 :: c82 :: c83 :: c84 :: c85 :: c86 :: c87 :: c88 :: c89 :: c90 :: c91 :: c92 :: c93 :: c94 :: c95 :: c96 :: c97 :: c98 :: c99 :: c100 :: c101 :: c102 :: c103 :: c104 :: c105 :: c106 :: c107 :: c108 :: c109 :: c110 :: c111 :: c112 :: c113 :: c114 :: c115 :: c116 :: c117 :: c118 :: c119 :: c120 :: c121 :: c122 :: c123 :: c124 :: c125 :: c126 :: c127 :: c128 :: c129 :: c130 :: c131 :: c132 :: c133 :: c134 :: c135 :: c136 :: c137 :: c138 :: c139 :: c140 :: c141 :: c142 :: c143 :: c144 :: c145 :: c146 :: c147 :: c148 :: c149 :: c150 :: c151 :: c152 :: c153 :: c154 :: c155 :: c156 :: c157 :: c158 :: c159 :: c160 :: c161 :: c162 :: c163 :: c164 :: c165 :: c166 :: c167 :: c168 :: c169 :: c170 :: c171 :: c172 :: c173 :: c174 :: c175 :: c176 :: c177 :: c178 :: c179 :: c180 :: c181 :: c182 :: c183 :: c184 :: c185 :: c186 :: c187 :: c188 :: c189 :: c190 :: c191 :: c192 :: c193 :: c194 :: c195 :: c196 :: c197 :: c198 :: c199 :: c200 :: c201 :: c202 :: c203 :: c204 :: c205 :: c206 :: c207 :: c208 :: c209 :: c210 :: c211 :: c212 :: c213 :: c214 :: c215 :: c216 :: c217 :: c218 :: c219 :: c220 :: c221 :: c222 :: c223 :: c224 :: c225 :: c226 :: c227 :: c228 :: c229 :: c230 :: c231 :: c232 :: c233 :: c234 :: c235 :: c236 :: c237 :: c238 :: c239 :: c240 :: c241 :: c242 :: c243 :: c244 :: c245 :: c246 :: c247 :: c248 :: c249 :: c250 :: c251 :: c252 :: c253 :: c254 :: c255 :: c256 :: c257 :: c258 :: c259 :: c260 :: c261 :: c262 :: c263 :: c264 :: c265 :: c266 :: c267 :: c268 :: c269 :: c270 :: c271 :: c272 :: c273 :: c274 :: c275 :: c276 :: c277 :: c278 :: c279 :: c280 :: c281 :: c282 :: c283 :: c284 :: c285 :: c286 :: c287 :: c288 :: c289 :: c290 :: []), []⟩ w := by
  conv => arg 2; arg 1; whnf
  have HX : Hid (_) := hexit
  clear hexit
  go_loop [28, 29] (fun f jv => Rel8 Ru Le r n m f jv) (fun _ v => n - (intOf v).toNat)
  case atStart => exact ⟨0, by omega, rfl, .inl ⟨rfl, rfl⟩⟩
  case round =>
    obtain ⟨k, hk, rfl, hcase⟩ := hrel
    by_cases hlt : k < n
    · obtain rfl := hIn5.top (by omega)
      have c0 := hIn5.c0 k hlt
      have c1 := hIn5.c1 k hlt
      clear hIn5
      rcases hcase with ⟨hf, rfl⟩ | ⟨i, hf, rfl⟩
      · have HF : Hid (fst Ru Le r m k = none) := hf
        clear hf
        by_cases e : Ru k = r
        · rw [e] at c0
          have HE : Hid (Ru k = r) := e
          have eb : ((r : Int) == (r : Int)) = true := beq_self_eq_true _
          clear e
          by_cases e2 : Le k = m
          · rw [e2] at c1
            have HE2 : Hid (Le k = m) := e2
            have eb2 : (m == m) = true := beq_self_eq_true _
            clear e2
            go_wp2
            go_round
            case rel => exact ⟨k + 1, by omega, by go_num, .inr ⟨k, fst_hit HF.out ⟨HE.out, HE2.out⟩, rfl⟩⟩
            case measure => simp [intOf]; omega
          · have eb2 : (Le k == m) = false := beq_eq_false_iff_ne.2 e2
            have HE2 : Hid (¬ Le k = m) := e2
            clear e2
            go_wp2
            go_round
            case rel => exact ⟨k + 1, by omega, by go_num, .inl ⟨fst_miss HF.out (fun h => HE2.out h.2), rfl⟩⟩
            case measure => simp [intOf]; omega
        · have eb : (Ru k == (r : Int)) = false := beq_eq_false_iff_ne.2 e
          have HE : Hid (¬ Ru k = r) := e
          clear e
          go_wp2
          go_round
          case rel => exact ⟨k + 1, by omega, by go_num, .inl ⟨fst_miss HF.out (fun h => HE.out h.1), rfl⟩⟩
          case measure => simp [intOf]; omega
      · have HF : Hid (fst Ru Le r m k = some i) := hf
        clear hf
        have hi0 : decide ((i : Int) < 0) = false := decide_eq_false (by omega)
        go_wp2
        go_round
        case rel => exact ⟨k + 1, by omega, by go_num, .inr ⟨i, fst_keep HF.out, rfl⟩⟩
        case measure => simp [intOf]; omega
    · obtain ⟨n', rfl⟩ : ∃ n', n' = k := ⟨_, rfl⟩
      obtain rfl : n' = n := by omega
      clear hIn5
      have HC : Hid (_) := hcase
      clear hcase
      go_wp2
      exact HX.out _ _ _ _ _ _ _ _ _ _ _ _ _ _ _ _ _ _ _ _ _ _ _ _ _ _ _ _ _ HC.out
end Go.Proofs.Qxb6617664a
