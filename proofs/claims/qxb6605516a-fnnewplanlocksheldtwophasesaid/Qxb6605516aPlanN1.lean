import Derived.Test.Qxb6605516aPlanL
namespace Go.Proofs.Qxb6605516a
open Go.RowKit
set_option linter.unusedVariables false

set_option maxRecDepth 100000 in
set_option maxHeartbeats 8000000 in
theorem np_1 {c1 c2 c3 c4 c5 c6 c11 c12 c13 c14 c15 c16 c17 c18 c19 c20 c21 c22 c23 c24 c25 c26 c27 c28 c29 c30 c31 c32 c33 c34 c35 c36 c37 c38 c39 c40 c41 c42 c43 c44 c45 c46 c47 c48 c49 c50 c51 c52 c53 c54 c55 c56 c57 c58 c59 c60 c61 c62 c63 c64 c65 c66 c67 c68 c69 c70 c71 c72 c73 c74 c75 c76 c77 c78 c79 c80 c118 c119 c120 c121 c122 c123 c124 c125 c126 c127 c128 c129 c130 c131 c132 c133 c134 c135 c136 c137 c138 c139 c140 c141 c142 c143 c144 c145 c146 c147 c148 c149 c150 c151 c152 c153 c154 c155 c156 c157 c158 c159 c160 c161 c162 c163 c164 c165 c166 c167 c168 c169 c170 c171 c172 c173 c174 c175 c176 c177 c178 c179 c180 c181 c182 c183 c184 c185 c186 c187 c188 c189 c190 c191 c192 c193 c194 c195 c196 c197 c198 c199 c200 c201 c202 c203 c204 c205 c206 c207 c208 c209 c210 c211 c212 c213 c214 c215 c216 c217 c218 c219 c220 c221 c222 c223 c224 c225 c226 c227 c228 c229 c230 c231 c232 c233 c234 c235 c236 c237 c238 c239 c240 c241 c242 c243 c244 c245 c246 c247 c248 c249 c250 c251 c252 c253 c254 c255 c256 c257 c258 c259 c260 c261 c262 c263 c264 c265 c266 c267 c268 c269 c270 c271 c272 c273 c274 c275 c276 c277 c278 c279 c280 c281 c282 c283 c284 c285 c286 c287 c288 c289 c290 c291 c292 c293 c294 c295 c296 c297 c298 c299 c300 c301 c302 c303 c304 c305 u10 u81 u82 u83 u84 u85 u86 u87 u88 u89 u90 u91 u92 u93 u94 u95 u96 u97 u98 u99 u100 u101 u102 u103 u104 u105 u106 u107 u108 u109 u110 u111 u112 u113 u114 u115 u116 u117 : Value} {Q0 : Exit → Act → World → Prop} {w wr : World} {v : Int} {n nt ni pl md af nx fi la cl0 cf0 bh : Nat} {K T X : Nat → Int} {ha : Option Addr} {hc : Nat} {ta : Option Addr} {tc : Nat} {ia : Option Addr} {ic : Nat} {l : ByteArray} (hn : n ≤ 4096) (hnt : nt ≤ 4096) (hni : ni ≤ 4096) (hd : Dom n nt ni K T X v) (hh : Hist w bh n nt ni K T X ha hc ta tc ia ic l)
    (hN1 : NP1 w wr v n nt pl md af nx fi la cl0 cf0 minus (fun _ => 0))
    (hexit : ∀ {u10 u81 u82 u83 u84 u85 u86 u87 u88 u89 u90 u91 u92 u93 u94 u95 u96 u97 u98 u99 u100 u101 u102 u103 u104 u105 u106 u107 u108 u109 u110 u111 u112 u113 u114 u115 u116 u117 : Value} {F L : Nat → Int} {w' : World}, RT w v n nt pl md af nx fi la cl0 cf0 K T (.int .i64 (-1)) w' n F L → Q0 (.exit 0) ⟨((Value.pointer (some ⟨bh, 0, none⟩)) :: c1 :: c2 :: c3 :: c4 :: c5 :: c6 :: (Value.slice (some ⟨fi, 0, none⟩) nt nt) :: (Value.slice (some ⟨la, 0, none⟩) n n) :: (Value.int .i64 (-1)) :: u10 :: c11 :: c12 :: c13 :: c14 :: c15 :: c16 :: c17 :: c18 :: c19 :: c20 :: c21 :: c22 :: c23 :: c24 :: c25 :: c26 :: c27 :: c28 :: c29 :: c30 :: c31 :: c32 :: c33 :: c34 :: c35 :: c36 :: c37 :: c38 :: c39 :: c40 :: c41 :: c42 :: c43 :: c44 :: c45 :: c46 :: c47 :: c48 :: c49 :: c50 :: c51 :: c52 :: c53 :: c54 :: c55 :: c56 :: c57 :: c58 :: c59 :: c60 :: c61 :: c62 :: c63 :: c64 :: c65 :: c66 :: c67 :: c68 :: c69 :: c70 :: c71 :: c72 :: c73 :: c74 :: c75 :: c76 :: c77 :: c78 :: c79 :: c80 :: u81 :: u82 :: u83 :: u84 :: u85 :: u86 :: u87 :: u88 :: u89 :: u90 :: u91 :: u92 :: u93 :: u94 :: u95 :: u96 :: u97 :: u98 :: u99 :: u100 :: u101 :: u102 :: u103 :: u104 :: u105 :: u106 :: u107 :: u108 :: u109 :: u110 :: u111 :: u112 :: u113 :: u114 :: u115 :: u116 :: u117 :: c118 :: c119 :: c120 :: c121 :: c122 :: c123 :: c124 :: c125 :: c126 :: c127 :: c128 :: c129 :: c130 :: c131 :: c132 :: c133 :: c134 :: c135 :: c136 :: c137 :: c138 :: c139 :: c140 :: c141 :: c142 :: c143 :: c144 :: c145 :: c146 :: c147 :: c148 :: c149 :: c150 :: c151 :: c152 :: c153 :: c154 :: c155 :: c156 :: c157 :: c158 :: c159 :: c160 :: c161 :: c162 :: c163 :: c164 :: c165 :: c166 :: c167 :: c168 :: c169 :: c170 :: c171 :: c172 :: c173 :: c174 :: c175 :: c176 :: c177 :: c178 :: c179 :: c180 :: c181 :: c182 :: c183 :: c184 :: c185 :: c186 :: c187 :: c188 :: c189 :: c190 :: c191 :: c192 :: c193 :: c194 :: c195 :: c196 :: c197 :: c198 :: c199 :: c200 :: c201 :: c202 :: c203 :: c204 :: c205 :: c206 :: c207 :: c208 :: c209 :: c210 :: c211 :: c212 :: c213 :: c214 :: c215 :: c216 :: c217 :: c218 :: c219 :: c220 :: c221 :: c222 :: c223 :: c224 :: c225 :: c226 :: c227 :: c228 :: c229 :: c230 :: c231 :: c232 :: c233 :: c234 :: c235 :: c236 :: c237 :: c238 :: c239 :: c240 :: c241 :: c242 :: c243 :: c244 :: c245 :: c246 :: c247 :: c248 :: c249 :: c250 :: c251 :: c252 :: c253 :: c254 :: c255 :: c256 :: c257 :: c258 :: c259 :: c260 :: c261 :: c262 :: c263 :: c264 :: c265 :: c266 :: c267 :: c268 :: c269 :: c270 :: c271 :: c272 :: c273 :: c274 :: c275 :: c276 :: c277 :: c278 :: c279 :: c280 :: c281 :: c282 :: c283 :: c284 :: c285 :: c286 :: c287 :: c288 :: c289 :: c290 :: c291 :: c292 :: c293 :: c294 :: c295 :: c296 :: c297 :: c298 :: c299 :: c300 :: c301 :: c302 :: c303 :: c304 :: c305 :: []).toArray, []⟩ w') :
    Code.wp Try.prog (Code.loop lp38_1) Q0 ⟨((Value.pointer (some ⟨bh, 0, none⟩)) :: c1 :: c2 :: c3 :: c4 :: c5 :: c6 :: (Value.slice (some ⟨fi, 0, none⟩) nt nt) :: (Value.slice (some ⟨la, 0, none⟩) n n) :: (Value.int .i64 ((n : Int) - 1)) :: u10 :: c11 :: c12 :: c13 :: c14 :: c15 :: c16 :: c17 :: c18 :: c19 :: c20 :: c21 :: c22 :: c23 :: c24 :: c25 :: c26 :: c27 :: c28 :: c29 :: c30 :: c31 :: c32 :: c33 :: c34 :: c35 :: c36 :: c37 :: c38 :: c39 :: c40 :: c41 :: c42 :: c43 :: c44 :: c45 :: c46 :: c47 :: c48 :: c49 :: c50 :: c51 :: c52 :: c53 :: c54 :: c55 :: c56 :: c57 :: c58 :: c59 :: c60 :: c61 :: c62 :: c63 :: c64 :: c65 :: c66 :: c67 :: c68 :: c69 :: c70 :: c71 :: c72 :: c73 :: c74 :: c75 :: c76 :: c77 :: c78 :: c79 :: c80 :: u81 :: u82 :: u83 :: u84 :: u85 :: u86 :: u87 :: u88 :: u89 :: u90 :: u91 :: u92 :: u93 :: u94 :: u95 :: u96 :: u97 :: u98 :: u99 :: u100 :: u101 :: u102 :: u103 :: u104 :: u105 :: u106 :: u107 :: u108 :: u109 :: u110 :: u111 :: u112 :: u113 :: u114 :: u115 :: u116 :: u117 :: c118 :: c119 :: c120 :: c121 :: c122 :: c123 :: c124 :: c125 :: c126 :: c127 :: c128 :: c129 :: c130 :: c131 :: c132 :: c133 :: c134 :: c135 :: c136 :: c137 :: c138 :: c139 :: c140 :: c141 :: c142 :: c143 :: c144 :: c145 :: c146 :: c147 :: c148 :: c149 :: c150 :: c151 :: c152 :: c153 :: c154 :: c155 :: c156 :: c157 :: c158 :: c159 :: c160 :: c161 :: c162 :: c163 :: c164 :: c165 :: c166 :: c167 :: c168 :: c169 :: c170 :: c171 :: c172 :: c173 :: c174 :: c175 :: c176 :: c177 :: c178 :: c179 :: c180 :: c181 :: c182 :: c183 :: c184 :: c185 :: c186 :: c187 :: c188 :: c189 :: c190 :: c191 :: c192 :: c193 :: c194 :: c195 :: c196 :: c197 :: c198 :: c199 :: c200 :: c201 :: c202 :: c203 :: c204 :: c205 :: c206 :: c207 :: c208 :: c209 :: c210 :: c211 :: c212 :: c213 :: c214 :: c215 :: c216 :: c217 :: c218 :: c219 :: c220 :: c221 :: c222 :: c223 :: c224 :: c225 :: c226 :: c227 :: c228 :: c229 :: c230 :: c231 :: c232 :: c233 :: c234 :: c235 :: c236 :: c237 :: c238 :: c239 :: c240 :: c241 :: c242 :: c243 :: c244 :: c245 :: c246 :: c247 :: c248 :: c249 :: c250 :: c251 :: c252 :: c253 :: c254 :: c255 :: c256 :: c257 :: c258 :: c259 :: c260 :: c261 :: c262 :: c263 :: c264 :: c265 :: c266 :: c267 :: c268 :: c269 :: c270 :: c271 :: c272 :: c273 :: c274 :: c275 :: c276 :: c277 :: c278 :: c279 :: c280 :: c281 :: c282 :: c283 :: c284 :: c285 :: c286 :: c287 :: c288 :: c289 :: c290 :: c291 :: c292 :: c293 :: c294 :: c295 :: c296 :: c297 :: c298 :: c299 :: c300 :: c301 :: c302 :: c303 :: c304 :: c305 :: []).toArray, []⟩ wr := by
  have HD := hide hd
  have HH := hide hh
  have lh := hh.blk.lt
  clear hd hh
  have HN1 := hide hN1
  clear hN1
  refine Code.wp_mono (Q := NoPanic Q0) (fun e a w h => NoPanic.imp e a w h) ?_
  conv => arg 2; arg 1; whnf
  go_loopw [9] (fun s wr => ∃ (d : Nat) (F L : Nat → Int), RT w v n nt pl md af nx fi la cl0 cf0 K T s wr d F L) (fun s _ => (intOf s + 1).toNat)
  case atStart => exact ⟨0, _, _, by omega, by go_num, HN1.out, fun τ _ => rfl⟩
  case round =>
    obtain ⟨d, F, L, hdn, rfl, hN, hT⟩ := hrel
    have HN := hide hN
    have HT := hide hT
    clear hN hT HN1
    by_cases hlt : d < n
    · obtain ⟨p, hp⟩ : ∃ p, p = n - (d + 1) := ⟨_, rfl⟩
      have e : ((n : Int) - 1 - d) = (p : Int) := by omega
      rw [e]
      have Hp := hide hp
      have hpn : p < n := by omega
      have He := hide e
      clear hp e
      have HH' := HH.out.below HN.out.bel
      obtain ⟨k0, k1, k2⟩ := HH'.cells
      rcases HH'.sl with h0 | ⟨bo, off, rfl, hbl, hcl⟩
      · omega
      have c0 := hcl (p * 3) (by omega)
      have c1 := hcl (p * 3 + 1) (by omega)
      have c2 := hcl (p * 3 + 2) (by omega)
      rw [opCell0] at c0
      rw [opCell1, ← Nat.add_assoc] at c1
      rw [opCell2, ← Nat.add_assoc] at c2
      clear hcl HH'
      have lbh : bh < wr.heap.size := Nat.lt_of_lt_of_le lh HN.out.bel.size
      by_cases hk1 : K p = 1
      · have hD := HD.out.rw p hpn (.inl hk1)
        obtain ⟨τ, hτ⟩ := Int.eq_ofNat_of_zero_le hD.1
        have hτn : τ < nt := by omega
        rw [hτ] at c1
        have Hτ := hide hτ
        clear hτ hD
        rw [hk1] at c0
        have HK := hide hk1
        clear hk1
        have f1 := HN.out.bfi.rcell τ hτn
        have f2 := HN.out.bla.rcell p hpn
        have g1 := HN.out.bfi.free
        have g2 := HN.out.bla.free
        have l1 := HN.out.bfi.lt
        have l2 := HN.out.bla.lt
        have ne : fi ≠ la := nd_ne (i := 4) (j := 5) HN.out.nd rfl rfl (by decide)
        as_aux_lemma =>
          go_wp2
          go_region
          go_step
          go_step
          go_wp2
          go_roundw
          case rel => exact ⟨d + 1, _, _, by omega, by have := He.out; go_num, (((HN.out.set_la p (F τ)).set_fi τ p).alloc _).drew, by
            have h := thr_rw hlt HT.out (by rw [← Hp.out]; exact .inl HK.out) (by rw [← Hp.out, Hτ.out]; omega) (by rw [← Hp.out, Hτ.out]; omega)
            rw [← Hp.out, Hτ.out] at h
            exact h⟩
          case measure => simp [intOf]
      by_cases hk2 : K p = 2
      · have hD := HD.out.rw p hpn (.inr hk2)
        obtain ⟨τ, hτ⟩ := Int.eq_ofNat_of_zero_le hD.1
        have hτn : τ < nt := by omega
        rw [hτ] at c1
        have Hτ := hide hτ
        clear hτ hD
        rw [hk2] at c0
        have HK := hide hk2
        clear hk1 hk2
        have f1 := HN.out.bfi.rcell τ hτn
        have f2 := HN.out.bla.rcell p hpn
        have g1 := HN.out.bfi.free
        have g2 := HN.out.bla.free
        have l1 := HN.out.bfi.lt
        have l2 := HN.out.bla.lt
        have ne : fi ≠ la := nd_ne (i := 4) (j := 5) HN.out.nd rfl rfl (by decide)
        as_aux_lemma =>
          go_wp2
          go_region
          go_step
          go_step
          go_wp2
          go_roundw
          case rel => exact ⟨d + 1, _, _, by omega, by have := He.out; go_num, (((HN.out.set_la p (F τ)).set_fi τ p).alloc _).drew, by
            have h := thr_rw hlt HT.out (by rw [← Hp.out]; exact .inr HK.out) (by rw [← Hp.out, Hτ.out]; omega) (by rw [← Hp.out, Hτ.out]; omega)
            rw [← Hp.out, Hτ.out] at h
            exact h⟩
          case measure => simp [intOf]
      by_cases hk3 : K p = 3
      · have hD := HD.out.en p hpn (.inl hk3)
        obtain ⟨τ, hτ⟩ := Int.eq_ofNat_of_zero_le hD.1
        have hτn : τ < nt := by omega
        rw [hτ] at c1
        have Hτ := hide hτ
        clear hτ hD
        rw [hk3] at c0
        have HK := hide hk3
        clear hk1 hk2 hk3
        have f1 := HN.out.bfi.rcell τ hτn
        have g1 := HN.out.bfi.free
        have l1 := HN.out.bfi.lt
        as_aux_lemma =>
          go_wp2
          go_roundw
          case rel => exact ⟨d + 1, _, _, by omega, by have := He.out; go_num, (HN.out.set_fi τ (-1)).alloc _, by
            have h := thr_end HT.out (by rw [← Hp.out]; exact .inl HK.out) (by rw [← Hp.out, Hτ.out]; omega)
            rw [← Hp.out, Hτ.out] at h
            exact h⟩
          case measure => simp [intOf]
      by_cases hk4 : K p = 4
      · have hD := HD.out.en p hpn (.inr hk4)
        obtain ⟨τ, hτ⟩ := Int.eq_ofNat_of_zero_le hD.1
        have hτn : τ < nt := by omega
        rw [hτ] at c1
        have Hτ := hide hτ
        clear hτ hD
        rw [hk4] at c0
        have HK := hide hk4
        clear hk1 hk2 hk3 hk4
        have f1 := HN.out.bfi.rcell τ hτn
        have g1 := HN.out.bfi.free
        have l1 := HN.out.bfi.lt
        as_aux_lemma =>
          go_wp2
          go_roundw
          case rel => exact ⟨d + 1, _, _, by omega, by have := He.out; go_num, (HN.out.set_fi τ (-1)).alloc _, by
            have h := thr_end HT.out (by rw [← Hp.out]; exact .inr HK.out) (by rw [← Hp.out, Hτ.out]; omega)
            rw [← Hp.out, Hτ.out] at h
            exact h⟩
          case measure => simp [intOf]
      · have e1 : (K p == 1) = false := by simpa using hk1
        have e2 : (K p == 2) = false := by simpa using hk2
        have e3 : (K p == 3) = false := by simpa using hk3
        have e4 : (K p == 4) = false := by simpa using hk4
        have Hk := hide (show (¬ (K p = 1 ∨ K p = 2)) ∧ ¬ (K p = 3 ∨ K p = 4) by omega)
        clear hk1 hk2 hk3 hk4
        as_aux_lemma =>
          go_wp2
          go_roundw
          case rel => exact ⟨d + 1, _, _, by omega, by have := He.out; go_num, HN.out.alloc _, thr_none HT.out (by rw [← Hp.out]; exact Hk.out.1) (by rw [← Hp.out]; exact Hk.out.2)⟩
          case measure => simp [intOf]
    · have hdn' : n = d := by omega
      subst hdn'
      have e : ((n : Int) - 1 - n) = -1 := by omega
      rw [e]
      clear e
      have HRT : Hid (RT w v n nt pl md af nx fi la cl0 cf0 K T (.int .i64 (-1)) wr n F L) := ⟨by omega, by rw [show ((n : Int) - 1 - n) = -1 by omega], HN.out, HT.out⟩
      as_aux_lemma =>
        go_wp2
        first | exact hexit HRT.out | exact ⟨_, _, HRT.out⟩ | exact HRT.out
end Go.Proofs.Qxb6605516a
