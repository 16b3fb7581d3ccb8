/-
  The law's drawn appends.
-/
import Derived.Test.YbulkbndkDoorPush
namespace Go.Proofs.YbulkbndkDoor.Pr
set_option linter.unusedSimpArgs false
set_option linter.unusedVariables false
open Go.ChangeShapes Go.WideShapes Go.ChangeAt Go.RowKit

set_option maxRecDepth 100000 in
theorem lit368 (b : Act) (g : Nat → Value) (hg : ∀ t, b.tmps[t]?.getD undef = g t) (hN : b.tmps.size = 368) (hd : b.defers = []) : b = { tmps := (g 0 :: g 1 :: g 2 :: g 3 :: g 4 :: g 5 :: g 6 :: g 7 :: g 8 :: g 9 :: g 10 :: g 11 :: g 12 :: g 13 :: g 14 :: g 15 :: g 16 :: g 17 :: g 18 :: g 19 :: g 20 :: g 21 :: g 22 :: g 23 :: g 24 :: g 25 :: g 26 :: g 27 :: g 28 :: g 29 :: g 30 :: g 31 :: g 32 :: g 33 :: g 34 :: g 35 :: g 36 :: g 37 :: g 38 :: g 39 :: g 40 :: g 41 :: g 42 :: g 43 :: g 44 :: g 45 :: g 46 :: g 47 :: g 48 :: g 49 :: g 50 :: g 51 :: g 52 :: g 53 :: g 54 :: g 55 :: g 56 :: g 57 :: g 58 :: g 59 :: g 60 :: g 61 :: g 62 :: g 63 :: g 64 :: g 65 :: g 66 :: g 67 :: g 68 :: g 69 :: g 70 :: g 71 :: g 72 :: g 73 :: g 74 :: g 75 :: g 76 :: g 77 :: g 78 :: g 79 :: g 80 :: g 81 :: g 82 :: g 83 :: g 84 :: g 85 :: g 86 :: g 87 :: g 88 :: g 89 :: g 90 :: g 91 :: g 92 :: g 93 :: g 94 :: g 95 :: g 96 :: g 97 :: g 98 :: g 99 :: g 100 :: g 101 :: g 102 :: g 103 :: g 104 :: g 105 :: g 106 :: g 107 :: g 108 :: g 109 :: g 110 :: g 111 :: g 112 :: g 113 :: g 114 :: g 115 :: g 116 :: g 117 :: g 118 :: g 119 :: g 120 :: g 121 :: g 122 :: g 123 :: g 124 :: g 125 :: g 126 :: g 127 :: g 128 :: g 129 :: g 130 :: g 131 :: g 132 :: g 133 :: g 134 :: g 135 :: g 136 :: g 137 :: g 138 :: g 139 :: g 140 :: g 141 :: g 142 :: g 143 :: g 144 :: g 145 :: g 146 :: g 147 :: g 148 :: g 149 :: g 150 :: g 151 :: g 152 :: g 153 :: g 154 :: g 155 :: g 156 :: g 157 :: g 158 :: g 159 :: g 160 :: g 161 :: g 162 :: g 163 :: g 164 :: g 165 :: g 166 :: g 167 :: g 168 :: g 169 :: g 170 :: g 171 :: g 172 :: g 173 :: g 174 :: g 175 :: g 176 :: g 177 :: g 178 :: g 179 :: g 180 :: g 181 :: g 182 :: g 183 :: g 184 :: g 185 :: g 186 :: g 187 :: g 188 :: g 189 :: g 190 :: g 191 :: g 192 :: g 193 :: g 194 :: g 195 :: g 196 :: g 197 :: g 198 :: g 199 :: g 200 :: g 201 :: g 202 :: g 203 :: g 204 :: g 205 :: g 206 :: g 207 :: g 208 :: g 209 :: g 210 :: g 211 :: g 212 :: g 213 :: g 214 :: g 215 :: g 216 :: g 217 :: g 218 :: g 219 :: g 220 :: g 221 :: g 222 :: g 223 :: g 224 :: g 225 :: g 226 :: g 227 :: g 228 :: g 229 :: g 230 :: g 231 :: g 232 :: g 233 :: g 234 :: g 235 :: g 236 :: g 237 :: g 238 :: g 239 :: g 240 :: g 241 :: g 242 :: g 243 :: g 244 :: g 245 :: g 246 :: g 247 :: g 248 :: g 249 :: g 250 :: g 251 :: g 252 :: g 253 :: g 254 :: g 255 :: g 256 :: g 257 :: g 258 :: g 259 :: g 260 :: g 261 :: g 262 :: g 263 :: g 264 :: g 265 :: g 266 :: g 267 :: g 268 :: g 269 :: g 270 :: g 271 :: g 272 :: g 273 :: g 274 :: g 275 :: g 276 :: g 277 :: g 278 :: g 279 :: g 280 :: g 281 :: g 282 :: g 283 :: g 284 :: g 285 :: g 286 :: g 287 :: g 288 :: g 289 :: g 290 :: g 291 :: g 292 :: g 293 :: g 294 :: g 295 :: g 296 :: g 297 :: g 298 :: g 299 :: g 300 :: g 301 :: g 302 :: g 303 :: g 304 :: g 305 :: g 306 :: g 307 :: g 308 :: g 309 :: g 310 :: g 311 :: g 312 :: g 313 :: g 314 :: g 315 :: g 316 :: g 317 :: g 318 :: g 319 :: g 320 :: g 321 :: g 322 :: g 323 :: g 324 :: g 325 :: g 326 :: g 327 :: g 328 :: g 329 :: g 330 :: g 331 :: g 332 :: g 333 :: g 334 :: g 335 :: g 336 :: g 337 :: g 338 :: g 339 :: g 340 :: g 341 :: g 342 :: g 343 :: g 344 :: g 345 :: g 346 :: g 347 :: g 348 :: g 349 :: g 350 :: g 351 :: g 352 :: g 353 :: g 354 :: g 355 :: g 356 :: g 357 :: g 358 :: g 359 :: g 360 :: g 361 :: g 362 :: g 363 :: g 364 :: g 365 :: g 366 :: g 367 :: []).toArray, defers := [] } := by
  obtain ⟨tm, df⟩ := b
  obtain rfl : df = [] := hd
  obtain rfl : (fun t => tm[t]?.getD undef) = g := funext hg
  exact congrArg (fun x => Act.mk x []) (tmps_eq hN)

set_option maxRecDepth 100000 in
set_option maxHeartbeats 4000000 in
theorem law_r31 {Q : Exit → Act → World → Prop} (A Pa mm j ab : Nat) (rf : Nat → Value) (m BB : Nat) (xs : List Value) (f : Act) (w : World) (hj : j < 4) (hmj : (mm : Int) % 4 = (j : Int)) (hm256 : mm < 256) (pc : w.cell? ⟨Pa, j, none⟩ = some (.pointer (some ⟨ab, 0, none⟩))) (pcb : Pa ≠ A) (pcr : (rf 8).ownBlock ≠ some Pa)
    (hr : w.rowIs A 86 35 rf) (hown : w.ownsRow BB 32 1 (rf 8) m xs) (hm : m ≤ 1000000) (nh : (rf 8).ownBlock ≠ some A) (hBB : BB ≤ w.heap.size)
    (hsz : f.tmps.size = 368) (hds : f.defers = []) (ht17 : f.tmps[17]?.getD undef = .pointer (some ⟨A, 0, none⟩)) (ht20 : f.tmps[20]?.getD undef = .int .u8 (mm : Int)) (ht9 : f.tmps[9]?.getD undef = .pointer (some ⟨Pa, 0, none⟩))
    (hend : ∀ f' w' gg cap, f'.tmps.size = 368 → f'.defers = [] → (∀ t, t < 153 → f'.tmps[t]?.getD undef = f.tmps[t]?.getD undef) → Apd w w' A 8 86 35 rf BB 32 1 m xs [.pointer (some ⟨ab, 0, none⟩)] gg cap → Q .normal f' w') :
    Code.wp Ybad.prog ((Ybad.f3.body.bind (reg 31)).getD .skip) Q f w := by
  conv => arg 2; whnf
  obtain ⟨i0, hi0, hz0, hz1, hz2⟩ := info_parts info32
  have hj0 : (0 : Int) ≤ (j : Int) := by omega
  have hj1 : (j : Int) < 4 := by omega
  have hm0 : (0 : Int) ≤ (mm : Int) := by omega
  have hwr : IntKind.i64.wrap (mm : Int) = (mm : Int) := by rw [IntKind.wrap_i64]; omega
  have htm : (mm : Int).tmod 4 = (j : Int) := by rw [Int.tmod_eq_emod_of_nonneg hm0]; exact hmj
  refine app_shape (N := 368) f w (by kernel_rfl) (fun i => match i with
    | 0 => .pointer (some ⟨A, 0, none⟩)
    | 1 => .pointer (some ⟨A, 0, none⟩)
    | 2 => .pointer (some ⟨A, 0, none⟩)
    | 3 => .pointer (some ⟨A, 8, none⟩)
    | 4 => rf 8
    | 5 => .int .u8 (mm : Int)
    | 6 => .int .i64 (mm : Int)
    | 7 => .int .i64 (j : Int)
    | 8 => .pointer (some ⟨Pa, j, none⟩)
    | 9 => .pointer (some ⟨ab, 0, none⟩)
    | 12 => .pointer (some ⟨A, 0, none⟩)
    | 13 => .pointer (some ⟨A, 8, none⟩)
    | _ => undef) 4 10 11 14 (by decide) rfl rfl rfl A 8 86 35 rf BB 32 1 8 m xs [.pointer (some ⟨ab, 0, none⟩)] 32 80 i0 _ hr (by omega) hown hm nh hBB Ybad.underlying80 hi0 hz0 hz1 hz2 rfl (by omega) (by omega) rfl rfl (by intro q hq; simp at hq; first | (subst hq; rfl) | (rcases hq with rfl | rfl <;> rfl) | (rcases hq with rfl | rfl | rfl <;> rfl) | (rcases hq with rfl | rfl | rfl | rfl <;> rfl)) 157 163 0 164 rfl rfl rfl rfl (by simp) (by simp) rfl (by simp) rfl hsz hds ?_ ?_ ?_ ?_ ?_
  · intro i o hi h1 h2 h3
    match i, hi, h1, h2, h3 with
    | 0, hi, _, _, _ => (simp only [List.getElem?_toArray, List.getElem?_cons_zero, List.getElem?_cons_succ, Option.some.injEq] at hi; subst hi; simp)
    | 1, hi, _, _, _ => (simp only [List.getElem?_toArray, List.getElem?_cons_zero, List.getElem?_cons_succ, Option.some.injEq] at hi; subst hi; simp)
    | 2, hi, _, _, _ => (simp only [List.getElem?_toArray, List.getElem?_cons_zero, List.getElem?_cons_succ, Option.some.injEq] at hi; subst hi; simp)
    | 3, hi, _, _, _ => (simp only [List.getElem?_toArray, List.getElem?_cons_zero, List.getElem?_cons_succ, Option.some.injEq] at hi; subst hi; simp)
    | 4, hi, _, _, _ => (simp only [List.getElem?_toArray, List.getElem?_cons_zero, List.getElem?_cons_succ, Option.some.injEq] at hi; subst hi; simp)
    | 5, hi, _, _, _ => (simp only [List.getElem?_toArray, List.getElem?_cons_zero, List.getElem?_cons_succ, Option.some.injEq] at hi; subst hi; simp)
    | 6, hi, _, _, _ => (simp only [List.getElem?_toArray, List.getElem?_cons_zero, List.getElem?_cons_succ, Option.some.injEq] at hi; subst hi; simp)
    | 7, hi, _, _, _ => (simp only [List.getElem?_toArray, List.getElem?_cons_zero, List.getElem?_cons_succ, Option.some.injEq] at hi; subst hi; simp)
    | 8, hi, _, _, _ => (simp only [List.getElem?_toArray, List.getElem?_cons_zero, List.getElem?_cons_succ, Option.some.injEq] at hi; subst hi; simp)
    | 9, hi, _, _, _ => (simp only [List.getElem?_toArray, List.getElem?_cons_zero, List.getElem?_cons_succ, Option.some.injEq] at hi; subst hi; simp)
    | 10, hi, _, _, _ => (simp only [List.getElem?_toArray, List.getElem?_cons_zero, List.getElem?_cons_succ, Option.some.injEq] at hi; subst hi; simp)
    | 11, hi, _, _, _ => (simp only [List.getElem?_toArray, List.getElem?_cons_zero, List.getElem?_cons_succ, Option.some.injEq] at hi; subst hi; simp)
    | 12, hi, _, _, _ => (simp only [List.getElem?_toArray, List.getElem?_cons_zero, List.getElem?_cons_succ, Option.some.injEq] at hi; subst hi; simp)
    | 13, hi, _, _, _ => (simp only [List.getElem?_toArray, List.getElem?_cons_zero, List.getElem?_cons_succ, Option.some.injEq] at hi; subst hi; simp)
    | 14, hi, h1, h2, h3 => exact absurd rfl h3
    | _ + 15, hi, _, _, _ => simp at hi
  · intro i o hi h1 h2 h3 b wx hcl hhd hdat hold
    match i, hi, h1, h2, h3 with
    | 0, hi, h1, h2, h3 =>
      simp only [List.getElem?_toArray, List.getElem?_cons_zero, List.getElem?_cons_succ, Option.some.injEq] at hi
      subst hi
      have e17 : b.tmps[17]?.getD undef = .pointer (some ⟨A, 0, none⟩) := (hold 17 (by decide)).trans ht17
      clear hold hdat
      show _ = Result.ok (Next.value (.pointer (some ⟨A, 0, none⟩))) wx
      go_simp
    | 1, hi, h1, h2, h3 =>
      simp only [List.getElem?_toArray, List.getElem?_cons_zero, List.getElem?_cons_succ, Option.some.injEq] at hi
      subst hi
      have e17 : b.tmps[17]?.getD undef = .pointer (some ⟨A, 0, none⟩) := (hold 17 (by decide)).trans ht17
      clear hold hdat
      show _ = Result.ok (Next.value (.pointer (some ⟨A, 0, none⟩))) wx
      go_simp
    | 2, hi, h1, h2, h3 =>
      simp only [List.getElem?_toArray, List.getElem?_cons_zero, List.getElem?_cons_succ, Option.some.injEq] at hi
      subst hi
      have e154 : b.tmps[154]?.getD undef = .pointer (some ⟨A, 0, none⟩) := hdat 1 154 (by simp) (by decide) (by decide) (by decide) rfl
      clear hold hdat
      show _ = Result.ok (Next.value (.pointer (some ⟨A, 0, none⟩))) wx
      go_simp
    | 3, hi, h1, h2, h3 =>
      simp only [List.getElem?_toArray, List.getElem?_cons_zero, List.getElem?_cons_succ, Option.some.injEq] at hi
      subst hi
      have e155 : b.tmps[155]?.getD undef = .pointer (some ⟨A, 0, none⟩) := hdat 2 155 (by simp) (by decide) (by decide) (by decide) rfl
      clear hold hdat
      show _ = Result.ok (Next.value (.pointer (some ⟨A, 8, none⟩))) wx
      go_simp
    | 4, hi, h1, h2, h3 =>
      simp only [List.getElem?_toArray, List.getElem?_cons_zero, List.getElem?_cons_succ, Option.some.injEq] at hi
      subst hi
      have e156 : b.tmps[156]?.getD undef = .pointer (some ⟨A, 8, none⟩) := hdat 3 156 (by simp) (by decide) (by decide) (by decide) rfl
      clear hold hdat
      have hh := hhd (by simp)
      obtain ⟨xa, xc, hxs, _⟩ := own_shape hown
      rw [hxs] at hh
      show _ = Result.ok (Next.value (rf 8)) wx
      rw [hxs]
      go_simp
    | 5, hi, h1, h2, h3 =>
      simp only [List.getElem?_toArray, List.getElem?_cons_zero, List.getElem?_cons_succ, Option.some.injEq] at hi
      subst hi
      have e20 : b.tmps[20]?.getD undef = .int .u8 (mm : Int) := (hold 20 (by decide)).trans ht20
      clear hold hdat
      show _ = Result.ok (Next.value (.int .u8 (mm : Int))) wx
      go_simp
    | 6, hi, h1, h2, h3 =>
      simp only [List.getElem?_toArray, List.getElem?_cons_zero, List.getElem?_cons_succ, Option.some.injEq] at hi
      subst hi
      have e158 : b.tmps[158]?.getD undef = .int .u8 (mm : Int) := hdat 5 158 (by simp) (by decide) (by decide) (by decide) rfl
      clear hold hdat
      show _ = Result.ok (Next.value (.int .i64 (mm : Int))) wx
      go_simp
    | 7, hi, h1, h2, h3 =>
      simp only [List.getElem?_toArray, List.getElem?_cons_zero, List.getElem?_cons_succ, Option.some.injEq] at hi
      subst hi
      have e159 : b.tmps[159]?.getD undef = .int .i64 (mm : Int) := hdat 6 159 (by simp) (by decide) (by decide) (by decide) rfl
      clear hold hdat
      show _ = Result.ok (Next.value (.int .i64 (j : Int))) wx
      go_simp
    | 8, hi, h1, h2, h3 =>
      simp only [List.getElem?_toArray, List.getElem?_cons_zero, List.getElem?_cons_succ, Option.some.injEq] at hi
      subst hi
      have e9 : b.tmps[9]?.getD undef = .pointer (some ⟨Pa, 0, none⟩) := (hold 9 (by decide)).trans ht9
      have e160 : b.tmps[160]?.getD undef = .int .i64 (j : Int) := hdat 7 160 (by simp) (by decide) (by decide) (by decide) rfl
      clear hold hdat
      show _ = Result.ok (Next.value (.pointer (some ⟨Pa, j, none⟩))) wx
      go_simp
    | 9, hi, h1, h2, h3 =>
      simp only [List.getElem?_toArray, List.getElem?_cons_zero, List.getElem?_cons_succ, Option.some.injEq] at hi
      subst hi
      have e161 : b.tmps[161]?.getD undef = .pointer (some ⟨Pa, j, none⟩) := hdat 8 161 (by simp) (by decide) (by decide) (by decide) rfl
      clear hold hdat
      have kpc := hcl _ _ pc (by simpa using pcb) (by simpa using pcr)
      show _ = Result.ok (Next.value (.pointer (some ⟨ab, 0, none⟩))) wx
      go_simp
    | 10, hi, h1, h2, h3 => exact absurd rfl h1
    | 11, hi, h1, h2, h3 => exact absurd rfl h2
    | 12, hi, h1, h2, h3 =>
      simp only [List.getElem?_toArray, List.getElem?_cons_zero, List.getElem?_cons_succ, Option.some.injEq] at hi
      subst hi
      have e153 : b.tmps[153]?.getD undef = .pointer (some ⟨A, 0, none⟩) := hdat 0 153 (by simp) (by decide) (by decide) (by decide) rfl
      clear hold hdat
      show _ = Result.ok (Next.value (.pointer (some ⟨A, 0, none⟩))) wx
      go_simp
    | 13, hi, h1, h2, h3 =>
      simp only [List.getElem?_toArray, List.getElem?_cons_zero, List.getElem?_cons_succ, Option.some.injEq] at hi
      subst hi
      have e165 : b.tmps[165]?.getD undef = .pointer (some ⟨A, 0, none⟩) := hdat 12 165 (by simp) (by decide) (by decide) (by decide) rfl
      clear hold hdat
      show _ = Result.ok (Next.value (.pointer (some ⟨A, 8, none⟩))) wx
      go_simp
    | 14, hi, h1, h2, h3 => exact absurd rfl h3
    | _ + 15, hi, _, _, _ => simp at hi
  · intro b wx hdat hold
    have e162 : b.tmps[162]?.getD undef = .pointer (some ⟨ab, 0, none⟩) := hdat 9 162 (by simp) (by decide) (by decide) (by decide) rfl
    clear hold hdat
    go_simp
  · intro b wx gg cap hdat hsv hc hf hsh
    have e166 : b.tmps[166]?.getD undef = .pointer (some ⟨A, 8, none⟩) := hdat 13 166 (by simp) (by decide) (by decide) (by decide) rfl
    clear hdat
    obtain ⟨x, y, z, hxs⟩ := hsh
    rw [hxs] at hc
    go_simp
  · intro f' w' gg cap h1 h2 h3 h4
    exact hend f' w' gg cap h1 h2 (fun t ht => h3 t (by revert t; decide)) h4

set_option maxRecDepth 100000 in
set_option maxHeartbeats 4000000 in
theorem law_r42 {Q : Exit → Act → World → Prop} (O Sa n k ab : Nat) (rf : Nat → Value) (m BB : Nat) (xs : List Value) (f : Act) (w : World) (hk : k < n) (pc : w.cell? ⟨Sa, k, none⟩ = some (.pointer (some ⟨ab, 0, none⟩))) (pcb : Sa ≠ O) (pcr : (rf 0).ownBlock ≠ some Sa)
    (hr : w.rowIs O 90 5 rf) (hown : w.ownsRow BB 72 1 (rf 0) m xs) (hm : m ≤ 1000000) (nh : (rf 0).ownBlock ≠ some O) (hBB : BB ≤ w.heap.size)
    (hsz : f.tmps.size = 368) (hds : f.defers = []) (ht21 : f.tmps[21]?.getD undef = .pointer (some ⟨O, 0, none⟩)) (ht13 : f.tmps[13]?.getD undef = .slice (some ⟨Sa, 0, none⟩) n n) (ht26 : f.tmps[26]?.getD undef = .int .i64 (k : Int))
    (hend : ∀ f' w' gg cap, f'.tmps.size = 368 → f'.defers = [] → (∀ t, t < 186 → f'.tmps[t]?.getD undef = f.tmps[t]?.getD undef) → Apd w w' O 0 90 5 rf BB 72 1 m xs [.pointer (some ⟨ab, 0, none⟩)] gg cap → Q .normal f' w') :
    Code.wp Ybad.prog ((Ybad.f3.body.bind (reg 42)).getD .skip) Q f w := by
  conv => arg 2; whnf
  obtain ⟨i0, hi0, hz0, hz1, hz2⟩ := info_parts info72
  have hj0 : (0 : Int) ≤ (k : Int) := by omega
  have hj1 : (k : Int) < (n : Int) := by omega
  refine app_shape (N := 368) f w (by kernel_rfl) (fun i => match i with
    | 0 => .pointer (some ⟨O, 0, none⟩)
    | 1 => rf 0
    | 2 => .slice (some ⟨Sa, 0, none⟩) n n
    | 3 => .int .i64 (k : Int)
    | 4 => .pointer (some ⟨Sa, k, none⟩)
    | 5 => .pointer (some ⟨ab, 0, none⟩)
    | 8 => .pointer (some ⟨O, 0, none⟩)
    | _ => undef) 1 6 7 9 (by decide) rfl rfl rfl O 0 90 5 rf BB 72 1 8 m xs [.pointer (some ⟨ab, 0, none⟩)] 72 66 i0 _ hr (by omega) hown hm nh hBB Ybad.underlying66 hi0 hz0 hz1 hz2 rfl (by omega) (by omega) rfl rfl (by intro q hq; simp at hq; first | (subst hq; rfl) | (rcases hq with rfl | rfl <;> rfl) | (rcases hq with rfl | rfl | rfl <;> rfl) | (rcases hq with rfl | rfl | rfl | rfl <;> rfl)) 187 192 0 193 rfl rfl rfl rfl (by simp) (by simp) rfl (by simp) rfl hsz hds ?_ ?_ ?_ ?_ ?_
  · intro i o hi h1 h2 h3
    match i, hi, h1, h2, h3 with
    | 0, hi, _, _, _ => (simp only [List.getElem?_toArray, List.getElem?_cons_zero, List.getElem?_cons_succ, Option.some.injEq] at hi; subst hi; simp)
    | 1, hi, _, _, _ => (simp only [List.getElem?_toArray, List.getElem?_cons_zero, List.getElem?_cons_succ, Option.some.injEq] at hi; subst hi; simp)
    | 2, hi, _, _, _ => (simp only [List.getElem?_toArray, List.getElem?_cons_zero, List.getElem?_cons_succ, Option.some.injEq] at hi; subst hi; simp)
    | 3, hi, _, _, _ => (simp only [List.getElem?_toArray, List.getElem?_cons_zero, List.getElem?_cons_succ, Option.some.injEq] at hi; subst hi; simp)
    | 4, hi, _, _, _ => (simp only [List.getElem?_toArray, List.getElem?_cons_zero, List.getElem?_cons_succ, Option.some.injEq] at hi; subst hi; simp)
    | 5, hi, _, _, _ => (simp only [List.getElem?_toArray, List.getElem?_cons_zero, List.getElem?_cons_succ, Option.some.injEq] at hi; subst hi; simp)
    | 6, hi, _, _, _ => (simp only [List.getElem?_toArray, List.getElem?_cons_zero, List.getElem?_cons_succ, Option.some.injEq] at hi; subst hi; simp)
    | 7, hi, _, _, _ => (simp only [List.getElem?_toArray, List.getElem?_cons_zero, List.getElem?_cons_succ, Option.some.injEq] at hi; subst hi; simp)
    | 8, hi, _, _, _ => (simp only [List.getElem?_toArray, List.getElem?_cons_zero, List.getElem?_cons_succ, Option.some.injEq] at hi; subst hi; simp)
    | 9, hi, h1, h2, h3 => exact absurd rfl h3
    | _ + 10, hi, _, _, _ => simp at hi
  · intro i o hi h1 h2 h3 b wx hcl hhd hdat hold
    match i, hi, h1, h2, h3 with
    | 0, hi, h1, h2, h3 =>
      simp only [List.getElem?_toArray, List.getElem?_cons_zero, List.getElem?_cons_succ, Option.some.injEq] at hi
      subst hi
      have e21 : b.tmps[21]?.getD undef = .pointer (some ⟨O, 0, none⟩) := (hold 21 (by decide)).trans ht21
      clear hold hdat
      show _ = Result.ok (Next.value (.pointer (some ⟨O, 0, none⟩))) wx
      go_simp
    | 1, hi, h1, h2, h3 =>
      simp only [List.getElem?_toArray, List.getElem?_cons_zero, List.getElem?_cons_succ, Option.some.injEq] at hi
      subst hi
      have e186 : b.tmps[186]?.getD undef = .pointer (some ⟨O, 0, none⟩) := hdat 0 186 (by simp) (by decide) (by decide) (by decide) rfl
      clear hold hdat
      have hh := hhd (by simp)
      obtain ⟨xa, xc, hxs, _⟩ := own_shape hown
      rw [hxs] at hh
      show _ = Result.ok (Next.value (rf 0)) wx
      rw [hxs]
      go_simp
    | 2, hi, h1, h2, h3 =>
      simp only [List.getElem?_toArray, List.getElem?_cons_zero, List.getElem?_cons_succ, Option.some.injEq] at hi
      subst hi
      have e13 : b.tmps[13]?.getD undef = .slice (some ⟨Sa, 0, none⟩) n n := (hold 13 (by decide)).trans ht13
      clear hold hdat
      show _ = Result.ok (Next.value (.slice (some ⟨Sa, 0, none⟩) n n)) wx
      go_simp
    | 3, hi, h1, h2, h3 =>
      simp only [List.getElem?_toArray, List.getElem?_cons_zero, List.getElem?_cons_succ, Option.some.injEq] at hi
      subst hi
      have e26 : b.tmps[26]?.getD undef = .int .i64 (k : Int) := (hold 26 (by decide)).trans ht26
      clear hold hdat
      show _ = Result.ok (Next.value (.int .i64 (k : Int))) wx
      go_simp
    | 4, hi, h1, h2, h3 =>
      simp only [List.getElem?_toArray, List.getElem?_cons_zero, List.getElem?_cons_succ, Option.some.injEq] at hi
      subst hi
      have e188 : b.tmps[188]?.getD undef = .slice (some ⟨Sa, 0, none⟩) n n := hdat 2 188 (by simp) (by decide) (by decide) (by decide) rfl
      have e189 : b.tmps[189]?.getD undef = .int .i64 (k : Int) := hdat 3 189 (by simp) (by decide) (by decide) (by decide) rfl
      clear hold hdat
      show _ = Result.ok (Next.value (.pointer (some ⟨Sa, k, none⟩))) wx
      go_simp
    | 5, hi, h1, h2, h3 =>
      simp only [List.getElem?_toArray, List.getElem?_cons_zero, List.getElem?_cons_succ, Option.some.injEq] at hi
      subst hi
      have e190 : b.tmps[190]?.getD undef = .pointer (some ⟨Sa, k, none⟩) := hdat 4 190 (by simp) (by decide) (by decide) (by decide) rfl
      clear hold hdat
      have kpc := hcl _ _ pc (by simpa using pcb) (by simpa using pcr)
      show _ = Result.ok (Next.value (.pointer (some ⟨ab, 0, none⟩))) wx
      go_simp
    | 6, hi, h1, h2, h3 => exact absurd rfl h1
    | 7, hi, h1, h2, h3 => exact absurd rfl h2
    | 8, hi, h1, h2, h3 =>
      simp only [List.getElem?_toArray, List.getElem?_cons_zero, List.getElem?_cons_succ, Option.some.injEq] at hi
      subst hi
      have e21 : b.tmps[21]?.getD undef = .pointer (some ⟨O, 0, none⟩) := (hold 21 (by decide)).trans ht21
      clear hold hdat
      show _ = Result.ok (Next.value (.pointer (some ⟨O, 0, none⟩))) wx
      go_simp
    | 9, hi, h1, h2, h3 => exact absurd rfl h3
    | _ + 10, hi, _, _, _ => simp at hi
  · intro b wx hdat hold
    have e191 : b.tmps[191]?.getD undef = .pointer (some ⟨ab, 0, none⟩) := hdat 5 191 (by simp) (by decide) (by decide) (by decide) rfl
    clear hold hdat
    go_simp
  · intro b wx gg cap hdat hsv hc hf hsh
    have e194 : b.tmps[194]?.getD undef = .pointer (some ⟨O, 0, none⟩) := hdat 8 194 (by simp) (by decide) (by decide) (by decide) rfl
    clear hdat
    obtain ⟨x, y, z, hxs⟩ := hsh
    rw [hxs] at hc
    go_simp
  · intro f' w' gg cap h1 h2 h3 h4
    exact hend f' w' gg cap h1 h2 (fun t ht => h3 t (by revert t; decide)) h4

set_option maxRecDepth 100000 in
set_option maxHeartbeats 4000000 in
theorem law_r57 {Q : Exit → Act → World → Prop} (O Sa n k ab : Nat) (rf : Nat → Value) (m BB : Nat) (xs : List Value) (f : Act) (w : World) (hk : k < n) (pc : w.cell? ⟨Sa, k, none⟩ = some (.pointer (some ⟨ab, 0, none⟩))) (pcb : Sa ≠ O) (pcr : (rf 2).ownBlock ≠ some Sa)
    (hr : w.rowIs O 90 5 rf) (hown : w.ownsRow BB 72 1 (rf 2) m xs) (hm : m ≤ 1000000) (nh : (rf 2).ownBlock ≠ some O) (hBB : BB ≤ w.heap.size)
    (hsz : f.tmps.size = 368) (hds : f.defers = []) (ht21 : f.tmps[21]?.getD undef = .pointer (some ⟨O, 0, none⟩)) (ht13 : f.tmps[13]?.getD undef = .slice (some ⟨Sa, 0, none⟩) n n) (ht35 : f.tmps[35]?.getD undef = .int .i64 (k : Int))
    (hend : ∀ f' w' gg cap, f'.tmps.size = 368 → f'.defers = [] → (∀ t, t < 253 → f'.tmps[t]?.getD undef = f.tmps[t]?.getD undef) → Apd w w' O 2 90 5 rf BB 72 1 m xs [.pointer (some ⟨ab, 0, none⟩)] gg cap → Q .normal f' w') :
    Code.wp Ybad.prog ((Ybad.f3.body.bind (reg 57)).getD .skip) Q f w := by
  conv => arg 2; whnf
  obtain ⟨i0, hi0, hz0, hz1, hz2⟩ := info_parts info72
  have hj0 : (0 : Int) ≤ (k : Int) := by omega
  have hj1 : (k : Int) < (n : Int) := by omega
  refine app_shape (N := 368) f w (by kernel_rfl) (fun i => match i with
    | 0 => .pointer (some ⟨O, 2, none⟩)
    | 1 => rf 2
    | 2 => .slice (some ⟨Sa, 0, none⟩) n n
    | 3 => .int .i64 (k : Int)
    | 4 => .pointer (some ⟨Sa, k, none⟩)
    | 5 => .pointer (some ⟨ab, 0, none⟩)
    | 8 => .pointer (some ⟨O, 2, none⟩)
    | _ => undef) 1 6 7 9 (by decide) rfl rfl rfl O 2 90 5 rf BB 72 1 8 m xs [.pointer (some ⟨ab, 0, none⟩)] 72 66 i0 _ hr (by omega) hown hm nh hBB Ybad.underlying66 hi0 hz0 hz1 hz2 rfl (by omega) (by omega) rfl rfl (by intro q hq; simp at hq; first | (subst hq; rfl) | (rcases hq with rfl | rfl <;> rfl) | (rcases hq with rfl | rfl | rfl <;> rfl) | (rcases hq with rfl | rfl | rfl | rfl <;> rfl)) 254 259 0 260 rfl rfl rfl rfl (by simp) (by simp) rfl (by simp) rfl hsz hds ?_ ?_ ?_ ?_ ?_
  · intro i o hi h1 h2 h3
    match i, hi, h1, h2, h3 with
    | 0, hi, _, _, _ => (simp only [List.getElem?_toArray, List.getElem?_cons_zero, List.getElem?_cons_succ, Option.some.injEq] at hi; subst hi; simp)
    | 1, hi, _, _, _ => (simp only [List.getElem?_toArray, List.getElem?_cons_zero, List.getElem?_cons_succ, Option.some.injEq] at hi; subst hi; simp)
    | 2, hi, _, _, _ => (simp only [List.getElem?_toArray, List.getElem?_cons_zero, List.getElem?_cons_succ, Option.some.injEq] at hi; subst hi; simp)
    | 3, hi, _, _, _ => (simp only [List.getElem?_toArray, List.getElem?_cons_zero, List.getElem?_cons_succ, Option.some.injEq] at hi; subst hi; simp)
    | 4, hi, _, _, _ => (simp only [List.getElem?_toArray, List.getElem?_cons_zero, List.getElem?_cons_succ, Option.some.injEq] at hi; subst hi; simp)
    | 5, hi, _, _, _ => (simp only [List.getElem?_toArray, List.getElem?_cons_zero, List.getElem?_cons_succ, Option.some.injEq] at hi; subst hi; simp)
    | 6, hi, _, _, _ => (simp only [List.getElem?_toArray, List.getElem?_cons_zero, List.getElem?_cons_succ, Option.some.injEq] at hi; subst hi; simp)
    | 7, hi, _, _, _ => (simp only [List.getElem?_toArray, List.getElem?_cons_zero, List.getElem?_cons_succ, Option.some.injEq] at hi; subst hi; simp)
    | 8, hi, _, _, _ => (simp only [List.getElem?_toArray, List.getElem?_cons_zero, List.getElem?_cons_succ, Option.some.injEq] at hi; subst hi; simp)
    | 9, hi, h1, h2, h3 => exact absurd rfl h3
    | _ + 10, hi, _, _, _ => simp at hi
  · intro i o hi h1 h2 h3 b wx hcl hhd hdat hold
    match i, hi, h1, h2, h3 with
    | 0, hi, h1, h2, h3 =>
      simp only [List.getElem?_toArray, List.getElem?_cons_zero, List.getElem?_cons_succ, Option.some.injEq] at hi
      subst hi
      have e21 : b.tmps[21]?.getD undef = .pointer (some ⟨O, 0, none⟩) := (hold 21 (by decide)).trans ht21
      clear hold hdat
      show _ = Result.ok (Next.value (.pointer (some ⟨O, 2, none⟩))) wx
      go_simp
    | 1, hi, h1, h2, h3 =>
      simp only [List.getElem?_toArray, List.getElem?_cons_zero, List.getElem?_cons_succ, Option.some.injEq] at hi
      subst hi
      have e253 : b.tmps[253]?.getD undef = .pointer (some ⟨O, 2, none⟩) := hdat 0 253 (by simp) (by decide) (by decide) (by decide) rfl
      clear hold hdat
      have hh := hhd (by simp)
      obtain ⟨xa, xc, hxs, _⟩ := own_shape hown
      rw [hxs] at hh
      show _ = Result.ok (Next.value (rf 2)) wx
      rw [hxs]
      go_simp
    | 2, hi, h1, h2, h3 =>
      simp only [List.getElem?_toArray, List.getElem?_cons_zero, List.getElem?_cons_succ, Option.some.injEq] at hi
      subst hi
      have e13 : b.tmps[13]?.getD undef = .slice (some ⟨Sa, 0, none⟩) n n := (hold 13 (by decide)).trans ht13
      clear hold hdat
      show _ = Result.ok (Next.value (.slice (some ⟨Sa, 0, none⟩) n n)) wx
      go_simp
    | 3, hi, h1, h2, h3 =>
      simp only [List.getElem?_toArray, List.getElem?_cons_zero, List.getElem?_cons_succ, Option.some.injEq] at hi
      subst hi
      have e35 : b.tmps[35]?.getD undef = .int .i64 (k : Int) := (hold 35 (by decide)).trans ht35
      clear hold hdat
      show _ = Result.ok (Next.value (.int .i64 (k : Int))) wx
      go_simp
    | 4, hi, h1, h2, h3 =>
      simp only [List.getElem?_toArray, List.getElem?_cons_zero, List.getElem?_cons_succ, Option.some.injEq] at hi
      subst hi
      have e255 : b.tmps[255]?.getD undef = .slice (some ⟨Sa, 0, none⟩) n n := hdat 2 255 (by simp) (by decide) (by decide) (by decide) rfl
      have e256 : b.tmps[256]?.getD undef = .int .i64 (k : Int) := hdat 3 256 (by simp) (by decide) (by decide) (by decide) rfl
      clear hold hdat
      show _ = Result.ok (Next.value (.pointer (some ⟨Sa, k, none⟩))) wx
      go_simp
    | 5, hi, h1, h2, h3 =>
      simp only [List.getElem?_toArray, List.getElem?_cons_zero, List.getElem?_cons_succ, Option.some.injEq] at hi
      subst hi
      have e257 : b.tmps[257]?.getD undef = .pointer (some ⟨Sa, k, none⟩) := hdat 4 257 (by simp) (by decide) (by decide) (by decide) rfl
      clear hold hdat
      have kpc := hcl _ _ pc (by simpa using pcb) (by simpa using pcr)
      show _ = Result.ok (Next.value (.pointer (some ⟨ab, 0, none⟩))) wx
      go_simp
    | 6, hi, h1, h2, h3 => exact absurd rfl h1
    | 7, hi, h1, h2, h3 => exact absurd rfl h2
    | 8, hi, h1, h2, h3 =>
      simp only [List.getElem?_toArray, List.getElem?_cons_zero, List.getElem?_cons_succ, Option.some.injEq] at hi
      subst hi
      have e21 : b.tmps[21]?.getD undef = .pointer (some ⟨O, 0, none⟩) := (hold 21 (by decide)).trans ht21
      clear hold hdat
      show _ = Result.ok (Next.value (.pointer (some ⟨O, 2, none⟩))) wx
      go_simp
    | 9, hi, h1, h2, h3 => exact absurd rfl h3
    | _ + 10, hi, _, _, _ => simp at hi
  · intro b wx hdat hold
    have e258 : b.tmps[258]?.getD undef = .pointer (some ⟨ab, 0, none⟩) := hdat 5 258 (by simp) (by decide) (by decide) (by decide) rfl
    clear hold hdat
    go_simp
  · intro b wx gg cap hdat hsv hc hf hsh
    have e261 : b.tmps[261]?.getD undef = .pointer (some ⟨O, 2, none⟩) := hdat 8 261 (by simp) (by decide) (by decide) (by decide) rfl
    clear hdat
    obtain ⟨x, y, z, hxs⟩ := hsh
    rw [hxs] at hc
    go_simp
  · intro f' w' gg cap h1 h2 h3 h4
    exact hend f' w' gg cap h1 h2 (fun t ht => h3 t (by revert t; decide)) h4
end Go.Proofs.YbulkbndkDoor.Pr
