import Derived.Test.Qxb6602148aSy
attribute [local go_sem] Go.Proofs.Qxb6602148a.yTo Go.Proofs.Qxb6602148a.yUpon
namespace Go.Proofs.Qxb6602148a
open Go.RowKit
set_option linter.unusedVariables false
set_option linter.unusedSimpArgs false

def SDn (w : World) (M : Fam) (P0 : PS) (LA : LS) (N : Nat) (str : Nat → Nat) (w' : World) : Prop := ∃ S M', Rep KP w' M' ∧ PM M' S.P ∧ Grew M w M' w' ∧ LocX XA M M' ∧ SEnd P0 LA N str S

set_option maxRecDepth 40000 in
set_option maxHeartbeats 8000000 in
/-- 'split'. -/
theorem split_calls (w : World) (M : Fam) (P0 P : PS) (LA : LS) (p q gq N : Nat) (str : Nat → Nat) (hR : Rep KP w M) (hM : PM M P) (hp : M.b 11 = some p) (hq : Own q) (hx : ¬ XA q) (hK : KP q = (3, 1)) (hbq : M.b q = some gq) (hs : Ints M q N (fun i => (str i : Nat))) (hgo : SGo P0 P LA N str) :
    Calls Try.prog 29 #[.pointer (some ⟨p, 0, none⟩), .slice (some ⟨gq, 0, none⟩) N (M.cap q)] w fun e w' => e = .returned (.tuple #[]) ∧ SDn w M P0 LA N str w' := by
  have lq := hR.le_cap q
  rw [hs.1] at lq
  refine calls_of_wp (c := Try.f29.body.getD .skip) Try.func29 rfl ?_
  have hfr : ({ tmps := #[.pointer (some ⟨p, 0, none⟩), .slice (some ⟨gq, 0, none⟩) N (M.cap q)] ++ Array.replicate (Try.f29.ntmps - (#[.pointer (some ⟨p, 0, none⟩), .slice (some ⟨gq, 0, none⟩) N (M.cap q)] : Array Value).size) undef, defers := [] } : Act) = { tmps := #[.pointer (some ⟨p, 0, none⟩), .slice (some ⟨gq, 0, none⟩) N (M.cap q), undef, undef, undef, undef, undef, undef, undef, undef, undef, undef, undef, undef, undef, undef, undef, undef, undef, undef, undef, undef, undef, undef, undef, undef, undef, undef, undef, undef, undef, undef, undef, undef, undef, undef, undef, undef, undef, undef, undef, undef, undef, undef, undef, undef, undef, undef, undef, undef, undef, undef, undef, undef, undef, undef, undef, undef, undef, undef, undef, undef, undef, undef, undef, undef, undef, undef, undef, undef, undef, undef, undef, undef, undef, undef, undef, undef, undef, undef, undef, undef, undef, undef, undef, undef, undef, undef, undef, undef, undef, undef, undef, undef, undef, undef, undef, undef, undef, undef, undef, undef, undef, undef, undef, undef, undef, undef, undef, undef, undef, undef, undef, undef, undef, undef, undef, undef, undef, undef, undef, undef, undef, undef, undef, undef, undef, undef, undef, undef, undef, undef, undef, undef, undef, undef, undef, undef, undef, undef, undef, undef, undef, undef, undef, undef, undef, undef, undef, undef, undef, undef, undef, undef, undef, undef, undef, undef, undef, undef, undef, undef, undef, undef, undef, undef, undef, undef, undef, undef, undef, undef, undef, undef, undef, undef, undef, undef, undef, undef, undef, undef, undef, undef, undef, undef, undef, undef, undef, undef, undef, undef, undef, undef, undef, undef, undef, undef, undef, undef, undef, undef, undef, undef, undef, undef, undef, undef, undef, undef, undef, undef, undef, undef, undef, undef, undef, undef, undef, undef, undef, undef, undef, undef, undef, undef, undef, undef, undef, undef, undef, undef, undef, undef, undef, undef, undef, undef, undef, undef, undef, undef, undef, undef, undef, undef, undef, undef, undef, undef, undef, undef, undef, undef, undef, undef, undef, undef, undef, undef, undef, undef, undef, undef, undef, undef, undef, undef, undef, undef, undef, undef, undef, undef, undef, undef, undef, undef, undef, undef, undef, undef, undef, undef, undef, undef, undef, undef, undef, undef, undef, undef, undef, undef, undef, undef, undef, undef, undef, undef, undef, undef, undef, undef, undef, undef, undef, undef, undef, undef, undef, undef, undef, undef, undef, undef, undef, undef, undef, undef, undef, undef, undef, undef, undef, undef, undef, undef, undef, undef, undef, undef, undef, undef, undef, undef, undef, undef, undef, undef, undef, undef, undef, undef, undef, undef, undef, undef, undef, undef, undef, undef, undef, undef, undef, undef, undef, undef, undef, undef, undef, undef, undef, undef, undef, undef, undef, undef, undef, undef, undef, undef, undef, undef, undef, undef, undef, undef, undef, undef, undef, undef, undef, undef, undef, undef, undef, undef, undef, undef, undef, undef, undef, undef, undef, undef, undef, undef, undef, undef, undef, undef, undef, undef, undef, undef, undef, undef, undef, undef, undef, undef, undef, undef, undef, undef, undef, undef, undef, undef, undef, undef, undef, undef, undef, undef, undef, undef, undef, undef, undef, undef, undef, undef, undef, undef, undef, undef, undef, undef, undef, undef, undef, undef, undef, undef, undef, undef, undef, undef, undef, undef, undef, undef, undef, undef, undef, undef, undef, undef, undef, undef, undef, undef, undef, undef, undef, undef, undef, undef, undef, undef, undef, undef, undef, undef, undef, undef, undef, undef, undef, undef, undef, undef, undef, undef, undef, undef, undef, undef, undef, undef, undef, undef, undef, undef, undef, undef, undef, undef, undef, undef, undef, undef, undef, undef, undef, undef, undef, undef, undef, undef, undef, undef, undef, undef, undef], defers := [] } := by kernel_rfl
  rw [hfr]
  clear hfr
  have hA := split_A w M P p q gq N str hR hM hp hq hx hK hbq hs hgo.pre (SDn w M P0 LA N str) (tl 9 (Try.f29.body.getD .skip)) ?_ (fun _ => undef)
  · rw [rt_tl] at hA
    exact hA
  intro a wr P2 g16 g21 T eN eE hFA hMA
  obtain ⟨⟨M2, g17, k17, fl, hS1⟩, hmkd, hfil, hT, mk, lc, rfl, hmk⟩ := hMA
  obtain ⟨y1, rfl⟩ := lit_FA hFA
  have hB1 := split_B1 w M p gq N (M.cap q) w.heap.size g16 g21 T wr _ _ hS1 hgo.N1.2 y1 (tl 14 (Try.f29.body.getD .skip)) (SDn w M P0 LA N str) ?_
  · rw [show tl 14 (Try.f29.body.getD .skip) = tl 5 (tl 9 (Try.f29.body.getD .skip)) by kernel_rfl, rt_tl] at hB1
    exact hB1
  intro a w7 q24 q25 g18 q31 g19 q32 hFB1 hS2
  obtain ⟨y2, rfl⟩ := lit_FB1 hFB1
  have hB2 := split_B2 w M p gq N (M.cap q) w.heap.size g16 g21 T q24 q25 q31 q32 w7 _ _ hS2 hgo.N1.2 y2 (tl 15 (Try.f29.body.getD .skip)) (SDn w M P0 LA N str) ?_
  · rw [show tl 15 (Try.f29.body.getD .skip) = tl 1 (tl 14 (Try.f29.body.getD .skip)) by kernel_rfl, rt_tl] at hB2
    exact hB2
  intro a w8 g20 g22 hFB2 hS3
  obtain ⟨y3, rfl⟩ := lit_FB2 hFB2
  have hB3 := split_B3 w M p gq N (M.cap q) w.heap.size g16 g21 T q24 q25 q31 q32 g20 g22 w8 _ _ (((AGof (P.marked (P.marks + 1) mk lc) N str).st 0 : Nat) : Int) hS3 hgo.N1.1 ((hS3.rep.cell (i := 16) (j := 0) rfl (by show 0 < (N + 1) * 1; omega)).trans rfl) rfl rfl ((hS3.rep.cell (i := 20) (j := 0) rfl (by show 0 < N * 1; have := hgo.N1.1; omega)).trans rfl) ((hS3.rep.cell (i := 22) (j := 0) rfl (by show 0 < N * 1; have := hgo.N1.1; omega)).trans rfl) y3 (tl 19 (Try.f29.body.getD .skip)) (SDn w M P0 LA N str) ?_
  · rw [show tl 19 (Try.f29.body.getD .skip) = tl 4 (tl 15 (Try.f29.body.getD .skip)) by kernel_rfl, rt_tl] at hB3
    exact hB3
  intro a w9 g27 hFB3 hS4
  have hU := hgo.inc hmkd hfil
  have okU := Filled.ok hmkd.ok hfil
  generalize hUU : (AGof (P.marked (P.marks + 1) mk lc) N str).ug eN eE = U at hU okU
  have hUN : U.N = N := by rw [← hUU]; rfl
  have hUst : U.st = (AGof (P.marked (P.marks + 1) mk lc) N str).st := by rw [← hUU]; rfl
  have hor := hgo.orient U hUN hU
  have hou := hgo.outs U hU
  have hsq := hgo.sq U okU hUN hU hmkd hmk
  have hsr := sr_start (U := U) hS4
  have hTs : T ≤ 137438953472 := by
    rw [← hT]
    have h1 := (AGof (P.marked (P.marks + 1) mk lc) N str).st_small (fun i hi => hmkd.dg_le (by show P.nE ≤ 4096; rw [hgo.lay.nE]; exact hgo.nE) hi) hgo.N1.2 N
    have h2 := hgo.N1.2
    omega
  have hb := hgo.lay.blk_le
  have hx0 : SCx ⟨w, M, w.heap.size, ⟨N, T, p, g16, g21, g20, g22, g18, g19, q24, q25, q31, q32, fun v => (((AGof (P.marked (P.marks + 1) mk lc) N str).st v : Nat) : Int), ev eN eE⟩, P0, LA, U, str⟩ :=
    ⟨okU, hUN, fun v => by show _ = ((U.st v : Nat) : Int); rw [hUst], by rw [← hUU]; rfl, by show U.st N = T; rw [hUst]; exact hT, hgo.N1, hTs, hgo.nE, hgo.sp, hor, hgo.m0, hou.e4, hb, hgo.lt, hp, hgo.nS, hgo.nC⟩
  generalize hxx : (⟨w, M, w.heap.size, ⟨N, T, p, g16, g21, g20, g22, g18, g19, q24, q25, q31, q32, fun v => (((AGof (P.marked (P.marks + 1) mk lc) N str).st v : Nat) : Int), ev eN eE⟩, P0, LA, U, str⟩ : SC0) = x at hx0
  have hIC : IC x gq (M.cap q) a w9 := by
    subst hxx
    refine ⟨⟨hFB3.fb.fb.fa.sz, hFB3.fb.fb.fa.df, hFB3.fb.fb.fa.s1, hFB3.fb.fb.fa.s2, hFB3.fb.fb.fa.s6, hFB3.fb.fb.fa.s13, hFB3.fb.fb.s20, hFB3.fb.fb.s21, hFB3.fb.fb.s22, hFB3.fb.fb.s23, hFB3.fb.fb.s24, hFB3.fb.s25, hFB3.fb.s26⟩, 2 * gap U U.st U.N + 1, ?_⟩
    rw [hFB3.s27, hFB3.s28, hFB3.s29]
    refine SRel.run (s := HS.init U) (S := ⟨P.marked (P.marks + 1) mk lc, LA, fun _ => 0, fun _ => 0⟩) ⟨hS4, hsr, ?_, hsq⟩ rfl rfl rfl rfl ?_
    · intro j hj
      have hj : j < 1 := hj
      have : j = 0 := by omega
      subst this
      refine ⟨rfl, rfl, ?_⟩
      show (((AGof (P.marked (P.marks + 1) mk lc) N str).st 0 : Nat) : Int) = ((U.st 0 : Nat) : Int)
      rw [hUst]
    · have g1 := gap_init okU U.N
      have g2 : U.st U.N = T := by rw [hUN, hUst]; exact hT
      refine ⟨?_, ?_⟩
      · show 1 + gap U U.st U.N ≤ 1 + T; omega
      · show 0 + gap U U.st U.N ≤ T; omega
  have hxN : x.d.N = N := by rw [← hxx]
  have hxq : x.q33 = w.heap.size := by rw [← hxx]
  have e19 : tl 19 (Try.f29.body.getD .skip) = Code.seq (sL (tl 19 (Try.f29.body.getD .skip))) (tl 20 (Try.f29.body.getD .skip)) := by kernel_rfl
  rw [e19]
  refine wp_seq ?_
  refine walk_search x gq (M.cap q) a w9 hIC hx0 _ _ ?_
  intro a s S0 M' w' hFB hfin
  have hFBx : FBx gq N (M.cap q) w.heap.size a := ⟨hFB.sz, hFB.df, by rw [← hxN]; exact hFB.s1, by rw [← hxq]; exact hFB.s2⟩
  obtain ⟨y4, rfl⟩ := lit_FBx hFBx
  subst hxx
  have hful := hgo.full okU hUN hU hfin.sq hfin.m1 hfin.sc
  have hD := split_D ⟨w, M, w.heap.size, ⟨N, T, p, g16, g21, g20, g22, g18, g19, q24, q25, q31, q32, fun v => (((AGof (P.marked (P.marks + 1) mk lc) N str).st v : Nat) : Int), ev eN eE⟩, P0, LA, U, str⟩ q gq (M.cap q) s S0 M' w' hfin.sin hfin.sq hp hq hx hK hbq hs lq hgo.sp hor hou (fun e he => by
    have := hful.1 e he
    show LA.nb < S0.L.blk e
    omega) hb hgo.N1.2 hgo.nE (fun i hi => by
      have := hmkd.dg_le (by show P.nE ≤ 4096; rw [hgo.lay.nE]; exact hgo.nE) hi
      rw [← (hgo.same hi).1]; exact this) (SEnd P0 LA N str) (fun S hF => hgo.post okU hUN hU hfin.sq hfin.m1 hfin.sc hF) (y4 0) (y4 3) (y4 4) (y4 5) (y4 6) (y4 7) (y4 8) (y4 9) (y4 10) (y4 11) (y4 12) (y4 13) (y4 14) (y4 15) (y4 16) (y4 17) (y4 18) (y4 19) (y4 20) (y4 21) (y4 22) (y4 23) (y4 24) (y4 25) (y4 26) (y4 27) (y4 28) (y4 29) (y4 30) (y4 31) (y4 32) (y4 33) (y4 34) (y4 35) (y4 36) (y4 37) (y4 38) (y4 39) (y4 40) (y4 41) (y4 42) (y4 43) (y4 44) (y4 45) (y4 46) (y4 47) (y4 48) (y4 49) (y4 50) (y4 51) (y4 52) (y4 53) (y4 54) (y4 55) (y4 56) (y4 57) (y4 58) (y4 59) (y4 60) (y4 61) (y4 62) (y4 63) (y4 64) (y4 65) (y4 66) (y4 67) (y4 68) (y4 69) (y4 70) (y4 71) (y4 72) (y4 73) (y4 74) (y4 75) (y4 76) (y4 77) (y4 78) (y4 79) (y4 80) (y4 81) (y4 82) (y4 83) (y4 84) (y4 85) (y4 86) (y4 87) (y4 88) (y4 89) (y4 90) (y4 91) (y4 92) (y4 93) (y4 94) (y4 95) (y4 96) (y4 97) (y4 98) (y4 99) (y4 100) (y4 101) (y4 102) (y4 103) (y4 104) (y4 105) (y4 106) (y4 107) (y4 108) (y4 109) (y4 110) (y4 111) (y4 112) (y4 113) (y4 114) (y4 115) (y4 116) (y4 117) (y4 118) (y4 119) (y4 120) (y4 121) (y4 122) (y4 123) (y4 124) (y4 125) (y4 126) (y4 127) (y4 128) (y4 129) (y4 130) (y4 131) (y4 132) (y4 133) (y4 134) (y4 135) (y4 136) (y4 137) (y4 138) (y4 139) (y4 140) (y4 141) (y4 142) (y4 143) (y4 144) (y4 145) (y4 146) (y4 147) (y4 148) (y4 149) (y4 150) (y4 151) (y4 152) (y4 153) (y4 154) (y4 155) (y4 156) (y4 157) (y4 158) (y4 159) (y4 160) (y4 161) (y4 162) (y4 163) (y4 164) (y4 165) (y4 166) (y4 167) (y4 168) (y4 169) (y4 170) (y4 171) (y4 172) (y4 173) (y4 174) (y4 175) (y4 176) (y4 177) (y4 178) (y4 179) (y4 180) (y4 181) (y4 182) (y4 183) (y4 184) (y4 185) (y4 186) (y4 187) (y4 188) (y4 189) (y4 190) (y4 191) (y4 192) (y4 193) (y4 194) (y4 195) (y4 196) (y4 197) (y4 198) (y4 199) (y4 200) (y4 201) (y4 202) (y4 203) (y4 204) (y4 205) (y4 206) (y4 207) (y4 208) (y4 209) (y4 210) (y4 211) (y4 212) (y4 213) (y4 214) (y4 215) (y4 216) (y4 217) (y4 218) (y4 219) (y4 220) (y4 221) (y4 222) (y4 223) (y4 224) (y4 225) (y4 226) (y4 227) (y4 228) (y4 229) (y4 230) (y4 231) (y4 232) (y4 233) (y4 234) (y4 235) (y4 236) (y4 237) (y4 238) (y4 239) (y4 240) (y4 241) (y4 242) (y4 243) (y4 244) (y4 245) (y4 246) (y4 247) (y4 248) (y4 249) (y4 250) (y4 251) (y4 252) (y4 253) (y4 254) (y4 255) (y4 256) (y4 257) (y4 258) (y4 259) (y4 260) (y4 261) (y4 262) (y4 263) (y4 264) (y4 265) (y4 266) (y4 267) (y4 268) (y4 269) (y4 270) (y4 271) (y4 272) (y4 273) (y4 274) (y4 275) (y4 276) (y4 277) (y4 278) (y4 279) (y4 280) (y4 281) (y4 282) (y4 283) (y4 284) (y4 285) (y4 286) (y4 287) (y4 288) (y4 289) (y4 290) (y4 291) (y4 292) (y4 293) (y4 294) (y4 295) (y4 296) (y4 297) (y4 298) (y4 299) (y4 300) (y4 301) (y4 302) (y4 303) (y4 304) (y4 305) (y4 306) (y4 307) (y4 308) (y4 309) (y4 310) (y4 311) (y4 312) (y4 313) (y4 314) (y4 315) (y4 316) (y4 317) (y4 318) (y4 319) (y4 320) (y4 321) (y4 322) (y4 323) (y4 324) (y4 325) (y4 326) (y4 327) (y4 328) (y4 329) (y4 330) (y4 331) (y4 332) (y4 333) (y4 334) (y4 335) (y4 336) (y4 337) (y4 338) (y4 339) (y4 340) (y4 341) (y4 342) (y4 343) (y4 344) (y4 345) (y4 346) (y4 347) (y4 348) (y4 349) (y4 350) (y4 351) (y4 352) (y4 353) (y4 354) (y4 355) (y4 356) (y4 357) (y4 358) (y4 359) (y4 360) (y4 361) (y4 362) (y4 363) (y4 364) (y4 365) (y4 366) (y4 367) (y4 368) (y4 369) (y4 370) (y4 371) (y4 372) (y4 373) (y4 374) (y4 375) (y4 376) (y4 377) (y4 378) (y4 379) (y4 380) (y4 381) (y4 382) (y4 383) (y4 384) (y4 385) (y4 386) (y4 387) (y4 388) (y4 389) (y4 390) (y4 391) (y4 392) (y4 393) (y4 394) (y4 395) (y4 396) (y4 397) (y4 398) (y4 399) (y4 400) (y4 401) (y4 402) (y4 403) (y4 404) (y4 405) (y4 406) (y4 407) (y4 408) (y4 409) (y4 410) (y4 411) (y4 412) (y4 413) (y4 414) (y4 415) (y4 416) (y4 417) (y4 418) (y4 419) (y4 420) (y4 421) (y4 422) (y4 423) (y4 424) (y4 425) (y4 426) (y4 427) (y4 428) (y4 429) (y4 430) (y4 431) (y4 432) (y4 433) (y4 434) (y4 435) (y4 436) (y4 437) (y4 438) (y4 439) (y4 440) (y4 441) (y4 442) (y4 443) (y4 444) (y4 445) (y4 446) (y4 447) (y4 448) (y4 449) (y4 450) (y4 451) (y4 452) (y4 453) (y4 454) (y4 455) (y4 456) (y4 457) (y4 458) (y4 459) (y4 460) (y4 461) (y4 462) (y4 463) (y4 464) (y4 465) (y4 466) (y4 467) (y4 468) (y4 469) (y4 470) (y4 471) (y4 472) (y4 473) (y4 474) (y4 475) (y4 476) (y4 477) (y4 478) (y4 479) (y4 480) (y4 481) (y4 482) (y4 483) (y4 484) (y4 485) (y4 486) (y4 487) (y4 488) (y4 489) (y4 490) (y4 491) (y4 492) (y4 493) (y4 494) (y4 495) (y4 496) (y4 497) (y4 498) (y4 499) (y4 500) (y4 501) (y4 502) (y4 503) (y4 504) (y4 505) (y4 506) (y4 507) (y4 508) (y4 509) (y4 510) (y4 511) (y4 512) (y4 513) (y4 514) (y4 515) (y4 516)
  exact hD
end Go.Proofs.Qxb6602148a
