/- A part of the proof, joined out of the texts E16, G1, G2, G3, G4, G5, G6, G7; each theorem bears its own conditions. -/
import Derived.ArgAppend
import Derived.Laws.IdiomStrings
import Derived.Lib.AppendZeros
import Derived.Test.YtfmmdamgcpiciaaGreatDoorT02
import Derived.Test.YtfmmdamgcpiciaaGreatDoorT03
import Derived.Test.YtfmmdamgcpiciaaGreatDoorT04
import Derived.Test.YtfmmdamgcpiciaaGreatDoorT07
import Derived.Test.YtfmmdamgcpiciaaGreatDoorT09
set_option linter.unusedVariables false
set_option linter.unusedSimpArgs false
set_option linter.all false
set_option maxHeartbeats 9000000
set_option exponentiation.threshold 400000
set_option maxRecDepth 1000000
namespace Go.Proofs.YtfmmdamgcpiciaaGreatDoor
open Go Go.RowKit
def sinOf (X : Int) (k : Nat) : Dc :=
  let j :=X.natAbs * 12732395447351625 / 10 ^ (k + 16)
  let jj :=j + j % 2
  let Z :=zD ⟨X.natAbs,-(k : Int)⟩ (yD j)
  let P :=if decide (jj % 8 % 4 = 1 ∨ jj % 8 % 4 = 2) then cosD Z else sinD Z
  if decide (X < 0) ^^ decide (3 < jj % 8) then P.neg else P
abbrev sinV (vA v2 v1 b1 b2 b3 b4 bd : Nat) (e : Int) : List (Nat × Value × Value) :=[(vA + 1 + 1 + 1,ptr b4,.int .i32 (-16)),(vA + 1 + 1,ptr b3,.int .i32 (-31)),(vA + 1,ptr b2,.int .i32 (-23)),(vA,ptr b1,.int .i32 (-16)),(v2,.pointer none,.int .i32 0),(v1,ptr bd,.int .i32 e)]
theorem sin0 (w : World) (hg : Glob w) (hF : GlobF w) (b k : Nat) (X e : Int) (hX : IntAt w b X) (h0 : X ≠ 0) (hk : k ≤ 18) (hek : e = -(k : Int)) (hN : X.natAbs < 10 ^ (k + 1)) : Calls Tryz.prog 32 #[dv b e] w (NewDec w (sinOf X k).m (sinOf X k).e) :=by
  have F :=(Fm.start hg hF).old hX
  have he : -18 ≤ e :=by omega
  have he2 : e ≤ 0 :=by omega
  have HE :=Lib.hid hek
  clear hek
  have hz : ∀ W,IntAt W b X → Calls Tryz.prog 64 #[dv b e] W fun r w' => r = .returned (.bool false) ∧ Kept W w' :=fun W hW => by
    have :=dec_isZero W b e X hW
    rw [decide_eq_false h0] at this;exact this
  have hn :=fun W (hW : IntAt W b X) => dec_isNegative W b e X hW
  go_enter Tryz.func32,Tryz.ntmps32
  go_upto_if 21 with (first
    | (go_at_call 60;(refine (dec_pi4A _ ((hF.kept (boxK w _ _)).kept (boxK _ _ _))).mono ?_);rintro r w1 ⟨b1,rfl,n1,k1⟩;have F :=((F.box (ptr b) (.int .i32 e)).box (.pointer none) (.int .i32 0)).new n1 k1)
    | (go_at_call 61;(refine (dec_pi4B _ F.globF).mono ?_);rintro r w2 ⟨b2,rfl,n2,k2⟩;replace F :=F.new n2 k2)
    | (go_at_call 62;(refine (dec_pi4C _ F.globF).mono ?_);rintro r w3 ⟨b3,rfl,n3,k3⟩;replace F :=F.new n3 k3)
    | (go_at_call 63;(refine (dec_m4PI _ F.globF).mono ?_);rintro r w4 ⟨b4,rfl,n4,k4⟩;replace F :=((((F.new n4 k4).box (ptr b1) (.int .i32 (-16))).box (ptr b2) (.int .i32 (-23))).box (ptr b3) (.int .i32 (-31))).box (ptr b4) (.int .i32 (-16));simp only [Box,World.size_alloc] at F;obtain ⟨c0,c1,_,_⟩ :=F.at 5 rfl)
    | (go_at_call 64;(refine (hz _ (F.iat 4 rfl)).mono ?_);rintro r w6 ⟨rfl,k6⟩;replace F :=F.go k6;obtain ⟨c0,c1,_,_⟩ :=F.at 5 rfl)
    | (go_at_call 65;(refine (hn _ (F.iat 4 rfl)).mono ?_);rintro r w7 ⟨rfl,k7⟩;replace F :=F.go k7))
  obtain ⟨vA,hvA⟩ : ∃ v,w4.heap.size = v :=⟨_,rfl⟩
  rw [hvA] at F ⊢
  obtain ⟨sg,hsg⟩ : ∃ s,decide (X < 0) = s :=⟨_,rfl⟩
  rw [hsg]
  obtain ⟨N,hNX⟩ : ∃ N,X.natAbs = N :=⟨_,rfl⟩
  rw [hNX] at hN
  clear n1 n2 n3 n4 k1 k2 k3 k4 k6 k7 hz hn hvA c0 c1
  go_cut [7] from 22 to 143 (fun t7 wx => ∃ bd,t7 = .bool sg ∧ Fm w wx [(bd,(N : Int)),(b4,12732395447351625),(b3,26951514290790595),(b2,3774894707930798),(b1,7853981256484985)] (sinV vA (w.heap.size + 1) w.heap.size b1 b2 b3 b4 bd e))
  case first =>
    obtain ⟨c0,c1,f0,f1⟩ :=F.at 5 rfl
    cases sg
    · go_wp2_with fail
      go_meet
      refine ⟨b,rfl,F.sub fun p hp => ?_⟩
      have hm : (N : Int) = X :=by simp only [decide_eq_false_iff_not] at hsg;omega
      rw [hm] at hp
      simp only [List.mem_cons,List.not_mem_nil,or_false] at hp ⊢
      rcases hp with h | h | h | h | h <;> simp [h]
    · have hm : (N : Int) = -X :=by simp only [decide_eq_true_eq] at hsg;omega
      have hg' :=dec_neg _ b e X (F.iat 4 rfl)
      go_wp2_with (go_at_call 66;refine hg'.mono ?_;rintro r w8 ⟨b5,rfl,n5,k5⟩;replace F :=F.new n5 k5;obtain ⟨c0,c1,f0,f1⟩ :=F.at 5 rfl;have c2 :=cs_ne (u :=ptr b5) c1 (b' :=w.heap.size) (o' :=0) (by omega))
      go_meet
      refine ⟨b5,rfl,?_⟩
      have F2 :=Fm.put (V1 :=[(vA + 1 + 1 + 1,ptr b4,.int .i32 (-16)),(vA + 1 + 1,ptr b3,.int .i32 (-31)),(vA + 1,ptr b2,.int .i32 (-23)),(vA,ptr b1,.int .i32 (-16)),(w.heap.size + 1,.pointer none,.int .i32 0)]) (V2 :=[]) F (ptr b5) (.int .i32 e)
      refine F2.sub fun p hp => ?_
      rw [hm] at hp
      simp only [List.mem_cons,List.not_mem_nil,or_false] at hp ⊢
      rcases hp with h | h | h | h | h <;> simp [h]
  case rest =>
    obtain ⟨bd,rfl,F⟩ :=hcut
    obtain ⟨j,hj⟩ : ∃ j,N * 12732395447351625 / 10 ^ (k + 16) = j :=⟨_,rfl⟩
    have hj12 : j ≤ 12 :=small_angle hN hj
    have hmul :=fun W hg (h1 : IntAt W bd (N : Int)) (h2 : IntAt W b4 12732395447351625) => dec_mulD W hg bd b4 ⟨N,e⟩ pM 19 17 h1 h2 (bd_nat hN hk) (by unfold Bd;decide) (by omega) (by omega) (by omega) (by simp only;omega) (by simp only;omega) (by decide) (by decide)
    have hip :=fun W b5 hg (h : IntAt W b5 ((N * 12732395447351625 : Nat) : Int)) => dec_intPart W hg b5 (N * 12732395447351625) (k + 16) h (small39 hN hk) (by omega) (by rw [hj];omega)
    have hee : -((k + 16 : Nat) : Int) = e + -16 :=by have :=HE.out;omega
    rw [hj,hee] at hip
    have hfs :=fun W hg => fromSmall j hj12 W hg
    obtain ⟨c0,c1,f0,f1⟩ :=F.at 5 rfl
    obtain ⟨m0,m1,_,_⟩ :=F.at 0 rfl
    go_upto_if 33 with (first
      | (go_at_call 67;refine (hmul _ F.glob (F.iat 0 rfl) (F.iat 1 rfl)).mono ?_;rintro r w8 ⟨b5,rfl,n5,k5⟩;replace F :=F.new n5 k5)
      | (go_at_call 68;refine (hip _ _ F.glob (F.iat 0 rfl)).mono ?_;rintro r w9 ⟨rfl,k6⟩;replace F :=F.go k6)
      | (go_at_call 69;refine (hfs _ F.globF).mono ?_;rintro r w10 ⟨by',rfl,n7,k7⟩;replace F :=F.new n7 k7))
    replace F :=(F.sub (L' :=[(by',yM j),(bd,(N : Int)),(b4,12732395447351625),(b3,26951514290790595),(b2,3774894707930798),(b1,7853981256484985)]) (fun p hp => by
      simp only [List.mem_cons,List.not_mem_nil,or_false] at hp ⊢
      rcases hp with h | h | h | h | h | h <;> simp [h])).box (ptr by') (.int .i32 (yE j))
    obtain ⟨v9,hv9⟩ : ∃ v,w10.heap.size = v :=⟨_,rfl⟩
    rw [hv9] at F ⊢
    have hyE : 0 ≤ yE j ∧ yE j ≤ 1 :=by unfold yE;split <;> omega
    rw [and1i j (by omega)]
    obtain ⟨ob,hob⟩ : ∃ ob,(((j % 2 : Nat) : Int) == 1) = ob :=⟨_,rfl⟩
    rw [hob]
    have HJ :=Lib.hid hj
    clear n5 n7 k5 k6 k7 hmul hip hfs c0 c1 f0 f1 m0 m1 hv9 hj
    go_cut [8] from 34 to 143 (fun t8 wx => ∃ by2,t8 = .int .i64 (j + j % 2 : Nat) ∧ Fm w wx [(by2,(yD j).m),(bd,(N : Int)),(b4,12732395447351625),(b3,26951514290790595),(b2,3774894707930798),(b1,7853981256484985)] ((v9,ptr by2,.int .i32 (yD j).e) :: sinV vA (w.heap.size + 1) w.heap.size b1 b2 b3 b4 bd e))
    case first =>
      obtain ⟨c0,c1,f0,f1⟩ :=F.at 0 rfl
      cases ob
      · have hy : yD j = ⟨yM j,yE j⟩ :=by unfold yD;rw [if_neg (by intro h;rw [h] at hob;cases hob)]
        have HJ2 : Hid (j % 2 = 0) :=Lib.hid (by simp at hob;omega)
        go_wp2_with fail
        go_meet
        rw [hy,HJ2.out]
        exact ⟨by',rfl,F⟩
      · have HJ2 : Hid (j % 2 = 1) :=Lib.hid (by simp at hob;omega)
        have hy : yD j = (⟨yM j,yE j⟩ : Dc).add ⟨1,0⟩ :=by unfold yD;rw [if_pos HJ2.out]
        clear hob
        have hadd :=fun W hg b6 (h1 : IntAt W by' (yM j)) (h2 : IntAt W b6 1) => dec_addD W hg by' b6 ⟨yM j,yE j⟩ ⟨1,0⟩ 2 1 h1 h2 (bd_y hj12) (by unfold Bd;decide) (by omega) (by omega) (by simp only;omega) (by simp only;omega) (by decide) (by decide) (by simp only;omega) (by simp only;omega) (by simp only;omega) (by simp only;omega)
        go_wp2_with (first
          | (refine wp_region_lit_segs (id :=12) [[0,1],[2,3]] mixed (by kernel_rfl) ?_;simp only [wpSegsL,gaC,gaN,lZ0,lS0,coS])
          | (refine wp_region_lit_plan (id :=17) (.seg [0,1,2,5,6,9,10] (.two 3 13 (.two 4 13 (.two 7 13 (.two 8 13 (.two 11 13 (.two 12 13 (.seg [13] (.seg [14] .fin)) (.seg [12] (.seg [14] .fin))) (.seg [11] (.seg [12] (.seg [14] .fin)))) (.seg [8] (.seg [11] (.seg [12] (.seg [14] .fin))))) (.seg [7] (.seg [8] (.seg [11] (.seg [12] (.seg [14] .fin)))))) (.seg [4] (.seg [7] (.seg [8] (.seg [11] (.seg [12] (.seg [14] .fin))))))) (.seg [3] (.seg [4] (.seg [7] (.seg [8] (.seg [11] (.seg [12] (.seg [14] .fin))))))))) mixed (by kernel_rfl) ?_;simp only [wpPlanL,gaC,gaN,lZ0,lS0,coS])
          | (refine wp_region_lit_plan (id :=20) (.seg [0,1,5,10,15,20,25] (.two 2 31 (.two 3 31 (.seg [4] (.two 6 31 (.two 7 31 (.seg [8] (.two 9 31 (.two 11 31 (.two 12 31 (.seg [13] (.two 14 31 (.two 16 31 (.two 17 31 (.seg [18] (.two 19 31 (.two 21 31 (.two 22 31 (.seg [23] (.two 24 31 (.two 26 31 (.two 27 31 (.seg [28] (.two 29 31 (.two 30 31 (.seg [31] (.seg [32] .fin)) (.seg [30] (.seg [32] .fin))) (.seg [29] (.seg [30] (.seg [32] .fin))))) (.seg [27] (.seg [28,29] (.seg [30] (.seg [32] .fin))))) (.seg [26] (.seg [27] (.seg [28,29] (.seg [30] (.seg [32] .fin)))))) (.seg [24] (.seg [26] (.seg [27] (.seg [28,29] (.seg [30] (.seg [32] .fin)))))))) (.seg [22] (.seg [23,24] (.seg [26] (.seg [27] (.seg [28,29] (.seg [30] (.seg [32] .fin)))))))) (.seg [21] (.seg [22] (.seg [23,24] (.seg [26] (.seg [27] (.seg [28,29] (.seg [30] (.seg [32] .fin))))))))) (.seg [19] (.seg [21] (.seg [22] (.seg [23,24] (.seg [26] (.seg [27] (.seg [28,29] (.seg [30] (.seg [32] .fin))))))))))) (.seg [17] (.seg [18,19] (.seg [21] (.seg [22] (.seg [23,24] (.seg [26] (.seg [27] (.seg [28,29] (.seg [30] (.seg [32] .fin))))))))))) (.seg [16] (.seg [17] (.seg [18,19] (.seg [21] (.seg [22] (.seg [23,24] (.seg [26] (.seg [27] (.seg [28,29] (.seg [30] (.seg [32] .fin)))))))))))) (.seg [14] (.seg [16] (.seg [17] (.seg [18,19] (.seg [21] (.seg [22] (.seg [23,24] (.seg [26] (.seg [27] (.seg [28,29] (.seg [30] (.seg [32] .fin)))))))))))))) (.seg [12] (.seg [13,14] (.seg [16] (.seg [17] (.seg [18,19] (.seg [21] (.seg [22] (.seg [23,24] (.seg [26] (.seg [27] (.seg [28,29] (.seg [30] (.seg [32] .fin)))))))))))))) (.seg [11] (.seg [12] (.seg [13,14] (.seg [16] (.seg [17] (.seg [18,19] (.seg [21] (.seg [22] (.seg [23,24] (.seg [26] (.seg [27] (.seg [28,29] (.seg [30] (.seg [32] .fin))))))))))))))) (.seg [9] (.seg [11] (.seg [12] (.seg [13,14] (.seg [16] (.seg [17] (.seg [18,19] (.seg [21] (.seg [22] (.seg [23,24] (.seg [26] (.seg [27] (.seg [28,29] (.seg [30] (.seg [32] .fin))))))))))))))))) (.seg [7] (.seg [8,9] (.seg [11] (.seg [12] (.seg [13,14] (.seg [16] (.seg [17] (.seg [18,19] (.seg [21] (.seg [22] (.seg [23,24] (.seg [26] (.seg [27] (.seg [28,29] (.seg [30] (.seg [32] .fin))))))))))))))))) (.seg [6] (.seg [7] (.seg [8,9] (.seg [11] (.seg [12] (.seg [13,14] (.seg [16] (.seg [17] (.seg [18,19] (.seg [21] (.seg [22] (.seg [23,24] (.seg [26] (.seg [27] (.seg [28,29] (.seg [30] (.seg [32] .fin))))))))))))))))))) (.seg [3] (.seg [4,6] (.seg [7] (.seg [8,9] (.seg [11] (.seg [12] (.seg [13,14] (.seg [16] (.seg [17] (.seg [18,19] (.seg [21] (.seg [22] (.seg [23,24] (.seg [26] (.seg [27] (.seg [28,29] (.seg [30] (.seg [32] .fin))))))))))))))))))) (.seg [2] (.seg [3] (.seg [4,6] (.seg [7] (.seg [8,9] (.seg [11] (.seg [12] (.seg [13,14] (.seg [16] (.seg [17] (.seg [18,19] (.seg [21] (.seg [22] (.seg [23,24] (.seg [26] (.seg [27] (.seg [28,29] (.seg [30] (.seg [32] .fin))))))))))))))))))))) mixed (by kernel_rfl) ?_;simp only [wpPlanL,gaC,gaN,lZ0,lS0,coS])
          | (refine wp_region_lit_segs (id :=21) [[2,5,0],[1],[3],[4],[6,7]] mixed (by kernel_rfl) ?_;simp only [wpSegsL,gaC,gaN,lZ0,lS0,coS])
          | (refine wp_region_lit_segs (id :=22) [[0,1,2,6,11,16,21,26,3],[4],[5,7],[8],[9,10],[12],[13],[14,15],[17],[18],[19,20],[22],[23],[24,25],[27],[28],[29,30],[31],[32,33]] mixed (by kernel_rfl) ?_;simp only [wpSegsL,gaC,gaN,lZ0,lS0,coS])
          | refine ⟨by kernel_rfl,?_⟩
          | refine ⟨by kernel_rfl,oldD (by first | assumption | exact Chg.refl _ _ | exact (Chg.refl _ _).drew | exact kt (by first | assumption | exact (Chg.refl _ _).drew | exact Chg.refl _ _) (ziK _) | exact Chg.drew (by assumption)),?_⟩
          | refine ⟨oldD (by first | assumption | exact Chg.refl _ _ | exact (Chg.refl _ _).drew | exact kt (by first | assumption | exact (Chg.refl _ _).drew | exact Chg.refl _ _) (ziK _) | exact Chg.drew (by assumption)),?_⟩
          | (with_reducible refine And.intro ?_ ?_)
          | (go_at_call 71;refine (dec_new _ 1 0 (by decide) (by decide)).mono ?_;rintro r w11 ⟨b6,rfl,n6,k6⟩;have kr :=k6.of_drew;replace F :=(F.go (Chg.refl _ _).drew).new n6 k6;obtain ⟨c0,c1,f0,f1⟩ :=F.at 0 rfl)
          | (go_at_call 70;refine (hadd _ F.glob b6 (F.iat 1 rfl) (F.iat 0 rfl)).mono ?_;rintro r w12 ⟨b7,rfl,n7,k7⟩;replace kr :=kt kr k7;replace F :=F.new n7 k7;obtain ⟨c0,c1,f0,f1⟩ :=F.at 0 rfl;have c2 :=cs_ne (u :=ptr b7) c1 (b' :=v9) (o' :=0) (by omega)))
        go_meet
        rw [hy,HJ2.out]
        refine ⟨b7,by first | rfl | (congr 1;omega),?_⟩
        have F2 :=Fm.put (V1 :=[]) (V2 :=sinV vA (w.heap.size + 1) w.heap.size b1 b2 b3 b4 bd e) F (ptr b7) (.int .i32 ((⟨yM j,yE j⟩ : Dc).add ⟨1,0⟩).e)
        first | exact F2.sub fun p hp => (by simp only [List.mem_cons,List.not_mem_nil,or_false] at hp ⊢;rcases hp with h | h | h | h | h | h <;> simp [h]) | (refine (F2.go (Chg.refl _ _).drew).sub fun p hp => ?_;simp only [List.mem_cons,List.not_mem_nil,or_false] at hp ⊢;rcases hp with h | h | h | h | h | h <;> simp [h])
    case rest =>
      obtain ⟨by2,rfl,F⟩ :=hcut
      obtain ⟨y1,y2,y3,y4⟩ :=yD_facts hj12
      have hzb :=(zD_bound hk hN HJ.out).2.2
      rw [← HE.out] at hzb
      obtain ⟨jj,hjj⟩ : ∃ jj,j + j % 2 = jj :=⟨_,rfl⟩
      have hjj12 : jj ≤ 12 :=by omega
      rw [hjj]
      have ha7 :=and_mask_i64 jj 3 (by omega) (by decide)
      rw [show (2 ^ 3 - 1 : Nat) = 7 from rfl,show (2 ^ 3 : Nat) = 8 from rfl] at ha7
      have ha7 : bits .and .i64 (jj : Int) 7 = ((jj % 8 : Nat) : Int) :=ha7
      have hj8 : jj % 8 < 8 :=Nat.mod_lt _ (by decide)
      obtain ⟨j8,hj8e⟩ : ∃ j8,jj % 8 = j8 :=⟨_,rfl⟩
      rw [hj8e] at ha7 hj8
      obtain ⟨g3,hg3⟩ : ∃ g,decide (3 < (j8 : Int)) = g :=⟨_,rfl⟩
      have HJ8 :=Lib.hid hj8e
      clear hj8e
      obtain ⟨Y,hY⟩ : ∃ Y,yD j = Y :=⟨_,rfl⟩
      rw [hY] at F y1 y2 y3 y4 hzb
      have HJJ :=Lib.hid (And.intro hjj (And.intro hY y4))
      clear hjj hY y4 hob hyE
      go_upto_if 42 with fail
      go_cut [7,8] from 43 to 143 (fun t7 t8 wx => wc = wx ∧ t7 = .bool (sg ^^ g3) ∧ t8 = .int .i64 (j8 % 4 : Nat))
      case first =>
        cases g3
        · have h4 : j8 % 4 = j8 :=by simp at hg3;omega
          have HH :=Lib.hid h4
          clear h4 hg3
          go_wp2_with fail
          go_meet
          rw [HH.out]
          exact ⟨rfl,by cases sg <;> rfl,rfl⟩
        · have h4 : j8 = j8 % 4 + 4 :=by simp at hg3;omega
          have HH :=Lib.hid h4
          clear h4 hg3
          go_wp2_with fail
          go_meet
          refine ⟨rfl,by cases sg <;> rfl,?_⟩
          congr 1
          have :=HH.out
          omega
      case rest =>
        obtain ⟨rfl,rfl,rfl⟩ :=hcut
        obtain ⟨jm,hjm⟩ : ∃ m,j8 % 4 = m :=⟨_,rfl⟩
        rw [hjm]
        have HJM :=Lib.hid hjm
        clear hjm
        obtain ⟨hz1,hz2⟩ :=hzb
        have q1e : (Y.mul pA).e = Y.e + -16 :=rfl
        have q2e : (Y.mul pB).e = Y.e + -23 :=rfl
        have q3e : (Y.mul pC).e = Y.e + -31 :=rfl
        have s1e : ((⟨N,e⟩ : Dc).sub (Y.mul pA)).e = min e (Y.mul pA).e :=rfl
        have s2e : (((⟨N,e⟩ : Dc).sub (Y.mul pA)).sub (Y.mul pB)).e = min ((⟨N,e⟩ : Dc).sub (Y.mul pA)).e (Y.mul pB).e :=rfl
        have q1b : Bd (Y.mul pA) 18 :=y1.mul (by unfold Bd;decide : Bd pA 16)
        have q2b : Bd (Y.mul pB) 18 :=y1.mul (by unfold Bd;decide : Bd pB 16)
        have q3b : Bd (Y.mul pC) 19 :=y1.mul (by unfold Bd;decide : Bd pC 17)
        have hD19 : Bd ⟨N,e⟩ 19 :=bd_nat hN hk
        have s1b : Bd ((⟨N,e⟩ : Dc).sub (Y.mul pA)) 40 :=hD19.sub q1b (s :=18) (t :=3) (by simp only;omega) (by simp only;omega) (by omega) (by omega)
        have s2b : Bd (((⟨N,e⟩ : Dc).sub (Y.mul pA)).sub (Y.mul pB)) 50 :=s1b.sub q2b (s :=8) (t :=0) (by omega) (by omega) (by omega) (by omega)
        have hq1 : ∀ W,Glob W → IntAt W by2 Y.m → IntAt W b1 7853981256484985 → Calls Tryz.prog 67 #[dv by2 Y.e,dv b1 (-16)] W (NewDec W (Y.mul pA).m (Y.mul pA).e) :=fun W hg h1 h2 => dec_mulD W hg by2 b1 Y pA 2 16 h1 h2 y1 (by unfold Bd;decide) (by omega) (by omega) (by omega) (by omega) (by omega) (by decide) (by decide)
        have hq2 : ∀ W,Glob W → IntAt W by2 Y.m → IntAt W b2 3774894707930798 → Calls Tryz.prog 67 #[dv by2 Y.e,dv b2 (-23)] W (NewDec W (Y.mul pB).m (Y.mul pB).e) :=fun W hg h1 h2 => dec_mulD W hg by2 b2 Y pB 2 16 h1 h2 y1 (by unfold Bd;decide) (by omega) (by omega) (by omega) (by omega) (by omega) (by decide) (by decide)
        have hq3 : ∀ W,Glob W → IntAt W by2 Y.m → IntAt W b3 26951514290790595 → Calls Tryz.prog 67 #[dv by2 Y.e,dv b3 (-31)] W (NewDec W (Y.mul pC).m (Y.mul pC).e) :=fun W hg h1 h2 => dec_mulD W hg by2 b3 Y pC 2 17 h1 h2 y1 (by unfold Bd;decide) (by omega) (by omega) (by omega) (by omega) (by omega) (by decide) (by decide)
        have hs1 : ∀ W bq,Glob W → IntAt W bd (N : Int) → IntAt W bq (Y.mul pA).m → Calls Tryz.prog 72 #[dv bd e,dv bq (Y.mul pA).e] W (NewDec W ((⟨N,e⟩ : Dc).sub (Y.mul pA)).m ((⟨N,e⟩ : Dc).sub (Y.mul pA)).e) :=fun W bq hg h1 h2 => dec_subD W hg bd bq ⟨N,e⟩ (Y.mul pA) 19 18 h1 h2 hD19 q1b (by omega) (by omega) (by simp only;omega) (by simp only;omega) (by omega) (by omega) (by simp only;omega) (by simp only;omega) (by simp only;omega) (by simp only;omega)
        obtain ⟨Q1,hQ1⟩ : ∃ S,Y.mul pA = S :=⟨_,rfl⟩
        obtain ⟨Q2,hQ2⟩ : ∃ S,Y.mul pB = S :=⟨_,rfl⟩
        obtain ⟨Q3,hQ3⟩ : ∃ S,Y.mul pC = S :=⟨_,rfl⟩
        obtain ⟨S1,hS1⟩ : ∃ S,(⟨N,e⟩ : Dc).sub Q1 = S :=⟨_,rfl⟩
        obtain ⟨S2,hS2⟩ : ∃ S,S1.sub Q2 = S :=⟨_,rfl⟩
        obtain ⟨Z,hZ⟩ : ∃ S,S2.sub Q3 = S :=⟨_,rfl⟩
        rw [hQ1] at hq1 hs1 q1e q1b s1e s1b s2e s2b
        rw [hQ2] at hq2 q2e q2b s2e s2b
        rw [hQ3] at hq3 q3e q3b
        rw [hS1] at hs1 s1e s1b s2e s2b
        rw [hS2] at s2e s2b
        have hs2 : ∀ W bp bq,Glob W → IntAt W bp S1.m → IntAt W bq Q2.m → Calls Tryz.prog 72 #[dv bp S1.e,dv bq Q2.e] W (NewDec W S2.m S2.e) :=fun W bp bq hg h1 h2 => by
          have :=dec_subD W hg bp bq S1 Q2 40 18 h1 h2 s1b q2b (by omega) (by omega) (by omega) (by omega) (by omega) (by omega) (by omega) (by omega) (by omega) (by omega)
          rw [hS2] at this;exact this
        have hs3 : ∀ W bp bq,Glob W → IntAt W bp S2.m → IntAt W bq Q3.m → Calls Tryz.prog 72 #[dv bp S2.e,dv bq Q3.e] W (NewDec W Z.m Z.e) :=fun W bp bq hg h1 h2 => by
          have :=dec_subD W hg bp bq S2 Q3 50 19 h1 h2 s2b q3b (by omega) (by omega) (by omega) (by omega) (by omega) (by omega) (by omega) (by omega) (by omega) (by omega)
          rw [hZ] at this;exact this
        obtain ⟨y0,y1',_,_⟩ :=F.at 0 rfl
        obtain ⟨d0,d1,_,_⟩ :=F.at 6 rfl
        obtain ⟨a0,a1,_,_⟩ :=F.at 4 rfl
        obtain ⟨bb0,bb1,_,_⟩ :=F.at 3 rfl
        obtain ⟨cc0,cc1,_,_⟩ :=F.at 2 rfl
        have hZz : zD ⟨N,e⟩ Y = Z :=by rw [← hZ,← hS2,← hS1,← hQ1,← hQ2,← hQ3];rfl
        rw [hZz] at hz1 hz2
        have HZ :=Lib.hid hZz
        clear q1e q2e q3e s1e s2e q1b q2b q3b s1b s2b hD19 hS1 hS2 hZ hZz hQ1 hQ2 hQ3
        go_upto_region 17 with fail
        go_cut [10] from 47 to 143 (fun t10 wx => ∃ vz bz,t10 = ptr vz ∧ Fm w wx [(bz,Z.m),(by2,Y.m),(bd,(N : Int))] ((vz,ptr bz,.int .i32 Z.e) :: (v9,ptr by2,.int .i32 Y.e) :: sinV vA (w.heap.size + 1) w.heap.size b1 b2 b3 b4 bd e))
        case first =>
          go_wp2_with (first
            | (refine wp_region_lit_plan (id :=17) (.seg [0,1,2,5,6,9,10] (.two 3 13 (.two 4 13 (.two 7 13 (.two 8 13 (.two 11 13 (.two 12 13 (.seg [13] (.seg [14] .fin)) (.seg [12] (.seg [14] .fin))) (.seg [11] (.seg [12] (.seg [14] .fin)))) (.seg [8] (.seg [11] (.seg [12] (.seg [14] .fin))))) (.seg [7] (.seg [8] (.seg [11] (.seg [12] (.seg [14] .fin)))))) (.seg [4] (.seg [7] (.seg [8] (.seg [11] (.seg [12] (.seg [14] .fin))))))) (.seg [3] (.seg [4] (.seg [7] (.seg [8] (.seg [11] (.seg [12] (.seg [14] .fin))))))))) mixed (by kernel_rfl) ?_;simp only [wpPlanL,gaC,gaN,lZ0,lS0,coS];have kr : Kept wc wc.drew :=(Chg.refl _ _).drew;replace F :=F.go kr)
            | (refine ⟨by kernel_rfl,oldD kr,?_⟩)
            | (refine ⟨by kernel_rfl,oldD (kt kr (Chg.alloc _ _ _)),?_⟩;replace kr :=kt kr (boxK _ (.pointer none) (.int .i32 0));replace F :=F.box (.pointer none) (.int .i32 0);(try simp only [World.size_drew] at F);obtain ⟨z0,z1,zf0,zf1⟩ :=F.at 0 rfl)
            | (refine ⟨oldD kr,?_⟩)
            | (refine ⟨oldD (kt kr (Chg.alloc _ _ _)),?_⟩;replace kr :=kt kr (boxK _ (.pointer none) (.int .i32 0));replace F :=F.box (.pointer none) (.int .i32 0);(try simp only [World.size_drew] at F);obtain ⟨z0,z1,zf0,zf1⟩ :=F.at 0 rfl)
            | refine ⟨by kernel_rfl,?_⟩
            | (with_reducible refine And.intro ?_ ?_)
            | (go_at_call 67;(with_reducible refine (hq1 _ F.glob (F.int (by simp)) (F.int (by simp))).mono ?_);rintro r w20 ⟨bq1,rfl,n,k⟩;replace kr :=kt kr k;replace F :=F.new n k;clear n k)
            | (go_at_call 67;rw [show (wc.alloc (.cells #[.pointer none,.int .i32 0] 55)).drew = Box wc.drew (.pointer none) (.int .i32 0) from rfl];(with_reducible refine (hq1 _ F.glob (F.int (by simp)) (F.int (by simp))).mono ?_);rintro r w20 ⟨bq1,rfl,n,k⟩;replace kr :=kt kr k;replace F :=F.new n k;clear n k)
            | (go_at_call 67;(with_reducible refine (hq2 _ F.glob (F.int (by simp)) (F.int (by simp))).mono ?_);rintro r w22 ⟨bq2,rfl,n,k⟩;replace kr :=kt kr k;replace F :=F.new n k;clear n k)
            | (go_at_call 67;(with_reducible refine (hq3 _ F.glob (F.int (by simp)) (F.int (by simp))).mono ?_);rintro r w24 ⟨bq3,rfl,n,k⟩;replace kr :=kt kr k;replace F :=F.new n k;clear n k)
            | (go_at_call 72;(with_reducible refine (hs1 _ _ F.glob (F.int (by simp)) (F.int (by simp))).mono ?_);rintro r w21 ⟨bs1,rfl,n,k⟩;replace kr :=kt kr k;replace F :=F.new n k;clear n k)
            | (go_at_call 72;(with_reducible refine (hs2 _ _ _ F.glob (F.int (by simp)) (F.int (by simp))).mono ?_);rintro r w23 ⟨bs2,rfl,n,k⟩;replace kr :=kt kr k;replace F :=F.new n k;clear n k)
            | (go_at_call 72;(with_reducible refine (hs3 _ _ _ F.glob (F.int (by simp)) (F.int (by simp))).mono ?_);rintro r w25 ⟨bz,rfl,n,k⟩;replace kr :=kt kr k;replace F :=F.new n k;clear n k;obtain ⟨z0,z1,zf0,zf1⟩ :=F.at 0 rfl))
          all_goals
            go_meet
            refine ⟨_,bz,rfl,?_⟩
            rw [hz1]
            have F2 :=Fm.put (V1 :=[]) (V2 :=(v9,ptr by2,.int .i32 Y.e) :: sinV vA (w.heap.size + 1) w.heap.size b1 b2 b3 b4 bd e) F (ptr bz) (.int .i32 (Y.e - 31))
            (try rw [put2_box] at F2)
            refine F2.sub fun p hp => ?_
            simp only [List.mem_cons,List.not_mem_nil,or_false] at hp ⊢
            rcases hp with h | h | h <;> simp [h]
        case rest =>
          obtain ⟨vz,bz,rfl,F⟩ :=hcut
          have hZe : -31 ≤ Z.e ∧ Z.e ≤ -30 :=by omega
          have hzz : ∀ W,Glob W → IntAt W bz Z.m → Calls Tryz.prog 67 #[dv bz Z.e,dv bz Z.e] W (NewDec W (Z.mul Z).m (Z.mul Z).e) :=fun W hg h1 => dec_mulD W hg bz bz Z Z 31 31 h1 h1 hz2 hz2 (by omega) (by omega) (by omega) (by omega) (by omega) (by omega) (by omega)
          have hUb : Bd (Z.mul Z) 62 :=hz2.mul hz2
          have hUe : (Z.mul Z).e = Z.e + Z.e :=rfl
          obtain ⟨U,hU⟩ : ∃ S,Z.mul Z = S :=⟨_,rfl⟩
          rw [hU] at hzz hUb hUe
          have HU :=Lib.hid (And.intro hU hUe)
          have HZe :=Lib.hid (And.intro hZe hz1)
          clear hU hUe hZe hz1 y0 y1' d0 d1 a0 a1 bb0 bb1 cc0 cc1 hq1 hq2 hq3 hs1 hs2 hs3
          obtain ⟨z0,z1,_,_⟩ :=F.at 0 rfl
          --STAGE5
          go_upto_region 19 with (go_at_call 67;(with_reducible refine (hzz _ F.glob (F.iat 0 rfl)).mono ?_);rintro r w30 ⟨bU,rfl,n30,k30⟩;replace F :=(F.new n30 k30).box (ptr bU) (.int .i32 U.e))
          obtain ⟨vU,hvU⟩ : ∃ v,w30.heap.size = v :=⟨_,rfl⟩
          rw [hvU] at F ⊢
          clear n30 k30 hvU hzz z0 z1
          have hjm4 : jm < 4 :=by have :=HJM.out;omega
          go_cut [68] from 63 to 143 (fun t68 wx => (Box w30 (ptr bU) (.int .i32 U.e)) = wx ∧ t68 = .bool (decide (jm = 1 ∨ jm = 2)))
          case first =>
            obtain rfl | rfl | rfl | rfl : jm = 0 ∨ jm = 1 ∨ jm = 2 ∨ jm = 3 :=by omega
            all_goals
              clear hjm4
              go_wp2_with fail
              go_meet
              exact ⟨rfl,rfl⟩
          case rest =>
            obtain ⟨rfl,rfl⟩ :=hcut
            obtain ⟨gc,hgc⟩ : ∃ g,decide (jm = 1 ∨ jm = 2) = g :=⟨_,rfl⟩
            rw [hgc]
            have HGC :=Lib.hid hgc
            clear hgc hjm4
            obtain ⟨wd,hwd⟩ : ∃ W,Box w30 (ptr bU) (.int .i32 U.e) = W :=⟨_,rfl⟩
            rw [hwd] at F ⊢
            clear hwd
            obtain ⟨hZ1,hZ2⟩ :=HZe.out.1
            obtain ⟨P,hP⟩ : ∃ P,(if gc then cosD Z else sinD Z) = P :=⟨_,rfl⟩
            go_upto_if 68 with fail
            go_cut [12] from 69 to 143 (fun t12 wx => ∃ by3,(∃ W0,Kept w W0 ∧ v9 < W0.heap.size ∧ w.heap.size + 1 < W0.heap.size ∧ IntN W0 wx by3 P.m) ∧ Bd P 500 ∧ -465 ≤ P.e ∧ P.e ≤ 0 ∧ Fm w wx [(by3,P.m)] [(v9,ptr by3,.int .i32 P.e),(w.heap.size + 1,.pointer none,.int .i32 0)])
            case first =>
              obtain ⟨u0,u1,uf0,uf1⟩ :=F.at 0 rfl
              obtain ⟨z0,z1,zf0,zf1⟩ :=F.at 1 rfl
              obtain ⟨y0,y1,yf0,yf1⟩ :=F.at 2 rfl
              cases gc
              · obtain ⟨M1,A1,M2,A2,M3,A3,M4,A4,M5,A5,V1,V2,hv1,m1,a1,m2,a2,m3,a3,m4,a4,m5,a5,hv2,hr,hB,hB1,hB2⟩ :=sin_steps Z U HU.out.1 hz2 hZ1 hZ2
                simp only [sinC] at m1 a1 a2 a3 a4 a5
                rw [if_neg (by decide)] at hP
                rw [hP] at hr hB hB1 hB2
                have HH :=Lib.hid (And.intro hB (And.intro hB1 hB2))
                clear hB hB1 hB2 hP hZ1 hZ2 hz2
                go_wp2_with (first
                  | (refine wp_region_lit_segs (id :=22) [[0,1,2,6,11,16,21,26,3],[4],[5,7],[8],[9,10],[12],[13],[14,15],[17],[18],[19,20],[22],[23],[24,25],[27],[28],[29,30],[31],[32,33]] mixed (by kernel_rfl) ?_;simp only [wpSegsL,gaC,gaN,lZ0,lS0,coS];have kr : Kept wd wd.drew :=(Chg.refl _ _).drew;replace F :=F.go kr)
                  | refine ⟨by kernel_rfl,?_⟩
                  | (refine ⟨by kernel_rfl,oldD kr,?_⟩)
                  | (refine ⟨oldD kr,?_⟩)
                  | (with_reducible refine And.intro ?_ ?_)
                  | (go_at_call 74;have _ :=bc4;(with_reducible refine (dec_arr74 _ F.globF).mono ?_);rintro r wc5 ⟨bx0,bx1,bx2,bx3,bx4,bc5,rfl,n0,n1,n2,n3,n4,n5,k⟩;replace kr :=kt kr k;replace F :=F.new n5 k;clear n0 n1 n2 n3 n4 n5 k)
                  | (go_at_call 74;have _ :=bc3;(with_reducible refine (dec_arr74 _ F.globF).mono ?_);rintro r wc4 ⟨bx0,bx1,bx2,bx3,bc4,bx5,rfl,n0,n1,n2,n3,n4,n5,k⟩;replace kr :=kt kr k;replace F :=F.new n4 k;clear n0 n1 n2 n3 n4 n5 k)
                  | (go_at_call 74;have _ :=bc2;(with_reducible refine (dec_arr74 _ F.globF).mono ?_);rintro r wc3 ⟨bx0,bx1,bx2,bc3,bx4,bx5,rfl,n0,n1,n2,n3,n4,n5,k⟩;replace kr :=kt kr k;replace F :=F.new n3 k;clear n0 n1 n2 n3 n4 n5 k)
                  | (go_at_call 74;have _ :=bc1;(with_reducible refine (dec_arr74 _ F.globF).mono ?_);rintro r wc2 ⟨bx0,bx1,bc2,bx3,bx4,bx5,rfl,n0,n1,n2,n3,n4,n5,k⟩;replace kr :=kt kr k;replace F :=F.new n2 k;clear n0 n1 n2 n3 n4 n5 k)
                  | (go_at_call 74;have _ :=bc0;(with_reducible refine (dec_arr74 _ F.globF).mono ?_);rintro r wc1 ⟨bx0,bc1,bx2,bx3,bx4,bx5,rfl,n0,n1,n2,n3,n4,n5,k⟩;replace kr :=kt kr k;replace F :=F.new n1 k;clear n0 n1 n2 n3 n4 n5 k)
                  | (go_at_call 74;(with_reducible refine (dec_arr74 _ F.globF).mono ?_);rintro r wc0 ⟨bc0,bx1,bx2,bx3,bx4,bx5,rfl,n0,n1,n2,n3,n4,n5,k⟩;replace kr :=kt kr k;replace F :=F.new n0 k;clear n0 n1 n2 n3 n4 n5 k)
                  | (go_at_call 67;(with_reducible refine (hv1 _ _ _ F.glob (F.int (by simp)) (F.int (by simp))).mono ?_);rintro r w31 ⟨bv1,rfl,n,k⟩;replace kr :=kt kr k;replace F :=F.new n k;clear n k)
                  | (go_at_call 67;(with_reducible refine (m1 _ _ _ F.glob (F.int (by simp)) (F.int (by simp))).mono ?_);rintro r wm1 ⟨bm1,rfl,n,k⟩;replace kr :=kt kr k;replace F :=F.new n k;clear n k)
                  | (go_at_call 67;(with_reducible refine (m2 _ _ _ F.glob (F.int (by simp)) (F.int (by simp))).mono ?_);rintro r wm2 ⟨bm2,rfl,n,k⟩;replace kr :=kt kr k;replace F :=F.new n k;clear n k)
                  | (go_at_call 67;(with_reducible refine (m3 _ _ _ F.glob (F.int (by simp)) (F.int (by simp))).mono ?_);rintro r wm3 ⟨bm3,rfl,n,k⟩;replace kr :=kt kr k;replace F :=F.new n k;clear n k)
                  | (go_at_call 67;(with_reducible refine (m4 _ _ _ F.glob (F.int (by simp)) (F.int (by simp))).mono ?_);rintro r wm4 ⟨bm4,rfl,n,k⟩;replace kr :=kt kr k;replace F :=F.new n k;clear n k)
                  | (go_at_call 67;(with_reducible refine (m5 _ _ _ F.glob (F.int (by simp)) (F.int (by simp))).mono ?_);rintro r wm5 ⟨bm5,rfl,n,k⟩;replace kr :=kt kr k;replace F :=F.new n k;clear n k)
                  | (go_at_call 67;(with_reducible refine (hv2 _ _ _ F.glob (F.int (by simp)) (F.int (by simp))).mono ?_);rintro r w32 ⟨bv2,rfl,n,k⟩;replace kr :=kt kr k;replace F :=F.new n k;clear n k)
                  | (go_at_call 70;(with_reducible refine (a1 _ _ _ F.glob (F.int (by simp)) (F.int (by simp))).mono ?_);rintro r wa1 ⟨ba1,rfl,n,k⟩;replace kr :=kt kr k;replace F :=F.new n k;clear n k)
                  | (go_at_call 70;(with_reducible refine (a2 _ _ _ F.glob (F.int (by simp)) (F.int (by simp))).mono ?_);rintro r wa2 ⟨ba2,rfl,n,k⟩;replace kr :=kt kr k;replace F :=F.new n k;clear n k)
                  | (go_at_call 70;(with_reducible refine (a3 _ _ _ F.glob (F.int (by simp)) (F.int (by simp))).mono ?_);rintro r wa3 ⟨ba3,rfl,n,k⟩;replace kr :=kt kr k;replace F :=F.new n k;clear n k)
                  | (go_at_call 70;(with_reducible refine (a4 _ _ _ F.glob (F.int (by simp)) (F.int (by simp))).mono ?_);rintro r wa4 ⟨ba4,rfl,n,k⟩;replace kr :=kt kr k;replace F :=F.new n k;clear n k)
                  | (go_at_call 70;(with_reducible refine (a5 _ _ _ F.glob (F.int (by simp)) (F.int (by simp))).mono ?_);rintro r wa5 ⟨ba5,rfl,n,k⟩;replace kr :=kt kr k;replace F :=F.new n k;clear n k)
                  | (go_at_call 70;(with_reducible refine (hr _ _ _ F.glob (F.int (by simp)) (F.int (by simp))).mono ?_);rintro r w33 ⟨by3,rfl,n,k⟩;have nP :=And.intro n (And.intro F.kept (And.intro (lt_of_cell (F.at 2 rfl).1) (lt_of_cell (F.at 7 rfl).1)));replace kr :=kt kr k;replace F :=F.new n k;clear n k;obtain ⟨y0,y1,yf0,yf1⟩ :=F.at 2 rfl;have y2 :=cs_ne (u :=ptr by3) y1 (b' :=v9) (o' :=0) (by omega)))
                go_meet
                obtain ⟨hB,hB1,hB2⟩ :=HH.out
                refine ⟨by3,⟨_,nP.2.1,nP.2.2.1,nP.2.2.2,nP.1.chg (put2_chg _ v9 (ptr by3) (.int .i32 P.e)) fun b' _ h => by have :=nP.2.2.1;omega⟩,hB.le (by decide),by omega,hB2,?_⟩
                have F2 :=Fm.put (V1 :=[(vU,ptr bU,.int .i32 U.e),(vz,ptr bz,.int .i32 Z.e)]) (V2 :=sinV vA (w.heap.size + 1) w.heap.size b1 b2 b3 b4 bd e) F (ptr by3) (.int .i32 P.e)
                refine (F2.sub fun p hp => ?_).subV ?_
                · simp only [List.mem_cons,List.not_mem_nil,or_false] at hp ⊢
                  simp [hp]
                · simp [sinV]
              · obtain ⟨M1,A1,M2,A2,M3,A3,M4,A4,M5,A5,V1,V2,H,D,hv1,m1,a1,m2,a2,m3,a3,m4,a4,m5,a5,hv2,hh,hd,hr,hB,hB1,hB2⟩ :=cos_steps Z U HU.out.1 hz2 hZ1 hZ2
                dsimp only [mulF,subF] at hh hd
                rw [if_pos rfl] at hP
                rw [hP] at hr hB hB1 hB2
                have HH :=Lib.hid (And.intro hB (And.intro hB1 hB2))
                clear hB hB1 hB2 hP hZ1 hZ2 hz2
                go_upto_region 20 with fail
                refine sin_r20 (by kernel_rfl) w wd _ _ vU bU U _ (F.sub (L' :=[(bU,U.m)]) (by simp)) M1 A1 M2 A2 M3 A3 M4 A4 M5 A5 V1 V2 hv1 m1 a1 m2 a2 m3 a3 m4 a4 m5 a5 hv2 _ _ _ _ _ _ _ _ _ _ _ _ _ _ _ _ _ _ _ _ _ _ _ _ _ _ _ _ _ _ _ _ _ _ _ _ _ _ _ _ _ _ _ _ _ _ _ _ _ _ _ _ _ _ _ _ _ _ _ _ _ _ _ _ _ _ _ _ _ _ _ _ _ _ _ _ _ _ _ _ _ _ _ _ _ _ _ _ _ _ _ _ _ _ _ _ _ _ _ _ _ _ _ _ _ _ _ _ _ _ _ _ _ _ _ _ _ _ _ _ _ _ _ _ _ _ _ _ _ _ _ _ _ _ _ _ _ _ _ _ _ _ _ ?_
                intro u69 u70 u71 u72 u73 u74 u75 u76 u77 u78 u79 u80 u81 u82 u83 u84 u85 u86 u87 u88 u89 u90 u91 u92 u93 u94 u95 u96 u97 u98 u99 u100 u101 u102 u103 u104 u105 u106 u107 u108 u109 u110 u111 u112 u113 u114 u115 u116 u117 u118 u119 u120 u121 u122 u123 u124 u125 u126 u127 u128 u129 u130 u131 u132 u133 u134 u135 u136 u137 u138 u139 u140 u141 u142 u143 wc vw bw F2
                replace F :=F2
                clear F2
                obtain ⟨u0,u1,uf0,uf1⟩ :=F.at 1 rfl
                obtain ⟨q0,q1,qf0,qf1⟩ :=F.at 0 rfl
                obtain ⟨y0,y1,yf0,yf1⟩ :=F.at 3 rfl
                clear z0 z1 zf0 zf1
                go_wp2_with (first
                    | (refine wp_region_lit_segs (id :=21) [[2,5,0],[1],[3],[4],[6,7]] mixed (by kernel_rfl) ?_;simp only [wpSegsL,gaC,gaN,lZ0,lS0,coS];have kr : Kept wc wc.drew :=(Chg.refl _ _).drew;replace F :=F.go kr)
                    | refine ⟨by kernel_rfl,?_⟩
                    | (refine ⟨by kernel_rfl,oldD kr,?_⟩)
                    | (refine ⟨oldD kr,?_⟩)
                    | (with_reducible refine And.intro ?_ ?_)
                    | (go_at_call 71;(with_reducible refine (dec_new _ 1 0 (by decide) (by decide)).mono ?_);rintro r w40 ⟨b1n,rfl,n,k⟩;replace kr :=kt kr k;replace F :=F.new n k;clear n k)
                    | (go_at_call 71;(with_reducible refine (dec_new _ 5 (-1) (by decide) (by decide)).mono ?_);rintro r w41 ⟨b5n,rfl,n,k⟩;replace kr :=kt kr k;replace F :=F.new n k;clear n k)
                    | (go_at_call 67;(with_reducible refine (hh _ _ _ F.glob (F.int (by simp)) (F.int (by simp))).mono ?_);rintro r w42 ⟨bh,rfl,n,k⟩;replace kr :=kt kr k;replace F :=F.new n k;clear n k)
                    | (go_at_call 72;(with_reducible refine (hd _ _ _ F.glob (F.int (by simp)) (F.int (by simp))).mono ?_);rintro r w43 ⟨bdd,rfl,n,k⟩;replace kr :=kt kr k;replace F :=F.new n k;clear n k)
                    | (go_at_call 70;(with_reducible refine (hr _ _ _ F.glob (F.int (by simp)) (F.int (by simp))).mono ?_);rintro r w44 ⟨by3,rfl,n,k⟩;have nP :=And.intro n (And.intro F.kept (And.intro (lt_of_cell (F.at 3 rfl).1) (lt_of_cell (F.at 8 rfl).1)));replace kr :=kt kr k;replace F :=F.new n k;clear n k;obtain ⟨y0,y1,yf0,yf1⟩ :=F.at 3 rfl;have y2 :=cs_ne (u :=ptr by3) y1 (b' :=v9) (o' :=0) (by omega)))
                go_meet
                obtain ⟨hB,hB1,hB2⟩ :=HH.out
                refine ⟨by3,⟨_,nP.2.1,nP.2.2.1,nP.2.2.2,nP.1.chg (put2_chg _ v9 (ptr by3) (.int .i32 P.e)) fun b' _ h => by have :=nP.2.2.1;omega⟩,hB,hB1,hB2,?_⟩
                have F2 :=Fm.put (V1 :=[(vw,ptr bw,.int .i32 V2.e),(vU,ptr bU,.int .i32 U.e),(vz,ptr bz,.int .i32 Z.e)]) (V2 :=sinV vA (w.heap.size + 1) w.heap.size b1 b2 b3 b4 bd e) F (ptr by3) (.int .i32 P.e)
                refine (F2.sub fun p hp => ?_).subV ?_
                · simp only [List.mem_cons,List.not_mem_nil,or_false] at hp ⊢
                  simp [hp]
                · exact .cons _ (.cons _ (.cons _ (.cons₂ _ (.cons _ (.cons _ (.cons _ (.cons _ (.cons₂ _ (List.nil_sublist _)))))))))
            case rest =>
              obtain ⟨by3,⟨W0,kW,hv9,hv1,nP⟩,hB,hB1,hB2,F⟩ :=hcut
              obtain ⟨s7,hs7⟩ : ∃ s,(sg ^^ g3) = s :=⟨_,rfl⟩
              rw [hs7]
              have hR : sinOf X k = if s7 then P.neg else P :=by
                obtain ⟨hjj,hY,_⟩ :=HJJ.out
                have hg : decide (3 < j8) = g3 :=by rw [← hg3];exact decide_eq_decide.2 (by omega)
                unfold sinOf
                simp only
                rw [hNX,HJ.out,hjj,HJ8.out,HJM.out,HGC.out,hsg,hg,hs7,hY,← HE.out,HZ.out,hP]
              have HR :=Lib.hid hR
              clear hR hsg hs7 hg3 hP
              obtain ⟨y0,y1,yf0,yf1⟩ :=F.at 0 rfl
              obtain ⟨r0,r1,rf0,rf1⟩ :=F.at 1 rfl
              cases s7
              · go_wp2_with fail
                have e7 : sinOf X k = P :=HR.out
                rw [e7]
                have S : Slot wc (w.heap.size + 1) :=⟨⟨_,r0⟩,⟨_,r1⟩,F.nf (x :=.pointer none) (y :=.int .i32 0) (by simp)⟩
                have F2 :=Fm.put (V1 :=[(v9,ptr by3,.int .i32 P.e)]) (V2 :=[]) F (ptr by3) (.int .i32 P.e)
                exact bodyPost_ret (v :=dv by3 P.e) (results_dec rfl rfl (put2_0 S _ _) (put2_1 S _ _)) rfl ⟨by3,rfl,(nP.chg (put2_chg _ _ _ _) fun b' _ h => by omega).older (Chg.size kW),F2.kept⟩
              · have hng :=dec_neg _ by3 P.e P.m (F.iat 0 rfl)
                go_wp2_with (go_at_call 66;(with_reducible refine hng.mono ?_);rintro r w50 ⟨b9,rfl,n9,k9⟩;have hl9 :=lt_of_cell y0;have hl1 :=lt_of_cell r0;have kk :=F.kept;replace F :=F.new n9 k9;obtain ⟨y0,y1,yf0,yf1⟩ :=F.at 0 rfl;obtain ⟨r0,r1,rf0,rf1⟩ :=F.at 1 rfl;have y2 :=cs_ne (u :=ptr b9) y1 (b' :=v9) (o' :=0) (by omega);have hd : v9 ≠ w.heap.size + 1 :=(List.pairwise_cons.1 F.dist).1 _ (List.mem_singleton.2 rfl);have r0 :=cs_ne (u :=.int .i32 P.e) (cs_ne (u :=ptr b9) r0 (b' :=v9) (o' :=0) (by omega)) (b' :=v9) (o' :=1) (by omega);have r1 :=cs_ne (u :=.int .i32 P.e) (cs_ne (u :=ptr b9) r1 (b' :=v9) (o' :=0) (by omega)) (b' :=v9) (o' :=1) (by omega);have r2 :=cs_ne (u :=ptr b9) r1 (b' :=w.heap.size + 1) (o' :=0) (by omega))
                have e7 : sinOf X k = P.neg :=HR.out
                rw [e7]
                have F2 :=Fm.put (V1 :=[]) (V2 :=[(w.heap.size + 1,.pointer none,.int .i32 0)]) F (ptr b9) (.int .i32 P.e)
                have S : Slot (put2 w50 v9 (ptr b9) (.int .i32 P.e)) (w.heap.size + 1) :=⟨⟨_,(F2.at 1 rfl).1⟩,⟨_,(F2.at 1 rfl).2.1⟩,F2.nf (x :=.pointer none) (y :=.int .i32 0) (by simp)⟩
                have F3 :=Fm.put (V1 :=[(v9,ptr b9,.int .i32 P.e)]) (V2 :=[]) F2 (ptr b9) (.int .i32 P.e)
                exact bodyPost_ret (v :=dv b9 P.e) (results_dec rfl rfl (put2_0 S _ _) (put2_1 S _ _)) rfl ⟨b9,rfl,((n9.chg (put2_chg _ v9 _ _) fun b' _ h => by omega).chg (put2_chg _ (w.heap.size + 1) _ _) fun b' _ h => by omega).older (Chg.size kk),F3.kept⟩
end Go.Proofs.YtfmmdamgcpiciaaGreatDoor
namespace Go.Proofs.YtfmmdamgcpiciaaGreatDoor
open Go Go.RowKit
def dl (n : Nat) : List Nat :=if h : n = 0 then [] else (n % 10) :: dl (n / 10)
termination_by n
decreasing_by omega
theorem dl_zero : dl 0 = [] :=by unfold dl;simp
theorem dl_pos {n : Nat} (h : n ≠ 0) : dl n = (n % 10) :: dl (n / 10) :=by rw [dl];simp [h]
def pad : Nat → Nat → List Nat
  | 0,_ => []
  | k + 1,n => (n % 10) :: pad k (n / 10)
theorem pad_length : ∀ k n,(pad k n).length = k
  | 0,_ => rfl
  | k + 1,n => by simp [pad,pad_length k]
theorem dl_split : ∀ (k n v : Nat),n < 10 ^ k → 0 < v → dl (n + 10 ^ k * v) = pad k n ++ dl v
  | 0,n,v,hn,hv => by
    have : n = 0 :=by simpa using hn
    subst this;simp [pad]
  | k + 1,n,v,hn,hv => by
    have hp : 0 < 10 ^ k :=Nat.pow_pos (by decide)
    have h1 : 10 ^ (k + 1) * v = 10 * (10 ^ k * v) :=by rw [Nat.pow_succ];rw [Nat.mul_comm (10 ^ k) 10,Nat.mul_assoc]
    have hkv : 0 < 10 ^ k * v :=Nat.mul_pos hp hv
    have hne : n + 10 ^ (k + 1) * v ≠ 0 :=by omega
    rw [dl_pos hne,h1]
    have h2 : (n + 10 * (10 ^ k * v)) % 10 = n % 10 :=by omega
    have h3 : (n + 10 * (10 ^ k * v)) / 10 = n / 10 + 10 ^ k * v :=by omega
    rw [h2,h3,dl_split k (n / 10) v (by rw [Nat.pow_succ] at hn;omega) hv]
    rfl
theorem pad_add : ∀ (j k n : Nat),pad (j + k) n = pad j n ++ pad k (n / 10 ^ j)
  | 0,k,n => by simp [pad]
  | j + 1,k,n => by
    rw [Nat.add_right_comm,pad,pad,pad_add j k (n / 10),Nat.div_div_eq_div_mul,Nat.pow_succ,Nat.mul_comm 10]
    rfl
theorem dl_lt {n : Nat} : ∀ d ∈ dl n,d < 10 :=by
  induction n using Nat.strongRecOn with
  | ind n ih =>
    intro d hd
    by_cases h : n = 0
    · subst h;rw [dl_zero] at hd;cases hd
    · rw [dl_pos h] at hd
      rcases List.mem_cons.1 hd with rfl | hd
      · omega
      · exact ih (n / 10) (by omega) d hd
theorem val_dl (n : Nat) : val 10 (dl n) = n :=by
  induction n using Nat.strongRecOn with
  | ind n ih =>
    by_cases h : n = 0
    · subst h;rw [dl_zero];rfl
    · rw [dl_pos h,val,ih (n / 10) (by omega)]
      omega
theorem dl_top : ∀ (n : Nat),∀ d,(dl n).getLast? = some d → d ≠ 0 :=by
  intro n
  induction n using Nat.strongRecOn with
  | ind n ih =>
    intro d hd
    by_cases h : n = 0
    · subst h;rw [dl_zero] at hd;cases hd
    · rw [dl_pos h] at hd
      by_cases h9 : n / 10 = 0
      · rw [h9,dl_zero] at hd
        simp at hd
        omega
      · have hne : dl (n / 10) ≠ [] :=by rw [dl_pos h9];simp
        rw [List.getLast?_cons_of_ne_nil hne] at hd
        exact ih (n / 10) (by omega) d hd
theorem dl_length_le : ∀ (k n : Nat),n < 10 ^ k → (dl n).length ≤ k
  | 0,n,h => by
    have : n = 0 :=by simpa using h
    subst this;rw [dl_zero];simp
  | k + 1,n,h => by
    by_cases hn : n = 0
    · subst hn;rw [dl_zero];simp
    · rw [dl_pos hn,List.length_cons]
      have :=dl_length_le k (n / 10) (by rw [Nat.pow_succ] at h;omega)
      omega
def digT (n : Nat) : List Nat :=if n = 0 then [48] else (dl n).reverse.map (48 + ·)
def txt (X : Int) : List Nat :=if X < 0 then 45 :: digT X.natAbs else digT X.natAbs
def readD (l : List Nat) : Nat :=l.foldl (fun n c => n * 10 + (c - 48)) 0
theorem readD_snoc (l : List Nat) (c : Nat) : readD (l ++ [c]) = readD l * 10 + (c - 48) :=by simp [readD]
theorem readD_rev : ∀ (l : List Nat),(∀ d ∈ l,d < 10) → readD (l.reverse.map (48 + ·)) = val 10 l
  | [],_ => rfl
  | d :: l,h => by
    rw [List.reverse_cons,List.map_append,List.map_cons,List.map_nil,readD_snoc,readD_rev l fun x hx => h x (List.mem_cons_of_mem _ hx),val]
    omega
theorem readD_digs (n : Nat) : readD (digT n) = n :=by
  unfold digT
  split
  · rename_i h;subst h;rfl
  · rw [readD_rev _ fun d hd => dl_lt d hd,val_dl]
theorem digT_range (n : Nat) : ∀ c ∈ digT n,48 ≤ c ∧ c ≤ 57 :=by
  unfold digT
  split
  · intro c hc
    simp at hc
    omega
  · intro c hc
    obtain ⟨d,hd,rfl⟩ :=List.mem_map.1 hc
    have :=dl_lt d (List.mem_reverse.1 hd)
    omega
theorem digT_ne (n : Nat) : digT n ≠ [] :=by
  unfold digT
  split
  · simp
  · rename_i h
    rw [dl_pos h];simp
theorem digT_head (n : Nat) (h : n ≠ 0) : ∃ c l,digT n = c :: l ∧ c ≠ 48 :=by
  have hne :=digT_ne n
  unfold digT at hne ⊢
  rw [if_neg h] at hne ⊢
  have hd : dl n ≠ [] :=by rw [dl_pos h];simp
  have h1 : (dl n).reverse = (dl n).getLast hd :: (dl n).dropLast.reverse :=by
    conv => lhs;rw [← List.dropLast_concat_getLast hd]
    simp
  rw [h1,List.map_cons]
  refine ⟨_,_,rfl,?_⟩
  have :=dl_top n _ (List.getLast?_eq_some_getLast hd)
  omega
theorem digT_length (n : Nat) (k : Nat) (hk : 0 < k) (h : n < 10 ^ k) : (digT n).length ≤ k :=by
  unfold digT
  split
  · simp;omega
  · simpa using dl_length_le k n h
end Go.Proofs.YtfmmdamgcpiciaaGreatDoor
namespace Go.Proofs.YtfmmdamgcpiciaaGreatDoor
open Go Go.RowKit
def lenOf : Value → Nat
  | .slice _ n _ => n
  | _ => 0
structure OutK (k : IntKind) (w : World) (b o cap : Nat) (ys : List Nat) : Prop where
  row : ∀ (j x : Nat),ys[j]? = some x → w.cell? ⟨b,o + j,none⟩ = some (.int k (x : Int))
  room : Wr w b o cap
  le : ys.length ≤ cap
  nf : NF w b
  lt : b < w.heap.size
theorem OutK.chg {k : IntKind} {w w' : World} {M : Nat → Nat → Prop} {b o cap : Nat} {ys : List Nat} (h : OutK k w b o cap ys) (c : Chg w w' M) (hM : ∀ o',¬ M b o') : OutK k w' b o cap ys :=⟨fun j x hj => c.at (h.row j x hj) (hM _),h.room.chg c,h.le,h.nf.chg h.lt c,Nat.lt_of_lt_of_le h.lt c.size⟩
theorem OutK.kept {k : IntKind} {w w' : World} {b o cap : Nat} {ys : List Nat} (h : OutK k w b o cap ys) (c : Kept w w') : OutK k w' b o cap ys :=h.chg c fun _ x => x
theorem OutK.take {k : IntKind} {w : World} {b o cap n : Nat} {ys : List Nat} (h : OutK k w b o cap ys) : OutK k w b o cap (ys.take n) :=
  ⟨fun j x hj => h.row j x (by rw [List.getElem?_take] at hj;split at hj <;> simp_all),h.room,(by have :=h.le;simp;omega),h.nf,h.lt⟩
theorem OutK.set {k : IntKind} {w : World} {b o cap i : Nat} {ys : List Nat} (h : OutK k w b o cap ys) (x : Nat) (hi : i < ys.length) : OutK k (w.setCell ⟨b,o + i,none⟩ (.int k (x : Int))) b o cap (ys.set i x) :=by
  have hc :=Chg.setCell (w :=w) b (o + i) (.int k (x : Int)) (fun p q => p = b ∧ q = o + i) fun _ => ⟨rfl,rfl⟩
  refine ⟨fun j y hj => ?_,h.room.chg hc,(by simpa using h.le),h.nf.chg h.lt hc,Nat.lt_of_lt_of_le h.lt hc.size⟩
  by_cases e : j = i
  · subst e
    rw [List.getElem?_set_self hi] at hj
    obtain rfl :=Option.some.inj hj
    exact cell_setCell_eq (h.row j _ (List.getElem?_eq_getElem hi))
  · rw [List.getElem?_set_ne (Ne.symm e)] at hj
    rw [cell_setCell_ne (by omega)]
    exact h.row j y hj
structure ElemT (t e : TypeId) (k : IntKind) (bytes : Nat) : Prop where
  u : Tryz.prog.underlying t = some (.slice e)
  info : (Tryz.prog.info? e).map (fun i => (i.zero,i.size,i.bytes)) = some (some (.int k 0),1,bytes)
  le : bytes ≤ 8
structure Sl (k : IntKind) (w0 w : World) (s : Option Addr) (c : Nat) (xs : List Nat) : Prop where
  nil : s = none → xs = [] ∧ c = 0
  own : ∀ a,s = some a → ∃ g,a = ⟨g,0,none⟩ ∧ w0.heap.size ≤ g ∧ g < w.heap.size ∧ OutK k w g 0 c xs
  cap : c ≤ maxLen
abbrev inS (s : Option Addr) (b _o : Nat) : Prop :=∃ a,s = some a ∧ a.block = b
theorem Sl.start {k : IntKind} {w0 w : World} : Sl k w0 w none 0 [] :=⟨fun _ => ⟨rfl,rfl⟩,(fun _ h => by cases h),Nat.zero_le _⟩
theorem Sl.chg {k : IntKind} {w0 w w' : World} {M : Nat → Nat → Prop} {s : Option Addr} {c : Nat} {xs : List Nat} (h : Sl k w0 w s c xs) (hc : Chg w w' M) (hM : ∀ a,s = some a → ∀ o,¬ M a.block o) : Sl k w0 w' s c xs :=
  ⟨h.nil,fun a ha => by
    obtain ⟨g,rfl,h1,h2,h3⟩ :=h.own a ha
    exact ⟨g,rfl,h1,Nat.lt_of_lt_of_le h2 hc.size,h3.chg hc (hM _ ha)⟩,h.cap⟩
theorem Sl.kept {k : IntKind} {w0 w w' : World} {s : Option Addr} {c : Nat} {xs : List Nat} (h : Sl k w0 w s c xs) (hc : Kept w w') : Sl k w0 w' s c xs :=h.chg hc fun _ _ _ x => x
theorem Sl.lt {k : IntKind} {w0 w : World} {s : Option Addr} {c : Nat} {xs : List Nat} (h : Sl k w0 w s c xs) {a : Addr} (ha : s = some a) : w0.heap.size ≤ a.block ∧ a.block < w.heap.size :=by
  obtain ⟨g,rfl,h1,h2,_⟩ :=h.own a ha
  exact ⟨h1,h2⟩
theorem Sl.of {k : IntKind} {w0 w : World} {g c : Nat} {xs : List Nat} (h0 : w0.heap.size ≤ g) (h1 : g < w.heap.size) (h : OutK k w g 0 c xs) (hc : c ≤ maxLen) : Sl k w0 w (some ⟨g,0,none⟩) c xs :=
  ⟨(fun h => by cases h),(fun a ha => ⟨g,(Option.some.inj ha).symm,h0,h1,h⟩),hc⟩
theorem Sl.le {k : IntKind} {w0 w : World} {s : Option Addr} {c : Nat} {xs : List Nat} (h : Sl k w0 w s c xs) : xs.length ≤ c :=by
  cases s with
  | none => obtain ⟨rfl,rfl⟩ :=h.nil rfl;simp
  | some a => obtain ⟨_,_,_,_,h3⟩ :=h.own a rfl;exact h3.le
theorem OutK.of_ownsRow {k : IntKind} {w : World} {base e : Nat} {v : Value} {n : Nat} {xs : List Nat} (h : w.ownsRow base e 1 v n (xs.map fun (x : Nat) => Value.int k (x : Int))) (hn : n ≠ 0) :
    ∃ g cap,v = .slice (some ⟨g,0,none⟩) n cap ∧ base ≤ g ∧ g < w.heap.size ∧ cap ≤ maxLen ∧ OutK k w g 0 cap xs :=by
  obtain ⟨hl,h⟩ :=h
  rcases h with ⟨_,h⟩ | ⟨g,cap,cur,rfl,hb,hg,hn,hc,hs,ht⟩
  · exact absurd h hn
  · have hlt : g < w.heap.size :=by
      rcases Nat.lt_or_ge g w.heap.size with h | h
      · exact h
      · rw [Array.getElem?_eq_none h] at hg;cases hg
    rw [Nat.mul_one] at hs ht hl
    rw [List.length_map] at hl
    have hcell : ∀ j,w.cell? ⟨g,0 + j,none⟩ = cur[j]? :=fun j => by simp [World.cell?,hg]
    refine ⟨g,cap,rfl,hb,hlt,hc,fun j x hj => ?_,fun j hj => ⟨⟨cur[j]'(by omega),?_⟩,?_⟩,by omega,fun o => ?_,hlt⟩
    · rw [hcell]
      have h1 : (xs.map fun (x : Nat) => Value.int k (x : Int))[j]? = some (.int k (x : Int)) :=by rw [List.getElem?_map,hj];rfl
      rw [← ht,List.getElem?_take] at h1
      split at h1
      · rw [Array.getElem?_toList] at h1;exact h1
      · cases h1
    · rw [hcell];simp
    · simp [World.frozen?,hg]
    · simp [World.frozen?,hg]
theorem Chg.grown {w w' : World} {row : Option Nat} (h : w.grownBy w' row) (hr : row = none) : Kept w w' :=by
  subst hr
  exact Chg.ofOld ⟨h.os,h.tape,h.output,h.size,fun b hb => h.block b hb (by simp)⟩ _
section
variable {k : IntKind} {t e bytes : Nat} (T : ElemT t e k bytes) {w0 w : World}
include T
theorem run_gapp {s : Option Addr} {c : Nat} {xs : List Nat} (h : Sl k w0 w s c xs) (h0 : w0.heap.size ≤ w.heap.size) (zs : List Nat) (ab ao m cz : Nat) (hm : zs.length = m) (hm0 : m ≠ 0) (hz : ∀ (j x : Nat),zs[j]? = some x → w.cell? ⟨ab,ao + j,none⟩ = some (.int k (x : Int))) (hb : xs.length + m < 2 ^ 40) :
    ∃ s' c' w',(Builtin.append_ #[t,t] t #[.slice s xs.length c,.slice (some ⟨ab,ao,none⟩) m cz]).run Tryz.prog w = .ok (.slice s' (xs.length + m) c') w' ∧ Sl k w0 w' s' c' (xs ++ zs) ∧ Chg w w' (inS s) ∧ (s' = s ∨ ∀ a,s' = some a → w.heap.size ≤ a.block) :=by
  obtain ⟨i0,hi,hz0,hz1,hz2⟩ :=info_parts T.info
  have h63 : xs.length + m ≤ maxLen :=by simp only [maxLen];omega
  have hbytes : (xs.length + m) * bytes ≤ 140737488355328 :=by
    have :=T.le
    have h1 : (xs.length + m) * bytes ≤ (xs.length + m) * 8 :=Nat.mul_le_mul_left _ this
    omega
  have hzl : (zs.map fun (x : Nat) => Value.int k (x : Int)).length = m * 1 :=by simp [hm]
  have hnews : ∀ (j : Nat) (u : Value),(zs.map fun (x : Nat) => Value.int k (x : Int))[j]? = some u → w.cell? ((⟨ab,ao,none⟩ : Addr).add j) = some u :=fun j u hj => by
    rw [List.getElem?_map] at hj
    cases hx : zs[j]? with
    | none => rw [hx] at hj;cases hj
    | some x =>
      rw [hx] at hj
      obtain rfl :=Option.some.inj hj
      rw [Addr.add_lit]
      exact hz j x hx
  have hone : ∀ u ∈ (zs.map fun (x : Nat) => Value.int k (x : Int)),u.oneCell' = true :=fun u hu => by
    obtain ⟨x,_,rfl⟩ :=List.mem_map.1 hu
    rfl
  cases s with
  | none =>
    obtain ⟨rfl,rfl⟩ :=h.nil rfl
    obtain ⟨v',w',hr,ho,hg,_⟩ :=run_append_own (P :=Tryz.prog) w w.heap.size t t e i0 (.int k 0) 1 bytes T.u hi hz0 hz1 hz2 rfl (by decide) (.slice none 0 0) 0 [] ⟨rfl,.inl ⟨rfl,rfl⟩⟩ ⟨ab,ao,none⟩ m cz _ hzl hnews hone (by simpa using h63) (by simpa using hbytes) (Nat.le_refl _)
    rw [List.nil_append] at ho
    obtain ⟨g,cap,rfl,h1,h2,h3,h4⟩ :=OutK.of_ownsRow ho (by omega)
    refine ⟨_,cap,w',by simpa using hr,?_,(Chg.grown hg rfl).any _,.inr fun a ha => by obtain rfl :=Option.some.inj ha;exact h1⟩
    exact Sl.of (Nat.le_trans h0 h1) h2 (by simpa using h4) h3
  | some a =>
    obtain ⟨g,rfl,h1,h2,h3⟩ :=h.own a rfl
    by_cases hc : xs.length + m ≤ c
    · have hr :=run_append_room_cells (P :=Tryz.prog) w t t e i0 T.u hi g 0 xs.length c ⟨ab,ao,none⟩ m cz _ (by rw [hz1];exact hzl) hnews hone hc (fun j hj => by
          rw [hz1,Nat.mul_one]
          obtain ⟨⟨v,hv⟩,_⟩ :=h3.room (xs.length + j) (by simp at hj;omega)
          rw [show 0 + xs.length + j = 0 + (xs.length + j) by omega,hv];rfl) (fun j hj => by
          rw [hz1,Nat.mul_one,show 0 + xs.length + j = 0 + (xs.length + j) by omega]
          exact (h3.room (xs.length + j) (by simp at hj;omega)).2)
      rw [hz1,Nat.mul_one] at hr
      have hcg :=Chg.setCells g (zs.map fun (x : Nat) => Value.int k (x : Int)) (0 + xs.length) w
      refine ⟨_,_,_,hr,?_,hcg.mono fun b o _ hh => ⟨_,rfl,hh.1.symm⟩,.inl rfl⟩
      refine Sl.of h1 (Nat.lt_of_lt_of_le h2 hcg.size) ⟨fun j x hj => ?_,h3.room.chg hcg,(by simp;omega),h3.nf.chg h3.lt hcg,Nat.lt_of_lt_of_le h3.lt hcg.size⟩ h.cap
      rcases Nat.lt_or_ge j xs.length with hlt | hge
      · rw [List.getElem?_append_left hlt] at hj
        exact hcg.at (h3.row j x hj) fun e => by have :=e.2.1;omega
      · rw [List.getElem?_append_right hge] at hj
        obtain ⟨hl,hx⟩ :=List.getElem?_eq_some_iff.1 hj
        have :=World.cell?_setCells_in g (zs.map fun (x : Nat) => Value.int k (x : Int)) (0 + xs.length) w (fun j hj => by
          obtain ⟨⟨v,hv⟩,_⟩ :=h3.room (xs.length + j) (by simp at hj;omega)
          rw [show 0 + xs.length + j = 0 + (xs.length + j) by omega]
          rw [hv];rfl) (j - xs.length) (by simpa using hl)
        rw [show 0 + xs.length + (j - xs.length) = 0 + j by omega] at this
        rw [this];simp [hx]
    · obtain ⟨v',w',hr,ho,hg⟩ :=run_append_arg_grows (P :=Tryz.prog) w t t e i0 (.int k 0) 1 bytes T.u hi hz0 hz1 hz2 rfl (by decide) ⟨g,0,none⟩ xs.length c (xs.map fun (x : Nat) => Value.int k (x : Int)) (by simp) (fun j u hj => by
          rw [List.getElem?_map] at hj
          cases hx : xs[j]? with
          | none => rw [hx] at hj;cases hj
          | some x =>
            rw [hx] at hj
            obtain rfl :=Option.some.inj hj
            rw [Addr.add_lit]
            exact h3.row j x hx) ⟨ab,ao,none⟩ m cz _ hzl hnews (by omega) h63 hbytes
      rw [← List.map_append] at ho
      obtain ⟨g',cap,rfl,k1,k2,k3,k4⟩ :=OutK.of_ownsRow ho (by omega)
      exact ⟨_,cap,w',hr,Sl.of (Nat.le_trans h0 k1) k2 k4 k3,(Chg.grown hg rfl).any _,.inr fun a ha => by obtain rfl :=Option.some.inj ha;exact k1⟩
end
section
variable {k : IntKind} {t e bytes : Nat} (T : ElemT t e k bytes) {w0 w : World} {ops : Array Oper} {rest : List Oper} {op : Oper} {a : Act} {Q : Exit → Act → World → Prop}
include T
theorem wp_gapp (hgd : op.guard = none) (s x : Operand) (ho : op.op = .call { callee :=.builtin .append,args :=#[s,x],argTypes :=#[t,t] }) (hty : op.type = t) {sa : Option Addr} {c n m cz ab ao : Nat} {xs : List Nat} (zs : List Nat)
    (hs : a.eval s = .slice sa n c) (hx : a.eval x = .slice (some ⟨ab,ao,none⟩) m cz) (h : Sl k w0 w sa c xs) (h0 : w0.heap.size ≤ w.heap.size) (hn : xs.length = n) (hm : zs.length = m) (hm0 : m ≠ 0) (hb : n + m < 2 ^ 40)
    (hz : ∀ (j y : Nat),zs[j]? = some y → w.cell? ⟨ab,ao + j,none⟩ = some (.int k (y : Int)))
    (hk : ∀ s' c' W1,Sl k w0 W1 s' c' (xs ++ zs) → Chg w W1 (inS sa) → (s' = sa ∨ ∀ a,s' = some a → w.heap.size ≤ a.block) → wpList Tryz.prog ops Q rest (a.put op.dst (.slice s' (n + m) c')) W1) : wpList Tryz.prog ops Q (op :: rest) a w :=by
  subst hn
  obtain ⟨s',c',w',h1,h2,h3,h4⟩ :=run_gapp T h h0 zs ab ao m cz hm hm0 hz hb
  exact Lib.wpList_append_run _ hgd s x t t ho _ _ hs hx _ _ (by rw [hty];exact h1) (hk _ _ _ h2 h3 h4)
theorem wp_gapp1 (hgd : op.guard = none) (s x : Operand) (ho : op.op = .call { callee :=.builtin .append,args :=#[s,x],argTypes :=#[t,t] }) (hty : op.type = t) {sa : Option Addr} {c n : Nat} {z : Int} {xs : List Nat}
    (hs : a.eval s = .slice sa n c) (hx : a.eval x = .slice (some ⟨w.heap.size,0,none⟩) 1 1) (h : Sl k w0 w sa c xs) (h0 : w0.heap.size ≤ w.heap.size) (hn : xs.length = n) (hb : n + 1 < 2 ^ 40) (hz : 0 ≤ z)
    (hk : ∀ s' c' W1,Sl k w0 W1 s' c' (xs ++ [z.toNat]) → Chg w W1 (inS sa) → (s' = sa ∨ ∀ a,s' = some a → w.heap.size ≤ a.block) → wpList Tryz.prog ops Q rest (a.put op.dst (.slice s' (n + 1) c')) W1) : wpList Tryz.prog ops Q (op :: rest) a (w.alloc (.cells #[.int k z] e)) :=by
  have ka : Kept w (w.alloc (.cells #[.int k z] e)) :=Chg.alloc _ _ _
  refine wp_gapp T (w0 :=w0) hgd s x ho hty [z.toNat] hs hx (h.kept ka) (Nat.le_trans h0 ka.size) hn rfl (by decide) hb (fun j y hj => ?_) fun s' c' W1 h1 h2 h3 => hk s' c' W1 h1 ((ka.any _).trans h2 fun _ _ _ h => h) ?_
  · match j,hj with
    | 0,hj =>
      obtain rfl :=Option.some.inj hj
      rw [World.cell?_alloc_at _ _ _ _ rfl]
      simp [Int.toNat_of_nonneg hz]
  · rcases h3 with h3 | h3
    · exact .inl h3
    · exact .inr fun a ha => Nat.le_trans ka.size (h3 a ha)
end
end Go.Proofs.YtfmmdamgcpiciaaGreatDoor
namespace Go.Proofs.YtfmmdamgcpiciaaGreatDoor
open Go Go.RowKit
abbrev B32 : Nat :=4294967296
def halves : List Nat → List Nat
  | [] => []
  | w :: l => (w % B32) :: (w / B32) :: halves l
theorem halves_snoc : ∀ (l : List Nat) (w : Nat),halves (l ++ [w]) = halves l ++ [w % B32,w / B32]
  | [],_ => rfl
  | x :: l,w => by simp [halves,halves_snoc l w]
theorem halves_length : ∀ l : List Nat,(halves l).length = 2 * l.length
  | [] => rfl
  | x :: l => by simp [halves,halves_length l];omega
theorem halves_lt : ∀ {l : List Nat},Lt W64 l → Lt B32 (halves l)
  | [],_ => Lt.nil
  | x :: l,h => by
    intro y hy
    have hx : x < W64 :=h x (List.mem_cons_self ..)
    simp only [halves,List.mem_cons] at hy
    rcases hy with rfl | rfl | hy
    · exact Nat.mod_lt _ (by decide)
    · unfold W64 at hx;unfold B32;omega
    · exact halves_lt (fun z hz => h z (List.mem_cons_of_mem _ hz)) y hy
theorem halves_val : ∀ l : List Nat,val B32 (halves l) = val W64 l
  | [] => rfl
  | x :: l => by
    simp only [halves,val,halves_val l]
    have h2 : B32 * (B32 * val W64 l) = W64 * val W64 l :=by rw [← Nat.mul_assoc,show B32 * B32 = W64 from rfl]
    rw [Nat.mul_add,h2]
    have :=Nat.mod_add_div x B32
    omega
theorem div_limb {B D r x V R T : Nat} (hR : V * D + r = R) (n : Nat) (hn : n = r * B + x) (hT : T = n / D + B * V) : T * D + n % D = x + B * R :=by
  have h1 :=Nat.mod_add_div n D
  rw [hT,← hR,Nat.add_mul,Nat.mul_add,Nat.mul_assoc B V D,Nat.mul_comm (n / D) D,Nat.mul_comm B r]
  omega
theorem div_digit {r x : Nat} (hr : r < 1000000000) (hx : x < B32) : (r * B32 + x) / 1000000000 < B32 ∧ r * B32 + x < W64 :=by
  unfold B32 at *
  unfold W64
  omega
theorem or_low {r x : Nat} (hx : x < B32) : (r * B32) ||| x = r * B32 + x :=by
  have : r * B32 = B32 * r :=Nat.mul_comm _ _
  rw [this]
  exact (Nat.two_pow_add_eq_or_of_lt (i :=32) hx r).symm
def Emit (more : Bool) (r k : Nat) (es : List Nat) : Prop :=(more = true → es = pad k r) ∧ (more = false → es ++ dl (r / 10 ^ k) = dl r)
theorem Emit.start (more : Bool) (r : Nat) : Emit more r 0 [] :=⟨fun _ => rfl,fun _ => by simp⟩
theorem Emit.step {more : Bool} {r k : Nat} {es : List Nat} (h : Emit more r k es) (hn : more = true ∨ r / 10 ^ k ≠ 0) : Emit more r (k + 1) (es ++ [r / 10 ^ k % 10]) :=by
  refine ⟨fun hm => ?_,fun hm => ?_⟩
  · rw [h.1 hm,pad_add];rfl
  · rw [← h.2 hm,dl_pos (hn.resolve_left (by simp [hm])),Nat.div_div_eq_div_mul,Nat.pow_succ]
    simp
theorem Emit.done {more : Bool} {r k V : Nat} {es : List Nat} (h : Emit more r k es) (hr : r < 1000000000) (hk : k ≤ 9) (hx : k = 9 ∨ (more = false ∧ r / 10 ^ k = 0)) (hV : more = decide (V ≠ 0)) : dl (r + 1000000000 * V) = es ++ dl V :=by
  cases more with
  | true =>
    have hk9 : k = 9 :=hx.resolve_right (by simp)
    subst hk9
    have hv : V ≠ 0 :=of_decide_eq_true hV.symm
    rw [h.1 rfl]
    exact dl_split 9 r V (by omega) (by omega)
  | false =>
    have hv : V = 0 :=by simpa using of_decide_eq_false hV.symm
    subst hv
    have h0 : r / 10 ^ k = 0 :=by
      rcases hx with rfl | ⟨_,h⟩
      · exact Nat.div_eq_of_lt (by omega)
      · exact h
    have h2 :=h.2 rfl
    rw [h0,dl_zero,List.append_nil] at h2
    rw [dl_zero,List.append_nil,Nat.mul_zero,Nat.add_zero,h2]
theorem Emit.pos {more : Bool} {r k : Nat} {es : List Nat} (h : Emit more r k es) (hx : k = 9 ∨ (more = false ∧ r / 10 ^ k = 0)) (hn : more = true ∨ r ≠ 0) : es ≠ [] :=by
  intro e
  subst e
  cases more with
  | true =>
    have :=h.1 rfl
    have hk9 : k = 9 :=hx.resolve_right (by simp)
    subst hk9
    simp [pad] at this
  | false =>
    have h2 :=h.2 rfl
    rw [List.nil_append,dl_pos (hn.resolve_left (by simp))] at h2
    rcases hx with rfl | ⟨_,h3⟩
    · by_cases h9 : r / 10 ^ 9 = 0
      · rw [h9,dl_zero] at h2;cases h2
      · have h5 :=congrArg List.length h2
        rw [← dl_pos (hn.resolve_left (by simp))] at h5
        have h6 : (dl (r / 10 ^ 9)).length < (dl r).length :=by
          have :=dl_split 9 (r % 10 ^ 9) (r / 10 ^ 9) (Nat.mod_lt _ (by decide)) (Nat.pos_of_ne_zero h9)
          rw [Nat.mod_add_div] at this
          rw [this,List.length_append,pad_length]
          omega
        omega
    · rw [h3,dl_zero] at h2;cases h2
def Turned (L zs : List Nat) (i : Nat) : Prop :=zs.length = L.length ∧ ∀ j,j < L.length → zs[j]? = if j < i ∨ L.length ≤ j + i then L[L.length - 1 - j]? else L[j]?
theorem Turned.start (L : List Nat) : Turned L L 0 :=⟨rfl,fun j hj => by rw [if_neg (by omega)]⟩
theorem Turned.step {L zs : List Nat} {i k x y : Nat} (h : Turned L zs i) (hk : k + 1 + i = L.length) (hlt : i < k) (hx : zs[k]? = some x) (hy : zs[i]? = some y) : Turned L ((zs.set i x).set k y) (i + 1) :=by
  obtain ⟨hl,h⟩ :=h
  refine ⟨by simp [hl],fun j hj => ?_⟩
  have h1 : L[k]? = some x :=by rw [← hx,h k (by omega),if_neg (by omega)]
  have h2 : L[i]? = some y :=by rw [← hy,h i (by omega),if_neg (by omega)]
  by_cases e : j = k
  · subst e
    rw [List.getElem?_set_self (by simp;omega),if_pos (.inr (by omega)),show L.length - 1 - j = i by omega,h2]
  · rw [List.getElem?_set_ne (Ne.symm e)]
    by_cases e2 : j = i
    · subst e2
      rw [List.getElem?_set_self (by omega),if_pos (.inl (by omega)),show L.length - 1 - j = k by omega,h1]
    · rw [List.getElem?_set_ne (Ne.symm e2),h j hj]
      by_cases h3 : j < i ∨ L.length ≤ j + i
      · rw [if_pos h3,if_pos (by omega)]
      · rw [if_neg h3,if_neg (by omega)]
theorem Turned.done {L zs : List Nat} {i : Nat} (h : Turned L zs i) (hi : L.length ≤ 2 * i + 1) : zs = L.reverse :=by
  obtain ⟨hl,h⟩ :=h
  refine List.ext_getElem? fun j => ?_
  by_cases hj : j < L.length
  · rw [List.getElem?_reverse hj,h j hj]
    split
    · rfl
    · rw [show L.length - 1 - j = j by omega]
  · rw [List.getElem?_eq_none (by omega),List.getElem?_eq_none (by simp;omega)]
def str (l : List Nat) : Value :=.string ⟨(l.map UInt8.ofNat).toArray⟩
theorem digT_eq {n : Nat} (h : n ≠ 0) : digT n = ((dl n).map (48 + ·)).reverse :=by unfold digT;rw [if_neg h,List.map_reverse]
end Go.Proofs.YtfmmdamgcpiciaaGreatDoor
namespace Go.Proofs.YtfmmdamgcpiciaaGreatDoor
open Go Go.RowKit
theorem T106 : ElemT 106 69 .u64 8 :=⟨by kernel_rfl,by kernel_rfl,by decide⟩
theorem T76 : ElemT 76 5 .u8 1 :=⟨by kernel_rfl,by kernel_rfl,by decide⟩
theorem int_bits (w : World) (b : Nat) (s : Option Addr) (n c : Nat) (X : Int) (h : IntA w b s n c X) : Calls Tryz.prog 94 #[ptr b] w fun r w' => r = .returned (.slice s n c) ∧ w' = w :=by
  have h1 :=h.abs
  go_enter Tryz.func94,Tryz.ntmps94
  go_wp2
  first | go_ret | refine ⟨_,results_tmp rfl _ _ _,?_⟩
  exact ⟨rfl,rfl⟩
theorem nz_val {xs : List Nat} (h : Nz xs) (hne : xs ≠ []) : val W64 xs ≠ 0 :=by
  obtain ⟨n,hl⟩ : ∃ n,xs.length = n + 1 :=⟨xs.length - 1,by have :=List.length_pos_iff.2 hne;omega⟩
  have :=Nz.le (B :=W64) h hl
  have h2 : 0 < W64 ^ n :=Nat.pow_pos (by decide)
  omega
theorem mid_get {xs ts : List Nat} {i x : Nat} (h : xs[i]? = some x) : (xs.take (i + 1) ++ ts)[i]? = some x :=by
  obtain ⟨hl,rfl⟩ :=List.getElem?_eq_some_iff.1 h
  rw [List.getElem?_append_left (by rw [List.length_take];omega),List.getElem?_take,if_pos (by omega),h]
theorem mid_set {xs ts : List Nat} {i : Nat} (q : Nat) (h : i < xs.length) : (xs.take (i + 1) ++ ts).set i q = xs.take i ++ (q :: ts) :=by
  rw [List.take_succ_eq_append_getElem h,List.append_assoc,List.set_append_right _ _ (by rw [List.length_take];exact Nat.min_le_left _ _)]
  rw [List.length_take,Nat.min_eq_left (Nat.le_of_lt h),Nat.sub_self]
  rfl
theorem wrap_quo (n : Nat) (h : n < W64) : IntKind.u64.wrap ((n : Int) / 1000000000) = ((n / 1000000000 : Nat) : Int) :=by
  unfold W64 at h
  have : ((n : Int) / 1000000000) = ((n / 1000000000 : Nat) : Int) :=rfl
  rw [this]
  exact wrap_u64_in _ (by omega) (by omega)
theorem nz_val32 {xs : List Nat} (h : Nz xs) (hne : xs ≠ []) : val B32 xs ≠ 0 :=by
  obtain ⟨n,hl⟩ : ∃ n,xs.length = n + 1 :=⟨xs.length - 1,by have :=List.length_pos_iff.2 hne;omega⟩
  have :=Nz.le (B :=B32) h hl
  have h2 : 0 < B32 ^ n :=Nat.pow_pos (by decide)
  omega
theorem bytes_str (w : World) (g n c : Nat) (L : List Nat) (hl : L.length = n) (hB : ∀ x ∈ L,x < 256) (hb : ∀ (j x : Nat),L[j]? = some x → w.cell? ⟨g,0 + j,none⟩ = some (.int .u8 (x : Int))) :
    (convert 76 9 (.slice (some ⟨g,0,none⟩) n c)).run Tryz.prog w = .ok (str L) w :=by
  have h :=run_convert_bytes_back (P :=Tryz.prog) w 76 9 5 ⟨g,0,none⟩ c (L.map UInt8.ofNat) (by kernel_rfl) (by kernel_rfl) (by kernel_rfl) (fun j hj => by
    have hj' : j < L.length :=by simpa using hj
    rw [Addr.add_lit,hb j L[j] (List.getElem?_eq_getElem hj')]
    have :=hB _ (List.getElem_mem hj')
    simp only [List.getElem_map]
    rw [UInt8.toNat_ofNat_of_lt' (by simpa using this)])
  rw [List.length_map,hl] at h
  exact h
theorem txt_lt (X : Int) : ∀ c ∈ txt X,c < 256 :=by
  unfold txt
  split
  · intro c hc
    rcases List.mem_cons.1 hc with rfl | hc
    · decide
    · have :=digT_range _ c hc;omega
  · intro c hc
    have :=digT_range _ c hc;omega
theorem cells2 (w : World) (k : IntKind) (x y e : Nat) : ∀ (j z : Nat),[x,y][j]? = some z → (w.alloc (.cells #[.int k (x : Int),.int k (y : Int)] e)).cell? ⟨w.heap.size,0 + j,none⟩ = some (.int k (z : Int)) :=by
  intro j z hj
  rw [World.cell?_alloc_at _ _ _ _ rfl]
  match j,hj with
  | 0,hj => obtain rfl :=Option.some.inj hj;rfl
  | 1,hj => obtain rfl :=Option.some.inj hj;rfl
structure Dg (w wr : World) (N : Nat) (s3 : Option Addr) (c3 : Nat) (xs : List Nat) (s6 : Option Addr) (c6 : Nat) (ys : List Nat) : Prop where
  l : Sl .u64 w wr s3 c3 xs
  b : Sl .u8 w wr s6 c6 (ys.map (48 + ·))
  ne : ∀ a a',s3 = some a → s6 = some a' → a.block ≠ a'.block
  lt : Lt B32 xs
  nz : xs ≠ [] → val B32 xs ≠ 0
  eq : dl N = ys ++ dl (val B32 xs)
  k : Kept w wr
theorem digits (w : World) (b : Nat) (X : Int) (hX : IntAt w b X) (hn : X.natAbs < 10 ^ 1000) : Calls Tryz.prog 57 #[ptr b] w fun r w' => r = .returned (str (txt X)) ∧ Kept w w' :=by
  obtain ⟨s,n,c,hX⟩ :=hX
  have HN :=Lib.hid hn
  have hb :=int_bits w b s n c X hX
  have hsg :=int_sign w b X ⟨s,n,c,hX⟩
  obtain ⟨ws,hl,hnc,hcB,hnB,hok,hw,hlt,hnz,hv⟩ :=hX.nat
  have hn2 : n ≤ 52 :=hX.nat.len_lt (Nat.lt_of_lt_of_le hn (by decide))
  have hX0 :=Lib.hid hX
  clear hX hn
  go_enter Tryz.func57,Tryz.ntmps57
  go_wp2_with (go_at_call 94;refine hb.mono ?_;rintro r w1 ⟨rfl,rfl⟩)
  go_loopw [3,15] (fun t3 t15 wr => ∃ (k : Nat) (s3 : Option Addr) (c3 : Nat),k ≤ n ∧ t15 = .int .i64 k ∧ t3 = .slice s3 (2 * k) c3 ∧ Sl .u64 w1 wr s3 c3 (halves (ws.take k)) ∧ Kept w1 wr) (fun _ t15 _ => n - (intOf t15).toNat)
  case atStart => exact ⟨0,none,0,Nat.zero_le _,rfl,rfl,Sl.start,Chg.refl _ _⟩
  case round =>
    obtain ⟨k,s3,c3,hk,rfl,rfl,hS,hK⟩ :=hrel
    rcases Nat.lt_or_ge k n with hkn | hkn
    · have hs : ∃ bw ow,s = some ⟨bw,ow,none⟩ ∧ Row .u64 w1 bw ow ws :=by
        rcases hw with rfl | h
        · simp at hl;omega
        · exact h
      obtain ⟨bw,ow,rfl,hrow⟩ :=hs
      have gx : ws[k]? = some ws[k] :=List.getElem?_eq_getElem (by omega)
      have hx1 : ws[k] < W64 :=hlt _ (List.getElem_mem _)
      have htk : halves (ws.take (k + 1)) = halves (ws.take k) ++ [ws[k] % B32,ws[k] / B32] :=by rw [List.take_succ_eq_append_getElem (by omega),halves_snoc]
      generalize ws[k] = x at gx hx1 htk
      have cx :=(hrow.keep hK) k x gx
      have hkc : k < c :=by omega
      have m1 :=Lib.hid (mask32 x hx1)
      have m2 : Hid (((x : Int) / 4294967296) = ((x / B32 : Nat) : Int)) :=Lib.hid rfl
      have hsl :=hK.size
      have hlh : (halves (ws.take k)).length = 2 * k :=by rw [halves_length,List.length_take,Nat.min_eq_left (by omega)]
      go_wp2_with (at_builtin;rw [m1.out,m2.out];refine wp_gapp T106 (w0 :=w1) rfl (.tmp 19) (.tmp 24) rfl rfl [x % B32,x / B32] rfl rfl (hS.kept (Chg.alloc _ _ _)) (Nat.le_trans hsl (Chg.alloc _ _ None2).size) hlh rfl (by decide) (by omega) (cells2 _ _ _ _ _) ?_;intro s4 c4 w4 hS4 hC4 hD4)
      go_roundw
      case rel =>
        refine ⟨k + 1,s4,c4,hkn,by go_num,rfl,by rw [htk];exact hS4,(kt hK (Chg.alloc _ _ _)).trans hC4 fun b o hb h => ?_⟩
        obtain ⟨a,ha,rfl⟩ :=h
        have :=(hS.lt ha).1
        omega
      case measure => simp [intOf];omega
    · obtain rfl : k = n :=Nat.le_antisymm hk hkn
      have hS0 : Sl .u64 w1 wr s3 c3 (halves ws) :=by rw [List.take_of_length_le (by omega)] at hS;exact hS
      have hD : Dg w1 wr X.natAbs s3 c3 (halves ws) none 0 [] :=by
        refine ⟨hS0,Sl.start,(fun _ _ _ h => by cases h),halves_lt hlt,(fun h e => ?_),by rw [halves_val,hv];rfl,hK⟩
        rw [halves_val] at e
        exact nz_val hnz (fun h2 => h (by rw [h2];rfl)) e
      have hlh : (halves ws).length = 2 * k :=by rw [halves_length,hl]
      obtain ⟨xs,hxs⟩ : ∃ xs,halves ws = xs :=⟨_,rfl⟩
      rw [hxs] at hD hlh
      have HW :=Lib.hid (And.intro hX0 (And.intro hv hl))
      clear hS hS0 hxs hK hw hlt hnz hv hok hcB hnc hnB hb
      go_wp2_with fail
      go_loopw [3,6] (fun t3 t6 wx => ∃ (s3 : Option Addr) (c3 n3 : Nat) (xs : List Nat) (s6 : Option Addr) (c6 n6 : Nat) (ys : List Nat),xs.length = n3 ∧ n3 ≤ 104 ∧ ys.length = n6 ∧ n6 ≤ 1000 ∧ t3 = .slice s3 n3 c3 ∧ t6 = .slice s6 n6 c6 ∧ Dg w1 wx X.natAbs s3 c3 xs s6 c6 ys) (fun _ t6 _ => 1000 - lenOf t6)
      case atStart => exact ⟨s3,c3,_,xs,none,0,0,[],hlh,by omega,rfl,Nat.zero_le _,rfl,rfl,hD⟩
      case round =>
        clear hD hlh
        obtain ⟨s3,c3,n3,xs,s6,c6,n6,ys,hn3,hb3,hn6,hb6,rfl,rfl,hD⟩ :=hrel
        rcases Nat.eq_zero_or_pos n3 with rfl | hp
        · have hxs : xs = [] :=List.eq_nil_of_length_eq_zero hn3
          subst hxs
          have hdl : dl X.natAbs = ys :=by have :=hD.eq;simpa [val,dl_zero] using this
          have hS :=hD.b
          have hK :=hD.k
          clear hD
          rcases Nat.eq_zero_or_pos n6 with rfl | hp6
          · have hy : ys = [] :=List.eq_nil_of_length_eq_zero hn6
            have hX0' : X = 0 :=by
              rcases Nat.eq_zero_or_pos X.natAbs with h | h
              · omega
              · rw [dl_pos (by omega)] at hdl;rw [hy] at hdl;cases hdl
            go_wp2_with fail
            first | go_ret | refine ⟨_,results_tmp rfl _ _ _,?_⟩
            exact ⟨by subst hX0';rfl,hK⟩
          · have hn60 : ((n6 : Int) == 0) = false :=by simp;omega
            have hXn : X ≠ 0 :=fun h => by subst h;simp [dl_zero] at hdl;rw [hdl] at hn6;simp at hn6;omega
            have hIA :=hX0.out
            have hsg2 :=int_sign wr b X ⟨s,k,c,hIA.kept hK⟩
            obtain ⟨sg,hsg⟩ : ∃ z,Int.sign X = z :=⟨_,rfl⟩
            rw [hsg] at hsg2
            obtain ⟨L,hL⟩ : ∃ L,ys.map (48 + ·) ++ (if X < 0 then [45] else []) = L :=⟨_,rfl⟩
            have hL2 : txt X = L.reverse :=by
              rw [← hL,← hdl]
              unfold txt
              rw [digT_eq (by omega)]
              split <;> simp
            have HL :=Lib.hid hL2
            have hLl : L.length = n6 + (if X < 0 then 1 else 0) :=by
              rw [← hL]
              split <;> simp [hn6]
            clear hL2 hdl HW
            go_upto_if 95 with (go_at_call 95;refine hsg2.mono ?_;rintro r w2 ⟨rfl,rfl⟩)
            go_cut [6] from 96 to 98 (fun t6 wx => ∃ s6' c6',t6 = .slice s6' L.length c6' ∧ Sl .u8 w1 wx s6' c6' L ∧ Kept w1 wx)
            case first =>
              rcases Int.lt_or_le X 0 with hX0 | hX0
              · rw [Int.sign_eq_neg_one_of_neg hX0] at hsg
                subst hsg
                rw [if_pos hX0] at hL hLl
                have hlen : (ys.map (48 + ·)).length = n6 :=by simp [hn6]
                go_wp2_with (at_builtin;refine wp_gapp1 T76 (w0 :=w1) rfl (.tmp 96) (.tmp 97) rfl rfl rfl rfl hS hK.size hlen (by omega) (by decide) ?_;intro s4 c4 w4 hS4 hC4 hD4)
                go_meet
                rw [hLl]
                refine ⟨s4,c4,rfl,by rw [← hL];exact hS4,hK.trans hC4 fun b o hb h => ?_⟩
                obtain ⟨a,ha,rfl⟩ :=h
                have :=(hS.lt ha).1
                omega
              · rw [Int.sign_eq_one_of_pos (by omega)] at hsg
                subst hsg
                rw [if_neg (by omega)] at hL hLl
                go_wp2_with fail
                go_meet
                rw [hLl,Nat.add_zero]
                exact ⟨s6,c6,rfl,by rw [← hL,List.append_nil];exact hS,hK⟩
            case rest =>
              obtain ⟨s6',c6',rfl,hS',hK'⟩ :=hcut
              have hLp : 0 < L.length :=by omega
              have hs6 : ∃ g,s6' = some ⟨g,0,none⟩ ∧ w1.heap.size ≤ g ∧ OutK .u8 wc g 0 c6' L :=by
                cases s6' with
                | none => have :=(hS'.nil rfl).1;subst this;simp at hLp
                | some a => obtain ⟨g,rfl,h0,_,h⟩ :=hS'.own a rfl;exact ⟨g,rfl,h0,h⟩
              obtain ⟨g,rfl,hg,hO⟩ :=hs6
              have hLB : L.length ≤ 1001 :=by rw [hLl];split <;> omega
              clear hL hLl hS hK hS' hsg hsg2 hIA
              obtain ⟨N,hN⟩ : ∃ N,L.length = N :=⟨_,rfl⟩
              rw [hN] at hLp hLB ⊢
              go_wp2_with fail
              go_loopw [10,11] (fun t10 t11 wx => ∃ (i : Nat) (zs : List Nat),2 * i ≤ N ∧ t10 = .int .i64 i ∧ t11 = .int .i64 ((N : Int) - 1 - i) ∧ Turned L zs i ∧ OutK .u8 wx g 0 c6' zs ∧ Kept w1 wx) (fun t10 _ _ => N - (intOf t10).toNat)
              case atStart => exact ⟨0,L,by omega,rfl,by first | rfl | (congr 1;omega),Turned.start L,hO,hK'⟩
              case round =>
                clear hO hK'
                obtain ⟨i,zs,hi,rfl,rfl,hT,hO,hK⟩ :=hrel
                have hzl : zs.length = N :=hT.1.trans hN
                have hcN :=hO.le
                by_cases hlt : 2 * i + 1 < N
                · obtain ⟨k,hk⟩ : ∃ k,k + 1 + i = N :=⟨N - 1 - i,by omega⟩
                  have e1 : ((N : Int) - 1 - i) = (k : Int) :=by omega
                  have gx : zs[k]? = some zs[k] :=List.getElem?_eq_getElem (by omega)
                  have gy : zs[i]? = some zs[i] :=List.getElem?_eq_getElem (by omega)
                  generalize zs[k] = x at gx
                  generalize zs[i] = y at gy
                  have cx :=hO.row k x gx
                  have cy :=hO.row i y gy
                  have fi :=(hO.room i (by omega)).2
                  have fk :=(hO.room k (by omega)).2
                  have hik : i < k :=by omega
                  have hkN : k < N :=by omega
                  have hO3 :=(hO.set x (i :=i) (by omega)).set y (i :=k) (by simp;omega)
                  have hT3 :=hT.step (by rw [hN];exact hk) hik gx gy
                  have HH :=Lib.hid (And.intro hO3 hT3)
                  simp only [Nat.zero_add] at cx cy fi fk
                  have cy2 :=cs_ne (u :=.int .u8 (x : Int)) cx (b' :=g) (o' :=i) (by omega)
                  rw [e1]
                  clear hO hT hO3 hT3
                  go_wp2_with (first
                    | (refine wp_region_lit_segs (id :=30) [[0,1,2,3,4,5,6,7,8,9,10,11,12,13,14,15]] mixed (by kernel_rfl) ?_;simp only [wpSegsL,gaC,gaN,lZ0,lS0,coS])
                    | refine ⟨by kernel_rfl,?_⟩)
                  go_roundw
                  case rel =>
                    obtain ⟨hO3,hT3⟩ :=HH.out
                    simp only [Nat.zero_add] at hO3
                    refine ⟨i + 1,(zs.set i x).set k y,by omega,by go_num,by first | rfl | (congr 1;omega),hT3,?_,?_⟩
                    · first | exact hO3 | exact hO3.kept (Chg.refl _ _).drew
                    · refine Chg.keptNew (M :=fun p _ => p = g) hK ?_ fun p _ h => by omega
                      exact ((Chg.refl _ _).drew.trans (Chg.setCell _ g i _ (fun p _ => p = g) fun _ => rfl) fun _ _ _ h => h).trans (Chg.setCell _ g k _ (fun p _ => p = g) fun _ => rfl) fun _ _ _ h => h
                  case measure => simp [intOf];omega
                · have hij : ¬ ((i : Int) < (N : Int) - 1 - i) :=by omega
                  have hz :=hT.done (by omega)
                  have hrow :=hO.row
                  rw [hz] at hrow
                  have hstr :=bytes_str wr g N c6' L.reverse (by simp [hN]) (by rw [← HL.out];exact txt_lt X) hrow
                  go_wp2_with fail
                  first | go_ret | refine ⟨_,results_tmp rfl _ _ _,?_⟩
                  exact ⟨by rw [HL.out];rfl,hK⟩
        · have hs3 : ∃ g,s3 = some ⟨g,0,none⟩ ∧ w1.heap.size ≤ g ∧ g < wr.heap.size ∧ OutK .u64 wr g 0 c3 xs :=by
            cases s3 with
            | none => have :=(hD.l.nil rfl).1;subst this;simp at hn3;omega
            | some a => obtain ⟨g,rfl,h⟩ :=hD.l.own a rfl;exact ⟨g,rfl,h⟩
          obtain ⟨g,rfl,hg0,hg1,hO⟩ :=hs3
          have HD :=Lib.hid hD
          clear hD
          go_wp2_with fail
          go_loopw [7,8] (fun t7 t8 wx => ∃ (j r : Nat) (ts : List Nat),j ≤ n3 ∧ t8 = .int .i64 ((j : Int) - 1) ∧ t7 = .int .u64 r ∧ r < 1000000000 ∧ ts.length = n3 - j ∧ Lt B32 ts ∧ val B32 ts * 1000000000 + r = val B32 (xs.drop j) ∧ OutK .u64 wx g 0 c3 (xs.take j ++ ts) ∧ Chg wr wx (fun p _ => p = g)) (fun _ t8 _ => (intOf t8 + 1).toNat)
          case atStart => exact ⟨n3,0,[],Nat.le_refl _,by first | rfl | (congr 1;omega),rfl,by decide,by simp,Lt.nil,by rw [List.drop_of_length_le (by omega)];rfl,by rw [List.take_of_length_le (by omega),List.append_nil];exact hO,Chg.refl _ _⟩
          case round =>
            obtain ⟨j,r,ts,hj,rfl,rfl,hr,hts,htl,hval,hO2,hC⟩ :=hrel
            rcases Nat.eq_zero_or_pos j with rfl | hjp
            · rw [show (((0 : Nat) : Int) - 1) = -1 from rfl]
              have hD :=HD.out
              have hD6 : Sl .u8 w1 wr s6 c6 (ys.map (48 + ·)) :=hD.b.chg hC fun a ha o e => hD.ne _ a rfl ha e.symm
              have hK : Kept w1 wr :=hD.k.trans hC fun b _ hb h => by subst h;omega
              rw [List.take_zero,List.nil_append] at hO2
              rw [List.drop_zero] at hval
              have HE :=Lib.hid (And.intro hD.eq (And.intro (hD.nz (fun h => by subst h;simp at hn3;omega)) hval))
              have hne :=hD.ne
              have hg2 : g < wr.heap.size :=Nat.lt_of_lt_of_le hg1 hC.size
              have hc3 :=hD.l.cap
              have hK2 :=Lib.hid (And.intro hK (And.intro hD6 (And.intro hne hc3)))
              clear hD HD hC hO hval hK hD6 hne hg1 hc3 hj
              go_upto_block 6 with fail
              go_cut [3] from 51 to 67 (fun t3 wx => wr = wx ∧ ∃ m : Nat,m ≤ n3 ∧ t3 = .slice (some ⟨g,0,none⟩) m c3 ∧ trimZ ts = ts.take m)
              case first =>
               go_wp2_with fail
               go_loop [3] (fun t3 => ∃ m : Nat,m ≤ n3 ∧ t3 = .slice (some ⟨g,0,none⟩) m c3 ∧ trimZ (ts.take m) = trimZ ts) (fun t3 => lenOf t3)
               case atStart => exact ⟨n3,Nat.le_refl _,rfl,by rw [List.take_of_length_le (by omega)]⟩
               case round =>
                 obtain ⟨m,hm,rfl,htr⟩ :=hrel
                 rcases Nat.eq_zero_or_pos m with rfl | hmp
                 · go_wp2_with fail
                   go_meet
                   exact ⟨rfl,0,Nat.zero_le _,rfl,htr.symm⟩
                 · obtain ⟨i,rfl⟩ : ∃ i,m = i + 1 :=⟨m - 1,by omega⟩
                   have gx : ts[i]? = some ts[i] :=List.getElem?_eq_getElem (by omega)
                   have htk : ts.take (i + 1) = ts.take i ++ [ts[i]] :=List.take_succ_eq_append_getElem (by omega)
                   generalize ts[i] = x at gx htk
                   have cx :=hO2.row i x gx
                   rw [htk,trimZ_snoc] at htr
                   simp only [Nat.zero_add] at cx
                   have hic : i + 1 ≤ c3 :=by have :=hO2.le;omega
                   rcases Nat.eq_zero_or_pos x with rfl | hxp
                   · rw [if_pos rfl] at htr
                     go_wp2_with fail
                     go_round
                     case rel => exact ⟨i,by omega,by go_num,htr⟩
                     case measure => simp [lenOf]
                   · rw [if_neg (by omega)] at htr
                     have hx0 : ((x : Int) == 0) = false :=by simp;omega
                     go_wp2_with fail
                     go_meet
                     exact ⟨rfl,i + 1,hm,rfl,by rw [htk];exact htr.symm⟩
              case rest =>
               obtain ⟨rfl,m,hm,rfl,htr⟩ :=hcut
               obtain ⟨hE1,hE2,hE3⟩ :=HE.out
               have hzm :=(trimZ_spec B32 ts).1
               rw [htr] at hzm
               have hnzm :=Nz.trimZ ts
               rw [htr] at hnzm
               have hm2 : m ≤ ts.length :=by omega
               have hlm : (ts.take m).length = m :=by rw [List.length_take,Nat.min_eq_left hm2]
               obtain ⟨V,hV⟩ : ∃ V,val B32 (ts.take m) = V :=⟨_,rfl⟩
               rw [hV] at hzm
               have hmV : (m = 0 ∧ V = 0) ∨ (0 < m ∧ V ≠ 0) :=by
                 rcases Nat.eq_zero_or_pos m with rfl | h
                 · exact .inl ⟨rfl,by rw [← hV];rfl⟩
                 · refine .inr ⟨h,?_⟩
                   rw [← hV]
                   exact nz_val32 hnzm (fun e => by rw [e] at hlm;simp at hlm;omega)
               have hOm :=hO2.take (n :=m)
               have hlt2 :=htl.take m
               have HV :=Lib.hid (And.intro hV (And.intro hlt2 (And.intro hE1 (And.intro hE2 (And.intro hE3 hzm)))))
               obtain ⟨hK,hD6,hne,hc3⟩ :=hK2.out
               clear hV hlt2 hE1 hE2 hE3 hzm hK2 HE htl hnzm hO2 htr hts
               obtain ⟨more,hmo⟩ : ∃ b,decide (V ≠ 0) = b :=⟨_,rfl⟩
               go_upto_block 8 with fail
               go_wp2_with fail
               go_loopw [6,7,9] (fun t6 t7 t9 wx => ∃ (k : Nat) (es : List Nat) (s6' : Option Addr) (c6' : Nat),k ≤ 9 ∧ t9 = .int .i64 k ∧ t7 = .int .u64 ((r / 10 ^ k : Nat) : Int) ∧ Emit more r k es ∧ es.length = k ∧ t6 = .slice s6' (n6 + k) c6' ∧
                Sl .u8 w1 wx s6' c6' ((ys ++ es).map (48 + ·)) ∧ OutK .u64 wx g 0 c3 (ts.take m) ∧ Kept w1 wx ∧ (∀ a,s6' = some a → a.block ≠ g) ∧ g < wx.heap.size) (fun _ _ t9 _ => 9 - (intOf t9).toNat)
               case atStart => exact ⟨0,[],s6,c6,by decide,rfl,by simp,Emit.start _ _,rfl,rfl,by rw [List.append_nil];exact hD6,hOm,hK,fun a ha e => hne _ a rfl ha e.symm,hg2⟩
               case round =>
                 clear hD6 hOm hK hne hg2
                 obtain ⟨k,es,s6',c6',hk,rfl,rfl,hEm,hes,rfl,hS,hO,hK,hne,hg2⟩ :=hrel
                 obtain ⟨d,hd⟩ : ∃ d,r / 10 ^ k = d :=⟨_,rfl⟩
                 rw [hd]
                 have hdr : d < 1000000000 :=by rw [← hd];exact Nat.lt_of_le_of_lt (Nat.div_le_self _ _) hr
                 have Hd :=Lib.hid hd
                 have HM :=Lib.hid hEm
                 clear hd hEm
                 by_cases hst : k < 9 ∧ (0 < m ∨ d ≠ 0)
                 · obtain ⟨hk9,hst⟩ :=hst
                   have hsl :=hK.size
                   have hlen : ((ys ++ es).map (48 + ·)).length = n6 + k :=by simp [hn6,hes]
                   have HS :=hS
                   rcases Nat.eq_zero_or_pos d with rfl | hdp
                   · have hmp : (m : Int) > 0 :=by omega
                     go_wp2_with (at_builtin;refine wp_gapp1 T76 (w0 :=w1) rfl (.tmp 81) (.tmp 86) rfl rfl rfl rfl HS hsl hlen (by omega) (by decide) ?_;intro s4 c4 w4 hS4 hC4 hD4)
                     go_roundw
                     case rel =>
                       have hE :=HM.out.step (by rw [← hmo];exact .inl (decide_eq_true (by omega)))
                       rw [Hd.out] at hE
                       refine ⟨k + 1,es ++ [0 % 10],s4,c4,hk9,by go_num,?_,hE,by simp [hes],rfl,?_,?_,?_,?_,Nat.lt_of_lt_of_le hg2 hC4.size⟩
                       · rw [Nat.pow_succ,← Nat.div_div_eq_div_mul,Hd.out];rfl
                       · simpa using hS4
                       · exact hO.chg hC4 fun o h => by obtain ⟨a,ha,hb⟩ :=h;exact hne a ha hb
                       · exact hK.trans hC4 fun b o hb h => by obtain ⟨a,ha,rfl⟩ :=h;have :=(HS.lt ha).1;omega
                       · rcases hD4 with rfl | h
                         · exact hne
                         · intro a ha e;have :=h a ha;omega
                     case measure => simp [intOf];omega
                   · have hd0 : ((d : Int) != 0) = true :=by simp only [bne_iff_ne,ne_eq];omega
                     have hdz : (0 : Int) ≤ d :=by omega
                     go_wp2_with (at_builtin;refine wp_gapp1 T76 (w0 :=w1) rfl (.tmp 81) (.tmp 86) rfl rfl rfl rfl HS hsl hlen (by omega) (by omega) ?_;intro s4 c4 w4 hS4 hC4 hD4)
                     go_roundw
                     case rel =>
                       have hE :=HM.out.step (by rw [Hd.out];exact .inr (by omega))
                       rw [Hd.out] at hE
                       refine ⟨k + 1,es ++ [d % 10],s4,c4,hk9,by go_num,?_,hE,by simp [hes],rfl,?_,?_,?_,?_,Nat.lt_of_lt_of_le hg2 hC4.size⟩
                       · rw [Nat.pow_succ,← Nat.div_div_eq_div_mul,Hd.out];exact (show ((d / 10 : Nat) : Int) = (d : Int) / 10 from rfl) ▸ rfl
                       · have e : (48 + (d : Int) % 10).toNat = 48 + d % 10 :=by omega
                         simpa [e,List.append_assoc] using hS4
                       · exact hO.chg hC4 fun o h => by obtain ⟨a,ha,hb⟩ :=h;exact hne a ha hb
                       · exact hK.trans hC4 fun b o hb h => by obtain ⟨a,ha,rfl⟩ :=h;have :=(HS.lt ha).1;omega
                       · rcases hD4 with rfl | h
                         · exact hne
                         · intro a ha e;have :=h a ha;omega
                     case measure => simp [intOf];omega
                 · have hx : k = 9 ∨ (more = false ∧ r / 10 ^ k = 0) :=by
                     rw [Hd.out]
                     rcases Nat.lt_or_ge k 9 with h | h
                     · refine .inr ⟨?_,by omega⟩
                       rw [← hmo]
                       exact decide_eq_false (by omega)
                     · exact .inl (by omega)
                   obtain ⟨hV,hlt2,hE1,hE2,hE3,hzm⟩ :=HV.out
                   have hdl : dl X.natAbs = (ys ++ es) ++ dl V :=by
                     rw [hE1,← hE3,← hzm,List.append_assoc,← HM.out.done hr hk hx hmo.symm,Nat.add_comm,Nat.mul_comm V]
                   have hkp : es ≠ [] :=HM.out.pos hx (by
                     rw [← hmo]
                     rcases Nat.eq_zero_or_pos V with h | h
                     · right
                       intro h0
                       apply hE2
                       rw [← hE3,← hzm,h,h0]
                     · left
                       exact decide_eq_true (by omega))
                   have hkp2 : 0 < k :=by rw [← hes];exact List.length_pos_iff.2 hkp
                   have hlen : n6 + k ≤ 1000 :=by
                     have h1 :=dl_length_le 1000 _ HN.out
                     rw [hdl] at h1
                     simp only [List.length_append] at h1
                     omega
                   have hD : Dg w1 wr X.natAbs (some ⟨g,0,none⟩) c3 (ts.take m) s6' c6' (ys ++ es) :=⟨Sl.of hg0 hg2 hO hc3,hS,(fun a a' ha ha' e => hne a' ha' (by obtain rfl :=Option.some.inj ha;exact e.symm)),hlt2,(fun h e => by
                       rw [hV] at e
                       rcases hmV with ⟨h1,_⟩ | ⟨_,h1⟩
                       · subst h1;exact h rfl
                       · exact h1 e),(by rw [hV];exact hdl),hK⟩
                   have HD :=Lib.hid hD
                   clear hD hV hlt2 hE1 hE2 hE3 hzm hdl hkp hS hO hx
                   rcases Nat.lt_or_ge k 9 with hk9 | hk9
                   · have hm0 : m = 0 :=by omega
                     have hd0 : d = 0 :=by omega
                     subst hm0 hd0
                     go_wp2_with fail
                     go_roundw
                     case rel => exact ⟨some ⟨g,0,none⟩,c3,0,ts.take 0,s6',c6',n6 + k,ys ++ es,by simp,by omega,by simp [hn6,hes],hlen,rfl,rfl,HD.out⟩
                     case measure => simp [lenOf];omega
                   · obtain rfl : k = 9 :=by omega
                     go_wp2_with fail
                     go_roundw
                     case rel => exact ⟨some ⟨g,0,none⟩,c3,m,ts.take m,s6',c6',n6 + 9,ys ++ es,hlm,by omega,by simp [hn6,hes],hlen,rfl,rfl,HD.out⟩
                     case measure => simp [lenOf];omega
            · obtain ⟨i,rfl⟩ : ∃ i,j = i + 1 :=⟨j - 1,by omega⟩
              have gx : xs[i]? = some xs[i] :=List.getElem?_eq_getElem (by omega)
              have hxl : xs[i] < B32 :=HD.out.lt _ (List.getElem_mem _)
              have hdr : val B32 (xs.drop i) = xs[i] + B32 * val B32 (xs.drop (i + 1)) :=by rw [List.drop_eq_getElem_cons (by omega)];rfl
              generalize xs[i] = x at gx hxl hdr
              have cx :=hO2.row i x (mid_get gx)
              have e1 : (((i + 1 : Nat) : Int) - 1) = (i : Int) :=by omega
              obtain ⟨n,hn⟩ : ∃ n,r * B32 + x = n :=⟨_,rfl⟩
              obtain ⟨hq,hnw⟩ :=div_digit hr hxl
              rw [hn] at hq hnw
              have hic : i < c3 :=by have :=hO.le;omega
              obtain ⟨⟨cu,hcu⟩,hfu⟩ :=hO2.room i hic
              have hor : bits .or .u64 ((r : Int) * 4294967296) (x : Int) = (n : Int) :=by
                have :=or_u64 (r * B32) x (by unfold B32;omega) (by unfold B32 at hxl;omega)
                rw [or_low hxl,hn] at this
                exact this
              have HH :=Lib.hid (And.intro hval (And.intro hdr (And.intro hq (And.intro hn htl))))
              clear hval hdr hq hn htl
              simp only [Nat.zero_add] at cx hcu hfu
              rw [e1]
              clear e1
              go_wp2_with fail
              go_roundw
              case rel =>
                obtain ⟨hval,hdr,hq,hn,htl⟩ :=HH.out
                refine ⟨i,n % 1000000000,(n / 1000000000) :: ts,by omega,by go_num,rfl,Nat.mod_lt _ (by decide),by simp;omega,fun y hy => ?_,?_,?_,?_⟩
                · rcases List.mem_cons.1 hy with rfl | hy
                  · exact hq
                  · exact htl y hy
                · rw [hdr]
                  exact div_limb hval n hn.symm rfl
                · have :=hO2.set (n / 1000000000) (i :=i) (by simp;omega)
                  rw [mid_set _ (by omega),Nat.zero_add] at this
                  rw [wrap_quo _ hnw]
                  exact this
                · exact hC.trans (Chg.setCell _ g i _ (fun p _ => p = g) fun _ => rfl) fun _ _ _ h => h
              case measure => simp [intOf]
end Go.Proofs.YtfmmdamgcpiciaaGreatDoor
namespace Go.Proofs.YtfmmdamgcpiciaaGreatDoor
open Go Go.RowKit
abbrev pd (s : Value) (e : Int) : Value :=.agg #[s,.int .i64 e]
abbrev Box23 (w : World) (x y : Value) : World :=w.alloc (.cells #[x,y] 23)
theorem slot23 (w : World) (x y : Value) : Slot (Box23 w x y) w.heap.size :=⟨⟨_,by rw [World.cell?_alloc_at _ _ _ _ rfl];rfl⟩,⟨_,by rw [World.cell?_alloc_at _ _ _ _ rfl];rfl⟩,NF.made w _ _⟩
theorem info23 : (Tryz.prog.info? 23).map (fun i => (i.zero,i.size,i.bytes)) = some (some (.agg #[.string { data :=#[] },.int .i64 0]),2,24) :=by kernel_rfl
theorem results_23 {fn : Func} {t r : Nat} {tmps : Array Value} {w : World} {x y : Value} (h : fn.results = #[.cell t 23]) (hp : tmps.getD t undef = ptr r) (h0 : w.cell? ⟨r,0,none⟩ = some x) (h1 : w.cell? ⟨r,1,none⟩ = some y) :
    (results fn tmps).run Tryz.prog w = .ok (.agg #[x,y]) w :=by
  obtain ⟨i0,hi,hz0,hz1,hz2⟩ :=info_parts info23
  have hp' : tmps[t]?.getD undef = ptr r :=by simpa using hp
  simp [results,h,hp',go_sem,hi,hz1,h0,h1]
theorem impl_dec (w : World) (b : Nat) (e X : Int) (hX : IntAt w b X) (hn : X.natAbs < 10 ^ 1000) (h1 : -2147483648 ≤ e) (h2 : e ≤ 2147483647) : Calls Tryz.prog 31 #[dv b e] w fun r w' => r = .returned (pd (str (txt X)) e) ∧ Kept w w' :=by
  have hd :=fun W (k : Kept w W) => digits W b X (hX.kept k) hn
  have HH :=Lib.hid (And.intro hX hn)
  clear hX hn
  obtain ⟨s,hs⟩ : ∃ s,str (txt X) = .string s :=⟨_,rfl⟩
  rw [hs] at hd ⊢
  have k0 : Kept w (Box23 (Box w (ptr b) (.int .i32 e)) (.string { data :=#[] }) (.int .i64 0)) :=kt (boxK _ _ _) (Chg.alloc _ _ _)
  have S0 :=slot23 (Box w (ptr b) (.int .i32 e)) (.string { data :=#[] }) (.int .i64 0)
  have e1 : (Box w (ptr b) (.int .i32 e)).heap.size = w.heap.size + 1 :=boxS _ _ _
  rw [e1] at S0
  go_enter Tryz.func31,Tryz.ntmps31
  go_wp2_with (first
    | (refine wp_region_lit_segs (id :=1) [[0,3,1],[2],[4,5,6,7]] mixed (by kernel_rfl) ?_;simp only [wpSegsL,gaC,gaN,lZ0,lS0,coS])
    | refine ⟨by kernel_rfl,?_⟩
    | (refine ⟨by kernel_rfl,oldD kr,?_⟩)
    | (refine ⟨oldD kr,?_⟩)
    | (go_at_call 58;refine (dec_value _ b e).mono ?_;rintro r w1 ⟨rfl,k⟩;have kr :=k.of_drew;clear k)
    | (go_at_call 57;refine (hd _ (kt k0 kr)).mono ?_;rintro r w2 ⟨rfl,k⟩;replace kr :=kt kr k;clear k)
    | (go_at_call 59;refine (dec_exponent _ b e).mono ?_;rintro r w3 ⟨rfl,k⟩;replace kr :=kt kr k;clear k;have S :=S0.kept kr;obtain ⟨⟨u0,s0⟩,⟨u1,s1⟩,sf⟩ :=id S;have f0 :=sf 0;have f1 :=sf 1;have s2 :=cs_ne (u :=(.string s)) s1 (b' :=w.heap.size + 1) (o' :=0) (by omega)))
  exact ⟨_,results_23 rfl rfl (put2_0 S _ _) (put2_1 S _ _),rfl,(kt k0 kr).keptNew (put2_chg _ _ _ _) fun b' _ h => by omega⟩
end Go.Proofs.YtfmmdamgcpiciaaGreatDoor
namespace Go.Proofs.YtfmmdamgcpiciaaGreatDoor
open Go Go.RowKit
def bs (L : List Nat) : ByteArray :=⟨(L.map UInt8.ofNat).toArray⟩
theorem str_bs (L : List Nat) : str L = .string (bs L) :=rfl
theorem bs_size (L : List Nat) : (bs L).size = L.length :=by simp [bs,ByteArray.size]
theorem bs_get {L : List Nat} {j x : Nat} (hj : L[j]? = some x) (hx : x < 256) (h : j < (bs L).size) : ((bs L)[j]'h).toNat = x :=by
  obtain ⟨hl,rfl⟩ :=List.getElem?_eq_some_iff.1 hj
  show (((L.map UInt8.ofNat).toArray)[j]'(by simpa using hl)).toNat = L[j]
  simp only [List.getElem_toArray,List.getElem_map]
  rw [UInt8.toNat_ofNat_of_lt' (by simpa using hx)]
theorem bs_tail (c : Nat) (L : List Nat) : (bs (c :: L)).extract 1 (L.length + 1) = bs L :=by
  apply ByteArray.ext
  simp [bs,ByteArray.extract,ByteArray.copySlice]
  rw [List.take_of_length_le (by simp)]
theorem tk1 {xs : List Nat} {k x : Nat} (h : xs[k]? = some x) : xs.take (k + 1) = xs.take k ++ [x] :=by
  obtain ⟨hl,rfl⟩ :=List.getElem?_eq_some_iff.1 h
  exact List.take_succ_eq_append_getElem hl
theorem readD_take {L : List Nat} {j x : Nat} (h : L[j]? = some x) : readD (L.take (j + 1)) = readD (L.take j) * 10 + (x - 48) :=by
  rw [tk1 h,readD_snoc]
theorem foldl_read : ∀ (r : List Nat) (n : Nat),r.foldl (fun n c => n * 10 + (c - 48)) n = n * 10 ^ r.length + readD r
  | [],n => by simp [readD]
  | c :: r,n => by
    have h1 :=foldl_read r (n * 10 + (c - 48))
    have h2 :=foldl_read r (0 * 10 + (c - 48))
    have h3 : readD (c :: r) = r.foldl (fun n c => n * 10 + (c - 48)) (0 * 10 + (c - 48)) :=rfl
    rw [List.foldl_cons,h1,h3,h2,List.length_cons,Nat.pow_succ,Nat.zero_mul,Nat.zero_add,Nat.add_mul,Nat.mul_assoc,Nat.mul_comm 10,Nat.add_assoc]
theorem readD_append (l r : List Nat) : readD (l ++ r) = readD l * 10 ^ r.length + readD r :=by
  have h :=foldl_read r (readD l)
  rw [← h]
  simp [readD]
theorem readD_lt : ∀ (l : List Nat),(∀ c ∈ l,48 ≤ c ∧ c ≤ 57) → readD l < 10 ^ l.length
  | [],_ => by simp [readD]
  | c :: r,h => by
    have h1 :=readD_lt r fun c hc => h c (List.mem_cons_of_mem _ hc)
    have h2 :=h c (List.mem_cons_self ..)
    have h3 :=readD_append [c] r
    have h4 : readD [c] = c - 48 :=by simp [readD]
    rw [List.singleton_append,h4] at h3
    rw [h3,List.length_cons,Nat.pow_succ]
    have h5 : (c - 48) * 10 ^ r.length ≤ 9 * 10 ^ r.length :=Nat.mul_le_mul_right _ (by omega)
    omega
theorem int_neg_self (w0 w : World) (hk : Kept w0 w) (b : Nat) (X : Int) (hx : IntN w0 w b X) (h0 : X ≠ 0) :
    Calls Tryz.prog 86 #[ptr b,ptr b] w fun e w' => e = .returned (ptr b) ∧ IntN w0 w' b (-X) ∧ Kept w0 w' :=by
  obtain ⟨s,n,c,hx,hb,hs⟩ :=hx
  have hn0 : ¬ n = 0 :=fun h => h0 (by have :=hx.nat.eq_zero.2 h;omega)
  obtain ⟨n,rfl⟩ : ∃ m,n = m + 1 :=⟨n - 1,by omega⟩
  have h107 : Calls Tryz.prog 107 #[ptr b,ptr b] w fun e w' => e = .returned (ptr b) ∧ w' = w :=by
    have hne : (Bool.not (decide (b = b ∧ 0 = 0))) = false :=by simp
    have hp :=(ptrRun53 w b b hx.neg hx.neg hx.nf hx.nf).2
    rw [hne] at hp
    clear hne
    go_enter Tryz.func107,Tryz.ntmps107
    go_wp2
    first | go_ret | refine ⟨_,results_tmp rfl _ _ _,?_⟩
    exact ⟨rfl,rfl⟩
  have z0' :=hx.neg
  have z1' :=hx.abs
  have f0' :=hx.nf 0
  go_enter Tryz.func86,Tryz.ntmps86
  go_wp2_with (go_at_call 107;refine h107.mono ?_;rintro e w1 ⟨rfl,hw⟩;subst hw)
  first | go_ret | refine ⟨_,results_tmp rfl _ _ _,?_⟩
  exact ⟨rfl,int_resign _ (by rw [Bool.eq_iff_iff];simp;omega) hx (by simp) hb hs hk⟩
theorem mul_limb {B S x c n0 V R Y : Nat} (hR : Y + R * c = V * S + n0) (n : Nat) (hn : n = c + x * S) : (Y + R * (n % B)) + R * B * (n / B) = (V + R * x) * S + n0 :=by
  have h1 :=Nat.mod_add_div n B
  have h2 : R * (n % B) + R * B * (n / B) = R * n :=by rw [Nat.mul_assoc,← Nat.mul_add,h1]
  rw [Nat.add_assoc,h2,hn,Nat.mul_add,← Nat.add_assoc,hR,Nat.add_mul,Nat.mul_assoc]
  omega
theorem mul_digit {x c S : Nat} (hx : x < B32) (hc : c < S) (hS : S ≤ 1000000000) : c + x * S < W64 ∧ (c + x * S) / B32 < S :=by
  have h1 : x * S ≤ (B32 - 1) * S :=Nat.mul_le_mul_right _ (by unfold B32 at *;omega)
  have h2 : (B32 - 1) * S + S = B32 * S :=by
    have : B32 = B32 - 1 + 1 :=by decide
    conv => rhs;rw [this,Nat.add_mul,Nat.one_mul]
  have h3 : c + x * S < B32 * S :=by omega
  have h4 : B32 * S ≤ B32 * 1000000000 :=Nat.mul_le_mul_left _ hS
  refine ⟨by unfold B32 at *;unfold W64;omega,?_⟩
  rw [Nat.div_lt_iff_lt_mul (by decide),Nat.mul_comm S]
  exact h3
def Joined (xs ws : List Nat) (j : Nat) : Prop :=ws.length = (j + 1) / 2 ∧ Lt W64 ws ∧ val W64 ws = val B32 (xs.take j) ∧ (j % 2 = 1 → ∃ a,ws[j / 2]? = some a ∧ a < B32)
theorem B32_W64 (m : Nat) : B32 ^ (2 * m) = W64 ^ m :=by rw [Nat.pow_mul];rfl
theorem Joined.even {xs ws : List Nat} {j x : Nat} (h : Joined xs ws j) (hj : j % 2 = 0) (hx : xs[j]? = some x) (hxb : x < B32) : Joined xs (ws ++ [x]) (j + 1) :=by
  obtain ⟨h1,h2,h3,_⟩ :=h
  have hl : ws.length = j / 2 :=by omega
  obtain ⟨hjl,rfl⟩ :=List.getElem?_eq_some_iff.1 hx
  refine ⟨by simp;omega,h2.snoc (Nat.lt_trans hxb (by decide)),?_,fun _ => ⟨xs[j],?_,hxb⟩⟩
  · rw [val_snoc,val_take_succ hjl,h3,hl,← B32_W64]
    congr 2
    rw [show 2 * (j / 2) = j by omega]
  · rw [show (j + 1) / 2 = ws.length by omega,List.getElem?_append_right (Nat.le_refl _)]
    simp
theorem Joined.odd {xs ws : List Nat} {j x a : Nat} (h : Joined xs ws j) (hj : j % 2 = 1) (hx : xs[j]? = some x) (hxb : x < B32) (ha : ws[j / 2]? = some a) (hab : a < B32) : Joined xs (ws.set (j / 2) (a + B32 * x)) (j + 1) :=by
  obtain ⟨h1,h2,h3,_⟩ :=h
  obtain ⟨m,rfl⟩ : ∃ m,j = 2 * m + 1 :=⟨j / 2,by omega⟩
  have hm : (2 * m + 1) / 2 = m :=by omega
  rw [hm] at ha ⊢
  have hl : ws.length = m + 1 :=by omega
  obtain ⟨hjl,rfl⟩ :=List.getElem?_eq_some_iff.1 hx
  have e : ws.set m (a + B32 * xs[2 * m + 1]) = ws.take m ++ [a + B32 * xs[2 * m + 1]] :=by
    rw [List.set_eq_take_append_cons_drop,if_pos (by omega),List.drop_of_length_le (by omega)]
  have e2 : ws = ws.take m ++ [a] :=by rw [← tk1 ha,List.take_of_length_le (by omega)]
  have hlt : a + B32 * xs[2 * m + 1] < W64 :=by unfold B32 at *;unfold W64;omega
  have hlm : (ws.take m).length = m :=by simp;omega
  refine ⟨by simp;omega,?_,?_,fun h => by omega⟩
  · rw [e];exact (h2.take m).snoc hlt
  · rw [e,val_snoc,hlm,val_take_succ hjl,← h3]
    conv => rhs;rw [e2,val_snoc,hlm]
    rw [Nat.mul_add,← Nat.add_assoc]
    congr 1
    rw [Nat.pow_succ,B32_W64,Nat.mul_assoc]
end Go.Proofs.YtfmmdamgcpiciaaGreatDoor
namespace Go.Proofs.YtfmmdamgcpiciaaGreatDoor
open Go Go.RowKit
theorem str_index (s : ByteArray) (t x : Nat) (w : World) (hl : t < s.size) (h : ∀ h : t < s.size,(s[t]'h).toNat = x) : (Instr.index 9 (.string s) (.int .i64 (t : Int))).run Tryz.prog w = .ok (.int .u8 (x : Int)) w :=by
  rw [run_index_string w 9 s .i64 t (by kernel_rfl),dif_pos ⟨by omega,by omega⟩]
  have :=h hl
  simp only [Int.toNat_natCast,this]
theorem T108 : ElemT 108 109 .u64 8 :=⟨by kernel_rfl,by kernel_rfl,by decide⟩
theorem whole (w : World) (X : Int) (hX : X.natAbs < 10 ^ 400) : Calls Tryz.prog 51 #[str (txt X)] w fun r w' => ∃ b,r = .returned (.tuple #[ptr b,.bool true]) ∧ IntN w w' b X ∧ Kept w w' :=by
  obtain ⟨D,hD⟩ : ∃ D,digT X.natAbs = D :=⟨_,rfl⟩
  have hDl : D.length ≤ 400 :=hD ▸ digT_length _ 400 (by decide) hX
  have hDne : D ≠ [] :=hD ▸ digT_ne _
  have hDr : ∀ c ∈ D,48 ≤ c ∧ c ≤ 57 :=hD ▸ digT_range _
  have hDv : readD D = X.natAbs :=by rw [← hD];exact readD_digs _
  obtain ⟨N,hN⟩ : ∃ N,D.length = N :=⟨_,rfl⟩
  have hNp : 0 < N :=by rw [← hN];exact List.length_pos_iff.2 hDne
  obtain ⟨s,hs⟩ : ∃ s,bs D = s :=⟨_,rfl⟩
  have hsz : s.size = N :=by rw [← hs,bs_size,hN]
  have hget : ∀ j x,D[j]? = some x → ∀ h : j < s.size,(s[j]'h).toNat = x :=by
    subst hs
    intro j x hj h
    exact bs_get hj (by have :=hDr x (List.mem_of_getElem? hj);omega) h
  have hval : ∃ z : Bool,(z = true → N = 1 ∧ X = 0) ∧ ∀ (h : 0 < s.size),(((s[0]'h).toNat : Int) == 48) = z :=by
    obtain ⟨c,l,hc⟩ :=List.exists_cons_of_ne_nil hDne
    have h1 :=hget 0 c (by rw [hc];rfl)
    refine ⟨decide (c = 48),fun h => ?_,fun h => ?_⟩
    · have hc48 :=of_decide_eq_true h
      rcases Nat.eq_zero_or_pos X.natAbs with h0 | h0
      · exact ⟨by rw [← hN,← hD,h0];rfl,by omega⟩
      · obtain ⟨c2,l2,hc3,hc4⟩ :=digT_head X.natAbs (by omega)
        rw [hD,hc] at hc3
        obtain ⟨rfl,_⟩ :=List.cons.inj hc3
        omega
    · rw [h1 h,Bool.eq_iff_iff]
      simp only [beq_iff_eq,decide_eq_true_eq]
      omega
  obtain ⟨z,hz,hz0⟩ :=hval
  have hneg : txt X = if X < 0 then 45 :: D else D :=by unfold txt;rw [hD]
  obtain ⟨ng,hng⟩ : ∃ b,decide (X < 0) = b :=⟨_,rfl⟩
  obtain ⟨s0,hs0⟩ : ∃ s0,bs (txt X) = s0 :=⟨_,rfl⟩
  have hsz0 : 0 < s0.size :=by rw [← hs0,bs_size,hneg];split <;> (try rw [List.length_cons]) <;> omega
  have hb0 : ∀ h : 0 < s0.size,(((s0[0]'h).toNat : Int) == 45) = ng :=by
    subst hs0
    rw [hneg]
    split
    · rename_i hx
      intro h
      rw [bs_get (L :=45 :: D) (j :=0) (x :=45) rfl (by decide) h,← hng,decide_eq_true hx];rfl
    · rename_i hx
      intro h
      rw [← hng,decide_eq_false hx]
      obtain ⟨c,l,hc⟩ :=List.exists_cons_of_ne_nil hDne
      have h1 :=hDr c (by rw [hc];simp)
      rw [bs_get (L :=D) (j :=0) (x :=c) (by rw [hc];rfl) (by omega) h]
      simp only [beq_eq_false_iff_ne]
      omega
  rw [str_bs,hs0]
  have HS :=Lib.hid (And.intro hneg (And.intro hs hs0))
  have HG :=Lib.hid hget
  clear hs hs0 hneg hD hget
  go_enter Tryz.func51,Tryz.ntmps51
  go_upto_if 21 with fail
  go_cut [0] from 22 to 23 (fun t0 wx => w = wx ∧ t0 = .string s)
  case first =>
    cases ng
    · go_wp2_with fail
      go_meet
      obtain ⟨h1,h2,h3⟩ :=HS.out
      rw [if_neg (of_decide_eq_false hng)] at h1
      exact ⟨rfl,by rw [← h2,← h3,h1]⟩
    · go_wp2_with fail
      go_meet
      obtain ⟨h1,h2,h3⟩ :=HS.out
      rw [if_pos (of_decide_eq_true hng)] at h1
      refine ⟨rfl,?_⟩
      rw [← h2,← h3,h1,bs_size]
      exact congrArg Value.string (bs_tail 45 D)
  case rest =>
    obtain ⟨rfl,rfl⟩ :=hcut
    go_upto_region 4 with fail
    go_cut [44] from 24 to 43 (fun t44 wx => w = wx ∧ t44 = .bool false)
    case first =>
      have hN0 : ((N : Int) == 0) = false :=by simp only [beq_eq_false_iff_ne];omega
      have hN4 : decide (400 < (N : Int)) = false :=decide_eq_false (by omega)
      cases z
      · go_wp2_with fail
        go_meet
        exact ⟨rfl,by simp [hN0,hN4]⟩
      · obtain ⟨rfl,rfl⟩ :=hz rfl
        have hng2 : ng = false :=by rw [← hng];rfl
        subst hng2
        go_wp2_with fail
        go_meet
        exact ⟨rfl,by simp⟩
    case rest =>
      obtain ⟨rfl,rfl⟩ :=hcut
      clear hz hz0 hb0
      go_wp2_with fail
      go_loopw [5,6] (fun t5 t6 wx => ∃ (i : Nat) (s5 : Option Addr) (c5 n5 : Nat) (xs : List Nat),i ≤ N ∧ t6 = .int .i64 i ∧ t5 = .slice s5 n5 c5 ∧ xs.length = n5 ∧ n5 ≤ i ∧ Sl .u64 w wx s5 c5 xs ∧ Lt B32 xs ∧ val B32 xs = readD (D.take i) ∧ Kept w wx) (fun _ t6 _ => N - (intOf t6).toNat)
      case atStart => exact ⟨0,none,0,0,[],Nat.zero_le _,rfl,rfl,rfl,Nat.le_refl _,Sl.start,Lt.nil,rfl,Chg.refl _ _⟩
      case round =>
        obtain ⟨i,s5,c5,n5,xs,hi,rfl,rfl,hn5,hni,hS,hlt,hv,hK⟩ :=hrel
        by_cases hiN : i < N
        · have HA :=Lib.hid (And.intro hS (And.intro hlt (And.intro hv hK)))
          clear hS hlt hv hK
          go_upto_block 2 with fail
          go_cut [6,7,8] from 49 to 78 (fun t6 t7 t8 wx => wr = wx ∧ ∃ (k n0 p : Nat),1 ≤ k ∧ k ≤ 9 ∧ i + k ≤ N ∧ t6 = .int .i64 (i + k : Nat) ∧ n0 = readD ((D.drop i).take k) ∧ p = 10 ^ k ∧ t7 = .int .u64 n0 ∧ t8 = .int .u64 p)
          case first =>
            go_wp2_with fail
            go_loop [6,7,8] (fun t6 t7 t8 => ∃ (k n0 p : Nat),k ≤ 9 ∧ i + k ≤ N ∧ t6 = .int .i64 (i + k : Nat) ∧ n0 = readD ((D.drop i).take k) ∧ p = 10 ^ k ∧ t7 = .int .u64 n0 ∧ t8 = .int .u64 p) (fun t6 _ _ => i + 9 - (intOf t6).toNat)
            case atStart => exact ⟨0,0,1,by decide,hi,rfl,rfl,rfl,rfl,rfl⟩
            case round =>
              obtain ⟨k,n0,p,hk,hik,rfl,hn0,hp,rfl,rfl⟩ :=hrel
              have hp9 : p ≤ 1000000000 :=by rw [hp];exact Nat.pow_le_pow_right (n :=10) (by decide) hk
              have hnp : n0 < p :=by
                rw [hn0,hp]
                have :=readD_lt ((D.drop i).take k) fun c hc => hDr c (List.mem_of_mem_drop (List.mem_of_mem_take hc))
                rwa [List.length_take,List.length_drop,Nat.min_eq_left (by omega)] at this
              have hk0 : k = 0 ∨ 1 ≤ k :=by omega
              obtain ⟨t,ht⟩ : ∃ t,i + k = t :=⟨_,rfl⟩
              rw [ht]
              by_cases hlt : t < N ∧ k < 9
              · obtain ⟨ht1,hk9⟩ :=hlt
                have hp8 : p ≤ 100000000 :=by rw [hp];exact Nat.pow_le_pow_right (n :=10) (j :=8) (by decide) (by omega)
                have hpi : (p : Int) < 1000000000 :=by omega
                have gx : D[t]? = some D[t] :=List.getElem?_eq_getElem (by omega)
                have hx :=hDr _ (List.getElem_mem (by omega : t < D.length))
                have hnx : readD ((D.drop i).take (k + 1)) = n0 * 10 + (D[t] - 48) :=by
                  rw [readD_take (x :=D[t]) (by rw [List.getElem?_drop,ht];exact gx),← hn0]
                generalize D[t] = x at gx hx hnx
                have hgx :=HG.out t x gx
                have hidx : ∀ W,(Instr.index 9 (.string s) (.int .i64 (t : Int))).run Tryz.prog W = .ok (.int .u8 (x : Int)) W :=fun W => str_index s t x W (by omega) hgx
                clear hgx
                obtain ⟨P,hP⟩ : ∃ P : Int,(p : Int) = P :=⟨_,rfl⟩
                obtain ⟨M,hM⟩ : ∃ M : Int,(n0 : Int) = M :=⟨_,rfl⟩
                rw [hP,hM]
                have hpI : P ≤ 100000000 :=by omega
                have hp0 : 0 ≤ P :=by omega
                have hnI : M < 100000000 :=by omega
                have hn0' : 0 ≤ M :=by omega
                have hx1 : (48 : Int) ≤ x :=by omega
                have hx2 : (x : Int) ≤ 57 :=by omega
                have HN :=Lib.hid (And.intro hn0 (And.intro hp (And.intro hnx (And.intro hk0 (And.intro hp8 (And.intro hnp (And.intro hp9 (And.intro hx (And.intro hP hM)))))))))
                clear hn0 hp hnx hk0 hp8 hnp hp9 hx hP hM hpi
                go_wp2_with fail
                go_round
                case rel =>
                  obtain ⟨hn0,hp,hnx,hk0,hp8,hnp,hp9,hx,hP,hM⟩ :=HN.out
                  refine ⟨k + 1,n0 * 10 + (x - 48),p * 10,by omega,by omega,by rw [← ht];go_num,hnx.symm,by rw [hp,Nat.pow_succ],?_,?_⟩
                  · rw [← hM];congr 1;omega
                  · rw [← hP];congr 1
                case measure => simp [intOf];omega
              · obtain ⟨P,hP⟩ : ∃ P : Int,(p : Int) = P :=⟨_,rfl⟩
                obtain ⟨M,hM⟩ : ∃ M : Int,(n0 : Int) = M :=⟨_,rfl⟩
                rw [hP,hM]
                have hk1 : 1 ≤ k :=by omega
                have HN :=Lib.hid (And.intro hn0 (And.intro hp (And.intro hP (And.intro hM (And.intro hk hik)))))
                by_cases htN : t < N
                · have hk9 : k = 9 :=by omega
                  have hpI : ¬ P < 1000000000 :=by rw [← hP,hp,hk9];decide
                  clear hn0 hp hnp hp9 hP hM
                  go_wp2_with fail
                  go_meet
                  obtain ⟨hn0,hp,hP,hM,hk,hik⟩ :=HN.out
                  exact ⟨rfl,k,n0,p,hk1,hk,hik,by rw [ht],hn0,hp,by rw [hM],by rw [hP]⟩
                · clear hn0 hp hnp hp9 hP hM
                  go_wp2_with fail
                  go_meet
                  obtain ⟨hn0,hp,hP,hM,hk,hik⟩ :=HN.out
                  exact ⟨rfl,k,n0,p,hk1,hk,hik,by rw [ht],hn0,hp,by rw [hM],by rw [hP]⟩
          case rest =>
            obtain ⟨rfl,k,n0,p,hk1,hk9,hik,rfl,hn0,hp,rfl,rfl⟩ :=hcut
            have hp9 : p ≤ 1000000000 :=by rw [hp];exact Nat.pow_le_pow_right (n :=10) (j :=9) (by decide) hk9
            have hnp : n0 < p :=by
              rw [hn0,hp]
              have :=readD_lt ((D.drop i).take k) fun c hc => hDr c (List.mem_of_mem_drop (List.mem_of_mem_take hc))
              rwa [List.length_take,List.length_drop,Nat.min_eq_left (by omega)] at this
            have hread : readD (D.take (i + k)) = readD (D.take i) * p + n0 :=by
              rw [List.take_add,readD_append,← hn0,List.length_take,List.length_drop,Nat.min_eq_left (by omega),← hp]
            obtain ⟨hS,hlt,hv,hK⟩ :=HA.out
            obtain ⟨t,ht⟩ : ∃ t,i + k = t :=⟨_,rfl⟩
            rw [ht] at hread hik ⊢
            have HN :=Lib.hid (And.intro hlt (And.intro hv (And.intro hn0 (And.intro hp (And.intro hp9 hread)))))
            have hit : i < t :=by omega
            clear hn0 hp hread hv hlt HA
            obtain ⟨P,hP⟩ : ∃ P : Int,(p : Int) = P :=⟨_,rfl⟩
            rw [hP]
            go_upto_block 4 with fail
            go_cut [7,81] from 82 to 105 (fun t7 t81 wx => ∃ (ys : List Nat) (c : Nat),t7 = .int .u64 c ∧ c < p ∧ ys.length = n5 ∧ Lt B32 ys ∧ val B32 ys + B32 ^ n5 * c = val B32 xs * p + n0 ∧ Sl .u64 w wx s5 c5 ys ∧ Kept w wx)
            case first =>
              have HM :=Lib.hid hnp
              clear hnp
              go_wp2_with fail
              go_loopw [7,81] (fun t7 t81 wx => ∃ (ys : List Nat) (c j : Nat),j ≤ n5 ∧ t81 = .int .i64 j ∧ t7 = .int .u64 c ∧ c < p ∧ ys.length = j ∧ Lt B32 ys ∧ val B32 ys + B32 ^ j * c = val B32 (xs.take j) * p + n0 ∧ Sl .u64 w wx s5 c5 (ys ++ xs.drop j) ∧ Kept w wx) (fun _ t81 _ => n5 - (intOf t81).toNat)
              case atStart => exact ⟨[],n0,0,Nat.zero_le _,rfl,rfl,HM.out,rfl,Lt.nil,by simp [val],hS,hK⟩
              case round =>
                clear hS hK
                obtain ⟨ys,c,j,hj,rfl,rfl,hc,hyl,hly,hyv,hS,hK⟩ :=hrel
                by_cases hjn : j < n5
                · have gx : xs[j]? = some xs[j] :=List.getElem?_eq_getElem (by omega)
                  have hxl : xs[j] < B32 :=HN.out.1 _ (List.getElem_mem _)
                  have hdr : xs.drop j = xs[j] :: xs.drop (j + 1) :=List.drop_eq_getElem_cons (by omega)
                  have htk : val B32 (xs.take (j + 1)) = val B32 (xs.take j) + B32 ^ j * xs[j] :=val_take_succ (by omega)
                  generalize xs[j] = x at gx hxl hdr htk
                  have hs5 : ∃ g,s5 = some ⟨g,0,none⟩ ∧ w.heap.size ≤ g ∧ g < wr.heap.size ∧ OutK .u64 wr g 0 c5 (ys ++ xs.drop j) :=by
                    cases s5 with
                    | none => have :=(hS.nil rfl).1;rw [hdr] at this;simp at this
                    | some a => obtain ⟨g,rfl,h⟩ :=hS.own a rfl;exact ⟨g,rfl,h⟩
                  obtain ⟨g,rfl,hg0,hg1,hO⟩ :=hs5
                  have hcx :=hO.row j x (by rw [hdr,List.getElem?_append_right (by omega),hyl,Nat.sub_self];rfl)
                  have hfx :=(hO.room j (by have :=hO.le;simp at this;omega)).2
                  have hjc : j < c5 :=by have :=hO.le;simp at this;omega
                  obtain ⟨hn1,hn2⟩ :=mul_digit hxl hc HN.out.2.2.2.2.1
                  obtain ⟨n,hn⟩ : ∃ n,c + x * p = n :=⟨_,rfl⟩
                  rw [hn] at hn1 hn2
                  obtain ⟨C,hC⟩ : ∃ C : Int,(c : Int) = C :=⟨_,rfl⟩
                  obtain ⟨Y,hY⟩ : ∃ Y : Int,(x : Int) = Y :=⟨_,rfl⟩
                  obtain ⟨Q,hQ⟩ : ∃ Q : Int,((n % B32 : Nat) : Int) = Q :=⟨_,rfl⟩
                  have hCn : C + Y * P = (n : Int) :=by rw [← hC,← hY,← hP,← hn];push_cast;rfl
                  have hb1 : 0 ≤ Y * P :=by rw [← hY,← hP];exact Int.mul_nonneg (by omega) (by omega)
                  have hb0 : 0 ≤ C :=by omega
                  have hb2 : C + Y * P ≤ 18446744073709551615 :=by rw [hCn];unfold W64 at hn1;omega
                  have hb3 : Y * P ≤ 18446744073709551615 :=by omega
                  have hmask : bits .and .u64 (C + Y * P) 4294967295 = Q :=by rw [hCn,mask32 n hn1,hQ]
                  rw [hY] at hcx
                  rw [hC]
                  simp only [Nat.zero_add] at hcx hfx
                  have HH :=Lib.hid (And.intro hc (And.intro hn (And.intro hn1 (And.intro hn2 (And.intro hC (And.intro hY (And.intro hQ (And.intro hCn (And.intro hO (And.intro hdr (And.intro htk (And.intro hyv hxl))))))))))))
                  clear hc hn hn1 hn2 hC hY hQ hCn hO hdr htk hyv hxl gx
                  go_wp2_with fail
                  go_roundw
                  case rel =>
                    obtain ⟨hc,hn,hn1,hn2,hC,hY,hQ,hCn,hO,hdr,htk,hyv,hxl⟩ :=HH.out
                    refine ⟨ys ++ [n % B32],n / B32,j + 1,hjn,by go_num,?_,hn2,by simp [hyl],hly.snoc (Nat.mod_lt _ (by decide)),?_,?_,?_⟩
                    · rw [hCn];rfl
                    · rw [val_snoc,hyl,htk,Nat.pow_succ]
                      exact mul_limb hyv n hn.symm
                    · have :=hO.set (n % B32) (i :=j) (by rw [List.length_append,hdr];simp;omega)
                      rw [List.set_append_right _ _ (by omega),hyl,Nat.sub_self,hdr,List.set_cons_zero,Nat.zero_add,hQ] at this
                      rw [List.append_assoc]
                      exact Sl.of hg0 (Nat.lt_of_lt_of_le hg1 (Chg.setCell _ g j _ (fun p _ => p = g) fun _ => rfl).size) this hS.cap
                    · exact hK.keptNew (Chg.setCell _ g j _ (fun p _ => p = g) fun _ => rfl) fun p _ h => by omega
                  case measure => simp [intOf];omega
                · obtain rfl : j = n5 :=by omega
                  rw [List.drop_of_length_le (by omega),List.append_nil] at hS
                  rw [List.take_of_length_le (by omega)] at hyv
                  have HH :=Lib.hid (And.intro hc hyv)
                  clear hc hyv
                  obtain ⟨C,hC⟩ : ∃ C : Int,(c : Int) = C :=⟨_,rfl⟩
                  rw [hC]
                  have HC :=Lib.hid hC
                  clear hC
                  go_wp2_with fail
                  go_meet
                  exact ⟨ys,c,by rw [HC.out],HH.out.1,hyl,hly,HH.out.2,hS,hK⟩
            case rest =>
              obtain ⟨ys,c,rfl,hc,hyl,hly,hyv,hS',hK'⟩ :=hcut
              obtain ⟨_,hv,_,_,_,hread⟩ :=HN.out
              have hcB : c < B32 :=by have :=HN.out.2.2.2.2.1;unfold B32;omega
              have hval : val B32 ys + B32 ^ n5 * c = readD (D.take t) :=by rw [hread,← hv,hyv]
              have hsl :=hK'.size
              clear hS hK hyv hread hv hc
              rcases Nat.eq_zero_or_pos c with rfl | hcp
              · have HH :=Lib.hid hval
                clear hval
                go_wp2_with fail
                go_roundw
                case rel => exact ⟨t,s5,c5,n5,ys,hik,rfl,rfl,hyl,by omega,hS',hly,by have :=HH.out;simpa using this,hK'⟩
                case measure => simp [intOf];omega
              · obtain ⟨C,hC⟩ : ∃ C : Int,(c : Int) = C :=⟨_,rfl⟩
                rw [hC]
                have hC0 : 0 < C :=by omega
                have hCc : C.toNat = c :=by omega
                have HC :=Lib.hid (And.intro hC (And.intro hCc (And.intro hcp (And.intro hval (And.intro hcB hly)))))
                clear hC hCc hcp hval hcB hly
                go_wp2_with (at_builtin;refine wp_gapp1 T106 (w0 :=w) rfl (.tmp 102) (.tmp 104) rfl rfl rfl rfl hS' hsl hyl (by omega) (by omega) ?_;intro s4 c4 w4 hS4 hC4 hD4)
                go_roundw
                case rel =>
                  obtain ⟨hC,hCc,hcp,hval,hcB,hly⟩ :=HC.out
                  rw [hCc] at hS4
                  refine ⟨t,s4,c4,n5 + 1,ys ++ [c],hik,rfl,rfl,by simp [hyl],by omega,hS4,hly.snoc hcB,by rw [val_snoc,hyl,hval],hK'.trans hC4 fun b o hb h => ?_⟩
                  obtain ⟨a,ha,rfl⟩ :=h
                  have :=(hS'.lt ha).1
                  omega
                case measure => simp [intOf];omega
        · obtain rfl : i = N :=by omega
          rw [List.take_of_length_le (by omega),hDv] at hv
          have HV :=Lib.hid (And.intro hv hlt)
          clear hv hDv hDr HG
          go_wp2_with fail
          go_loopw [10,108] (fun t10 t108 wx => ∃ (j : Nat) (s10 : Option Addr) (c10 n10 : Nat) (ws : List Nat),j ≤ n5 ∧ t108 = .int .i64 j ∧ t10 = .slice s10 n10 c10 ∧ ws.length = n10 ∧ Joined xs ws j ∧ Sl .u64 w wx s10 c10 ws ∧ Sl .u64 w wx s5 c5 xs ∧ (∀ a a',s5 = some a → s10 = some a' → a.block ≠ a'.block) ∧ Kept w wx) (fun _ t108 _ => n5 - (intOf t108).toNat)
          case atStart => exact ⟨0,none,0,0,[],Nat.zero_le _,rfl,rfl,rfl,⟨rfl,Lt.nil,rfl,(fun h => by simp at h)⟩,Sl.start,hS,(fun _ _ _ h => by cases h),hK⟩
          case round =>
            clear hS hK
            obtain ⟨j,s10,c10,n10,ws,hj,rfl,rfl,hw10,hJ,hS10,hS,hne,hK⟩ :=hrel
            have HN10 :=Lib.hid (hw10.symm.trans hJ.1)
            have hnb : n10 ≤ 400 :=by have :=HN10.out;omega
            by_cases hjn : j < n5
            · have gx : xs[j]? = some xs[j] :=List.getElem?_eq_getElem (by omega)
              have hxl : xs[j] < B32 :=HV.out.2 _ (List.getElem_mem _)
              generalize xs[j] = x at gx hxl
              have hs5 : ∃ g,s5 = some ⟨g,0,none⟩ ∧ OutK .u64 wr g 0 c5 xs :=by
                cases s5 with
                | none => have :=(hS.nil rfl).1;rw [this] at gx;simp at gx
                | some a => obtain ⟨g,rfl,_,_,h⟩ :=hS.own a rfl;exact ⟨g,rfl,h⟩
              obtain ⟨g,rfl,hO⟩ :=hs5
              have hcx :=hO.row j x gx
              have hjc : j < c5 :=by have :=hO.le;omega
              simp only [Nat.zero_add] at hcx
              rcases Nat.mod_two_eq_zero_or_one j with h2 | h2
              · have hJ2 :=hJ.even h2 gx hxl
                have hj2 : ((j : Int) % 2 == 0) = true :=by simp;omega
                have HH :=Lib.hid (And.intro hJ2 (And.intro hxl gx))
                have hsl :=hK.size
                clear hJ hJ2 hxl gx hO
                go_wp2_with (at_builtin;refine wp_gapp1 T108 (w0 :=w) rfl (.tmp 114) (.tmp 119) rfl rfl rfl rfl hS10 hsl hw10 (by omega) (by omega) ?_;intro s4 c4 w4 hS4 hC4 hD4)
                go_roundw
                case rel =>
                  obtain ⟨hJ2,hxl,gx⟩ :=HH.out
                  rw [Int.toNat_natCast] at hS4
                  refine ⟨j + 1,s4,c4,n10 + 1,ws ++ [x],hjn,by go_num,rfl,by simp [hw10],hJ2,hS4,hS.chg hC4 ?_,?_,hK.trans hC4 ?_⟩
                  · intro a ha o h
                    obtain ⟨a',ha',hb⟩ :=h
                    exact hne _ _ ha ha' hb.symm
                  · intro a a' ha ha' e
                    rcases hD4 with rfl | h
                    · exact hne _ _ ha ha' e
                    · have h1 :=h a' ha'
                      have h2 :=(hS.lt ha).2
                      omega
                  · intro b o hb h
                    obtain ⟨a,ha,rfl⟩ :=h
                    have :=(hS10.lt ha).1
                    omega
                case measure => simp [intOf];omega
              · obtain ⟨a,ha,hab⟩ :=hJ.2.2.2 h2
                have hJ2 :=hJ.odd h2 gx hxl ha hab
                obtain ⟨m,hm⟩ : ∃ m,j / 2 = m :=⟨_,rfl⟩
                rw [hm] at ha hJ2
                have hjm : (j : Int) / 2 = (m : Int) :=by omega
                have hj2 : ((j : Int) % 2 == 0) = false :=by simp;omega
                have hs10 : ∃ g,s10 = some ⟨g,0,none⟩ ∧ w.heap.size ≤ g ∧ g < wr.heap.size ∧ OutK .u64 wr g 0 c10 ws :=by
                  cases s10 with
                  | none => have :=(hS10.nil rfl).1;rw [this] at ha;simp at ha
                  | some a => obtain ⟨g,rfl,h⟩ :=hS10.own a rfl;exact ⟨g,rfl,h⟩
                obtain ⟨g2,rfl,hg0,hg1,hO2⟩ :=hs10
                have hml :=(List.getElem?_eq_some_iff.1 ha).1
                have hca :=hO2.row m a ha
                have hfa :=(hO2.room m (by have :=hO2.le;omega)).2
                have hO3 :=hO2.set (a + B32 * x) hml
                simp only [Nat.zero_add] at hca hfa hO3
                have hor : bits .or .u64 (a : Int) ((x : Int) * 4294967296) = ((a + B32 * x : Nat) : Int) :=by
                  have :=or_u64 a (x * B32) (by unfold B32 at hab;omega) (by unfold B32 at *;omega)
                  rw [Nat.or_comm,or_low hab,Nat.add_comm,Nat.mul_comm x B32] at this
                  rw [← this,Nat.mul_comm B32 x]
                  rfl
                obtain ⟨Y,hY⟩ : ∃ Y : Int,(x : Int) = Y :=⟨_,rfl⟩
                obtain ⟨A,hA⟩ : ∃ A : Int,(a : Int) = A :=⟨_,rfl⟩
                obtain ⟨Q,hQ⟩ : ∃ Q : Int,((a + B32 * x : Nat) : Int) = Q :=⟨_,rfl⟩
                rw [hQ] at hor hO3
                rw [hY] at hcx hor
                rw [hA] at hca hor
                have hY0 : 0 ≤ Y :=by omega
                have hY1 : Y ≤ 4294967295 :=by unfold B32 at hxl;omega
                have hmn : m < n10 :=by have :=HN10.out;omega
                have hmc : m < c10 :=by have :=hO2.le;omega
                have hgg : g ≠ g2 :=hne _ _ rfl rfl
                have HH :=Lib.hid (And.intro hJ2 (And.intro hO3 hm))
                clear hJ hJ2 hxl gx hO hO2 hO3 hQ hY hA ha hab h2 hm
                go_wp2_with (first
                  | (refine wp_region_lit_segs (id :=30) [[0,1,2,3,4,5,6,7,8,9,10,11,12]] mixed (by kernel_rfl) ?_;simp only [wpSegsL,gaC,gaN,lZ0,lS0,coS])
                  | refine ⟨by kernel_rfl,?_⟩)
                go_roundw
                case rel =>
                  obtain ⟨hJ2,hO3,hm⟩ :=HH.out
                  have kd : Kept wr wr.drew :=(Chg.refl _ _).drew
                  have kc :=Chg.setCell wr.drew g2 m (.int .u64 Q) (fun p _ => p = g2) fun _ => rfl
                  have k2 : Chg wr (wr.drew.setCell ⟨g2,m,none⟩ (.int .u64 Q)) (fun p _ => p = g2) :=(kd.any _).trans kc fun _ _ _ h => h
                  refine ⟨j + 1,_,c10,n10,ws.set m (a + B32 * x),hjn,by go_num,rfl,by simp [hw10],hJ2,?_,?_,fun a a' h1 h2 => ?_,?_⟩
                  · exact Sl.of hg0 (Nat.lt_of_lt_of_le hg1 k2.size) (hO3.kept ((Chg.refl _ _).drew)) hS10.cap
                  · exact hS.chg k2 fun a ha o h => by obtain rfl :=Option.some.inj ha;exact hgg h
                  · obtain rfl :=Option.some.inj h1;obtain rfl :=Option.some.inj h2;exact hgg
                  · exact hK.keptNew k2 fun p _ h => by omega
                case measure => simp [intOf];omega
            · obtain rfl : j = n5 :=by omega
              have hjv :=hJ.2.2.1
              rw [List.take_of_length_le (by omega),HV.out.1] at hjv
              have hjl :=hJ.2.1
              have ka :=Chg.alloc wr (Obj.cells #[.bool false,.slice none 0 0] 112) None2
              have hZ :=ZeroInt.made wr
              have hcap :=hS10.cap
              have hle :=hS10.le
              have hok : SlOk wr s10 c10 :=by
                cases s10 with
                | none => exact .inl ⟨rfl,(hS10.nil rfl).2⟩
                | some a =>
                  obtain ⟨g,rfl,h1,h2,h3⟩ :=hS10.own a rfl
                  exact .inr ⟨g,0,rfl,h3.room,h3.nf,h2⟩
              have hwd : Words wr s10 ws :=by
                cases s10 with
                | none => exact .inl (hS10.nil rfl).1
                | some a =>
                  obtain ⟨g,rfl,h1,h2,h3⟩ :=hS10.own a rfl
                  exact .inr ⟨g,0,rfl,h3.row⟩
              have hset :=int_setBits w (wr.alloc (Obj.cells #[.bool false,.slice none 0 0] 112)) (kt hK ka) wr.heap.size s10 n10 c10 ws hK.size hZ.neg hZ.abs hZ.nf (hwd.keep ka) hw10 (by unfold Big;omega) (by rw [← hw10];exact hle) (by unfold Big;simp only [maxLen] at hcap;omega) (hok.chg ka) hjl (fun a ha => by have :=hS10.lt ha;exact ⟨this.1,by omega⟩)
              rw [hjv] at hset
              have HR :=Lib.hid hng
              clear hjv hjl hZ hcap hle hok hwd hS10 hS hJ hK ka HV HS HN10 hw10 hng
              cases ng
              · go_wp2_with (go_at_call 85;refine hset.mono ?_;rintro r w1 ⟨rfl,q1,q2⟩)
                first | go_ret2 | refine ⟨_,results_tmp2 rfl _ _ _,?_⟩
                refine ⟨_,rfl,?_,q2⟩
                have hx : ((X.natAbs : Nat) : Int) = X :=by have :=of_decide_eq_false HR.out;omega
                rw [hx] at q1
                exact q1
              · have hx0 :=of_decide_eq_true HR.out
                have hx : -((X.natAbs : Nat) : Int) = X :=by omega
                have hneg :=fun W (h : IntN w W wr.heap.size ((X.natAbs : Nat) : Int)) (k : Kept w W) => int_neg_self w W k wr.heap.size _ h (by omega)
                rw [hx] at hneg
                go_wp2_with (first
                  | (go_at_call 85;refine hset.mono ?_;rintro r w1 ⟨rfl,q1,q2⟩)
                  | (go_at_call 86;refine (hneg _ q1 q2).mono ?_;rintro r w2 ⟨rfl,p1,p2⟩))
                first | go_ret2 | refine ⟨_,results_tmp2 rfl _ _ _,?_⟩
                exact ⟨_,rfl,p1,p2⟩
end Go.Proofs.YtfmmdamgcpiciaaGreatDoor
