/- A part of the proof, joined out of the texts G8, G9, G10, Q2, H1, H2, H3, H4, H5, H6, H7, H8, H9, H10; each theorem bears its own conditions. -/
import Derived.Defers
import Derived.Recover
import Derived.Test.YtfmmdamgcpiciaaGreatDoorT01
import Derived.Test.YtfmmdamgcpiciaaGreatDoorT02
import Derived.Test.YtfmmdamgcpiciaaGreatDoorT04
import Derived.Test.YtfmmdamgcpiciaaGreatDoorT06
import Derived.Test.YtfmmdamgcpiciaaGreatDoorT10
set_option linter.unusedVariables false
set_option linter.unusedSimpArgs false
set_option linter.all false
set_option maxHeartbeats 9000000
set_option exponentiation.threshold 400000
set_option maxRecDepth 1000000
namespace Go.Proofs.YtfmmdamgcpiciaaGreatDoor
open Go Go.RowKit
theorem results_dec_tmp {fn : Func} {t u r : Nat} {tmps : Array Value} {w : World} {x y : Value} (h : fn.results = #[.cell t 55,.tmp u]) (hp : tmps.getD t undef = ptr r) (h0 : w.cell? ⟨r,0,none⟩ = some x) (h1 : w.cell? ⟨r,1,none⟩ = some y) :
    (results fn tmps).run Tryz.prog w = .ok (.tuple #[.agg #[x,y],tmps.getD u undef]) w :=by
  obtain ⟨i0,hi,hz0,hz1,hz2⟩ :=info_parts info55
  have hp' : tmps[t]?.getD undef = ptr r :=by simpa using hp
  simp [results,h,hp',go_sem,hi,hz1,h0,h1]
theorem places (w : World) (e : Int) (h1 : -400 ≤ e) (h2 : e ≤ 400) : Calls Tryz.prog 52 #[.int .i64 e] w fun r w' => r = .returned (.bool true) ∧ w' = w :=by
  go_enter Tryz.func52,Tryz.ntmps52
  go_wp2
  first | go_ret | refine ⟨_,results_tmp rfl _ _ _,?_⟩
  exact ⟨by simp [h1,h2],rfl⟩
theorem made (w : World) (X e : Int) (hX : X.natAbs < 10 ^ 400) (h1 : -400 ≤ e) (h2 : e ≤ 400) : Calls Tryz.prog 29 #[pd (str (txt X)) e] w fun r w' => ∃ b,r = .returned (.tuple #[dv b e,.bool true]) ∧ IntN w w' b X ∧ Kept w w' :=by
  have hw :=fun W => whole W X hX
  have hp :=fun W => places W e h1 h2
  obtain ⟨s,hs⟩ : ∃ s,str (txt X) = .string s :=⟨_,rfl⟩
  rw [hs] at hw ⊢
  have k0 : Kept w (Box (Box23 w (.string s) (.int .i64 e)) (.pointer none) (.int .i32 0)) :=kt (Chg.alloc _ _ _) (boxK _ _ _)
  have S0 :=Slot.made (Box23 w (.string s) (.int .i64 e)) (.pointer none) (.int .i32 0)
  have e1 : (Box23 w (.string s) (.int .i64 e)).heap.size = w.heap.size + 1 :=by simp
  rw [e1] at S0
  have ce : (Box (Box23 w (.string s) (.int .i64 e)) (.pointer none) (.int .i32 0)).cell? ⟨w.heap.size,1,none⟩ = some (.int .i64 e) :=by
    refine Kept.at (boxK _ _ _) ?_
    rw [World.cell?_alloc_at _ _ _ _ rfl];rfl
  go_enter Tryz.func29,Tryz.ntmps29
  go_wp2_with (first
    | (go_at_call 51;refine (hw _).mono ?_;rintro r w1 ⟨b,rfl,hb,k1⟩;have c1 :=Kept.at k1 ce)
    | (go_at_call 52;refine (hp _).mono ?_;rintro r w2 ⟨rfl,hw2⟩;subst hw2)
    | (go_at_call 53;refine (dec_make _ b e).mono ?_;rintro r w3 ⟨rfl,k3⟩;have kk :=kt k1 k3;have S :=S0.kept kk;obtain ⟨⟨u0,s0⟩,⟨u1,s1⟩,sf⟩ :=id S;have f0 :=sf 0;have f1 :=sf 1;have s2 :=cs_ne (u :=ptr b) s1 (b' :=w.heap.size + 1) (o' :=0) (by omega)))
  have hr :=dec_ret (r :=w.heap.size + 1) (by omega) (by simp) k0 (hb.kept k3) kk (ptr b) (.int .i32 e)
  exact bodyPost_ret (v :=.tuple #[dv b e,.bool true]) (results_dec_tmp (t :=2) (u :=3) (r :=w.heap.size + 1) rfl rfl (put2_0 S _ _) (put2_1 S _ _)) rfl ⟨b,rfl,hr⟩
theorem txt_length (X : Int) (k : Nat) (hk : 0 < k) (h : X.natAbs < 10 ^ k) : (txt X).length ≤ k + 1 :=by
  have :=digT_length X.natAbs k hk h
  unfold txt
  split
  · rw [List.length_cons];omega
  · omega
theorem mild (w : World) (hg : Glob w) (X e : Int) (hX : X.natAbs < 10 ^ 20) (h1 : -18 ≤ e) (h2 : e ≤ 0) (hs : X.natAbs ≤ 1000000 * 10 ^ (-e).toNat) : Calls Tryz.prog 30 #[pd (str (txt X)) e,.int .i64 1000000] w fun r w' => r = .returned (.bool true) ∧ Kept w w' :=by
  have hw :=fun W => made W X e (Nat.lt_trans hX (by decide)) (by omega) (by omega)
  have hlen :=txt_length X 20 (by decide) hX
  have hfi :=fun W => dec_fromInt W 1000000 (by decide) (by decide)
  obtain ⟨s,hse⟩ : ∃ s,bs (txt X) = s :=⟨_,rfl⟩
  have hsz : s.size ≤ 21 :=by rw [← hse,bs_size];exact hlen
  have hcmp : ∀ W b1 b2,Glob W → IntAt W b1 X.natAbs → IntAt W b2 1000000 → Calls Tryz.prog 55 #[dv b1 e,dv b2 0] W fun r w' => ∃ z : Int,z ≤ 0 ∧ r = .returned (.int .i64 z) ∧ Kept W w' :=by
    intro W b1 b2 hg' i1 i2
    rcases Int.lt_or_le e 0 with he | he
    · refine (dec_cmp_lt W hg' b1 b2 e 0 X.natAbs 1000000 i1 i2 ?_ (by decide) he (by omega) (by omega) (by decide) (by decide) (by omega)).mono ?_
      · simp only [Int.natAbs_natCast]
        exact Nat.lt_trans hX (by decide)
      · rintro r w' ⟨rfl,k⟩
        refine ⟨_,?_,rfl,k⟩
        unfold cmpZ
        have e2 : (0 - e).toNat = (-e).toNat :=by congr 1;omega
        rw [e2]
        have h3 : ((X.natAbs : Nat) : Int) ≤ ((1000000 * 10 ^ (-e).toNat : Nat) : Int) :=by exact_mod_cast hs
        rw [Int.natCast_mul] at h3
        split
        · decide
        · split
          · omega
          · decide
    · obtain rfl : e = 0 :=by omega
      refine (dec_cmp_eq W b1 b2 0 X.natAbs 1000000 i1 i2).mono ?_
      rintro r w' ⟨rfl,k⟩
      refine ⟨_,?_,rfl,k⟩
      unfold cmpZ
      have h3 : ((X.natAbs : Nat) : Int) ≤ 1000000 :=by have h4 : X.natAbs ≤ 1000000 :=(by simpa using hs);omega
      split
      · decide
      · split
        · omega
        · decide
  rw [str_bs,hse] at hw ⊢
  have ce : (Box23 w (.string s) (.int .i64 e)).cell? ⟨w.heap.size,1,none⟩ = some (.int .i64 e) :=by
    rw [World.cell?_alloc_at _ _ _ _ rfl];rfl
  have cs : (Box23 w (.string s) (.int .i64 e)).cell? ⟨w.heap.size,0,none⟩ = some (.string s) :=by
    rw [World.cell?_alloc_at _ _ _ _ rfl];rfl
  have kA : Kept w (Box23 w (.string s) (.int .i64 e)) :=Chg.alloc _ _ _
  have HG :=Lib.hid hg
  clear hs hX hg hlen hse
  go_enter Tryz.func30,Tryz.ntmps30
  go_wp2_with (first
    | (go_at_call 29;refine (hw _).mono ?_;rintro r w1 ⟨b,rfl,hb,k1⟩;have k2 :=kt k1 (boxK w1 (ptr b) (.int .i32 e));have c0 :=Kept.at k2 cs;have c1 :=Kept.at k2 ce)
    | (go_at_call 54;refine (dec_abs _ b e X (hb.at.kept (boxK _ _ _))).mono ?_;rintro r w3 ⟨b3,rfl,hb3,k3⟩)
    | (go_at_call 56;refine (hfi _).mono ?_;rintro r w4 ⟨b4,rfl,hb4,k4⟩)
    | (go_at_call 55;refine (hcmp _ _ _ (HG.out.kept (kt kA (kt k2 (kt k3 k4)))) (hb3.kept k4) hb4.at).mono ?_;rintro r w5 ⟨z,hz,rfl,k5⟩))
  first | go_ret | refine ⟨_,results_tmp rfl _ _ _,?_⟩
  exact ⟨rfl,kt kA (kt k2 (kt k3 (kt k4 k5)))⟩
end Go.Proofs.YtfmmdamgcpiciaaGreatDoor
namespace Go.Proofs.YtfmmdamgcpiciaaGreatDoor
open Go Go.RowKit
def sinR (X : Int) (k : Nat) : Dc :=if X = 0 then ⟨0,-(k : Int)⟩ else sinOf X k
theorem sinOf_bd (X : Int) (k : Nat) (hk : k ≤ 18) (hN : X.natAbs < 10 ^ (k + 1)) : Bd (sinOf X k) 500 ∧ -465 ≤ (sinOf X k).e ∧ (sinOf X k).e ≤ 0 :=by
  obtain ⟨j,hj⟩ : ∃ j,X.natAbs * 12732395447351625 / 10 ^ (k + 16) = j :=⟨_,rfl⟩
  obtain ⟨q1,q2,q3,q4⟩ :=zD_bound hk hN hj
  obtain ⟨y1,y2,y3,y4⟩ :=yD_facts (small_angle hN hj)
  unfold sinOf
  simp only
  rw [hj]
  generalize zD ⟨(X.natAbs : Int),-(k : Int)⟩ (yD j) = Z at *
  have a1 :=sin_steps Z _ rfl q4 (by omega) (by omega)
  have a2 :=cos_steps Z _ rfl q4 (by omega) (by omega)
  obtain ⟨M1,A1,M2,A2,M3,A3,M4,A4,M5,A5,V1,V2,-,-,-,-,-,-,-,-,-,-,-,-,-,b1,b2,b3⟩ :=a1
  obtain ⟨M1,A1,M2,A2,M3,A3,M4,A4,M5,A5,V1,V2,H,D,-,-,-,-,-,-,-,-,-,-,-,-,-,-,-,c1,c2,c3⟩ :=a2
  have hP : ∀ g : Bool,Bd (if g then cosD Z else sinD Z) 500 ∧ -465 ≤ (if g then cosD Z else sinD Z).e ∧ (if g then cosD Z else sinD Z).e ≤ 0 :=by
    intro g
    cases g
    · exact ⟨b1.le (by decide),by simp;omega,by simpa using b3⟩
    · exact ⟨c1,by simpa using c2,by simpa using c3⟩
  obtain ⟨p1,p2,p3⟩ :=hP (decide ((j + j % 2) % 8 % 4 = 1 ∨ (j + j % 2) % 8 % 4 = 2))
  generalize (if decide ((j + j % 2) % 8 % 4 = 1 ∨ (j + j % 2) % 8 % 4 = 2) then cosD Z else sinD Z) = P at *
  split
  · exact ⟨by unfold Bd Dc.neg at *;simpa using p1,p2,p3⟩
  · exact ⟨p1,p2,p3⟩
theorem sin_zero (w : World) (hg : Glob w) (hF : GlobF w) (b : Nat) (e : Int) (hX : IntAt w b 0) : Calls Tryz.prog 32 #[dv b e] w fun r w' => r = .returned (dv b e) ∧ Kept w w' :=by
  have F :=(Fm.start hg hF).old hX
  have hz : ∀ W,IntAt W b 0 → Calls Tryz.prog 64 #[dv b e] W fun r w' => r = .returned (.bool true) ∧ Kept W w' :=fun W hW => by
    have :=dec_isZero W b e 0 hW
    rw [decide_eq_true rfl] at this;exact this
  go_enter Tryz.func32,Tryz.ntmps32
  go_wp2_with (first
    | (go_at_call 60;(refine (dec_pi4A _ ((hF.kept (boxK w _ _)).kept (boxK _ _ _))).mono ?_);rintro r w1 ⟨b1,rfl,n1,k1⟩;have F :=((F.box (ptr b) (.int .i32 e)).box (.pointer none) (.int .i32 0)).new n1 k1)
    | (go_at_call 61;(refine (dec_pi4B _ F.globF).mono ?_);rintro r w2 ⟨b2,rfl,n2,k2⟩;replace F :=F.new n2 k2)
    | (go_at_call 62;(refine (dec_pi4C _ F.globF).mono ?_);rintro r w3 ⟨b3,rfl,n3,k3⟩;replace F :=F.new n3 k3)
    | (go_at_call 63;(refine (dec_m4PI _ F.globF).mono ?_);rintro r w4 ⟨b4,rfl,n4,k4⟩;replace F :=((((F.new n4 k4).box (ptr b1) (.int .i32 (-16))).box (ptr b2) (.int .i32 (-23))).box (ptr b3) (.int .i32 (-31))).box (ptr b4) (.int .i32 (-16));simp only [Box,World.size_alloc] at F;obtain ⟨c0,c1,_,_⟩ :=F.at 5 rfl)
    | (go_at_call 64;(refine (hz _ (F.iat 4 rfl)).mono ?_);rintro r w6 ⟨rfl,k6⟩;replace F :=F.go k6;obtain ⟨c0,c1,_,_⟩ :=F.at 5 rfl;obtain ⟨r0,r1,rf0,rf1⟩ :=F.at 4 rfl;have r2 :=cs_ne (u :=ptr b) r1 (b' :=w.heap.size + 1) (o' :=0) (by omega)))
  have S : Slot w6 (w.heap.size + 1) :=⟨⟨_,r0⟩,⟨_,r1⟩,F.nf (x :=.pointer none) (y :=.int .i32 0) (by simp)⟩
  exact bodyPost_ret (v :=dv b e) (results_dec rfl rfl (put2_0 S _ _) (put2_1 S _ _)) rfl ⟨rfl,F.kept.keptNew (put2_chg _ _ _ _) fun b' _ h => by omega⟩
theorem dec_sin (w : World) (hg : Glob w) (hF : GlobF w) (b k : Nat) (X e : Int) (hX : IntAt w b X) (hk : k ≤ 18) (hek : e = -(k : Int)) (hN : X.natAbs < 10 ^ (k + 1)) : Calls Tryz.prog 32 #[dv b e] w fun r w' => ∃ b',r = .returned (dv b' (sinR X k).e) ∧ IntAt w' b' (sinR X k).m ∧ Kept w w' :=by
  unfold sinR
  by_cases h0 : X = 0
  · subst h0
    rw [if_pos rfl,← hek]
    refine (sin_zero w hg hF b e hX).mono ?_
    rintro r w' ⟨rfl,k⟩
    exact ⟨b,rfl,hX.kept k,k⟩
  · rw [if_neg h0]
    refine (sin0 w hg hF b k X e hX h0 hk hek hN).mono ?_
    rintro r w' ⟨b',rfl,n,k⟩
    exact ⟨b',rfl,n.at,k⟩
theorem sinR_bd (X : Int) (k : Nat) (hk : k ≤ 18) (hN : X.natAbs < 10 ^ (k + 1)) : (sinR X k).m.natAbs < 10 ^ 1000 ∧ -465 ≤ (sinR X k).e ∧ (sinR X k).e ≤ 0 :=by
  unfold sinR
  split
  · refine ⟨?_,by simp only;omega,by simp only;omega⟩
    simp only [Int.natAbs_zero]
    exact Nat.pow_pos (by decide)
  · obtain ⟨h1,h2,h3⟩ :=sinOf_bd X k hk hN
    exact ⟨Nat.lt_of_le_of_lt h1 (Nat.pow_lt_pow_right (by decide) (by decide)),h2,h3⟩
theorem info3 : (Tryz.prog.info? 3).map (fun i => (i.zero,i.size,i.bytes)) = some (some (.int .i64 0),1,8) :=by kernel_rfl
theorem sin_catch (p q : Nat) (w : World) : CallsD Tryz.prog 28 #[ptr p,ptr q] .returning w fun e u' w' => e = .returned (.tuple #[]) ∧ u' = .returning ∧ w' = w :=by
  refine callsD_of_wpS Tryz.func28 rfl fun c₀ cs hu => ?_
  apply wpS_seq
  apply wpS_region
  simp [wpOpsS,go_sem,recoverD,hu,Tryz.ntmps28,Exit.thenS]
  refine wpS_cond (t :=false) (by simp [Act.eval,Array.replicate]) ?_
  simp only [Bool.false_eq_true,if_false]
  refine wpS_of_wp (wp_skip ?_)
  cases c₀
  simp_all [bodyPostS,results,Tryz.results28]
theorem results_pd_int {fn : Func} {t u r q : Nat} {tmps : Array Value} {w : World} {x y z : Value} (h : fn.results = #[.cell t 23,.cell u 3]) (hp : tmps.getD t undef = ptr r) (hq : tmps.getD u undef = ptr q) (h0 : w.cell? ⟨r,0,none⟩ = some x) (h1 : w.cell? ⟨r,1,none⟩ = some y) (h2 : w.cell? ⟨q,0,none⟩ = some z) :
    (results fn tmps).run Tryz.prog w = .ok (.tuple #[.agg #[x,y],z]) w :=by
  obtain ⟨i0,hi,hz0,hz1,hz2⟩ :=info_parts info23
  obtain ⟨i1,hj,hj0,hj1,hj2⟩ :=info_parts info3
  have hp' : tmps[t]?.getD undef = ptr r :=by simpa using hp
  have hq' : tmps[u]?.getD undef = ptr q :=by simpa using hq
  simp [results,h,hp',hq',go_sem,hi,hz1,hj,hj1,h0,h1,h2]
theorem impl_sin (w : World) (hg : Glob w) (hF : GlobF w) (k : Nat) (X e : Int) (hk : k ≤ 18) (hek : e = -(k : Int)) (hN : X.natAbs < 10 ^ (k + 1)) : Calls Tryz.prog 7 #[pd (str (txt X)) e] w fun r w' => r = .returned (.tuple #[pd (str (txt (sinR X k).m)) (sinR X k).e,.int .i64 0]) ∧ Kept w w' :=by
  have hmf : ∀ (fn : Fn) (first cap : Array Value) (w : World),(Instr.makeFunc fn first cap).run Tryz.prog w = .ok (.func fn first cap) w :=fun _ _ _ _ => rfl
  have hp18 : 10 ^ (k + 1) ≤ 10 ^ 19 :=Nat.pow_le_pow_right (by decide) (by omega)
  have hX20 : X.natAbs < 10 ^ 20 :=Nat.lt_of_lt_of_le hN (Nat.le_trans hp18 (by decide))
  have hmade :=fun W => made W X e (Nat.lt_trans hX20 (by decide)) (by omega) (by omega)
  have hmild :=fun W hG => mild W hG X e hX20 (by omega) (by omega) (by
    have e1 : (-e).toNat = k :=by omega
    rw [e1]
    have : 10 ^ (k + 1) = 10 * 10 ^ k :=by rw [Nat.pow_succ,Nat.mul_comm]
    omega)
  have hsin :=fun W b (hG : Glob W) (hF : GlobF W) (h : IntAt W b X) => dec_sin W hG hF b k X e h hk hek hN
  obtain ⟨r1,r2,r3⟩ :=sinR_bd X k hk hN
  have hdec :=fun W b (h : IntAt W b (sinR X k).m) => impl_dec W b (sinR X k).e (sinR X k).m h r1 (by omega) (by omega)
  obtain ⟨s,hs⟩ : ∃ s,str (txt X) = .string s :=⟨_,rfl⟩
  obtain ⟨t,ht⟩ : ∃ t,str (txt (sinR X k).m) = .string t :=⟨_,rfl⟩
  obtain ⟨R,hR⟩ : ∃ R,sinR X k = R :=⟨_,rfl⟩
  rw [hs] at hmade hmild ⊢
  rw [ht] at hdec ⊢
  rw [hR] at hdec hsin ⊢
  have HG :=Lib.hid (And.intro hg hF)
  clear hg hF hp18 hX20 r1 r2 r3 hN hs ht hR hek
  have ce : ∀ W,Kept (Box23 w (.string s) (.int .i64 e)) W → W.cell? ⟨w.heap.size,1,none⟩ = some (.int .i64 e) ∧ W.cell? ⟨w.heap.size,0,none⟩ = some (.string s) :=fun W k => ⟨Kept.at k (by rw [World.cell?_alloc_at _ _ _ _ rfl];rfl),Kept.at k (by rw [World.cell?_alloc_at _ _ _ _ rfl];rfl)⟩
  have k0 : Kept w (((w.alloc (Obj.cells #[.string s,.int .i64 e] 23)).alloc (Obj.cells #[.string { data :=#[] },.int .i64 0] 23)).alloc (Obj.cells #[.int .i64 0] 3)) :=kt (kt (Chg.alloc _ _ _) (Chg.alloc _ _ _)) (Chg.alloc _ _ _)
  have kb : Kept (Box23 w (.string s) (.int .i64 e)) (((w.alloc (Obj.cells #[.string s,.int .i64 e] 23)).alloc (Obj.cells #[.string { data :=#[] },.int .i64 0] 23)).alloc (Obj.cells #[.int .i64 0] 3)) :=kt (Chg.alloc _ _ _) (Chg.alloc _ _ _)
  have e1 : (Box23 w (.string s) (.int .i64 e)).heap.size = w.heap.size + 1 :=by simp
  have S0 : Slot (((w.alloc (Obj.cells #[.string s,.int .i64 e] 23)).alloc (Obj.cells #[.string { data :=#[] },.int .i64 0] 23)).alloc (Obj.cells #[.int .i64 0] 3)) (w.heap.size + 1) :=by
    have :=(slot23 (Box23 w (.string s) (.int .i64 e)) (.string { data :=#[] }) (.int .i64 0)).kept (Chg.alloc _ (Obj.cells #[.int .i64 0] 3) None2)
    rw [e1] at this;exact this
  have z0 : (((w.alloc (Obj.cells #[.string s,.int .i64 e] 23)).alloc (Obj.cells #[.string { data :=#[] },.int .i64 0] 23)).alloc (Obj.cells #[.int .i64 0] 3)).cell? ⟨w.heap.size + 2,0,none⟩ = some (.int .i64 0) :=by
    rw [World.cell?_alloc_at _ _ _ _ (by simp)];rfl
  have zf : NF (((w.alloc (Obj.cells #[.string s,.int .i64 e] 23)).alloc (Obj.cells #[.string { data :=#[] },.int .i64 0] 23)).alloc (Obj.cells #[.int .i64 0] 3)) (w.heap.size + 2) :=by
    have :=NF.made ((w.alloc (Obj.cells #[.string s,.int .i64 e] 23)).alloc (Obj.cells #[.string { data :=#[] },.int .i64 0] 23)) #[.int .i64 0] 3
    simpa using this
  have zl :=lt_of_cell z0
  obtain ⟨W0,hW0⟩ : ∃ W,(((w.alloc (Obj.cells #[.string s,.int .i64 e] 23)).alloc (Obj.cells #[.string { data :=#[] },.int .i64 0] 23)).alloc (Obj.cells #[.int .i64 0] 3)) = W :=⟨_,rfl⟩
  rw [hW0] at k0 kb S0 z0 zf zl
  have HW :=Lib.hid hW0
  clear hW0
  go_enter_defers Tryz.func7,Tryz.ntmps7
  go_wp2_with (first
    | (go_at_call 29;rw [HW.out];refine (hmade _).mono ?_;rintro r w1 ⟨b,rfl,hb,k1⟩;have kr :=kt k1 (boxK w1 (ptr b) (.int .i32 e));obtain ⟨c1,c0⟩ :=ce _ (kt kb kr))
    | (go_at_call 30;refine (hmild _ (HG.out.1.kept (kt k0 kr))).mono ?_;rintro r w3 ⟨rfl,k3⟩;replace kr :=kt kr k3;have d0 :=Kept.at k3 (box0 w1 (ptr b) (.int .i32 e));have d1 :=Kept.at k3 (box1 w1 (ptr b) (.int .i32 e)))
    | (go_at_call 32;refine (hsin _ b (HG.out.1.kept (kt k0 kr)) (HG.out.2.kept (kt k0 kr)) ((hb.at.kept (boxK _ _ _)).kept k3)).mono ?_;rintro r w4 ⟨b4,rfl,n4,k4⟩;replace kr :=kt kr k4)
    | (go_at_call 31;refine (hdec _ b4 n4).mono ?_;rintro r w5 ⟨rfl,k5⟩;replace kr :=kt kr k5;have S :=S0.kept kr;obtain ⟨⟨u0,s0⟩,⟨u1,s1⟩,sf⟩ :=id S;have f0 :=sf 0;have f1 :=sf 1;have s2 :=cs_ne (u :=.string t) s1 (b' :=w.heap.size + 1) (o' :=0) (by omega);have y0 :=Kept.at kr z0;have yf :=(zf.chg zl kr) 0;have y1 :=cs_ne (u :=.int .i64 R.e) (cs_ne (u :=.string t) y0 (b' :=w.heap.size + 1) (o' :=0) (by omega)) (b' :=w.heap.size + 1) (o' :=1) (by omega)))
  refine leaves_cons (f :=28) (args :=#[ptr (w.heap.size + 1),ptr (w.heap.size + 1 + 1)]) (by simp) (by simp [go_sem]) ?_
  refine (sin_catch _ _ _).mono ?_
  rintro e' u' w'' ⟨rfl,rfl,rfl⟩
  have p0 :=cs_ne (u :=.int .i64 0) (put2_0 S (.string t) (.int .i64 R.e)) (b' :=w.heap.size + 1 + 1) (o' :=0) (by omega)
  have p1 :=cs_ne (u :=.int .i64 0) (put2_1 S (.string t) (.int .i64 R.e)) (b' :=w.heap.size + 1 + 1) (o' :=0) (by omega)
  have p2 :=cell_setCell_eq (v :=.int .i64 0) y1
  refine ⟨_,results_pd_int (t :=2) (u :=3) (r :=w.heap.size + 1) (q :=w.heap.size + 1 + 1) rfl rfl rfl p0 p1 p2,rfl,?_⟩
  exact ((kt k0 kr).keptNew (put2_chg _ _ _ _) fun b' _ h => by omega).keptNew (Chg.setCell _ (w.heap.size + 1 + 1) 0 _ (fun b' _ => b' = w.heap.size + 1 + 1) fun _ => rfl) fun b' _ h => by omega
end Go.Proofs.YtfmmdamgcpiciaaGreatDoor
namespace Go.Proofs.YtfmmdamgcpiciaaGreatDoor
open Go Go.RowKit
theorem neg_neg_dc (P : Dc) : P.neg.neg = P :=by
  unfold Dc.neg
  simp
theorem flip_neg (P : Dc) (a b : Bool) : (if (!a ^^ b) = true then P.neg else P) = (if (a ^^ b) = true then P.neg else P).neg :=by
  cases a <;> cases b <;> simp [neg_neg_dc]
theorem sinR_neg (X : Int) (k : Nat) : sinR (-X) k = (sinR X k).neg :=by
  unfold sinR
  by_cases h : X = 0
  · subst h
    simp [Dc.neg]
  · rw [if_neg (by omega),if_neg h]
    unfold sinOf
    simp only [Int.natAbs_neg]
    have hd : decide (-X < 0) = !decide (X < 0) :=by
      rw [Bool.eq_iff_iff]
      simp
      omega
    rw [hd]
    exact flip_neg _ _ _
end Go.Proofs.YtfmmdamgcpiciaaGreatDoor
namespace Go.Proofs.YtfmmdamgcpiciaaGreatDoor
open Go Go.RowKit
open Plain
def horI (u : Int) : Nat → Int → List Dc → Int
  | _,a,[] => a
  | n,a,C :: r => horI u (n + 62) (a * u + C.sc (n + 62)) r
theorem hor_sc (U : Dc) (hu : 0 ≤ U.e + (62 : Nat)) : ∀ (l : List Dc) (A : Dc) (n : Nat),0 ≤ A.e + n → (∀ C ∈ l,0 ≤ C.e + n) → (hor U A l).sc (n + 62 * l.length) = horI (U.sc 62) n (A.sc n) l ∧ 0 ≤ (hor U A l).e + ((n + 62 * l.length : Nat) : Int)
  | [],A,n,h,_ => ⟨rfl,h⟩
  | C :: r,A,n,h,hl => by
    have hC :=hl C (List.mem_cons_self ..)
    have e1 : (A.mul U).e = A.e + U.e :=rfl
    have e2 : ((A.mul U).add C).e = min (A.mul U).e C.e :=rfl
    have s1 :=sc_mul A U n 62 h hu
    have s2 :=sc_add (A.mul U) C (n + 62) (by omega) (by omega)
    have ih :=hor_sc U hu r ((A.mul U).add C) (n + 62) (by omega) (fun D hD => by have :=hl D (List.mem_cons_of_mem _ hD);omega)
    rw [s2,s1] at ih
    rw [show n + 62 * (C :: r).length = n + 62 + 62 * r.length by rw [List.length_cons];omega]
    exact ih
theorem ring_sin (z a c5 c4 c3 c2 c1 c0 : Int) : z * a + z * (z * z) * (((((c0 * (z * z) + c1) * (z * z) + c2) * (z * z) + c3) * (z * z) + c4) * (z * z) + c5) = ev [0,a,0,c5,0,c4,0,c3,0,c2,0,c1,0,c0] z :=by
  simp only [ev]
  grind
theorem ring_cos (z a b c5 c4 c3 c2 c1 c0 : Int) : (a - b * (z * z)) + (z * z) * (z * z) * (((((c0 * (z * z) + c1) * (z * z) + c2) * (z * z) + c3) * (z * z) + c4) * (z * z) + c5) = ev [a,0,-b,0,c5,0,c4,0,c3,0,c2,0,c1,0,c0] z :=by
  simp only [ev]
  grind
theorem sinC_ge : ∀ C ∈ [sinC 1,sinC 2,sinC 3,sinC 4,sinC 5],0 ≤ C.e + (62 : Nat) :=by
  simp only [List.forall_mem_cons,List.not_mem_nil,false_imp_iff,implies_true,and_true,sinC]
  decide
theorem cosC_ge : ∀ C ∈ [cosC 1,cosC 2,cosC 3,cosC 4,cosC 5],0 ≤ C.e + (31 : Nat) :=by
  simp only [List.forall_mem_cons,List.not_mem_nil,false_imp_iff,implies_true,and_true,cosC]
  decide
theorem polS_eq : polS = [0,10 ^ 434,0,(sinC 5).sc 372,0,(sinC 4).sc 310,0,(sinC 3).sc 248,0,(sinC 2).sc 186,0,(sinC 1).sc 124,0,(sinC 0).sc 62] :=by decide +kernel
theorem polC_eq : polC = [(⟨1,0⟩ : Dc).sc 465,0,-((⟨5,-1⟩ : Dc).sc 403),0,(cosC 5).sc 341,0,(cosC 4).sc 279,0,(cosC 3).sc 217,0,(cosC 2).sc 155,0,(cosC 1).sc 93,0,(cosC 0).sc 31] :=by decide +kernel
theorem sinD_sc (Z : Dc) (hz : 0 ≤ Z.e + (31 : Nat)) : (sinD Z).sc 465 = ev polS (Z.sc 31) :=by
  have u1 :=sc_mul Z Z 31 31 hz hz
  have ue : (Z.mul Z).e = Z.e + Z.e :=rfl
  have hh :=hor_sc (Z.mul Z) (by omega) [sinC 1,sinC 2,sinC 3,sinC 4,sinC 5] (sinC 0) 62 (by decide) sinC_ge
  have v1 :=sc_mul Z (Z.mul Z) 31 62 hz (by omega)
  have v1e : (Z.mul (Z.mul Z)).e = Z.e + (Z.mul Z).e :=rfl
  have v2 :=sc_mul (Z.mul (Z.mul Z)) (sinP (Z.mul Z)) 93 372 (by omega) hh.2
  have v2e : ((Z.mul (Z.mul Z)).mul (sinP (Z.mul Z))).e = (Z.mul (Z.mul Z)).e + (sinP (Z.mul Z)).e :=rfl
  have pe : 0 ≤ (sinP (Z.mul Z)).e + ((372 : Nat) : Int) :=hh.2
  have a1 :=sc_add Z ((Z.mul (Z.mul Z)).mul (sinP (Z.mul Z))) 465 (by omega) (by omega)
  have zu :=sc_up Z 31 465 hz (by decide)
  have p1 : (sinP (Z.mul Z)).sc 372 = horI ((Z.mul Z).sc 62) 62 ((sinC 0).sc 62) [sinC 1,sinC 2,sinC 3,sinC 4,sinC 5] :=hh.1
  rw [show (sinD Z).sc 465 = (Z.add ((Z.mul (Z.mul Z)).mul (sinP (Z.mul Z)))).sc 465 from rfl,a1,zu]
  rw [show (465 : Nat) = 93 + 372 from rfl]
  rw [v2,v1,p1,u1,polS_eq,← ring_sin]
  simp only [horI]
  rfl
theorem cosD_sc (Z : Dc) (hz : 0 ≤ Z.e + (31 : Nat)) : (cosD Z).sc 465 = ev polC (Z.sc 31) :=by
  have u1 :=sc_mul Z Z 31 31 hz hz
  have ue : (Z.mul Z).e = Z.e + Z.e :=rfl
  have hh :=hor_sc (Z.mul Z) (by omega) [cosC 1,cosC 2,cosC 3,cosC 4,cosC 5] (cosC 0) 31 (by decide) cosC_ge
  have v1 :=sc_mul (Z.mul Z) (Z.mul Z) 62 62 (by omega) (by omega)
  have v1e : ((Z.mul Z).mul (Z.mul Z)).e = (Z.mul Z).e + (Z.mul Z).e :=rfl
  have pe : 0 ≤ (cosP (Z.mul Z)).e + ((341 : Nat) : Int) :=hh.2
  have v2 :=sc_mul ((Z.mul Z).mul (Z.mul Z)) (cosP (Z.mul Z)) 124 341 (by omega) hh.2
  have v2e : (((Z.mul Z).mul (Z.mul Z)).mul (cosP (Z.mul Z))).e = ((Z.mul Z).mul (Z.mul Z)).e + (cosP (Z.mul Z)).e :=rfl
  have he : ((⟨5,-1⟩ : Dc).mul (Z.mul Z)).e = -1 + (Z.mul Z).e :=rfl
  have h1 :=sc_mul (⟨5,-1⟩ : Dc) (Z.mul Z) 403 62 (by decide) (by omega)
  have d1 :=sc_sub (⟨1,0⟩ : Dc) ((⟨5,-1⟩ : Dc).mul (Z.mul Z)) 465 (by decide) (by omega)
  have de : ((⟨1,0⟩ : Dc).sub ((⟨5,-1⟩ : Dc).mul (Z.mul Z))).e = min 0 ((⟨5,-1⟩ : Dc).mul (Z.mul Z)).e :=rfl
  have a1 :=sc_add ((⟨1,0⟩ : Dc).sub ((⟨5,-1⟩ : Dc).mul (Z.mul Z))) (((Z.mul Z).mul (Z.mul Z)).mul (cosP (Z.mul Z))) 465 (by omega) (by omega)
  have p1 : (cosP (Z.mul Z)).sc 341 = horI ((Z.mul Z).sc 62) 31 ((cosC 0).sc 31) [cosC 1,cosC 2,cosC 3,cosC 4,cosC 5] :=hh.1
  have g1 : ((⟨5,-1⟩ : Dc).mul (Z.mul Z)).sc 465 = (⟨5,-1⟩ : Dc).sc 403 * (Z.mul Z).sc 62 :=h1
  have g2 : (((Z.mul Z).mul (Z.mul Z)).mul (cosP (Z.mul Z))).sc 465 = ((Z.mul Z).mul (Z.mul Z)).sc 124 * (cosP (Z.mul Z)).sc 341 :=v2
  have g3 : ((Z.mul Z).mul (Z.mul Z)).sc 124 = (Z.mul Z).sc 62 * (Z.mul Z).sc 62 :=v1
  have g4 : (Z.mul Z).sc 62 = Z.sc 31 * Z.sc 31 :=u1
  rw [show (cosD Z).sc 465 = (((⟨1,0⟩ : Dc).sub ((⟨5,-1⟩ : Dc).mul (Z.mul Z))).add (((Z.mul Z).mul (Z.mul Z)).mul (cosP (Z.mul Z)))).sc 465 from rfl,a1,d1,g1,g2,g3,p1,g4,polC_eq,← ring_cos]
  rfl
theorem sin_near2 {sg c z x V : Int} {P : List Int} (h : okS sg P c = true) (hz : z.natAbs ≤ R31) (hx : x = 1000000000 * (z + c)) (hx2 : x.natAbs ≤ 10 * D40) (hV : V = sg * ev P z) : ((V * 10 ^ 40 - 10 ^ 465 * sumS x).natAbs : Int) * 10 ^ 13 < 10 ^ 505 :=by
  subst hV
  exact sin_near h hz hx hx2
theorem sinR_sc (N k : Nat) (hk : k ≤ 18) (hN : N < 10 ^ (k + 1)) (h0 : N ≠ 0) : ∃ sg c z P,okS sg P c = true ∧ z.natAbs ≤ R31 ∧ (N : Int) * ((10 ^ (40 - k) : Nat) : Int) = 1000000000 * (z + c) ∧ (sinR (N : Int) k).sc 465 = sg * ev P z :=by
  obtain ⟨j,hj⟩ : ∃ j,N * 12732395447351625 / 10 ^ (k + 16) = j :=⟨_,rfl⟩
  have hj12 :=small_angle hN hj
  obtain ⟨y1,y2,y3,y4⟩ :=yD_facts hj12
  obtain ⟨q1,q2,q3,q4⟩ :=zD_bound hk hN hj
  have hok : okS (sgJ (j + j % 2)) (polJ (j + j % 2)) (((j + j % 2 : Nat) : Int) * c31) = true :=by
    have h :=okJ_all hj12
    unfold okJ at h
    exact h
  have hS : (⟨(N : Int),-(k : Int)⟩ : Dc).sc 31 = (N : Int) * ((10 ^ (31 - k) : Nat) : Int) :=by
    unfold Dc.sc
    simp only
    rw [show (-(k : Int) + (31 : Nat)).toNat = 31 - k by omega]
  obtain ⟨Z,hZ⟩ : ∃ Z,zD ⟨(N : Int),-(k : Int)⟩ (yD j) = Z :=⟨_,rfl⟩
  rw [hZ] at q1 q2 q3
  have hx : (N : Int) * ((10 ^ (40 - k) : Nat) : Int) = 1000000000 * (Z.sc 31 + ((j + j % 2 : Nat) : Int) * c31) :=by
    rw [q2,hS,show p4 = c31 from p4_eq,Int.sub_add_cancel,show 40 - k = (31 - k) + 9 by omega,← ten_add]
    have : ((10 ^ 9 : Nat) : Int) = 1000000000 :=by decide
    rw [this]
    grind
  refine ⟨_,_,_,_,hok,q1,hx,?_⟩
  have hd : decide ((N : Int) < 0) = false :=decide_eq_false (by omega)
  have hj' : (N : Int).natAbs * 12732395447351625 / 10 ^ (k + 16) = j :=by rw [Int.natAbs_natCast];exact hj
  have hR : sinR (N : Int) k = if decide (3 < (j + j % 2) % 8) = true then (if decide ((j + j % 2) % 8 % 4 = 1 ∨ (j + j % 2) % 8 % 4 = 2) = true then cosD Z else sinD Z).neg else (if decide ((j + j % 2) % 8 % 4 = 1 ∨ (j + j % 2) % 8 % 4 = 2) = true then cosD Z else sinD Z) :=by
    unfold sinR
    rw [if_neg (by omega)]
    unfold sinOf
    simp only
    rw [hj',Int.natAbs_natCast,hZ,hd,Bool.false_xor]
  rw [hR]
  have hP : (if decide ((j + j % 2) % 8 % 4 = 1 ∨ (j + j % 2) % 8 % 4 = 2) = true then cosD Z else sinD Z).sc 465 = ev (polJ (j + j % 2)) (Z.sc 31) :=by
    have c :=cosD_sc Z (by omega)
    have s :=sinD_sc Z (by omega)
    unfold polJ
    by_cases h : (j + j % 2) % 8 % 4 = 1 ∨ (j + j % 2) % 8 % 4 = 2
    · rw [if_pos (decide_eq_true h),if_pos h];exact c
    · rw [if_neg (by simpa using h),if_neg h];exact s
  obtain ⟨P,hPP⟩ : ∃ P,(if decide ((j + j % 2) % 8 % 4 = 1 ∨ (j + j % 2) % 8 % 4 = 2) = true then cosD Z else sinD Z) = P :=⟨_,rfl⟩
  rw [hPP] at hP ⊢
  rw [← hP]
  unfold sgJ
  by_cases h : 3 < (j + j % 2) % 8
  · rw [if_pos (decide_eq_true h),if_pos h,sc_neg,Int.neg_one_mul]
  · rw [if_neg (by simpa using h),if_neg h,Int.one_mul]
theorem x_le (N k : Nat) (hk : k ≤ 18) (hN : N < 10 ^ (k + 1)) : ((N : Int) * ((10 ^ (40 - k) : Nat) : Int)).natAbs ≤ 10 * D40 :=by
  rw [Int.natAbs_mul,Int.natAbs_natCast,Int.natAbs_natCast]
  have h1 :=Nat.mul_le_mul_right (10 ^ (40 - k)) (Nat.le_of_lt hN)
  rw [← Nat.pow_add,show k + 1 + (40 - k) = 41 by omega] at h1
  exact Nat.le_trans h1 (by decide +kernel)
theorem sinR_near (N k : Nat) (hk : k ≤ 18) (hN : N < 10 ^ (k + 1)) (h0 : N ≠ 0) : ((((sinR (N : Int) k).sc 465) * 10 ^ 40 - 10 ^ 465 * sumS ((N : Int) * ((10 ^ (40 - k) : Nat) : Int))).natAbs : Int) * 10 ^ 13 < 10 ^ 505 :=by
  obtain ⟨sg,c,z,P,h1,h2,h3,h4⟩ :=sinR_sc N k hk hN h0
  exact sin_near2 h1 h2 h3 (x_le N k hk hN) h4
theorem down {m S P Q : Int} (hQ : 0 < Q) (h : ((m * Q * 10 ^ 40 - P * Q * S).natAbs : Int) * 10 ^ 13 < P * Q * 10 ^ 40) : ((m * 10 ^ 40 - S * P).natAbs : Int) * 10 ^ 13 < P * 10 ^ 40 :=by
  have e1 : m * Q * 10 ^ 40 - P * Q * S = Q * (m * 10 ^ 40 - S * P) :=by grind
  rw [e1,Int.natAbs_mul,Int.natCast_mul,Int.natAbs_of_nonneg (Int.le_of_lt hQ)] at h
  have e2 : P * Q * 10 ^ 40 = Q * (P * 10 ^ 40) :=by grind
  rw [e2,Int.mul_assoc] at h
  exact Int.lt_of_mul_lt_mul_left h (Int.le_of_lt hQ)
theorem sinR_law (X : Int) (k : Nat) (hk : k ≤ 18) (hN : X.natAbs < 10 ^ (k + 1)) : (((sinR X k).m * 10 ^ 40 - sumS (X * ((10 ^ (40 - k) : Nat) : Int)) * ((10 ^ (-(sinR X k).e).toNat : Nat) : Int)).natAbs : Int) * 10 ^ 13 < ((10 ^ (-(sinR X k).e).toNat : Nat) : Int) * 10 ^ 40 :=by
  have pos : ∀ N : Nat,N < 10 ^ (k + 1) → N ≠ 0 → (((sinR (N : Int) k).m * 10 ^ 40 - sumS ((N : Int) * ((10 ^ (40 - k) : Nat) : Int)) * ((10 ^ (-(sinR (N : Int) k).e).toNat : Nat) : Int)).natAbs : Int) * 10 ^ 13 < ((10 ^ (-(sinR (N : Int) k).e).toNat : Nat) : Int) * 10 ^ 40 :=by
    intro N hN h0
    have h :=sinR_near N k hk hN h0
    obtain ⟨-,b1,b2⟩ :=sinR_bd (N : Int) k hk (by rw [Int.natAbs_natCast];exact hN)
    generalize sinR (N : Int) k = R at *
    unfold Dc.sc at h
    have e1 : (10 : Int) ^ 465 = ((10 ^ (-R.e).toNat : Nat) : Int) * ((10 ^ (R.e + (465 : Nat)).toNat : Nat) : Int) :=by
      rw [ten_add,show (-R.e).toNat + (R.e + (465 : Nat)).toNat = 465 by omega,Int.natCast_pow]
      rfl
    have e2 : (10 : Int) ^ 505 = 10 ^ 465 * 10 ^ 40 :=by rw [← Int.pow_add]
    rw [e2,e1] at h
    exact down (Int.natCast_pos.2 (Nat.pow_pos (by decide))) h
  by_cases h0 : X = 0
  · subst h0
    have hs : sumS 0 = 0 :=by have :=sumS_neg 0;rw [Int.neg_zero] at this;omega
    rw [Int.zero_mul,hs,Int.zero_mul]
    have hm : (sinR 0 k).m = 0 :=rfl
    rw [hm,Int.zero_mul,Int.sub_zero,Int.natAbs_zero]
    have : (0 : Int) < ((10 ^ (-(sinR 0 k).e).toNat : Nat) : Int) :=Int.natCast_pos.2 (Nat.pow_pos (by decide))
    have :=Int.mul_pos this (show (0 : Int) < 10 ^ 40 by decide)
    simpa using this
  · by_cases hn : 0 ≤ X
    · have :=pos X.natAbs hN (by omega)
      rw [Int.natAbs_of_nonneg hn] at this
      exact this
    · have h :=pos X.natAbs hN (by omega)
      rw [show (X.natAbs : Int) = -X by omega,sinR_neg,Int.neg_mul,sumS_neg] at h
      have e1 : (sinR X k).neg.m = -(sinR X k).m :=rfl
      have e2 : (sinR X k).neg.e = (sinR X k).e :=rfl
      rw [e1,e2,Int.neg_mul,Int.neg_mul] at h
      generalize (sinR X k).m * 10 ^ 40 = a at *
      generalize sumS (X * ((10 ^ (40 - k) : Nat) : Int)) * ((10 ^ (-(sinR X k).e).toNat : Nat) : Int) = b at *
      rw [show (-a - -b).natAbs = (a - b).natAbs by omega] at h
      exact h
end Go.Proofs.YtfmmdamgcpiciaaGreatDoor
namespace Go.Proofs.YtfmmdamgcpiciaaGreatDoor
open Go Go.RowKit
abbrev L9 : Nat :=1000000000
theorem T26 : ElemT 26 72 .u32 4 :=⟨by kernel_rfl,by kernel_rfl,by decide⟩
def Rd (w : World) (s : Option Addr) (xs : List Nat) : Prop :=xs = [] ∨ ∃ g,s = some ⟨g,0,none⟩ ∧ Row .u32 w g 0 xs
def Dig (w : World) (s : Option Addr) (n c X : Nat) : Prop :=∃ xs,xs.length = n ∧ n ≤ c ∧ c ≤ maxLen ∧ n ≤ 1048576 ∧ Rd w s xs ∧ Lt L9 xs ∧ Nz xs ∧ val L9 xs = X
theorem Rd.kept {w w' : World} {s : Option Addr} {xs : List Nat} (h : Rd w s xs) (k : Kept w w') : Rd w' s xs :=by
  rcases h with h | ⟨g,h1,h2⟩
  · exact .inl h
  · exact .inr ⟨g,h1,h2.keep k⟩
theorem Rd.row {w : World} {s : Option Addr} {xs : List Nat} (h : Rd w s xs) (hn : xs ≠ []) : ∃ g,s = some ⟨g,0,none⟩ ∧ Row .u32 w g 0 xs :=h.resolve_left hn
theorem Dig.kept {w w' : World} {s : Option Addr} {n c X : Nat} (h : Dig w s n c X) (k : Kept w w') : Dig w' s n c X :=by
  obtain ⟨xs,h1,h2,h3,h4,h5,h6⟩ :=h
  exact ⟨xs,h1,h2,h3,h4,h5.kept k,h6⟩
theorem Rd.of_Sl {w0 w : World} {s : Option Addr} {c : Nat} {xs : List Nat} (h : Sl .u32 w0 w s c xs) : Rd w s xs :=by
  cases s with
  | none => exact .inl (h.nil rfl).1
  | some a =>
    obtain ⟨g,rfl,_,_,h⟩ :=h.own a rfl
    exact .inr ⟨g,rfl,h.row⟩
theorem Rd.take {w : World} {s : Option Addr} {xs : List Nat} (h : Rd w s xs) (n : Nat) : Rd w s (xs.take n) :=by
  rcases h with rfl | ⟨g,h1,h2⟩
  · exact .inl (by simp)
  · exact .inr ⟨g,h1,h2.take n⟩
theorem Dig.len_le {w : World} {s : Option Addr} {n c X k : Nat} (h : Dig w s n c X) (hX : X < L9 ^ k) : n ≤ k :=by
  obtain ⟨xs,h1,h2,h3,h4,h5,h6,h7,h8⟩ :=h
  rcases Nat.eq_zero_or_pos n with rfl | hp
  · exact Nat.zero_le _
  · obtain ⟨m,rfl⟩ : ∃ m,n = m + 1 :=⟨n - 1,by omega⟩
    have :=Nz.le (B :=L9) h7 h1
    rw [h8] at this
    have h9 :=(Nat.pow_lt_pow_iff_right (by decide : 1 < L9)).1 (Nat.lt_of_le_of_lt this hX)
    omega
theorem Dig.zero {w : World} {s : Option Addr} {n c X : Nat} (h : Dig w s n c X) : n = 0 ↔ X = 0 :=by
  constructor
  · rintro rfl
    obtain ⟨xs,h1,h2,h3,h4,h5,h6,h7,h8⟩ :=h
    rw [List.eq_nil_of_length_eq_zero h1] at h8
    exact h8.symm
  · rintro rfl
    have :=h.len_le (k :=0) (by decide)
    omega
theorem natTrim (w : World) (s : Option Addr) (n c : Nat) (xs : List Nat) (hl : xs.length = n) (hc : n ≤ c) (hcm : c ≤ maxLen) (hn : n ≤ 1048576) (hr : Rd w s xs) (hlt : Lt L9 xs) :
    Calls Tryz.prog 80 #[.slice s n c] w fun r w' => w' = w ∧ ∃ n',r = .returned (.slice s n' c) ∧ Dig w s n' c (val L9 xs) :=by
  simp only [maxLen] at hcm
  go_enter Tryz.func80,Tryz.ntmps80
  go_wp2
  go_loop [0] (fun t0 => ∃ m : Nat,m ≤ n ∧ t0 = .slice s m c ∧ trimZ (xs.take m) = trimZ xs) (fun t0 => lenOf t0)
  case atStart => exact ⟨n,Nat.le_refl _,rfl,by rw [List.take_of_length_le (by omega)]⟩
  case round =>
    obtain ⟨m,hm,rfl,htr⟩ :=hrel
    have fin : ∀ m',m' ≤ n → trimZ xs = xs.take m' → Dig w s m' c (val L9 xs) :=fun m' hm' e => by
      refine ⟨xs.take m',by rw [List.length_take,Nat.min_eq_left (by omega)],by omega,by simp only [maxLen];omega,by omega,hr.take _,hlt.take _,?_,?_⟩
      · rw [← e];exact Nz.trimZ xs
      · rw [← e,(trimZ_spec L9 xs).1]
    rcases Nat.eq_zero_or_pos m with rfl | hmp
    · go_wp2
      first | go_ret | refine ⟨_,results_tmp rfl _ _ _,?_⟩
      exact ⟨rfl,0,rfl,fin 0 (Nat.zero_le _) htr.symm⟩
    · obtain ⟨i,rfl⟩ : ∃ i,m = i + 1 :=⟨m - 1,by omega⟩
      have gx : xs[i]? = some xs[i] :=List.getElem?_eq_getElem (by omega)
      have htk : xs.take (i + 1) = xs.take i ++ [xs[i]] :=List.take_succ_eq_append_getElem (by omega)
      obtain ⟨g,rfl,hrow⟩ :=hr.row (fun e => by subst e;simp at hl;omega)
      generalize xs[i] = x at gx htk
      have cx :=hrow i x gx
      rw [htk,trimZ_snoc] at htr
      simp only [Nat.zero_add] at cx
      have hic : i + 1 ≤ c :=by omega
      rcases Nat.eq_zero_or_pos x with rfl | hxp
      · rw [if_pos rfl] at htr
        clear fin
        go_wp2
        go_round
        case rel => exact ⟨i,by omega,by go_num,htr⟩
        case measure => simp [lenOf]
      · rw [if_neg (by omega)] at htr
        have hx0 : ((x : Int) == 0) = false :=by simp;omega
        have hf :=Lib.hid (fin (i + 1) hm (by rw [htk];exact htr.symm))
        clear fin
        go_wp2
        first | go_ret | refine ⟨_,results_tmp rfl _ _ _,?_⟩
        exact ⟨rfl,i + 1,rfl,hf.out⟩
end Go.Proofs.YtfmmdamgcpiciaaGreatDoor
namespace Go.Proofs.YtfmmdamgcpiciaaGreatDoor
open Go Go.RowKit
theorem Dig.len_ge {w w' : World} {sx sy : Option Addr} {m n cx cy X Y : Nat} (hx : Dig w sx m cx X) (hy : Dig w' sy n cy Y) (h : m < n) : X < Y :=by
  obtain ⟨xs,h1,h2,h3,h4,h5,h6,h7,h8⟩ :=hx
  obtain ⟨ys,k1,k2,k3,k4,k5,k6,k7,k8⟩ :=hy
  obtain ⟨d,rfl⟩ : ∃ d,n = d + 1 :=⟨n - 1,by omega⟩
  have a :=Nz.le (B :=L9) k7 k1
  have b :=val_lt h6
  rw [h1,h8] at b
  rw [k8] at a
  exact Nat.lt_of_lt_of_le b (Nat.le_trans (Nat.pow_le_pow_right (by decide) (by omega)) a)
theorem natCmp (w : World) (sx sy : Option Addr) (m n cx cy X Y : Nat) (hx : Dig w sx m cx X) (hy : Dig w sy n cy Y) :
    Calls Tryz.prog 77 #[.slice sx m cx,.slice sy n cy] w fun e w' => e = .returned (.int .i64 (cmpI X Y)) ∧ Kept w w' :=by
  rcases Nat.lt_trichotomy m n with hmn | rfl | hmn
  · have hv : cmpI X Y = -1 :=by simp [cmpI,hx.len_ge hy hmn]
    have hne : ((m : Int) != (n : Int)) = true :=by simp only [bne_iff_ne,ne_eq];omega
    rw [hv]
    clear hx hy hv
    go_enter Tryz.func77,Tryz.ntmps77
    go_wp2
    first | go_ret | refine ⟨_,results_tmp rfl _ _ _,?_⟩
    exact ⟨rfl,Chg.refl _ _⟩
  · obtain ⟨xs,h1,h2,h3,h4,h5,h6,h7,h8⟩ :=hx
    obtain ⟨ys,k1,k2,k3,k4,k5,k6,k7,k8⟩ :=hy
    have HV :=Lib.hid (And.intro h8 k8)
    clear h3 k3 h8 k8
    go_enter Tryz.func77,Tryz.ntmps77
    go_wp2
    go_loopw [5] (fun i wr => ∃ k : Nat,k ≤ m ∧ i = .int .i64 ((k : Int) - 1) ∧ xs.drop k = ys.drop k ∧ Kept w wr) (fun i _ => (intOf i + 1).toNat)
    case atStart => exact ⟨m,Nat.le_refl _,rfl,by rw [List.drop_of_length_le (by omega),List.drop_of_length_le (by omega)],Chg.refl _ _⟩
    case round =>
      obtain ⟨k,hk,rfl,he,hK⟩ :=hrel
      rcases Nat.eq_zero_or_pos k with rfl | hkp
      · have hv : cmpI X Y = 0 :=by
          rw [List.drop_zero,List.drop_zero] at he
          rw [← HV.out.1,← HV.out.2,he];simp [cmpI]
        have Hv :=Lib.hid hv
        clear hv
        go_wp2
        first | go_ret | refine ⟨_,results_tmp rfl _ _ _,?_⟩
        exact ⟨by rw [Hv.out];rfl,hK⟩
      · obtain ⟨i,rfl⟩ : ∃ i,k = i + 1 :=⟨k - 1,by omega⟩
        have gx : xs[i]? = some xs[i] :=List.getElem?_eq_getElem (by omega)
        have gy : ys[i]? = some ys[i] :=List.getElem?_eq_getElem (by omega)
        obtain ⟨g1,rfl,r1⟩ :=h5.row (fun e => by subst e;simp at h1;omega)
        obtain ⟨g2,rfl,r2⟩ :=k5.row (fun e => by subst e;simp at k1;omega)
        have hdx : xs.drop i = xs[i] :: xs.drop (i + 1) :=List.drop_eq_getElem_cons (by omega)
        have hdy : ys.drop i = ys[i] :: ys.drop (i + 1) :=List.drop_eq_getElem_cons (by omega)
        generalize xs[i] = x at gx hdx
        generalize ys[i] = y at gy hdy
        have cx1 :=(r1.keep hK) i x gx
        have cy1 :=(r2.keep hK) i y gy
        have e1 : (((i + 1 : Nat) : Int) - 1) = (i : Int) :=by omega
        simp only [Nat.zero_add] at cx1 cy1
        have hic : i < m :=hk
        rw [e1]
        clear e1
        rcases Nat.lt_trichotomy x y with hxy | rfl | hxy
        · have hv : cmpI X Y = -1 :=by rw [← HV.out.1,← HV.out.2];simp [cmpI,cmp_step gx gy he h6 hxy]
          have hne : ((x : Int) == (y : Int)) = false :=by simp;omega
          have hne2 : ((x : Int) != (y : Int)) = true :=by simp only [bne_iff_ne,ne_eq];omega
          have Hv :=Lib.hid hv
          clear hv
          go_wp2_with (first
            | (refine wp_region_lit_segs (id :=8) [[0,1,2,3,4,5,6,7,8]] mixed (by kernel_rfl) ?_;simp only [wpSegsL,gaC,gaN,lZ0,lS0,coS])
            | (refine wp_region_lit_segs (id :=9) [[0,1,2,3,4,5,6,7,8]] mixed (by kernel_rfl) ?_;simp only [wpSegsL,gaC,gaN,lZ0,lS0,coS])
            | refine ⟨by kernel_rfl,?_⟩)
          first | go_ret | refine ⟨_,results_tmp rfl _ _ _,?_⟩
          exact ⟨by rw [Hv.out];rfl,hK.drew.drew⟩
        · go_wp2_with (first
            | (refine wp_region_lit_segs (id :=8) [[0,1,2,3,4,5,6,7,8]] mixed (by kernel_rfl) ?_;simp only [wpSegsL,gaC,gaN,lZ0,lS0,coS])
            | (refine wp_region_lit_segs (id :=9) [[0,1,2,3,4,5,6,7,8]] mixed (by kernel_rfl) ?_;simp only [wpSegsL,gaC,gaN,lZ0,lS0,coS])
            | refine ⟨by kernel_rfl,?_⟩)
          go_roundw
          case rel => exact ⟨i,by omega,by go_num,by rw [hdx,hdy,he],hK.drew⟩
          case measure => simp [intOf]
        · have hv : cmpI X Y = 1 :=by
            have :=cmp_step gy gx he.symm k6 hxy
            rw [← HV.out.1,← HV.out.2]
            simp [cmpI,this];omega
          have hne : ((x : Int) == (y : Int)) = false :=by simp;omega
          have hne2 : ((x : Int) != (y : Int)) = true :=by simp only [bne_iff_ne,ne_eq];omega
          have hnl : ¬ ((x : Int) < (y : Int)) :=by omega
          have Hv :=Lib.hid hv
          clear hv
          go_wp2_with (first
            | (refine wp_region_lit_segs (id :=8) [[0,1,2,3,4,5,6,7,8]] mixed (by kernel_rfl) ?_;simp only [wpSegsL,gaC,gaN,lZ0,lS0,coS])
            | (refine wp_region_lit_segs (id :=9) [[0,1,2,3,4,5,6,7,8]] mixed (by kernel_rfl) ?_;simp only [wpSegsL,gaC,gaN,lZ0,lS0,coS])
            | refine ⟨by kernel_rfl,?_⟩)
          first | go_ret | refine ⟨_,results_tmp rfl _ _ _,?_⟩
          exact ⟨by rw [Hv.out];rfl,hK.drew.drew⟩
  · have hlt :=hy.len_ge hx hmn
    have hv : cmpI X Y = 1 :=by simp [cmpI,hlt];omega
    have hne : ((m : Int) != (n : Int)) = true :=by simp only [bne_iff_ne,ne_eq];omega
    rw [hv]
    clear hx hy hv hlt
    go_enter Tryz.func77,Tryz.ntmps77
    go_wp2
    first | go_ret | refine ⟨_,results_tmp rfl _ _ _,?_⟩
    exact ⟨rfl,Chg.refl _ _⟩
def NV (w : World) (v : Value) (X : Nat) : Prop :=∃ s n c,v = .slice s n c ∧ Dig w s n c X
theorem NV.kept {w w' : World} {v : Value} {X : Nat} (h : NV w v X) (k : Kept w w') : NV w' v X :=by
  obtain ⟨s,n,c,h1,h2⟩ :=h
  exact ⟨s,n,c,h1,h2.kept k⟩
theorem natOne (w : World) : Calls Tryz.prog 48 #[] w fun e w' => (∃ v,e = .returned v ∧ NV w' v 1) ∧ Kept w w' :=by
  go_enter Tryz.func48,Tryz.ntmps48
  go_wp2
  first | go_ret | refine ⟨_,results_tmp rfl _ _ _,?_⟩
  refine ⟨⟨_,rfl,_,1,1,rfl,[1],rfl,Nat.le_refl _,by decide,by decide,.inr ⟨_,rfl,fun j x hj => ?_⟩,Lt.one (by decide),Nz.one (by decide),rfl⟩,Chg.alloc _ _ _⟩
  rw [World.cell?_alloc_at _ _ _ _ rfl]
  match j,hj with
  | 0,hj => obtain rfl :=Option.some.inj hj;rfl
end Go.Proofs.YtfmmdamgcpiciaaGreatDoor
namespace Go.Proofs.YtfmmdamgcpiciaaGreatDoor
open Go Go.RowKit
theorem Nz.snoc {xs : List Nat} {x : Nat} (h : x ≠ 0) : Nz (xs ++ [x]) :=fun y hy => by
  rw [List.getLast?_concat] at hy
  obtain rfl :=Option.some.inj hy
  exact h
theorem Sl.ret {w0 w : World} {s : Option Addr} {c n X : Nat} {xs : List Nat} (h : Sl .u32 w0 w s c xs) (hl : xs.length = n) (hn : n ≤ 1048576) (hlt : Lt L9 xs) (hz : Nz xs) (hv : val L9 xs = X) : Dig w s n c X :=
  ⟨xs,hl,by rw [← hl];exact h.le,h.cap,hn,Rd.of_Sl h,hlt,hz,hv⟩
theorem natFrom (w : World) (N : Nat) (hN : N < 18446744073709551616) : Calls Tryz.prog 41 #[.int .u64 (N : Int)] w fun e w' => (∃ v,e = .returned v ∧ NV w' v N) ∧ Kept w w' :=by
  obtain ⟨A,hA⟩ : ∃ A : Int,(N : Int) = A :=⟨_,rfl⟩
  have H :=Lib.hid (And.intro hN hA)
  rw [hA]
  clear hN hA
  go_enter Tryz.func41,Tryz.ntmps41
  go_wp2
  go_loopw [0,3] (fun t0 t3 wx => ∃ (T : Int) (M : Nat) (s : Option Addr) (c n : Nat) (xs : List Nat),t0 = .int .u64 T ∧ t3 = .slice s n c ∧ Hid (T = M ∧ M < 18446744073709551616) ∧ xs.length = n ∧ n ≤ 3 ∧ Hid ( val L9 xs + L9 ^ n * M = N ∧ (M = 0 → Nz xs)) ∧ Lt L9 xs ∧ Sl .u32 w wx s c xs ∧ Kept w wx) (fun t0 _ _ => (intOf t0).toNat)
  case atStart => exact ⟨A,N,none,0,0,[],rfl,rfl,Lib.hid ⟨H.out.2.symm,H.out.1⟩,rfl,by decide,Lib.hid ⟨by simp [val],fun _ => Nz.nil⟩,Lt.nil,Sl.start,Chg.refl _ _⟩
  case round =>
    obtain ⟨T,M,s,c,n,xs,rfl,rfl,hT,hl,hn,hv,hlt,hS,hK⟩ :=hrel
    rcases Nat.eq_zero_or_pos M with rfl | hM
    · obtain rfl : T = 0 :=hT.out.1
      go_wp2
      first | go_ret | refine ⟨_,results_tmp rfl _ _ _,?_⟩
      obtain ⟨h2,h3⟩ :=hv.out
      exact ⟨⟨_,rfl,s,n,c,rfl,hS.ret hl (by omega) hlt (h3 trivial) (by simpa using h2)⟩,hK⟩
    · have hT0 : 0 < T :=by have :=hT.out.1;omega
      have hT1 : T ≤ 18446744073709551615 :=by have :=hT.out;omega
      have hr : (T % 1000000000).toNat = M % L9 :=by have :=hT.out.1;unfold L9;omega
      have Hr :=Lib.hid (And.intro hr hM)
      clear hr hM
      go_wp2_with (at_builtin;refine wp_gapp1 T26 (w0 :=w) rfl (.tmp 8) (.tmp 12) rfl rfl rfl rfl hS hK.size hl (by omega) (by omega) ?_;intro s4 c4 w4 hS4 hC4 hD4)
      go_roundw
      case rel =>
        obtain ⟨h2,h3⟩ :=hv.out
        have hn3 : n + 1 ≤ 3 :=by
          rcases Nat.lt_or_ge n 3 with h | h
          · exact h
          · have a1 : L9 ^ 3 ≤ L9 ^ n :=Nat.pow_le_pow_right (by decide) h
            have a2 : L9 ^ n * 1 ≤ L9 ^ n * M :=Nat.mul_le_mul_left _ Hr.out.2
            have a3 : L9 ^ 3 = 1000000000000000000000000000 :=by decide
            have :=H.out.1
            omega
        rw [Hr.out.1] at hS4
        refine ⟨_,M / L9,s4,c4,n + 1,xs ++ [M % L9],rfl,rfl,Lib.hid ⟨?_,?_⟩,by simp [hl],?_,Lib.hid ⟨?_,fun h => ?_⟩,hlt.snoc (Nat.mod_lt _ (by decide)),hS4,hK.trans hC4 fun b o hb h => ?_⟩
        · have :=hT.out.1;unfold L9;omega
        · have :=hT.out.2;unfold L9;omega
        · exact hn3
        · rw [val_snoc,hl,Nat.pow_succ,Nat.add_assoc,Nat.mul_assoc,← Nat.mul_add,Nat.mod_add_div];exact h2
        · refine Nz.snoc ?_
          have :=Hr.out.2
          unfold L9 at *
          omega
        · obtain ⟨a,ha,rfl⟩ :=h
          have :=(hS.lt ha).1
          omega
      case measure => simp [intOf];omega
def lb (xs : List Nat) (i : Nat) : Nat :=xs.getD i 0
theorem lb_in {xs : List Nat} {i x : Nat} (h : xs[i]? = some x) : lb xs i = x :=by simp [lb,h]
theorem lb_out {xs : List Nat} {i : Nat} (h : xs.length ≤ i) : lb xs i = 0 :=by simp [lb,List.getElem?_eq_none h]
theorem lb_lt {xs : List Nat} (h : Lt L9 xs) (i : Nat) : lb xs i < L9 :=by
  rcases Nat.lt_or_ge i xs.length with hi | hi
  · rw [lb_in (List.getElem?_eq_getElem hi)];exact h _ (List.getElem_mem _)
  · rw [lb_out hi];decide
theorem val_drop (B : Nat) (xs : List Nat) (i : Nat) : val B (xs.drop i) = lb xs i + B * val B (xs.drop (i + 1)) :=by
  rcases Nat.lt_or_ge i xs.length with hi | hi
  · rw [List.drop_eq_getElem_cons hi,val,lb_in (List.getElem?_eq_getElem hi)]
  · rw [List.drop_of_length_le hi,List.drop_of_length_le (by omega),lb_out hi];simp [val]
theorem nz_of_ge {zs : List Nat} {k : Nat} (hl : zs.length = k + 1) (hlt : Lt L9 zs) (h : L9 ^ k ≤ val L9 zs) : Nz zs :=by
  intro x hx
  rw [List.getLast?_eq_getElem?,hl] at hx
  intro h0
  subst h0
  have h1 : val L9 zs = val L9 (zs.take k) + L9 ^ k * 0 :=by
    have :=val_take_succ (B :=L9) (xs :=zs) (k :=k) (by omega)
    rw [List.take_of_length_le (by omega)] at this
    rw [this]
    congr 2
    simpa using (List.getElem?_eq_some_iff.1 hx).2
  have h2 :=val_lt (hlt.take k)
  rw [List.length_take,Nat.min_eq_left (by omega)] at h2
  omega
def AddI (xs ys : List Nat) (m n S i c : Nat) (zs : List Nat) : Prop :=zs.length = i ∧ Lt L9 zs ∧ c ≤ 1 ∧ val L9 zs + L9 ^ i * (c + val L9 (xs.drop i) + val L9 (ys.drop i)) = S ∧ (i ≤ max m n ∨ (i = max m n + 1 ∧ c = 0 ∧ L9 ^ max m n ≤ S))
theorem AddI.step {xs ys zs : List Nat} {m n S i c : Nat} (h : AddI xs ys m n S i c zs) (hx : Lt L9 xs) (hy : Lt L9 ys) (hm : xs.length = m) (hn : ys.length = n) (hg : i < m ∨ i < n ∨ 0 < c) :
    AddI xs ys m n S (i + 1) ((c + lb xs i + lb ys i) / L9) (zs ++ [(c + lb xs i + lb ys i) % L9]) :=by
  obtain ⟨h1,h2,h3,h4,h5⟩ :=h
  have a1 :=lb_lt hx i
  have a2 :=lb_lt hy i
  obtain ⟨t,ht⟩ : ∃ t,c + lb xs i + lb ys i = t :=⟨_,rfl⟩
  rw [ht]
  have hmd :=Nat.mod_add_div t L9
  refine ⟨by simp [h1],h2.snoc (Nat.mod_lt _ (by decide)),by unfold L9 at *;omega,?_,?_⟩
  · rw [← h4,val_snoc,h1,val_drop L9 xs i,val_drop L9 ys i,Nat.pow_succ,Nat.add_assoc,Nat.mul_assoc (L9 ^ i),← Nat.mul_add]
    congr 2
    rw [Nat.mul_add,Nat.mul_add]
    omega
  · by_cases hi : i + 1 ≤ max m n
    · exact .inl hi
    · have hi2 : i = max m n :=by omega
      have hc : c = 1 :=by omega
      have e1 : lb xs i = 0 :=lb_out (by omega)
      have e2 : lb ys i = 0 :=lb_out (by omega)
      refine .inr ⟨by omega,by rw [← ht,hc,e1,e2];rfl,?_⟩
      rw [← h4,← hi2,hc]
      have : L9 ^ i * 1 ≤ L9 ^ i * (1 + val L9 (xs.drop i) + val L9 (ys.drop i)) :=Nat.mul_le_mul_left _ (by omega)
      omega
theorem AddI.done {xs ys zs : List Nat} {m n X Y i : Nat} (h : AddI xs ys m n (X + Y) i 0 zs) (hm : xs.length = m) (hn : ys.length = n) (hvx : val L9 xs = X) (hvy : val L9 ys = Y) (hx : Nz xs) (hy : Nz ys) (h1 : m ≤ i) (h2 : n ≤ i) : val L9 zs = X + Y ∧ Nz zs ∧ i ≤ max m n + 1 :=by
  obtain ⟨g1,g2,g3,g4,g5⟩ :=h
  rw [List.drop_of_length_le (by omega),List.drop_of_length_le (by omega)] at g4
  simp only [val,Nat.add_zero,Nat.mul_zero] at g4
  refine ⟨g4,?_,by omega⟩
  rcases Nat.eq_zero_or_pos i with rfl | hi
  · rw [List.eq_nil_of_length_eq_zero g1];exact Nz.nil
  · obtain ⟨k,rfl⟩ : ∃ k,i = k + 1 :=⟨i - 1,by omega⟩
    refine nz_of_ge g1 g2 ?_
    rw [g4]
    rcases g5 with g5 | ⟨g5,_,g6⟩
    · rcases (by omega : m = k + 1 ∨ n = k + 1) with e | e
      · have :=Nz.le (B :=L9) hx (hm.trans e)
        omega
      · have :=Nz.le (B :=L9) hy (hn.trans e)
        omega
    · rw [show k = max m n by omega];exact g6
theorem natAdd (w : World) (sx sy : Option Addr) (m n cx cy X Y : Nat) (hx : Dig w sx m cx X) (hy : Dig w sy n cy Y) (hm : m < 1000000) (hn : n < 1000000) :
    Calls Tryz.prog 78 #[.slice sx m cx,.slice sy n cy] w fun e w' => (∃ v,e = .returned v ∧ NV w' v (X + Y)) ∧ Kept w w' :=by
  obtain ⟨xs,h1,h2,h3,h4,h5,h6,h7,h8⟩ :=hx
  obtain ⟨ys,k1,k2,k3,k4,k5,k6,k7,k8⟩ :=hy
  have hS0 : AddI xs ys m n (X + Y) 0 0 [] :=⟨rfl,Lt.nil,by decide,by simp [val,h8,k8],.inl (Nat.zero_le _)⟩
  have HS :=Lib.hid (And.intro h7 (And.intro h8 (And.intro k7 (And.intro k8 (And.intro h3 k3)))))
  clear h3 h7 h8 k3 k7 k8
  go_enter Tryz.func78,Tryz.ntmps78
  go_wp2
  go_loopw [5,6,7] (fun t5 t6 t7 wx => ∃ (i c : Nat) (C : Int) (s : Option Addr) (cz : Nat) (zs : List Nat),t7 = .int .i64 i ∧ t6 = .int .u32 C ∧ Hid (C = c) ∧ t5 = .slice s i cz ∧ i ≤ 1000001 ∧ Hid (AddI xs ys m n (X + Y) i c zs) ∧ Hid (Sl .u32 w wx s cz zs) ∧ Kept w wx) (fun _ _ t7 _ => 1000002 - (intOf t7).toNat)
  case atStart => exact ⟨0,0,0,none,0,[],rfl,rfl,Lib.hid rfl,rfl,by decide,Lib.hid hS0,Lib.hid Sl.start,Chg.refl _ _⟩
  case round =>
    clear hS0
    obtain ⟨i,c,C,s,cz,zs,rfl,rfl,hC,rfl,hib,hA,hS,hK⟩ :=hrel
    have hC0 : 0 ≤ C :=by have :=hC.out;omega
    have hC1 : C ≤ 1 :=by have :=hC.out;have :=hA.out.2.2.1;omega
    have hib2 : i ≤ max m n + 1 :=by have :=hA.out.2.2.2.2;omega
    by_cases hgo : i < m ∨ i < n ∨ 0 < c
    · have hst :=hA.out.step h6 k6 h1 k1 hgo
      have hib3 : i ≤ 1000000 :=by have :=hA.out.2.2.2.2;omega
      rcases (by omega : (i < m ∧ i < n) ∨ (i < m ∧ n ≤ i) ∨ (m ≤ i ∧ i < n) ∨ (m ≤ i ∧ n ≤ i)) with ⟨him,hin⟩ | ⟨him,hin⟩ | ⟨him,hin⟩ | ⟨him,hin⟩
      · have gx : xs[i]? = some xs[i] :=List.getElem?_eq_getElem (by omega)
        have lx : xs[i] < L9 :=h6 _ (List.getElem_mem _)
        generalize xs[i] = dx at gx lx
        obtain ⟨g1,rfl,r1⟩ :=h5.row (fun e => by subst e;simp at h1;omega)
        have cx :=(r1.keep hK) i dx gx
        simp only [Nat.zero_add] at cx
        obtain ⟨Dx,ex⟩ : ∃ D : Int,(dx : Int) = D :=⟨_,rfl⟩
        rw [ex] at cx
        have ux : 0 ≤ Dx :=by omega
        have vx : Dx ≤ 999999999 :=by unfold L9 at lx;omega
        have hbx : lb xs i = dx :=lb_in gx
        have gy : ys[i]? = some ys[i] :=List.getElem?_eq_getElem (by omega)
        have ly : ys[i] < L9 :=k6 _ (List.getElem_mem _)
        generalize ys[i] = dy at gy ly
        obtain ⟨g2,rfl,r2⟩ :=k5.row (fun e => by subst e;simp at k1;omega)
        have cy :=(r2.keep hK) i dy gy
        simp only [Nat.zero_add] at cy
        obtain ⟨Dy,ey⟩ : ∃ D : Int,(dy : Int) = D :=⟨_,rfl⟩
        rw [ey] at cy
        have uy : 0 ≤ Dy :=by omega
        have vy : Dy ≤ 999999999 :=by unfold L9 at ly;omega
        have hby : lb ys i = dy :=lb_in gy
        rw [hbx,hby] at hst
        have hT : (C + Dx + Dy) = ((c + dx + dy : Nat) : Int) :=by have :=hC.out;omega
        have HT :=Lib.hid (And.intro hT hst)
        clear hT hst gx lx ex hbx gy ly ey hby
        go_wp2_with (at_builtin;refine wp_gapp1 T26 (w0 :=w) rfl (.tmp 44) (.tmp 47) rfl rfl rfl rfl hS.out hK.size hA.out.1 (by omega) (by omega) ?_;intro s4 c4 w4 hS4 hC4 hD4)
        go_roundw
        case rel =>
          obtain ⟨hT,hst⟩ :=HT.out
          have e4 : ((C + Dx + Dy) % 1000000000).toNat = (c + dx + dy) % L9 :=by rw [hT];unfold L9;omega
          rw [e4] at hS4
          refine ⟨i + 1,(c + dx + dy) / L9,_,s4,c4,zs ++ [(c + dx + dy) % L9],by go_num,rfl,Lib.hid ?_,rfl,by omega,Lib.hid hst,Lib.hid hS4,hK.trans hC4 fun b o hb h => ?_⟩
          · rw [hT];rfl
          · obtain ⟨a,ha,rfl⟩ :=h
            have :=(hS.out.lt ha).1
            omega
        case measure => simp [intOf];omega
      · have gx : xs[i]? = some xs[i] :=List.getElem?_eq_getElem (by omega)
        have lx : xs[i] < L9 :=h6 _ (List.getElem_mem _)
        generalize xs[i] = dx at gx lx
        obtain ⟨g1,rfl,r1⟩ :=h5.row (fun e => by subst e;simp at h1;omega)
        have cx :=(r1.keep hK) i dx gx
        simp only [Nat.zero_add] at cx
        obtain ⟨Dx,ex⟩ : ∃ D : Int,(dx : Int) = D :=⟨_,rfl⟩
        rw [ex] at cx
        have ux : 0 ≤ Dx :=by omega
        have vx : Dx ≤ 999999999 :=by unfold L9 at lx;omega
        have hbx : lb xs i = dx :=lb_in gx
        have hby : lb ys i = 0 :=lb_out (by omega)
        rw [hbx,hby] at hst
        have hT : (C + Dx) = ((c + dx + 0 : Nat) : Int) :=by have :=hC.out;omega
        have HT :=Lib.hid (And.intro hT hst)
        clear hT hst gx lx ex hbx hby
        go_wp2_with (at_builtin;refine wp_gapp1 T26 (w0 :=w) rfl (.tmp 44) (.tmp 47) rfl rfl rfl rfl hS.out hK.size hA.out.1 (by omega) (by omega) ?_;intro s4 c4 w4 hS4 hC4 hD4)
        go_roundw
        case rel =>
          obtain ⟨hT,hst⟩ :=HT.out
          have e4 : ((C + Dx) % 1000000000).toNat = (c + dx + 0) % L9 :=by rw [hT];unfold L9;omega
          rw [e4] at hS4
          refine ⟨i + 1,(c + dx + 0) / L9,_,s4,c4,zs ++ [(c + dx + 0) % L9],by go_num,rfl,Lib.hid ?_,rfl,by omega,Lib.hid hst,Lib.hid hS4,hK.trans hC4 fun b o hb h => ?_⟩
          · rw [hT];rfl
          · obtain ⟨a,ha,rfl⟩ :=h
            have :=(hS.out.lt ha).1
            omega
        case measure => simp [intOf];omega
      · have hbx : lb xs i = 0 :=lb_out (by omega)
        have gy : ys[i]? = some ys[i] :=List.getElem?_eq_getElem (by omega)
        have ly : ys[i] < L9 :=k6 _ (List.getElem_mem _)
        generalize ys[i] = dy at gy ly
        obtain ⟨g2,rfl,r2⟩ :=k5.row (fun e => by subst e;simp at k1;omega)
        have cy :=(r2.keep hK) i dy gy
        simp only [Nat.zero_add] at cy
        obtain ⟨Dy,ey⟩ : ∃ D : Int,(dy : Int) = D :=⟨_,rfl⟩
        rw [ey] at cy
        have uy : 0 ≤ Dy :=by omega
        have vy : Dy ≤ 999999999 :=by unfold L9 at ly;omega
        have hby : lb ys i = dy :=lb_in gy
        rw [hbx,hby] at hst
        have hT : (C + Dy) = ((c + 0 + dy : Nat) : Int) :=by have :=hC.out;omega
        have HT :=Lib.hid (And.intro hT hst)
        clear hT hst hbx gy ly ey hby
        go_wp2_with (at_builtin;refine wp_gapp1 T26 (w0 :=w) rfl (.tmp 44) (.tmp 47) rfl rfl rfl rfl hS.out hK.size hA.out.1 (by omega) (by omega) ?_;intro s4 c4 w4 hS4 hC4 hD4)
        go_roundw
        case rel =>
          obtain ⟨hT,hst⟩ :=HT.out
          have e4 : ((C + Dy) % 1000000000).toNat = (c + 0 + dy) % L9 :=by rw [hT];unfold L9;omega
          rw [e4] at hS4
          refine ⟨i + 1,(c + 0 + dy) / L9,_,s4,c4,zs ++ [(c + 0 + dy) % L9],by go_num,rfl,Lib.hid ?_,rfl,by omega,Lib.hid hst,Lib.hid hS4,hK.trans hC4 fun b o hb h => ?_⟩
          · rw [hT];rfl
          · obtain ⟨a,ha,rfl⟩ :=h
            have :=(hS.out.lt ha).1
            omega
        case measure => simp [intOf];omega
      · have hbx : lb xs i = 0 :=lb_out (by omega)
        have hby : lb ys i = 0 :=lb_out (by omega)
        rw [hbx,hby] at hst
        have hCp : 0 < C :=by have :=hC.out;omega
        have hT : (C) = ((c + 0 + 0 : Nat) : Int) :=by have :=hC.out;omega
        have HT :=Lib.hid (And.intro hT hst)
        clear hT hst hbx hby
        go_wp2_with (at_builtin;refine wp_gapp1 T26 (w0 :=w) rfl (.tmp 44) (.tmp 47) rfl rfl rfl rfl hS.out hK.size hA.out.1 (by omega) (by omega) ?_;intro s4 c4 w4 hS4 hC4 hD4)
        go_roundw
        case rel =>
          obtain ⟨hT,hst⟩ :=HT.out
          have e4 : ((C) % 1000000000).toNat = (c + 0 + 0) % L9 :=by rw [hT];unfold L9;omega
          rw [e4] at hS4
          refine ⟨i + 1,(c + 0 + 0) / L9,_,s4,c4,zs ++ [(c + 0 + 0) % L9],by go_num,rfl,Lib.hid ?_,rfl,by omega,Lib.hid hst,Lib.hid hS4,hK.trans hC4 fun b o hb h => ?_⟩
          · rw [hT];rfl
          · obtain ⟨a,ha,rfl⟩ :=h
            have :=(hS.out.lt ha).1
            omega
        case measure => simp [intOf];omega
    · obtain rfl : c = 0 :=by omega
      obtain rfl : C = 0 :=hC.out
      have him : m ≤ i :=by omega
      have hin : n ≤ i :=by omega
      clear hgo
      go_wp2
      first | go_ret | refine ⟨_,results_tmp rfl _ _ _,?_⟩
      obtain ⟨h7,h8,k7,k8,h3,k3⟩ :=HS.out
      obtain ⟨q1,q2,q3⟩ :=hA.out.done h1 k1 h8 k8 h7 k7 him hin
      exact ⟨⟨_,rfl,s,i,cz,rfl,hS.out.ret hA.out.1 (by omega) hA.out.2.1 q2 q1⟩,hK⟩
end Go.Proofs.YtfmmdamgcpiciaaGreatDoor
namespace Go.Proofs.YtfmmdamgcpiciaaGreatDoor
open Go Go.RowKit
def NVn (w0 w : World) (v : Value) (X : Nat) : Prop :=∃ s n c,v = .slice s n c ∧ Dig w s n c X ∧ ∀ a,s = some a → w0.heap.size ≤ a.block
theorem NVn.nv {w0 w : World} {v : Value} {X : Nat} (h : NVn w0 w v X) : NV w v X :=by
  obtain ⟨s,n,c,h1,h2,_⟩ :=h
  exact ⟨s,n,c,h1,h2⟩
def SubI (xs ys : List Nat) (i c : Nat) (zs : List Nat) : Prop :=zs.length = i ∧ Lt L9 zs ∧ c ≤ 1 ∧ val L9 zs + val L9 (ys.take i) = val L9 (xs.take i) + L9 ^ i * c
theorem val_take1 (B : Nat) (xs : List Nat) (i : Nat) : val B (xs.take (i + 1)) = val B (xs.take i) + B ^ i * lb xs i :=by
  rcases Nat.lt_or_ge i xs.length with hi | hi
  · rw [val_take_succ hi,lb_in (List.getElem?_eq_getElem hi)]
  · rw [List.take_of_length_le hi,List.take_of_length_le (by omega),lb_out hi,Nat.mul_zero,Nat.add_zero]
theorem SubI.step {xs ys zs : List Nat} {i c : Nat} (h : SubI xs ys i c zs) (hx : Lt L9 xs) (hy : Lt L9 ys) (d c' : Nat) (hc' : c' ≤ 1) (hd : d < L9) (he : d + (c + lb ys i) = lb xs i + L9 * c') :
    SubI xs ys (i + 1) c' (zs ++ [d]) :=by
  obtain ⟨h1,h2,h3,h4⟩ :=h
  refine ⟨by simp [h1],h2.snoc hd,hc',?_⟩
  rw [val_snoc,h1,val_take1,val_take1,Nat.pow_succ,Nat.mul_assoc]
  have e : L9 ^ i * d + L9 ^ i * (c + lb ys i) = L9 ^ i * lb xs i + L9 ^ i * (L9 * c') :=by rw [← Nat.mul_add,he,Nat.mul_add]
  rw [Nat.mul_add] at e
  omega
theorem SubI.done {xs ys zs : List Nat} {m n X Y c : Nat} (h : SubI xs ys m c zs) (hm : xs.length = m) (hn : ys.length = n) (hnm : n ≤ m) (hvx : val L9 xs = X) (hvy : val L9 ys = Y) (hle : Y ≤ X) : val L9 zs = X - Y :=by
  obtain ⟨g1,g2,g3,g4⟩ :=h
  rw [List.take_of_length_le (by omega),List.take_of_length_le (by omega),hvx,hvy] at g4
  have h2 :=val_lt g2
  rw [g1] at h2
  rcases (by omega : c = 0 ∨ c = 1) with rfl | rfl
  · omega
  · omega
theorem natSub (w : World) (sx sy : Option Addr) (m n cx cy X Y : Nat) (hx : Dig w sx m cx X) (hy : Dig w sy n cy Y) (hm : m < 1000000) (hle : Y ≤ X) :
    Calls Tryz.prog 79 #[.slice sx m cx,.slice sy n cy] w fun e w' => (∃ v,e = .returned v ∧ NVn w w' v (X - Y)) ∧ Kept w w' :=by
  have hnm : n ≤ m :=by
    rcases Nat.lt_or_ge m n with h | h
    · have :=hx.len_ge hy h;omega
    · exact h
  obtain ⟨xs,h1,h2,h3,h4,h5,h6,h7,h8⟩ :=hx
  obtain ⟨ys,k1,k2,k3,k4,k5,k6,k7,k8⟩ :=hy
  have hS0 : SubI xs ys 0 0 [] :=⟨rfl,Lt.nil,by decide,by simp [val]⟩
  have HS :=Lib.hid (And.intro h7 (And.intro h8 (And.intro k7 (And.intro k8 (And.intro h3 (And.intro k3 hle))))))
  clear h3 h7 h8 k3 k7 k8 hle
  go_enter Tryz.func79,Tryz.ntmps79
  go_wp2
  go_loopw [5,6,12] (fun t5 t6 t12 wx => ∃ (i c : Nat) (C : Int) (s : Option Addr) (cz : Nat) (zs : List Nat),t12 = .int .i64 i ∧ t6 = .int .u32 C ∧ Hid (C = c) ∧ t5 = .slice s i cz ∧ i ≤ m ∧ Hid (SubI xs ys i c zs) ∧ Hid (Sl .u32 w wx s cz zs) ∧ Kept w wx) (fun _ _ t12 _ => m - (intOf t12).toNat)
  case atStart => exact ⟨0,0,0,none,0,[],rfl,rfl,Lib.hid rfl,rfl,Nat.zero_le _,Lib.hid hS0,Lib.hid Sl.start,Chg.refl _ _⟩
  case round =>
    clear hS0
    obtain ⟨i,c,C,s,cz,zs,rfl,rfl,hC,rfl,hib,hA,hS,hK⟩ :=hrel
    have hC0 : 0 ≤ C :=by have :=hC.out;omega
    have hC1 : C ≤ 1 :=by have :=hC.out;have :=hA.out.2.2.1;omega
    rcases Nat.lt_or_ge i m with him | him
    · have hic : i < cx :=by omega
      have gx : xs[i]? = some xs[i] :=List.getElem?_eq_getElem (by omega)
      have lx : xs[i] < L9 :=h6 _ (List.getElem_mem _)
      generalize xs[i] = dx at gx lx
      obtain ⟨g1,rfl,r1⟩ :=h5.row (fun e => by subst e;simp at h1;omega)
      have cx :=(r1.keep hK) i dx gx
      simp only [Nat.zero_add] at cx
      obtain ⟨Dx,ex⟩ : ∃ D : Int,(dx : Int) = D :=⟨_,rfl⟩
      rw [ex] at cx
      have ux : 0 ≤ Dx :=by omega
      have vx : Dx ≤ 999999999 :=by unfold L9 at lx;omega
      have hbx : lb xs i = dx :=lb_in gx
      rcases Nat.lt_or_ge i n with hin | hin
      · have hicy : i < cy :=by omega
        have gy : ys[i]? = some ys[i] :=List.getElem?_eq_getElem (by omega)
        have ly : ys[i] < L9 :=k6 _ (List.getElem_mem _)
        generalize ys[i] = dy at gy ly
        obtain ⟨g2,rfl,r2⟩ :=k5.row (fun e => by subst e;simp at k1;omega)
        have cy :=(r2.keep hK) i dy gy
        simp only [Nat.zero_add] at cy
        obtain ⟨Dy,ey⟩ : ∃ D : Int,(dy : Int) = D :=⟨_,rfl⟩
        rw [ey] at cy
        have uy : 0 ≤ Dy :=by omega
        have vy : Dy ≤ 999999999 :=by unfold L9 at ly;omega
        have hby : lb ys i = dy :=lb_in gy
        by_cases hlt : Dx < C + Dy
        · have hd1 : (dx + L9 - (c + dy)) < L9 :=by have :=hC.out;unfold L9 at *;omega
          have hst :=hA.out.step h6 k6 (dx + L9 - (c + dy)) 1 (by decide) hd1 (by rw [hbx,hby];have :=hC.out;unfold L9 at *;omega)
          have hT : (Dx + 1000000000 - (C + Dy)).toNat = (dx + L9 - (c + dy)) :=by have :=hC.out;unfold L9 at *;omega
          have hD0 : 0 ≤ (Dx + 1000000000 - (C + Dy)) :=by omega
          have HT :=Lib.hid (And.intro hT hst)
          clear hT hst hd1 ex lx gx hbx gy ly ey hby
          go_wp2_with (at_builtin;refine wp_gapp1 T26 (w0 :=w) rfl (.tmp 33) (.tmp 37) rfl rfl rfl rfl hS.out hK.size hA.out.1 (by omega) (by omega) ?_;intro s4 c4 w4 hS4 hC4 hD4)
          go_roundw
          case rel =>
            obtain ⟨hT,hst⟩ :=HT.out
            first | rw [hT] at hS4 | (rw [show (Dx - C + Dy).toNat = (dx + L9 - (c + dy)) by rw [← hT]] at hS4)
            refine ⟨i + 1,1,_,s4,c4,zs ++ [(dx + L9 - (c + dy))],by go_num,rfl,Lib.hid rfl,rfl,by omega,Lib.hid hst,Lib.hid hS4,hK.trans hC4 fun b o hb h => ?_⟩
            obtain ⟨a,ha,rfl⟩ :=h
            have :=(hS.out.lt ha).1
            omega
          case measure => simp [intOf];omega
        · have hd1 : (dx - (c + dy)) < L9 :=by have :=hC.out;unfold L9 at *;omega
          have hst :=hA.out.step h6 k6 (dx - (c + dy)) 0 (by decide) hd1 (by rw [hbx,hby];have :=hC.out;unfold L9 at *;omega)
          have hT : (Dx - (C + Dy)).toNat = (dx - (c + dy)) :=by have :=hC.out;unfold L9 at *;omega
          have hD0 : 0 ≤ (Dx - (C + Dy)) :=by omega
          have HT :=Lib.hid (And.intro hT hst)
          clear hT hst hd1 ex lx gx hbx gy ly ey hby
          go_wp2_with (at_builtin;refine wp_gapp1 T26 (w0 :=w) rfl (.tmp 33) (.tmp 37) rfl rfl rfl rfl hS.out hK.size hA.out.1 (by omega) (by omega) ?_;intro s4 c4 w4 hS4 hC4 hD4)
          go_roundw
          case rel =>
            obtain ⟨hT,hst⟩ :=HT.out
            first | rw [hT] at hS4 | (rw [show (Dx - C + Dy).toNat = (dx - (c + dy)) by rw [← hT]] at hS4)
            refine ⟨i + 1,0,_,s4,c4,zs ++ [(dx - (c + dy))],by go_num,rfl,Lib.hid rfl,rfl,by omega,Lib.hid hst,Lib.hid hS4,hK.trans hC4 fun b o hb h => ?_⟩
            obtain ⟨a,ha,rfl⟩ :=h
            have :=(hS.out.lt ha).1
            omega
          case measure => simp [intOf];omega
      · have hby : lb ys i = 0 :=lb_out (by omega)
        by_cases hlt : Dx < C
        · have hd1 : (dx + L9 - (c + 0)) < L9 :=by have :=hC.out;unfold L9 at *;omega
          have hst :=hA.out.step h6 k6 (dx + L9 - (c + 0)) 1 (by decide) hd1 (by rw [hbx,hby];have :=hC.out;unfold L9 at *;omega)
          have hT : (Dx + 1000000000 - (C)).toNat = (dx + L9 - (c + 0)) :=by have :=hC.out;unfold L9 at *;omega
          have hD0 : 0 ≤ (Dx + 1000000000 - (C)) :=by omega
          have HT :=Lib.hid (And.intro hT hst)
          clear hT hst hd1 ex lx gx hbx hby
          go_wp2_with (at_builtin;refine wp_gapp1 T26 (w0 :=w) rfl (.tmp 33) (.tmp 37) rfl rfl rfl rfl hS.out hK.size hA.out.1 (by omega) (by omega) ?_;intro s4 c4 w4 hS4 hC4 hD4)
          go_roundw
          case rel =>
            obtain ⟨hT,hst⟩ :=HT.out
            first | rw [hT] at hS4 | (rw [show (Dx - C).toNat = (dx + L9 - (c + 0)) by rw [← hT]] at hS4)
            refine ⟨i + 1,1,_,s4,c4,zs ++ [(dx + L9 - (c + 0))],by go_num,rfl,Lib.hid rfl,rfl,by omega,Lib.hid hst,Lib.hid hS4,hK.trans hC4 fun b o hb h => ?_⟩
            obtain ⟨a,ha,rfl⟩ :=h
            have :=(hS.out.lt ha).1
            omega
          case measure => simp [intOf];omega
        · have hd1 : (dx - (c + 0)) < L9 :=by have :=hC.out;unfold L9 at *;omega
          have hst :=hA.out.step h6 k6 (dx - (c + 0)) 0 (by decide) hd1 (by rw [hbx,hby];have :=hC.out;unfold L9 at *;omega)
          have hT : (Dx - (C)).toNat = (dx - (c + 0)) :=by have :=hC.out;unfold L9 at *;omega
          have hD0 : 0 ≤ (Dx - (C)) :=by omega
          have HT :=Lib.hid (And.intro hT hst)
          clear hT hst hd1 ex lx gx hbx hby
          go_wp2_with (at_builtin;refine wp_gapp1 T26 (w0 :=w) rfl (.tmp 33) (.tmp 37) rfl rfl rfl rfl hS.out hK.size hA.out.1 (by omega) (by omega) ?_;intro s4 c4 w4 hS4 hC4 hD4)
          go_roundw
          case rel =>
            obtain ⟨hT,hst⟩ :=HT.out
            first | rw [hT] at hS4 | (rw [show (Dx - C).toNat = (dx - (c + 0)) by rw [← hT]] at hS4)
            refine ⟨i + 1,0,_,s4,c4,zs ++ [(dx - (c + 0))],by go_num,rfl,Lib.hid rfl,rfl,by omega,Lib.hid hst,Lib.hid hS4,hK.trans hC4 fun b o hb h => ?_⟩
            obtain ⟨a,ha,rfl⟩ :=h
            have :=(hS.out.lt ha).1
            omega
          case measure => simp [intOf];omega
    · obtain rfl : i = m :=by omega
      obtain ⟨h7,h8,k7,k8,h3,k3,hle⟩ :=HS.out
      have hv :=hA.out.done h1 k1 hnm h8 k8 hle
      have ht :=natTrim wr s i cz zs hA.out.1 (by rw [← hA.out.1];exact hS.out.le) hS.out.cap (by omega) (Rd.of_Sl hS.out) hA.out.2.1
      rw [hv] at ht
      have HK :=Lib.hid hK
      clear h3 h7 h8 k3 k7 k8 hle hv
      go_wp2_with (go_at_call 80;refine ht.mono ?_;rintro r w2 ⟨rfl,n',rfl,hD⟩)
      first | go_ret | refine ⟨_,results_tmp rfl _ _ _,?_⟩
      exact ⟨⟨_,rfl,s,n',cz,rfl,hD,fun a ha => (hS.out.lt ha).1⟩,HK.out⟩
end Go.Proofs.YtfmmdamgcpiciaaGreatDoor
namespace Go.Proofs.YtfmmdamgcpiciaaGreatDoor
open Go Go.RowKit
theorem make26 (w : World) (n : Nat) (hn : n ≤ 1048576) : (Instr.makeSlice 26 (.int .i64 n) (.int .i64 n)).run Tryz.prog w = .ok (.slice (some ⟨w.heap.size,0,none⟩) n n) (w.alloc (.cells (madeCells #[.int .u32 0] n) 72)) :=by
  obtain ⟨i0,hi,hz0,hz1,hz2⟩ :=info_parts T26.info
  have :=run_make (P :=Tryz.prog) w 26 72 i0 (.int .u32 0) T26.u hi hz0 .i64 .i64 (n : Int) (n : Int) (by omega) (by omega) (by rw [hz2];omega) (by omega)
  rw [this]
  simp [hz1,Value.cells]
theorem made26 (w : World) (n : Nat) : OutK .u32 (w.alloc (.cells (madeCells #[.int .u32 0] n) 72)) w.heap.size 0 n (List.replicate n 0) :=by
  have hc : ∀ j,j < n → (w.alloc (.cells (madeCells #[.int .u32 0] n) 72)).cell? ⟨w.heap.size,0 + j,none⟩ = some (.int .u32 0) :=fun j hj => by
    rw [World.cell?_alloc_at _ _ _ _ rfl]
    simp [madeCells,hj,Nat.mod_one]
  refine ⟨fun j x hj => ?_,fun j hj => ⟨⟨_,hc j hj⟩,NF.made w _ _ _⟩,by simp,NF.made w _ _,by simp⟩
  obtain ⟨h1,h2⟩ :=List.getElem?_eq_some_iff.1 hj
  rw [List.getElem_replicate] at h2
  subst h2
  rw [hc j (by simpa using h1)];rfl
theorem val_set {B : Nat} {us : List Nat} {p : Nat} (v : Nat) (hp : p < us.length) : val B (us.set p v) + B ^ p * lb us p = val B us + B ^ p * v :=by
  have h1 : us[p]? = some (lb us p) :=by rw [lb_in (List.getElem?_eq_getElem hp)];exact List.getElem?_eq_getElem hp
  have h2 : (us.set p v)[p]? = some v :=List.getElem?_set_self hp
  have e1 :=val_split (B :=B) h1
  have e2 :=val_split (B :=B) h2
  rw [List.take_set_of_le (Nat.le_refl _),List.drop_set_of_lt (by omega)] at e2
  rw [Nat.mul_add] at e1 e2
  omega
theorem lb_set_ne {us : List Nat} {p k v : Nat} (h : k ≠ p) : lb (us.set p v) k = lb us k :=by simp [lb,List.getElem?_set_ne (Ne.symm h)]
theorem Lt.set {us : List Nat} {p v : Nat} (h : Lt L9 us) (hv : v < L9) : Lt L9 (us.set p v) :=fun x hx => by
  rcases List.mem_or_eq_of_mem_set hx with h1 | h1
  · exact h x h1
  · rw [h1];exact hv
def MulO (xs : List Nat) (m n Y i : Nat) (zs : List Nat) : Prop :=zs.length = m + n ∧ Lt L9 zs ∧ val L9 zs = val L9 (xs.take i) * Y ∧ ∀ k,i + n ≤ k → lb zs k = 0
def MulJ (ys zs : List Nat) (i x j c : Nat) (us : List Nat) : Prop :=us.length = zs.length ∧ Lt L9 us ∧ c < L9 ∧ val L9 us + L9 ^ (i + j) * c = val L9 zs + L9 ^ i * x * val L9 (ys.take j) ∧ ∀ k,i + j ≤ k → lb us k = lb zs k
theorem MulJ.start {ys zs : List Nat} {i x : Nat} (h : Lt L9 zs) : MulJ ys zs i x 0 0 zs :=⟨rfl,h,by decide,by simp [val],fun _ _ => rfl⟩
theorem MulJ.step {ys zs us : List Nat} {i x j c y : Nat} (h : MulJ ys zs i x j c us) (hx : x < L9) (hy : ys[j]? = some y) (hyb : y < L9) (hp : i + j < zs.length) (t : Nat) (ht : c + (lb us (i + j) + x * y) = t) : t < L9 * L9 ∧ MulJ ys zs i x (j + 1) (t / L9) (us.set (i + j) (t % L9)) :=by
  obtain ⟨h1,h2,h3,h4,h5⟩ :=h
  have hd :=lb_lt h2 (i + j)
  have hxy : x * y ≤ (L9 - 1) * (L9 - 1) :=Nat.mul_le_mul (by unfold L9 at *;omega) (by unfold L9 at *;omega)
  have htb : t < L9 * L9 :=by
    have e1 : (L9 - 1) * (L9 - 1) = 999999998000000001 :=by decide
    have e2 : L9 * L9 = 1000000000000000000 :=by decide
    unfold L9 at hd h3
    omega
  obtain ⟨hjl,rfl⟩ :=List.getElem?_eq_some_iff.1 hy
  refine ⟨htb,by rw [List.length_set,h1],Lt.set h2 (Nat.mod_lt _ (by decide)),?_,?_,fun k hk => ?_⟩
  · rw [Nat.div_lt_iff_lt_mul (by decide)];exact htb
  · have e :=val_set (B :=L9) (us :=us) (p :=i + j) (t % L9) (by omega)
    rw [val_take_succ hjl,Nat.mul_add]
    have e3 : L9 ^ (i + (j + 1)) * (t / L9) = L9 ^ (i + j) * (L9 * (t / L9)) :=by rw [← Nat.add_assoc,Nat.pow_succ,Nat.mul_assoc]
    have e4 : L9 ^ i * x * (L9 ^ j * ys[j]) = L9 ^ (i + j) * (x * ys[j]) :=by
      rw [Nat.pow_add,Nat.mul_assoc,Nat.mul_assoc,Nat.mul_left_comm x]
    rw [e3,e4]
    have hmd :=Nat.mod_add_div t L9
    have e5 : L9 ^ (i + j) * (t % L9) + L9 ^ (i + j) * (L9 * (t / L9)) = L9 ^ (i + j) * c + L9 ^ (i + j) * lb us (i + j) + L9 ^ (i + j) * (x * ys[j]) :=by
      rw [← Nat.mul_add,← Nat.mul_add,← Nat.mul_add,hmd,← ht,Nat.add_assoc]
    omega
  · rw [lb_set_ne (by omega),h5 k (by omega)]
theorem MulO.step {xs ys zs us : List Nat} {m n Y i x c : Nat} (h : MulO xs m n Y i zs) (hx : xs[i]? = some x) (hm : xs.length = m) (hn : ys.length = n) (hY : val L9 ys = Y) (hj : MulJ ys zs i x n c us) : MulO xs m n Y (i + 1) (us.set (i + n) c) :=by
  obtain ⟨h1,h2,h3,h4⟩ :=h
  obtain ⟨g1,g2,g3,g4,g5⟩ :=hj
  obtain ⟨hil,rfl⟩ :=List.getElem?_eq_some_iff.1 hx
  have e :=val_set (B :=L9) (us :=us) (p :=i + n) c (by omega)
  rw [g5 _ (Nat.le_refl _),h4 _ (Nat.le_refl _),Nat.mul_zero,Nat.add_zero] at e
  refine ⟨by rw [List.length_set,g1,h1],Lt.set g2 g3,?_,fun k hk => ?_⟩
  · rw [List.take_of_length_le (by omega),hY] at g4
    rw [e,g4,h3,val_take_succ hil,Nat.add_mul]
  · rw [lb_set_ne (by omega),g5 k (by omega),h4 k (by omega)]
theorem natMul (w : World) (sx sy : Option Addr) (m n cx cy X Y : Nat) (hx : Dig w sx m cx X) (hy : Dig w sy n cy Y) (hm : m < 500000) (hn : n < 500000) :
    Calls Tryz.prog 40 #[.slice sx m cx,.slice sy n cy] w fun e w' => (∃ v,e = .returned v ∧ NV w' v (X * Y)) ∧ Kept w w' :=by
  obtain ⟨xs,h1,h2,h3,h4,h5,h6,h7,h8⟩ :=hx
  obtain ⟨ys,k1,k2,k3,k4,k5,k6,k7,k8⟩ :=hy
  have hmk :=make26 w (m + n) (by omega)
  have hO :=made26 w (m + n)
  have hMO : MulO xs m n Y 0 (List.replicate (m + n) 0) :=⟨by simp,Lt.zeros (by decide) _,by rw [val_zeros];simp [val],fun k _ => by
    rw [lb,List.getD_eq_getElem?_getD,List.getElem?_replicate]
    split <;> rfl⟩
  have HS :=Lib.hid (And.intro h8 k8)
  have ka : Kept w (w.alloc (.cells (madeCells #[.int .u32 0] (m + n)) 72)) :=Chg.alloc _ _ _
  clear h3 h7 h8 k3 k7 k8
  obtain ⟨g,hg⟩ : ∃ g,w.heap.size = g :=⟨_,rfl⟩
  rw [hg] at hmk hO
  have hmn : ((m + n : Nat) : Int) = ((m : Int) + (n : Int)) :=by omega
  rw [hmn] at hmk
  clear hmn
  go_enter Tryz.func40,Tryz.ntmps40
  go_wp2
  go_loopw [19] (fun t19 wx => ∃ (i : Nat) (zs : List Nat),t19 = .int .i64 i ∧ i ≤ m ∧ Hid (MulO xs m n Y i zs) ∧ Hid (OutK .u32 wx g 0 (m + n) zs) ∧ Kept w wx) (fun t19 _ => m - (intOf t19).toNat)
  case atStart => exact ⟨0,_,rfl,Nat.zero_le _,Lib.hid hMO,Lib.hid (by subst hg;exact hO),ka⟩
  case round =>
    clear hMO hO ka hmk
    obtain ⟨i,zs,rfl,hi,hMO,hO,hK⟩ :=hrel
    rcases Nat.lt_or_ge i m with him | him
    · have hic : i < cx :=by omega
      have gx : xs[i]? = some xs[i] :=List.getElem?_eq_getElem (by omega)
      have lx : xs[i] < L9 :=h6 _ (List.getElem_mem _)
      generalize xs[i] = x at gx lx
      obtain ⟨g1,rfl,r1⟩ :=h5.row (fun e => by subst e;simp at h1;omega)
      have c1 :=(r1.keep hK) i x gx
      simp only [Nat.zero_add] at c1
      obtain ⟨A,eA⟩ : ∃ A : Int,(x : Int) = A :=⟨_,rfl⟩
      rw [eA] at c1
      have A0 : 0 ≤ A :=by omega
      have A1 : A ≤ 999999999 :=by unfold L9 at lx;omega
      have HX :=Lib.hid (And.intro gx (And.intro lx eA))
      clear gx lx eA
      go_upto_block 2 with fail
      go_cut [8,26] from 27 to 56 (fun t8 t26 wx => ∃ (c : Nat) (C : Int) (us : List Nat),t8 = .int .u64 C ∧ Hid (C = c) ∧ Hid (MulJ ys zs i x n c us) ∧ Hid (OutK .u32 wx g 0 (m + n) us) ∧ Kept w wx)
      case first =>
        go_wp2
        go_loopw [8,26] (fun t8 t26 wx => ∃ (j c : Nat) (C : Int) (us : List Nat),t26 = .int .i64 j ∧ j ≤ n ∧ t8 = .int .u64 C ∧ Hid (C = c) ∧ Hid (MulJ ys zs i x j c us) ∧ Hid (OutK .u32 wx g 0 (m + n) us) ∧ Kept w wx) (fun _ t26 _ => n - (intOf t26).toNat)
        case atStart => exact ⟨0,0,0,zs,rfl,Nat.zero_le _,rfl,Lib.hid rfl,Lib.hid (MulJ.start hMO.out.2.1),hO,hK⟩
        case round =>
          clear hK c1
          obtain ⟨j,c,C,us,rfl,hj,rfl,hC,hMJ,hO2,hK⟩ :=hrel
          rcases Nat.lt_or_ge j n with hjn | hjn
          · have hjc : j < cy :=by omega
            have gy : ys[j]? = some ys[j] :=List.getElem?_eq_getElem (by omega)
            have ly : ys[j] < L9 :=k6 _ (List.getElem_mem _)
            generalize ys[j] = y at gy ly
            obtain ⟨g2,rfl,r2⟩ :=k5.row (fun e => by subst e;simp at k1;omega)
            have c2 :=(r2.keep hK) j y gy
            obtain ⟨p,hp⟩ : ∃ p,i + j = p :=⟨_,rfl⟩
            have hp1 : p < m + n :=by omega
            have hul : us.length = m + n :=hMJ.out.1.trans hMO.out.1
            have c3 :=hO2.out.row p (lb us p) (by rw [lb_in (List.getElem?_eq_getElem (by omega))];exact List.getElem?_eq_getElem (by omega))
            have f3 :=(hO2.out.room p hp1).2
            have ld :=lb_lt hMJ.out.2.1 p
            obtain ⟨t,ht⟩ : ∃ t,c + (lb us p + x * y) = t :=⟨_,rfl⟩
            obtain ⟨htb,hst⟩ :=hMJ.out.step HX.out.2.1 gy ly (by rw [hMO.out.1];omega) t (by rw [hp];exact ht)
            rw [hp] at hst
            obtain ⟨B,eB⟩ : ∃ B : Int,(y : Int) = B :=⟨_,rfl⟩
            obtain ⟨D,eD⟩ : ∃ D : Int,((lb us p : Nat) : Int) = D :=⟨_,rfl⟩
            rw [eB] at c2
            rw [eD] at c3
            simp only [Nat.zero_add] at c2 c3 f3
            have B0 : 0 ≤ B :=by omega
            have B1 : B ≤ 999999999 :=by unfold L9 at ly;omega
            have D0 : 0 ≤ D :=by omega
            have D1 : D ≤ 999999999 :=by unfold L9 at ld;omega
            have C0 : 0 ≤ C :=by have :=hC.out;omega
            have eT : C + (D + A * B) = (t : Int) :=by rw [hC.out,← eD,← eB,← HX.out.2.2,← ht];push_cast;rfl
            have P0 : 0 ≤ A * B :=Int.mul_nonneg A0 B0
            have T1 : C + (D + A * B) ≤ 1000000000000000000 :=by rw [eT];unfold L9 at htb;omega
            have hpi : ((i : Int) + (j : Int)) = (p : Int) :=by omega
            have hO3 :=hO2.out.set (t % L9) (i :=p) (by omega)
            simp only [Nat.zero_add] at hO3
            have HH :=Lib.hid (And.intro eT (And.intro hst (And.intro hO3 hC.out)))
            clear eT hst hO3 hC htb ht gy ly ld eB eD
            go_wp2
            go_roundw
            case rel =>
              obtain ⟨eT,hst,hO3,hCc⟩ :=HH.out
              refine ⟨j + 1,t / L9,_,us.set p (t % L9),by go_num,hjn,rfl,Lib.hid ?_,Lib.hid hst,Lib.hid ?_,?_⟩
              · rw [eT];rfl
              · have e1 : (C + (D + A * B)) % 1000000000 = ((t % L9 : Nat) : Int) :=by rw [eT];rfl
                rw [e1]
                exact hO3
              · exact hK.keptNew (Chg.setCell _ g p _ (fun b _ => b = g) fun _ => rfl) fun b _ h => by omega
            case measure => simp [intOf];omega
          · obtain rfl : j = n :=by omega
            go_wp2
            go_meet
            exact ⟨c,C,us,rfl,hC,hMJ,hO2,hK⟩
      case rest =>
        clear hK c1
        obtain ⟨c,C,us,rfl,hC,hMJ,hO2,hK⟩ :=hcut
        have hst :=hMO.out.step HX.out.1 h1 k1 HS.out.2 hMJ.out
        have hcb :=hMJ.out.2.2.1
        have C0 : 0 ≤ C :=by have :=hC.out;omega
        have C1 : C ≤ 999999999 :=by have :=hC.out;unfold L9 at hcb;omega
        have hul : us.length = m + n :=hMJ.out.1.trans hMO.out.1
        obtain ⟨p,hp⟩ : ∃ p,i + n = p :=⟨_,rfl⟩
        have hp1 : p < m + n :=by omega
        have hpi : ((i : Int) + (n : Int)) = (p : Int) :=by omega
        have f3 :=(hO2.out.room p hp1).2
        obtain ⟨⟨u3,c3⟩,_⟩ :=hO2.out.room p hp1
        have hO3 :=hO2.out.set c (i :=p) (by omega)
        simp only [Nat.zero_add] at hO3 f3 c3
        rw [hp] at hst
        rw [← hC.out] at hO3
        have HH :=Lib.hid (And.intro hst hO3)
        clear hst hO3 hcb
        go_wp2
        go_roundw
        case rel =>
          obtain ⟨hst,hO3⟩ :=HH.out
          refine ⟨i + 1,us.set p c,by go_num,him,Lib.hid hst,Lib.hid hO3,?_⟩
          exact hK.keptNew (Chg.setCell _ g p _ (fun b _ => b = g) fun _ => rfl) fun b _ h => by omega
        case measure => simp [intOf];omega
    · obtain rfl : i = m :=by omega
      have hv :=hMO.out.2.2.1
      rw [List.take_of_length_le (by omega),HS.out.1] at hv
      have ht :=natTrim wr (some ⟨g,0,none⟩) (i + n) (i + n) zs hMO.out.1 (Nat.le_refl _) (by simp only [maxLen];omega) (by omega) (.inr ⟨g,rfl,hO.out.row⟩) hMO.out.2.1
      rw [hv] at ht
      have HK :=Lib.hid hK
      clear hv
      go_wp2_with (go_at_call 80;refine ht.mono ?_;rintro r w2 ⟨rfl,n',rfl,hD⟩)
      first | go_ret | refine ⟨_,results_tmp rfl _ _ _,?_⟩
      exact ⟨⟨_,rfl,_,n',_,rfl,hD⟩,HK.out⟩
end Go.Proofs.YtfmmdamgcpiciaaGreatDoor
namespace Go.Proofs.YtfmmdamgcpiciaaGreatDoor
open Go Go.RowKit
def ShI (xs : List Nat) (n b k r : Nat) (us : List Nat) : Prop :=∃ ts,us = List.replicate k 0 ++ ts ∧ ts.length = n - k ∧ Lt L9 ts ∧ r < b ∧ val L9 ts * b + r = val L9 (xs.drop k)
theorem ShI.step {xs us : List Nat} {n b k r x : Nat} (h : ShI xs n b (k + 1) r us) (hb : b < L9) (hk : k < n) (hx : xs[k]? = some x) (hxb : x < L9) (t : Nat) (ht : r * L9 + x = t) : t / b < L9 ∧ t < L9 * L9 ∧ ShI xs n b k (t % b) (us.set k (t / b)) :=by
  obtain ⟨ts,rfl,h2,h3,h4,h5⟩ :=h
  have h1 : t < b * L9 :=by
    have : (r + 1) * L9 ≤ b * L9 :=Nat.mul_le_mul_right _ h4
    rw [Nat.add_mul,Nat.one_mul] at this
    omega
  have hq : t / b < L9 :=by
    rw [Nat.div_lt_iff_lt_mul (by omega),Nat.mul_comm];exact h1
  refine ⟨hq,Nat.lt_of_lt_of_le h1 (Nat.mul_le_mul_right _ (by omega)),(t / b) :: ts,?_,by rw [List.length_cons];omega,fun y hy => ?_,Nat.mod_lt _ (by omega),?_⟩
  · rw [List.replicate_succ',List.append_assoc,List.set_append_right _ _ (by simp)]
    simp
  · rcases List.mem_cons.1 hy with rfl | hy
    · exact hq
    · exact h3 y hy
  · obtain ⟨hl,rfl⟩ :=List.getElem?_eq_some_iff.1 hx
    rw [List.drop_eq_getElem_cons hl]
    exact div_limb h5 t ht.symm rfl
theorem natShort (w : World) (s : Option Addr) (n c X b : Nat) (hx : Dig w s n c X) (hb : 0 < b) (hbL : b < L9) (hn : n ≤ 1000000) :
    Calls Tryz.prog 103 #[.slice s n c,.int .u32 (b : Int)] w fun e w' => (∃ v,e = .returned (.tuple #[v,.int .u32 ((X % b : Nat) : Int)]) ∧ NV w' v (X / b)) ∧ Kept w w' :=by
  obtain ⟨xs,h1,h2,h3,h4,h5,h6,h7,h8⟩ :=hx
  have hmk :=make26 w n (by omega)
  have hO :=made26 w n
  have hI : ShI xs n b n 0 (List.replicate n 0) :=⟨[],by simp,by simp,Lt.nil,hb,by rw [List.drop_of_length_le (by omega)];simp [val]⟩
  have ka : Kept w (w.alloc (.cells (madeCells #[.int .u32 0] n) 72)) :=Chg.alloc _ _ _
  obtain ⟨B,eB⟩ : ∃ B : Int,(b : Int) = B :=⟨_,rfl⟩
  rw [eB]
  have B0 : 0 < B :=by omega
  have B1 : B ≤ 999999999 :=by unfold L9 at hbL;omega
  have HS :=Lib.hid (And.intro h8 (And.intro hb (And.intro hbL (And.intro eB h3))))
  clear h3 h7 h8 eB hb hbL
  obtain ⟨g,hg⟩ : ∃ g,w.heap.size = g :=⟨_,rfl⟩
  rw [hg] at hmk hO
  go_enter Tryz.func103,Tryz.ntmps103
  go_wp2
  go_loopw [7,8] (fun t7 t8 wx => ∃ (k r : Nat) (R : Int) (us : List Nat),t8 = .int .i64 ((k : Int) - 1) ∧ k ≤ n ∧ t7 = .int .u64 R ∧ Hid (R = r) ∧ Hid (ShI xs n b k r us) ∧ Hid (OutK .u32 wx g 0 n us) ∧ Kept w wx) (fun _ t8 _ => (intOf t8 + 1).toNat)
  case atStart => exact ⟨n,0,0,_,by first | rfl | (congr 1;omega),Nat.le_refl _,rfl,Lib.hid rfl,Lib.hid hI,Lib.hid (by subst hg;exact hO),ka⟩
  case round =>
    clear hI hO ka hmk
    obtain ⟨k,r,R,us,rfl,hk,rfl,hR,hI,hO,hK⟩ :=hrel
    have hrb : r < b :=by obtain ⟨_,_,_,_,h,_⟩ :=hI.out;exact h
    have R0 : 0 ≤ R :=by have :=hR.out;omega
    have R1 : R < B :=by have :=hR.out;have :=HS.out.2.2.2.1;omega
    rcases Nat.eq_zero_or_pos k with rfl | hkp
    · obtain ⟨ts,e1,e2,e3,e4,e5⟩ :=hI.out
      rw [List.replicate_zero,List.nil_append] at e1
      subst e1
      rw [List.drop_zero,HS.out.1] at e5
      have hd : val L9 us = X / b :=by
        symm
        rw [← e5]
        rw [Nat.mul_comm,Nat.mul_add_div (by omega),Nat.div_eq_of_lt e4,Nat.add_zero]
      have hm : r = X % b :=by
        rw [← e5,Nat.mul_comm,Nat.mul_add_mod,Nat.mod_eq_of_lt e4]
      have ht :=natTrim wr (some ⟨g,0,none⟩) n n us (by omega) (Nat.le_refl _) (by simp only [maxLen];omega) (by omega) (.inr ⟨g,rfl,hO.out.row⟩) e3
      rw [hd] at ht
      have hR2 :=Lib.hid (hR.out.trans (by rw [hm]) : R = ((X % b : Nat) : Int))
      have HK :=Lib.hid hK
      clear hd hm e5 e4 hrb
      go_wp2_with (go_at_call 80;refine ht.mono ?_;rintro r w2 ⟨rfl,n',rfl,hD⟩)
      first | go_ret2 | go_ret | refine ⟨_,results_tmp2 rfl _ _ _,?_⟩
      exact ⟨⟨_,by rw [← hR2.out];rfl,_,n',_,rfl,hD⟩,HK.out⟩
    · obtain ⟨i,rfl⟩ : ∃ i,k = i + 1 :=⟨k - 1,by omega⟩
      have hic : i < c :=by omega
      have hin : i < n :=by omega
      have gx : xs[i]? = some xs[i] :=List.getElem?_eq_getElem (by omega)
      have lx : xs[i] < L9 :=h6 _ (List.getElem_mem _)
      generalize xs[i] = x at gx lx
      obtain ⟨g1,rfl,r1⟩ :=h5.row (fun e => by subst e;simp at h1;omega)
      have c1 :=(r1.keep hK) i x gx
      simp only [Nat.zero_add] at c1
      obtain ⟨A,eA⟩ : ∃ A : Int,(x : Int) = A :=⟨_,rfl⟩
      rw [eA] at c1
      have A0 : 0 ≤ A :=by omega
      have A1 : A ≤ 999999999 :=by unfold L9 at lx;omega
      obtain ⟨t,ht⟩ : ∃ t,r * L9 + x = t :=⟨_,rfl⟩
      obtain ⟨q1,q2,q3⟩ :=hI.out.step HS.out.2.2.1 hin gx lx t ht
      obtain ⟨q,hq⟩ : ∃ q,t / b = q :=⟨_,rfl⟩
      rw [hq] at q1 q3
      have eT : R * 1000000000 + A = (t : Int) :=by rw [hR.out,← eA,← ht,Int.natCast_add,Int.natCast_mul];rfl
      have T1 : R * 1000000000 + A ≤ 999999999999999999 :=by rw [eT];unfold L9 at q2;omega
      have hul : us.length = n :=by obtain ⟨ts,e1,e2,_⟩ :=hI.out;rw [e1,List.length_append,List.length_replicate,e2];omega
      have f3 :=(hO.out.room i hin).2
      obtain ⟨⟨u3,c3⟩,_⟩ :=hO.out.room i hin
      have hO3 :=hO.out.set q (i :=i) (by omega)
      simp only [Nat.zero_add] at hO3 f3 c3
      have e1 : (((i + 1 : Nat) : Int) - 1) = (i : Int) :=by omega
      have eQ : (R * 1000000000 + A) / B = (q : Int) :=by rw [eT,← HS.out.2.2.2.1,← hq];rfl
      have Q0 : 0 ≤ (R * 1000000000 + A) / B :=by rw [eQ];omega
      have Q1 : (R * 1000000000 + A) / B ≤ 999999999 :=by rw [eQ];unfold L9 at q1;omega
      have eM : (R * 1000000000 + A) % B = ((t % b : Nat) : Int) :=by rw [eT,← HS.out.2.2.2.1];rfl
      have hB0 : B ≠ 0 :=by omega
      have HH :=Lib.hid (And.intro q3 (And.intro eQ (And.intro eM hO3)))
      rw [e1]
      clear e1 eT eA q1 q2 q3 eQ eM hO3 ht gx lx hrb hq
      go_wp2
      go_roundw
      case rel =>
        obtain ⟨q3,eQ,eM,hO3⟩ :=HH.out
        refine ⟨i,t % b,_,us.set i q,by go_num,by omega,rfl,Lib.hid ?_,Lib.hid q3,Lib.hid ?_,?_⟩
        · exact eM
        · rw [eQ];exact hO3
        · exact hK.keptNew (Chg.setCell _ g i _ (fun b _ => b = g) fun _ => rfl) fun b _ h => by omega
      case measure => simp [intOf]
end Go.Proofs.YtfmmdamgcpiciaaGreatDoor
namespace Go.Proofs.YtfmmdamgcpiciaaGreatDoor
open Go Go.RowKit
theorem pow10_val (q r : Nat) : val L9 (List.replicate q 0 ++ [10 ^ r]) = 10 ^ (9 * q + r) :=by
  rw [val_snoc,val_zeros,List.length_replicate,Nat.zero_add,Nat.pow_add,Nat.pow_mul]
theorem natPow10 (w : World) (n : Nat) (hn : n ≤ 100000) : Calls Tryz.prog 17 #[.int .i64 (n : Int)] w fun e w' => (∃ v,e = .returned v ∧ NV w' v (10 ^ n)) ∧ Kept w w' :=by
  obtain ⟨q,hq⟩ : ∃ q,n / 9 = q :=⟨_,rfl⟩
  obtain ⟨r,hr⟩ : ∃ r,n % 9 = r :=⟨_,rfl⟩
  have hn9 : n = 9 * q + r :=by omega
  have hr9 : r ≤ 8 :=by omega
  have iq : ((n : Int) / 9) = (q : Int) :=by omega
  have ir : ((n : Int) % 9) = (r : Int) :=by omega
  have hmk :=make26 w (q + 1) (by omega)
  have hO :=made26 w (q + 1)
  have ka : Kept w (w.alloc (.cells (madeCells #[.int .u32 0] (q + 1)) 72)) :=Chg.alloc _ _ _
  rw [show ((q + 1 : Nat) : Int) = (q : Int) + 1 by omega] at hmk
  obtain ⟨g,hg⟩ : ∃ g,w.heap.size = g :=⟨_,rfl⟩
  rw [hg] at hmk hO
  obtain ⟨W1,hW1⟩ : ∃ W,w.alloc (.cells (madeCells #[.int .u32 0] (q + 1)) 72) = W :=⟨_,rfl⟩
  rw [hW1] at hmk hO ka
  clear hW1
  have HN :=Lib.hid (And.intro hn9 hn)
  clear hq hr hn9
  go_enter Tryz.func17,Tryz.ntmps17
  go_wp2
  go_loop [4,5] (fun t4 t5 => ∃ (i : Nat) (P : Int),t5 = .int .i64 i ∧ i ≤ r ∧ t4 = .int .u32 P ∧ Hid (P = (10 ^ i : Nat))) (fun _ t5 => 9 - (intOf t5).toNat)
  case atStart => exact ⟨0,1,rfl,Nat.zero_le _,rfl,Lib.hid rfl⟩
  case round =>
    obtain ⟨i,P,rfl,hi,rfl,hP⟩ :=hrel
    have p1 : 10 ^ i ≤ 10 ^ 8 :=Nat.pow_le_pow_right (by decide) (by omega)
    have p2 : 0 < 10 ^ i :=Nat.pow_pos (by decide)
    have P1 : P ≤ 100000000 :=by have :=hP.out;omega
    have P0 : 0 < P :=by have :=hP.out;omega
    have HP :=Lib.hid (And.intro p1 p2)
    clear p1 p2
    by_cases hlt : i < r
    · go_wp2
      go_round
      case rel => exact ⟨i + 1,_,by go_num,by omega,rfl,Lib.hid (by rw [hP.out,Nat.pow_succ];omega)⟩
      case measure => simp [intOf];omega
    · obtain rfl : i = r :=by omega
      have f3 :=(hO.room q (by omega)).2
      obtain ⟨⟨u3,c3⟩,_⟩ :=hO.room q (by omega)
      have hO3 :=hO.set (10 ^ i) (i :=q) (by simp)
      simp only [Nat.zero_add] at hO3 f3 c3
      have hO4 :=Lib.hid hO3
      have hqq : q < q + 1 :=by omega
      clear hO3
      go_wp2
      first | go_ret | refine ⟨_,results_tmp rfl _ _ _,?_⟩
      have e : (List.replicate (q + 1) 0).set q (10 ^ i) = List.replicate q 0 ++ [10 ^ i] :=by
        rw [List.replicate_succ',List.set_append_right _ _ (by simp)]
        simp
      have hO5 :=hO4.out
      rw [e,← hP.out] at hO5
      refine ⟨⟨_,rfl,_,q + 1,q + 1,rfl,List.replicate q 0 ++ [10 ^ i],by simp,Nat.le_refl _,by simp only [maxLen];omega,by omega,.inr ⟨g,rfl,?_⟩,?_,?_,?_⟩,?_⟩
      · exact hO5.row
      · refine (Lt.zeros (by decide) q).snoc ?_
        have :=HP.out.1
        unfold L9;omega
      · exact Nz.snoc (by have :=HP.out.2;omega)
      · rw [pow10_val,← HN.out.1]
      · exact ka.keptNew (Chg.setCell _ g q _ (fun b _ => b = g) fun _ => rfl) fun b _ h => by omega
end Go.Proofs.YtfmmdamgcpiciaaGreatDoor
namespace Go.Proofs.YtfmmdamgcpiciaaGreatDoor
open Go Go.RowKit
theorem run_app0 (w : World) (a : Addr) (n c : Nat) (s : Option Addr) (c' : Nat) (hn : n ≤ c) (hc : c ≤ maxLen) : (Builtin.append_ #[26,26] 26 #[.slice (some a) n c,.slice s 0 c']).run Tryz.prog w = .ok (.slice (some a) n c) w :=by
  obtain ⟨i0,hi,hz0,hz1,hz2⟩ :=info_parts T26.info
  have hf : (Builtin.firstCells i0.size 0 (.slice s 0 c')).run Tryz.prog w = .ok #[] w :=by
    cases s with
    | none => simp [Builtin.firstCells]
    | some b =>
      have :=run_firstCells_some (P :=Tryz.prog) w i0.size 0 b 0 c' [] (by simp) (fun j u h => by simp at h)
      simpa using this
  simp [Builtin.append_,run_underlying T26.u,sizeOf,typeInfo,hi,Builtin.lenOf,hn,hf,storeCells]
theorem wp_gappR {w0 w : World} {ops : Array Oper} {rest : List Oper} {op : Oper} {a : Act} {Q : Exit → Act → World → Prop} (hgd : op.guard = none) (s x : Operand) (ho : op.op = .call { callee :=.builtin .append,args :=#[s,x],argTypes :=#[26,26] }) (hty : op.type = 26) {sa : Addr} {sz : Option Addr} {c n m cz : Nat} {xs zs : List Nat}
    (hs : a.eval s = .slice (some sa) n c) (hx : a.eval x = .slice sz m cz) (h : Sl .u32 w0 w (some sa) c xs) (h0 : w0.heap.size ≤ w.heap.size) (hn : xs.length = n) (hm : zs.length = m) (hb : n + m < 2 ^ 40) (hz : Rd w sz zs)
    (hk : ∀ s' c' W1,Sl .u32 w0 W1 s' c' (xs ++ zs) → Chg w W1 (inS (some sa)) → wpList Tryz.prog ops Q rest (a.put op.dst (.slice s' (n + m) c')) W1) : wpList Tryz.prog ops Q (op :: rest) a w :=by
  rcases hz with rfl | ⟨g,rfl,hr⟩
  · have hm0 : m = 0 :=by rw [← hm];rfl
    subst hm0
    refine Lib.wpList_append_run _ hgd s x 26 26 ho _ _ hs hx _ _ (by rw [hty];exact run_app0 w sa n c sz cz (by rw [← hn];exact h.le) h.cap) ?_
    exact hk (some sa) c w (by rw [List.append_nil];exact h) (Chg.refl _ _)
  · rcases Nat.eq_zero_or_pos m with rfl | hmp
    · have hz : zs = [] :=List.eq_nil_of_length_eq_zero hm
      subst hz
      refine Lib.wpList_append_run _ hgd s x 26 26 ho _ _ hs hx _ _ (by rw [hty];exact run_app0 w sa n c _ cz (by rw [← hn];exact h.le) h.cap) ?_
      exact hk (some sa) c w (by rw [List.append_nil];exact h) (Chg.refl _ _)
    · exact wp_gapp T26 hgd s x ho hty zs hs hx h h0 hn hm (by omega) hb hr fun s' c' W1 q1 q2 _ => hk s' c' W1 q1 q2
theorem min_lt9 (t : Nat) : min t 999999999 < L9 :=Nat.lt_of_le_of_lt (Nat.min_le_right _ _) (by decide)
theorem min_cast9 (t : Nat) : ((min t 999999999 : Nat) : Int) = min (t : Int) 999999999 :=by omega
theorem le_min9 {q t : Nat} (h : q ≤ t) (h2 : q < L9) : q ≤ min t 999999999 :=Nat.le_min.2 ⟨h,by unfold L9 at h2;omega⟩
theorem guess_ge {R Y top yt D n : Nat} (hn : R < (top + 1) * L9 ^ n) (hy : yt * L9 ^ n ≤ Y) (hY : 0 < yt) (hD : D * Y ≤ R) : D ≤ top / yt :=by
  rw [Nat.le_div_iff_mul_le hY]
  have h1 : D * yt * L9 ^ n ≤ D * Y :=by rw [Nat.mul_assoc];exact Nat.mul_le_mul_left _ hy
  have h2 : D * yt * L9 ^ n < (top + 1) * L9 ^ n :=by omega
  have :=Nat.lt_of_mul_lt_mul_right h2
  omega
theorem top_limb {xs : List Nat} {n : Nat} (hlt : Lt L9 xs) (hl : xs.length = n + 1) : lb xs n * L9 ^ n ≤ val L9 xs ∧ val L9 xs < (lb xs n + 1) * L9 ^ n :=by
  have h1 :=val_take1 L9 xs n
  rw [List.take_of_length_le (by omega)] at h1
  have h2 :=val_lt (hlt.take n)
  rw [List.length_take,Nat.min_eq_left (by omega)] at h2
  rw [h1,Nat.add_mul,Nat.one_mul,Nat.mul_comm (lb xs n)]
  omega
theorem top_limb2 {xs : List Nat} {n : Nat} (hlt : Lt L9 xs) (hl : xs.length = n + 2) : val L9 xs < (lb xs n + lb xs (n + 1) * L9 + 1) * L9 ^ n :=by
  have h1 :=val_take1 L9 xs (n + 1)
  have h3 :=val_take1 L9 xs n
  rw [List.take_of_length_le (by omega)] at h1
  have h2 :=val_lt (hlt.take n)
  rw [List.length_take,Nat.min_eq_left (by omega)] at h2
  rw [h1,h3,Nat.pow_succ,Nat.add_mul,Nat.add_mul,Nat.one_mul,Nat.mul_comm (lb xs n),Nat.mul_assoc (lb xs (n + 1)),Nat.mul_comm (lb xs (n + 1)),Nat.mul_comm L9]
  omega
theorem natGuess (w : World) (sr sy : Option Addr) (m n cr cy R Y : Nat) (hr : Dig w sr m cr R) (hy : Dig w sy n cy Y) (hY : 0 < Y) (hRY : R < L9 * Y) (hn : n < 500000) :
    Calls Tryz.prog 104 #[.slice sr m cr,.slice sy n cy] w fun e w' => w' = w ∧ ∃ d : Nat,e = .returned (.int .u64 (d : Int)) ∧ R / Y ≤ d ∧ d < L9 :=by
  have hD : R / Y < L9 :=by rw [Nat.div_lt_iff_lt_mul hY];exact hRY
  have hDm : R / Y * Y ≤ R :=Nat.div_mul_le_self R Y
  have hn0 : n ≠ 0 :=fun h => by have :=hy.zero.1 h;omega
  have hzn :=hr.len_ge hy
  obtain ⟨xs,h1,h2,h3,h4,h5,h6,h7,h8⟩ :=hr
  obtain ⟨ys,k1,k2,k3,k4,k5,k6,k7,k8⟩ :=hy
  obtain ⟨p,rfl⟩ : ∃ p,n = p + 1 :=⟨n - 1,by omega⟩
  have hmn : m ≤ p + 2 :=by
    rcases Nat.lt_or_ge (p + 2) m with h | h
    · obtain ⟨t,rfl⟩ : ∃ t,m = t + 1 :=⟨m - 1,by omega⟩
      have a1 :=Nz.le (B :=L9) h7 h1
      have a2 :=val_lt k6
      rw [k1,k8] at a2
      rw [h8] at a1
      have a3 : L9 * Y < L9 * L9 ^ (p + 1) :=Nat.mul_lt_mul_of_pos_left a2 (by decide)
      rw [Nat.mul_comm L9 (L9 ^ (p + 1)),← Nat.pow_succ] at a3
      have a4 : L9 ^ (p + 1).succ ≤ L9 ^ t :=Nat.pow_le_pow_right (by decide) (by rw [Nat.succ_eq_add_one];omega)
      omega
    · exact h
  have ty :=top_limb k6 k1
  rw [k8] at ty
  have gy : ys[p]? = some (lb ys p) :=by rw [lb_in (List.getElem?_eq_getElem (by omega))];exact List.getElem?_eq_getElem (by omega)
  have hyt : 0 < lb ys p :=by
    refine Nat.pos_of_ne_zero fun h => k7 _ ?_ h
    rw [List.getLast?_eq_getElem?,k1]
    exact gy
  have hylt :=lb_lt k6 p
  obtain ⟨g2,rfl,r2⟩ :=k5.row (fun e => by subst e;simp at k1)
  have c2 :=r2 p (lb ys p) gy
  obtain ⟨B,eB⟩ : ∃ B : Int,((lb ys p : Nat) : Int) = B :=⟨_,rfl⟩
  rw [eB] at c2
  simp only [Nat.zero_add] at c2
  have B0 : 0 < B :=by omega
  have B1 : B ≤ 999999999 :=by unfold L9 at hylt;omega
  have ep : ((p + 1 : Nat) : Int) - 1 = (p : Int) :=by omega
  have epi : (p : Int) + 1 - 1 = (p : Int) :=by omega
  rcases (by omega : m < p + 1 ∨ m = p + 1 ∨ m = p + 2) with hm | rfl | rfl
  · have hlt : R < Y :=hzn hm
    clear hzn h3 k3 h7 k7 ty
    go_enter Tryz.func104,Tryz.ntmps104
    go_wp2
    first | go_ret | refine ⟨_,results_tmp rfl _ _ _,?_⟩
    exact ⟨rfl,0,rfl,by rw [Nat.div_eq_of_lt hlt];exact Nat.le_refl _,by decide⟩
  · have tx :=(top_limb h6 h1).2
    rw [h8] at tx
    have hg :=guess_ge tx ty.1 hyt hDm
    have gx : xs[p]? = some (lb xs p) :=by rw [lb_in (List.getElem?_eq_getElem (by omega))];exact List.getElem?_eq_getElem (by omega)
    have hxl :=lb_lt h6 p
    obtain ⟨g1,rfl,r1⟩ :=h5.row (fun e => by subst e;simp at h1)
    have c1 :=r1 p (lb xs p) gx
    obtain ⟨A,eA⟩ : ∃ A : Int,((lb xs p : Nat) : Int) = A :=⟨_,rfl⟩
    rw [eA] at c1
    simp only [Nat.zero_add] at c1
    have A0 : 0 ≤ A :=by omega
    have A1 : A ≤ 999999999 :=by unfold L9 at hxl;omega
    have eQ : A / B = ((lb xs p / lb ys p : Nat) : Int) :=by rw [← eA,← eB];rfl
    have Q0 : 0 ≤ A / B :=by rw [eQ];exact Int.natCast_nonneg _
    have HH :=Lib.hid (And.intro hg (And.intro eQ (And.intro hD hDm)))
    have hB0 : B ≠ 0 :=by omega
    clear hzn h3 k3 h7 k7 ty tx hg eQ hD hDm eA eB hxl hylt hyt gx gy
    go_enter Tryz.func104,Tryz.ntmps104
    go_wp2
    first | go_ret | refine ⟨_,results_tmp rfl _ _ _,?_⟩
    obtain ⟨hg,eQ,hD,hDm⟩ :=HH.out
    refine ⟨rfl,min (lb xs p / lb ys p) 999999999,?_,le_min9 hg hD,min_lt9 _⟩
    have : ((min (lb xs p / lb ys p) 999999999 : Nat) : Int) = min (A / B) 999999999 :=by rw [eQ];exact min_cast9 _
    rw [this];rfl
  · have tx :=top_limb2 h6 h1
    rw [h8] at tx
    have hg :=guess_ge tx ty.1 hyt hDm
    have gx : xs[p]? = some (lb xs p) :=by rw [lb_in (List.getElem?_eq_getElem (by omega))];exact List.getElem?_eq_getElem (by omega)
    have gx2 : xs[p + 1]? = some (lb xs (p + 1)) :=by rw [lb_in (List.getElem?_eq_getElem (by omega))];exact List.getElem?_eq_getElem (by omega)
    have hxl :=lb_lt h6 p
    have hxl2 :=lb_lt h6 (p + 1)
    obtain ⟨g1,rfl,r1⟩ :=h5.row (fun e => by subst e;simp at h1)
    have c1 :=r1 p (lb xs p) gx
    have c3 :=r1 (p + 1) (lb xs (p + 1)) gx2
    obtain ⟨A,eA⟩ : ∃ A : Int,((lb xs p : Nat) : Int) = A :=⟨_,rfl⟩
    obtain ⟨A2,eA2⟩ : ∃ A : Int,((lb xs (p + 1) : Nat) : Int) = A :=⟨_,rfl⟩
    rw [eA] at c1
    rw [eA2] at c3
    simp only [Nat.zero_add] at c1 c3
    have A0 : 0 ≤ A :=by omega
    have A1 : A ≤ 999999999 :=by unfold L9 at hxl;omega
    have A20 : 0 ≤ A2 :=by omega
    have A21 : A2 ≤ 999999999 :=by unfold L9 at hxl2;omega
    have eQ : (A + A2 * 1000000000) / B = (((lb xs p + lb xs (p + 1) * L9) / lb ys p : Nat) : Int) :=by rw [← eA,← eA2,← eB];rfl
    have Q0 : 0 ≤ (A + A2 * 1000000000) / B :=by rw [eQ];exact Int.natCast_nonneg _
    have HH :=Lib.hid (And.intro hg (And.intro eQ (And.intro hD hDm)))
    have hB0 : B ≠ 0 :=by omega
    clear hzn h3 k3 h7 k7 ty tx hg eQ hD hDm eA eA2 eB hxl hxl2 hylt hyt gx gx2 gy
    go_enter Tryz.func104,Tryz.ntmps104
    go_wp2
    first | go_ret | refine ⟨_,results_tmp rfl _ _ _,?_⟩
    obtain ⟨hg,eQ,hD,hDm⟩ :=HH.out
    refine ⟨rfl,min ((lb xs p + lb xs (p + 1) * L9) / lb ys p) 999999999,?_,le_min9 hg hD,min_lt9 _⟩
    have : ((min ((lb xs p + lb xs (p + 1) * L9) / lb ys p) 999999999 : Nat) : Int) = min ((A + A2 * 1000000000) / B) 999999999 :=by rw [eQ];exact min_cast9 _
    rw [this];rfl
end Go.Proofs.YtfmmdamgcpiciaaGreatDoor
namespace Go.Proofs.YtfmmdamgcpiciaaGreatDoor
open Go Go.RowKit
theorem Sl.empty (w0 w : World) (h : w0.heap.size ≤ w.heap.size) : Sl .u32 w0 (w.alloc (.cells #[] 72)) (some ⟨w.heap.size,0,none⟩) 0 [] :=
  Sl.of h (by simp) ⟨fun j x hj => by simp at hj,fun j hj => by omega,Nat.le_refl _,NF.made w _ _,by simp⟩ (Nat.zero_le _)
theorem Sl.single (w0 w : World) (h : w0.heap.size ≤ w.heap.size) (x : Nat) : Sl .u32 w0 (w.alloc (.cells #[.int .u32 (x : Int)] 72)) (some ⟨w.heap.size,0,none⟩) 1 [x] :=by
  have hc : (w.alloc (.cells #[.int .u32 (x : Int)] 72)).cell? ⟨w.heap.size,0,none⟩ = some (.int .u32 (x : Int)) :=by
    rw [World.cell?_alloc_at _ _ _ _ rfl];rfl
  refine Sl.of h (by simp) ⟨fun j y hj => ?_,fun j hj => ?_,Nat.le_refl _,NF.made w _ _,by simp⟩ (by decide)
  · match j,hj with
    | 0,hj => obtain rfl :=Option.some.inj hj;exact hc
  · obtain rfl : j = 0 :=by omega
    exact ⟨⟨_,hc⟩,NF.made w _ _ _⟩
theorem NV.nil (w : World) : NV w (.slice none 0 0) 0 :=⟨none,0,0,rfl,[],rfl,Nat.le_refl _,Nat.zero_le _,by decide,.inl rfl,Lt.nil,Nz.nil,rfl⟩
theorem natDiv_lt (w : World) (sx sy : Option Addr) (m n cx cy X Y : Nat) (hx : Dig w sx m cx X) (hy : Dig w sy n cy Y) (hlt : X < Y) :
    Calls Tryz.prog 75 #[.slice sx m cx,.slice sy n cy] w fun e w' => (∃ v1 v2,e = .returned (.tuple #[v1,v2]) ∧ NV w' v1 (X / Y) ∧ NV w' v2 (X % Y)) ∧ Kept w w' :=by
  have hc :=natCmp w sx sy m n cx cy X Y hx hy
  rw [show cmpI X Y = -1 by simp [cmpI,hlt]] at hc
  obtain ⟨xs,h1,h2,h3,h4,h5,h6,h7,h8⟩ :=hx
  rw [Nat.div_eq_of_lt hlt,Nat.mod_eq_of_lt hlt]
  have HS :=Lib.hid (And.intro h7 (And.intro h8 h3))
  clear hy hlt h3 h7 h8
  go_enter Tryz.func75,Tryz.ntmps75
  go_wp2_with (first
    | (go_at_call 77;refine hc.mono ?_;rintro r w1 ⟨rfl,k1⟩)
    | (at_builtin;refine wp_gappR (w0 :=w) rfl (.tmp 18) (.tmp 19) rfl rfl rfl rfl (Sl.empty w _ k1.size) (Nat.le_trans k1.size (Chg.alloc _ _ None2).size) rfl h1 (by omega) (h5.kept (kt k1 (Chg.alloc _ _ _))) ?_;intro s4 c4 w4 hS4 hC4))
  first | go_ret2 | refine ⟨_,results_tmp2 rfl _ _ _,?_⟩
  obtain ⟨h7,h8,h3⟩ :=HS.out
  refine ⟨⟨_,_,rfl,NV.nil _,s4,_,c4,rfl,hS4.ret (by rw [List.nil_append,h1]) (by omega) h6 h7 h8⟩,?_⟩
  refine (kt k1 (Chg.alloc _ _ _)).trans hC4 fun b o hb h => ?_
  obtain ⟨a,ha,rfl⟩ :=h
  obtain rfl :=Option.some.inj ha
  have :=k1.size
  simp only at hb
  omega
theorem natDiv_one (w : World) (sx sy : Option Addr) (m cx cy X Y : Nat) (hx : Dig w sx m cx X) (hy : Dig w sy 1 cy Y) (hle : Y ≤ X) (hm : m ≤ 1000000) :
    Calls Tryz.prog 75 #[.slice sx m cx,.slice sy 1 cy] w fun e w' => (∃ v1 v2,e = .returned (.tuple #[v1,v2]) ∧ NV w' v1 (X / Y) ∧ NV w' v2 (X % Y)) ∧ Kept w w' :=by
  have hY0 : 0 < Y :=by
    have :=hy.zero
    omega
  have hc :=natCmp w sx sy m 1 cx cy X Y hx hy
  have hc0 : 0 ≤ cmpI X Y :=by unfold cmpI;repeat' split <;> omega
  obtain ⟨z,hz⟩ : ∃ z,cmpI X Y = z :=⟨_,rfl⟩
  rw [hz] at hc hc0
  obtain ⟨ys,k1,k2,k3,k4,k5,k6,k7,k8⟩ :=hy
  obtain ⟨y,rfl⟩ : ∃ y,ys = [y] :=List.length_eq_one_iff.1 k1
  have hyY : y = Y :=by rw [← k8];simp [val]
  subst hyY
  have hyL : y < L9 :=k6 y (by simp)
  obtain ⟨g2,rfl,r2⟩ :=k5.row (by simp)
  have c2 :=r2 0 y rfl
  have hsh :=fun W (k : Kept w W) => natShort W sx m cx X y (hx.kept k) hY0 hyL hm
  have hrl : X % y < L9 :=Nat.lt_trans (Nat.mod_lt _ hY0) hyL
  have hfr :=fun W => natFrom W (X % y) (by unfold L9 at hrl;omega)
  obtain ⟨B,eB⟩ : ∃ B : Int,(y : Int) = B :=⟨_,rfl⟩
  obtain ⟨M,eM⟩ : ∃ M : Int,((X % y : Nat) : Int) = M :=⟨_,rfl⟩
  rw [eB] at c2
  rw [eB,eM] at hsh
  rw [eM] at hfr
  have M0 : 0 ≤ M :=by omega
  have M1 : M ≤ 999999999 :=by unfold L9 at hrl;omega
  have HX :=Lib.hid hx
  clear hle hz k3 k8 k6 k7 k5 hyL hrl eB eM hY0 hx
  go_enter Tryz.func75,Tryz.ntmps75
  go_wp2_with (first
    | (go_at_call 77;refine hc.mono ?_;rintro r w1 ⟨rfl,q1⟩;have c3 :=Kept.at q1 c2)
    | (go_at_call 103;refine (hsh _ q1).mono ?_;rintro r w2 ⟨⟨v2,rfl,n2⟩,q2⟩)
    | (go_at_call 41;refine (hfr _).mono ?_;rintro r w3 ⟨⟨v3,rfl,n3⟩,q3⟩))
  first | go_ret2 | refine ⟨_,results_tmp2 rfl _ _ _,?_⟩
  exact ⟨⟨_,_,rfl,n2.kept q3,n3⟩,kt q1 (kt q2 q3)⟩
end Go.Proofs.YtfmmdamgcpiciaaGreatDoor
namespace Go.Proofs.YtfmmdamgcpiciaaGreatDoor
open Go Go.RowKit
theorem ShI.step2 {xs us : List Nat} {n b k r x : Nat} (h : ShI xs n b (k + 1) r us) (hk : k < n) (hx : xs[k]? = some x) (hxb : x < L9) (t : Nat) (ht : x + L9 * r = t) : t < L9 * b ∧ t / b < L9 ∧ ShI xs n b k (t % b) (us.set k (t / b)) :=by
  obtain ⟨ts,rfl,h2,h3,h4,h5⟩ :=h
  have h1 : t < L9 * b :=by
    have : L9 * (r + 1) ≤ L9 * b :=Nat.mul_le_mul_left _ h4
    rw [Nat.mul_add,Nat.mul_one] at this
    omega
  have hq : t / b < L9 :=by
    rw [Nat.div_lt_iff_lt_mul (by omega)];exact h1
  refine ⟨h1,hq,(t / b) :: ts,?_,by rw [List.length_cons];omega,fun y hy => ?_,Nat.mod_lt _ (by omega),?_⟩
  · rw [List.replicate_succ',List.append_assoc,List.set_append_right _ _ (by simp)]
    simp
  · rcases List.mem_cons.1 hy with rfl | hy
    · exact hq
    · exact h3 y hy
  · obtain ⟨hl,rfl⟩ :=List.getElem?_eq_some_iff.1 hx
    rw [List.drop_eq_getElem_cons hl]
    exact div_limb h5 t (by rw [← ht,Nat.mul_comm L9,Nat.add_comm]) rfl
theorem div_scaled {X Y b Q R : Nat} (hb : 0 < b) (hY : 0 < Y) (h : Q * (Y * b) + R = X * b) (hR : R < Y * b) : Q = X / Y ∧ R / b = X % Y :=by
  have h1 : (X * b) / (Y * b) = Q :=by
    rw [← h,Nat.mul_comm Q,Nat.mul_add_div (Nat.mul_pos hY hb),Nat.div_eq_of_lt hR,Nat.add_zero]
  have h2 : (X * b) % (Y * b) = R :=by
    rw [← h,Nat.mul_comm Q,Nat.mul_add_mod,Nat.mod_eq_of_lt hR]
  rw [Nat.mul_div_mul_right _ _ hb] at h1
  rw [Nat.mul_mod_mul_right] at h2
  exact ⟨h1.symm,by rw [← h2,Nat.mul_div_cancel _ hb]⟩
theorem natDiv_big (w : World) (sx sy : Option Addr) (m n cx cy X Y : Nat) (hx : Dig w sx m cx X) (hy : Dig w sy n cy Y) (hle : Y ≤ X) (hm : m < 400000) (hn1 : 1 < n) (hn : n < 400000) :
    Calls Tryz.prog 75 #[.slice sx m cx,.slice sy n cy] w fun e w' => (∃ v1 v2,e = .returned (.tuple #[v1,v2]) ∧ NV w' v1 (X / Y) ∧ NV w' v2 (X % Y)) ∧ Kept w w' :=by
  have hY0 : 0 < Y :=by
    have :=hy.zero
    omega
  have hc :=natCmp w sx sy m n cx cy X Y hx hy
  have hc0 : 0 ≤ cmpI X Y :=by unfold cmpI;repeat' split <;> omega
  obtain ⟨z,hz⟩ : ∃ z,cmpI X Y = z :=⟨_,rfl⟩
  rw [hz] at hc hc0
  obtain ⟨p,rfl⟩ : ∃ p,n = p + 1 :=⟨n - 1,by omega⟩
  have hx' :=Lib.hid hx
  have hy' :=Lib.hid hy
  obtain ⟨ys,k1,k2,k3,k4,k5,k6,k7,k8⟩ :=hy
  have gy : ys[p]? = some (lb ys p) :=by rw [lb_in (List.getElem?_eq_getElem (by omega))];exact List.getElem?_eq_getElem (by omega)
  have hyl :=lb_lt k6 p
  have hyp : 0 < lb ys p :=by
    refine Nat.pos_of_ne_zero fun h => k7 _ ?_ h
    rw [List.getLast?_eq_getElem?,k1]
    exact gy
  obtain ⟨g2,rfl,r2⟩ :=k5.row (fun e => by subst e;simp at k1)
  have c2 :=r2 p (lb ys p) gy
  obtain ⟨b,hb⟩ : ∃ b,1000000000 / (lb ys p + 1) = b :=⟨_,rfl⟩
  have hb0 : 0 < b :=by rw [← hb];exact Nat.div_pos (by unfold L9 at hyl;omega) (by omega)
  have hbL : b < L9 :=by
    rw [← hb,Nat.div_lt_iff_lt_mul (by omega)]
    unfold L9
    omega
  obtain ⟨A,eA⟩ : ∃ A : Int,((lb ys p : Nat) : Int) = A :=⟨_,rfl⟩
  rw [eA] at c2
  simp only [Nat.zero_add] at c2
  have A0 : 0 ≤ A :=by omega
  have A1 : A ≤ 999999999 :=by unfold L9 at hyl;omega
  have eb : 1000000000 / (A + 1) = (b : Int) :=by rw [← eA,← hb];rfl
  obtain ⟨B,eB⟩ : ∃ B : Int,(b : Int) = B :=⟨_,rfl⟩
  rw [eB] at eb
  have B0 : 0 < B :=by omega
  have B1 : B ≤ 999999999 :=by unfold L9 at hbL;omega
  have hA1 : A + 1 ≠ 0 :=by omega
  have ep : (p : Int) + 1 - 1 = (p : Int) :=by omega
  have hn1' : ((p : Int) + 1 == 1) = false :=by simp;omega
  have HB :=Lib.hid (And.intro hb0 (And.intro hbL (And.intro eB (And.intro hY0 hle))))
  have hbd : ∀ W : World,Dig (W.alloc (.cells #[.int .u32 B] 72)) (some ⟨W.heap.size,0,none⟩) 1 1 b :=fun W => by
    have :=(Sl.single W W (Nat.le_refl _) b).ret (X :=b) rfl (by simp) (Lt.one hbL) (Nz.one (by omega)) (by simp [val])
    rw [eB] at this
    exact this
  have hm1 : ∀ W sb,Kept w W → Dig W sb 1 1 b → Calls Tryz.prog 40 #[.slice sx m cx,.slice sb 1 1] W fun e w' => (∃ v,e = .returned v ∧ NV w' v (X * b)) ∧ Kept W w' :=fun W sb k h => natMul W sx sb m 1 cx 1 X b (hx'.out.kept k) h (by omega) (by omega)
  have hm2 : ∀ W sb,Kept w W → Dig W sb 1 1 b → Calls Tryz.prog 40 #[.slice (some ⟨g2,0,none⟩) (p + 1) cy,.slice sb 1 1] W fun e w' => (∃ v,e = .returned v ∧ NV w' v (Y * b)) ∧ Kept W w' :=fun W sb k h => natMul W _ sb (p + 1) 1 cy 1 Y b (hy'.out.kept k) h (by omega) (by omega)
  clear hz k3 k8 k6 k7 k5 hyl hyp gy hb hb0 hbL eA eB hY0 hle hx
  go_enter Tryz.func75,Tryz.ntmps75
  go_upto_region 8 with (first
    | (go_at_call 77;refine hc.mono ?_;rintro r w1 ⟨rfl,q1⟩;have c3 :=Kept.at q1 c2;have kb :=kt q1 (Chg.alloc w1 (.cells #[.int .u32 B] 72) None2);have db :=hbd w1)
    | (go_at_call 40;(with_reducible refine (hm1 _ _ kb db).mono ?_);rintro r w2 ⟨⟨v2,rfl,n2⟩,q2⟩)
    | (go_at_call 40;(with_reducible refine (hm2 _ _ (kt kb q2) (db.kept q2)).mono ?_);rintro r w3 ⟨⟨v3,rfl,n3⟩,q3⟩))
  obtain ⟨sX,NX,cX,rfl,dX⟩ :=n2
  obtain ⟨sY,NY,cY,rfl,dY⟩ :=n3
  replace dX :=dX.kept q3
  have kw :=kt kb (kt q2 q3)
  have db3 :=db.kept (kt q2 q3)
  clear kb db q2 q3 hm1 hm2 hbd eb c3 c2 q1 hc hc0 hA1
  have hYb0 : 0 < Y * b :=Nat.mul_pos HB.out.2.2.2.1 HB.out.1
  have hYL : Y * b < L9 ^ NY :=by
    obtain ⟨ys',a1,a2,a3,a4,a5,a6,a7,a8⟩ :=dY
    have b1 :=val_lt a6
    rw [a1,a8] at b1
    exact b1
  have HYb :=Lib.hid hYb0
  have HYL :=Lib.hid hYL
  clear hYL
  obtain ⟨xs,h1,h2,h3,h4,h5,h6,h7,h8⟩ :=dX
  have hYn : NY < 500000 :=by
    have :=dY.len_le (k :=p + 1 + 1) ?_
    · omega
    · obtain ⟨ys',a1,a2,a3,a4,a5,a6,a7,a8⟩ :=hy'.out
      have b1 :=val_lt a6
      rw [a1,a8] at b1
      rw [Nat.pow_succ]
      exact Nat.mul_lt_mul'' b1 HB.out.2.1
  have hXn : NX ≤ 1000000 :=by
    have hd : Dig w3 sX NX cX (X * b) :=⟨xs,h1,h2,h3,h4,h5,h6,h7,h8⟩
    have :=hd.len_le (k :=m + 1) ?_
    · omega
    · obtain ⟨ys',a1,a2,a3,a4,a5,a6,a7,a8⟩ :=hx'.out
      have b1 :=val_lt a6
      rw [a1,a8] at b1
      rw [Nat.pow_succ]
      exact Nat.mul_lt_mul'' b1 HB.out.2.1
  have hmk :=make26 w3 NX (by omega)
  have hO :=made26 w3 NX
  have hI : ShI xs NX (Y * b) NX 0 (List.replicate NX 0) :=⟨[],by simp,by simp,Lt.nil,hYb0,by rw [List.drop_of_length_le (by omega)];simp [val]⟩
  have ka : Kept w3 (w3.alloc (.cells (madeCells #[.int .u32 0] NX) 72)) :=Chg.alloc _ _ _
  obtain ⟨g,hg⟩ : ∃ g,w3.heap.size = g :=⟨_,rfl⟩
  rw [hg] at hmk hO
  have hgW : g < (w3.alloc (.cells (madeCells #[.int .u32 0] NX) 72)).heap.size :=hO.lt
  obtain ⟨W4,hW4⟩ : ∃ W,w3.alloc (.cells (madeCells #[.int .u32 0] NX) 72) = W :=⟨_,rfl⟩
  rw [hW4] at hmk hO ka hgW
  clear hW4
  have HX :=Lib.hid (And.intro h7 (And.intro h8 h3))
  clear h3 h7 h8 hYb0
  go_wp2
  go_loopw [5,11] (fun t5 t11 wx => ∃ (k R : Nat) (us : List Nat) (s : Option Addr) (n c : Nat),t11 = .int .i64 ((k : Int) - 1) ∧ k ≤ NX ∧ t5 = .slice s n c ∧ Dig wx s n c R ∧ Hid (ShI xs NX (Y * b) k R us) ∧ Hid (OutK .u32 wx g 0 NX us) ∧ Kept w3 wx) (fun _ t11 _ => (intOf t11 + 1).toNat)
  case atStart => exact ⟨NX,0,_,none,0,0,by first | rfl | (congr 1;omega),Nat.le_refl _,rfl,(by obtain ⟨s,n,c,e,h⟩ :=NV.nil W4;cases e;exact h),Lib.hid hI,Lib.hid hO,ka⟩
  case round =>
    clear hI hO ka hmk
    obtain ⟨k,R,us,s,n,c,rfl,hk,rfl,hR,hI,hO,hK⟩ :=hrel
    have hRY : R < Y * b :=by obtain ⟨_,_,_,_,h,_⟩ :=hI.out;exact h
    have hnY : n ≤ NY :=by
      rcases Nat.lt_or_ge NY n with h | h
      · have :=dY.len_ge hR h;omega
      · exact h
    rcases Nat.eq_zero_or_pos k with rfl | hkp
    · obtain ⟨ts,e1,e2,e3,e4,e5⟩ :=hI.out
      rw [List.replicate_zero,List.nil_append] at e1
      subst e1
      obtain ⟨hb0,hbL,eB,hY0,hle⟩ :=HB.out
      rw [List.drop_zero,HX.out.2.1] at e5
      obtain ⟨hq,hr⟩ :=div_scaled hb0 hY0 e5 e4
      have hsh :=natShort wr s n c R b hR hb0 hbL (by omega)
      rw [eB,hr] at hsh
      obtain ⟨bs',a1,a2,a3,a4,a5,a6,a7,a8⟩ :=db3
      obtain ⟨y,rfl⟩ : ∃ y,bs' = [y] :=List.length_eq_one_iff.1 a1
      have hyb : y = b :=by rw [← a8];simp [val]
      subst hyb
      obtain ⟨g9,e9,r9⟩ :=a5.row (by simp)
      obtain rfl :=(Addr.mk.inj (Option.some.inj e9)).1
      have c9 :=(r9.keep hK) 0 y rfl
      rw [eB] at c9
      have ht :=fun W (kW : Kept wr W) => natTrim W (some ⟨g,0,none⟩) NX NX us (by omega) (Nat.le_refl _) (by simp only [maxLen];omega) (by omega) (.inr ⟨g,rfl,(hO.out.kept kW).row⟩) e3
      rw [hq] at ht
      have HK :=Lib.hid (kt kw hK)
      clear hq hr hb0 hbL hY0 hle eB e5 e4 e3 a2 a3 a4 a5 a6 a7 a8 e9 r9 hRY
      go_wp2_with (first
        | (go_at_call 103;refine hsh.mono ?_;rintro r w7 ⟨⟨v7,rfl,n7⟩,q7⟩)
        | (go_at_call 80;refine (ht _ q7).mono ?_;rintro r w8 ⟨rfl,n',rfl,d8⟩))
      first | go_ret2 | refine ⟨_,results_tmp2 rfl _ _ _,?_⟩
      exact ⟨⟨_,_,rfl,⟨_,_,_,rfl,d8⟩,n7⟩,kt HK.out q7⟩
    · obtain ⟨i,rfl⟩ : ∃ i,k = i + 1 :=⟨k - 1,by omega⟩
      have hic : i < cX :=by omega
      have hiN : i < NX :=by omega
      have gx : xs[i]? = some xs[i] :=List.getElem?_eq_getElem (by omega)
      have lx : xs[i] < L9 :=h6 _ (List.getElem_mem _)
      generalize xs[i] = x at gx lx
      obtain ⟨g1,rfl,r1⟩ :=h5.row (fun e => by subst e;simp at h1;omega)
      have c1 :=(r1.keep hK) i x gx
      simp only [Nat.zero_add] at c1
      obtain ⟨AX,eX⟩ : ∃ A : Int,(x : Int) = A :=⟨_,rfl⟩
      rw [eX] at c1
      have hS1 :=Sl.single wr wr (Nat.le_refl _) x
      rw [eX] at hS1
      obtain ⟨t,ht⟩ : ∃ t,x + L9 * R = t :=⟨_,rfl⟩
      obtain ⟨htY,hqL,hst⟩ :=hI.out.step2 hiN gx lx t ht
      have hq1 : Y * b * (t / (Y * b)) ≤ t :=Nat.mul_div_le t (Y * b)
      have hq2 : ∀ d,t / (Y * b) < d → t < Y * b * d :=fun d h => by rw [Nat.mul_comm];exact (Nat.div_lt_iff_lt_mul HYb.out).1 h
      have hq3 : t - Y * b * (t / (Y * b)) = t % (Y * b) :=by have :=Nat.mod_add_div t (Y * b);omega
      obtain ⟨q,hqd⟩ : ∃ q,t / (Y * b) = q :=⟨_,rfl⟩
      rw [hqd] at hqL hst hq1 hq2 hq3
      obtain ⟨rs,a1,a2,a3,a4,a5,a6,a7,a8⟩ :=hR
      have hval : val L9 ([x] ++ rs) = t :=by rw [List.singleton_append,val,a8,ht]
      have hltt : Lt L9 ([x] ++ rs) :=(Lt.one lx).app a6
      have htrim : ∀ W s' c',Sl .u32 wr W s' c' ([x] ++ rs) → Calls Tryz.prog 80 #[.slice s' (1 + n) c'] W fun r w' => w' = W ∧ ∃ n',r = .returned (.slice s' n' c') ∧ Dig W s' n' c' t :=fun W s' c' h => by
        have :=natTrim W s' (1 + n) c' ([x] ++ rs) (by simp [a1];omega) (by have :=h.le;simp [a1] at this;omega) h.cap (by omega) (Rd.of_Sl h) hltt
        rw [hval] at this;exact this
      have hgs : ∀ W s' n' c',Kept w3 W → Dig W s' n' c' t → Calls Tryz.prog 104 #[.slice s' n' c',.slice sY NY cY] W fun e w' => w' = W ∧ ∃ d : Nat,e = .returned (.int .u64 (d : Int)) ∧ q ≤ d ∧ d < L9 :=fun W s' n' c' kW h => by
        have :=natGuess W s' sY n' NY c' cY t (Y * b) h (dY.kept kW) HYb.out htY hYn
        rw [hqd] at this;exact this
      have hfr : ∀ W (d : Nat) (D : Int),(d : Int) = D → d < L9 → Calls Tryz.prog 41 #[.int .u64 D] W fun e w' => (∃ v,e = .returned v ∧ NV w' v d) ∧ Kept W w' :=fun W d D e h => by subst e;exact natFrom W d (Nat.lt_trans h (by decide))
      have hml : ∀ W sd nd cd (d : Nat),Kept w3 W → d < L9 → Dig W sd nd cd d → Calls Tryz.prog 40 #[.slice sY NY cY,.slice sd nd cd] W fun e w' => (∃ v,e = .returned v ∧ NV w' v (Y * b * d)) ∧ Kept W w' :=fun W sd nd cd d kW hd h => natMul W sY sd NY nd cY cd (Y * b) d (dY.kept kW) h hYn (by have :=h.len_le (k :=1) (by simpa using hd);omega)
      have HH :=Lib.hid (And.intro hqL (And.intro hst (And.intro htY lx)))
      clear hqL hst htY lx ht hval hltt a6 a7 a8 gx eX hRY
      go_upto_block 2 with (first
        | (at_builtin;refine wp_gappR (w0 :=wr) rfl (.tmp 67) (.tmp 68) rfl rfl rfl rfl hS1 (Chg.alloc _ _ None2).size rfl a1 (by omega) (a5.kept (Chg.alloc _ _ _)) ?_;intro s4 c4 w4 hS4 hC4;have kA : Kept wr w4 :=(Chg.alloc _ _ None2).trans hC4 fun b o hb h => (by obtain ⟨a,ha,rfl⟩ :=h;obtain rfl :=Option.some.inj ha;exact absurd hb (Nat.lt_irrefl _)))
        | (go_at_call 80;(with_reducible refine (htrim _ _ _ hS4).mono ?_);rintro r w5 ⟨hw5,n5,rfl,d5⟩;subst hw5)
        | (go_at_call 104;(with_reducible refine (hgs _ _ _ _ (kt hK kA) d5).mono ?_);rintro r w6 ⟨hw6,d,rfl,hd1,hd2⟩;subst hw6;obtain ⟨DI,eD⟩ : ∃ D : Int,(d : Int) = D :=⟨_,rfl⟩;rw [eD];have HD :=Lib.hid (And.intro hd1 (And.intro hd2 eD));clear hd1 hd2 eD)
        | (go_at_call 41;(with_reducible refine (hfr _ d DI HD.out.2.2 HD.out.2.1).mono ?_);rintro r w7 ⟨⟨v7,rfl,n7⟩,q7⟩;obtain ⟨s7,m7,c7,rfl,d7⟩ :=n7)
        | (go_at_call 40;(with_reducible refine (hml _ _ _ _ d (kt (kt hK kA) q7) HD.out.2.1 d7).mono ?_);rintro r w8 ⟨⟨v8,rfl,n8⟩,q8⟩;obtain ⟨s8,m8,c8,rfl,d8⟩ :=n8))
      have k8 :=kt (kt hK kA) (kt q7 q8)
      have k48 :=kt kA (kt q7 q8)
      have dR :=d5.kept (kt q7 q8)
      clear q7 q8 kA hC4 hS4 d5 d7 htrim hgs hfr hml hS1 a5 c1
      go_cut [12,13] from 77 to 87 (fun t12 t13 wx => ∃ (s n c : _) (D : Int),D = (q : Int) ∧ t12 = .int .u64 D ∧ t13 = .slice s n c ∧ Dig wx s n c (Y * b * q) ∧ Kept w8 wx)
      case first =>
        go_wp2
        go_loopw [12,13] (fun t12 t13 wx => ∃ (d : Nat) (D : Int) (s : Option Addr) (n c : Nat),t12 = .int .u64 D ∧ Hid ((d : Int) = D ∧ q ≤ d ∧ d < L9) ∧ t13 = .slice s n c ∧ Dig wx s n c (Y * b * d) ∧ Kept w8 wx) (fun t12 _ _ => (intOf t12).toNat)
        case atStart => exact ⟨d,DI,s8,m8,c8,rfl,Lib.hid ⟨HD.out.2.2,HD.out.1,HD.out.2.1⟩,rfl,d8,Chg.refl _ _⟩
        case round =>
          clear d8
          obtain ⟨d',D',s',n',c',rfl,hd',rfl,dd,kd⟩ :=hrel
          have hD0 : 0 ≤ D' :=by have :=hd'.out.1;omega
          have hD1 : D' ≤ 999999999 :=by obtain ⟨h1,h2,h3⟩ :=hd'.out;unfold L9 at h3;omega
          have hcp :=natCmp wr s' s4 n' n5 c' c4 (Y * b * d') t dd (dR.kept kd)
          by_cases hq : d' = q
          · have hz : cmpI (Y * b * d') t ≤ 0 :=by
              rw [hq]
              unfold cmpI
              repeat' split <;> omega
            obtain ⟨zz,hzz⟩ : ∃ z,cmpI (Y * b * d') t = z :=⟨_,rfl⟩
            rw [hzz] at hcp hz
            have Hq :=Lib.hid (And.intro hq hd'.out)
            clear hzz hq
            go_wp2_with (go_at_call 77;refine hcp.mono ?_;rintro r w9 ⟨rfl,q9⟩)
            go_meet
            obtain ⟨hq,h1,h2,h3⟩ :=Hq.out
            rw [hq] at dd h1
            exact ⟨s',n',c',D',h1.symm,rfl,rfl,dd.kept q9,kt kd q9⟩
          · have hgt : t < Y * b * d' :=hq2 d' (by have :=hd'.out.2.1;omega)
            have hz : cmpI (Y * b * d') t = 1 :=by unfold cmpI;rw [if_neg (by omega),if_pos hgt]
            rw [hz] at hcp
            obtain ⟨e,rfl⟩ : ∃ e,d' = e + 1 :=⟨d' - 1,by have :=hd'.out.2.1;omega⟩
            have hle : Y * b ≤ Y * b * (e + 1) :=Nat.le_mul_of_pos_right _ (by omega)
            have hlen : n' < 1000000 :=by
              have :=dd.len_le (k :=NY + 1) (by rw [Nat.pow_succ];exact Nat.mul_lt_mul'' HYL.out hd'.out.2.2)
              omega
            have hsb :=fun W (k : Kept wr W) => natSub W s' sY n' NY c' cY (Y * b * (e + 1)) (Y * b) (dd.kept k) (dY.kept (kt (kt k8 kd) k)) hlen hle
            rw [show Y * b * (e + 1) - Y * b = Y * b * e by rw [Nat.mul_add,Nat.mul_one,Nat.add_sub_cancel]] at hsb
            have hD2 : 1 ≤ D' :=by have :=hd'.out.1;omega
            have Hq :=Lib.hid (And.intro hd'.out (show ¬ (e + 1 = q) from hq))
            clear hz hq hgt hle hlen hd'
            go_wp2_with (first
              | (go_at_call 77;refine hcp.mono ?_;rintro r w9 ⟨rfl,q9⟩)
              | (go_at_call 79;refine (hsb _ q9).mono ?_;rintro r w10 ⟨⟨v10,rfl,n10⟩,q10⟩;obtain ⟨s10,m10,c10,rfl,d10,_⟩ :=n10))
            go_roundw
            case rel =>
              obtain ⟨⟨h1,h2,h3⟩,hq⟩ :=Hq.out
              exact ⟨e,D' - 1,s10,m10,c10,rfl,Lib.hid ⟨by omega,by omega,by omega⟩,rfl,d10,kt kd (kt q9 q10)⟩
            case measure => simp [intOf];omega
      case rest =>
        obtain ⟨sP,nP,cP,D,hDq,rfl,rfl,dP,kP⟩ :=hcut
        obtain ⟨hqL,hst,htY,lx⟩ :=HH.out
        have hlen : n5 < 1000000 :=by
          have :=dR.len_le (k :=NY + 1) (by rw [Nat.pow_succ,Nat.mul_comm];exact Nat.lt_trans htY (Nat.mul_lt_mul_of_pos_left HYL.out (by decide)))
          omega
        have hsb :=natSub wc s4 sP n5 nP c4 cP t _ (dR.kept kP) dP hlen hq1
        rw [hq3] at hsb
        have hul : us.length = NX :=by obtain ⟨ts,e1,e2,_⟩ :=hI.out;rw [e1,List.length_append,List.length_replicate,e2];omega
        have D0 : 0 ≤ D :=by omega
        have D1 : D ≤ 999999999 :=by unfold L9 at hqL;omega
        have hOc :=hO.out.kept (kt k48 kP)
        have hgl :=hOc.lt
        have f3 :=fun W (k : Kept wc W) => ((hOc.kept k).room i hiN).2
        have c3 :=fun W (k : Kept wc W) => ((hOc.kept k).room i hiN).1
        simp only [Nat.zero_add] at f3 c3
        have HO :=Lib.hid (And.intro hst (And.intro hDq (And.intro hul hOc)))
        clear hst hDq hOc hq1 hq2 hq3 hqL htY lx hqd
        go_wp2_with (go_at_call 79;refine hsb.mono ?_;rintro r w10 ⟨⟨v10,rfl,n10⟩,q10⟩;obtain ⟨s10,m10,c10,rfl,d10,hnew⟩ :=n10;have f4 :=f3 _ q10;obtain ⟨u4,c4'⟩ :=c3 _ q10)
        go_roundw
        case rel =>
          obtain ⟨hst,hDq,hul,hOc⟩ :=HO.out
          have kc :=Chg.setCell w10 g i (.int .u32 D) (fun b _ => b = g) fun _ => rfl
          refine ⟨i,t % (Y * b),us.set i q,s10,m10,c10,by go_num,by omega,rfl,?_,Lib.hid hst,Lib.hid ?_,?_⟩
          · obtain ⟨rs',b1,b2,b3,b4,b5,b6⟩ :=d10
            refine ⟨rs',b1,b2,b3,b4,?_,b6⟩
            rcases b5 with h | ⟨g',rfl,h⟩
            · exact .inl h
            · have :=hnew _ rfl
              exact .inr ⟨g',rfl,h.chg kc fun j _ e => by simp only at this;omega⟩
          · have :=(hOc.kept q10).set q (i :=i) (by omega)
            rw [Nat.zero_add,← hDq] at this
            exact this
          · exact (kt (kt k8 kP) q10).keptNew kc fun b _ h => by omega
        case measure => simp [intOf]
theorem natDiv (w : World) (sx sy : Option Addr) (m n cx cy X Y : Nat) (hx : Dig w sx m cx X) (hy : Dig w sy n cy Y) (hY : 0 < Y) (hm : m < 400000) (hn : n < 400000) :
    Calls Tryz.prog 75 #[.slice sx m cx,.slice sy n cy] w fun e w' => (∃ v1 v2,e = .returned (.tuple #[v1,v2]) ∧ NV w' v1 (X / Y) ∧ NV w' v2 (X % Y)) ∧ Kept w w' :=by
  rcases Nat.lt_or_ge X Y with h | h
  · exact natDiv_lt w sx sy m n cx cy X Y hx hy h
  · rcases (by have :=hy.zero;omega : n = 1 ∨ 1 < n) with rfl | h1
    · exact natDiv_one w sx sy m cx cy X Y hx hy h (by omega)
    · exact natDiv_big w sx sy m n cx cy X Y hx hy h hm h1 hn
end Go.Proofs.YtfmmdamgcpiciaaGreatDoor
