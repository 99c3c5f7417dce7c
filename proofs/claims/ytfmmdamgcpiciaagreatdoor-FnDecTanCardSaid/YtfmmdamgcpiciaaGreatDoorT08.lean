/- A part of the proof, joined out of the texts D19, D20, D21, G5, G6, H11, G7, H12, H13, H14, H15, H16, H17, H18; each theorem bears its own conditions. -/
import Derived.Test.YtfmmdamgcpiciaaGreatDoorT03
import Derived.Test.YtfmmdamgcpiciaaGreatDoorT05
import Derived.Test.YtfmmdamgcpiciaaGreatDoorT06
import Derived.Test.YtfmmdamgcpiciaaGreatDoorT07
set_option linter.unusedVariables false
set_option linter.unusedSimpArgs false
set_option linter.all false
set_option maxHeartbeats 9000000
set_option exponentiation.threshold 400000
set_option maxRecDepth 1000000
namespace Go.Proofs.YtfmmdamgcpiciaaGreatDoor
open Go Go.RowKit
theorem two_done {w0 w w1 : World} {bz br : Nat} {s s2 : Option Addr} {n c n2 c2 : Nat} {X Y : Int} (v v2 : Bool) (hv : v = decide (X < 0)) (hv2 : v2 = decide (Y < 0)) (hk : Kept w0 w) (hb : w0.heap.size ≤ bz) (hbr : w0.heap.size ≤ br) (hne : bz ≠ br) (hz : ZeroInt w bz) (hr : ZeroInt w br)
    (k1 : NatAt w1 s n c X.natAbs) (k2 : NewS w s) (k4 : NatAt w1 s2 n2 c2 Y.natAbs) (k5 : NewS w s2) (k3 : Kept w w1) :
    IntN w0 ((((w1.setCell ⟨bz,1,none⟩ (.slice s n c)).setCell ⟨br,1,none⟩ (.slice s2 n2 c2)).setCell ⟨bz,0,none⟩ (.bool v)).setCell ⟨br,0,none⟩ (.bool v2)) bz X ∧
    IntN w0 ((((w1.setCell ⟨bz,1,none⟩ (.slice s n c)).setCell ⟨br,1,none⟩ (.slice s2 n2 c2)).setCell ⟨bz,0,none⟩ (.bool v)).setCell ⟨br,0,none⟩ (.bool v2)) br Y ∧
    Kept w0 ((((w1.setCell ⟨bz,1,none⟩ (.slice s n c)).setCell ⟨br,1,none⟩ (.slice s2 n2 c2)).setCell ⟨bz,0,none⟩ (.bool v)).setCell ⟨br,0,none⟩ (.bool v2)) :=by
  subst hv
  subst hv2
  obtain ⟨z0,z1,zf⟩ :=hz.kept k3
  obtain ⟨r0,r1,rf⟩ :=hr.kept k3
  have ls :=lt_of_cell hz.neg
  have lr :=lt_of_cell hr.neg
  have c1 :=Chg.setCell w1 bz 1 (.slice s n c) (fun b _ => b = bz ∨ b = br) fun _ => .inl rfl
  have c2' :=c1.trans (Chg.setCell _ br 1 (.slice s2 n2 c2) (fun b _ => b = bz ∨ b = br) fun _ => .inr rfl) fun _ _ _ h => h
  have c3 :=c2'.trans (Chg.setCell _ bz 0 (.bool (decide (X < 0))) (fun b _ => b = bz ∨ b = br) fun _ => .inl rfl) fun _ _ _ h => h
  have c4 :=c3.trans (Chg.setCell _ br 0 (.bool (decide (Y < 0))) (fun b _ => b = bz ∨ b = br) fun _ => .inr rfl) fun _ _ _ h => h
  have hs : ∀ a,s = some a → a.block ≠ bz ∧ a.block ≠ br :=fun a ha => by
    have :=k2 a ha;constructor <;> omega
  have hs2 : ∀ a,s2 = some a → a.block ≠ bz ∧ a.block ≠ br :=fun a ha => by
    have :=k5 a ha;constructor <;> omega
  have hnz : bz ≠ br :=hne
  have y1 :=cs_ne (u :=.slice s n c) (b' :=bz) (o' :=1) r1 (by omega)
  have y0 :=cs_ne (u :=.slice s n c) (b' :=bz) (o' :=1) r0 (by omega)
  have x0 :=cs_ne (u :=.slice s n c) (b' :=bz) (o' :=1) z0 (by omega)
  have x1 :=cell_setCell_eq (v :=.slice s n c) z1
  have x0' :=cs_ne (u :=.slice s2 n2 c2) (b' :=br) (o' :=1) x0 (by omega)
  have x1' :=cs_ne (u :=.slice s2 n2 c2) (b' :=br) (o' :=1) x1 (by omega)
  have y0' :=cs_ne (u :=.slice s2 n2 c2) (b' :=br) (o' :=1) y0 (by omega)
  have y1' :=cell_setCell_eq (v :=.slice s2 n2 c2) y1
  have x0'' :=cell_setCell_eq (v :=.bool (decide (X < 0))) x0'
  have x1'' :=cs_ne (u :=.bool (decide (X < 0))) (b' :=bz) (o' :=0) x1' (by omega)
  have y0'' :=cs_ne (u :=.bool (decide (X < 0))) (b' :=bz) (o' :=0) y0' (by omega)
  have y1'' :=cs_ne (u :=.bool (decide (X < 0))) (b' :=bz) (o' :=0) y1' (by omega)
  refine ⟨⟨s,n,c,⟨?_,?_,?_,?_,fun a ha => (hs a ha).1⟩,hb,fun a ha => Nat.le_trans (Chg.size hk) (k2 a ha)⟩,⟨s2,n2,c2,⟨?_,?_,?_,?_,fun a ha => (hs2 a ha).2⟩,hbr,fun a ha => Nat.le_trans (Chg.size hk) (k5 a ha)⟩,?_⟩
  · exact cs_ne x0'' (by omega)
  · exact cs_ne x1'' (by omega)
  · exact k1.chg c4 fun b o h o' e => e.elim (hs _ h).1 (hs _ h).2
  · exact zf.chg (lt_of_cell z0) c4
  · exact cell_setCell_eq y0''
  · exact cs_ne y1'' (by omega)
  · exact k4.chg c4 fun b o h o' e => e.elim (hs2 _ h).1 (hs2 _ h).2
  · exact rf.chg (lt_of_cell r0) c4
  · exact (hk.trans k3 fun _ _ _ x => x).keptNew c4 fun b o e => by rcases e with e | e <;> omega
theorem int_quoRem (w0 w : World) (hg : Glob w) (hk : Kept w0 w) (bz bx by' br : Nat) (hb : w0.heap.size ≤ bz) (hbr : w0.heap.size ≤ br) (hzr : bz ≠ br) (hz : ZeroInt w bz) (hr : ZeroInt w br) (X Y : Int) (hx : IntAt w bx X) (hy : IntAt w by' Y) (hxb : bx ≠ bz) (hyb : by' ≠ bz) (hxr : bx ≠ br) (hyr : by' ≠ br) (h0 : Y ≠ 0) (hX : X.natAbs < W39) :
    Calls Tryz.prog 139 #[ptr bz,ptr bx,ptr by',ptr br] w fun e w' => e = .returned (.tuple #[ptr bz,ptr br]) ∧ IntN w0 w' bz (X.tdiv Y) ∧ IntN w0 w' br (X.tmod Y) ∧ Kept w0 w' :=by
  obtain ⟨sx,nx,cx,hx⟩ :=hx
  obtain ⟨sy,ny,cy,hy⟩ :=hy
  have x0 :=hx.neg
  have y0 :=hy.neg
  have x1 :=hx.abs
  have y1 :=hy.abs
  have z0 :=hz.neg
  have z1 :=hz.abs
  have f0 :=hz.nf 0
  have f1 :=hz.nf 1
  have r0 :=hr.neg
  have r1 :=hr.abs
  have g0 :=hr.nf 0
  have g1 :=hr.nf 1
  have hrz : br ≠ bz :=fun e => hzr e.symm
  have ha :=fun W (hW : Kept w W) => nat_div W (hg.kept hW) sx sy nx ny cx cy X.natAbs Y.natAbs (hx.nat.kept hW) (hy.nat.kept hW) (Nat.lt_of_le_of_lt (hx.nat.len_lt hX) (by decide)) (by omega)
  obtain ⟨p,hp2⟩ : ∃ p,p = decide (X < 0) :=⟨_,rfl⟩
  obtain ⟨q,hq2⟩ : ∃ p,p = decide (Y < 0) :=⟨_,rfl⟩
  rw [← hp2] at x0
  rw [← hq2] at y0
  have HPQ :=Lib.hid (And.intro hp2 hq2)
  clear hp2 hq2
  clear hx hy h0 hX
  by_cases hN : X.natAbs / Y.natAbs = 0
  · have HN :=Lib.hid hN
    by_cases hM : X.natAbs % Y.natAbs = 0
    · have HM :=Lib.hid hM
      clear hN hM
      go_enter Tryz.func139,Tryz.ntmps139
      go_wp2_with (first
        | (refine wp_region_lit_segs (id :=1) [[0,1,2,3,4,5,6,7,8,9,10,11,12,13,14,15,16,17,18,19,20,21,22,23,24,25,26,27]] mixed (by kernel_rfl) ?_;simp only [wpSegsL,gaC,gaN,lZ0,lS0,coS])
        | (refine wp_region_lit_segs (id :=2) [[0,1,2,3,4,5,6,7,8,9,10,11,12,13,14,15,16,17,18,19,20,21,22,23,24,25,26,27,28,29,30,31,32,33,34,35,36]] mixed (by kernel_rfl) ?_;simp only [wpSegsL,gaC,gaN,lZ0,lS0,coS])
        | refine ⟨by kernel_rfl,?_⟩
        | refine ⟨by kernel_rfl,oldD (by first | assumption | exact Chg.refl _ _ | exact (Chg.refl _ _).drew | exact kt (by first | assumption | exact (Chg.refl _ _).drew | exact Chg.refl _ _) (ziK _) | exact Chg.drew (by assumption)),?_⟩
        | refine ⟨oldD (by first | assumption | exact Chg.refl _ _ | exact (Chg.refl _ _).drew | exact kt (by first | assumption | exact (Chg.refl _ _).drew | exact Chg.refl _ _) (ziK _) | exact Chg.drew (by assumption)),?_⟩
        | (with_reducible refine And.intro ?_ ?_)
        | (go_at_call 132;refine (ha _ (Chg.refl _ _).drew).mono ?_;rintro e w1 ⟨s',n',c',s2,n2,c2,rfl,k1,k4,k2,k5,k3⟩;have k3 :=k3.of_drew;obtain ⟨z0',z1',zf'⟩ :=hz.kept k3;have f0' :=zf' 0;have f1' :=zf' 1;obtain ⟨r0',r1',rf'⟩ :=hr.kept k3;have g0' :=rf' 0;have g1' :=rf' 1;have x2 :=cs_ne (u :=.slice s' n' c') (Kept.at k3 x0) (b' :=bz) (o' :=1) (by omega);have y2 :=cs_ne (u :=.slice s' n' c') (Kept.at k3 y0) (b' :=bz) (o' :=1) (by omega);have z2 :=cs_ne (u :=.slice s' n' c') (z0') (b' :=bz) (o' :=1) (by omega);have r2 :=cs_ne (u :=.slice s' n' c') (r0') (b' :=bz) (o' :=1) (by omega);have s2' :=cs_ne (u :=.slice s' n' c') (r1') (b' :=bz) (o' :=1) (by omega);have t2 :=cell_setCell_eq (v :=.slice s' n' c') z1';have s3 :=cell_setCell_eq (v :=.slice s2 n2 c2) s2';have t3 :=cs_ne (u :=.slice s2 n2 c2) t2 (b' :=br) (o' :=1) (by omega);have x3 :=cs_ne (u :=.slice s2 n2 c2) x2 (b' :=br) (o' :=1) (by omega);have y3 :=cs_ne (u :=.slice s2 n2 c2) y2 (b' :=br) (o' :=1) (by omega);have z3 :=cs_ne (u :=.slice s2 n2 c2) z2 (b' :=br) (o' :=1) (by omega);have r3 :=cs_ne (u :=.slice s2 n2 c2) r2 (b' :=br) (o' :=1) (by omega);have x4 :=fun u => cs_ne (u :=u) x3 (b' :=bz) (o' :=0) (by omega);have s4 :=fun u => cs_ne (u :=u) s3 (b' :=bz) (o' :=0) (by omega);have r4 :=fun u => cs_ne (u :=u) r3 (b' :=bz) (o' :=0) (by omega);obtain rfl : n' = 0 :=k1.eq_zero.1 HN.out;obtain rfl : n2 = 0 :=k4.eq_zero.1 HM.out;have KK :=Lib.hid (And.intro k1 (And.intro k2 (And.intro k4 (And.intro k5 k3))));clear k1 k2 k3 k4 k5))
      first | go_ret2 | refine ⟨_,results_tmp2 rfl _ _ _,?_⟩
      obtain ⟨k1,k2,k4,k5,k3⟩ :=KK.out
      have hd :=two_done (X :=X.tdiv Y) (Y :=X.tmod Y) _ _ (show false = _ from by have :=HN.out;rw [← tdiv_abs] at this;symm;rw [decide_eq_false_iff_not];omega) (show false = _ from by have :=HM.out;rw [← tmod_abs] at this;symm;rw [decide_eq_false_iff_not];omega) hk hb hbr hzr hz hr (by rw [tdiv_abs];exact k1) (fun a ha => (k2 a ha).1) (by rw [tmod_abs];exact k4) (fun a ha => (k5 a ha).1) k3
      first | exact ⟨rfl,hd⟩ | exact ⟨rfl,hd.1.kept (Chg.refl _ _).drew,hd.2.1.kept (Chg.refl _ _).drew,hd.2.2.drew⟩
    · have HM :=Lib.hid hM
      clear hN hM
      go_enter Tryz.func139,Tryz.ntmps139
      go_wp2_with (first
        | (refine wp_region_lit_segs (id :=1) [[0,1,2,3,4,5,6,7,8,9,10,11,12,13,14,15,16,17,18,19,20,21,22,23,24,25,26,27]] mixed (by kernel_rfl) ?_;simp only [wpSegsL,gaC,gaN,lZ0,lS0,coS])
        | (refine wp_region_lit_segs (id :=2) [[0,1,2,3,4,5,6,7,8,9,10,11,12,13,14,15,16,17,18,19,20,21,22,23,24,25,26,27,28,29,30,31,32,33,34,35,36]] mixed (by kernel_rfl) ?_;simp only [wpSegsL,gaC,gaN,lZ0,lS0,coS])
        | refine ⟨by kernel_rfl,?_⟩
        | refine ⟨by kernel_rfl,oldD (by first | assumption | exact Chg.refl _ _ | exact (Chg.refl _ _).drew | exact kt (by first | assumption | exact (Chg.refl _ _).drew | exact Chg.refl _ _) (ziK _) | exact Chg.drew (by assumption)),?_⟩
        | refine ⟨oldD (by first | assumption | exact Chg.refl _ _ | exact (Chg.refl _ _).drew | exact kt (by first | assumption | exact (Chg.refl _ _).drew | exact Chg.refl _ _) (ziK _) | exact Chg.drew (by assumption)),?_⟩
        | (with_reducible refine And.intro ?_ ?_)
        | (go_at_call 132;refine (ha _ (Chg.refl _ _).drew).mono ?_;rintro e w1 ⟨s',n',c',s2,n2,c2,rfl,k1,k4,k2,k5,k3⟩;have k3 :=k3.of_drew;obtain ⟨z0',z1',zf'⟩ :=hz.kept k3;have f0' :=zf' 0;have f1' :=zf' 1;obtain ⟨r0',r1',rf'⟩ :=hr.kept k3;have g0' :=rf' 0;have g1' :=rf' 1;have x2 :=cs_ne (u :=.slice s' n' c') (Kept.at k3 x0) (b' :=bz) (o' :=1) (by omega);have y2 :=cs_ne (u :=.slice s' n' c') (Kept.at k3 y0) (b' :=bz) (o' :=1) (by omega);have z2 :=cs_ne (u :=.slice s' n' c') (z0') (b' :=bz) (o' :=1) (by omega);have r2 :=cs_ne (u :=.slice s' n' c') (r0') (b' :=bz) (o' :=1) (by omega);have s2' :=cs_ne (u :=.slice s' n' c') (r1') (b' :=bz) (o' :=1) (by omega);have t2 :=cell_setCell_eq (v :=.slice s' n' c') z1';have s3 :=cell_setCell_eq (v :=.slice s2 n2 c2) s2';have t3 :=cs_ne (u :=.slice s2 n2 c2) t2 (b' :=br) (o' :=1) (by omega);have x3 :=cs_ne (u :=.slice s2 n2 c2) x2 (b' :=br) (o' :=1) (by omega);have y3 :=cs_ne (u :=.slice s2 n2 c2) y2 (b' :=br) (o' :=1) (by omega);have z3 :=cs_ne (u :=.slice s2 n2 c2) z2 (b' :=br) (o' :=1) (by omega);have r3 :=cs_ne (u :=.slice s2 n2 c2) r2 (b' :=br) (o' :=1) (by omega);have x4 :=fun u => cs_ne (u :=u) x3 (b' :=bz) (o' :=0) (by omega);have s4 :=fun u => cs_ne (u :=u) s3 (b' :=bz) (o' :=0) (by omega);have r4 :=fun u => cs_ne (u :=u) r3 (b' :=bz) (o' :=0) (by omega);obtain rfl : n' = 0 :=k1.eq_zero.1 HN.out;have hm0 : ¬ n2 = 0 :=(fun h => HM.out (k4.eq_zero.2 h));obtain ⟨n2,rfl⟩ : ∃ m,n2 = m + 1 :=⟨n2 - 1,by omega⟩;have KK :=Lib.hid (And.intro k1 (And.intro k2 (And.intro k4 (And.intro k5 k3))));clear k1 k2 k3 k4 k5))
      first | go_ret2 | refine ⟨_,results_tmp2 rfl _ _ _,?_⟩
      obtain ⟨k1,k2,k4,k5,k3⟩ :=KK.out
      have hd :=two_done (X :=X.tdiv Y) (Y :=X.tmod Y) _ _ (show false = _ from by have :=HN.out;rw [← tdiv_abs] at this;symm;rw [decide_eq_false_iff_not];omega) (HPQ.out.1.trans (tmod_sign HM.out)) hk hb hbr hzr hz hr (by rw [tdiv_abs];exact k1) (fun a ha => (k2 a ha).1) (by rw [tmod_abs];exact k4) (fun a ha => (k5 a ha).1) k3
      first | exact ⟨rfl,hd⟩ | exact ⟨rfl,hd.1.kept (Chg.refl _ _).drew,hd.2.1.kept (Chg.refl _ _).drew,hd.2.2.drew⟩
  · have HN :=Lib.hid hN
    by_cases hM : X.natAbs % Y.natAbs = 0
    · have HM :=Lib.hid hM
      clear hN hM
      go_enter Tryz.func139,Tryz.ntmps139
      go_wp2_with (first
        | (refine wp_region_lit_segs (id :=1) [[0,1,2,3,4,5,6,7,8,9,10,11,12,13,14,15,16,17,18,19,20,21,22,23,24,25,26,27]] mixed (by kernel_rfl) ?_;simp only [wpSegsL,gaC,gaN,lZ0,lS0,coS])
        | (refine wp_region_lit_segs (id :=2) [[0,1,2,3,4,5,6,7,8,9,10,11,12,13,14,15,16,17,18,19,20,21,22,23,24,25,26,27,28,29,30,31,32,33,34,35,36]] mixed (by kernel_rfl) ?_;simp only [wpSegsL,gaC,gaN,lZ0,lS0,coS])
        | refine ⟨by kernel_rfl,?_⟩
        | refine ⟨by kernel_rfl,oldD (by first | assumption | exact Chg.refl _ _ | exact (Chg.refl _ _).drew | exact kt (by first | assumption | exact (Chg.refl _ _).drew | exact Chg.refl _ _) (ziK _) | exact Chg.drew (by assumption)),?_⟩
        | refine ⟨oldD (by first | assumption | exact Chg.refl _ _ | exact (Chg.refl _ _).drew | exact kt (by first | assumption | exact (Chg.refl _ _).drew | exact Chg.refl _ _) (ziK _) | exact Chg.drew (by assumption)),?_⟩
        | (with_reducible refine And.intro ?_ ?_)
        | (go_at_call 132;refine (ha _ (Chg.refl _ _).drew).mono ?_;rintro e w1 ⟨s',n',c',s2,n2,c2,rfl,k1,k4,k2,k5,k3⟩;have k3 :=k3.of_drew;obtain ⟨z0',z1',zf'⟩ :=hz.kept k3;have f0' :=zf' 0;have f1' :=zf' 1;obtain ⟨r0',r1',rf'⟩ :=hr.kept k3;have g0' :=rf' 0;have g1' :=rf' 1;have x2 :=cs_ne (u :=.slice s' n' c') (Kept.at k3 x0) (b' :=bz) (o' :=1) (by omega);have y2 :=cs_ne (u :=.slice s' n' c') (Kept.at k3 y0) (b' :=bz) (o' :=1) (by omega);have z2 :=cs_ne (u :=.slice s' n' c') (z0') (b' :=bz) (o' :=1) (by omega);have r2 :=cs_ne (u :=.slice s' n' c') (r0') (b' :=bz) (o' :=1) (by omega);have s2' :=cs_ne (u :=.slice s' n' c') (r1') (b' :=bz) (o' :=1) (by omega);have t2 :=cell_setCell_eq (v :=.slice s' n' c') z1';have s3 :=cell_setCell_eq (v :=.slice s2 n2 c2) s2';have t3 :=cs_ne (u :=.slice s2 n2 c2) t2 (b' :=br) (o' :=1) (by omega);have x3 :=cs_ne (u :=.slice s2 n2 c2) x2 (b' :=br) (o' :=1) (by omega);have y3 :=cs_ne (u :=.slice s2 n2 c2) y2 (b' :=br) (o' :=1) (by omega);have z3 :=cs_ne (u :=.slice s2 n2 c2) z2 (b' :=br) (o' :=1) (by omega);have r3 :=cs_ne (u :=.slice s2 n2 c2) r2 (b' :=br) (o' :=1) (by omega);have x4 :=fun u => cs_ne (u :=u) x3 (b' :=bz) (o' :=0) (by omega);have s4 :=fun u => cs_ne (u :=u) s3 (b' :=bz) (o' :=0) (by omega);have r4 :=fun u => cs_ne (u :=u) r3 (b' :=bz) (o' :=0) (by omega);have hn0 : ¬ n' = 0 :=(fun h => HN.out (k1.eq_zero.2 h));obtain ⟨n',rfl⟩ : ∃ m,n' = m + 1 :=⟨n' - 1,by omega⟩;obtain rfl : n2 = 0 :=k4.eq_zero.1 HM.out;have KK :=Lib.hid (And.intro k1 (And.intro k2 (And.intro k4 (And.intro k5 k3))));clear k1 k2 k3 k4 k5))
      first | go_ret2 | refine ⟨_,results_tmp2 rfl _ _ _,?_⟩
      obtain ⟨k1,k2,k4,k5,k3⟩ :=KK.out
      have hd :=two_done (X :=X.tdiv Y) (Y :=X.tmod Y) _ _ (show (p != q) = _ from by rw [HPQ.out.1,HPQ.out.2];exact tdiv_sign HN.out) (show false = _ from by have :=HM.out;rw [← tmod_abs] at this;symm;rw [decide_eq_false_iff_not];omega) hk hb hbr hzr hz hr (by rw [tdiv_abs];exact k1) (fun a ha => (k2 a ha).1) (by rw [tmod_abs];exact k4) (fun a ha => (k5 a ha).1) k3
      first | exact ⟨rfl,hd⟩ | exact ⟨rfl,hd.1.kept (Chg.refl _ _).drew,hd.2.1.kept (Chg.refl _ _).drew,hd.2.2.drew⟩
    · have HM :=Lib.hid hM
      clear hN hM
      go_enter Tryz.func139,Tryz.ntmps139
      go_wp2_with (first
        | (refine wp_region_lit_segs (id :=1) [[0,1,2,3,4,5,6,7,8,9,10,11,12,13,14,15,16,17,18,19,20,21,22,23,24,25,26,27]] mixed (by kernel_rfl) ?_;simp only [wpSegsL,gaC,gaN,lZ0,lS0,coS])
        | (refine wp_region_lit_segs (id :=2) [[0,1,2,3,4,5,6,7,8,9,10,11,12,13,14,15,16,17,18,19,20,21,22,23,24,25,26,27,28,29,30,31,32,33,34,35,36]] mixed (by kernel_rfl) ?_;simp only [wpSegsL,gaC,gaN,lZ0,lS0,coS])
        | refine ⟨by kernel_rfl,?_⟩
        | refine ⟨by kernel_rfl,oldD (by first | assumption | exact Chg.refl _ _ | exact (Chg.refl _ _).drew | exact kt (by first | assumption | exact (Chg.refl _ _).drew | exact Chg.refl _ _) (ziK _) | exact Chg.drew (by assumption)),?_⟩
        | refine ⟨oldD (by first | assumption | exact Chg.refl _ _ | exact (Chg.refl _ _).drew | exact kt (by first | assumption | exact (Chg.refl _ _).drew | exact Chg.refl _ _) (ziK _) | exact Chg.drew (by assumption)),?_⟩
        | (with_reducible refine And.intro ?_ ?_)
        | (go_at_call 132;refine (ha _ (Chg.refl _ _).drew).mono ?_;rintro e w1 ⟨s',n',c',s2,n2,c2,rfl,k1,k4,k2,k5,k3⟩;have k3 :=k3.of_drew;obtain ⟨z0',z1',zf'⟩ :=hz.kept k3;have f0' :=zf' 0;have f1' :=zf' 1;obtain ⟨r0',r1',rf'⟩ :=hr.kept k3;have g0' :=rf' 0;have g1' :=rf' 1;have x2 :=cs_ne (u :=.slice s' n' c') (Kept.at k3 x0) (b' :=bz) (o' :=1) (by omega);have y2 :=cs_ne (u :=.slice s' n' c') (Kept.at k3 y0) (b' :=bz) (o' :=1) (by omega);have z2 :=cs_ne (u :=.slice s' n' c') (z0') (b' :=bz) (o' :=1) (by omega);have r2 :=cs_ne (u :=.slice s' n' c') (r0') (b' :=bz) (o' :=1) (by omega);have s2' :=cs_ne (u :=.slice s' n' c') (r1') (b' :=bz) (o' :=1) (by omega);have t2 :=cell_setCell_eq (v :=.slice s' n' c') z1';have s3 :=cell_setCell_eq (v :=.slice s2 n2 c2) s2';have t3 :=cs_ne (u :=.slice s2 n2 c2) t2 (b' :=br) (o' :=1) (by omega);have x3 :=cs_ne (u :=.slice s2 n2 c2) x2 (b' :=br) (o' :=1) (by omega);have y3 :=cs_ne (u :=.slice s2 n2 c2) y2 (b' :=br) (o' :=1) (by omega);have z3 :=cs_ne (u :=.slice s2 n2 c2) z2 (b' :=br) (o' :=1) (by omega);have r3 :=cs_ne (u :=.slice s2 n2 c2) r2 (b' :=br) (o' :=1) (by omega);have x4 :=fun u => cs_ne (u :=u) x3 (b' :=bz) (o' :=0) (by omega);have s4 :=fun u => cs_ne (u :=u) s3 (b' :=bz) (o' :=0) (by omega);have r4 :=fun u => cs_ne (u :=u) r3 (b' :=bz) (o' :=0) (by omega);have hn0 : ¬ n' = 0 :=(fun h => HN.out (k1.eq_zero.2 h));obtain ⟨n',rfl⟩ : ∃ m,n' = m + 1 :=⟨n' - 1,by omega⟩;have hm0 : ¬ n2 = 0 :=(fun h => HM.out (k4.eq_zero.2 h));obtain ⟨n2,rfl⟩ : ∃ m,n2 = m + 1 :=⟨n2 - 1,by omega⟩;have KK :=Lib.hid (And.intro k1 (And.intro k2 (And.intro k4 (And.intro k5 k3))));clear k1 k2 k3 k4 k5))
      first | go_ret2 | refine ⟨_,results_tmp2 rfl _ _ _,?_⟩
      obtain ⟨k1,k2,k4,k5,k3⟩ :=KK.out
      have hd :=two_done (X :=X.tdiv Y) (Y :=X.tmod Y) _ _ (show (p != q) = _ from by rw [HPQ.out.1,HPQ.out.2];exact tdiv_sign HN.out) (HPQ.out.1.trans (tmod_sign HM.out)) hk hb hbr hzr hz hr (by rw [tdiv_abs];exact k1) (fun a ha => (k2 a ha).1) (by rw [tmod_abs];exact k4) (fun a ha => (k5 a ha).1) k3
      first | exact ⟨rfl,hd⟩ | exact ⟨rfl,hd.1.kept (Chg.refl _ _).drew,hd.2.1.kept (Chg.refl _ _).drew,hd.2.2.drew⟩
end Go.Proofs.YtfmmdamgcpiciaaGreatDoor
namespace Go.Proofs.YtfmmdamgcpiciaaGreatDoor
open Go Go.RowKit
theorem int_setBits (w0 w : World) (hk : Kept w0 w) (bz : Nat) (s : Option Addr) (n c : Nat) (xs : List Nat) (hb : w0.heap.size ≤ bz) {u0 u1 : Value} (z0 : w.cell? ⟨bz,0,none⟩ = some u0) (z1 : w.cell? ⟨bz,1,none⟩ = some u1) (zf : NF w bz)
    (hs : Words w s xs) (hl : xs.length = n) (hn : n ≤ Big) (hnc : n ≤ c) (hc : c ≤ (8388607 * Big + 1099511627775)) (ho : SlOk w s c) (hlt : Lt W64 xs) (hns : ∀ a,s = some a → w0.heap.size ≤ a.block ∧ a.block ≠ bz) :
    Calls Tryz.prog 85 #[ptr bz,.slice s n c] w fun e w' => e = .returned (ptr bz) ∧ IntN w0 w' bz (val W64 xs : Nat) ∧ Kept w0 w' :=by
  have hnm :=nat_norm w s n c xs hs hl (by unfold Big at hn;omega) hnc
  have hts :=(trimZ_spec W64 xs).2.1
  have f0 :=zf 0
  have f1 :=zf 1
  have hN : NatAt w s (trimZ xs).length c (val W64 xs) :=trim_nat (by omega) hc (by omega) ho hs hlt rfl
  have z2 :=cs_ne (u :=.slice s (trimZ xs).length c) z0 (b' :=bz) (o' :=1) (by omega)
  go_enter Tryz.func85,Tryz.ntmps85
  go_wp2_with (go_at_call 106;refine hnm.mono ?_;rintro e w1 ⟨rfl,hw⟩;rw [hw];clear hw)
  first | go_ret | refine ⟨_,results_tmp rfl _ _ _,?_⟩
  have c1 :=Chg.setCell w bz 1 (.slice s (trimZ xs).length c) (fun b _ => b = bz) fun _ => rfl
  have c2 :=Chg.setCell (w.setCell ⟨bz,1,none⟩ (.slice s (trimZ xs).length c)) bz 0 (.bool false) (fun b _ => b = bz) fun _ => rfl
  have cc :=c1.trans c2 fun _ _ _ h => h
  have lb :=lt_of_cell z0
  refine ⟨rfl,⟨s,(trimZ xs).length,c,⟨?_,?_,?_,zf.chg lb cc,fun a ha => (hns a ha).2⟩,hb,fun a ha => (hns a ha).1⟩,hk.keptNew cc fun b _ h => by omega⟩
  · rw [cell_setCell_eq z2,decide_eq_false (by omega)]
  · exact cs_ne (cell_setCell_eq z1) (by omega)
  · rw [Int.natAbs_natCast];exact hN.chg cc fun b o h o' e => (hns _ h).2 e
theorem dec_rescale_up (w : World) (hg : Glob w) (b : Nat) (e x X : Int) (h : IntAt w b X) (hX : X.natAbs < W39) (hlt : e < x) (l1 : -512 < e) (u1 : x < 512) (hd : x - e ≤ 420) :
    Calls Tryz.prog 99 #[dv b e,.int .i32 x] w (NewDec w (X.tdiv (10 ^ (x - e).toNat : Nat)) x) :=by
  have hltb :=h.lt
  have hsub : ∀ W,(binOp .sub 92 (.float .f64 (fl x)) (.float .f64 (fl e))).run Tryz.prog W = .ok (.float .f64 (fl (x - e))) W :=fun W => run_float_arith W .sub 92 .f64 _ _ _ (fl_sub x e (by omega) (by omega) (by omega) (by omega) (by omega))
  have hab :=mathAbs (x - e) (by omega) (by omega)
  have hcv : ∀ W,(convert 92 2 (.float .f64 (fl ((x - e).natAbs : Nat)))).run Tryz.prog W = .ok (.int .i64 ((x - e).natAbs : Nat)) W :=fun W =>
    run_convert_float_int W 92 2 .f64 .i64 _ _ (by kernel_rfl) Tryz.underlying2 (fl_int ⟨(x - e).natAbs,by omega⟩)
  have hn : (x - e).natAbs = (x - e).toNat :=by omega
  rw [hn] at hab hcv
  have hnl : (x - e).toNat ≤ 420 :=by omega
  clear hn
  generalize (x - e).toNat = n at *
  have hne : (e == x) = false :=by simp;omega
  have hW :=box2K w (ptr b) (.int .i32 e)
  have hS :=box2S w (ptr b) (.int .i32 e)
  have hR :=box2R w (ptr b) (.int .i32 e)
  have hZ : ZeroInt (Zi (Box2 w (ptr b) (.int .i32 e))) (w.heap.size + 2) :=by rw [← hS];exact ZeroInt.made _
  have hp :=fun W (hW2 : Kept w W) => pow10 W (hg.kept hW2) n hnl
  have hm : ∀ w4 b2,Kept (Zi (Box2 w (ptr b) (.int .i32 e))) w4 → w.heap.size + 2 < b2 → IntAt w4 b2 (10 ^ n : Nat) → Calls Tryz.prog 116 #[ptr (w.heap.size + 2),ptr b,ptr b2] w4 fun r w' => r = .returned (ptr (w.heap.size + 2)) ∧ IntN (Box2 w (ptr b) (.int .i32 e)) w' (w.heap.size + 2) (X.tdiv (10 ^ n : Nat)) ∧ Kept (Box2 w (ptr b) (.int .i32 e)) w' :=by
    intro w4 b2 q1 q2 q3
    have kz :=kt (ziK (Box2 w (ptr b) (.int .i32 e))) q1
    have kw :=kt hW kz
    exact int_quo _ w4 (hg.kept kw) kz _ b b2 (by rw [hS];omega) (hZ.kept q1) X _ (h.kept kw) q3 (by omega) (by omega) (by have :=Nat.pow_pos (n :=n) (show 0 < 10 by decide);omega) hX
  obtain ⟨Q,hQ⟩ : ∃ Q,X.tdiv (10 ^ n : Nat) = Q :=⟨_,rfl⟩
  have hsQ :=fun W (hW : IntAt W (w.heap.size + 2) Q) => int_sign W (w.heap.size + 2) Q hW
  have hsX :=fun W (hW : Kept w W) => int_sign W b X (h.kept hW)
  rw [hQ] at hm ⊢
  have HM :=Lib.hid hm
  have HS :=Lib.hid (And.intro hS (And.intro hW (And.intro hR hQ)))
  have B0 :=Kept.at (boxK (Box w (ptr b) (.int .i32 e)) (.pointer none) (.int .i32 0)) (box0 w (ptr b) (.int .i32 e))
  have B1 :=Kept.at (boxK (Box w (ptr b) (.int .i32 e)) (.pointer none) (.int .i32 0)) (box1 w (ptr b) (.int .i32 e))
  have HB :=Lib.hid (And.intro B0 B1)
  clear B0 B1
  clear hm hS hW hR hZ hQ
  by_cases hq : Q = 0
  · subst hq
    by_cases hx : X = 0
    · subst hx
      have e0 : (Int.sign 0) = 0 :=rfl
      rw [e0] at hsQ hsX
      go_enter Tryz.func99,Tryz.ntmps99
      go_wp2_with (first
        | (go_at_call 115;refine (hab _).mono ?_;rintro r w1 ⟨rfl,hw⟩;rw [hw])
        | (go_at_call 88;first
            | ((with_reducible refine (dec_getValue w5 _ _).mono ?_);rintro r w7 ⟨rfl,k⟩;have k1 :=k1.kept k;have k2 :=kt k2 k;have S :=S.kept k;obtain ⟨⟨u0,s0⟩,⟨u1,s1⟩,sf⟩ :=id S;have f0 :=sf 0;have f1 :=sf 1;clear k)
            | (refine (dec_getValue _ _ _).mono ?_;rintro r w1 ⟨rfl,k⟩;have K : Kept (Zi (Box2 w (ptr b) (.int .i32 e))) w1 :=k;have G : w.heap.size + 3 ≤ w1.heap.size :=(by have q :=Chg.size K;simp at q;omega)))
        | (go_at_call 92;refine (hp _ (kt HS.out.2.1 (kt (ziK _) K))).mono ?_;rintro r w2 ⟨b2,rfl,q1,q2⟩)
        | (go_at_call 116;refine (HM.out w2 b2 (kt K q2) (by have :=q1.ge;omega) q1.at).mono ?_;rintro r w5 ⟨rfl,k1,k2⟩;have d0 :=Kept.at k2 HB.out.1;have d1 :=Kept.at k2 HB.out.2;have S :=HS.out.2.2.1.kept k2;obtain ⟨⟨u0,s0⟩,⟨u1,s1⟩,sf⟩ :=id S;have f0 :=sf 0;have f1 :=sf 1)
        | (go_at_call 95;first
            | ((with_reducible refine (hsQ _ k1.at).mono ?_);rintro r w6 ⟨rfl,hw⟩;rw [hw];clear hw)
            | (refine (hsX _ (kt HS.out.2.1 k2)).mono ?_;rintro r w6 ⟨rfl,hw⟩;rw [hw];clear hw)))
      first
        | refine ⟨dv _ x,results_dec rfl rfl (put2_0 S _ _) (put2_1 S _ _),_,rfl,dec_ret (by omega) ?_ HS.out.2.1 k1 k2 _ _⟩
        | refine bodyPost_ret (v :=dv _ x) (results_dec rfl rfl (put2_0 S _ _) (put2_1 S _ _)) rfl ⟨_,rfl,dec_ret (by omega) ?_ HS.out.2.1 k1 k2 _ _⟩
      rw [HS.out.1]
      omega
    · have hq0 : (X.sign == 0) = false :=by simp [Int.sign_eq_zero_iff_zero,hx]
      have e0 : (Int.sign 0) = 0 :=rfl
      rw [e0] at hsQ
      generalize X.sign = gx at *
      go_enter Tryz.func99,Tryz.ntmps99
      go_wp2_with (first
        | (go_at_call 115;refine (hab _).mono ?_;rintro r w1 ⟨rfl,hw⟩;rw [hw])
        | (go_at_call 88;first
            | ((with_reducible refine (dec_getValue w5 _ _).mono ?_);rintro r w7 ⟨rfl,k⟩;have k1 :=k1.kept k;have k2 :=kt k2 k;have S :=S.kept k;obtain ⟨⟨u0,s0⟩,⟨u1,s1⟩,sf⟩ :=id S;have f0 :=sf 0;have f1 :=sf 1;clear k)
            | (refine (dec_getValue _ _ _).mono ?_;rintro r w1 ⟨rfl,k⟩;have K : Kept (Zi (Box2 w (ptr b) (.int .i32 e))) w1 :=k;have G : w.heap.size + 3 ≤ w1.heap.size :=(by have q :=Chg.size K;simp at q;omega)))
        | (go_at_call 92;refine (hp _ (kt HS.out.2.1 (kt (ziK _) K))).mono ?_;rintro r w2 ⟨b2,rfl,q1,q2⟩)
        | (go_at_call 116;refine (HM.out w2 b2 (kt K q2) (by have :=q1.ge;omega) q1.at).mono ?_;rintro r w5 ⟨rfl,k1,k2⟩;have d0 :=Kept.at k2 HB.out.1;have d1 :=Kept.at k2 HB.out.2;have S :=HS.out.2.2.1.kept k2;obtain ⟨⟨u0,s0⟩,⟨u1,s1⟩,sf⟩ :=id S;have f0 :=sf 0;have f1 :=sf 1)
        | (go_at_call 85;obtain ⟨sA,nA,cA,A,gA,hA⟩ :=k1;have ka :=Chg.alloc w7 (Obj.cells #[] 109) None2;refine (int_setBits (Box2 w (ptr b) (.int .i32 e)) (w7.alloc (Obj.cells #[] 109)) (kt k2 ka) (w.heap.size + 2) (some ⟨w7.heap.size,0,none⟩) 0 0 [] (by rw [HS.out.1];omega) (Kept.at ka A.neg) (Kept.at ka A.abs) (A.nf.chg (lt_of_cell A.neg) ka) (.inl rfl) rfl (by unfold Big;omega) (Nat.le_refl _) (by unfold Big;omega) (.inr ⟨w7.heap.size,0,rfl,fun j hj => by omega,NF.made w7 _ _,by simp⟩) Lt.nil (fun a ha => by obtain rfl :=Option.some.inj ha;exact ⟨Chg.size k2,by have :=lt_of_cell A.neg;show w7.heap.size ≠ _;omega⟩)).mono ?_;rintro r w9 ⟨rfl,k1,k2⟩;have S :=HS.out.2.2.1.kept k2;obtain ⟨⟨u0,s0⟩,⟨u1,s1⟩,sf⟩ :=id S;have f0 :=sf 0;have f1 :=sf 1)
        | (go_at_call 95;first
            | ((with_reducible refine (hsQ _ k1.at).mono ?_);rintro r w6 ⟨rfl,hw⟩;rw [hw];clear hw)
            | (refine (hsX _ (kt HS.out.2.1 k2)).mono ?_;rintro r w6 ⟨rfl,hw⟩;rw [hw];clear hw)))
      first
        | refine ⟨dv _ x,results_dec rfl rfl (put2_0 S _ _) (put2_1 S _ _),_,rfl,dec_ret (by omega) ?_ HS.out.2.1 k1 k2 _ _⟩
        | refine bodyPost_ret (v :=dv _ x) (results_dec rfl rfl (put2_0 S _ _) (put2_1 S _ _)) rfl ⟨_,rfl,dec_ret (by omega) ?_ HS.out.2.1 k1 k2 _ _⟩
      rw [HS.out.1]
      omega
  · have hq0 : (Q.sign == 0) = false :=by simp [Int.sign_eq_zero_iff_zero,hq]
    generalize Q.sign = gq at *
    go_enter Tryz.func99,Tryz.ntmps99
    go_wp2_with (first
      | (go_at_call 115;refine (hab _).mono ?_;rintro r w1 ⟨rfl,hw⟩;rw [hw])
      | (go_at_call 88;first
          | ((with_reducible refine (dec_getValue w5 _ _).mono ?_);rintro r w7 ⟨rfl,k⟩;have k1 :=k1.kept k;have k2 :=kt k2 k;have S :=S.kept k;obtain ⟨⟨u0,s0⟩,⟨u1,s1⟩,sf⟩ :=id S;have f0 :=sf 0;have f1 :=sf 1;clear k)
          | (refine (dec_getValue _ _ _).mono ?_;rintro r w1 ⟨rfl,k⟩;have K : Kept (Zi (Box2 w (ptr b) (.int .i32 e))) w1 :=k;have G : w.heap.size + 3 ≤ w1.heap.size :=(by have q :=Chg.size K;simp at q;omega)))
      | (go_at_call 92;refine (hp _ (kt HS.out.2.1 (kt (ziK _) K))).mono ?_;rintro r w2 ⟨b2,rfl,q1,q2⟩)
      | (go_at_call 116;refine (HM.out w2 b2 (kt K q2) (by have :=q1.ge;omega) q1.at).mono ?_;rintro r w5 ⟨rfl,k1,k2⟩;have d0 :=Kept.at k2 HB.out.1;have d1 :=Kept.at k2 HB.out.2;have S :=HS.out.2.2.1.kept k2;obtain ⟨⟨u0,s0⟩,⟨u1,s1⟩,sf⟩ :=id S;have f0 :=sf 0;have f1 :=sf 1)
      | (go_at_call 95;first
          | ((with_reducible refine (hsQ _ k1.at).mono ?_);rintro r w6 ⟨rfl,hw⟩;rw [hw];clear hw)
          | (refine (hsX _ (kt HS.out.2.1 k2)).mono ?_;rintro r w6 ⟨rfl,hw⟩;rw [hw];clear hw)))
    first
      | refine ⟨dv _ x,results_dec rfl rfl (put2_0 S _ _) (put2_1 S _ _),_,rfl,dec_ret (by omega) ?_ HS.out.2.1 k1 k2 _ _⟩
      | refine bodyPost_ret (v :=dv _ x) (results_dec rfl rfl (put2_0 S _ _) (put2_1 S _ _)) rfl ⟨_,rfl,dec_ret (by omega) ?_ HS.out.2.1 k1 k2 _ _⟩
    rw [HS.out.1]
    omega
end Go.Proofs.YtfmmdamgcpiciaaGreatDoor
namespace Go.Proofs.YtfmmdamgcpiciaaGreatDoor
open Go Go.RowKit
theorem val_mod_word {xs : List Nat} (h : Lt W64 xs) : val W64 xs % W64 = xs.headD 0 :=by
  cases xs with
  | nil => rfl
  | cons x xs =>
    simp only [val,List.headD_cons]
    rw [Nat.add_mul_mod_self_left,Nat.mod_eq_of_lt (h x (by simp))]
theorem low64 (w : World) (s : Option Addr) (n c X : Nat) (h : NatAt w s n c X) : Calls Tryz.prog 114 #[.slice s n c] w fun e w' => e = .returned (.int .u64 (X % W64 : Nat)) ∧ w' = w :=by
  rcases n with _ | n
  · obtain rfl :=h.zero
    go_enter Tryz.func114,Tryz.ntmps114
    go_wp2
    first | go_ret | refine ⟨_,results_tmp rfl _ _ _,?_⟩
    exact ⟨rfl,rfl⟩
  · obtain ⟨b,o,xs,rfl,hr,hl,hlt,hz,hv,_,_,hc,hcB,_⟩ :=h.open
    have hm :=val_mod_word hlt
    rw [hv] at hm
    rw [hm]
    obtain ⟨x,ys,rfl⟩ : ∃ x ys,xs = x :: ys :=by
      cases xs with
      | nil => simp at hl
      | cons x ys => exact ⟨x,ys,rfl⟩
    have c0 :=hr 0 x rfl
    simp only [Nat.add_zero] at c0
    unfold Big at hcB
    have hn0 : ((n : Int) + 1 == 0) = false :=by simp;omega
    simp only [List.headD_cons]
    clear hv hm hz hlt hr
    go_enter Tryz.func114,Tryz.ntmps114
    go_wp2
    first | go_ret | refine ⟨_,results_tmp rfl _ _ _,?_⟩
    exact ⟨rfl,rfl⟩
theorem wrap_i64_in (x : Int) (h1 : -9223372036854775808 ≤ x) (h2 : x ≤ 9223372036854775807) : IntKind.i64.wrap x = x :=by simp [IntKind.wrap,IntKind.bits,IntKind.signed];omega
theorem wrap_i64_up (x : Int) (h1 : 9223372036854775808 ≤ x) (h2 : x < 18446744073709551616) : IntKind.i64.wrap x = x - 18446744073709551616 :=by simp [IntKind.wrap,IntKind.bits,IntKind.signed];omega
theorem int_isInt64 (w : World) (b X : Nat) (h : IntAt w b X) : Calls Tryz.prog 96 #[ptr b] w fun e w' => e = .returned (.bool (decide (X < 9223372036854775808))) ∧ w' = w :=by
  obtain ⟨s,n,c,h⟩ :=h
  have h0 :=h.neg
  have h1 :=h.abs
  have hl :=low64 w s n c _ h.nat
  rw [Int.natAbs_natCast] at hl
  rw [decide_eq_false (by omega)] at h0
  have hnB :=h.nat.ok.2.2.1
  unfold Big at hnB
  by_cases hn : n ≤ 1
  · have hX : X < W64 :=by
      have :=h.nat.lt_pow
      rw [Int.natAbs_natCast] at this
      exact Nat.lt_of_lt_of_le this (by have :=Nat.pow_le_pow_right (show 0 < W64 by decide) hn;simpa using this)
    rw [Nat.mod_eq_of_lt hX] at hl
    unfold W64 at hX
    by_cases hx : X < 9223372036854775808
    · rw [decide_eq_true hx]
      have e1 :=wrap_i64_in (X : Int) (by omega) (by omega)
      have e2 : (0 : Int) ≤ (X : Int) :=by omega
      generalize (X : Int) = x at *
      clear h
      go_enter Tryz.func96,Tryz.ntmps96
      go_wp2_with (go_at_call 114;refine hl.mono ?_;rintro e w' ⟨rfl,hw⟩;rw [hw];clear hw)
      first | go_ret | refine ⟨_,results_tmp rfl _ _ _,?_⟩
      exact ⟨rfl,rfl⟩
    · rw [decide_eq_false hx]
      have e1 :=wrap_i64_up (X : Int) (by omega) (by omega)
      have e2 : decide (18446744073709551616 ≤ (X : Int)) = false :=decide_eq_false (by omega)
      generalize (X : Int) = x at *
      clear h
      go_enter Tryz.func96,Tryz.ntmps96
      go_wp2_with (go_at_call 114;refine hl.mono ?_;rintro e w' ⟨rfl,hw⟩;rw [hw];clear hw)
      first | go_ret | refine ⟨_,results_tmp rfl _ _ _,?_⟩
      exact ⟨rfl,rfl⟩
  · have hX : ¬ X < 9223372036854775808 :=by
      obtain ⟨n,rfl⟩ : ∃ k,n = k + 1 :=⟨n - 1,by omega⟩
      have :=h.nat.le_pow
      rw [Int.natAbs_natCast] at this
      have h2 :=Nat.pow_le_pow_right (show 0 < W64 by decide) (show 1 ≤ n by omega)
      unfold W64 at *
      omega
    rw [decide_eq_false hX]
    clear h
    go_enter Tryz.func96,Tryz.ntmps96
    go_wp2_with fail
    first | go_ret | refine ⟨_,results_tmp rfl _ _ _,?_⟩
    exact ⟨rfl,rfl⟩
theorem int_int64 (w : World) (b X : Nat) (h : IntAt w b X) (hX : X < 9223372036854775808) : Calls Tryz.prog 97 #[ptr b] w fun e w' => e = .returned (.int .i64 X) ∧ w' = w :=by
  obtain ⟨s,n,c,h⟩ :=h
  have h0 :=h.neg
  have h1 :=h.abs
  have hl :=low64 w s n c _ h.nat
  rw [Int.natAbs_natCast,Nat.mod_eq_of_lt (by unfold W64;omega)] at hl
  rw [decide_eq_false (by omega)] at h0
  have e1 :=wrap_i64_in (X : Int) (by omega) (by omega)
  generalize (X : Int) = x at *
  clear h
  go_enter Tryz.func97,Tryz.ntmps97
  go_wp2_with (go_at_call 114;refine hl.mono ?_;rintro e w' ⟨rfl,hw⟩;rw [hw];clear hw)
  first | go_ret | refine ⟨_,results_tmp rfl _ _ _,?_⟩
  exact ⟨rfl,rfl⟩
theorem pow10Uint64 (w : World) (n P : Nat) (hn : n ≤ 18) (hP : 10 ^ n = P) : Calls Tryz.prog 98 #[.int .i32 n] w fun e w' => e = .returned (.int .u64 P) ∧ w' = w :=by
  go_enter Tryz.func98,Tryz.ntmps98
  go_wp2
  go_loop [3,4] (fun t i => ∃ k A : Nat,k ≤ n ∧ i = .int .i32 ((k : Int) + 1) ∧ t = .int .u64 A ∧ A = 10 ^ k) (fun _ i => n + 1 - (intOf i).toNat)
  case atStart => exact ⟨0,1,Nat.zero_le _,rfl,rfl,rfl⟩
  case round =>
    obtain ⟨k,A,hk,rfl,rfl,hA⟩ :=hrel
    have HA :=Lib.hid hA
    clear hA
    by_cases h : k < n
    · have e1 : IntKind.u64.wrap ((A : Int) * 10) = (A : Int) * 10 :=by
        have hp : 10 ^ (k + 1) ≤ 10 ^ 18 :=Nat.pow_le_pow_right (by decide) (by omega)
        rw [Nat.pow_succ,← HA.out] at hp
        exact wrap_u64_in _ (by omega) (by omega)
      go_wp2_with fail
      go_round
      case rel => exact ⟨k + 1,A * 10,by omega,by first | rfl | (congr 1;omega),by congr 1,by rw [Nat.pow_succ,HA.out]⟩
      case measure => simp [intOf];omega
    · obtain rfl : k = n :=by omega
      obtain rfl : A = P :=by rw [← hP,HA.out]
      go_wp2_with fail
      go_ret
      exact ⟨rfl,rfl⟩
end Go.Proofs.YtfmmdamgcpiciaaGreatDoor
namespace Go.Proofs.YtfmmdamgcpiciaaGreatDoor
open Go Go.RowKit
abbrev pd (s : Value) (e : Int) : Value :=.agg #[s,.int .i64 e]
abbrev Box23 (w : World) (x y : Value) : World :=w.alloc (.cells #[x,y] 23)
theorem slot23 (w : World) (x y : Value) : Slot (Box23 w x y) w.heap.size :=⟨⟨_,by rw [World.cell?_alloc_at _ _ _ _ rfl];rfl⟩,⟨_,by rw [World.cell?_alloc_at _ _ _ _ rfl];rfl⟩,NF.made w _ _⟩
theorem info23 : (Tryz.prog.info? 23).map (fun i => (i.zero,i.size,i.bytes)) = some (some (.agg #[.string { data :=#[] },.int .i64 0]),2,24) :=by kernel_rfl
theorem results_23 {fn : Func} {t r : Nat} {tmps : Array Value} {w : World} {x y : Value} (h : fn.results = #[.cell t 23]) (hp : tmps.getD t undef = ptr r) (h0 : w.cell? ⟨r,0,none⟩ = some x) (h1 : w.cell? ⟨r,1,none⟩ = some y) :
    (results fn tmps).run Tryz.prog w = .ok (.agg #[x,y]) w :=by
  obtain ⟨i0,hi,hz0,hz1,hz2⟩ :=info_parts info23
  have hp' : tmps[t]?.getD undef = ptr r :=by simpa using hp
  simp [results,h,hp',go_sem,hi,hz1,h0,h1]
theorem impl_dec (w : World) (b : Nat) (e X : Int) (hX : IntAt w b X) (hn : X.natAbs < 10 ^ 1000) (h1 : -2147483648 ≤ e) (h2 : e ≤ 2147483647) : Calls Tryz.prog 31 #[dv b e] w fun r w' => r = .returned (pd (str (txt X)) e) ∧ Kept w w' :=by
  have hd :=fun W (k : Kept w W) => digits W b X (hX.kept k) hn
  have HH :=Lib.hid (And.intro hX hn)
  clear hX hn
  obtain ⟨s,hs⟩ : ∃ s,str (txt X) = .string s :=⟨_,rfl⟩
  rw [hs] at hd ⊢
  have k0 : Kept w (Box23 (Box w (ptr b) (.int .i32 e)) (.string { data :=#[] }) (.int .i64 0)) :=kt (boxK _ _ _) (Chg.alloc _ _ _)
  have S0 :=slot23 (Box w (ptr b) (.int .i32 e)) (.string { data :=#[] }) (.int .i64 0)
  have e1 : (Box w (ptr b) (.int .i32 e)).heap.size = w.heap.size + 1 :=boxS _ _ _
  rw [e1] at S0
  go_enter Tryz.func31,Tryz.ntmps31
  go_wp2_with (first
    | (refine wp_region_lit_segs (id :=1) [[0,3,1],[2],[4,5,6,7]] mixed (by kernel_rfl) ?_;simp only [wpSegsL,gaC,gaN,lZ0,lS0,coS])
    | refine ⟨by kernel_rfl,?_⟩
    | (refine ⟨by kernel_rfl,oldD kr,?_⟩)
    | (refine ⟨oldD kr,?_⟩)
    | (go_at_call 58;refine (dec_value _ b e).mono ?_;rintro r w1 ⟨rfl,k⟩;have kr :=k.of_drew;clear k)
    | (go_at_call 57;refine (hd _ (kt k0 kr)).mono ?_;rintro r w2 ⟨rfl,k⟩;replace kr :=kt kr k;clear k)
    | (go_at_call 59;refine (dec_exponent _ b e).mono ?_;rintro r w3 ⟨rfl,k⟩;replace kr :=kt kr k;clear k;have S :=S0.kept kr;obtain ⟨⟨u0,s0⟩,⟨u1,s1⟩,sf⟩ :=id S;have f0 :=sf 0;have f1 :=sf 1;have s2 :=cs_ne (u :=(.string s)) s1 (b' :=w.heap.size + 1) (o' :=0) (by omega)))
  exact ⟨_,results_23 rfl rfl (put2_0 S _ _) (put2_1 S _ _),rfl,(kt k0 kr).keptNew (put2_chg _ _ _ _) fun b' _ h => by omega⟩
end Go.Proofs.YtfmmdamgcpiciaaGreatDoor
namespace Go.Proofs.YtfmmdamgcpiciaaGreatDoor
open Go Go.RowKit
def bs (L : List Nat) : ByteArray :=⟨(L.map UInt8.ofNat).toArray⟩
theorem str_bs (L : List Nat) : str L = .string (bs L) :=rfl
theorem bs_size (L : List Nat) : (bs L).size = L.length :=by simp [bs,ByteArray.size]
theorem bs_get {L : List Nat} {j x : Nat} (hj : L[j]? = some x) (hx : x < 256) (h : j < (bs L).size) : ((bs L)[j]'h).toNat = x :=by
  obtain ⟨hl,rfl⟩ :=List.getElem?_eq_some_iff.1 hj
  show (((L.map UInt8.ofNat).toArray)[j]'(by simpa using hl)).toNat = L[j]
  simp only [List.getElem_toArray,List.getElem_map]
  rw [UInt8.toNat_ofNat_of_lt' (by simpa using hx)]
theorem bs_tail (c : Nat) (L : List Nat) : (bs (c :: L)).extract 1 (L.length + 1) = bs L :=by
  apply ByteArray.ext
  simp [bs,ByteArray.extract,ByteArray.copySlice]
  rw [List.take_of_length_le (by simp)]
theorem tk1 {xs : List Nat} {k x : Nat} (h : xs[k]? = some x) : xs.take (k + 1) = xs.take k ++ [x] :=by
  obtain ⟨hl,rfl⟩ :=List.getElem?_eq_some_iff.1 h
  exact List.take_succ_eq_append_getElem hl
theorem readD_take {L : List Nat} {j x : Nat} (h : L[j]? = some x) : readD (L.take (j + 1)) = readD (L.take j) * 10 + (x - 48) :=by
  rw [tk1 h,readD_snoc]
theorem foldl_read : ∀ (r : List Nat) (n : Nat),r.foldl (fun n c => n * 10 + (c - 48)) n = n * 10 ^ r.length + readD r
  | [],n => by simp [readD]
  | c :: r,n => by
    have h1 :=foldl_read r (n * 10 + (c - 48))
    have h2 :=foldl_read r (0 * 10 + (c - 48))
    have h3 : readD (c :: r) = r.foldl (fun n c => n * 10 + (c - 48)) (0 * 10 + (c - 48)) :=rfl
    rw [List.foldl_cons,h1,h3,h2,List.length_cons,Nat.pow_succ,Nat.zero_mul,Nat.zero_add,Nat.add_mul,Nat.mul_assoc,Nat.mul_comm 10,Nat.add_assoc]
theorem readD_append (l r : List Nat) : readD (l ++ r) = readD l * 10 ^ r.length + readD r :=by
  have h :=foldl_read r (readD l)
  rw [← h]
  simp [readD]
theorem readD_lt : ∀ (l : List Nat),(∀ c ∈ l,48 ≤ c ∧ c ≤ 57) → readD l < 10 ^ l.length
  | [],_ => by simp [readD]
  | c :: r,h => by
    have h1 :=readD_lt r fun c hc => h c (List.mem_cons_of_mem _ hc)
    have h2 :=h c (List.mem_cons_self ..)
    have h3 :=readD_append [c] r
    have h4 : readD [c] = c - 48 :=by simp [readD]
    rw [List.singleton_append,h4] at h3
    rw [h3,List.length_cons,Nat.pow_succ]
    have h5 : (c - 48) * 10 ^ r.length ≤ 9 * 10 ^ r.length :=Nat.mul_le_mul_right _ (by omega)
    omega
theorem int_neg_self (w0 w : World) (hk : Kept w0 w) (b : Nat) (X : Int) (hx : IntN w0 w b X) (h0 : X ≠ 0) :
    Calls Tryz.prog 86 #[ptr b,ptr b] w fun e w' => e = .returned (ptr b) ∧ IntN w0 w' b (-X) ∧ Kept w0 w' :=by
  obtain ⟨s,n,c,hx,hb,hs⟩ :=hx
  have hn0 : ¬ n = 0 :=fun h => h0 (by have :=hx.nat.eq_zero.2 h;omega)
  obtain ⟨n,rfl⟩ : ∃ m,n = m + 1 :=⟨n - 1,by omega⟩
  have h107 : Calls Tryz.prog 107 #[ptr b,ptr b] w fun e w' => e = .returned (ptr b) ∧ w' = w :=by
    have hne : (Bool.not (decide (b = b ∧ 0 = 0))) = false :=by simp
    have hp :=(ptrRun53 w b b hx.neg hx.neg hx.nf hx.nf).2
    rw [hne] at hp
    clear hne
    go_enter Tryz.func107,Tryz.ntmps107
    go_wp2
    first | go_ret | refine ⟨_,results_tmp rfl _ _ _,?_⟩
    exact ⟨rfl,rfl⟩
  have z0' :=hx.neg
  have z1' :=hx.abs
  have f0' :=hx.nf 0
  go_enter Tryz.func86,Tryz.ntmps86
  go_wp2_with (go_at_call 107;refine h107.mono ?_;rintro e w1 ⟨rfl,hw⟩;subst hw)
  first | go_ret | refine ⟨_,results_tmp rfl _ _ _,?_⟩
  exact ⟨rfl,int_resign _ (by rw [Bool.eq_iff_iff];simp;omega) hx (by simp) hb hs hk⟩
theorem mul_limb {B S x c n0 V R Y : Nat} (hR : Y + R * c = V * S + n0) (n : Nat) (hn : n = c + x * S) : (Y + R * (n % B)) + R * B * (n / B) = (V + R * x) * S + n0 :=by
  have h1 :=Nat.mod_add_div n B
  have h2 : R * (n % B) + R * B * (n / B) = R * n :=by rw [Nat.mul_assoc,← Nat.mul_add,h1]
  rw [Nat.add_assoc,h2,hn,Nat.mul_add,← Nat.add_assoc,hR,Nat.add_mul,Nat.mul_assoc]
  omega
theorem mul_digit {x c S : Nat} (hx : x < B32) (hc : c < S) (hS : S ≤ 1000000000) : c + x * S < W64 ∧ (c + x * S) / B32 < S :=by
  have h1 : x * S ≤ (B32 - 1) * S :=Nat.mul_le_mul_right _ (by unfold B32 at *;omega)
  have h2 : (B32 - 1) * S + S = B32 * S :=by
    have : B32 = B32 - 1 + 1 :=by decide
    conv => rhs;rw [this,Nat.add_mul,Nat.one_mul]
  have h3 : c + x * S < B32 * S :=by omega
  have h4 : B32 * S ≤ B32 * 1000000000 :=Nat.mul_le_mul_left _ hS
  refine ⟨by unfold B32 at *;unfold W64;omega,?_⟩
  rw [Nat.div_lt_iff_lt_mul (by decide),Nat.mul_comm S]
  exact h3
def Joined (xs ws : List Nat) (j : Nat) : Prop :=ws.length = (j + 1) / 2 ∧ Lt W64 ws ∧ val W64 ws = val B32 (xs.take j) ∧ (j % 2 = 1 → ∃ a,ws[j / 2]? = some a ∧ a < B32)
theorem B32_W64 (m : Nat) : B32 ^ (2 * m) = W64 ^ m :=by rw [Nat.pow_mul];rfl
theorem Joined.even {xs ws : List Nat} {j x : Nat} (h : Joined xs ws j) (hj : j % 2 = 0) (hx : xs[j]? = some x) (hxb : x < B32) : Joined xs (ws ++ [x]) (j + 1) :=by
  obtain ⟨h1,h2,h3,_⟩ :=h
  have hl : ws.length = j / 2 :=by omega
  obtain ⟨hjl,rfl⟩ :=List.getElem?_eq_some_iff.1 hx
  refine ⟨by simp;omega,h2.snoc (Nat.lt_trans hxb (by decide)),?_,fun _ => ⟨xs[j],?_,hxb⟩⟩
  · rw [val_snoc,val_take_succ hjl,h3,hl,← B32_W64]
    congr 2
    rw [show 2 * (j / 2) = j by omega]
  · rw [show (j + 1) / 2 = ws.length by omega,List.getElem?_append_right (Nat.le_refl _)]
    simp
theorem Joined.odd {xs ws : List Nat} {j x a : Nat} (h : Joined xs ws j) (hj : j % 2 = 1) (hx : xs[j]? = some x) (hxb : x < B32) (ha : ws[j / 2]? = some a) (hab : a < B32) : Joined xs (ws.set (j / 2) (a + B32 * x)) (j + 1) :=by
  obtain ⟨h1,h2,h3,_⟩ :=h
  obtain ⟨m,rfl⟩ : ∃ m,j = 2 * m + 1 :=⟨j / 2,by omega⟩
  have hm : (2 * m + 1) / 2 = m :=by omega
  rw [hm] at ha ⊢
  have hl : ws.length = m + 1 :=by omega
  obtain ⟨hjl,rfl⟩ :=List.getElem?_eq_some_iff.1 hx
  have e : ws.set m (a + B32 * xs[2 * m + 1]) = ws.take m ++ [a + B32 * xs[2 * m + 1]] :=by
    rw [List.set_eq_take_append_cons_drop,if_pos (by omega),List.drop_of_length_le (by omega)]
  have e2 : ws = ws.take m ++ [a] :=by rw [← tk1 ha,List.take_of_length_le (by omega)]
  have hlt : a + B32 * xs[2 * m + 1] < W64 :=by unfold B32 at *;unfold W64;omega
  have hlm : (ws.take m).length = m :=by simp;omega
  refine ⟨by simp;omega,?_,?_,fun h => by omega⟩
  · rw [e];exact (h2.take m).snoc hlt
  · rw [e,val_snoc,hlm,val_take_succ hjl,← h3]
    conv => rhs;rw [e2,val_snoc,hlm]
    rw [Nat.mul_add,← Nat.add_assoc]
    congr 1
    rw [Nat.pow_succ,B32_W64,Nat.mul_assoc]
end Go.Proofs.YtfmmdamgcpiciaaGreatDoor
namespace Go.Proofs.YtfmmdamgcpiciaaGreatDoor
open Go Go.RowKit
theorem natString (w : World) (s : Option Addr) (n c X : Nat) (hx : Dig w s n c X) (hX : X < 10 ^ 1000) : Calls Tryz.prog 49 #[.slice s n c] w fun r w' => r = .returned (str (digT X)) ∧ Kept w w' :=by
  have hn : n ≤ 112 :=hx.len_le (Nat.lt_of_lt_of_le hX (by decide))
  obtain ⟨xs,h1,h2,h3,h4,h5,h6,h7,h8⟩ :=hx
  have hnz : ∀ i,i < n → val L9 (xs.drop i) ≠ 0 :=by
    intro i hi
    have hd : Nz (xs.drop i) :=fun x hx => h7 x (by rw [List.getLast?_drop] at hx;split at hx <;> simp_all)
    obtain ⟨k,hk⟩ : ∃ k,(xs.drop i).length = k + 1 :=⟨n - i - 1,by rw [List.length_drop,h1];omega⟩
    have :=Nz.le (B :=L9) hd hk
    have h2 : 0 < L9 ^ k :=Nat.pow_pos (by decide)
    omega
  have HN :=Lib.hid (And.intro hnz (And.intro h8 (And.intro hX h3)))
  clear hnz h3 h7 h8 hX
  go_enter Tryz.func49,Tryz.ntmps49
  go_wp2
  go_loopw [3,11] (fun t3 t11 wx => ∃ (i : Nat) (s3 : Option Addr) (c3 n3 : Nat) (ys : List Nat),t11 = .int .i64 i ∧ i ≤ n ∧ t3 = .slice s3 n3 c3 ∧ ys.length = n3 ∧ n3 ≤ 1000 ∧ Hid (dl X = ys ++ dl (val L9 (xs.drop i))) ∧ Hid (Sl .u8 w wx s3 c3 (ys.map (48 + ·))) ∧ Kept w wx) (fun _ t11 _ => n - (intOf t11).toNat)
  case atStart => exact ⟨0,none,0,0,[],rfl,Nat.zero_le _,rfl,rfl,Nat.zero_le _,Lib.hid (by rw [List.drop_zero,HN.out.2.1];rfl),Lib.hid Sl.start,Chg.refl _ _⟩
  case round =>
    obtain ⟨i,s3,c3,n3,ys,rfl,hi,rfl,hn3,hb3,hdl,hS,hK⟩ :=hrel
    rcases Nat.lt_or_ge i n with hin | hin
    · have hic : i < c :=by omega
      have gx : xs[i]? = some xs[i] :=List.getElem?_eq_getElem (by omega)
      have lx : xs[i] < L9 :=h6 _ (List.getElem_mem _)
      have hdr : val L9 (xs.drop i) = xs[i] + L9 * val L9 (xs.drop (i + 1)) :=by rw [List.drop_eq_getElem_cons (by omega)];rfl
      generalize xs[i] = r at gx lx hdr
      obtain ⟨g1,rfl,r1⟩ :=h5.row (fun e => by subst e;simp at h1;omega)
      have c1 :=(r1.keep hK) i r gx
      simp only [Nat.zero_add] at c1
      obtain ⟨V,hV⟩ : ∃ V,val L9 (xs.drop (i + 1)) = V :=⟨_,rfl⟩
      rw [hV] at hdr
      have hmV : (i + 1 = n ∧ V = 0) ∨ (i + 1 < n ∧ V ≠ 0) :=by
        rcases Nat.lt_or_ge (i + 1) n with h | h
        · exact .inr ⟨h,by rw [← hV];exact HN.out.1 _ h⟩
        · exact .inl ⟨by omega,by rw [← hV,List.drop_of_length_le (by omega)];rfl⟩
      obtain ⟨more,hmo⟩ : ∃ b,decide (V ≠ 0) = b :=⟨_,rfl⟩
      obtain ⟨R,eR⟩ : ∃ R : Int,(r : Int) = R :=⟨_,rfl⟩
      rw [eR] at c1
      have HV :=Lib.hid (And.intro hV (And.intro hdr (And.intro lx (And.intro gx eR))))
      clear hV hdr lx gx eR
      go_upto_block 2 with fail
      go_wp2
      go_loopw [3,5,6] (fun t3 t5 t6 wx => ∃ (k d : Nat) (D : Int) (es : List Nat) (s' : Option Addr) (c' : Nat),t6 = .int .i64 k ∧ k ≤ 9 ∧ t5 = .int .u32 D ∧ Hid ((d : Int) = D ∧ r / 10 ^ k = d) ∧ Hid (Emit more r k es) ∧ es.length = k ∧ t3 = .slice s' (n3 + k) c' ∧ Hid (Sl .u8 w wx s' c' ((ys ++ es).map (48 + ·))) ∧ Kept w wx) (fun _ _ t6 _ => 9 - (intOf t6).toNat)
      case atStart => exact ⟨0,r,R,[],s3,c3,rfl,by decide,rfl,Lib.hid ⟨HV.out.2.2.2.2,by simp⟩,Lib.hid (Emit.start _ _),rfl,rfl,Lib.hid (by rw [List.append_nil];exact hS.out),hK⟩
      case round =>
        clear hS hK c1
        obtain ⟨k,d,D,es,s',c',rfl,hk,rfl,hd,hEm,hes,rfl,hS,hK⟩ :=hrel
        have hdr : d < L9 :=by rw [← hd.out.2];exact Nat.lt_of_le_of_lt (Nat.div_le_self _ _) HV.out.2.2.1
        have D0 : 0 ≤ D :=by have :=hd.out.1;omega
        have D1 : D ≤ 999999999 :=by have :=hd.out.1;unfold L9 at hdr;omega
        by_cases hst : k < 9 ∧ (i + 1 < n ∨ d ≠ 0)
        · obtain ⟨hk9,hst⟩ :=hst
          have hlen : ((ys ++ es).map (48 + ·)).length = n3 + k :=by simp [hn3,hes]
          have HD :=Lib.hid (And.intro hd.out (And.intro hst hmV))
          have hE2 :=hEm.out.step (by
            rw [hd.out.2,← hmo]
            rcases hst with h | h
            · exact .inl (decide_eq_true (by omega))
            · exact .inr h)
          rw [hd.out.2] at hE2
          have HE :=Lib.hid hE2
          have hz : (48 + D % 10).toNat = 48 + d % 10 :=by have :=hd.out.1;omega
          have HZ :=Lib.hid hz
          clear hE2 hz hdr
          rcases Int.lt_or_le 0 D with hDp | hDp
          · clear hst hmV
            go_wp2_with (at_builtin;refine wp_gapp1 T76 (w0 :=w) rfl (.tmp 31) (.tmp 36) rfl rfl rfl rfl hS.out hK.size hlen (by omega) (by omega) ?_;intro s4 c4 w4 hS4 hC4 hD4)
            go_roundw
            case rel =>
              obtain ⟨⟨h1,h2⟩,hst,hmV⟩ :=HD.out
              refine ⟨k + 1,d / 10,_,es ++ [d % 10],s4,c4,by go_num,hk9,rfl,Lib.hid ⟨?_,?_⟩,HE,by simp [hes],rfl,Lib.hid ?_,hK.trans hC4 fun b o hb h => ?_⟩
              · rw [← h1];rfl
              · rw [Nat.pow_succ,← Nat.div_div_eq_div_mul,h2]
              · rw [HZ.out] at hS4
                simpa [List.append_assoc] using hS4
              · obtain ⟨a,ha,rfl⟩ :=h
                have :=(hS.out.lt ha).1
                omega
            case measure => simp [intOf];omega
          · obtain rfl : D = 0 :=by omega
            have hin2 : (i : Int) + 1 < (n : Int) :=by have :=hd.out.1;omega
            clear hst hmV
            go_wp2_with (at_builtin;refine wp_gapp1 T76 (w0 :=w) rfl (.tmp 31) (.tmp 36) rfl rfl rfl rfl hS.out hK.size hlen (by omega) (by omega) ?_;intro s4 c4 w4 hS4 hC4 hD4)
            go_roundw
            case rel =>
              obtain ⟨⟨h1,h2⟩,hst,hmV⟩ :=HD.out
              have hd0 : d = 0 :=by omega
              refine ⟨k + 1,d / 10,_,es ++ [d % 10],s4,c4,by go_num,hk9,rfl,Lib.hid ⟨?_,?_⟩,HE,by simp [hes],rfl,Lib.hid ?_,hK.trans hC4 fun b o hb h => ?_⟩
              · rw [hd0];rfl
              · rw [Nat.pow_succ,← Nat.div_div_eq_div_mul,h2]
              · subst hd0
                simpa [List.append_assoc] using hS4
              · obtain ⟨a,ha,rfl⟩ :=h
                have :=(hS.out.lt ha).1
                omega
            case measure => simp [intOf];omega
        · have hx : k = 9 ∨ (more = false ∧ r / 10 ^ k = 0) :=by
            rcases Nat.lt_or_ge k 9 with h | h
            · refine .inr ⟨?_,by rw [hd.out.2];omega⟩
              rw [← hmo]
              exact decide_eq_false (by omega)
            · exact .inl (by omega)
          have hdn :=hEm.out.done HV.out.2.2.1 hk hx hmo.symm
          have hdl2 : dl X = (ys ++ es) ++ dl (val L9 (xs.drop (i + 1))) :=by
            rw [HV.out.1,hdl.out,HV.out.2.1,hdn,List.append_assoc]
          have hlen : n3 + k ≤ 1000 :=by
            have h1 :=dl_length_le 1000 _ HN.out.2.2.1
            rw [hdl2] at h1
            simp only [List.length_append] at h1
            omega
          have HDn :=Lib.hid (And.intro hdl2 hlen)
          clear hdl2 hlen
          have HM :=Lib.hid (And.intro hmV hst)
          rcases Nat.lt_or_ge k 9 with hk9 | hk9
          · have hd0 : d = 0 :=by omega
            have hin2 : ¬ ((i : Int) + 1 < (n : Int)) :=by omega
            obtain rfl : D = 0 :=by have :=hd.out.1;omega
            clear hx hdn hmV hst hdr
            go_wp2
            go_roundw
            case rel =>
              obtain ⟨hdl2,hlen⟩ :=HDn.out
              exact ⟨i + 1,s',c',n3 + k,ys ++ es,by go_num,hin,rfl,by simp [hn3,hes],hlen,Lib.hid hdl2,hS,hK⟩
            case measure => simp [intOf];omega
          · obtain rfl : k = 9 :=by omega
            clear hx hdn hmV hst hdr
            go_wp2
            go_roundw
            case rel =>
              obtain ⟨hdl2,hlen⟩ :=HDn.out
              exact ⟨i + 1,s',c',n3 + 9,ys ++ es,by go_num,hin,rfl,by simp [hn3,hes],hlen,Lib.hid hdl2,hS,hK⟩
            case measure => simp [intOf];omega
    · obtain rfl : i = n :=by omega
      have hys : dl X = ys :=by
        have :=hdl.out
        rw [List.drop_of_length_le (by omega)] at this
        simpa [val,dl_zero] using this
      rcases Nat.eq_zero_or_pos n3 with rfl | hp
      · have hX0 : X = 0 :=by
          rcases Nat.eq_zero_or_pos X with h | h
          · exact h
          · rw [dl_pos (by omega)] at hys
            rw [← hys] at hn3;simp at hn3
        clear hys
        go_wp2
        first | go_ret | refine ⟨_,results_tmp rfl _ _ _,?_⟩
        exact ⟨by subst hX0;rfl,hK⟩
      · have hn60 : ((n3 : Int) == 0) = false :=by simp;omega
        have hX0 : X ≠ 0 :=fun h => by subst h;rw [dl_zero] at hys;rw [← hys] at hn3;simp at hn3;omega
        obtain ⟨L,hL⟩ : ∃ L,ys.map (48 + ·) = L :=⟨_,rfl⟩
        have hL2 : digT X = L.reverse :=by rw [← hL,← hys,digT_eq hX0]
        have hLl : L.length = n3 :=by rw [← hL];simp [hn3]
        have hS' : Sl .u8 w wr s3 c3 L :=by rw [← hL];exact hS.out
        have hs3 : ∃ g,s3 = some ⟨g,0,none⟩ ∧ w.heap.size ≤ g ∧ OutK .u8 wr g 0 c3 L :=by
          cases s3 with
          | none => have :=(hS'.nil rfl).1;rw [this] at hLl;simp at hLl;omega
          | some a => obtain ⟨g,rfl,h0,_,h⟩ :=hS'.own a rfl;exact ⟨g,rfl,h0,h⟩
        obtain ⟨g,rfl,hg,hO⟩ :=hs3
        have HL :=Lib.hid hL2
        clear hL2 hL hS' hS hys
        go_wp2
        go_loopw [7,8] (fun t7 t8 wx => ∃ (i : Nat) (zs : List Nat),2 * i ≤ n3 ∧ t7 = .int .i64 i ∧ t8 = .int .i64 ((n3 : Int) - 1 - i) ∧ Turned L zs i ∧ OutK .u8 wx g 0 c3 zs ∧ Kept w wx) (fun t7 _ _ => n3 - (intOf t7).toNat)
        case atStart => exact ⟨0,L,by omega,rfl,by first | rfl | (congr 1;omega),Turned.start L,hO,hK⟩
        case round =>
          clear hO hK
          obtain ⟨j,zs,hj,rfl,rfl,hT,hO,hK⟩ :=hrel
          have hzl : zs.length = n3 :=hT.1.trans hLl
          have hcN :=hO.le
          by_cases hlt : 2 * j + 1 < n3
          · obtain ⟨k,hk⟩ : ∃ k,k + 1 + j = n3 :=⟨n3 - 1 - j,by omega⟩
            have e1 : ((n3 : Int) - 1 - j) = (k : Int) :=by omega
            have gx : zs[k]? = some zs[k] :=List.getElem?_eq_getElem (by omega)
            have gy : zs[j]? = some zs[j] :=List.getElem?_eq_getElem (by omega)
            generalize zs[k] = x at gx
            generalize zs[j] = y at gy
            have cx :=hO.row k x gx
            have cy :=hO.row j y gy
            have fi :=(hO.room j (by omega)).2
            have fk :=(hO.room k (by omega)).2
            have hik : j < k :=by omega
            have hkN : k < n3 :=by omega
            have hO3 :=(hO.set x (i :=j) (by omega)).set y (i :=k) (by simp;omega)
            have hT3 :=hT.step (by rw [hLl];exact hk) hik gx gy
            have HH :=Lib.hid (And.intro hO3 hT3)
            simp only [Nat.zero_add] at cx cy fi fk
            have cy2 :=cs_ne (u :=.int .u8 (x : Int)) cx (b' :=g) (o' :=j) (by omega)
            rw [e1]
            clear hO hT hO3 hT3
            go_wp2_with (first
              | (refine wp_region_lit_segs (id :=16) [[0,1,2,3,4,5,6,7,8,9,10,11,12,13,14,15]] mixed (by kernel_rfl) ?_;simp only [wpSegsL,gaC,gaN,lZ0,lS0,coS])
              | refine ⟨by kernel_rfl,?_⟩)
            go_roundw
            case rel =>
              obtain ⟨hO3,hT3⟩ :=HH.out
              simp only [Nat.zero_add] at hO3
              refine ⟨j + 1,(zs.set j x).set k y,by omega,by go_num,by first | rfl | (congr 1;omega),hT3,?_,?_⟩
              · first | exact hO3 | exact hO3.kept (Chg.refl _ _).drew
              · refine Chg.keptNew (M :=fun p _ => p = g) hK ?_ fun p _ h => by omega
                exact ((Chg.refl _ _).drew.trans (Chg.setCell _ g j _ (fun p _ => p = g) fun _ => rfl) fun _ _ _ h => h).trans (Chg.setCell _ g k _ (fun p _ => p = g) fun _ => rfl) fun _ _ _ h => h
            case measure => simp [intOf];omega
          · have hij : ¬ ((j : Int) < (n3 : Int) - 1 - j) :=by omega
            have hz :=hT.done (by omega)
            have hrow :=hO.row
            rw [hz] at hrow
            have hstr :=bytes_str wr g n3 c3 L.reverse (by simp [hLl]) (by
              rw [← HL.out]
              intro c hc
              have :=digT_range _ c hc
              omega) hrow
            go_wp2
            first | go_ret | refine ⟨_,results_tmp rfl _ _ _,?_⟩
            exact ⟨by rw [HL.out];rfl,hK⟩
end Go.Proofs.YtfmmdamgcpiciaaGreatDoor
namespace Go.Proofs.YtfmmdamgcpiciaaGreatDoor
open Go Go.RowKit
theorem str_index (s : ByteArray) (t x : Nat) (w : World) (hl : t < s.size) (h : ∀ h : t < s.size,(s[t]'h).toNat = x) : (Instr.index 9 (.string s) (.int .i64 (t : Int))).run Tryz.prog w = .ok (.int .u8 (x : Int)) w :=by
  rw [run_index_string w 9 s .i64 t (by kernel_rfl),dif_pos ⟨by omega,by omega⟩]
  have :=h hl
  simp only [Int.toNat_natCast,this]
theorem T108 : ElemT 108 109 .u64 8 :=⟨by kernel_rfl,by kernel_rfl,by decide⟩
theorem whole (w : World) (X : Int) (hX : X.natAbs < 10 ^ 400) : Calls Tryz.prog 51 #[str (txt X)] w fun r w' => ∃ b,r = .returned (.tuple #[ptr b,.bool true]) ∧ IntN w w' b X ∧ Kept w w' :=by
  obtain ⟨D,hD⟩ : ∃ D,digT X.natAbs = D :=⟨_,rfl⟩
  have hDl : D.length ≤ 400 :=hD ▸ digT_length _ 400 (by decide) hX
  have hDne : D ≠ [] :=hD ▸ digT_ne _
  have hDr : ∀ c ∈ D,48 ≤ c ∧ c ≤ 57 :=hD ▸ digT_range _
  have hDv : readD D = X.natAbs :=by rw [← hD];exact readD_digs _
  obtain ⟨N,hN⟩ : ∃ N,D.length = N :=⟨_,rfl⟩
  have hNp : 0 < N :=by rw [← hN];exact List.length_pos_iff.2 hDne
  obtain ⟨s,hs⟩ : ∃ s,bs D = s :=⟨_,rfl⟩
  have hsz : s.size = N :=by rw [← hs,bs_size,hN]
  have hget : ∀ j x,D[j]? = some x → ∀ h : j < s.size,(s[j]'h).toNat = x :=by
    subst hs
    intro j x hj h
    exact bs_get hj (by have :=hDr x (List.mem_of_getElem? hj);omega) h
  have hval : ∃ z : Bool,(z = true → N = 1 ∧ X = 0) ∧ ∀ (h : 0 < s.size),(((s[0]'h).toNat : Int) == 48) = z :=by
    obtain ⟨c,l,hc⟩ :=List.exists_cons_of_ne_nil hDne
    have h1 :=hget 0 c (by rw [hc];rfl)
    refine ⟨decide (c = 48),fun h => ?_,fun h => ?_⟩
    · have hc48 :=of_decide_eq_true h
      rcases Nat.eq_zero_or_pos X.natAbs with h0 | h0
      · exact ⟨by rw [← hN,← hD,h0];rfl,by omega⟩
      · obtain ⟨c2,l2,hc3,hc4⟩ :=digT_head X.natAbs (by omega)
        rw [hD,hc] at hc3
        obtain ⟨rfl,_⟩ :=List.cons.inj hc3
        omega
    · rw [h1 h,Bool.eq_iff_iff]
      simp only [beq_iff_eq,decide_eq_true_eq]
      omega
  obtain ⟨z,hz,hz0⟩ :=hval
  have hneg : txt X = if X < 0 then 45 :: D else D :=by unfold txt;rw [hD]
  obtain ⟨ng,hng⟩ : ∃ b,decide (X < 0) = b :=⟨_,rfl⟩
  obtain ⟨s0,hs0⟩ : ∃ s0,bs (txt X) = s0 :=⟨_,rfl⟩
  have hsz0 : 0 < s0.size :=by rw [← hs0,bs_size,hneg];split <;> (try rw [List.length_cons]) <;> omega
  have hb0 : ∀ h : 0 < s0.size,(((s0[0]'h).toNat : Int) == 45) = ng :=by
    subst hs0
    rw [hneg]
    split
    · rename_i hx
      intro h
      rw [bs_get (L :=45 :: D) (j :=0) (x :=45) rfl (by decide) h,← hng,decide_eq_true hx];rfl
    · rename_i hx
      intro h
      rw [← hng,decide_eq_false hx]
      obtain ⟨c,l,hc⟩ :=List.exists_cons_of_ne_nil hDne
      have h1 :=hDr c (by rw [hc];simp)
      rw [bs_get (L :=D) (j :=0) (x :=c) (by rw [hc];rfl) (by omega) h]
      simp only [beq_eq_false_iff_ne]
      omega
  rw [str_bs,hs0]
  have HS :=Lib.hid (And.intro hneg (And.intro hs hs0))
  have HG :=Lib.hid hget
  clear hs hs0 hneg hD hget
  go_enter Tryz.func51,Tryz.ntmps51
  go_upto_if 21 with fail
  go_cut [0] from 22 to 23 (fun t0 wx => w = wx ∧ t0 = .string s)
  case first =>
    cases ng
    · go_wp2_with fail
      go_meet
      obtain ⟨h1,h2,h3⟩ :=HS.out
      rw [if_neg (of_decide_eq_false hng)] at h1
      exact ⟨rfl,by rw [← h2,← h3,h1]⟩
    · go_wp2_with fail
      go_meet
      obtain ⟨h1,h2,h3⟩ :=HS.out
      rw [if_pos (of_decide_eq_true hng)] at h1
      refine ⟨rfl,?_⟩
      rw [← h2,← h3,h1,bs_size]
      exact congrArg Value.string (bs_tail 45 D)
  case rest =>
    obtain ⟨rfl,rfl⟩ :=hcut
    go_upto_region 4 with fail
    go_cut [44] from 24 to 43 (fun t44 wx => w = wx ∧ t44 = .bool false)
    case first =>
      have hN0 : ((N : Int) == 0) = false :=by simp only [beq_eq_false_iff_ne];omega
      have hN4 : decide (400 < (N : Int)) = false :=decide_eq_false (by omega)
      cases z
      · go_wp2_with fail
        go_meet
        exact ⟨rfl,by simp [hN0,hN4]⟩
      · obtain ⟨rfl,rfl⟩ :=hz rfl
        have hng2 : ng = false :=by rw [← hng];rfl
        subst hng2
        go_wp2_with fail
        go_meet
        exact ⟨rfl,by simp⟩
    case rest =>
      obtain ⟨rfl,rfl⟩ :=hcut
      clear hz hz0 hb0
      go_wp2_with fail
      go_loopw [5,6] (fun t5 t6 wx => ∃ (i : Nat) (s5 : Option Addr) (c5 n5 : Nat) (xs : List Nat),i ≤ N ∧ t6 = .int .i64 i ∧ t5 = .slice s5 n5 c5 ∧ xs.length = n5 ∧ n5 ≤ i ∧ Sl .u64 w wx s5 c5 xs ∧ Lt B32 xs ∧ val B32 xs = readD (D.take i) ∧ Kept w wx) (fun _ t6 _ => N - (intOf t6).toNat)
      case atStart => exact ⟨0,none,0,0,[],Nat.zero_le _,rfl,rfl,rfl,Nat.le_refl _,Sl.start,Lt.nil,rfl,Chg.refl _ _⟩
      case round =>
        obtain ⟨i,s5,c5,n5,xs,hi,rfl,rfl,hn5,hni,hS,hlt,hv,hK⟩ :=hrel
        by_cases hiN : i < N
        · have HA :=Lib.hid (And.intro hS (And.intro hlt (And.intro hv hK)))
          clear hS hlt hv hK
          go_upto_block 2 with fail
          go_cut [6,7,8] from 49 to 78 (fun t6 t7 t8 wx => wr = wx ∧ ∃ (k n0 p : Nat),1 ≤ k ∧ k ≤ 9 ∧ i + k ≤ N ∧ t6 = .int .i64 (i + k : Nat) ∧ n0 = readD ((D.drop i).take k) ∧ p = 10 ^ k ∧ t7 = .int .u64 n0 ∧ t8 = .int .u64 p)
          case first =>
            go_wp2_with fail
            go_loop [6,7,8] (fun t6 t7 t8 => ∃ (k n0 p : Nat),k ≤ 9 ∧ i + k ≤ N ∧ t6 = .int .i64 (i + k : Nat) ∧ n0 = readD ((D.drop i).take k) ∧ p = 10 ^ k ∧ t7 = .int .u64 n0 ∧ t8 = .int .u64 p) (fun t6 _ _ => i + 9 - (intOf t6).toNat)
            case atStart => exact ⟨0,0,1,by decide,hi,rfl,rfl,rfl,rfl,rfl⟩
            case round =>
              obtain ⟨k,n0,p,hk,hik,rfl,hn0,hp,rfl,rfl⟩ :=hrel
              have hp9 : p ≤ 1000000000 :=by rw [hp];exact Nat.pow_le_pow_right (n :=10) (by decide) hk
              have hnp : n0 < p :=by
                rw [hn0,hp]
                have :=readD_lt ((D.drop i).take k) fun c hc => hDr c (List.mem_of_mem_drop (List.mem_of_mem_take hc))
                rwa [List.length_take,List.length_drop,Nat.min_eq_left (by omega)] at this
              have hk0 : k = 0 ∨ 1 ≤ k :=by omega
              obtain ⟨t,ht⟩ : ∃ t,i + k = t :=⟨_,rfl⟩
              rw [ht]
              by_cases hlt : t < N ∧ k < 9
              · obtain ⟨ht1,hk9⟩ :=hlt
                have hp8 : p ≤ 100000000 :=by rw [hp];exact Nat.pow_le_pow_right (n :=10) (j :=8) (by decide) (by omega)
                have hpi : (p : Int) < 1000000000 :=by omega
                have gx : D[t]? = some D[t] :=List.getElem?_eq_getElem (by omega)
                have hx :=hDr _ (List.getElem_mem (by omega : t < D.length))
                have hnx : readD ((D.drop i).take (k + 1)) = n0 * 10 + (D[t] - 48) :=by
                  rw [readD_take (x :=D[t]) (by rw [List.getElem?_drop,ht];exact gx),← hn0]
                generalize D[t] = x at gx hx hnx
                have hgx :=HG.out t x gx
                have hidx : ∀ W,(Instr.index 9 (.string s) (.int .i64 (t : Int))).run Tryz.prog W = .ok (.int .u8 (x : Int)) W :=fun W => str_index s t x W (by omega) hgx
                clear hgx
                obtain ⟨P,hP⟩ : ∃ P : Int,(p : Int) = P :=⟨_,rfl⟩
                obtain ⟨M,hM⟩ : ∃ M : Int,(n0 : Int) = M :=⟨_,rfl⟩
                rw [hP,hM]
                have hpI : P ≤ 100000000 :=by omega
                have hp0 : 0 ≤ P :=by omega
                have hnI : M < 100000000 :=by omega
                have hn0' : 0 ≤ M :=by omega
                have hx1 : (48 : Int) ≤ x :=by omega
                have hx2 : (x : Int) ≤ 57 :=by omega
                have HN :=Lib.hid (And.intro hn0 (And.intro hp (And.intro hnx (And.intro hk0 (And.intro hp8 (And.intro hnp (And.intro hp9 (And.intro hx (And.intro hP hM)))))))))
                clear hn0 hp hnx hk0 hp8 hnp hp9 hx hP hM hpi
                go_wp2_with fail
                go_round
                case rel =>
                  obtain ⟨hn0,hp,hnx,hk0,hp8,hnp,hp9,hx,hP,hM⟩ :=HN.out
                  refine ⟨k + 1,n0 * 10 + (x - 48),p * 10,by omega,by omega,by rw [← ht];go_num,hnx.symm,by rw [hp,Nat.pow_succ],?_,?_⟩
                  · rw [← hM];congr 1;omega
                  · rw [← hP];congr 1
                case measure => simp [intOf];omega
              · obtain ⟨P,hP⟩ : ∃ P : Int,(p : Int) = P :=⟨_,rfl⟩
                obtain ⟨M,hM⟩ : ∃ M : Int,(n0 : Int) = M :=⟨_,rfl⟩
                rw [hP,hM]
                have hk1 : 1 ≤ k :=by omega
                have HN :=Lib.hid (And.intro hn0 (And.intro hp (And.intro hP (And.intro hM (And.intro hk hik)))))
                by_cases htN : t < N
                · have hk9 : k = 9 :=by omega
                  have hpI : ¬ P < 1000000000 :=by rw [← hP,hp,hk9];decide
                  clear hn0 hp hnp hp9 hP hM
                  go_wp2_with fail
                  go_meet
                  obtain ⟨hn0,hp,hP,hM,hk,hik⟩ :=HN.out
                  exact ⟨rfl,k,n0,p,hk1,hk,hik,by rw [ht],hn0,hp,by rw [hM],by rw [hP]⟩
                · clear hn0 hp hnp hp9 hP hM
                  go_wp2_with fail
                  go_meet
                  obtain ⟨hn0,hp,hP,hM,hk,hik⟩ :=HN.out
                  exact ⟨rfl,k,n0,p,hk1,hk,hik,by rw [ht],hn0,hp,by rw [hM],by rw [hP]⟩
          case rest =>
            obtain ⟨rfl,k,n0,p,hk1,hk9,hik,rfl,hn0,hp,rfl,rfl⟩ :=hcut
            have hp9 : p ≤ 1000000000 :=by rw [hp];exact Nat.pow_le_pow_right (n :=10) (j :=9) (by decide) hk9
            have hnp : n0 < p :=by
              rw [hn0,hp]
              have :=readD_lt ((D.drop i).take k) fun c hc => hDr c (List.mem_of_mem_drop (List.mem_of_mem_take hc))
              rwa [List.length_take,List.length_drop,Nat.min_eq_left (by omega)] at this
            have hread : readD (D.take (i + k)) = readD (D.take i) * p + n0 :=by
              rw [List.take_add,readD_append,← hn0,List.length_take,List.length_drop,Nat.min_eq_left (by omega),← hp]
            obtain ⟨hS,hlt,hv,hK⟩ :=HA.out
            obtain ⟨t,ht⟩ : ∃ t,i + k = t :=⟨_,rfl⟩
            rw [ht] at hread hik ⊢
            have HN :=Lib.hid (And.intro hlt (And.intro hv (And.intro hn0 (And.intro hp (And.intro hp9 hread)))))
            have hit : i < t :=by omega
            clear hn0 hp hread hv hlt HA
            obtain ⟨P,hP⟩ : ∃ P : Int,(p : Int) = P :=⟨_,rfl⟩
            rw [hP]
            go_upto_block 4 with fail
            go_cut [7,81] from 82 to 105 (fun t7 t81 wx => ∃ (ys : List Nat) (c : Nat),t7 = .int .u64 c ∧ c < p ∧ ys.length = n5 ∧ Lt B32 ys ∧ val B32 ys + B32 ^ n5 * c = val B32 xs * p + n0 ∧ Sl .u64 w wx s5 c5 ys ∧ Kept w wx)
            case first =>
              have HM :=Lib.hid hnp
              clear hnp
              go_wp2_with fail
              go_loopw [7,81] (fun t7 t81 wx => ∃ (ys : List Nat) (c j : Nat),j ≤ n5 ∧ t81 = .int .i64 j ∧ t7 = .int .u64 c ∧ c < p ∧ ys.length = j ∧ Lt B32 ys ∧ val B32 ys + B32 ^ j * c = val B32 (xs.take j) * p + n0 ∧ Sl .u64 w wx s5 c5 (ys ++ xs.drop j) ∧ Kept w wx) (fun _ t81 _ => n5 - (intOf t81).toNat)
              case atStart => exact ⟨[],n0,0,Nat.zero_le _,rfl,rfl,HM.out,rfl,Lt.nil,by simp [val],hS,hK⟩
              case round =>
                clear hS hK
                obtain ⟨ys,c,j,hj,rfl,rfl,hc,hyl,hly,hyv,hS,hK⟩ :=hrel
                by_cases hjn : j < n5
                · have gx : xs[j]? = some xs[j] :=List.getElem?_eq_getElem (by omega)
                  have hxl : xs[j] < B32 :=HN.out.1 _ (List.getElem_mem _)
                  have hdr : xs.drop j = xs[j] :: xs.drop (j + 1) :=List.drop_eq_getElem_cons (by omega)
                  have htk : val B32 (xs.take (j + 1)) = val B32 (xs.take j) + B32 ^ j * xs[j] :=val_take_succ (by omega)
                  generalize xs[j] = x at gx hxl hdr htk
                  have hs5 : ∃ g,s5 = some ⟨g,0,none⟩ ∧ w.heap.size ≤ g ∧ g < wr.heap.size ∧ OutK .u64 wr g 0 c5 (ys ++ xs.drop j) :=by
                    cases s5 with
                    | none => have :=(hS.nil rfl).1;rw [hdr] at this;simp at this
                    | some a => obtain ⟨g,rfl,h⟩ :=hS.own a rfl;exact ⟨g,rfl,h⟩
                  obtain ⟨g,rfl,hg0,hg1,hO⟩ :=hs5
                  have hcx :=hO.row j x (by rw [hdr,List.getElem?_append_right (by omega),hyl,Nat.sub_self];rfl)
                  have hfx :=(hO.room j (by have :=hO.le;simp at this;omega)).2
                  have hjc : j < c5 :=by have :=hO.le;simp at this;omega
                  obtain ⟨hn1,hn2⟩ :=mul_digit hxl hc HN.out.2.2.2.2.1
                  obtain ⟨n,hn⟩ : ∃ n,c + x * p = n :=⟨_,rfl⟩
                  rw [hn] at hn1 hn2
                  obtain ⟨C,hC⟩ : ∃ C : Int,(c : Int) = C :=⟨_,rfl⟩
                  obtain ⟨Y,hY⟩ : ∃ Y : Int,(x : Int) = Y :=⟨_,rfl⟩
                  obtain ⟨Q,hQ⟩ : ∃ Q : Int,((n % B32 : Nat) : Int) = Q :=⟨_,rfl⟩
                  have hCn : C + Y * P = (n : Int) :=by rw [← hC,← hY,← hP,← hn];push_cast;rfl
                  have hb1 : 0 ≤ Y * P :=by rw [← hY,← hP];exact Int.mul_nonneg (by omega) (by omega)
                  have hb0 : 0 ≤ C :=by omega
                  have hb2 : C + Y * P ≤ 18446744073709551615 :=by rw [hCn];unfold W64 at hn1;omega
                  have hb3 : Y * P ≤ 18446744073709551615 :=by omega
                  have hmask : bits .and .u64 (C + Y * P) 4294967295 = Q :=by rw [hCn,mask32 n hn1,hQ]
                  rw [hY] at hcx
                  rw [hC]
                  simp only [Nat.zero_add] at hcx hfx
                  have HH :=Lib.hid (And.intro hc (And.intro hn (And.intro hn1 (And.intro hn2 (And.intro hC (And.intro hY (And.intro hQ (And.intro hCn (And.intro hO (And.intro hdr (And.intro htk (And.intro hyv hxl))))))))))))
                  clear hc hn hn1 hn2 hC hY hQ hCn hO hdr htk hyv hxl gx
                  go_wp2_with fail
                  go_roundw
                  case rel =>
                    obtain ⟨hc,hn,hn1,hn2,hC,hY,hQ,hCn,hO,hdr,htk,hyv,hxl⟩ :=HH.out
                    refine ⟨ys ++ [n % B32],n / B32,j + 1,hjn,by go_num,?_,hn2,by simp [hyl],hly.snoc (Nat.mod_lt _ (by decide)),?_,?_,?_⟩
                    · rw [hCn];rfl
                    · rw [val_snoc,hyl,htk,Nat.pow_succ]
                      exact mul_limb hyv n hn.symm
                    · have :=hO.set (n % B32) (i :=j) (by rw [List.length_append,hdr];simp;omega)
                      rw [List.set_append_right _ _ (by omega),hyl,Nat.sub_self,hdr,List.set_cons_zero,Nat.zero_add,hQ] at this
                      rw [List.append_assoc]
                      exact Sl.of hg0 (Nat.lt_of_lt_of_le hg1 (Chg.setCell _ g j _ (fun p _ => p = g) fun _ => rfl).size) this hS.cap
                    · exact hK.keptNew (Chg.setCell _ g j _ (fun p _ => p = g) fun _ => rfl) fun p _ h => by omega
                  case measure => simp [intOf];omega
                · obtain rfl : j = n5 :=by omega
                  rw [List.drop_of_length_le (by omega),List.append_nil] at hS
                  rw [List.take_of_length_le (by omega)] at hyv
                  have HH :=Lib.hid (And.intro hc hyv)
                  clear hc hyv
                  obtain ⟨C,hC⟩ : ∃ C : Int,(c : Int) = C :=⟨_,rfl⟩
                  rw [hC]
                  have HC :=Lib.hid hC
                  clear hC
                  go_wp2_with fail
                  go_meet
                  exact ⟨ys,c,by rw [HC.out],HH.out.1,hyl,hly,HH.out.2,hS,hK⟩
            case rest =>
              obtain ⟨ys,c,rfl,hc,hyl,hly,hyv,hS',hK'⟩ :=hcut
              obtain ⟨_,hv,_,_,_,hread⟩ :=HN.out
              have hcB : c < B32 :=by have :=HN.out.2.2.2.2.1;unfold B32;omega
              have hval : val B32 ys + B32 ^ n5 * c = readD (D.take t) :=by rw [hread,← hv,hyv]
              have hsl :=hK'.size
              clear hS hK hyv hread hv hc
              rcases Nat.eq_zero_or_pos c with rfl | hcp
              · have HH :=Lib.hid hval
                clear hval
                go_wp2_with fail
                go_roundw
                case rel => exact ⟨t,s5,c5,n5,ys,hik,rfl,rfl,hyl,by omega,hS',hly,by have :=HH.out;simpa using this,hK'⟩
                case measure => simp [intOf];omega
              · obtain ⟨C,hC⟩ : ∃ C : Int,(c : Int) = C :=⟨_,rfl⟩
                rw [hC]
                have hC0 : 0 < C :=by omega
                have hCc : C.toNat = c :=by omega
                have HC :=Lib.hid (And.intro hC (And.intro hCc (And.intro hcp (And.intro hval (And.intro hcB hly)))))
                clear hC hCc hcp hval hcB hly
                go_wp2_with (at_builtin;refine wp_gapp1 T106 (w0 :=w) rfl (.tmp 102) (.tmp 104) rfl rfl rfl rfl hS' hsl hyl (by omega) (by omega) ?_;intro s4 c4 w4 hS4 hC4 hD4)
                go_roundw
                case rel =>
                  obtain ⟨hC,hCc,hcp,hval,hcB,hly⟩ :=HC.out
                  rw [hCc] at hS4
                  refine ⟨t,s4,c4,n5 + 1,ys ++ [c],hik,rfl,rfl,by simp [hyl],by omega,hS4,hly.snoc hcB,by rw [val_snoc,hyl,hval],hK'.trans hC4 fun b o hb h => ?_⟩
                  obtain ⟨a,ha,rfl⟩ :=h
                  have :=(hS'.lt ha).1
                  omega
                case measure => simp [intOf];omega
        · obtain rfl : i = N :=by omega
          rw [List.take_of_length_le (by omega),hDv] at hv
          have HV :=Lib.hid (And.intro hv hlt)
          clear hv hDv hDr HG
          go_wp2_with fail
          go_loopw [10,108] (fun t10 t108 wx => ∃ (j : Nat) (s10 : Option Addr) (c10 n10 : Nat) (ws : List Nat),j ≤ n5 ∧ t108 = .int .i64 j ∧ t10 = .slice s10 n10 c10 ∧ ws.length = n10 ∧ Joined xs ws j ∧ Sl .u64 w wx s10 c10 ws ∧ Sl .u64 w wx s5 c5 xs ∧ (∀ a a',s5 = some a → s10 = some a' → a.block ≠ a'.block) ∧ Kept w wx) (fun _ t108 _ => n5 - (intOf t108).toNat)
          case atStart => exact ⟨0,none,0,0,[],Nat.zero_le _,rfl,rfl,rfl,⟨rfl,Lt.nil,rfl,(fun h => by simp at h)⟩,Sl.start,hS,(fun _ _ _ h => by cases h),hK⟩
          case round =>
            clear hS hK
            obtain ⟨j,s10,c10,n10,ws,hj,rfl,rfl,hw10,hJ,hS10,hS,hne,hK⟩ :=hrel
            have HN10 :=Lib.hid (hw10.symm.trans hJ.1)
            have hnb : n10 ≤ 400 :=by have :=HN10.out;omega
            by_cases hjn : j < n5
            · have gx : xs[j]? = some xs[j] :=List.getElem?_eq_getElem (by omega)
              have hxl : xs[j] < B32 :=HV.out.2 _ (List.getElem_mem _)
              generalize xs[j] = x at gx hxl
              have hs5 : ∃ g,s5 = some ⟨g,0,none⟩ ∧ OutK .u64 wr g 0 c5 xs :=by
                cases s5 with
                | none => have :=(hS.nil rfl).1;rw [this] at gx;simp at gx
                | some a => obtain ⟨g,rfl,_,_,h⟩ :=hS.own a rfl;exact ⟨g,rfl,h⟩
              obtain ⟨g,rfl,hO⟩ :=hs5
              have hcx :=hO.row j x gx
              have hjc : j < c5 :=by have :=hO.le;omega
              simp only [Nat.zero_add] at hcx
              rcases Nat.mod_two_eq_zero_or_one j with h2 | h2
              · have hJ2 :=hJ.even h2 gx hxl
                have hj2 : ((j : Int) % 2 == 0) = true :=by simp;omega
                have HH :=Lib.hid (And.intro hJ2 (And.intro hxl gx))
                have hsl :=hK.size
                clear hJ hJ2 hxl gx hO
                go_wp2_with (at_builtin;refine wp_gapp1 T108 (w0 :=w) rfl (.tmp 114) (.tmp 119) rfl rfl rfl rfl hS10 hsl hw10 (by omega) (by omega) ?_;intro s4 c4 w4 hS4 hC4 hD4)
                go_roundw
                case rel =>
                  obtain ⟨hJ2,hxl,gx⟩ :=HH.out
                  rw [Int.toNat_natCast] at hS4
                  refine ⟨j + 1,s4,c4,n10 + 1,ws ++ [x],hjn,by go_num,rfl,by simp [hw10],hJ2,hS4,hS.chg hC4 ?_,?_,hK.trans hC4 ?_⟩
                  · intro a ha o h
                    obtain ⟨a',ha',hb⟩ :=h
                    exact hne _ _ ha ha' hb.symm
                  · intro a a' ha ha' e
                    rcases hD4 with rfl | h
                    · exact hne _ _ ha ha' e
                    · have h1 :=h a' ha'
                      have h2 :=(hS.lt ha).2
                      omega
                  · intro b o hb h
                    obtain ⟨a,ha,rfl⟩ :=h
                    have :=(hS10.lt ha).1
                    omega
                case measure => simp [intOf];omega
              · obtain ⟨a,ha,hab⟩ :=hJ.2.2.2 h2
                have hJ2 :=hJ.odd h2 gx hxl ha hab
                obtain ⟨m,hm⟩ : ∃ m,j / 2 = m :=⟨_,rfl⟩
                rw [hm] at ha hJ2
                have hjm : (j : Int) / 2 = (m : Int) :=by omega
                have hj2 : ((j : Int) % 2 == 0) = false :=by simp;omega
                have hs10 : ∃ g,s10 = some ⟨g,0,none⟩ ∧ w.heap.size ≤ g ∧ g < wr.heap.size ∧ OutK .u64 wr g 0 c10 ws :=by
                  cases s10 with
                  | none => have :=(hS10.nil rfl).1;rw [this] at ha;simp at ha
                  | some a => obtain ⟨g,rfl,h⟩ :=hS10.own a rfl;exact ⟨g,rfl,h⟩
                obtain ⟨g2,rfl,hg0,hg1,hO2⟩ :=hs10
                have hml :=(List.getElem?_eq_some_iff.1 ha).1
                have hca :=hO2.row m a ha
                have hfa :=(hO2.room m (by have :=hO2.le;omega)).2
                have hO3 :=hO2.set (a + B32 * x) hml
                simp only [Nat.zero_add] at hca hfa hO3
                have hor : bits .or .u64 (a : Int) ((x : Int) * 4294967296) = ((a + B32 * x : Nat) : Int) :=by
                  have :=or_u64 a (x * B32) (by unfold B32 at hab;omega) (by unfold B32 at *;omega)
                  rw [Nat.or_comm,or_low hab,Nat.add_comm,Nat.mul_comm x B32] at this
                  rw [← this,Nat.mul_comm B32 x]
                  rfl
                obtain ⟨Y,hY⟩ : ∃ Y : Int,(x : Int) = Y :=⟨_,rfl⟩
                obtain ⟨A,hA⟩ : ∃ A : Int,(a : Int) = A :=⟨_,rfl⟩
                obtain ⟨Q,hQ⟩ : ∃ Q : Int,((a + B32 * x : Nat) : Int) = Q :=⟨_,rfl⟩
                rw [hQ] at hor hO3
                rw [hY] at hcx hor
                rw [hA] at hca hor
                have hY0 : 0 ≤ Y :=by omega
                have hY1 : Y ≤ 4294967295 :=by unfold B32 at hxl;omega
                have hmn : m < n10 :=by have :=HN10.out;omega
                have hmc : m < c10 :=by have :=hO2.le;omega
                have hgg : g ≠ g2 :=hne _ _ rfl rfl
                have HH :=Lib.hid (And.intro hJ2 (And.intro hO3 hm))
                clear hJ hJ2 hxl gx hO hO2 hO3 hQ hY hA ha hab h2 hm
                go_wp2_with (first
                  | (refine wp_region_lit_segs (id :=30) [[0,1,2,3,4,5,6,7,8,9,10,11,12]] mixed (by kernel_rfl) ?_;simp only [wpSegsL,gaC,gaN,lZ0,lS0,coS])
                  | refine ⟨by kernel_rfl,?_⟩)
                go_roundw
                case rel =>
                  obtain ⟨hJ2,hO3,hm⟩ :=HH.out
                  have kd : Kept wr wr.drew :=(Chg.refl _ _).drew
                  have kc :=Chg.setCell wr.drew g2 m (.int .u64 Q) (fun p _ => p = g2) fun _ => rfl
                  have k2 : Chg wr (wr.drew.setCell ⟨g2,m,none⟩ (.int .u64 Q)) (fun p _ => p = g2) :=(kd.any _).trans kc fun _ _ _ h => h
                  refine ⟨j + 1,_,c10,n10,ws.set m (a + B32 * x),hjn,by go_num,rfl,by simp [hw10],hJ2,?_,?_,fun a a' h1 h2 => ?_,?_⟩
                  · exact Sl.of hg0 (Nat.lt_of_lt_of_le hg1 k2.size) (hO3.kept ((Chg.refl _ _).drew)) hS10.cap
                  · exact hS.chg k2 fun a ha o h => by obtain rfl :=Option.some.inj ha;exact hgg h
                  · obtain rfl :=Option.some.inj h1;obtain rfl :=Option.some.inj h2;exact hgg
                  · exact hK.keptNew k2 fun p _ h => by omega
                case measure => simp [intOf];omega
            · obtain rfl : j = n5 :=by omega
              have hjv :=hJ.2.2.1
              rw [List.take_of_length_le (by omega),HV.out.1] at hjv
              have hjl :=hJ.2.1
              have ka :=Chg.alloc wr (Obj.cells #[.bool false,.slice none 0 0] 112) None2
              have hZ :=ZeroInt.made wr
              have hcap :=hS10.cap
              have hle :=hS10.le
              have hok : SlOk wr s10 c10 :=by
                cases s10 with
                | none => exact .inl ⟨rfl,(hS10.nil rfl).2⟩
                | some a =>
                  obtain ⟨g,rfl,h1,h2,h3⟩ :=hS10.own a rfl
                  exact .inr ⟨g,0,rfl,h3.room,h3.nf,h2⟩
              have hwd : Words wr s10 ws :=by
                cases s10 with
                | none => exact .inl (hS10.nil rfl).1
                | some a =>
                  obtain ⟨g,rfl,h1,h2,h3⟩ :=hS10.own a rfl
                  exact .inr ⟨g,0,rfl,h3.row⟩
              have hset :=int_setBits w (wr.alloc (Obj.cells #[.bool false,.slice none 0 0] 112)) (kt hK ka) wr.heap.size s10 n10 c10 ws hK.size hZ.neg hZ.abs hZ.nf (hwd.keep ka) hw10 (by unfold Big;omega) (by rw [← hw10];exact hle) (by unfold Big;simp only [maxLen] at hcap;omega) (hok.chg ka) hjl (fun a ha => by have :=hS10.lt ha;exact ⟨this.1,by omega⟩)
              rw [hjv] at hset
              have HR :=Lib.hid hng
              clear hjv hjl hZ hcap hle hok hwd hS10 hS hJ hK ka HV HS HN10 hw10 hng
              cases ng
              · go_wp2_with (go_at_call 85;refine hset.mono ?_;rintro r w1 ⟨rfl,q1,q2⟩)
                first | go_ret2 | refine ⟨_,results_tmp2 rfl _ _ _,?_⟩
                refine ⟨_,rfl,?_,q2⟩
                have hx : ((X.natAbs : Nat) : Int) = X :=by have :=of_decide_eq_false HR.out;omega
                rw [hx] at q1
                exact q1
              · have hx0 :=of_decide_eq_true HR.out
                have hx : -((X.natAbs : Nat) : Int) = X :=by omega
                have hneg :=fun W (h : IntN w W wr.heap.size ((X.natAbs : Nat) : Int)) (k : Kept w W) => int_neg_self w W k wr.heap.size _ h (by omega)
                rw [hx] at hneg
                go_wp2_with (first
                  | (go_at_call 85;refine hset.mono ?_;rintro r w1 ⟨rfl,q1,q2⟩)
                  | (go_at_call 86;refine (hneg _ q1 q2).mono ?_;rintro r w2 ⟨rfl,p1,p2⟩))
                first | go_ret2 | refine ⟨_,results_tmp2 rfl _ _ _,?_⟩
                exact ⟨_,rfl,p1,p2⟩
end Go.Proofs.YtfmmdamgcpiciaaGreatDoor
namespace Go.Proofs.YtfmmdamgcpiciaaGreatDoor
open Go Go.RowKit
theorem readD_chunk {D : List Nat} {b e : Nat} (hbe : b ≤ e) : readD (D.take e) = readD (D.take b) * 10 ^ ((D.drop b).take (e - b)).length + readD ((D.drop b).take (e - b)) :=by
  have : D.take e = D.take b ++ (D.drop b).take (e - b) :=by
    rw [← List.take_add]
    congr 1
    omega
  rw [this,readD_append]
def OfI (D : List Nat) (e : Nat) (zs : List Nat) : Prop :=Lt L9 zs ∧ val L9 zs + L9 ^ zs.length * readD (D.take e) = readD D
theorem OfI.step {D zs : List Nat} {e : Nat} (h : OfI D e zs) (he : e ≤ D.length) (hD : ∀ c ∈ D,48 ≤ c ∧ c ≤ 57) (he0 : 0 < e) : OfI D (e - 9) (zs ++ [readD ((D.drop (e - 9)).take (e - (e - 9)))]) :=by
  obtain ⟨h1,h2⟩ :=h
  have hc :=readD_chunk (D :=D) (b :=e - 9) (e :=e) (by omega)
  have hl : ((D.drop (e - 9)).take (e - (e - 9))).length = e - (e - 9) :=by rw [List.length_take,List.length_drop];omega
  have hlt :=readD_lt ((D.drop (e - 9)).take (e - (e - 9))) fun c hc => hD c (List.mem_of_mem_drop (List.mem_of_mem_take hc))
  rw [hl] at hc hlt
  have h9 : 10 ^ (e - (e - 9)) ≤ 10 ^ 9 :=Nat.pow_le_pow_right (by decide) (by omega)
  refine ⟨h1.snoc (Nat.lt_of_lt_of_le hlt h9),?_⟩
  rw [val_snoc,List.length_append,List.length_singleton,← h2,hc,Nat.pow_succ,Nat.add_assoc,Nat.mul_assoc,← Nat.mul_add]
  congr 2
  rcases Nat.lt_or_ge e 9 with h | h
  · have : e - 9 = 0 :=by omega
    rw [this]
    simp [readD]
  · rw [show e - (e - 9) = 9 by omega,Nat.mul_comm (readD (D.take (e - 9))),Nat.add_comm]
theorem natOf (w : World) (D : List Nat) (hD : ∀ c ∈ D,48 ≤ c ∧ c ≤ 57) (hne : D ≠ []) (hl : D.length ≤ 1000) : Calls Tryz.prog 50 #[str D] w fun r w' => (∃ v,r = .returned (.tuple #[v,.bool true]) ∧ NV w' v (readD D)) ∧ Kept w w' :=by
  obtain ⟨N,hN⟩ : ∃ N,D.length = N :=⟨_,rfl⟩
  have hNp : 0 < N :=by rw [← hN];exact List.length_pos_iff.2 hne
  obtain ⟨s,hs⟩ : ∃ s,bs D = s :=⟨_,rfl⟩
  have hsz : s.size = N :=by rw [← hs,bs_size,hN]
  have hget : ∀ j x,D[j]? = some x → ∀ h : j < s.size,(s[j]'h).toNat = x :=by
    subst hs
    intro j x hj h
    exact bs_get hj (by have :=hD x (List.mem_of_getElem? hj);omega) h
  have hsne : s.toList.isEmpty = false :=by
    rw [← hs]
    obtain ⟨c,l,rfl⟩ :=List.exists_cons_of_ne_nil hne
    rw [bs,ByteArray.toList_mk]
    rfl
  rw [str_bs,hs]
  have HG :=Lib.hid (And.intro hget (And.intro hD hN))
  clear hs hget hD
  go_enter Tryz.func50,Tryz.ntmps50
  go_wp2
  go_loopw [4,5] (fun t4 t5 wx => ∃ (E : Int) (e n : Nat) (zs : List Nat) (s4 : Option Addr) (c4 : Nat),t5 = .int .i64 E ∧ -9 < E ∧ e = E.toNat ∧ e ≤ N ∧ t4 = .slice s4 n c4 ∧ zs.length = n ∧ n + e ≤ N + 9 ∧ Hid (OfI D e zs) ∧ Hid (Sl .u32 w wx s4 c4 zs) ∧ Kept w wx) (fun _ t5 _ => (intOf t5).toNat)
  case atStart => exact ⟨N,N,0,[],none,0,rfl,by omega,by omega,Nat.le_refl _,rfl,rfl,by omega,Lib.hid ⟨Lt.nil,by rw [List.take_of_length_le (by omega)];simp [val]⟩,Lib.hid Sl.start,Chg.refl _ _⟩
  case round =>
    obtain ⟨E,e,n,zs,s4,c4,rfl,hE9,he,heN,rfl,hzl,hne9,hI,hS,hK⟩ :=hrel
    rcases Nat.eq_zero_or_pos e with rfl | hep
    · have hE0 : ¬ 0 < E :=by omega
      have hv :=hI.out.2
      have hv2 : val L9 zs = readD D :=by simpa [readD] using hv
      have ht :=natTrim wr s4 n c4 zs hzl (by rw [← hzl];exact hS.out.le) hS.out.cap (by omega) (Rd.of_Sl hS.out) hI.out.1
      rw [hv2] at ht
      have HK :=Lib.hid hK
      clear hv hv2
      go_wp2_with (go_at_call 80;refine ht.mono ?_;rintro r w2 ⟨rfl,n',rfl,hD⟩)
      first | go_ret2 | refine ⟨_,results_tmp2 rfl _ _ _,?_⟩
      exact ⟨⟨_,by first | rfl | (show Ending.returned (.tuple #[.slice s4 n' c4,.bool (!s.toList.isEmpty)]) = _;rw [hsne];rfl),_,n',_,rfl,hD⟩,HK.out⟩
    · have hEe : E = (e : Int) :=by omega
      have hst :=hI.out.step (by rw [HG.out.2.2];exact heN) HG.out.2.1 hep
      obtain ⟨b,hb⟩ : ∃ b,e - 9 = b :=⟨_,rfl⟩
      rw [hb] at hst
      have hmx : max 0 (E - 9) = (b : Int) :=by omega
      have hE0 : 0 < E :=by omega
      have hE1 : E ≤ 1000 :=by omega
      have hbe : b < e :=by omega
      have HST :=Lib.hid (And.intro hst hb)
      have HE :=Lib.hid (And.intro hEe he)
      clear hst hb hEe he
      go_upto_block 2 with fail
      go_cut [6,7] from 17 to 39 (fun t6 t7 wx => wr = wx ∧ ∃ M : Int,t6 = .int .u32 M ∧ M = (readD ((D.drop b).take (e - b)) : Nat))
      case first =>
        go_wp2
        go_loop [6,7] (fun t6 t7 => ∃ (i m : Nat) (M : Int),t7 = .int .i64 i ∧ b ≤ i ∧ i ≤ e ∧ t6 = .int .u32 M ∧ Hid (M = m ∧ m = readD ((D.drop b).take (i - b)))) (fun _ t7 => e - (intOf t7).toNat)
        case atStart => exact ⟨b,0,0,rfl,Nat.le_refl _,by omega,rfl,Lib.hid ⟨rfl,by rw [Nat.sub_self];rfl⟩⟩
        case round =>
          obtain ⟨i,m,M,rfl,hbi,hie,rfl,hM⟩ :=hrel
          have M0 : 0 ≤ M :=by have :=hM.out.1;omega
          rcases Nat.lt_or_ge i e with hi | hi
          · have hiN : i < N :=by omega
            have hiE : (i : Int) < E :=by have :=HE.out.1;omega
            have hml : m < 10 ^ (i - b) :=by
              rw [hM.out.2]
              have :=readD_lt ((D.drop b).take (i - b)) fun c hc => HG.out.2.1 c (List.mem_of_mem_drop (List.mem_of_mem_take hc))
              rwa [List.length_take,List.length_drop,Nat.min_eq_left (by have :=HG.out.2.2;omega)] at this
            have h8 : 10 ^ (i - b) ≤ 10 ^ 8 :=Nat.pow_le_pow_right (by decide) (by have :=HST.out.2;omega)
            have M1 : M ≤ 99999999 :=by have :=hM.out.1;omega
            have gx : D[i]? = some D[i] :=List.getElem?_eq_getElem (by have :=HG.out.2.2;omega)
            have hx :=HG.out.2.1 _ (List.getElem_mem (by have :=HG.out.2.2;omega : i < D.length))
            have hnx : readD ((D.drop b).take (i - b + 1)) = m * 10 + (D[i] - 48) :=by
              rw [readD_take (x :=D[i]) (by rw [List.getElem?_drop,show b + (i - b) = i by omega];exact gx),← hM.out.2]
            generalize D[i] = x at gx hx hnx
            have hidx : ∀ W,(Instr.index 9 (.string s) (.int .i64 (i : Int))).run Tryz.prog W = .ok (.int .u8 (x : Int)) W :=fun W => str_index s i x W (by omega) (HG.out.1 i x gx)
            obtain ⟨A,eA⟩ : ∃ A : Int,(x : Int) = A :=⟨_,rfl⟩
            rw [eA] at hidx
            have A1 : 48 ≤ A :=by omega
            have A2 : A ≤ 57 :=by omega
            have HH :=Lib.hid (And.intro hnx (And.intro eA hx))
            clear hml h8 gx hx hnx eA
            go_wp2
            go_round
            case rel =>
              obtain ⟨hnx,eA,hx⟩ :=HH.out
              refine ⟨i + 1,m * 10 + (x - 48),_,by go_num,by omega,hi,rfl,Lib.hid ⟨?_,?_⟩⟩
              · rw [hM.out.1,← eA];omega
              · rw [show i + 1 - b = i - b + 1 by omega,hnx]
            case measure => simp [intOf];omega
          · obtain rfl : i = e :=by omega
            have hiE : ¬ (i : Int) < E :=by have :=HE.out.1;omega
            go_wp2
            go_meet
            exact ⟨rfl,M,rfl,by rw [hM.out.1,hM.out.2]⟩
      case rest =>
        obtain ⟨rfl,M,rfl,hM⟩ :=hcut
        have hlt :=HST.out.1.1
        have hM9 : (readD ((D.drop b).take (e - b))) < L9 :=hlt _ (by simp)
        have M0 : 0 ≤ M :=by omega
        have eM : M.toNat = readD ((D.drop b).take (e - b)) :=by omega
        have HM :=Lib.hid (And.intro eM hM9)
        clear hlt hM9 eM hM
        go_wp2_with (at_builtin;refine wp_gapp1 T26 (w0 :=w) rfl (.tmp 40) (.tmp 42) rfl rfl rfl rfl hS.out hK.size hzl (by omega) M0 ?_;intro s5 c5 w5 hS5 hC5 hD5)
        go_roundw
        case rel =>
          obtain ⟨eM,hM9⟩ :=HM.out
          rw [eM] at hS5
          have hst :=HST.out.1
          obtain ⟨hEe,he⟩ :=HE.out
          refine ⟨_,b,n + 1,_,s5,c5,rfl,by omega,by have :=HST.out.2;omega,by omega,rfl,by simp [hzl],by have :=HST.out.2;omega,Lib.hid hst,Lib.hid hS5,hK.trans hC5 fun b' o hb h => ?_⟩
          obtain ⟨a,ha,rfl⟩ :=h
          have :=(hS.out.lt ha).1
          omega
        case measure => simp [intOf];omega
end Go.Proofs.YtfmmdamgcpiciaaGreatDoor
namespace Go.Proofs.YtfmmdamgcpiciaaGreatDoor
open Go Go.RowKit
def WV (w : World) (v : Value) (Z : Int) : Prop :=∃ s n c,v = .agg #[.bool (decide (Z < 0)),.slice s n c] ∧ Dig w s n c Z.natAbs
theorem WV.kept {w w' : World} {v : Value} {Z : Int} (h : WV w v Z) (k : Kept w w') : WV w' v Z :=by
  obtain ⟨s,n,c,h1,h2⟩ :=h
  exact ⟨s,n,c,h1,h2.kept k⟩
abbrev Box28 (w : World) (x y : Value) : World :=w.alloc (.cells #[x,y] 28)
theorem slot28 (w : World) (x y : Value) : Slot (Box28 w x y) w.heap.size :=⟨⟨_,by rw [World.cell?_alloc_at _ _ _ _ rfl];rfl⟩,⟨_,by rw [World.cell?_alloc_at _ _ _ _ rfl];rfl⟩,NF.made w _ _⟩
theorem box28_0 (w : World) (x y : Value) : (Box28 w x y).cell? ⟨w.heap.size,0,none⟩ = some x :=by rw [World.cell?_alloc_at _ _ _ _ rfl];rfl
theorem box28_1 (w : World) (x y : Value) : (Box28 w x y).cell? ⟨w.heap.size,1,none⟩ = some y :=by rw [World.cell?_alloc_at _ _ _ _ rfl];rfl
theorem info28 : (Tryz.prog.info? 28).map (fun i => (i.zero,i.size,i.bytes)) = some (some (.agg #[.bool false,.slice none 0 0]),2,32) :=by kernel_rfl
theorem results_28 {fn : Func} {t r : Nat} {tmps : Array Value} {w : World} {x y : Value} (h : fn.results = #[.cell t 28]) (hp : tmps.getD t undef = ptr r) (h0 : w.cell? ⟨r,0,none⟩ = some x) (h1 : w.cell? ⟨r,1,none⟩ = some y) :
    (results fn tmps).run Tryz.prog w = .ok (.agg #[x,y]) w :=by
  obtain ⟨i0,hi,hz0,hz1,hz2⟩ :=info_parts info28
  have hp' : tmps[t]?.getD undef = ptr r :=by simpa using hp
  simp [results,h,hp',go_sem,hi,hz1,h0,h1]
def sgn (b : Bool) (X : Nat) : Int :=if b then -(X : Int) else X
theorem sgn_abs (b : Bool) (X : Nat) : (sgn b X).natAbs = X :=by unfold sgn;split <;> simp
theorem sgn_neg (b : Bool) (X : Nat) : decide (sgn b X < 0) = (b && decide (X ≠ 0)) :=by
  unfold sgn
  cases b
  · simp
  · rw [Bool.eq_iff_iff];simp;omega
theorem sgn_of (Z : Int) : sgn (decide (Z < 0)) Z.natAbs = Z :=by
  unfold sgn
  split
  · rename_i h;have :=of_decide_eq_true h;omega
  · rename_i h;have : ¬ Z < 0 :=fun h2 => h (decide_eq_true h2);omega
theorem wholeOf (w : World) (b : Bool) (v : Value) (X : Nat) (hv : NV w v X) : Calls Tryz.prog 35 #[.bool b,v] w fun r w' => (∃ v',r = .returned v' ∧ WV w' v' (sgn b X)) ∧ Kept w w' :=by
  obtain ⟨s,n,c,rfl,hd⟩ :=hv
  have hz :=hd.zero
  have S :=slot28 w (.bool false) (.slice none 0 0)
  obtain ⟨⟨u0,s0⟩,⟨u1,s1⟩,sf⟩ :=id S
  have f0 :=sf 0
  have f1 :=sf 1
  have k0 : Kept w (Box28 w (.bool false) (.slice none 0 0)) :=Chg.alloc _ _ _
  obtain ⟨W,hW⟩ : ∃ W,w.alloc (.cells #[.bool false,.slice none 0 0] 28) = W :=⟨_,rfl⟩
  simp only [Box28,hW] at S s0 s1 f0 f1 k0
  have hD :=hd.kept k0
  have fin : ∀ bb : Bool,bb = (b && decide (n ≠ 0)) → ∃ v',(.agg #[.bool bb,.slice s n c] : Value) = v' ∧ WV (put2 W w.heap.size (.bool bb) (.slice s n c)) v' (sgn b X) ∧ Kept w (put2 W w.heap.size (.bool bb) (.slice s n c)) :=by
    intro bb hb
    have kk : Kept w (put2 W w.heap.size (.bool bb) (.slice s n c)) :=k0.keptNew (put2_chg _ _ _ _) fun b _ h => by omega
    refine ⟨_,rfl,⟨s,n,c,?_,?_⟩,kk⟩
    · have e : decide (n ≠ 0) = decide (X ≠ 0) :=decide_eq_decide.2 (not_congr hz)
      rw [sgn_neg,hb,e]
    · rw [sgn_abs];exact hd.kept kk
  have s2 :=fun bb : Bool => cs_ne (u :=.bool bb) s1 (b' :=w.heap.size) (o' :=0) (by omega)
  have HF :=Lib.hid fin
  have HW :=Lib.hid hW
  clear fin hz hd hD k0 hW
  cases b
  · go_enter Tryz.func35,Tryz.ntmps35
    go_upto_region 1 with fail
    rw [HW.out]
    go_wp2
    obtain ⟨v',rfl,h1,h2⟩ :=HF.out false rfl
    exact bodyPost_ret (results_28 rfl rfl (put2_0 S _ _) (put2_1 S _ _)) rfl ⟨⟨_,rfl,h1⟩,h2⟩
  · rcases Nat.eq_zero_or_pos n with rfl | hn
    · go_enter Tryz.func35,Tryz.ntmps35
      go_upto_region 1 with fail
      rw [HW.out]
      go_wp2
      obtain ⟨v',rfl,h1,h2⟩ :=HF.out false rfl
      exact bodyPost_ret (results_28 rfl rfl (put2_0 S _ _) (put2_1 S _ _)) rfl ⟨⟨_,rfl,h1⟩,h2⟩
    · have hni : (n : Int) > 0 :=by omega
      have hb :=Lib.hid (show true = (true && decide (n ≠ 0)) by simp;omega)
      go_enter Tryz.func35,Tryz.ntmps35
      go_upto_region 1 with fail
      rw [HW.out]
      go_wp2
      obtain ⟨v',rfl,h1,h2⟩ :=HF.out true hb.out
      exact bodyPost_ret (results_28 rfl rfl (put2_0 S _ _) (put2_1 S _ _)) rfl ⟨⟨_,rfl,h1⟩,h2⟩
theorem Dig.set {w w' : World} {s : Option Addr} {n c X r : Nat} {b : Bool} (h : Dig w s n c X) (hr : w.cell? ⟨r,0,none⟩ = some (.bool b)) (kc : Chg w w' fun p _ => p = r) : Dig w' s n c X :=by
  obtain ⟨xs,h1,h2,h3,h4,h5,h6⟩ :=h
  refine ⟨xs,h1,h2,h3,h4,?_,h6⟩
  rcases h5 with h | ⟨g,rfl,h⟩
  · exact .inl h
  · rcases Nat.eq_zero_or_pos xs.length with h0 | h0
    · exact .inl (List.eq_nil_of_length_eq_zero h0)
    · refine .inr ⟨g,rfl,h.chg kc fun j _ e => ?_⟩
      have :=h 0 xs[0] (List.getElem?_eq_getElem h0)
      rw [e,Nat.zero_add,hr] at this
      cases this
theorem WV.set {w w' : World} {v : Value} {Z : Int} {r : Nat} {b : Bool} (h : WV w v Z) (hr : w.cell? ⟨r,0,none⟩ = some (.bool b)) (kc : Chg w w' fun p _ => p = r) : WV w' v Z :=by
  obtain ⟨s,n,c,h1,h2⟩ :=h
  exact ⟨s,n,c,h1,h2.set hr kc⟩
theorem sgn_minus (Z : Int) : sgn (!decide (Z < 0)) Z.natAbs = -Z :=by
  unfold sgn
  by_cases h : Z < 0
  · rw [decide_eq_true h];simp;omega
  · rw [decide_eq_false h];simp;omega
theorem WV.nv {w : World} {s : Option Addr} {n c : Nat} {b : Bool} {Z : Int} (h : WV w (.agg #[.bool b,.slice s n c]) Z) : b = decide (Z < 0) ∧ Dig w s n c Z.natAbs :=by
  obtain ⟨s',n',c',h1,h2⟩ :=h
  injection h1 with h1
  have h3 :=Array.mk.inj h1
  injection h3 with e1 e2
  injection e2 with e3 e4
  injection e1 with e1
  injection e3 with e3 e5 e6
  subst e1 e3 e5 e6
  exact ⟨rfl,h2⟩
theorem wholeMinus (w : World) (v : Value) (Z : Int) (hv : WV w v Z) : Calls Tryz.prog 10 #[v] w fun r w' => (∃ v',r = .returned v' ∧ WV w' v' (-Z)) ∧ Kept w w' :=by
  obtain ⟨s,n,c,rfl,hd⟩ :=hv
  obtain ⟨b,hb⟩ : ∃ b,decide (Z < 0) = b :=⟨_,rfl⟩
  have hneg :=sgn_minus Z
  rw [hb] at hneg ⊢
  have k1 : Kept w (Box28 w (.bool b) (.slice s n c)) :=Chg.alloc _ _ _
  have k2 : Kept (Box28 w (.bool b) (.slice s n c)) (Box28 (Box28 w (.bool b) (.slice s n c)) (.bool false) (.slice none 0 0)) :=Chg.alloc _ _ _
  have c0 :=Kept.at k2 (box28_0 w (.bool b) (.slice s n c))
  have c1 :=Kept.at k2 (box28_1 w (.bool b) (.slice s n c))
  have S0 :=slot28 (Box28 w (.bool b) (.slice s n c)) (.bool false) (.slice none 0 0)
  have r0 :=box28_0 (Box28 w (.bool b) (.slice s n c)) (.bool false) (.slice none 0 0)
  have e1 : (Box28 w (.bool b) (.slice s n c)).heap.size = w.heap.size + 1 :=by simp
  rw [e1] at S0 r0
  have hw :=wholeOf (Box28 (Box28 w (.bool b) (.slice s n c)) (.bool false) (.slice none 0 0)) (!b) (.slice s n c) Z.natAbs ⟨_,_,_,rfl,hd.kept (kt k1 k2)⟩
  rw [hneg] at hw
  have HK :=Lib.hid (kt k1 k2)
  clear hneg hb hd k1 k2
  obtain ⟨Y,hY⟩ : ∃ Y,-Z = Y :=⟨_,rfl⟩
  rw [hY] at hw ⊢
  go_enter Tryz.func10,Tryz.ntmps10
  go_wp2_with (go_at_call 35;refine hw.mono ?_;rintro r w1 ⟨⟨v1,rfl,s',n',c',rfl,hd1⟩,q1⟩;have S :=S0.kept q1;have r1 :=Kept.at q1 r0;obtain ⟨⟨u0,s0⟩,⟨u1,s1⟩,sf⟩ :=id S;have f0 :=sf 0;have f1 :=sf 1;have s2 :=cs_ne (u :=.bool (decide (Y < 0))) s1 (b' :=w.heap.size + 1) (o' :=0) (by omega))
  exact bodyPost_ret (results_28 rfl rfl (put2_0 S _ _) (put2_1 S _ _)) rfl ⟨⟨_,rfl,s',n',c',rfl,hd1.set r1 (put2_chg _ _ _ _)⟩,(kt HK.out q1).keptNew (put2_chg _ _ _ _) fun b' _ h => by omega⟩
end Go.Proofs.YtfmmdamgcpiciaaGreatDoor
namespace Go.Proofs.YtfmmdamgcpiciaaGreatDoor
open Go Go.RowKit
structure Two28 (w W : World) (a0 a1 b0 b1 : Value) : Prop where
  k : Kept w W
  a0 : W.cell? ⟨w.heap.size,0,none⟩ = some a0
  a1 : W.cell? ⟨w.heap.size,1,none⟩ = some a1
  b0 : W.cell? ⟨w.heap.size + 1,0,none⟩ = some b0
  b1 : W.cell? ⟨w.heap.size + 1,1,none⟩ = some b1
  r0 : W.cell? ⟨w.heap.size + 2,0,none⟩ = some (.bool false)
  S : Slot W (w.heap.size + 2)
theorem two28 (w : World) (a0 a1 b0 b1 : Value) : Two28 w (((w.alloc (.cells #[a0,a1] 28)).alloc (.cells #[b0,b1] 28)).alloc (.cells #[.bool false,.slice none 0 0] 28)) a0 a1 b0 b1 :=by
  have k1 : Kept w (Box28 w a0 a1) :=Chg.alloc _ _ _
  have k2 : Kept (Box28 w a0 a1) (Box28 (Box28 w a0 a1) b0 b1) :=Chg.alloc _ _ _
  have k3 : Kept (Box28 (Box28 w a0 a1) b0 b1) (Box28 (Box28 (Box28 w a0 a1) b0 b1) (.bool false) (.slice none 0 0)) :=Chg.alloc _ _ _
  have e1 : (Box28 w a0 a1).heap.size = w.heap.size + 1 :=by simp
  have e2 : (Box28 (Box28 w a0 a1) b0 b1).heap.size = w.heap.size + 2 :=by simp
  have x0 :=box28_0 (Box28 w a0 a1) b0 b1
  have x1 :=box28_1 (Box28 w a0 a1) b0 b1
  have y0 :=box28_0 (Box28 (Box28 w a0 a1) b0 b1) (.bool false) (.slice none 0 0)
  have yS :=slot28 (Box28 (Box28 w a0 a1) b0 b1) (.bool false) (.slice none 0 0)
  rw [e1] at x0 x1
  rw [e2] at y0 yS
  exact ⟨kt k1 (kt k2 k3),Kept.at (kt k2 k3) (box28_0 w a0 a1),Kept.at (kt k2 k3) (box28_1 w a0 a1),Kept.at k3 x0,Kept.at k3 x1,y0,yS⟩
theorem Two28.keep {w W W' : World} {a0 a1 b0 b1 : Value} (h : Two28 w W a0 a1 b0 b1) (k : Kept W W') : Two28 w W' a0 a1 b0 b1 :=⟨kt h.k k,Kept.at k h.a0,Kept.at k h.a1,Kept.at k h.b0,Kept.at k h.b1,Kept.at k h.r0,h.S.kept k⟩
theorem sgn_mul (A B : Int) : sgn (decide (A < 0) != decide (B < 0)) (A.natAbs * B.natAbs) = A * B :=by
  rw [← Int.natAbs_mul]
  unfold sgn
  by_cases ha : A < 0 <;> by_cases hb : B < 0
  · rw [decide_eq_true ha,decide_eq_true hb]
    have :=Int.mul_nonneg_of_nonpos_of_nonpos (Int.le_of_lt ha) (Int.le_of_lt hb)
    simp;omega
  · rw [decide_eq_true ha,decide_eq_false hb]
    have :=Int.mul_nonpos_of_nonpos_of_nonneg (Int.le_of_lt ha) (by omega : 0 ≤ B)
    simp;omega
  · rw [decide_eq_false ha,decide_eq_true hb]
    have :=Int.mul_nonpos_of_nonneg_of_nonpos (by omega : 0 ≤ A) (Int.le_of_lt hb)
    simp;omega
  · rw [decide_eq_false ha,decide_eq_false hb]
    have :=Int.mul_nonneg (by omega : 0 ≤ A) (by omega : 0 ≤ B)
    simp;omega
abbrev Sm (X : Nat) : Prop :=X < L9 ^ 399999
theorem Dig.sm {w : World} {s : Option Addr} {n c X : Nat} (h : Dig w s n c X) (hs : Sm X) : n < 400000 :=by
  have :=h.len_le hs
  omega
theorem wholeMul (w : World) (v1 v2 : Value) (A B : Int) (h1 : WV w v1 A) (h2 : WV w v2 B) (hA : Sm A.natAbs) (hB : Sm B.natAbs) : Calls Tryz.prog 39 #[v1,v2] w fun r w' => (∃ v',r = .returned v' ∧ WV w' v' (A * B)) ∧ Kept w w' :=by
  obtain ⟨s1,n1,c1,rfl,d1⟩ :=h1
  obtain ⟨s2,n2,c2,rfl,d2⟩ :=h2
  have l1 :=d1.sm hA
  have l2 :=d2.sm hB
  clear hA hB
  have hs :=sgn_mul A B
  obtain ⟨a,ha⟩ : ∃ b,decide (A < 0) = b :=⟨_,rfl⟩
  obtain ⟨b,hb⟩ : ∃ b,decide (B < 0) = b :=⟨_,rfl⟩
  rw [ha,hb] at hs
  rw [ha,hb]
  have T :=two28 w (.bool a) (.slice s1 n1 c1) (.bool b) (.slice s2 n2 c2)
  obtain ⟨W,hW⟩ : ∃ W,((w.alloc (.cells #[.bool a,.slice s1 n1 c1] 28)).alloc (.cells #[.bool b,.slice s2 n2 c2] 28)).alloc (.cells #[.bool false,.slice none 0 0] 28) = W :=⟨_,rfl⟩
  rw [hW] at T
  have hmul : ∀ W',Kept W W' → Calls Tryz.prog 40 #[.slice s1 n1 c1,.slice s2 n2 c2] W' fun e w' => (∃ v,e = .returned v ∧ NV w' v (A.natAbs * B.natAbs)) ∧ Kept W' w' :=fun W' k => natMul W' s1 s2 n1 n2 c1 c2 _ _ (d1.kept (kt T.k k)) (d2.kept (kt T.k k)) (by omega) (by omega)
  have hwo : ∀ W' v,NV W' v (A.natAbs * B.natAbs) → Calls Tryz.prog 35 #[.bool (!(a == b)),v] W' fun r w' => (∃ v',r = .returned v' ∧ WV w' v' (A * B)) ∧ Kept W' w' :=fun W' v h => by
    have :=wholeOf W' (a != b) v _ h
    rw [hs] at this;exact this
  obtain ⟨Y,hY⟩ : ∃ Y,A * B = Y :=⟨_,rfl⟩
  rw [hY] at hwo ⊢
  have HW :=Lib.hid hW
  clear hs ha hb d1 d2 hY hW
  obtain ⟨q0,q1,q2,q3,q4,q5,q6⟩ :=id T
  go_enter Tryz.func39,Tryz.ntmps39
  go_upto_region 1 with fail
  rw [HW.out]
  go_wp2_with (first
    | (refine wp_region_lit_segs (id :=1) [[0,1,2,3,4,5,6,7,8,9],[10,11]] mixed (by kernel_rfl) ?_;simp only [wpSegsL,gaC,gaN,lZ0,lS0,coS])
    | refine ⟨by kernel_rfl,?_⟩
    | (refine ⟨by kernel_rfl,oldD kr,?_⟩)
    | (refine ⟨oldD kr,?_⟩)
    | (go_at_call 40;(with_reducible refine (hmul _ (Chg.refl _ _).drew).mono ?_);rintro r w1 ⟨⟨v1,rfl,n1⟩,p1⟩;have kr :=p1.of_drew;clear p1)
    | (go_at_call 35;(with_reducible refine (hwo _ _ n1).mono ?_);rintro r w2 ⟨⟨v3,rfl,s',n',c',rfl,hd1⟩,p2⟩;replace kr :=kt kr p2;have T2 :=T.keep kr;obtain ⟨⟨u0,s0⟩,⟨u1,s1'⟩,sf⟩ :=id T2.S;have f0 :=sf 0;have f1 :=sf 1;have s2' :=cs_ne (u :=.bool (decide (Y < 0))) s1' (b' :=w.heap.size + 2) (o' :=0) (by omega)))
  exact ⟨_,results_28 (r :=w.heap.size + 2) rfl rfl (put2_0 T2.S _ _) (put2_1 T2.S _ _),⟨s',n',c',rfl,hd1.set T2.r0 (put2_chg _ _ _ _)⟩,(kt T.k kr).keptNew (put2_chg _ _ _ _) fun b' _ h => by omega⟩
end Go.Proofs.YtfmmdamgcpiciaaGreatDoor
namespace Go.Proofs.YtfmmdamgcpiciaaGreatDoor
open Go Go.RowKit
theorem sgn_add_same (A B : Int) (h : decide (A < 0) = decide (B < 0)) : sgn (decide (A < 0)) (A.natAbs + B.natAbs) = A + B :=by
  unfold sgn
  by_cases ha : A < 0 <;> by_cases hb : B < 0 <;> simp [ha,hb] at h ⊢ <;> omega
theorem sgn_add_left (A B : Int) (h : decide (A < 0) ≠ decide (B < 0)) (hle : B.natAbs ≤ A.natAbs) : sgn (decide (A < 0)) (A.natAbs - B.natAbs) = A + B :=by
  unfold sgn
  by_cases ha : A < 0 <;> by_cases hb : B < 0 <;> simp [ha,hb] at h ⊢ <;> omega
theorem sgn_add_right (A B : Int) (h : decide (A < 0) ≠ decide (B < 0)) (hle : A.natAbs < B.natAbs) : sgn (decide (B < 0)) (B.natAbs - A.natAbs) = A + B :=by
  unfold sgn
  by_cases ha : A < 0 <;> by_cases hb : B < 0 <;> simp [ha,hb] at h ⊢ <;> omega
theorem wholeAdd_same (w : World) (v1 v2 : Value) (A B : Int) (h1 : WV w v1 A) (h2 : WV w v2 B) (hA : Sm A.natAbs) (hB : Sm B.natAbs) (hab : decide (A < 0) = decide (B < 0)) : Calls Tryz.prog 38 #[v1,v2] w fun r w' => (∃ v',r = .returned v' ∧ WV w' v' (A + B)) ∧ Kept w w' :=by
  obtain ⟨s1,n1,c1,rfl,d1⟩ :=h1
  obtain ⟨s2,n2,c2,rfl,d2⟩ :=h2
  have l1 :=d1.sm hA
  have l2 :=d2.sm hB
  clear hA hB
  obtain ⟨a,ha⟩ : ∃ b,decide (A < 0) = b :=⟨_,rfl⟩
  obtain ⟨b,hb⟩ : ∃ b,decide (B < 0) = b :=⟨_,rfl⟩
  have hs :=sgn_add_same A B hab
  rw [ha,hb] at hab
  rw [ha] at hs
  rw [ha,hb]
  have T :=two28 w (.bool a) (.slice s1 n1 c1) (.bool b) (.slice s2 n2 c2)
  obtain ⟨W,hW⟩ : ∃ W,((w.alloc (.cells #[.bool a,.slice s1 n1 c1] 28)).alloc (.cells #[.bool b,.slice s2 n2 c2] 28)).alloc (.cells #[.bool false,.slice none 0 0] 28) = W :=⟨_,rfl⟩
  rw [hW] at T
  have HW :=Lib.hid hW
  have hop : ∀ W',Kept W W' → Calls Tryz.prog 78 #[.slice s1 n1 c1,.slice s2 n2 c2] W' fun e w' => (∃ v,e = .returned v ∧ NV w' v (A.natAbs + B.natAbs)) ∧ Kept W' w' :=fun W' k => natAdd W' s1 s2 n1 n2 c1 c2 _ _ (d1.kept (kt T.k k)) (d2.kept (kt T.k k)) (by omega) (by omega)
  have hwo : ∀ W' v,NV W' v (A.natAbs + B.natAbs) → Calls Tryz.prog 35 #[.bool a,v] W' fun r w' => (∃ v',r = .returned v' ∧ WV w' v' (A + B)) ∧ Kept W' w' :=fun W' v h => by
    have :=wholeOf W' a v _ h
    rw [hs] at this;exact this
  obtain ⟨Y,hY⟩ : ∃ Y,A + B = Y :=⟨_,rfl⟩
  rw [hY] at hwo ⊢
  clear hs ha hb d1 d2 hY hW
  subst hab
  obtain ⟨q0,q1,q2,q3,q4,q5,q6⟩ :=id T
  go_enter Tryz.func38,Tryz.ntmps38
  go_upto_region 1 with fail
  rw [HW.out]
  go_wp2_with (first
    | (refine wp_region_lit_segs (id :=2) [[0,1,2,3,4,5,6],[7,8]] mixed (by kernel_rfl) ?_;simp only [wpSegsL,gaC,gaN,lZ0,lS0,coS])
    | refine ⟨by kernel_rfl,?_⟩
    | (refine ⟨by kernel_rfl,oldD kr,?_⟩)
    | (refine ⟨oldD kr,?_⟩)
    | (go_at_call 78;(with_reducible refine (hop _ (Chg.refl _ _).drew).mono ?_);rintro r w1 ⟨⟨v1,rfl,n1⟩,p1⟩;have kr :=p1.of_drew;clear p1)
    | (go_at_call 35;(with_reducible refine (hwo _ _ n1).mono ?_);rintro r w2 ⟨⟨v3,rfl,s',n',c',rfl,hd1⟩,p2⟩;replace kr :=kt kr p2;have T2 :=T.keep kr;obtain ⟨⟨u0,s0⟩,⟨u1,s1'⟩,sf⟩ :=id T2.S;have f0 :=sf 0;have f1 :=sf 1;have s2' :=cs_ne (u :=.bool (decide (Y < 0))) s1' (b' :=w.heap.size + 2) (o' :=0) (by omega)))
  first
    | exact ⟨_,results_28 (r :=w.heap.size + 2) rfl rfl (put2_0 T2.S _ _) (put2_1 T2.S _ _),⟨s',n',c',rfl,hd1.set T2.r0 (put2_chg _ _ _ _)⟩,(kt T.k kr).keptNew (put2_chg _ _ _ _) fun b' _ h => by omega⟩
    | exact bodyPost_ret (results_28 (r :=w.heap.size + 2) rfl rfl (put2_0 T2.S _ _) (put2_1 T2.S _ _)) rfl ⟨⟨_,rfl,s',n',c',rfl,hd1.set T2.r0 (put2_chg _ _ _ _)⟩,(kt T.k kr).keptNew (put2_chg _ _ _ _) fun b' _ h => by omega⟩
theorem wholeAdd_left (w : World) (v1 v2 : Value) (A B : Int) (h1 : WV w v1 A) (h2 : WV w v2 B) (hA : Sm A.natAbs) (hB : Sm B.natAbs) (hab : decide (A < 0) ≠ decide (B < 0)) (hle : B.natAbs ≤ A.natAbs) : Calls Tryz.prog 38 #[v1,v2] w fun r w' => (∃ v',r = .returned v' ∧ WV w' v' (A + B)) ∧ Kept w w' :=by
  obtain ⟨s1,n1,c1,rfl,d1⟩ :=h1
  obtain ⟨s2,n2,c2,rfl,d2⟩ :=h2
  have l1 :=d1.sm hA
  have l2 :=d2.sm hB
  clear hA hB
  obtain ⟨a,ha⟩ : ∃ b,decide (A < 0) = b :=⟨_,rfl⟩
  obtain ⟨b,hb⟩ : ∃ b,decide (B < 0) = b :=⟨_,rfl⟩
  have hs :=sgn_add_left A B hab hle
  rw [ha,hb] at hab
  rw [ha] at hs
  rw [ha,hb]
  have T :=two28 w (.bool a) (.slice s1 n1 c1) (.bool b) (.slice s2 n2 c2)
  obtain ⟨W,hW⟩ : ∃ W,((w.alloc (.cells #[.bool a,.slice s1 n1 c1] 28)).alloc (.cells #[.bool b,.slice s2 n2 c2] 28)).alloc (.cells #[.bool false,.slice none 0 0] 28) = W :=⟨_,rfl⟩
  rw [hW] at T
  have HW :=Lib.hid hW
  have hop : ∀ W',Kept W W' → Calls Tryz.prog 79 #[.slice s1 n1 c1,.slice s2 n2 c2] W' fun e w' => (∃ v,e = .returned v ∧ NV w' v (A.natAbs - B.natAbs)) ∧ Kept W' w' :=fun W' k => (natSub W' s1 s2 n1 n2 c1 c2 _ _ (d1.kept (kt T.k k)) (d2.kept (kt T.k k)) (by omega) (by omega)).mono fun r w' h => by obtain ⟨⟨v,e,n⟩,k⟩ :=h;exact ⟨⟨v,e,n.nv⟩,k⟩
  have hcm : ∀ W',Kept W W' → Calls Tryz.prog 77 #[.slice s1 n1 c1,.slice s2 n2 c2] W' fun e w' => e = .returned (.int .i64 (cmpI A.natAbs B.natAbs)) ∧ Kept W' w' :=fun W' k => natCmp W' s1 s2 n1 n2 c1 c2 _ _ (d1.kept (kt T.k k)) (d2.kept (kt T.k k))
  obtain ⟨z,hz⟩ : ∃ z,cmpI A.natAbs B.natAbs = z :=⟨_,rfl⟩
  have hzs : 0 ≤ z :=by rw [← hz];unfold cmpI;repeat' split <;> omega
  rw [hz] at hcm
  have hwo : ∀ W' v,NV W' v (A.natAbs - B.natAbs) → Calls Tryz.prog 35 #[.bool a,v] W' fun r w' => (∃ v',r = .returned v' ∧ WV w' v' (A + B)) ∧ Kept W' w' :=fun W' v h => by
    have :=wholeOf W' a v _ h
    rw [hs] at this;exact this
  obtain ⟨Y,hY⟩ : ∃ Y,A + B = Y :=⟨_,rfl⟩
  rw [hY] at hwo ⊢
  clear hs ha hb d1 d2 hY hW hle hz
  have hab2 : (a == b) = false :=by simpa using hab
  clear hab
  obtain ⟨q0,q1,q2,q3,q4,q5,q6⟩ :=id T
  go_enter Tryz.func38,Tryz.ntmps38
  go_upto_region 1 with fail
  rw [HW.out]
  go_wp2_with (first
    | (refine wp_region_lit_segs (id :=4) [[0,1,2,3,4,5,6],[7,8]] mixed (by kernel_rfl) ?_;simp only [wpSegsL,gaC,gaN,lZ0,lS0,coS])
    | refine ⟨by kernel_rfl,?_⟩
    | (refine ⟨by kernel_rfl,oldD kr,?_⟩)
    | (refine ⟨oldD kr,?_⟩)
    | (go_at_call 77;(with_reducible refine (hcm _ (Chg.refl _ _)).mono ?_);rintro r w0 ⟨rfl,p0⟩;have T1 :=T.keep p0;obtain ⟨g0,g1,g2,g3,g4,g5,g6⟩ :=id T1)
    | (go_at_call 79;(with_reducible refine (hop _ (kt p0 (Chg.refl _ _).drew)).mono ?_);rintro r w1 ⟨⟨v1,rfl,n1⟩,p1⟩;have kr :=p1.of_drew;clear p1)
    | (go_at_call 35;(with_reducible refine (hwo _ _ n1).mono ?_);rintro r w2 ⟨⟨v3,rfl,s',n',c',rfl,hd1⟩,p2⟩;replace kr :=kt kr p2;have T2 :=T.keep (kt p0 kr);obtain ⟨⟨u0,s0⟩,⟨u1,s1'⟩,sf⟩ :=id T2.S;have f0 :=sf 0;have f1 :=sf 1;have s2' :=cs_ne (u :=.bool (decide (Y < 0))) s1' (b' :=w.heap.size + 2) (o' :=0) (by omega)))
  first
    | exact ⟨_,results_28 (r :=w.heap.size + 2) rfl rfl (put2_0 T2.S _ _) (put2_1 T2.S _ _),⟨s',n',c',rfl,hd1.set T2.r0 (put2_chg _ _ _ _)⟩,(kt T.k (kt p0 kr)).keptNew (put2_chg _ _ _ _) fun b' _ h => by omega⟩
    | exact bodyPost_ret (results_28 (r :=w.heap.size + 2) rfl rfl (put2_0 T2.S _ _) (put2_1 T2.S _ _)) rfl ⟨⟨_,rfl,s',n',c',rfl,hd1.set T2.r0 (put2_chg _ _ _ _)⟩,(kt T.k (kt p0 kr)).keptNew (put2_chg _ _ _ _) fun b' _ h => by omega⟩
theorem wholeAdd_right (w : World) (v1 v2 : Value) (A B : Int) (h1 : WV w v1 A) (h2 : WV w v2 B) (hA : Sm A.natAbs) (hB : Sm B.natAbs) (hab : decide (A < 0) ≠ decide (B < 0)) (hle : A.natAbs < B.natAbs) : Calls Tryz.prog 38 #[v1,v2] w fun r w' => (∃ v',r = .returned v' ∧ WV w' v' (A + B)) ∧ Kept w w' :=by
  obtain ⟨s1,n1,c1,rfl,d1⟩ :=h1
  obtain ⟨s2,n2,c2,rfl,d2⟩ :=h2
  have l1 :=d1.sm hA
  have l2 :=d2.sm hB
  clear hA hB
  obtain ⟨a,ha⟩ : ∃ b,decide (A < 0) = b :=⟨_,rfl⟩
  obtain ⟨b,hb⟩ : ∃ b,decide (B < 0) = b :=⟨_,rfl⟩
  have hs :=sgn_add_right A B hab hle
  rw [ha,hb] at hab
  rw [hb] at hs
  rw [ha,hb]
  have T :=two28 w (.bool a) (.slice s1 n1 c1) (.bool b) (.slice s2 n2 c2)
  obtain ⟨W,hW⟩ : ∃ W,((w.alloc (.cells #[.bool a,.slice s1 n1 c1] 28)).alloc (.cells #[.bool b,.slice s2 n2 c2] 28)).alloc (.cells #[.bool false,.slice none 0 0] 28) = W :=⟨_,rfl⟩
  rw [hW] at T
  have HW :=Lib.hid hW
  have hop : ∀ W',Kept W W' → Calls Tryz.prog 79 #[.slice s2 n2 c2,.slice s1 n1 c1] W' fun e w' => (∃ v,e = .returned v ∧ NV w' v (B.natAbs - A.natAbs)) ∧ Kept W' w' :=fun W' k => (natSub W' s2 s1 n2 n1 c2 c1 _ _ (d2.kept (kt T.k k)) (d1.kept (kt T.k k)) (by omega) (by omega)).mono fun r w' h => by obtain ⟨⟨v,e,n⟩,k⟩ :=h;exact ⟨⟨v,e,n.nv⟩,k⟩
  have hcm : ∀ W',Kept W W' → Calls Tryz.prog 77 #[.slice s1 n1 c1,.slice s2 n2 c2] W' fun e w' => e = .returned (.int .i64 (cmpI A.natAbs B.natAbs)) ∧ Kept W' w' :=fun W' k => natCmp W' s1 s2 n1 n2 c1 c2 _ _ (d1.kept (kt T.k k)) (d2.kept (kt T.k k))
  obtain ⟨z,hz⟩ : ∃ z,cmpI A.natAbs B.natAbs = z :=⟨_,rfl⟩
  have hzs : z < 0 :=by rw [← hz];unfold cmpI;repeat' split <;> omega
  rw [hz] at hcm
  have hwo : ∀ W' v,NV W' v (B.natAbs - A.natAbs) → Calls Tryz.prog 35 #[.bool b,v] W' fun r w' => (∃ v',r = .returned v' ∧ WV w' v' (A + B)) ∧ Kept W' w' :=fun W' v h => by
    have :=wholeOf W' b v _ h
    rw [hs] at this;exact this
  obtain ⟨Y,hY⟩ : ∃ Y,A + B = Y :=⟨_,rfl⟩
  rw [hY] at hwo ⊢
  clear hs ha hb d1 d2 hY hW hle hz
  have hab2 : (a == b) = false :=by simpa using hab
  clear hab
  obtain ⟨q0,q1,q2,q3,q4,q5,q6⟩ :=id T
  go_enter Tryz.func38,Tryz.ntmps38
  go_upto_region 1 with fail
  rw [HW.out]
  go_wp2_with (first
    | (refine wp_region_lit_segs (id :=5) [[0,1,2,3,4,5,6],[7,8]] mixed (by kernel_rfl) ?_;simp only [wpSegsL,gaC,gaN,lZ0,lS0,coS])
    | refine ⟨by kernel_rfl,?_⟩
    | (refine ⟨by kernel_rfl,oldD kr,?_⟩)
    | (refine ⟨oldD kr,?_⟩)
    | (go_at_call 77;(with_reducible refine (hcm _ (Chg.refl _ _)).mono ?_);rintro r w0 ⟨rfl,p0⟩;have T1 :=T.keep p0;obtain ⟨g0,g1,g2,g3,g4,g5,g6⟩ :=id T1)
    | (go_at_call 79;(with_reducible refine (hop _ (kt p0 (Chg.refl _ _).drew)).mono ?_);rintro r w1 ⟨⟨v1,rfl,n1⟩,p1⟩;have kr :=p1.of_drew;clear p1)
    | (go_at_call 35;(with_reducible refine (hwo _ _ n1).mono ?_);rintro r w2 ⟨⟨v3,rfl,s',n',c',rfl,hd1⟩,p2⟩;replace kr :=kt kr p2;have T2 :=T.keep (kt p0 kr);obtain ⟨⟨u0,s0⟩,⟨u1,s1'⟩,sf⟩ :=id T2.S;have f0 :=sf 0;have f1 :=sf 1;have s2' :=cs_ne (u :=.bool (decide (Y < 0))) s1' (b' :=w.heap.size + 2) (o' :=0) (by omega)))
  first
    | exact ⟨_,results_28 (r :=w.heap.size + 2) rfl rfl (put2_0 T2.S _ _) (put2_1 T2.S _ _),⟨s',n',c',rfl,hd1.set T2.r0 (put2_chg _ _ _ _)⟩,(kt T.k (kt p0 kr)).keptNew (put2_chg _ _ _ _) fun b' _ h => by omega⟩
    | exact bodyPost_ret (results_28 (r :=w.heap.size + 2) rfl rfl (put2_0 T2.S _ _) (put2_1 T2.S _ _)) rfl ⟨⟨_,rfl,s',n',c',rfl,hd1.set T2.r0 (put2_chg _ _ _ _)⟩,(kt T.k (kt p0 kr)).keptNew (put2_chg _ _ _ _) fun b' _ h => by omega⟩
theorem wholeAdd (w : World) (v1 v2 : Value) (A B : Int) (h1 : WV w v1 A) (h2 : WV w v2 B) (hA : Sm A.natAbs) (hB : Sm B.natAbs) : Calls Tryz.prog 38 #[v1,v2] w fun r w' => (∃ v',r = .returned v' ∧ WV w' v' (A + B)) ∧ Kept w w' :=by
  by_cases hab : decide (A < 0) = decide (B < 0)
  · exact wholeAdd_same w v1 v2 A B h1 h2 hA hB hab
  · rcases Nat.lt_or_ge A.natAbs B.natAbs with h | h
    · exact wholeAdd_right w v1 v2 A B h1 h2 hA hB hab h
    · exact wholeAdd_left w v1 v2 A B h1 h2 hA hB hab h
end Go.Proofs.YtfmmdamgcpiciaaGreatDoor
namespace Go.Proofs.YtfmmdamgcpiciaaGreatDoor
open Go Go.RowKit
theorem cmpI_swap (x y : Nat) : cmpI y x = -cmpI x y :=by unfold cmpI;repeat' split <;> omega
theorem cmpZ_of (A B : Int) : cmpZ A B = if decide (A < 0) = decide (B < 0) then (if decide (A < 0) then cmpI B.natAbs A.natAbs else cmpI A.natAbs B.natAbs) else (if decide (A < 0) then -1 else 1) :=by
  by_cases h : decide (A < 0) = decide (B < 0)
  · rw [if_pos h,cmpZ_same (by rw [h];simp),cmpI_swap A.natAbs B.natAbs]
  · rw [if_neg h]
    unfold cmpZ
    by_cases ha : A < 0 <;> by_cases hb : B < 0 <;> simp [ha,hb] at h ⊢ <;> omega
theorem pair28 (w : World) (a0 a1 b0 b1 : Value) : Kept w ((w.alloc (.cells #[a0,a1] 28)).alloc (.cells #[b0,b1] 28)) ∧ ((w.alloc (.cells #[a0,a1] 28)).alloc (.cells #[b0,b1] 28)).cell? ⟨w.heap.size,0,none⟩ = some a0 ∧ ((w.alloc (.cells #[a0,a1] 28)).alloc (.cells #[b0,b1] 28)).cell? ⟨w.heap.size,1,none⟩ = some a1 ∧ ((w.alloc (.cells #[a0,a1] 28)).alloc (.cells #[b0,b1] 28)).cell? ⟨w.heap.size + 1,0,none⟩ = some b0 ∧ ((w.alloc (.cells #[a0,a1] 28)).alloc (.cells #[b0,b1] 28)).cell? ⟨w.heap.size + 1,1,none⟩ = some b1 :=by
  have k1 : Kept w (Box28 w a0 a1) :=Chg.alloc _ _ _
  have k2 : Kept (Box28 w a0 a1) (Box28 (Box28 w a0 a1) b0 b1) :=Chg.alloc _ _ _
  have e1 : (Box28 w a0 a1).heap.size = w.heap.size + 1 :=by simp
  have x0 :=box28_0 (Box28 w a0 a1) b0 b1
  have x1 :=box28_1 (Box28 w a0 a1) b0 b1
  rw [e1] at x0 x1
  exact ⟨kt k1 k2,Kept.at k2 (box28_0 w a0 a1),Kept.at k2 (box28_1 w a0 a1),x0,x1⟩
theorem wholeCmp (w : World) (v1 v2 : Value) (A B : Int) (h1 : WV w v1 A) (h2 : WV w v2 B) : Calls Tryz.prog 44 #[v1,v2] w fun r w' => r = .returned (.int .i64 (cmpZ A B)) ∧ Kept w w' :=by
  obtain ⟨s1,n1,c1,rfl,d1⟩ :=h1
  obtain ⟨s2,n2,c2,rfl,d2⟩ :=h2
  have hz :=cmpZ_of A B
  obtain ⟨a,ha⟩ : ∃ b,decide (A < 0) = b :=⟨_,rfl⟩
  obtain ⟨b,hb⟩ : ∃ b,decide (B < 0) = b :=⟨_,rfl⟩
  rw [ha,hb] at hz
  rw [ha,hb]
  obtain ⟨q0,q1,q2,q3,q4⟩ :=pair28 w (.bool a) (.slice s1 n1 c1) (.bool b) (.slice s2 n2 c2)
  obtain ⟨W,hW⟩ : ∃ W,((w.alloc (.cells #[.bool a,.slice s1 n1 c1] 28)).alloc (.cells #[.bool b,.slice s2 n2 c2] 28)) = W :=⟨_,rfl⟩
  rw [hW] at q0 q1 q2 q3 q4
  have hc1 : ∀ W',Kept W W' → Calls Tryz.prog 77 #[.slice s1 n1 c1,.slice s2 n2 c2] W' fun e w' => e = .returned (.int .i64 (cmpI A.natAbs B.natAbs)) ∧ Kept W' w' :=fun W' k => natCmp W' s1 s2 n1 n2 c1 c2 _ _ (d1.kept (kt q0 k)) (d2.kept (kt q0 k))
  have hc2 : ∀ W',Kept W W' → Calls Tryz.prog 77 #[.slice s2 n2 c2,.slice s1 n1 c1] W' fun e w' => e = .returned (.int .i64 (cmpI B.natAbs A.natAbs)) ∧ Kept W' w' :=fun W' k => natCmp W' s2 s1 n2 n1 c2 c1 _ _ (d2.kept (kt q0 k)) (d1.kept (kt q0 k))
  obtain ⟨z1,hz1⟩ : ∃ z,cmpI A.natAbs B.natAbs = z :=⟨_,rfl⟩
  obtain ⟨z2,hz2⟩ : ∃ z,cmpI B.natAbs A.natAbs = z :=⟨_,rfl⟩
  rw [hz1] at hc1 hz
  rw [hz2] at hc2 hz
  have HW :=Lib.hid hW
  have HZ :=Lib.hid hz
  clear hz ha hb hz1 hz2 d1 d2 hW
  cases a <;> cases b
  all_goals
    go_enter Tryz.func44,Tryz.ntmps44
    go_upto_region 1 with fail
    rw [HW.out]
    go_wp2_with (first
      | (go_at_call 77;(with_reducible refine (hc1 _ (Chg.refl _ _)).mono ?_);rintro r w1 ⟨rfl,p1⟩)
      | (go_at_call 77;(with_reducible refine (hc2 _ (Chg.refl _ _)).mono ?_);rintro r w1 ⟨rfl,p1⟩))
    first | go_ret | refine ⟨_,results_tmp rfl _ _ _,?_⟩
    first
      | exact ⟨by rw [HZ.out];rfl,kt q0 p1⟩
      | exact ⟨by rw [HZ.out];rfl,q0⟩
theorem wholeSign (w : World) (v : Value) (A : Int) (h : WV w v A) : Calls Tryz.prog 37 #[v] w fun r w' => r = .returned (.int .i64 (cmpZ A 0)) ∧ Kept w w' :=by
  obtain ⟨s1,n1,c1,rfl,d1⟩ :=h
  have k1 : Kept w (Box28 w (.bool (decide (A < 0))) (.slice s1 n1 c1)) :=Chg.alloc _ _ _
  have x0 :=box28_0 w (.bool (decide (A < 0))) (.slice s1 n1 c1)
  have x1 :=box28_1 w (.bool (decide (A < 0))) (.slice s1 n1 c1)
  have hc : ∀ W',Kept w W' → Calls Tryz.prog 44 #[.agg #[.bool (decide (A < 0)),.slice s1 n1 c1],.agg #[.bool false,.slice none 0 0]] W' fun r w' => r = .returned (.int .i64 (cmpZ A 0)) ∧ Kept W' w' :=fun W' k => wholeCmp W' _ _ A 0 ⟨s1,n1,c1,rfl,d1.kept k⟩ (by obtain ⟨s,n,c,e,h⟩ :=NV.nil W';cases e;exact ⟨none,0,0,rfl,h⟩)
  obtain ⟨a,ha⟩ : ∃ b,decide (A < 0) = b :=⟨_,rfl⟩
  rw [ha] at hc k1 x0 x1 ⊢
  clear ha d1
  go_enter Tryz.func37,Tryz.ntmps37
  go_wp2_with (go_at_call 44;(with_reducible refine (hc _ k1).mono ?_);rintro r w1 ⟨rfl,p1⟩)
  first | go_ret | refine ⟨_,results_tmp rfl _ _ _,?_⟩
  exact ⟨rfl,kt k1 p1⟩
end Go.Proofs.YtfmmdamgcpiciaaGreatDoor
namespace Go.Proofs.YtfmmdamgcpiciaaGreatDoor
open Go Go.RowKit
theorem bs_minus (L : List Nat) : (⟨#[45]⟩ : ByteArray) ++ bs L = bs (45 :: L) :=by
  apply ByteArray.ext
  simp [bs]
theorem wholeString (w : World) (v : Value) (A : Int) (h : WV w v A) (hA : A.natAbs < 10 ^ 1000) : Calls Tryz.prog 33 #[v] w fun r w' => r = .returned (str (txt A)) ∧ Kept w w' :=by
  obtain ⟨s1,n1,c1,rfl,d1⟩ :=h
  have k1 : Kept w (Box28 w (.bool (decide (A < 0))) (.slice s1 n1 c1)) :=Chg.alloc _ _ _
  have x0 :=box28_0 w (.bool (decide (A < 0))) (.slice s1 n1 c1)
  have x1 :=box28_1 w (.bool (decide (A < 0))) (.slice s1 n1 c1)
  have hc : ∀ W',Kept w W' → Calls Tryz.prog 49 #[.slice s1 n1 c1] W' fun r w' => r = .returned (str (digT A.natAbs)) ∧ Kept W' w' :=fun W' k => natString W' s1 n1 c1 _ (d1.kept k) hA
  have hl :=digT_length A.natAbs 1000 (by decide) hA
  have htx : str (txt A) = if decide (A < 0) then .string (bs (45 :: digT A.natAbs)) else .string (bs (digT A.natAbs)) :=by
    unfold txt
    by_cases h : A < 0
    · rw [if_pos h,decide_eq_true h];rfl
    · rw [if_neg h,decide_eq_false h];rfl
  have hbm :=bs_minus (digT A.natAbs)
  have hsz : (bs (digT A.natAbs)).size ≤ 1000 :=by rw [bs_size];exact hl
  rw [htx]
  rw [str_bs] at hc
  rw [← hbm]
  clear hbm htx hl
  obtain ⟨t,ht⟩ : ∃ t,bs (digT A.natAbs) = t :=⟨_,rfl⟩
  obtain ⟨a,ha⟩ : ∃ b,decide (A < 0) = b :=⟨_,rfl⟩
  rw [ha] at k1 x0 x1 ⊢
  rw [ht] at hc hsz ⊢
  clear ha d1 ht hA
  cases a
  all_goals
    go_enter Tryz.func33,Tryz.ntmps33
    go_wp2_with (go_at_call 49;(with_reducible refine (hc _ k1).mono ?_);rintro r w1 ⟨rfl,p1⟩)
    first | go_ret | refine ⟨_,results_tmp rfl _ _ _,?_⟩
    exact ⟨rfl,kt k1 p1⟩
theorem results_28_tmp {fn : Func} {t u r : Nat} {tmps : Array Value} {w : World} {x y : Value} (h : fn.results = #[.cell t 28,.tmp u]) (hp : tmps.getD t undef = ptr r) (h0 : w.cell? ⟨r,0,none⟩ = some x) (h1 : w.cell? ⟨r,1,none⟩ = some y) :
    (results fn tmps).run Tryz.prog w = .ok (.tuple #[.agg #[x,y],tmps.getD u undef]) w :=by
  obtain ⟨i0,hi,hz0,hz1,hz2⟩ :=info_parts info28
  have hp' : tmps[t]?.getD undef = ptr r :=by simpa using hp
  simp [results,h,hp',go_sem,hi,hz1,h0,h1]
theorem parseWhole (w : World) (A : Int) (hA : A.natAbs < 10 ^ 999) : Calls Tryz.prog 42 #[str (txt A)] w fun r w' => (∃ v,r = .returned (.tuple #[v,.bool true]) ∧ WV w' v A) ∧ Kept w w' :=by
  obtain ⟨D,hD⟩ : ∃ D,digT A.natAbs = D :=⟨_,rfl⟩
  have hDl : D.length ≤ 999 :=hD ▸ digT_length _ 999 (by decide) hA
  have hDne : D ≠ [] :=hD ▸ digT_ne _
  have hDr : ∀ c ∈ D,48 ≤ c ∧ c ≤ 57 :=hD ▸ digT_range _
  have hDv : readD D = A.natAbs :=by rw [← hD];exact readD_digs _
  have htx : txt A = if A < 0 then 45 :: D else D :=by unfold txt;rw [hD]
  obtain ⟨t,ht⟩ : ∃ t,bs D = t :=⟨_,rfl⟩
  have hno : ∀ W,Calls Tryz.prog 50 #[.string t] W fun r w' => (∃ v,r = .returned (.tuple #[v,.bool true]) ∧ NV w' v A.natAbs) ∧ Kept W w' :=fun W => by
    have :=natOf W D hDr hDne (by omega)
    rw [hDv,str_bs,ht] at this
    exact this
  have hwo : ∀ W v,NV W v A.natAbs → Calls Tryz.prog 35 #[.bool (decide (A < 0)),v] W fun r w' => (∃ v',r = .returned v' ∧ WV w' v' A) ∧ Kept W w' :=fun W v h => by
    have :=wholeOf W (decide (A < 0)) v _ h
    rw [sgn_of] at this
    exact this
  obtain ⟨s,hs⟩ : ∃ s,bs (txt A) = s :=⟨_,rfl⟩
  have hse : s.toList.isEmpty = false :=by
    rw [← hs,htx]
    obtain ⟨c,l,rfl⟩ :=List.exists_cons_of_ne_nil hDne
    split <;> (rw [bs,ByteArray.toList_mk];rfl)
  have hsz : 0 < s.size :=by
    have : 0 < D.length :=List.length_pos_iff.2 hDne
    rw [← hs,bs_size,htx]
    split
    · simp
    · exact this
  have hex : decide (A < 0) = true → s.extract 1 s.size = t :=by
    intro h
    rw [← hs,← ht,htx,if_pos (of_decide_eq_true h),bs_size]
    exact bs_tail 45 D
  have hst : decide (A < 0) = false → s = t :=by
    intro h
    rw [← hs,← ht,htx,if_neg (of_decide_eq_false h)]
  have hc : ∃ c : Nat,(∀ h : 0 < s.size,(s[0]'h).toNat = c) ∧ (((c : Int) == 45) = decide (A < 0)) ∧ (((c : Int) == 43) = false) :=by
    obtain ⟨c,l,hcl⟩ :=List.exists_cons_of_ne_nil hDne
    have h1 :=hDr c (by rw [hcl];simp)
    by_cases h : A < 0
    · refine ⟨45,fun hh => ?_,by rw [decide_eq_true h];rfl,rfl⟩
      subst hs
      rw [if_pos h] at htx
      exact bs_get (by rw [htx];rfl) (by decide) hh
    · refine ⟨c,fun hh => ?_,by rw [decide_eq_false h];simp only [beq_eq_false_iff_ne];omega,by simp only [beq_eq_false_iff_ne];omega⟩
      subst hs
      rw [if_neg h] at htx
      exact bs_get (by rw [htx,hcl];rfl) (by omega) hh
  obtain ⟨c,hc1,hc2,hc3⟩ :=hc
  have S0 :=slot28 w (.bool false) (.slice none 0 0)
  have r0 :=box28_0 w (.bool false) (.slice none 0 0)
  have k0 : Kept w (Box28 w (.bool false) (.slice none 0 0)) :=Chg.alloc _ _ _
  rw [str_bs,hs]
  obtain ⟨a,ha⟩ : ∃ b,decide (A < 0) = b :=⟨_,rfl⟩
  rw [ha] at hwo hex hst hc2
  have HA :=Lib.hid ha
  clear hA hD hDl hDne hDr hDv htx ht hs ha
  cases a
  · obtain rfl :=hst rfl
    clear hex hst
    go_enter Tryz.func42,Tryz.ntmps42
    go_wp2_with (first
      | (go_at_call 50;(with_reducible refine (hno _).mono ?_);rintro r w1 ⟨⟨v1,rfl,n1⟩,p1⟩)
      | (go_at_call 35;(with_reducible refine (hwo _ _ n1).mono ?_);rintro r w2 ⟨⟨v3,rfl,s',n',c',rfl,hd1⟩,p2⟩;have kr :=kt p1 p2;have S :=S0.kept kr;have r1 :=Kept.at kr r0;obtain ⟨⟨u0,s0⟩,⟨u1,s1'⟩,sf⟩ :=id S;have f0 :=sf 0;have f1 :=sf 1;have s2' :=cs_ne (u :=.bool (decide (A < 0))) s1' (b' :=w.heap.size) (o' :=0) (by omega)))
    exact bodyPost_ret (v :=.tuple #[.agg #[.bool (decide (A < 0)),.slice s' n' c'],.bool true]) (results_28_tmp (t :=2) (u :=3) (r :=w.heap.size) rfl rfl (put2_0 S _ _) (put2_1 S _ _)) rfl ⟨⟨_,rfl,s',n',c',rfl,hd1.set r1 (put2_chg _ _ _ _)⟩,(kt k0 kr).keptNew (put2_chg _ _ _ _) fun b' _ h => by omega⟩
  · have hex :=hex rfl
    clear hst
    go_enter Tryz.func42,Tryz.ntmps42
    go_wp2_with (first
      | (go_at_call 50;(with_reducible refine (hno _).mono ?_);rintro r w1 ⟨⟨v1,rfl,n1⟩,p1⟩)
      | (go_at_call 35;(with_reducible refine (hwo _ _ n1).mono ?_);rintro r w2 ⟨⟨v3,rfl,s',n',c',rfl,hd1⟩,p2⟩;have kr :=kt p1 p2;have S :=S0.kept kr;have r1 :=Kept.at kr r0;obtain ⟨⟨u0,s0⟩,⟨u1,s1'⟩,sf⟩ :=id S;have f0 :=sf 0;have f1 :=sf 1;have s2' :=cs_ne (u :=.bool (decide (A < 0))) s1' (b' :=w.heap.size) (o' :=0) (by omega)))
    exact bodyPost_ret (v :=.tuple #[.agg #[.bool (decide (A < 0)),.slice s' n' c'],.bool true]) (results_28_tmp (t :=2) (u :=3) (r :=w.heap.size) rfl rfl (put2_0 S _ _) (put2_1 S _ _)) rfl ⟨⟨_,rfl,s',n',c',rfl,hd1.set r1 (put2_chg _ _ _ _)⟩,(kt k0 kr).keptNew (put2_chg _ _ _ _) fun b' _ h => by omega⟩
end Go.Proofs.YtfmmdamgcpiciaaGreatDoor
namespace Go.Proofs.YtfmmdamgcpiciaaGreatDoor
open Go Go.RowKit
theorem info37 : (Tryz.prog.info? 37).map (fun i => (i.zero,i.size,i.bytes)) = some (some (.agg #[.bool false,.slice none 0 0,.int .i64 0]),3,40) :=by kernel_rfl
theorem info30 : (Tryz.prog.info? 30).map (fun i => (i.zero,i.size,i.bytes)) = some (some (.agg #[.bool false,.slice none 0 0,.slice none 0 0]),3,56) :=by kernel_rfl
theorem wholeIn (w : World) (A : Int) (hA : A.natAbs < 10 ^ 999) : Calls Tryz.prog 34 #[str (txt A)] w fun r w' => (∃ v,r = .returned v ∧ WV w' v A) ∧ Kept w w' :=by
  have hp :=fun W => parseWhole W A hA
  obtain ⟨s,hs⟩ : ∃ s,str (txt A) = .string s :=⟨_,rfl⟩
  rw [hs] at hp ⊢
  have S0 :=slot28 w (.bool false) (.slice none 0 0)
  have r0 :=box28_0 w (.bool false) (.slice none 0 0)
  have k0 : Kept w (Box28 w (.bool false) (.slice none 0 0)) :=Chg.alloc _ _ _
  clear hA hs
  obtain ⟨d,hd⟩ : ∃ b,decide (A < 0) = b :=⟨_,rfl⟩
  go_enter Tryz.func34,Tryz.ntmps34
  go_wp2_with (go_at_call 42;(with_reducible refine (hp _).mono ?_);rintro r w1 ⟨⟨v1,rfl,s',n',c',rfl,hd1⟩,p1⟩;rw [hd];have kr :=kt p1 (Chg.alloc w1 (.cells #[.bool d,.slice s' n' c'] 28) None2);have S :=S0.kept kr;have r1 :=Kept.at kr r0;have x0 :=box28_0 w1 (.bool d) (.slice s' n' c');have x1 :=box28_1 w1 (.bool d) (.slice s' n' c');have hd2 :=hd1.kept (Chg.alloc w1 (.cells #[.bool d,.slice s' n' c'] 28) None2);obtain ⟨⟨u0,s0⟩,⟨u1,s1'⟩,sf⟩ :=id S;have f0 :=sf 0;have f1 :=sf 1;have s2' :=cs_ne (u :=.bool d) s1' (b' :=w.heap.size) (o' :=0) (by omega))
  exact bodyPost_ret (results_28 rfl rfl (put2_0 S _ _) (put2_1 S _ _)) rfl ⟨⟨_,rfl,s',n',c',by rw [hd],hd2.set r1 (put2_chg _ _ _ _)⟩,(kt k0 kr).keptNew (put2_chg _ _ _ _) fun b' _ h => by omega⟩
theorem wholeOne (w : World) : Calls Tryz.prog 45 #[.int .i64 1] w fun r w' => (∃ v,r = .returned v ∧ WV w' v 1) ∧ Kept w w' :=by
  have hf :=fun W => natFrom W 1 (by decide)
  have S0 :=slot28 w (.bool false) (.slice none 0 0)
  have r0 :=box28_0 w (.bool false) (.slice none 0 0)
  have k0 : Kept w (Box28 w (.bool false) (.slice none 0 0)) :=Chg.alloc _ _ _
  go_enter Tryz.func45,Tryz.ntmps45
  go_wp2_with (go_at_call 41;refine (hf _).mono ?_;rintro r w1 ⟨⟨v1,rfl,s',n',c',rfl,hd1⟩,kr⟩;have S :=S0.kept kr;have r1 :=Kept.at kr r0;obtain ⟨⟨u0,s0⟩,⟨u1,s1'⟩,sf⟩ :=id S;have f0 :=sf 0;have f1 :=sf 1;have s2' :=cs_ne (u :=.bool false) s1' (b' :=w.heap.size) (o' :=0) (by omega))
  exact bodyPost_ret (results_28 rfl rfl (put2_0 S _ _) (put2_1 S _ _)) rfl ⟨⟨_,rfl,s',n',c',rfl,hd1.set r1 (put2_chg _ _ _ _)⟩,(kt k0 kr).keptNew (put2_chg _ _ _ _) fun b' _ h => by omega⟩
end Go.Proofs.YtfmmdamgcpiciaaGreatDoor
