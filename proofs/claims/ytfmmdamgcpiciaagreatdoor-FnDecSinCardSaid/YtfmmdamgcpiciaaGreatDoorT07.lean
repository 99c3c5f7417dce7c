/- A part of the proof, joined out of the texts A23, A24, A25, A26, D20, D21, D22, E1, E2, E3, E4, E5, E6; each theorem bears its own conditions. -/
import Derived.ArgAppend
import Derived.Lib.AppendZeros
import Derived.Shelf.Strconv.Itoa2
import Derived.Test.YtfmmdamgcpiciaaGreatDoorT06
set_option linter.unusedVariables false
set_option linter.unusedSimpArgs false
set_option linter.all false
set_option maxHeartbeats 9000000
set_option maxRecDepth 1000000
namespace Go.Proofs.YtfmmdamgcpiciaaGreatDoor
open Go Go.RowKit
theorem Recv.keep {w0 w w' : World} {b : Nat} {s : Option Addr} {n c : Nat} (h : Recv w0 w b s n c) (k : Kept w w') : Recv w0 w' b s n c :=by
  obtain ⟨⟨u,hu⟩,h2,h3,h4,h5,h6,h7,h8,h9⟩ :=h
  exact ⟨⟨u,Kept.at k hu⟩,Kept.at k h2,h3.chg k,h4,h5.chg (lt_of_cell hu) k,h6,h7,h8,kt h9 k⟩
theorem natBig {w : World} {s : Option Addr} {n c X : Nat} (h : NatAt w s n c X) (hX : X < W39) : n < Big :=Nat.lt_of_le_of_lt (h.len_lt hX) (by decide)
theorem IntA.lt0 {w : World} {b : Nat} {s : Option Addr} {n c : Nat} {X : Int} (h : IntA w b s n c X) : ∀ a,s = some a → a.block < w.heap.size :=h.nat.lt
theorem box3c0 (w : World) (a0 a1 b0 b1 : Value) : (Box3 w a0 a1 b0 b1).cell? ⟨w.heap.size,0,none⟩ = some a0 ∧ (Box3 w a0 a1 b0 b1).cell? ⟨w.heap.size,1,none⟩ = some a1 ∧ (Box3 w a0 a1 b0 b1).cell? ⟨w.heap.size + 1,0,none⟩ = some b0 ∧ (Box3 w a0 a1 b0 b1).cell? ⟨w.heap.size + 1,1,none⟩ = some b1 :=by
  have k1 :=boxK (Box w a0 a1) b0 b1
  have k2 :=boxK (Box (Box w a0 a1) b0 b1) (.pointer none) (.int .i32 0)
  have c0 :=box0 (Box w a0 a1) b0 b1
  have c1 :=box1 (Box w a0 a1) b0 b1
  rw [boxS] at c0 c1
  exact ⟨Kept.at k2 (Kept.at k1 (box0 w a0 a1)),Kept.at k2 (Kept.at k1 (box1 w a0 a1)),Kept.at k2 c0,Kept.at k2 c1⟩
abbrev B3 (w : World) (b1 b2 : Nat) (e1 e2 : Int) : World :=Box3 w (ptr b1) (.int .i32 e1) (ptr b2) (.int .i32 e2)
theorem RDone.at {w0 w w' : World} {bz : Nat} {sz : Option Addr} {X : Int} (h : RDone w0 w w' bz sz X) {b o : Nat} {v : Value} (hc : w.cell? ⟨b,o,none⟩ = some v) (h1 : b ≠ bz) (h2 : ∀ a,sz = some a → a.block ≠ b) : w'.cell? ⟨b,o,none⟩ = some v :=
  h.2.2.at hc (by rintro (h | ⟨o',h⟩);exact h1 h;exact h2 _ h rfl)
theorem int_add_y (w0 w1 w : World) (bz bx : Nat) (X Y : Int) (hz : IntN w0 w1 bz Y) (hk1 : Kept w0 w1) (hk2 : Kept w1 w) (hx : IntAt w0 bx X) (hX : X.natAbs < W39) (hY : Y.natAbs < W39) : ∃ sz,(∀ a,sz = some a → a.block < w1.heap.size) ∧ Calls Tryz.prog 101 #[ptr bz,ptr bx,ptr bz] w fun e w' => e = .returned (ptr bz) ∧ RDone w0 w w' bz sz (X + Y) :=by
  obtain ⟨sz,nz,cz,hr,hy⟩ :=hz.recv hk1
  obtain ⟨sx,nx,cx,hx⟩ :=hx
  have hd :=hr.dis hx
  have hx :=hx.kept (kt hk1 hk2)
  exact ⟨sz,hy.lt0,int_add w0 w bz bx bz sz sx sz nz cz nx cx nz cz X Y (hr.keep hk2) hx (hy.kept hk2) (natBig hx.nat hX) (natBig hy.nat hY) hd.1.sep (.inl rfl)⟩
theorem int_add_x (w0 w1 w : World) (bz by' : Nat) (X Y : Int) (hz : IntN w0 w1 bz X) (hk1 : Kept w0 w1) (hk2 : Kept w1 w) (hy : IntAt w0 by' Y) (hX : X.natAbs < W39) (hY : Y.natAbs < W39) : ∃ sz,(∀ a,sz = some a → a.block < w1.heap.size) ∧ Calls Tryz.prog 101 #[ptr bz,ptr bz,ptr by'] w fun e w' => e = .returned (ptr bz) ∧ RDone w0 w w' bz sz (X + Y) :=by
  obtain ⟨sz,nz,cz,hr,hx⟩ :=hz.recv hk1
  obtain ⟨sy,ny,cy,hy⟩ :=hy
  have hd :=hr.dis hy
  have hy :=hy.kept (kt hk1 hk2)
  exact ⟨sz,hx.lt0,int_add w0 w bz bz by' sz sz sy nz cz nz cz ny cy X Y (hr.keep hk2) (hx.kept hk2) hy (natBig hx.nat hX) (natBig hy.nat hY) (.inl rfl) hd.1.sep⟩
theorem int_add_n (w0 w : World) (bz bx by' : Nat) (X Y : Int) (hz : ZeroInt w bz) (hb : w0.heap.size ≤ bz) (hk : Kept w0 w) (hx : IntAt w bx X) (hy : IntAt w by' Y) (hX : X.natAbs < W39) (hY : Y.natAbs < W39) : Calls Tryz.prog 101 #[ptr bz,ptr bx,ptr by'] w fun e w' => e = .returned (ptr bz) ∧ RDone w0 w w' bz none (X + Y) :=by
  obtain ⟨sx,nx,cx,hx⟩ :=hx
  obtain ⟨sy,ny,cy,hy⟩ :=hy
  exact int_add w0 w bz bx by' none sx sy 0 0 nx cx ny cy X Y (hz.recv hb hk) hx hy (natBig hx.nat hX) (natBig hy.nat hY) (Dis.nil _).sep (Dis.nil _).sep
theorem dec_add_lt (w : World) (hg : Glob w) (b1 b2 : Nat) (e1 e2 X Y : Int) (h1 : IntAt w b1 X) (h2 : IntAt w b2 Y) (hX : X.natAbs < W39) (hY : Y.natAbs < W39) (hlt : e1 < e2) (l1 : -512 < e1) (u2 : e2 < 512) (hd : e2 - e1 ≤ 420) (hY2 : (Y * (10 ^ (e2 - e1).toNat : Nat)).natAbs < W39) :
    Calls Tryz.prog 70 #[dv b1 e1,dv b2 e2] w (NewDec w (X + Y * (10 ^ (e2 - e1).toNat : Nat)) e1) :=by
  have hW :=box3K w (ptr b1) (.int .i32 e1) (ptr b2) (.int .i32 e2)
  have hS :=box3S w (ptr b1) (.int .i32 e1) (ptr b2) (.int .i32 e2)
  have hR :=box3R w (ptr b1) (.int .i32 e1) (ptr b2) (.int .i32 e2)
  have hre :=dec_rescale (B3 w b1 b2 e1 e2) (hg.kept hW) b2 e2 e1 Y (h2.kept hW) hY hlt l1 u2 hd
  generalize (10 ^ (e2 - e1).toNat : Nat) = T at *
  have hc0 :=box3c0 w (ptr b1) (.int .i32 e1) (ptr b2) (.int .i32 e2)
  have HS :=Lib.hid (And.intro hS (And.intro hW (And.intro hR hc0)))
  clear hS hW hR hc0
  go_enter Tryz.func70,Tryz.ntmps70
  go_wp2_with (first
    | (go_at_call 99;refine hre.mono ?_;rintro r w1 ⟨b',rfl,k1,k2⟩;have G :=Chg.size k2;rw [HS.out.1] at G;
       have p0 :=box0 w1 (ptr b') (.int .i32 e1);have p1 :=box1 w1 (ptr b') (.int .i32 e1);have KP :=boxK w1 (ptr b') (.int .i32 e1);
       have t0 :=Kept.at (kt k2 KP) HS.out.2.2.2.1;have t1 :=Kept.at (kt k2 KP) HS.out.2.2.2.2.1)
    | (refine wp_region_lit_segs (id :=3) [[0,1,2,4,5,3],[6]] mixed (by kernel_rfl) ?_;simp only [wpSegsL,gaC,gaN,lZ0,lS0,coS])
    | refine ⟨by kernel_rfl,?_⟩
    | refine ⟨by kernel_rfl,oldD (by first | assumption | exact Chg.refl _ _ | exact (Chg.refl _ _).drew | exact kt (by first | assumption | exact (Chg.refl _ _).drew | exact Chg.refl _ _) (ziK _) | exact Chg.drew (by assumption)),?_⟩
    | refine ⟨oldD (by first | assumption | exact Chg.refl _ _ | exact (Chg.refl _ _).drew | exact kt (by first | assumption | exact (Chg.refl _ _).drew | exact Chg.refl _ _) (ziK _) | exact Chg.drew (by assumption)),?_⟩
    | (with_reducible refine And.intro ?_ ?_)
    | (go_at_call 88;refine (dec_getValue _ _ _).mono ?_;rintro r w3 ⟨rfl,k⟩;have k :=k.of_drew;have K3 :=kt KP k;have q0 :=Kept.at k p0;have q1 :=Kept.at k p1)
    | (go_at_call 101;obtain ⟨sz,hsz,hc⟩ :=int_add_y (B3 w b1 b2 e1 e2) w1 w3 b' b1 X _ k1 k2 K3 (h1.kept HS.out.2.1) hX hY2;refine hc.mono ?_;rintro r w4 ⟨rfl,d⟩;
       have hb' :=k1.at.lt;have r0 :=d.at q0 (by omega) (fun a ha => by have :=hsz a ha;omega);have r1 :=d.at q1 (by omega) (fun a ha => by have :=hsz a ha;omega);
       have S :=HS.out.2.2.1.kept d.2.1;obtain ⟨⟨u0,s0⟩,⟨u1,s1⟩,sf⟩ :=id S;have f0 :=sf 0;have f1 :=sf 1;have s2 :=cs_ne (u :=ptr b') s1 (b' :=w.heap.size + 2) (o' :=0) (by omega)))
  first
    | refine ⟨dv _ e1,results_dec rfl rfl (put2_0 S _ _) (put2_1 S _ _),_,rfl,dec_ret (by omega) ?_ HS.out.2.1 d.1 d.2.1 _ _⟩
    | refine bodyPost_ret (v :=dv _ e1) (results_dec rfl rfl (put2_0 S _ _) (put2_1 S _ _)) rfl ⟨_,rfl,dec_ret (by omega) ?_ HS.out.2.1 d.1 d.2.1 _ _⟩
  rw [HS.out.1]
  omega
theorem dec_add_gt (w : World) (hg : Glob w) (b1 b2 : Nat) (e1 e2 X Y : Int) (h1 : IntAt w b1 X) (h2 : IntAt w b2 Y) (hX : X.natAbs < W39) (hY : Y.natAbs < W39) (hlt : e2 < e1) (l1 : -512 < e2) (u2 : e1 < 512) (hd : e1 - e2 ≤ 420) (hX2 : (X * (10 ^ (e1 - e2).toNat : Nat)).natAbs < W39) :
    Calls Tryz.prog 70 #[dv b1 e1,dv b2 e2] w (NewDec w (X * (10 ^ (e1 - e2).toNat : Nat) + Y) e2) :=by
  have hW :=box3K w (ptr b1) (.int .i32 e1) (ptr b2) (.int .i32 e2)
  have hS :=box3S w (ptr b1) (.int .i32 e1) (ptr b2) (.int .i32 e2)
  have hR :=box3R w (ptr b1) (.int .i32 e1) (ptr b2) (.int .i32 e2)
  have hre :=dec_rescale (B3 w b1 b2 e1 e2) (hg.kept hW) b1 e1 e2 X (h1.kept hW) hX hlt l1 u2 hd
  generalize (10 ^ (e1 - e2).toNat : Nat) = T at *
  have hc0 :=box3c0 w (ptr b1) (.int .i32 e1) (ptr b2) (.int .i32 e2)
  have HS :=Lib.hid (And.intro hS (And.intro hW (And.intro hR hc0)))
  have hnl : ¬ e1 < e2 :=by omega
  clear hS hW hR hc0
  go_enter Tryz.func70,Tryz.ntmps70
  go_wp2_with (first
    | (go_at_call 99;refine hre.mono ?_;rintro r w1 ⟨b',rfl,k1,k2⟩;have G :=Chg.size k2;rw [HS.out.1] at G;
       have p0 :=box0 w1 (ptr b') (.int .i32 e2);have p1 :=box1 w1 (ptr b') (.int .i32 e2);have KP :=boxK w1 (ptr b') (.int .i32 e2);
       have t0 :=Kept.at (kt k2 KP) HS.out.2.2.2.2.2.1;have t1 :=Kept.at (kt k2 KP) HS.out.2.2.2.2.2.2)
    | (refine wp_region_lit_segs (id :=7) [[0,1,2,3,4,5],[6]] mixed (by kernel_rfl) ?_;simp only [wpSegsL,gaC,gaN,lZ0,lS0,coS])
    | refine ⟨by kernel_rfl,?_⟩
    | refine ⟨by kernel_rfl,oldD (by first | assumption | exact Chg.refl _ _ | exact (Chg.refl _ _).drew | exact kt (by first | assumption | exact (Chg.refl _ _).drew | exact Chg.refl _ _) (ziK _) | exact Chg.drew (by assumption)),?_⟩
    | refine ⟨oldD (by first | assumption | exact Chg.refl _ _ | exact (Chg.refl _ _).drew | exact kt (by first | assumption | exact (Chg.refl _ _).drew | exact Chg.refl _ _) (ziK _) | exact Chg.drew (by assumption)),?_⟩
    | (with_reducible refine And.intro ?_ ?_)
    | (go_at_call 88;refine (dec_getValue _ _ _).mono ?_;rintro r w3 ⟨rfl,k⟩;have k :=k.of_drew;have K3 :=kt KP k;have q0 :=Kept.at k p0;have q1 :=Kept.at k p1)
    | (go_at_call 101;obtain ⟨sz,hsz,hc⟩ :=int_add_x (B3 w b1 b2 e1 e2) w1 w3 b' b2 _ Y k1 k2 K3 (h2.kept HS.out.2.1) hX2 hY;refine hc.mono ?_;rintro r w4 ⟨rfl,d⟩;
       have hb' :=k1.at.lt;have r0 :=d.at q0 (by omega) (fun a ha => by have :=hsz a ha;omega);have r1 :=d.at q1 (by omega) (fun a ha => by have :=hsz a ha;omega);
       have S :=HS.out.2.2.1.kept d.2.1;obtain ⟨⟨u0,s0⟩,⟨u1,s1⟩,sf⟩ :=id S;have f0 :=sf 0;have f1 :=sf 1;have s2 :=cs_ne (u :=ptr b') s1 (b' :=w.heap.size + 2) (o' :=0) (by omega)))
  first
    | refine ⟨dv _ e2,results_dec rfl rfl (put2_0 S _ _) (put2_1 S _ _),_,rfl,dec_ret (by omega) ?_ HS.out.2.1 d.1 d.2.1 _ _⟩
    | refine bodyPost_ret (v :=dv _ e2) (results_dec rfl rfl (put2_0 S _ _) (put2_1 S _ _)) rfl ⟨_,rfl,dec_ret (by omega) ?_ HS.out.2.1 d.1 d.2.1 _ _⟩
  rw [HS.out.1]
  omega
theorem dec_add_eq (w : World) (b1 b2 : Nat) (e1 X Y : Int) (h1 : IntAt w b1 X) (h2 : IntAt w b2 Y) (hX : X.natAbs < W39) (hY : Y.natAbs < W39) :
    Calls Tryz.prog 70 #[dv b1 e1,dv b2 e1] w (NewDec w (X + Y) e1) :=by
  have hlt1 :=h1.lt
  have hlt2 :=h2.lt
  have hW :=box3K w (ptr b1) (.int .i32 e1) (ptr b2) (.int .i32 e1)
  have hS :=box3S w (ptr b1) (.int .i32 e1) (ptr b2) (.int .i32 e1)
  have hR :=box3R w (ptr b1) (.int .i32 e1) (ptr b2) (.int .i32 e1)
  have hm : ∀ w4 bz,Kept (B3 w b1 b2 e1 e1) w4 → w.heap.size + 3 ≤ bz → ZeroInt w4 bz → Calls Tryz.prog 101 #[ptr bz,ptr b1,ptr b2] w4 fun e w' => e = .returned (ptr bz) ∧ RDone (B3 w b1 b2 e1 e1) w4 w' bz none (X + Y) :=by
    intro w4 bz q1 q2 q3
    have kw :=kt hW q1
    exact int_add_n (B3 w b1 b2 e1 e1) w4 bz b1 b2 X Y q3 (by rw [hS];exact q2) q1 (h1.kept kw) (h2.kept kw) hX hY
  have HM :=Lib.hid hm
  have hc0 :=box3c0 w (ptr b1) (.int .i32 e1) (ptr b2) (.int .i32 e1)
  have HS :=Lib.hid (And.intro hS (And.intro hW (And.intro hR hc0)))
  clear hm hS hW hR hc0
  go_enter Tryz.func70,Tryz.ntmps70
  go_wp2_with (first
    | (refine wp_region_lit_plan (id :=9) (.seg [1,3] (.two 0 2 (.seg [2] (.seg [4] (.seg [5] (.seg [6] .fin)))) (.two 0 4 (.seg [4] (.seg [5] (.seg [6] .fin))) (.seg [0] (.seg [5] (.seg [6] .fin)))))) mixed (by kernel_rfl) ?_;simp only [wpPlanL,gaC,gaN,lZ0,lS0,coS])
    | refine ⟨by kernel_rfl,?_⟩
    | refine ⟨by kernel_rfl,oldD (by first | assumption | exact Chg.refl _ _ | exact (Chg.refl _ _).drew | exact kt (by first | assumption | exact (Chg.refl _ _).drew | exact Chg.refl _ _) (ziK _) | exact Chg.drew (by assumption)),?_⟩
    | refine ⟨oldD (by first | assumption | exact Chg.refl _ _ | exact (Chg.refl _ _).drew | exact kt (by first | assumption | exact (Chg.refl _ _).drew | exact Chg.refl _ _) (ziK _) | exact Chg.drew (by assumption)),?_⟩
    | (with_reducible refine And.intro ?_ ?_)
    | (go_at_call 88;refine (dec_getValue _ _ _).mono ?_;rintro r w1 ⟨rfl,k⟩;have K : Kept (B3 w b1 b2 e1 e1) w1 :=kt (by first | assumption | exact Chg.refl _ _ | exact (Chg.refl _ _).drew | exact kt (by first | assumption | exact (Chg.refl _ _).drew | exact Chg.refl _ _) (ziK _) | exact Chg.drew (by assumption)) k;have G : w.heap.size + 3 ≤ w1.heap.size :=(by have q :=Chg.size K;rw [HS.out.1] at q;exact q);first | have Z :=(ZeroInt.made _).kept k | have Z :=(ZeroInt.made _).kept k.of_drew | have Z :=Z.kept k | skip;clear k)
    | (go_at_call 101;refine (HM.out _ _ (by first | assumption | exact Chg.refl _ _ | exact (Chg.refl _ _).drew | exact kt (by first | assumption | exact (Chg.refl _ _).drew | exact Chg.refl _ _) (ziK _) | exact Chg.drew (by assumption)) (by omega) (by first | exact Z | exact ZeroInt.made _ | simpa using Z)).mono ?_;rintro r w5 ⟨rfl,d⟩;have K5 :=d.2.1;have S :=HS.out.2.2.1.kept d.2.1;obtain ⟨⟨u0,s0⟩,⟨u1,s1⟩,sf⟩ :=id S;have f0 :=sf 0;have f1 :=sf 1;have t1 :=Kept.at d.2.1 HS.out.2.2.2.2.1))
  all_goals
    refine ⟨dv _ e1,results_dec rfl rfl (put2_0 S _ _) (put2_1 S _ _),_,rfl,dec_ret (by omega) ?_ HS.out.2.1 d.1 d.2.1 _ _⟩
    rw [HS.out.1]
    omega
theorem int_sub_y (w0 w1 w : World) (bz bx : Nat) (X Y : Int) (hz : IntN w0 w1 bz Y) (hk1 : Kept w0 w1) (hk2 : Kept w1 w) (hx : IntAt w0 bx X) (hX : X.natAbs < W39) (hY : Y.natAbs < W39) : ∃ sz,(∀ a,sz = some a → a.block < w1.heap.size) ∧ Calls Tryz.prog 102 #[ptr bz,ptr bx,ptr bz] w fun e w' => e = .returned (ptr bz) ∧ RDone w0 w w' bz sz (X - Y) :=by
  obtain ⟨sz,nz,cz,hr,hy⟩ :=hz.recv hk1
  obtain ⟨sx,nx,cx,hx⟩ :=hx
  have hd :=hr.dis hx
  have hx :=hx.kept (kt hk1 hk2)
  exact ⟨sz,hy.lt0,int_sub w0 w bz bx bz sz sx sz nz cz nx cx nz cz X Y (hr.keep hk2) hx (hy.kept hk2) (natBig hx.nat hX) (natBig hy.nat hY) hd.1.sep (.inl rfl)⟩
theorem int_sub_x (w0 w1 w : World) (bz by' : Nat) (X Y : Int) (hz : IntN w0 w1 bz X) (hk1 : Kept w0 w1) (hk2 : Kept w1 w) (hy : IntAt w0 by' Y) (hX : X.natAbs < W39) (hY : Y.natAbs < W39) : ∃ sz,(∀ a,sz = some a → a.block < w1.heap.size) ∧ Calls Tryz.prog 102 #[ptr bz,ptr bz,ptr by'] w fun e w' => e = .returned (ptr bz) ∧ RDone w0 w w' bz sz (X - Y) :=by
  obtain ⟨sz,nz,cz,hr,hx⟩ :=hz.recv hk1
  obtain ⟨sy,ny,cy,hy⟩ :=hy
  have hd :=hr.dis hy
  have hy :=hy.kept (kt hk1 hk2)
  exact ⟨sz,hx.lt0,int_sub w0 w bz bz by' sz sz sy nz cz nz cz ny cy X Y (hr.keep hk2) (hx.kept hk2) hy (natBig hx.nat hX) (natBig hy.nat hY) (.inl rfl) hd.1.sep⟩
theorem int_sub_n (w0 w : World) (bz bx by' : Nat) (X Y : Int) (hz : ZeroInt w bz) (hb : w0.heap.size ≤ bz) (hk : Kept w0 w) (hx : IntAt w bx X) (hy : IntAt w by' Y) (hX : X.natAbs < W39) (hY : Y.natAbs < W39) : Calls Tryz.prog 102 #[ptr bz,ptr bx,ptr by'] w fun e w' => e = .returned (ptr bz) ∧ RDone w0 w w' bz none (X - Y) :=by
  obtain ⟨sx,nx,cx,hx⟩ :=hx
  obtain ⟨sy,ny,cy,hy⟩ :=hy
  exact int_sub w0 w bz bx by' none sx sy 0 0 nx cx ny cy X Y (hz.recv hb hk) hx hy (natBig hx.nat hX) (natBig hy.nat hY) (Dis.nil _).sep (Dis.nil _).sep
theorem dec_sub_lt (w : World) (hg : Glob w) (b1 b2 : Nat) (e1 e2 X Y : Int) (h1 : IntAt w b1 X) (h2 : IntAt w b2 Y) (hX : X.natAbs < W39) (hY : Y.natAbs < W39) (hlt : e1 < e2) (l1 : -512 < e1) (u2 : e2 < 512) (hd : e2 - e1 ≤ 420) (hY2 : (Y * (10 ^ (e2 - e1).toNat : Nat)).natAbs < W39) :
    Calls Tryz.prog 72 #[dv b1 e1,dv b2 e2] w (NewDec w (X - Y * (10 ^ (e2 - e1).toNat : Nat)) e1) :=by
  have hW :=box3K w (ptr b1) (.int .i32 e1) (ptr b2) (.int .i32 e2)
  have hS :=box3S w (ptr b1) (.int .i32 e1) (ptr b2) (.int .i32 e2)
  have hR :=box3R w (ptr b1) (.int .i32 e1) (ptr b2) (.int .i32 e2)
  have hre :=dec_rescale (B3 w b1 b2 e1 e2) (hg.kept hW) b2 e2 e1 Y (h2.kept hW) hY hlt l1 u2 hd
  generalize (10 ^ (e2 - e1).toNat : Nat) = T at *
  have hc0 :=box3c0 w (ptr b1) (.int .i32 e1) (ptr b2) (.int .i32 e2)
  have HS :=Lib.hid (And.intro hS (And.intro hW (And.intro hR hc0)))
  clear hS hW hR hc0
  go_enter Tryz.func72,Tryz.ntmps72
  go_wp2_with (first
    | (go_at_call 99;refine hre.mono ?_;rintro r w1 ⟨b',rfl,k1,k2⟩;have G :=Chg.size k2;rw [HS.out.1] at G;
       have p0 :=box0 w1 (ptr b') (.int .i32 e1);have p1 :=box1 w1 (ptr b') (.int .i32 e1);have KP :=boxK w1 (ptr b') (.int .i32 e1);
       have t0 :=Kept.at (kt k2 KP) HS.out.2.2.2.1;have t1 :=Kept.at (kt k2 KP) HS.out.2.2.2.2.1)
    | (refine wp_region_lit_segs (id :=3) [[0,1,2,4,5,3],[6]] mixed (by kernel_rfl) ?_;simp only [wpSegsL,gaC,gaN,lZ0,lS0,coS])
    | refine ⟨by kernel_rfl,?_⟩
    | refine ⟨by kernel_rfl,oldD (by first | assumption | exact Chg.refl _ _ | exact (Chg.refl _ _).drew | exact kt (by first | assumption | exact (Chg.refl _ _).drew | exact Chg.refl _ _) (ziK _) | exact Chg.drew (by assumption)),?_⟩
    | refine ⟨oldD (by first | assumption | exact Chg.refl _ _ | exact (Chg.refl _ _).drew | exact kt (by first | assumption | exact (Chg.refl _ _).drew | exact Chg.refl _ _) (ziK _) | exact Chg.drew (by assumption)),?_⟩
    | (with_reducible refine And.intro ?_ ?_)
    | (go_at_call 88;refine (dec_getValue _ _ _).mono ?_;rintro r w3 ⟨rfl,k⟩;have k :=k.of_drew;have K3 :=kt KP k;have q0 :=Kept.at k p0;have q1 :=Kept.at k p1)
    | (go_at_call 102;obtain ⟨sz,hsz,hc⟩ :=int_sub_y (B3 w b1 b2 e1 e2) w1 w3 b' b1 X _ k1 k2 K3 (h1.kept HS.out.2.1) hX hY2;refine hc.mono ?_;rintro r w4 ⟨rfl,d⟩;
       have hb' :=k1.at.lt;have r0 :=d.at q0 (by omega) (fun a ha => by have :=hsz a ha;omega);have r1 :=d.at q1 (by omega) (fun a ha => by have :=hsz a ha;omega);
       have S :=HS.out.2.2.1.kept d.2.1;obtain ⟨⟨u0,s0⟩,⟨u1,s1⟩,sf⟩ :=id S;have f0 :=sf 0;have f1 :=sf 1;have s2 :=cs_ne (u :=ptr b') s1 (b' :=w.heap.size + 2) (o' :=0) (by omega)))
  first
    | refine ⟨dv _ e1,results_dec rfl rfl (put2_0 S _ _) (put2_1 S _ _),_,rfl,dec_ret (by omega) ?_ HS.out.2.1 d.1 d.2.1 _ _⟩
    | refine bodyPost_ret (v :=dv _ e1) (results_dec rfl rfl (put2_0 S _ _) (put2_1 S _ _)) rfl ⟨_,rfl,dec_ret (by omega) ?_ HS.out.2.1 d.1 d.2.1 _ _⟩
  rw [HS.out.1]
  omega
theorem dec_sub_gt (w : World) (hg : Glob w) (b1 b2 : Nat) (e1 e2 X Y : Int) (h1 : IntAt w b1 X) (h2 : IntAt w b2 Y) (hX : X.natAbs < W39) (hY : Y.natAbs < W39) (hlt : e2 < e1) (l1 : -512 < e2) (u2 : e1 < 512) (hd : e1 - e2 ≤ 420) (hX2 : (X * (10 ^ (e1 - e2).toNat : Nat)).natAbs < W39) :
    Calls Tryz.prog 72 #[dv b1 e1,dv b2 e2] w (NewDec w (X * (10 ^ (e1 - e2).toNat : Nat) - Y) e2) :=by
  have hW :=box3K w (ptr b1) (.int .i32 e1) (ptr b2) (.int .i32 e2)
  have hS :=box3S w (ptr b1) (.int .i32 e1) (ptr b2) (.int .i32 e2)
  have hR :=box3R w (ptr b1) (.int .i32 e1) (ptr b2) (.int .i32 e2)
  have hre :=dec_rescale (B3 w b1 b2 e1 e2) (hg.kept hW) b1 e1 e2 X (h1.kept hW) hX hlt l1 u2 hd
  generalize (10 ^ (e1 - e2).toNat : Nat) = T at *
  have hc0 :=box3c0 w (ptr b1) (.int .i32 e1) (ptr b2) (.int .i32 e2)
  have HS :=Lib.hid (And.intro hS (And.intro hW (And.intro hR hc0)))
  have hnl : ¬ e1 < e2 :=by omega
  clear hS hW hR hc0
  go_enter Tryz.func72,Tryz.ntmps72
  go_wp2_with (first
    | (go_at_call 99;refine hre.mono ?_;rintro r w1 ⟨b',rfl,k1,k2⟩;have G :=Chg.size k2;rw [HS.out.1] at G;
       have p0 :=box0 w1 (ptr b') (.int .i32 e2);have p1 :=box1 w1 (ptr b') (.int .i32 e2);have KP :=boxK w1 (ptr b') (.int .i32 e2);
       have t0 :=Kept.at (kt k2 KP) HS.out.2.2.2.2.2.1;have t1 :=Kept.at (kt k2 KP) HS.out.2.2.2.2.2.2)
    | (refine wp_region_lit_segs (id :=7) [[0,1,2,3,4,5],[6]] mixed (by kernel_rfl) ?_;simp only [wpSegsL,gaC,gaN,lZ0,lS0,coS])
    | refine ⟨by kernel_rfl,?_⟩
    | refine ⟨by kernel_rfl,oldD (by first | assumption | exact Chg.refl _ _ | exact (Chg.refl _ _).drew | exact kt (by first | assumption | exact (Chg.refl _ _).drew | exact Chg.refl _ _) (ziK _) | exact Chg.drew (by assumption)),?_⟩
    | refine ⟨oldD (by first | assumption | exact Chg.refl _ _ | exact (Chg.refl _ _).drew | exact kt (by first | assumption | exact (Chg.refl _ _).drew | exact Chg.refl _ _) (ziK _) | exact Chg.drew (by assumption)),?_⟩
    | (with_reducible refine And.intro ?_ ?_)
    | (go_at_call 88;refine (dec_getValue _ _ _).mono ?_;rintro r w3 ⟨rfl,k⟩;have k :=k.of_drew;have K3 :=kt KP k;have q0 :=Kept.at k p0;have q1 :=Kept.at k p1)
    | (go_at_call 102;obtain ⟨sz,hsz,hc⟩ :=int_sub_x (B3 w b1 b2 e1 e2) w1 w3 b' b2 _ Y k1 k2 K3 (h2.kept HS.out.2.1) hX2 hY;refine hc.mono ?_;rintro r w4 ⟨rfl,d⟩;
       have hb' :=k1.at.lt;have r0 :=d.at q0 (by omega) (fun a ha => by have :=hsz a ha;omega);have r1 :=d.at q1 (by omega) (fun a ha => by have :=hsz a ha;omega);
       have S :=HS.out.2.2.1.kept d.2.1;obtain ⟨⟨u0,s0⟩,⟨u1,s1⟩,sf⟩ :=id S;have f0 :=sf 0;have f1 :=sf 1;have s2 :=cs_ne (u :=ptr b') s1 (b' :=w.heap.size + 2) (o' :=0) (by omega)))
  first
    | refine ⟨dv _ e2,results_dec rfl rfl (put2_0 S _ _) (put2_1 S _ _),_,rfl,dec_ret (by omega) ?_ HS.out.2.1 d.1 d.2.1 _ _⟩
    | refine bodyPost_ret (v :=dv _ e2) (results_dec rfl rfl (put2_0 S _ _) (put2_1 S _ _)) rfl ⟨_,rfl,dec_ret (by omega) ?_ HS.out.2.1 d.1 d.2.1 _ _⟩
  rw [HS.out.1]
  omega
theorem dec_sub_eq (w : World) (b1 b2 : Nat) (e1 X Y : Int) (h1 : IntAt w b1 X) (h2 : IntAt w b2 Y) (hX : X.natAbs < W39) (hY : Y.natAbs < W39) :
    Calls Tryz.prog 72 #[dv b1 e1,dv b2 e1] w (NewDec w (X - Y) e1) :=by
  have hlt1 :=h1.lt
  have hlt2 :=h2.lt
  have hW :=box3K w (ptr b1) (.int .i32 e1) (ptr b2) (.int .i32 e1)
  have hS :=box3S w (ptr b1) (.int .i32 e1) (ptr b2) (.int .i32 e1)
  have hR :=box3R w (ptr b1) (.int .i32 e1) (ptr b2) (.int .i32 e1)
  have hm : ∀ w4 bz,Kept (B3 w b1 b2 e1 e1) w4 → w.heap.size + 3 ≤ bz → ZeroInt w4 bz → Calls Tryz.prog 102 #[ptr bz,ptr b1,ptr b2] w4 fun e w' => e = .returned (ptr bz) ∧ RDone (B3 w b1 b2 e1 e1) w4 w' bz none (X - Y) :=by
    intro w4 bz q1 q2 q3
    have kw :=kt hW q1
    exact int_sub_n (B3 w b1 b2 e1 e1) w4 bz b1 b2 X Y q3 (by rw [hS];exact q2) q1 (h1.kept kw) (h2.kept kw) hX hY
  have HM :=Lib.hid hm
  have hc0 :=box3c0 w (ptr b1) (.int .i32 e1) (ptr b2) (.int .i32 e1)
  have HS :=Lib.hid (And.intro hS (And.intro hW (And.intro hR hc0)))
  clear hm hS hW hR hc0
  go_enter Tryz.func72,Tryz.ntmps72
  go_wp2_with (first
    | (refine wp_region_lit_plan (id :=9) (.seg [1,3] (.two 0 2 (.seg [2] (.seg [4] (.seg [5] (.seg [6] .fin)))) (.two 0 4 (.seg [4] (.seg [5] (.seg [6] .fin))) (.seg [0] (.seg [5] (.seg [6] .fin)))))) mixed (by kernel_rfl) ?_;simp only [wpPlanL,gaC,gaN,lZ0,lS0,coS])
    | refine ⟨by kernel_rfl,?_⟩
    | refine ⟨by kernel_rfl,oldD (by first | assumption | exact Chg.refl _ _ | exact (Chg.refl _ _).drew | exact kt (by first | assumption | exact (Chg.refl _ _).drew | exact Chg.refl _ _) (ziK _) | exact Chg.drew (by assumption)),?_⟩
    | refine ⟨oldD (by first | assumption | exact Chg.refl _ _ | exact (Chg.refl _ _).drew | exact kt (by first | assumption | exact (Chg.refl _ _).drew | exact Chg.refl _ _) (ziK _) | exact Chg.drew (by assumption)),?_⟩
    | (with_reducible refine And.intro ?_ ?_)
    | (go_at_call 88;refine (dec_getValue _ _ _).mono ?_;rintro r w1 ⟨rfl,k⟩;have K : Kept (B3 w b1 b2 e1 e1) w1 :=kt (by first | assumption | exact Chg.refl _ _ | exact (Chg.refl _ _).drew | exact kt (by first | assumption | exact (Chg.refl _ _).drew | exact Chg.refl _ _) (ziK _) | exact Chg.drew (by assumption)) k;have G : w.heap.size + 3 ≤ w1.heap.size :=(by have q :=Chg.size K;rw [HS.out.1] at q;exact q);first | have Z :=(ZeroInt.made _).kept k | have Z :=(ZeroInt.made _).kept k.of_drew | have Z :=Z.kept k | skip;clear k)
    | (go_at_call 102;refine (HM.out _ _ (by first | assumption | exact Chg.refl _ _ | exact (Chg.refl _ _).drew | exact kt (by first | assumption | exact (Chg.refl _ _).drew | exact Chg.refl _ _) (ziK _) | exact Chg.drew (by assumption)) (by omega) (by first | exact Z | exact ZeroInt.made _ | simpa using Z)).mono ?_;rintro r w5 ⟨rfl,d⟩;have K5 :=d.2.1;have S :=HS.out.2.2.1.kept d.2.1;obtain ⟨⟨u0,s0⟩,⟨u1,s1⟩,sf⟩ :=id S;have f0 :=sf 0;have f1 :=sf 1;have t1 :=Kept.at d.2.1 HS.out.2.2.2.2.1))
  all_goals
    refine ⟨dv _ e1,results_dec rfl rfl (put2_0 S _ _) (put2_1 S _ _),_,rfl,dec_ret (by omega) ?_ HS.out.2.1 d.1 d.2.1 _ _⟩
    rw [HS.out.1]
    omega
end Go.Proofs.YtfmmdamgcpiciaaGreatDoor
namespace Go.Proofs.YtfmmdamgcpiciaaGreatDoor
open Go Go.RowKit
theorem dec_fromInt (w : World) (x : Int) (h1 : -9223372036854775808 ≤ x) (h2 : x ≤ 9223372036854775807) : Calls Tryz.prog 56 #[.int .i64 x] w (NewDec w x 0) :=by
  have hn :=fun W => int_new W x h1 h2
  go_enter Tryz.func56,Tryz.ntmps56
  go_wp2_with (first
    | (go_at_call 93;refine (hn _).mono ?_;rintro r w1 ⟨b,rfl,k1,k2⟩;have S :=(Slot.made w (.pointer none) (.int .i32 0)).kept k2;obtain ⟨⟨u0,s0⟩,⟨u1,s1⟩,sf⟩ :=id S;have f0 :=sf 0;have f1 :=sf 1;have s2 :=cs_ne (u :=ptr b) s1 (b' :=w.heap.size) (o' :=0) (by omega)))
  exact bodyPost_ret (v :=dv b 0) (results_dec rfl rfl (put2_0 S _ _) (put2_1 S _ _)) rfl ⟨b,rfl,dec_ret (Nat.le_refl _) (by simp) (boxK _ _ _) k1 k2 _ _⟩
theorem dec_make (w : World) (b : Nat) (e : Int) : Calls Tryz.prog 53 #[ptr b,.int .i32 e] w fun r w' => r = .returned (dv b e) ∧ Kept w w' :=by
  go_enter Tryz.func53,Tryz.ntmps53
  go_wp2
  exact bodyPost_ret (v :=dv b e) (results_dec rfl rfl (box0 w (ptr b) (.int .i32 e)) (box1 w (ptr b) (.int .i32 e))) rfl ⟨rfl,boxK w _ _⟩
theorem dec_value (w : World) (b : Nat) (e : Int) : Calls Tryz.prog 58 #[dv b e] w fun r w' => r = .returned (ptr b) ∧ Kept w w' :=by
  go_enter Tryz.func58,Tryz.ntmps58
  go_wp2_with (go_at_call 88;refine (dec_getValue _ b e).mono ?_;rintro r w1 ⟨rfl,k⟩;have K :=Lib.hid (kt (boxK _ _ _) k);clear k)
  first | go_ret | refine ⟨_,results_tmp rfl _ _ _,?_⟩
  exact ⟨rfl,K.out⟩
theorem dec_exponent (w : World) (b : Nat) (e : Int) : Calls Tryz.prog 59 #[dv b e] w fun r w' => r = .returned (.int .i32 e) ∧ Kept w w' :=by
  go_enter Tryz.func59,Tryz.ntmps59
  go_wp2
  first | go_ret | refine ⟨_,results_tmp rfl _ _ _,?_⟩
  exact ⟨rfl,boxK _ _ _⟩
theorem dec_isZero (w : World) (b : Nat) (e X : Int) (h : IntAt w b X) : Calls Tryz.prog 64 #[dv b e] w fun r w' => r = .returned (.bool (decide (X = 0))) ∧ Kept w w' :=by
  have hs :=fun W (hW : Kept w W) => dec_sign W b e X (h.kept hW)
  have hv : (X.sign == 0) = decide (X = 0) :=by rw [Bool.eq_iff_iff];simp [Int.sign_eq_zero_iff_zero]
  generalize X.sign = g at *
  generalize decide (X = 0) = r at *
  go_enter Tryz.func64,Tryz.ntmps64
  go_wp2_with (go_at_call 90;refine (hs _ (boxK _ _ _)).mono ?_;rintro r w1 ⟨rfl,k⟩;have K :=Lib.hid (kt (boxK _ _ _) k);clear k)
  first | go_ret | refine ⟨_,results_tmp rfl _ _ _,?_⟩
  exact ⟨rfl,K.out⟩
theorem dec_isNegative (w : World) (b : Nat) (e X : Int) (h : IntAt w b X) : Calls Tryz.prog 65 #[dv b e] w fun r w' => r = .returned (.bool (decide (X < 0))) ∧ Kept w w' :=by
  have hs :=fun W (hW : Kept w W) => dec_sign W b e X (h.kept hW)
  have hv : (X.sign == -1) = decide (X < 0) :=by rw [Bool.eq_iff_iff];simp [Int.sign_eq_neg_one_iff_neg]
  generalize X.sign = g at *
  generalize decide (X < 0) = r at *
  go_enter Tryz.func65,Tryz.ntmps65
  go_wp2_with (go_at_call 90;refine (hs _ (boxK _ _ _)).mono ?_;rintro r w1 ⟨rfl,k⟩;have K :=Lib.hid (kt (boxK _ _ _) k);clear k)
  first | go_ret | refine ⟨_,results_tmp rfl _ _ _,?_⟩
  exact ⟨rfl,K.out⟩
theorem dec_neg (w : World) (b : Nat) (e X : Int) (h : IntAt w b X) : Calls Tryz.prog 66 #[dv b e] w (NewDec w (-X) e) :=by
  have hlt :=h.lt
  have hW :=box2K w (ptr b) (.int .i32 e)
  have hS :=box2S w (ptr b) (.int .i32 e)
  have hR :=box2R w (ptr b) (.int .i32 e)
  have hm : ∀ w4,Kept (Zi (Box2 w (ptr b) (.int .i32 e))) w4 → Calls Tryz.prog 86 #[ptr (w.heap.size + 2),ptr b] w4 fun r w' => r = .returned (ptr (w.heap.size + 2)) ∧ IntN (Box2 w (ptr b) (.int .i32 e)) w' (w.heap.size + 2) (-X) ∧ Kept (Box2 w (ptr b) (.int .i32 e)) w' :=by
    intro w4 q1
    have kz :=kt (ziK (Box2 w (ptr b) (.int .i32 e))) q1
    have hZ : ZeroInt (Zi (Box2 w (ptr b) (.int .i32 e))) (w.heap.size + 2) :=by rw [← hS];exact ZeroInt.made _
    exact int_neg _ w4 kz _ b (by rw [hS];omega) (hZ.kept q1) X (h.kept (kt hW kz)) (by omega)
  have hc0 :=Kept.at (boxK (Box w (ptr b) (.int .i32 e)) (.pointer none) (.int .i32 0)) (box1 w (ptr b) (.int .i32 e))
  have HM :=Lib.hid hm
  have HS :=Lib.hid (And.intro hS (And.intro hW (And.intro hR hc0)))
  clear hm hS hW hR hc0
  go_enter Tryz.func66,Tryz.ntmps66
  go_wp2_with (first
    | (go_at_call 88;refine (dec_getValue _ _ _).mono ?_;rintro r w1 ⟨rfl,k⟩;have K : Kept (Zi (Box2 w (ptr b) (.int .i32 e))) w1 :=k;have G : w.heap.size + 3 ≤ w1.heap.size :=(by have q :=Chg.size K;simp at q;omega))
    | (go_at_call 86;refine (HM.out w1 K).mono ?_;rintro r w5 ⟨rfl,k1,k2⟩;have S :=HS.out.2.2.1.kept k2;obtain ⟨⟨u0,s0⟩,⟨u1,s1⟩,sf⟩ :=id S;have f0 :=sf 0;have f1 :=sf 1;have t1 :=Kept.at k2 HS.out.2.2.2))
  first
    | refine ⟨dv _ e,results_dec rfl rfl (put2_0 S _ _) (put2_1 S _ _),_,rfl,dec_ret (by omega) ?_ HS.out.2.1 k1 k2 _ _⟩
    | refine bodyPost_ret (v :=dv _ e) (results_dec rfl rfl (put2_0 S _ _) (put2_1 S _ _)) rfl ⟨_,rfl,dec_ret (by omega) ?_ HS.out.2.1 k1 k2 _ _⟩
  rw [HS.out.1]
  omega
end Go.Proofs.YtfmmdamgcpiciaaGreatDoor
namespace Go.Proofs.YtfmmdamgcpiciaaGreatDoor
open Go Go.RowKit
theorem dec_abs (w : World) (b : Nat) (e X : Int) (h : IntAt w b X) : Calls Tryz.prog 54 #[dv b e] w fun r w' => ∃ b',r = .returned (dv b' e) ∧ IntAt w' b' X.natAbs ∧ Kept w w' :=by
  have hlt :=h.lt
  have hW :=box2K w (ptr b) (.int .i32 e)
  have hS :=box2S w (ptr b) (.int .i32 e)
  have hR :=box2R w (ptr b) (.int .i32 e)
  have hc0 :=Kept.at (boxK (Box w (ptr b) (.int .i32 e)) (.pointer none) (.int .i32 0)) (box0 w (ptr b) (.int .i32 e))
  have hc1 :=Kept.at (boxK (Box w (ptr b) (.int .i32 e)) (.pointer none) (.int .i32 0)) (box1 w (ptr b) (.int .i32 e))
  have hs :=fun W (hW : Kept w W) => dec_isNegative W b e X (h.kept hW)
  have hm : ∀ w3 w4,Kept (Box2 w (ptr b) (.int .i32 e)) w3 → Kept (Zi w3) w4 → Calls Tryz.prog 87 #[ptr w3.heap.size,ptr b] w4 fun r w' => r = .returned (ptr w3.heap.size) ∧ IntN (Box2 w (ptr b) (.int .i32 e)) w' w3.heap.size X.natAbs ∧ Kept (Box2 w (ptr b) (.int .i32 e)) w' :=by
    intro w3 w4 q0 q1
    have kz :=kt q0 (kt (ziK w3) q1)
    have g :=Chg.size q0
    rw [hS] at g
    exact int_abs _ w4 kz _ b (by rw [hS];omega) ((ZeroInt.made _).kept q1) X (h.kept (kt hW kz)) (by omega)
  have HM :=Lib.hid hm
  have HS :=Lib.hid (And.intro hS (And.intro hW (And.intro hR (And.intro hc0 hc1))))
  have HX :=Lib.hid h
  by_cases hneg : X < 0
  · have hd : decide (X < 0) = true :=by simpa using hneg
    rw [hd] at hs
    clear hm hS hW hR hc0 hc1 hd h
    go_enter Tryz.func54,Tryz.ntmps54
    go_wp2_with (first
      | (go_at_call 65;refine (hs _ (kt (boxK _ _ _) (boxK _ _ _))).mono ?_;rintro r w3 ⟨rfl,k3⟩;have t1 :=Kept.at k3 HS.out.2.2.2.1;have t2 :=Kept.at k3 HS.out.2.2.2.2;have t1z :=Kept.at (ziK w3) t1;have t2z :=Kept.at (ziK w3) t2)
      | (go_at_call 88;refine (dec_getValue _ _ _).mono ?_;rintro r w1 ⟨rfl,k⟩;have K : Kept (Zi w3) w1 :=k;have t2 :=Kept.at (kt (ziK _) K) t2)
      | (go_at_call 87;refine (HM.out w3 w1 k3 K).mono ?_;rintro r w5 ⟨rfl,k1,k2⟩;have S :=HS.out.2.2.1.kept k2;obtain ⟨⟨u0,s0⟩,⟨u1,s1⟩,sf⟩ :=id S;have f0 :=sf 0;have f1 :=sf 1;have t2 :=Kept.at k2 HS.out.2.2.2.2))
    have hd :=dec_ret (w :=w) (W :=Box2 w (ptr b) (.int .i32 e)) (r :=w.heap.size + 1) (by omega) (by rw [HS.out.1];omega) HS.out.2.1 k1 k2 (ptr w3.heap.size) (.int .i32 e)
    first
      | exact ⟨dv _ e,results_dec rfl rfl (put2_0 S _ _) (put2_1 S _ _),_,rfl,hd.1.at,hd.2⟩
      | exact bodyPost_ret (v :=dv _ e) (results_dec rfl rfl (put2_0 S _ _) (put2_1 S _ _)) rfl ⟨_,rfl,hd.1.at,hd.2⟩
  · have hd : decide (X < 0) = false :=by simpa using hneg
    rw [hd] at hs
    clear hm hS hW hR hc0 hc1 hd h
    go_enter Tryz.func54,Tryz.ntmps54
    go_wp2_with (first
      | (go_at_call 65;refine (hs _ (kt (boxK _ _ _) (boxK _ _ _))).mono ?_;rintro r w3 ⟨rfl,k3⟩;have t1 :=Kept.at k3 HS.out.2.2.2.1;have t2 :=Kept.at k3 HS.out.2.2.2.2;have S :=HS.out.2.2.1.kept k3;obtain ⟨⟨u0,s0⟩,⟨u1,s1⟩,sf⟩ :=id S;have f0 :=sf 0;have f1 :=sf 1;have s2 :=cs_ne (u :=ptr b) s1 (b' :=w.heap.size + 1) (o' :=0) (by omega)))
    have kk :=(kt HS.out.2.1 k3).keptNew (put2_chg w3 (w.heap.size + 1) (ptr b) (.int .i32 e)) (fun b' _ h => by omega)
    have hX :=HX.out.kept kk
    have e1 : X = ((X.natAbs : Nat) : Int) :=by omega
    first
      | exact ⟨dv b e,results_dec rfl rfl (put2_0 S _ _) (put2_1 S _ _),_,rfl,e1 ▸ hX,kk⟩
      | exact bodyPost_ret (v :=dv b e) (results_dec rfl rfl (put2_0 S _ _) (put2_1 S _ _)) rfl ⟨_,rfl,e1 ▸ hX,kk⟩
abbrev Bx2 (w : World) (a0 a1 b0 b1 : Value) : World :=Box (Box w a0 a1) b0 b1
theorem bx2K (w : World) (a0 a1 b0 b1 : Value) : Kept w (Bx2 w a0 a1 b0 b1) :=kt (boxK _ _ _) (boxK _ _ _)
theorem bx2S (w : World) (a0 a1 b0 b1 : Value) : (Bx2 w a0 a1 b0 b1).heap.size = w.heap.size + 2 :=by simp
theorem bx2c (w : World) (a0 a1 b0 b1 : Value) : (Bx2 w a0 a1 b0 b1).cell? ⟨w.heap.size,0,none⟩ = some a0 ∧ (Bx2 w a0 a1 b0 b1).cell? ⟨w.heap.size,1,none⟩ = some a1 ∧ (Bx2 w a0 a1 b0 b1).cell? ⟨w.heap.size + 1,0,none⟩ = some b0 ∧ (Bx2 w a0 a1 b0 b1).cell? ⟨w.heap.size + 1,1,none⟩ = some b1 :=by
  have k1 :=boxK (Box w a0 a1) b0 b1
  have c0 :=box0 (Box w a0 a1) b0 b1
  have c1 :=box1 (Box w a0 a1) b0 b1
  rw [boxS] at c0 c1
  exact ⟨Kept.at k1 (box0 w a0 a1),Kept.at k1 (box1 w a0 a1),c0,c1⟩
theorem dec_cmp_eq (w : World) (b1 b2 : Nat) (e X Y : Int) (h1 : IntAt w b1 X) (h2 : IntAt w b2 Y) : Calls Tryz.prog 55 #[dv b1 e,dv b2 e] w fun r w' => r = .returned (.int .i64 (cmpZ X Y)) ∧ Kept w w' :=by
  have hW :=bx2K w (ptr b1) (.int .i32 e) (ptr b2) (.int .i32 e)
  have hc :=bx2c w (ptr b1) (.int .i32 e) (ptr b2) (.int .i32 e)
  have hm :=fun W (hW : Kept w W) => int_cmp W b1 b2 X Y (h1.kept hW) (h2.kept hW)
  have HS :=Lib.hid (And.intro hW hc)
  clear hW hc
  go_enter Tryz.func55,Tryz.ntmps55
  go_wp2_with (first
    | (refine wp_region_lit_segs (id :=2) [[0,2,1],[3,4,5]] mixed (by kernel_rfl) ?_;simp only [wpSegsL,gaC,gaN,lZ0,lS0,coS])
    | refine ⟨by kernel_rfl,?_⟩
    | refine ⟨by kernel_rfl,oldD (by first | assumption | exact Chg.refl _ _ | exact (Chg.refl _ _).drew | exact kt (by first | assumption | exact (Chg.refl _ _).drew | exact Chg.refl _ _) (ziK _) | exact Chg.drew (by assumption)),?_⟩
    | refine ⟨oldD (by first | assumption | exact Chg.refl _ _ | exact (Chg.refl _ _).drew | exact kt (by first | assumption | exact (Chg.refl _ _).drew | exact Chg.refl _ _) (ziK _) | exact Chg.drew (by assumption)),?_⟩
    | (with_reducible refine And.intro ?_ ?_)
    | (go_at_call 88;refine (dec_getValue _ _ _).mono ?_;rintro r w1 ⟨rfl,k⟩;have K : Kept (Bx2 w (ptr b1) (.int .i32 e) (ptr b2) (.int .i32 e)) w1 :=kt (by first | assumption | exact Chg.refl _ _ | exact (Chg.refl _ _).drew | exact kt (by first | assumption | exact (Chg.refl _ _).drew | exact Chg.refl _ _) (ziK _) | exact Chg.drew (by assumption)) k)
    | (go_at_call 89;refine (hm _ (kt HS.out.1 (by first | assumption | exact Chg.refl _ _ | exact (Chg.refl _ _).drew | exact kt (by first | assumption | exact (Chg.refl _ _).drew | exact Chg.refl _ _) (ziK _) | exact Chg.drew (by assumption)))).mono ?_;rintro r w2 ⟨rfl,k⟩;have K :=kt K k;have KK :=Lib.hid (kt HS.out.1 K)))
  first | go_ret | refine ⟨_,results_tmp rfl _ _ _,?_⟩
  exact ⟨rfl,KK.out⟩
end Go.Proofs.YtfmmdamgcpiciaaGreatDoor
namespace Go.Proofs.YtfmmdamgcpiciaaGreatDoor
open Go Go.RowKit
theorem sign_lt {A B : Int} (h : A.sign < B.sign) : A < B :=by
  have a1 : A.sign = -1 ∧ A < 0 ∨ A.sign = 0 ∧ A = 0 ∨ A.sign = 1 ∧ 0 < A :=by
    rcases Int.lt_trichotomy A 0 with h | h | h
    · exact .inl ⟨Int.sign_eq_neg_one_of_neg h,h⟩
    · exact .inr (.inl ⟨by rw [h];rfl,h⟩)
    · exact .inr (.inr ⟨Int.sign_eq_one_of_pos h,h⟩)
  have a2 : B.sign = -1 ∧ B < 0 ∨ B.sign = 0 ∧ B = 0 ∨ B.sign = 1 ∧ 0 < B :=by
    rcases Int.lt_trichotomy B 0 with h | h | h
    · exact .inl ⟨Int.sign_eq_neg_one_of_neg h,h⟩
    · exact .inr (.inl ⟨by rw [h];rfl,h⟩)
    · exact .inr (.inr ⟨Int.sign_eq_one_of_pos h,h⟩)
  omega
theorem dec_cmp_zero (T : Nat) : cmpZ 0 (0 * (T : Int)) = 0 ∧ cmpZ (0 * (T : Int)) 0 = 0 :=by simp [cmpZ]
theorem dec_cmp_lt_val (X Y : Int) (T : Nat) (hT : 0 < T) (hs : X.sign ≠ Y.sign) : cmpZ X (Y * (T : Int)) = if Y.sign < X.sign then 1 else -1 :=by
  have hT' : (0 : Int) < (T : Int) :=by omega
  have sg : (Y * (T : Int)).sign = Y.sign :=by rw [Int.sign_mul,Int.sign_eq_one_of_pos hT',Int.mul_one]
  generalize Y * (T : Int) = Z at *
  unfold cmpZ
  rcases Int.lt_or_gt_of_ne hs with h | h
  · have :=sign_lt (show X.sign < Z.sign by omega)
    rw [if_pos this,if_neg (by omega)]
  · have :=sign_lt (show Z.sign < X.sign by omega)
    rw [if_neg (by omega),if_pos this,if_pos h]
theorem dec_cmp_lt (w : World) (hg : Glob w) (b1 b2 : Nat) (e1 e2 X Y : Int) (h1 : IntAt w b1 X) (h2 : IntAt w b2 Y) (hX : X.natAbs < W39) (hY : Y.natAbs < W39) (hlt : e1 < e2) (l1 : -1000000 ≤ e1) (u1 : e1 ≤ 1000000) (l2 : -1000000 ≤ e2) (u2 : e2 ≤ 1000000) (hd : e2 - e1 ≤ 420) :
    Calls Tryz.prog 55 #[dv b1 e1,dv b2 e2] w fun r w' => r = .returned (.int .i64 (cmpZ X (Y * (10 ^ (e2 - e1).toNat : Nat)))) ∧ Kept w w' :=by
  have hlt1 :=h1.lt
  have hlt2 :=h2.lt
  have hW :=bx2K w (ptr b1) (.int .i32 e1) (ptr b2) (.int .i32 e2)
  have hS :=bx2S w (ptr b1) (.int .i32 e1) (ptr b2) (.int .i32 e2)
  have hc :=bx2c w (ptr b1) (.int .i32 e1) (ptr b2) (.int .i32 e2)
  have hs1 :=fun W (hW : Kept w W) => dec_sign W b1 e1 X (h1.kept hW)
  have hs2 :=fun W (hW : Kept w W) => dec_sign W b2 e2 Y (h2.kept hW)
  have hT : 0 < 10 ^ (e2 - e1).toNat :=Nat.pow_pos (by omega)
  have hval :=dec_cmp_lt_val X Y (10 ^ (e2 - e1).toNat) hT
  have hne : (e1 == e2) = false :=by simp;omega
  have hnl : (e2 - e1).toNat ≤ 420 :=by omega
  have hde : e2 - e1 = (((e2 - e1).toNat : Nat) : Int) :=by omega
  have hT2 : 10 ^ (e2 - e1).toNat < W39 :=Nat.lt_of_lt_of_le (pow10_lt2 hnl) (Nat.pow_le_pow_right (by decide) (by decide))
  have hp :=fun W (hW : Kept w W) => pow10 W (hg.kept hW) (e2 - e1).toNat hnl
  rw [← hde] at hp
  generalize (e2 - e1).toNat = n at *
  have hm : ∀ w3 w4 b',Kept w w3 → Kept (Zi w3) w4 → w3.heap.size < b' → IntAt w4 b' (10 ^ n : Nat) → Calls Tryz.prog 91 #[ptr w3.heap.size,ptr b2,ptr b'] w4 fun r w' => r = .returned (ptr w3.heap.size) ∧ IntN w3 w' w3.heap.size (Y * (10 ^ n : Nat)) ∧ Kept w3 w' :=by
    intro w3 w4 b' q0 q1 q2 q3
    have kz :=kt (ziK w3) q1
    have g :=Chg.size q0
    exact int_Mul w3 w4 (hg.kept (kt q0 kz)) kz _ b2 b' (Nat.le_refl _) ((ZeroInt.made _).kept q1) Y _ (h2.kept (kt q0 kz)) q3 (by omega) (by omega) (fun e => by omega) hY (by rw [Int.natAbs_natCast];exact hT2)
  have hz :=dec_cmp_zero (10 ^ n)
  generalize (10 ^ n : Nat) = T at *
  have HM :=Lib.hid hm
  have HS :=Lib.hid (And.intro hW (And.intro hS hc))
  have H1 :=Lib.hid h1
  have H2 :=Lib.hid h2
  clear hm hW hS hc hT hT2 h1 h2 hde
  by_cases hs : X.sign = Y.sign
  · by_cases h0 : X.sign = 0
    · have hv : cmpZ X (Y * (T : Int)) = 0 :=by
        have e1 : X = 0 :=Int.sign_eq_zero_iff_zero.1 h0
        have e2 : Y = 0 :=Int.sign_eq_zero_iff_zero.1 (hs ▸ h0)
        subst e1
        subst e2
        exact hz.1
      rw [hv]
      rw [h0] at hs1
      rw [← hs,h0] at hs2
      clear hv hval hs h0 hz
      go_enter Tryz.func55,Tryz.ntmps55
      go_wp2_with (first
        | (refine wp_region_lit_segs (id :=3) [[0,2,1],[3,4,5]] mixed (by kernel_rfl) ?_;simp only [wpSegsL,gaC,gaN,lZ0,lS0,coS])
        | refine ⟨by kernel_rfl,?_⟩
        | refine ⟨by kernel_rfl,oldD (by first | assumption | exact Chg.refl _ _ | exact (Chg.refl _ _).drew | exact kt (by first | assumption | exact (Chg.refl _ _).drew | exact Chg.refl _ _) (ziK _) | exact Chg.drew (by assumption)),?_⟩
        | refine ⟨oldD (by first | assumption | exact Chg.refl _ _ | exact (Chg.refl _ _).drew | exact kt (by first | assumption | exact (Chg.refl _ _).drew | exact Chg.refl _ _) (ziK _) | exact Chg.drew (by assumption)),?_⟩
        | (with_reducible refine And.intro ?_ ?_)
        | (go_at_call 90;first | ((with_reducible refine (hs1 _ (kt HS.out.1 (Chg.refl _ _).drew)).mono ?_);rintro r w1 ⟨rfl,k⟩;have K : Kept (Bx2 w (ptr b1) (.int .i32 e1) (ptr b2) (.int .i32 e2)) w1 :=kt (by first | assumption | exact Chg.refl _ _ | exact (Chg.refl _ _).drew | exact kt (by first | assumption | exact (Chg.refl _ _).drew | exact Chg.refl _ _) (ziK _) | exact Chg.drew (by assumption)) k) | (refine (hs2 _ (kt HS.out.1 K)).mono ?_;rintro r w2 ⟨rfl,k⟩;have KK :=Lib.hid (kt HS.out.1 (kt K k)))))
      first | go_ret | refine ⟨_,results_tmp rfl _ _ _,?_⟩
      exact ⟨rfl,KK.out⟩
    · rw [← hs] at hs2
      have hg0 : (X.sign == 0) = false :=by simpa using h0
      generalize X.sign = g at *
      clear hval hs h0 hz
      go_enter Tryz.func55,Tryz.ntmps55
      go_wp2_with (first
        | (refine wp_region_lit_segs (id :=3) [[0,2,1],[3,4,5]] mixed (by kernel_rfl) ?_;simp only [wpSegsL,gaC,gaN,lZ0,lS0,coS])
        | (refine wp_region_lit_segs (id :=12) [[0,2,4,5,6,7,8,9,10,1],[3],[11,12,13,14]] mixed (by kernel_rfl) ?_;simp only [wpSegsL,gaC,gaN,lZ0,lS0,coS])
        | refine ⟨by kernel_rfl,?_⟩
        | refine ⟨by kernel_rfl,oldD (by first | assumption | exact Chg.refl _ _ | exact (Chg.refl _ _).drew | exact kt (by first | assumption | exact (Chg.refl _ _).drew | exact Chg.refl _ _) (ziK _) | exact Chg.drew (by assumption)),?_⟩
        | refine ⟨oldD (by first | assumption | exact Chg.refl _ _ | exact (Chg.refl _ _).drew | exact kt (by first | assumption | exact (Chg.refl _ _).drew | exact Chg.refl _ _) (ziK _) | exact Chg.drew (by assumption)),?_⟩
        | (with_reducible refine And.intro ?_ ?_)
        | (go_at_call 90;first | ((with_reducible refine (hs1 _ (kt HS.out.1 (Chg.refl _ _).drew)).mono ?_);rintro r w1 ⟨rfl,k⟩;have K : Kept (Bx2 w (ptr b1) (.int .i32 e1) (ptr b2) (.int .i32 e2)) w1 :=kt (by first | assumption | exact Chg.refl _ _ | exact (Chg.refl _ _).drew | exact kt (by first | assumption | exact (Chg.refl _ _).drew | exact Chg.refl _ _) (ziK _) | exact Chg.drew (by assumption)) k) | (refine (hs2 _ (kt HS.out.1 K)).mono ?_;rintro r w2 ⟨rfl,k⟩;have K2 :=kt K k;have t0 :=Kept.at K2 HS.out.2.2.1;have t1 :=Kept.at K2 HS.out.2.2.2.1;have t2 :=Kept.at K2 HS.out.2.2.2.2.1;have t3 :=Kept.at K2 HS.out.2.2.2.2.2;have u0 :=Kept.at (ziK w2) t0;have u1 :=Kept.at (ziK w2) t1;have u2 :=Kept.at (ziK w2) t2;have u3 :=Kept.at (ziK w2) t3;have K3 : Kept (Zi w2) (Zi w2).drew :=(Chg.refl _ _).drew;clear K))
        | (go_at_call 88;refine (dec_getValue _ _ _).mono ?_;rintro r w3 ⟨rfl,k⟩;have K4 : Kept (Zi w2) w3 :=kt (by assumption) k;clear K3;have K3 :=K4;clear K4 k)
        | (go_at_call 92;refine (hp _ (kt (kt HS.out.1 K2) (kt (ziK w2) K3))).mono ?_;rintro r w5 ⟨b5,rfl,p1,p2⟩;have K5 :=kt K3 p2)
        | (go_at_call 91;refine (HM.out w2 w5 b5 (kt HS.out.1 K2) K5 (by have q :=p1.ge;have q2 :=Chg.size K3;simp at q2;omega) p1.at).mono ?_;rintro r w6 ⟨rfl,p3,p4⟩)
        | (go_at_call 89;refine (int_cmp w6 _ _ _ _ ((H1.out.kept (kt (kt HS.out.1 K2) p4))) p3.at).mono ?_;rintro r w7 ⟨rfl,p5⟩;have KK :=Lib.hid (kt (kt HS.out.1 K2) (kt p4 p5))))
      first | go_ret | refine ⟨_,results_tmp rfl _ _ _,?_⟩
      exact ⟨rfl,KK.out⟩
  · rw [hval hs]
    have hgl : (X.sign != Y.sign) = true :=by simpa using hs
    have hx3 :=Int.sign_trichotomy X
    generalize X.sign = g at *
    generalize Y.sign = g2 at *
    by_cases hg2 : g2 < g
    · rw [if_pos hg2]
      clear hval hs hz hx3
      go_enter Tryz.func55,Tryz.ntmps55
      go_wp2_with (first
        | (refine wp_region_lit_segs (id :=3) [[0,2,1],[3,4,5]] mixed (by kernel_rfl) ?_;simp only [wpSegsL,gaC,gaN,lZ0,lS0,coS])
        | refine ⟨by kernel_rfl,?_⟩
        | refine ⟨by kernel_rfl,oldD (by first | assumption | exact Chg.refl _ _ | exact (Chg.refl _ _).drew | exact kt (by first | assumption | exact (Chg.refl _ _).drew | exact Chg.refl _ _) (ziK _) | exact Chg.drew (by assumption)),?_⟩
        | refine ⟨oldD (by first | assumption | exact Chg.refl _ _ | exact (Chg.refl _ _).drew | exact kt (by first | assumption | exact (Chg.refl _ _).drew | exact Chg.refl _ _) (ziK _) | exact Chg.drew (by assumption)),?_⟩
        | (with_reducible refine And.intro ?_ ?_)
        | (go_at_call 90;first | ((with_reducible refine (hs1 _ (kt HS.out.1 (Chg.refl _ _).drew)).mono ?_);rintro r w1 ⟨rfl,k⟩;have K : Kept (Bx2 w (ptr b1) (.int .i32 e1) (ptr b2) (.int .i32 e2)) w1 :=kt (by first | assumption | exact Chg.refl _ _ | exact (Chg.refl _ _).drew | exact kt (by first | assumption | exact (Chg.refl _ _).drew | exact Chg.refl _ _) (ziK _) | exact Chg.drew (by assumption)) k) | (refine (hs2 _ (kt HS.out.1 K)).mono ?_;rintro r w2 ⟨rfl,k⟩;have KK :=Lib.hid (kt HS.out.1 (kt K k)))))
      first | go_ret | refine ⟨_,results_tmp rfl _ _ _,?_⟩
      exact ⟨rfl,KK.out⟩
    · rw [if_neg hg2]
      clear hval hs hz hx3
      go_enter Tryz.func55,Tryz.ntmps55
      go_wp2_with (first
        | (refine wp_region_lit_segs (id :=3) [[0,2,1],[3,4,5]] mixed (by kernel_rfl) ?_;simp only [wpSegsL,gaC,gaN,lZ0,lS0,coS])
        | refine ⟨by kernel_rfl,?_⟩
        | refine ⟨by kernel_rfl,oldD (by first | assumption | exact Chg.refl _ _ | exact (Chg.refl _ _).drew | exact kt (by first | assumption | exact (Chg.refl _ _).drew | exact Chg.refl _ _) (ziK _) | exact Chg.drew (by assumption)),?_⟩
        | refine ⟨oldD (by first | assumption | exact Chg.refl _ _ | exact (Chg.refl _ _).drew | exact kt (by first | assumption | exact (Chg.refl _ _).drew | exact Chg.refl _ _) (ziK _) | exact Chg.drew (by assumption)),?_⟩
        | (with_reducible refine And.intro ?_ ?_)
        | (go_at_call 90;first | ((with_reducible refine (hs1 _ (kt HS.out.1 (Chg.refl _ _).drew)).mono ?_);rintro r w1 ⟨rfl,k⟩;have K : Kept (Bx2 w (ptr b1) (.int .i32 e1) (ptr b2) (.int .i32 e2)) w1 :=kt (by first | assumption | exact Chg.refl _ _ | exact (Chg.refl _ _).drew | exact kt (by first | assumption | exact (Chg.refl _ _).drew | exact Chg.refl _ _) (ziK _) | exact Chg.drew (by assumption)) k) | (refine (hs2 _ (kt HS.out.1 K)).mono ?_;rintro r w2 ⟨rfl,k⟩;have KK :=Lib.hid (kt HS.out.1 (kt K k)))))
      first | go_ret | refine ⟨_,results_tmp rfl _ _ _,?_⟩
      exact ⟨rfl,KK.out⟩
end Go.Proofs.YtfmmdamgcpiciaaGreatDoor
namespace Go.Proofs.YtfmmdamgcpiciaaGreatDoor
open Go Go.RowKit
theorem int_setBits (w0 w : World) (hk : Kept w0 w) (bz : Nat) (s : Option Addr) (n c : Nat) (xs : List Nat) (hb : w0.heap.size ≤ bz) {u0 u1 : Value} (z0 : w.cell? ⟨bz,0,none⟩ = some u0) (z1 : w.cell? ⟨bz,1,none⟩ = some u1) (zf : NF w bz)
    (hs : Words w s xs) (hl : xs.length = n) (hn : n ≤ Big) (hnc : n ≤ c) (hc : c ≤ (8388607 * Big + 1099511627775)) (ho : SlOk w s c) (hlt : Lt W64 xs) (hns : ∀ a,s = some a → w0.heap.size ≤ a.block ∧ a.block ≠ bz) :
    Calls Tryz.prog 85 #[ptr bz,.slice s n c] w fun e w' => e = .returned (ptr bz) ∧ IntN w0 w' bz (val W64 xs : Nat) ∧ Kept w0 w' :=by
  have hnm :=nat_norm w s n c xs hs hl (by unfold Big at hn;omega) hnc
  have hts :=(trimZ_spec W64 xs).2.1
  have f0 :=zf 0
  have f1 :=zf 1
  have hN : NatAt w s (trimZ xs).length c (val W64 xs) :=trim_nat (by omega) hc (by omega) ho hs hlt rfl
  have z2 :=cs_ne (u :=.slice s (trimZ xs).length c) z0 (b' :=bz) (o' :=1) (by omega)
  go_enter Tryz.func85,Tryz.ntmps85
  go_wp2_with (go_at_call 106;refine hnm.mono ?_;rintro e w1 ⟨rfl,hw⟩;rw [hw];clear hw)
  first | go_ret | refine ⟨_,results_tmp rfl _ _ _,?_⟩
  have c1 :=Chg.setCell w bz 1 (.slice s (trimZ xs).length c) (fun b _ => b = bz) fun _ => rfl
  have c2 :=Chg.setCell (w.setCell ⟨bz,1,none⟩ (.slice s (trimZ xs).length c)) bz 0 (.bool false) (fun b _ => b = bz) fun _ => rfl
  have cc :=c1.trans c2 fun _ _ _ h => h
  have lb :=lt_of_cell z0
  refine ⟨rfl,⟨s,(trimZ xs).length,c,⟨?_,?_,?_,zf.chg lb cc,fun a ha => (hns a ha).2⟩,hb,fun a ha => (hns a ha).1⟩,hk.keptNew cc fun b _ h => by omega⟩
  · rw [cell_setCell_eq z2,decide_eq_false (by omega)]
  · exact cs_ne (cell_setCell_eq z1) (by omega)
  · rw [Int.natAbs_natCast];exact hN.chg cc fun b o h o' e => (hns _ h).2 e
theorem dec_rescale_up (w : World) (hg : Glob w) (b : Nat) (e x X : Int) (h : IntAt w b X) (hX : X.natAbs < W39) (hlt : e < x) (l1 : -512 < e) (u1 : x < 512) (hd : x - e ≤ 420) :
    Calls Tryz.prog 99 #[dv b e,.int .i32 x] w (NewDec w (X.tdiv (10 ^ (x - e).toNat : Nat)) x) :=by
  have hltb :=h.lt
  have hsub : ∀ W,(binOp .sub 92 (.float .f64 (fl x)) (.float .f64 (fl e))).run Tryz.prog W = .ok (.float .f64 (fl (x - e))) W :=fun W => run_float_arith W .sub 92 .f64 _ _ _ (fl_sub x e (by omega) (by omega) (by omega) (by omega) (by omega))
  have hab :=mathAbs (x - e) (by omega) (by omega)
  have hcv : ∀ W,(convert 92 2 (.float .f64 (fl ((x - e).natAbs : Nat)))).run Tryz.prog W = .ok (.int .i64 ((x - e).natAbs : Nat)) W :=fun W =>
    run_convert_float_int W 92 2 .f64 .i64 _ _ (by kernel_rfl) Tryz.underlying2 (fl_int ⟨(x - e).natAbs,by omega⟩)
  have hn : (x - e).natAbs = (x - e).toNat :=by omega
  rw [hn] at hab hcv
  have hnl : (x - e).toNat ≤ 420 :=by omega
  clear hn
  generalize (x - e).toNat = n at *
  have hne : (e == x) = false :=by simp;omega
  have hW :=box2K w (ptr b) (.int .i32 e)
  have hS :=box2S w (ptr b) (.int .i32 e)
  have hR :=box2R w (ptr b) (.int .i32 e)
  have hZ : ZeroInt (Zi (Box2 w (ptr b) (.int .i32 e))) (w.heap.size + 2) :=by rw [← hS];exact ZeroInt.made _
  have hp :=fun W (hW2 : Kept w W) => pow10 W (hg.kept hW2) n hnl
  have hm : ∀ w4 b2,Kept (Zi (Box2 w (ptr b) (.int .i32 e))) w4 → w.heap.size + 2 < b2 → IntAt w4 b2 (10 ^ n : Nat) → Calls Tryz.prog 116 #[ptr (w.heap.size + 2),ptr b,ptr b2] w4 fun r w' => r = .returned (ptr (w.heap.size + 2)) ∧ IntN (Box2 w (ptr b) (.int .i32 e)) w' (w.heap.size + 2) (X.tdiv (10 ^ n : Nat)) ∧ Kept (Box2 w (ptr b) (.int .i32 e)) w' :=by
    intro w4 b2 q1 q2 q3
    have kz :=kt (ziK (Box2 w (ptr b) (.int .i32 e))) q1
    have kw :=kt hW kz
    exact int_quo _ w4 (hg.kept kw) kz _ b b2 (by rw [hS];omega) (hZ.kept q1) X _ (h.kept kw) q3 (by omega) (by omega) (by have :=Nat.pow_pos (n :=n) (show 0 < 10 by decide);omega) hX
  obtain ⟨Q,hQ⟩ : ∃ Q,X.tdiv (10 ^ n : Nat) = Q :=⟨_,rfl⟩
  have hsQ :=fun W (hW : IntAt W (w.heap.size + 2) Q) => int_sign W (w.heap.size + 2) Q hW
  have hsX :=fun W (hW : Kept w W) => int_sign W b X (h.kept hW)
  rw [hQ] at hm ⊢
  have HM :=Lib.hid hm
  have HS :=Lib.hid (And.intro hS (And.intro hW (And.intro hR hQ)))
  have B0 :=Kept.at (boxK (Box w (ptr b) (.int .i32 e)) (.pointer none) (.int .i32 0)) (box0 w (ptr b) (.int .i32 e))
  have B1 :=Kept.at (boxK (Box w (ptr b) (.int .i32 e)) (.pointer none) (.int .i32 0)) (box1 w (ptr b) (.int .i32 e))
  have HB :=Lib.hid (And.intro B0 B1)
  clear B0 B1
  clear hm hS hW hR hZ hQ
  by_cases hq : Q = 0
  · subst hq
    by_cases hx : X = 0
    · subst hx
      have e0 : (Int.sign 0) = 0 :=rfl
      rw [e0] at hsQ hsX
      go_enter Tryz.func99,Tryz.ntmps99
      go_wp2_with (first
        | (go_at_call 115;refine (hab _).mono ?_;rintro r w1 ⟨rfl,hw⟩;rw [hw])
        | (go_at_call 88;first
            | ((with_reducible refine (dec_getValue w5 _ _).mono ?_);rintro r w7 ⟨rfl,k⟩;have k1 :=k1.kept k;have k2 :=kt k2 k;have S :=S.kept k;obtain ⟨⟨u0,s0⟩,⟨u1,s1⟩,sf⟩ :=id S;have f0 :=sf 0;have f1 :=sf 1;clear k)
            | (refine (dec_getValue _ _ _).mono ?_;rintro r w1 ⟨rfl,k⟩;have K : Kept (Zi (Box2 w (ptr b) (.int .i32 e))) w1 :=k;have G : w.heap.size + 3 ≤ w1.heap.size :=(by have q :=Chg.size K;simp at q;omega)))
        | (go_at_call 92;refine (hp _ (kt HS.out.2.1 (kt (ziK _) K))).mono ?_;rintro r w2 ⟨b2,rfl,q1,q2⟩)
        | (go_at_call 116;refine (HM.out w2 b2 (kt K q2) (by have :=q1.ge;omega) q1.at).mono ?_;rintro r w5 ⟨rfl,k1,k2⟩;have d0 :=Kept.at k2 HB.out.1;have d1 :=Kept.at k2 HB.out.2;have S :=HS.out.2.2.1.kept k2;obtain ⟨⟨u0,s0⟩,⟨u1,s1⟩,sf⟩ :=id S;have f0 :=sf 0;have f1 :=sf 1)
        | (go_at_call 95;first
            | ((with_reducible refine (hsQ _ k1.at).mono ?_);rintro r w6 ⟨rfl,hw⟩;rw [hw];clear hw)
            | (refine (hsX _ (kt HS.out.2.1 k2)).mono ?_;rintro r w6 ⟨rfl,hw⟩;rw [hw];clear hw)))
      first
        | refine ⟨dv _ x,results_dec rfl rfl (put2_0 S _ _) (put2_1 S _ _),_,rfl,dec_ret (by omega) ?_ HS.out.2.1 k1 k2 _ _⟩
        | refine bodyPost_ret (v :=dv _ x) (results_dec rfl rfl (put2_0 S _ _) (put2_1 S _ _)) rfl ⟨_,rfl,dec_ret (by omega) ?_ HS.out.2.1 k1 k2 _ _⟩
      rw [HS.out.1]
      omega
    · have hq0 : (X.sign == 0) = false :=by simp [Int.sign_eq_zero_iff_zero,hx]
      have e0 : (Int.sign 0) = 0 :=rfl
      rw [e0] at hsQ
      generalize X.sign = gx at *
      go_enter Tryz.func99,Tryz.ntmps99
      go_wp2_with (first
        | (go_at_call 115;refine (hab _).mono ?_;rintro r w1 ⟨rfl,hw⟩;rw [hw])
        | (go_at_call 88;first
            | ((with_reducible refine (dec_getValue w5 _ _).mono ?_);rintro r w7 ⟨rfl,k⟩;have k1 :=k1.kept k;have k2 :=kt k2 k;have S :=S.kept k;obtain ⟨⟨u0,s0⟩,⟨u1,s1⟩,sf⟩ :=id S;have f0 :=sf 0;have f1 :=sf 1;clear k)
            | (refine (dec_getValue _ _ _).mono ?_;rintro r w1 ⟨rfl,k⟩;have K : Kept (Zi (Box2 w (ptr b) (.int .i32 e))) w1 :=k;have G : w.heap.size + 3 ≤ w1.heap.size :=(by have q :=Chg.size K;simp at q;omega)))
        | (go_at_call 92;refine (hp _ (kt HS.out.2.1 (kt (ziK _) K))).mono ?_;rintro r w2 ⟨b2,rfl,q1,q2⟩)
        | (go_at_call 116;refine (HM.out w2 b2 (kt K q2) (by have :=q1.ge;omega) q1.at).mono ?_;rintro r w5 ⟨rfl,k1,k2⟩;have d0 :=Kept.at k2 HB.out.1;have d1 :=Kept.at k2 HB.out.2;have S :=HS.out.2.2.1.kept k2;obtain ⟨⟨u0,s0⟩,⟨u1,s1⟩,sf⟩ :=id S;have f0 :=sf 0;have f1 :=sf 1)
        | (go_at_call 85;obtain ⟨sA,nA,cA,A,gA,hA⟩ :=k1;have ka :=Chg.alloc w7 (Obj.cells #[] 109) None2;refine (int_setBits (Box2 w (ptr b) (.int .i32 e)) (w7.alloc (Obj.cells #[] 109)) (kt k2 ka) (w.heap.size + 2) (some ⟨w7.heap.size,0,none⟩) 0 0 [] (by rw [HS.out.1];omega) (Kept.at ka A.neg) (Kept.at ka A.abs) (A.nf.chg (lt_of_cell A.neg) ka) (.inl rfl) rfl (by unfold Big;omega) (Nat.le_refl _) (by unfold Big;omega) (.inr ⟨w7.heap.size,0,rfl,fun j hj => by omega,NF.made w7 _ _,by simp⟩) Lt.nil (fun a ha => by obtain rfl :=Option.some.inj ha;exact ⟨Chg.size k2,by have :=lt_of_cell A.neg;show w7.heap.size ≠ _;omega⟩)).mono ?_;rintro r w9 ⟨rfl,k1,k2⟩;have S :=HS.out.2.2.1.kept k2;obtain ⟨⟨u0,s0⟩,⟨u1,s1⟩,sf⟩ :=id S;have f0 :=sf 0;have f1 :=sf 1)
        | (go_at_call 95;first
            | ((with_reducible refine (hsQ _ k1.at).mono ?_);rintro r w6 ⟨rfl,hw⟩;rw [hw];clear hw)
            | (refine (hsX _ (kt HS.out.2.1 k2)).mono ?_;rintro r w6 ⟨rfl,hw⟩;rw [hw];clear hw)))
      first
        | refine ⟨dv _ x,results_dec rfl rfl (put2_0 S _ _) (put2_1 S _ _),_,rfl,dec_ret (by omega) ?_ HS.out.2.1 k1 k2 _ _⟩
        | refine bodyPost_ret (v :=dv _ x) (results_dec rfl rfl (put2_0 S _ _) (put2_1 S _ _)) rfl ⟨_,rfl,dec_ret (by omega) ?_ HS.out.2.1 k1 k2 _ _⟩
      rw [HS.out.1]
      omega
  · have hq0 : (Q.sign == 0) = false :=by simp [Int.sign_eq_zero_iff_zero,hq]
    generalize Q.sign = gq at *
    go_enter Tryz.func99,Tryz.ntmps99
    go_wp2_with (first
      | (go_at_call 115;refine (hab _).mono ?_;rintro r w1 ⟨rfl,hw⟩;rw [hw])
      | (go_at_call 88;first
          | ((with_reducible refine (dec_getValue w5 _ _).mono ?_);rintro r w7 ⟨rfl,k⟩;have k1 :=k1.kept k;have k2 :=kt k2 k;have S :=S.kept k;obtain ⟨⟨u0,s0⟩,⟨u1,s1⟩,sf⟩ :=id S;have f0 :=sf 0;have f1 :=sf 1;clear k)
          | (refine (dec_getValue _ _ _).mono ?_;rintro r w1 ⟨rfl,k⟩;have K : Kept (Zi (Box2 w (ptr b) (.int .i32 e))) w1 :=k;have G : w.heap.size + 3 ≤ w1.heap.size :=(by have q :=Chg.size K;simp at q;omega)))
      | (go_at_call 92;refine (hp _ (kt HS.out.2.1 (kt (ziK _) K))).mono ?_;rintro r w2 ⟨b2,rfl,q1,q2⟩)
      | (go_at_call 116;refine (HM.out w2 b2 (kt K q2) (by have :=q1.ge;omega) q1.at).mono ?_;rintro r w5 ⟨rfl,k1,k2⟩;have d0 :=Kept.at k2 HB.out.1;have d1 :=Kept.at k2 HB.out.2;have S :=HS.out.2.2.1.kept k2;obtain ⟨⟨u0,s0⟩,⟨u1,s1⟩,sf⟩ :=id S;have f0 :=sf 0;have f1 :=sf 1)
      | (go_at_call 95;first
          | ((with_reducible refine (hsQ _ k1.at).mono ?_);rintro r w6 ⟨rfl,hw⟩;rw [hw];clear hw)
          | (refine (hsX _ (kt HS.out.2.1 k2)).mono ?_;rintro r w6 ⟨rfl,hw⟩;rw [hw];clear hw)))
    first
      | refine ⟨dv _ x,results_dec rfl rfl (put2_0 S _ _) (put2_1 S _ _),_,rfl,dec_ret (by omega) ?_ HS.out.2.1 k1 k2 _ _⟩
      | refine bodyPost_ret (v :=dv _ x) (results_dec rfl rfl (put2_0 S _ _) (put2_1 S _ _)) rfl ⟨_,rfl,dec_ret (by omega) ?_ HS.out.2.1 k1 k2 _ _⟩
    rw [HS.out.1]
    omega
end Go.Proofs.YtfmmdamgcpiciaaGreatDoor
namespace Go.Proofs.YtfmmdamgcpiciaaGreatDoor
open Go Go.RowKit
theorem val_mod_word {xs : List Nat} (h : Lt W64 xs) : val W64 xs % W64 = xs.headD 0 :=by
  cases xs with
  | nil => rfl
  | cons x xs =>
    simp only [val,List.headD_cons]
    rw [Nat.add_mul_mod_self_left,Nat.mod_eq_of_lt (h x (by simp))]
theorem low64 (w : World) (s : Option Addr) (n c X : Nat) (h : NatAt w s n c X) : Calls Tryz.prog 114 #[.slice s n c] w fun e w' => e = .returned (.int .u64 (X % W64 : Nat)) ∧ w' = w :=by
  rcases n with _ | n
  · obtain rfl :=h.zero
    go_enter Tryz.func114,Tryz.ntmps114
    go_wp2
    first | go_ret | refine ⟨_,results_tmp rfl _ _ _,?_⟩
    exact ⟨rfl,rfl⟩
  · obtain ⟨b,o,xs,rfl,hr,hl,hlt,hz,hv,_,_,hc,hcB,_⟩ :=h.open
    have hm :=val_mod_word hlt
    rw [hv] at hm
    rw [hm]
    obtain ⟨x,ys,rfl⟩ : ∃ x ys,xs = x :: ys :=by
      cases xs with
      | nil => simp at hl
      | cons x ys => exact ⟨x,ys,rfl⟩
    have c0 :=hr 0 x rfl
    simp only [Nat.add_zero] at c0
    unfold Big at hcB
    have hn0 : ((n : Int) + 1 == 0) = false :=by simp;omega
    simp only [List.headD_cons]
    clear hv hm hz hlt hr
    go_enter Tryz.func114,Tryz.ntmps114
    go_wp2
    first | go_ret | refine ⟨_,results_tmp rfl _ _ _,?_⟩
    exact ⟨rfl,rfl⟩
theorem wrap_i64_in (x : Int) (h1 : -9223372036854775808 ≤ x) (h2 : x ≤ 9223372036854775807) : IntKind.i64.wrap x = x :=by simp [IntKind.wrap,IntKind.bits,IntKind.signed];omega
theorem wrap_i64_up (x : Int) (h1 : 9223372036854775808 ≤ x) (h2 : x < 18446744073709551616) : IntKind.i64.wrap x = x - 18446744073709551616 :=by simp [IntKind.wrap,IntKind.bits,IntKind.signed];omega
theorem int_isInt64 (w : World) (b X : Nat) (h : IntAt w b X) : Calls Tryz.prog 96 #[ptr b] w fun e w' => e = .returned (.bool (decide (X < 9223372036854775808))) ∧ w' = w :=by
  obtain ⟨s,n,c,h⟩ :=h
  have h0 :=h.neg
  have h1 :=h.abs
  have hl :=low64 w s n c _ h.nat
  rw [Int.natAbs_natCast] at hl
  rw [decide_eq_false (by omega)] at h0
  have hnB :=h.nat.ok.2.2.1
  unfold Big at hnB
  by_cases hn : n ≤ 1
  · have hX : X < W64 :=by
      have :=h.nat.lt_pow
      rw [Int.natAbs_natCast] at this
      exact Nat.lt_of_lt_of_le this (by have :=Nat.pow_le_pow_right (show 0 < W64 by decide) hn;simpa using this)
    rw [Nat.mod_eq_of_lt hX] at hl
    unfold W64 at hX
    by_cases hx : X < 9223372036854775808
    · rw [decide_eq_true hx]
      have e1 :=wrap_i64_in (X : Int) (by omega) (by omega)
      have e2 : (0 : Int) ≤ (X : Int) :=by omega
      generalize (X : Int) = x at *
      clear h
      go_enter Tryz.func96,Tryz.ntmps96
      go_wp2_with (go_at_call 114;refine hl.mono ?_;rintro e w' ⟨rfl,hw⟩;rw [hw];clear hw)
      first | go_ret | refine ⟨_,results_tmp rfl _ _ _,?_⟩
      exact ⟨rfl,rfl⟩
    · rw [decide_eq_false hx]
      have e1 :=wrap_i64_up (X : Int) (by omega) (by omega)
      have e2 : decide (18446744073709551616 ≤ (X : Int)) = false :=decide_eq_false (by omega)
      generalize (X : Int) = x at *
      clear h
      go_enter Tryz.func96,Tryz.ntmps96
      go_wp2_with (go_at_call 114;refine hl.mono ?_;rintro e w' ⟨rfl,hw⟩;rw [hw];clear hw)
      first | go_ret | refine ⟨_,results_tmp rfl _ _ _,?_⟩
      exact ⟨rfl,rfl⟩
  · have hX : ¬ X < 9223372036854775808 :=by
      obtain ⟨n,rfl⟩ : ∃ k,n = k + 1 :=⟨n - 1,by omega⟩
      have :=h.nat.le_pow
      rw [Int.natAbs_natCast] at this
      have h2 :=Nat.pow_le_pow_right (show 0 < W64 by decide) (show 1 ≤ n by omega)
      unfold W64 at *
      omega
    rw [decide_eq_false hX]
    clear h
    go_enter Tryz.func96,Tryz.ntmps96
    go_wp2_with fail
    first | go_ret | refine ⟨_,results_tmp rfl _ _ _,?_⟩
    exact ⟨rfl,rfl⟩
theorem int_int64 (w : World) (b X : Nat) (h : IntAt w b X) (hX : X < 9223372036854775808) : Calls Tryz.prog 97 #[ptr b] w fun e w' => e = .returned (.int .i64 X) ∧ w' = w :=by
  obtain ⟨s,n,c,h⟩ :=h
  have h0 :=h.neg
  have h1 :=h.abs
  have hl :=low64 w s n c _ h.nat
  rw [Int.natAbs_natCast,Nat.mod_eq_of_lt (by unfold W64;omega)] at hl
  rw [decide_eq_false (by omega)] at h0
  have e1 :=wrap_i64_in (X : Int) (by omega) (by omega)
  generalize (X : Int) = x at *
  clear h
  go_enter Tryz.func97,Tryz.ntmps97
  go_wp2_with (go_at_call 114;refine hl.mono ?_;rintro e w' ⟨rfl,hw⟩;rw [hw];clear hw)
  first | go_ret | refine ⟨_,results_tmp rfl _ _ _,?_⟩
  exact ⟨rfl,rfl⟩
theorem pow10Uint64 (w : World) (n P : Nat) (hn : n ≤ 18) (hP : 10 ^ n = P) : Calls Tryz.prog 98 #[.int .i32 n] w fun e w' => e = .returned (.int .u64 P) ∧ w' = w :=by
  go_enter Tryz.func98,Tryz.ntmps98
  go_wp2
  go_loop [3,4] (fun t i => ∃ k A : Nat,k ≤ n ∧ i = .int .i32 ((k : Int) + 1) ∧ t = .int .u64 A ∧ A = 10 ^ k) (fun _ i => n + 1 - (intOf i).toNat)
  case atStart => exact ⟨0,1,Nat.zero_le _,rfl,rfl,rfl⟩
  case round =>
    obtain ⟨k,A,hk,rfl,rfl,hA⟩ :=hrel
    have HA :=Lib.hid hA
    clear hA
    by_cases h : k < n
    · have e1 : IntKind.u64.wrap ((A : Int) * 10) = (A : Int) * 10 :=by
        have hp : 10 ^ (k + 1) ≤ 10 ^ 18 :=Nat.pow_le_pow_right (by decide) (by omega)
        rw [Nat.pow_succ,← HA.out] at hp
        exact wrap_u64_in _ (by omega) (by omega)
      go_wp2_with fail
      go_round
      case rel => exact ⟨k + 1,A * 10,by omega,by first | rfl | (congr 1;omega),by congr 1,by rw [Nat.pow_succ,HA.out]⟩
      case measure => simp [intOf];omega
    · obtain rfl : k = n :=by omega
      obtain rfl : A = P :=by rw [← hP,HA.out]
      go_wp2_with fail
      go_ret
      exact ⟨rfl,rfl⟩
end Go.Proofs.YtfmmdamgcpiciaaGreatDoor
namespace Go.Proofs.YtfmmdamgcpiciaaGreatDoor
open Go Go.RowKit
theorem dec_intPart (w : World) (hg : Glob w) (b X n : Nat) (h : IntAt w b X) (hX : X < W39) (hn : n ≤ 420) (hq : X / 10 ^ n < 9223372036854775808) :
    Calls Tryz.prog 68 #[dv b (-(n : Int))] w fun r w' => r = .returned (.int .i64 (X / 10 ^ n : Nat)) ∧ Kept w w' :=by
  have hK :=boxK w (ptr b) (.int .i32 (-(n : Int)))
  have c0 :=box0 w (ptr b) (.int .i32 (-(n : Int)))
  have c1 :=box1 w (ptr b) (.int .i32 (-(n : Int)))
  have hv :=fun W => dec_getValue W b (-(n : Int))
  have hi :=fun W (hW : Kept w W) => int_isInt64 W b X (h.kept hW)
  by_cases hf : n ≤ 18 ∧ X < 9223372036854775808
  · obtain ⟨hn18,hX63⟩ :=hf
    have hi64 :=fun W (hW : Kept w W) => int_int64 W b X (h.kept hW) hX63
    obtain ⟨P,hP⟩ : ∃ P,10 ^ n = P :=⟨_,rfl⟩
    have hp :=fun W => pow10Uint64 W n P hn18 hP
    rw [hP] at hq ⊢
    have hP1 : 1 ≤ P :=by rw [← hP];exact Nat.pow_pos (by decide)
    have hP2 : P ≤ 10 ^ 18 :=by rw [← hP];exact Nat.pow_le_pow_right (by decide) hn18
    rw [decide_eq_true hX63] at hi
    have e1 :=wrap_i64_in (P : Int) (by omega) (by omega)
    have e2 : ((P : Int) == 0) = false :=by simp;omega
    have hqX :=Nat.div_le_self X P
    have e3 : (X : Int).tdiv (P : Int) = ((X / P : Nat) : Int) :=(Int.ofNat_tdiv X P).symm
    generalize X / P = Q at *
    have e4 :=wrap_i64_in (Q : Int) (by omega) (by omega)
    have e5 : ((n : Int) ≤ 18) :=by omega
    have hp1 : (1 : Int) ≤ (P : Int) :=by omega
    have HK :=Lib.hid hK
    generalize (P : Int) = p at *
    generalize (Q : Int) = q at *
    clear hqX
    clear hP hg hK hP2 hq
    go_enter Tryz.func68,Tryz.ntmps68
    go_wp2_with (first
      | (refine wp_region_lit_segs (id :=3) [[0,2,3,4,1],[5,6,7,8]] mixed (by kernel_rfl) ?_;simp only [wpSegsL,gaC,gaN,lZ0,lS0,coS])
      | refine ⟨by kernel_rfl,?_⟩
      | refine ⟨by kernel_rfl,oldD (by first | assumption | exact Chg.refl _ _ | exact (Chg.refl _ _).drew | exact kt (by first | assumption | exact (Chg.refl _ _).drew | exact Chg.refl _ _) (ziK _) | exact Chg.drew (by assumption)),?_⟩
      | refine ⟨oldD (by first | assumption | exact Chg.refl _ _ | exact (Chg.refl _ _).drew | exact kt (by first | assumption | exact (Chg.refl _ _).drew | exact Chg.refl _ _) (ziK _) | exact Chg.drew (by assumption)),?_⟩
      | (with_reducible refine And.intro ?_ ?_)
      | (go_at_call 88;refine (hv _).mono ?_;rintro r w1 ⟨rfl,k⟩;have K :=Lib.hid (kt HK.out k);have d1 :=Kept.at k c1)
      | (go_at_call 96;refine (hi _ K.out).mono ?_;rintro r w1 ⟨rfl,hw⟩;rw [hw];clear hw)
      | (go_at_call 97;refine (hi64 _ K.out.drew).mono ?_;rintro r w1 ⟨rfl,hw⟩;rw [hw];clear hw)
      | (go_at_call 98;refine (hp _).mono ?_;rintro r w1 ⟨rfl,hw⟩;rw [hw];clear hw))
    all_goals first | (exfalso;omega) | skip
    first | go_ret | refine ⟨_,results_tmp rfl _ _ _,?_⟩
    exact ⟨rfl,K.out.drew⟩
  · have hnr : n ≠ 0 ∧ (18 < n ∨ ¬ X < 9223372036854775808) :=by
      rcases Nat.eq_zero_or_pos n with rfl | h0
      · simp at hq;omega
      · omega
    have hr :=fun W (hW : Kept w W) => dec_rescale_up W (hg.kept hW) b (-(n : Int)) 0 X (h.kept hW) (by rw [Int.natAbs_natCast];exact hX) (by omega) (by omega) (by omega) (by omega)
    have et : ((0 : Int) - -(n : Int)).toNat = n :=by omega
    have eq : (X : Int).tdiv (10 ^ n : Nat) = ((X / 10 ^ n : Nat) : Int) :=(Int.ofNat_tdiv X (10 ^ n)).symm
    rw [et,eq] at hr
    generalize X / 10 ^ n = Q at *
    obtain ⟨bb,hbb⟩ : ∃ bb,decide (X < 9223372036854775808) = bb :=⟨_,rfl⟩
    rw [hbb] at hi
    have hnn : bb = true → ¬ (n : Int) ≤ 18 :=by intro e;subst e;simp at hbb;omega
    have HK :=Lib.hid hK
    have hnp : 0 < n :=by omega
    clear hg hK hnr hX
    by_cases h18 : n ≤ 18
    · have e18 : ((n : Int) ≤ 18) :=by omega
      obtain rfl : bb = false :=by
        cases bb with
        | false => rfl
        | true => exact absurd e18 (hnn rfl)
      clear hbb hnn
      go_enter Tryz.func68,Tryz.ntmps68
      go_wp2_with (first
        | (refine wp_region_lit_segs (id :=3) [[0,2,3,4,1],[5,6,7,8]] mixed (by kernel_rfl) ?_;simp only [wpSegsL,gaC,gaN,lZ0,lS0,coS])
        | refine ⟨by kernel_rfl,?_⟩
        | refine ⟨by kernel_rfl,oldD (by first | assumption | exact Chg.refl _ _ | exact (Chg.refl _ _).drew | exact kt (by first | assumption | exact (Chg.refl _ _).drew | exact Chg.refl _ _) (ziK _) | exact Chg.drew (by assumption)),?_⟩
        | refine ⟨oldD (by first | assumption | exact Chg.refl _ _ | exact (Chg.refl _ _).drew | exact kt (by first | assumption | exact (Chg.refl _ _).drew | exact Chg.refl _ _) (ziK _) | exact Chg.drew (by assumption)),?_⟩
        | (with_reducible refine And.intro ?_ ?_)
        | (go_at_call 88;refine (dec_getValue _ _ _).mono ?_;rintro r w1 ⟨rfl,k⟩;first
            | (have B :=A2.kept (kt (Chg.alloc _ _ _) k);have K :=Lib.hid (kt K2 (kt (Chg.alloc _ _ _) k)))
            | (have K :=Lib.hid (kt HK.out k);have d0 :=Kept.at k c0;have d1 :=Kept.at k c1))
        | (go_at_call 96;refine (hi _ K.out).mono ?_;rintro r w1 ⟨rfl,hw⟩;rw [hw];clear hw)
        | (go_at_call 99;refine (hr _ K.out).mono ?_;rintro r w2 ⟨b2,rfl,q1,q2⟩;have K2 :=kt K.out q2;have A2 :=q1.at)
        | (go_at_call 97;refine (int_int64 _ _ Q B hq).mono ?_;rintro r w6 ⟨rfl,hw⟩;rw [hw];clear hw))
      first | go_ret | refine ⟨_,results_tmp rfl _ _ _,?_⟩
      exact ⟨rfl,K.out⟩
    · have e18 : ¬ ((n : Int) ≤ 18) :=by omega
      clear hbb hnn
      go_enter Tryz.func68,Tryz.ntmps68
      go_wp2_with (first
        | (refine wp_region_lit_segs (id :=3) [[0,2,3,4,1],[5,6,7,8]] mixed (by kernel_rfl) ?_;simp only [wpSegsL,gaC,gaN,lZ0,lS0,coS])
        | refine ⟨by kernel_rfl,?_⟩
        | refine ⟨by kernel_rfl,oldD (by first | assumption | exact Chg.refl _ _ | exact (Chg.refl _ _).drew | exact kt (by first | assumption | exact (Chg.refl _ _).drew | exact Chg.refl _ _) (ziK _) | exact Chg.drew (by assumption)),?_⟩
        | refine ⟨oldD (by first | assumption | exact Chg.refl _ _ | exact (Chg.refl _ _).drew | exact kt (by first | assumption | exact (Chg.refl _ _).drew | exact Chg.refl _ _) (ziK _) | exact Chg.drew (by assumption)),?_⟩
        | (with_reducible refine And.intro ?_ ?_)
        | (go_at_call 88;refine (dec_getValue _ _ _).mono ?_;rintro r w1 ⟨rfl,k⟩;first
            | (have B :=A2.kept (kt (Chg.alloc _ _ _) k);have K :=Lib.hid (kt K2 (kt (Chg.alloc _ _ _) k)))
            | (have K :=Lib.hid (kt HK.out k);have d0 :=Kept.at k c0;have d1 :=Kept.at k c1))
        | (go_at_call 96;refine (hi _ K.out).mono ?_;rintro r w1 ⟨rfl,hw⟩;rw [hw];clear hw)
        | (go_at_call 99;refine (hr _ K.out).mono ?_;rintro r w2 ⟨b2,rfl,q1,q2⟩;have K2 :=kt K.out q2;have A2 :=q1.at)
        | (go_at_call 97;refine (int_int64 _ _ Q B hq).mono ?_;rintro r w6 ⟨rfl,hw⟩;rw [hw];clear hw))
      first | go_ret | refine ⟨_,results_tmp rfl _ _ _,?_⟩
      exact ⟨rfl,K.out⟩
end Go.Proofs.YtfmmdamgcpiciaaGreatDoor
namespace Go.Proofs.YtfmmdamgcpiciaaGreatDoor
open Go Go.RowKit
theorem log10Pow2 (x : Int) (h1 : -2000 ≤ x) (h2 : x ≤ 2000) (w : World) : Calls Tryz.prog 199 #[.int .i64 x] w fun e w' => e = .returned (.int .i64 (x * 78913 / 262144)) ∧ w' = w :=by
  have e1 :=wrap_i64_in (x * 78913) (by omega) (by omega)
  go_enter Tryz.func199,Tryz.ntmps199
  go_wp2
  first | go_ret | refine ⟨_,results_tmp rfl _ _ _,?_⟩
  exact ⟨rfl,rfl⟩
theorem log2Pow10 (x : Int) (h1 : -2000 ≤ x) (h2 : x ≤ 2000) (w : World) : Calls Tryz.prog 237 #[.int .i64 x] w fun e w' => e = .returned (.int .i64 (x * 108853 / 32768)) ∧ w' = w :=by
  have e1 :=wrap_i64_in (x * 108853) (by omega) (by omega)
  go_enter Tryz.func237,Tryz.ntmps237
  go_wp2
  first | go_ret | refine ⟨_,results_tmp rfl _ _ _,?_⟩
  exact ⟨rfl,rfl⟩
theorem skewed (x : Int) (h1 : -2000 ≤ x) (h2 : x ≤ 2000) (w : World) : Calls Tryz.prog 235 #[.int .i64 x] w fun e w' => e = .returned (.int .i64 ((x * 631305 - 261663) / 2097152)) ∧ w' = w :=by
  have e1 :=wrap_i64_in (x * 631305) (by omega) (by omega)
  have e2 :=wrap_i64_in (x * 631305 - 261663) (by omega) (by omega)
  go_enter Tryz.func235,Tryz.ntmps235
  go_wp2
  first | go_ret | refine ⟨_,results_tmp rfl _ _ _,?_⟩
  exact ⟨rfl,rfl⟩
theorem boolTo (f : Nat) (b : Bool) (w : World) (h : f = 266 ∨ f = 244) : Calls Tryz.prog f #[.bool b] w fun e w' => e = .returned (if f = 266 then .int .u64 (if b then 1 else 0) else .int .i64 (if b then 1 else 0)) ∧ w' = w :=by
  rcases h with rfl | rfl <;> cases b
  · go_enter Tryz.func266,Tryz.ntmps266
    go_wp2
    first | go_ret | refine ⟨_,results_tmp rfl _ _ _,?_⟩
    exact ⟨rfl,rfl⟩
  · go_enter Tryz.func266,Tryz.ntmps266
    go_wp2
    first | go_ret | refine ⟨_,results_tmp rfl _ _ _,?_⟩
    exact ⟨rfl,rfl⟩
  · go_enter Tryz.func244,Tryz.ntmps244
    go_wp2
    first | go_ret | refine ⟨_,results_tmp rfl _ _ _,?_⟩
    exact ⟨rfl,rfl⟩
  · go_enter Tryz.func244,Tryz.ntmps244
    go_wp2
    first | go_ret | refine ⟨_,results_tmp rfl _ _ _,?_⟩
    exact ⟨rfl,rfl⟩
def usc (x hi lo s : Nat) : Nat :=
  let h :=x * hi / W64
  let mid :=x * hi % W64
  if h / 2 ^ s * 2 ^ s = h then
    let mid2 :=x * lo / W64
    ((h + W64 - (if mid < mid2 then 1 else 0)) % W64 / 2 ^ s) ||| (if 1 < (mid + W64 - mid2) % W64 then 1 else 0)
  else h / 2 ^ s ||| 1
structure Scale (w : World) (pc hi lo s : Nat) : Prop where
  hi : w.cell? ⟨pc,0,none⟩ = some (.int .u64 hi)
  lo : w.cell? ⟨pc,1,none⟩ = some (.int .u64 lo)
  s : w.cell? ⟨pc,2,none⟩ = some (.int .i64 s)
theorem and63i (x : Nat) (hx : x < 64) : bits .and .i64 (x : Int) 63 = (x : Int) :=by
  simp only [bits,show (63 : Int) = ((63 : Nat) : Int) from rfl,BitVec.ofInt_natCast,BitVec.toNat_and,BitVec.toNat_ofNat]
  show IntKind.i64.wrap ((x % 2 ^ 64 &&& 63 % 2 ^ 64 : Nat) : Int) = x
  rw [Nat.mod_eq_of_lt (by omega : x < 2 ^ 64),show 63 % 2 ^ 64 = 2 ^ 6 - 1 from rfl,Nat.and_two_pow_sub_one_eq_mod,Nat.mod_eq_of_lt (by omega : x < 2 ^ 6)]
  exact wrap_i64_in _ (by omega) (by omega)
theorem sub_mod (W m n : Nat) (hn : n ≤ W) : ((m : Int) - (n : Int)) % (W : Int) = (((m + W - n) % W : Nat) : Int) :=by
  rw [Int.natCast_emod,Int.ofNat_sub (by omega),Int.natCast_add,show (m : Int) + (W : Int) - (n : Int) = (m : Int) - (n : Int) + (W : Int) by omega,Int.add_emod_right]
theorem wrap_sub (m n : Nat) (hn : n ≤ W64) : IntKind.u64.wrap ((m : Int) - (n : Int)) = (((m + W64 - n) % W64 : Nat) : Int) :=by
  rw [wrap_u64]
  exact sub_mod W64 m n hn
theorem mul_hi (W x y : Nat) (hx : x < W) (hy : y < W) : x * y / W < W :=(Nat.div_lt_iff_lt_mul (by omega)).2 (Nat.lt_of_le_of_lt (Nat.mul_le_mul_right _ (Nat.le_of_lt hx)) (Nat.mul_lt_mul_of_pos_left hy (by omega)))
theorem shl_back (h s : Nat) (hb : h < 18446744073709551616) : IntKind.u64.wrap (((h / 2 ^ s : Nat) : Int) * 2 ^ s) = ((h / 2 ^ s * 2 ^ s : Nat) : Int) :=by
  have hq : h / 2 ^ s * 2 ^ s ≤ h :=Nat.div_mul_le_self _ _
  rw [cast_mul,wrap_u64_in _ (by omega) (by omega)]
theorem usc_parts (x hi lo s : Nat) (hx : x < W64) (hh : hi < W64) (hl : lo < W64) : ∃ h m m2 : Nat,x * hi / W64 = h ∧ x * hi % W64 = m ∧ x * lo / W64 = m2 ∧ h < 18446744073709551616 ∧ m < 18446744073709551616 ∧ m2 < 18446744073709551616 ∧
    (h / 2 ^ s * 2 ^ s ≠ h → usc x hi lo s = h / 2 ^ s ||| 1) ∧
    (h / 2 ^ s * 2 ^ s = h → ∃ h' r : Nat,h' < 18446744073709551616 ∧ IntKind.u64.wrap ((h : Int) - ((if m < m2 then 1 else 0 : Nat) : Int)) = (h' : Int) ∧ IntKind.u64.wrap ((m : Int) - (m2 : Int)) = (r : Int) ∧ usc x hi lo s = h' / 2 ^ s ||| (if 1 < r then 1 else 0)) :=by
  refine ⟨_,_,_,rfl,rfl,rfl,mul_hi _ _ _ hx hh,Nat.mod_lt _ (by decide),mul_hi _ _ _ hx hl,fun h => ?_,fun h => ⟨_,_,Nat.mod_lt _ (by decide),wrap_sub _ _ ?_,wrap_sub _ _ (Nat.le_of_lt (mul_hi _ _ _ hx hl)),?_⟩⟩
  · unfold usc;simp only;rw [if_neg h]
  · split <;> decide
  · unfold usc;simp only;rw [if_pos h]
theorem uscale (w : World) (pc x hi lo s : Nat) (hx : x < W64) (hh : hi < W64) (hl : lo < W64) (hs : s < 64) (hc : Scale w pc hi lo s) :
    Calls Tryz.prog 238 #[.int .u64 x,ptr pc] w fun e w' => e = .returned (.int .u64 (usc x hi lo s)) ∧ Kept w w' :=by
  have c0 :=hc.hi
  have c1 :=hc.lo
  have c2 :=hc.s
  have hm :=bits_Mul64 x hi hx hh
  have hm2 :=bits_Mul64 x lo hx hl
  have hW : (18446744073709551616 : Nat) = W64 :=rfl
  rw [hW] at hm hm2
  obtain ⟨h,m,m2,p1,p2,p3,b1,b2,b3,p4,p5⟩ :=usc_parts x hi lo s hx hh hl
  rw [p1,p2] at hm
  rw [p3] at hm2
  generalize x * lo % W64 = l2 at *
  generalize usc x hi lo s = U at *
  clear p1 p2 p3 hW hx hh hl hc
  have a1 :=and63i s hs
  have hs63 : s ≤ 63 :=by omega
  have hqd : h / 2 ^ s ≤ h :=Nat.div_le_self _ _
  have f2 :=(cast_div h s).symm
  have f3 :=shl_back h s b1
  have f4 :=or_u64 (h / 2 ^ s) 1 (by omega) (by omega)
  by_cases hc : h / 2 ^ s * 2 ^ s = h
  · obtain ⟨h',r,b4,k1,k2,rfl⟩ :=p5 hc
    clear p4 p5
    rw [hc] at f3
    have hq' : h' / 2 ^ s ≤ h' :=Nat.div_le_self _ _
    obtain ⟨g,hg⟩ : ∃ g,(if 1 < r then 1 else 0) = g :=⟨_,rfl⟩
    rw [hg]
    have hgb : g < 2 :=by rw [← hg];split <;> omega
    have hb1 : ∀ W,Calls Tryz.prog 266 #[.bool (decide (m < m2))] W fun e w' => e = .returned (.int .u64 ((if m < m2 then 1 else 0 : Nat) : Int)) ∧ w' = W :=fun W => by
      have :=boolTo 266 (decide (m < m2)) W (.inl rfl)
      by_cases h : m < m2 <;> simpa [h] using this
    have hb2 : ∀ W,Calls Tryz.prog 266 #[.bool (decide ((1 : Int) < (r : Int)))] W fun e w' => e = .returned (.int .u64 (g : Nat)) ∧ w' = W :=fun W => by
      have :=boolTo 266 (decide ((1 : Int) < (r : Int))) W (.inl rfl)
      have e : ((1 : Int) < (r : Int)) = (1 < r) :=propext ⟨fun h => by omega,fun h => by omega⟩
      simp only [e] at this ⊢
      by_cases h : 1 < r <;> (simp [h] at hg;subst hg;simpa [h] using this)
    have f5 :=(cast_div h' s).symm
    have f6 :=or_u64 (h' / 2 ^ s) g (by omega) (by omega)
    generalize (if m < m2 then 1 else 0 : Nat) = d at *
    generalize h / 2 ^ s = q at *
    generalize h' / 2 ^ s = q2 at *
    clear hg hc
    go_enter Tryz.func238,Tryz.ntmps238
    go_wp2_with (first
      | (refine wp_region_lit_segs (id :=7) [[0,1,2,3,4,5,6,7,8,9]] mixed (by kernel_rfl) ?_;simp only [wpSegsL,gaC,gaN,lZ0,lS0,coS])
      | refine ⟨by kernel_rfl,?_⟩
      | (go_at_call 211;first
          | ((with_reducible refine (hm _).mono ?_);rintro e w' ⟨rfl,hw⟩;rw [hw];clear hw)
          | ((with_reducible refine (hm2 _).mono ?_);rintro e w' ⟨rfl,hw⟩;rw [hw];clear hw))
      | (go_at_call 266;first
          | ((with_reducible refine (hb1 _).mono ?_);rintro e w' ⟨rfl,hw⟩;rw [hw];clear hw)
          | ((with_reducible refine (hb2 _).mono ?_);rintro e w' ⟨rfl,hw⟩;rw [hw];clear hw)))
    first | go_ret | refine ⟨_,results_tmp rfl _ _ _,?_⟩
    exact ⟨rfl,(Chg.refl _ _).drew⟩
  · have hne : (((h / 2 ^ s * 2 ^ s : Nat) : Int) != (h : Int)) = true :=by simp only [bne_iff_ne,ne_eq];omega
    rw [p4 hc]
    clear p4 p5
    generalize h / 2 ^ s * 2 ^ s = r at *
    generalize h / 2 ^ s = q at *
    clear hc
    go_enter Tryz.func238,Tryz.ntmps238
    go_wp2_with (go_at_call 211;(with_reducible refine (hm _).mono ?_);rintro e w' ⟨rfl,hw⟩;rw [hw];clear hw)
    first | go_ret | refine ⟨_,results_tmp rfl _ _ _,?_⟩
    exact ⟨congrArg (fun i => Ending.returned (Value.int .u64 i)) f4,Chg.refl _ _⟩
theorem nudge (x y : Nat) (d : Int) (h : (x : Int) + d = (y : Int)) (hd : d = 0 ∨ d = 1 ∨ d = -1) (hy : y < 18446744073709551616) (hx : x < 18446744073709551616) (w : World) : Calls Tryz.prog 239 #[.int .u64 x,.int .i64 d] w fun e w' => e = .returned (.int .u64 y) ∧ w' = w :=by
  rcases hd with rfl | rfl | rfl
  · obtain rfl : x = y :=by omega
    go_enter Tryz.func239,Tryz.ntmps239
    go_wp2
    first | go_ret | refine ⟨_,results_tmp rfl _ _ _,?_⟩
    exact ⟨rfl,rfl⟩
  · have e1 : IntKind.u64.wrap ((x : Int) + 1) = (y : Int) :=by rw [wrap_u64];omega
    clear h
    go_enter Tryz.func239,Tryz.ntmps239
    go_wp2
    first | go_ret | refine ⟨_,results_tmp rfl _ _ _,?_⟩
    exact ⟨rfl,rfl⟩
  · have e1 : IntKind.u64.wrap ((x : Int) + 18446744073709551615) = (y : Int) :=by rw [wrap_u64];omega
    have e2 : IntKind.u64.wrap (-1) = 18446744073709551615 :=by rw [wrap_u64];rfl
    clear h
    go_enter Tryz.func239,Tryz.ntmps239
    go_wp2
    first | go_ret | refine ⟨_,results_tmp rfl _ _ _,?_⟩
    exact ⟨rfl,rfl⟩
theorem uceil (x : Nat) (hx : x < 18446744073709551610) (w : World) : Calls Tryz.prog 240 #[.int .u64 x] w fun e w' => e = .returned (.int .u64 ((x + 3) / 4 : Nat)) ∧ w' = w :=by
  have e1 :=wrap_u64_in ((x : Int) + 3) (by omega) (by omega)
  have e2 : ((x : Int) + 3) / 4 = (((x + 3) / 4 : Nat) : Int) :=by omega
  generalize (x + 3) / 4 = y at *
  go_enter Tryz.func240,Tryz.ntmps240
  go_wp2
  first | go_ret | refine ⟨_,results_tmp rfl _ _ _,?_⟩
  exact ⟨rfl,rfl⟩
theorem ufloor (x : Nat) (hx : x < 18446744073709551610) (w : World) : Calls Tryz.prog 241 #[.int .u64 x] w fun e w' => e = .returned (.int .u64 (x / 4 : Nat)) ∧ w' = w :=by
  have e2 : (x : Int) / 4 = ((x / 4 : Nat) : Int) :=by omega
  generalize x / 4 = y at *
  go_enter Tryz.func241,Tryz.ntmps241
  go_wp2
  first | go_ret | refine ⟨_,results_tmp rfl _ _ _,?_⟩
  exact ⟨rfl,rfl⟩
theorem uround (x : Nat) (hx : x < 18446744073709551610) (w : World) : Calls Tryz.prog 242 #[.int .u64 x] w fun e w' => e = .returned (.int .u64 ((x + 1 + x / 4 % 2) / 4 : Nat)) ∧ w' = w :=by
  have e0 : (x : Int) / 4 = ((x / 4 : Nat) : Int) :=by omega
  have e1 :=wrap_u64_in ((x : Int) + 1) (by omega) (by omega)
  have e2 : bits .and .u64 ((x / 4 : Nat) : Int) 1 = ((x / 4 % 2 : Nat) : Int) :=by
    have h :=and_u64 (x / 4) (2 ^ 1 - 1) (by omega) (by decide)
    rw [Nat.and_two_pow_sub_one_eq_mod] at h
    exact h
  have e3 : IntKind.u64.wrap ((x : Int) + 1 + ((x / 4 % 2 : Nat) : Int)) = ((x + 1 + x / 4 % 2 : Nat) : Int) :=by rw [wrap_u64_in _ (by omega) (by omega)];omega
  have e4 : ((x + 1 + x / 4 % 2 : Nat) : Int) / 4 = (((x + 1 + x / 4 % 2) / 4 : Nat) : Int) :=by omega
  generalize (x + 1 + x / 4 % 2) / 4 = y at *
  generalize x + 1 + x / 4 % 2 = z at *
  generalize x / 4 % 2 = u at *
  generalize x / 4 = v at *
  go_enter Tryz.func242,Tryz.ntmps242
  go_wp2
  first | go_ret | refine ⟨_,results_tmp rfl _ _ _,?_⟩
  exact ⟨rfl,rfl⟩
end Go.Proofs.YtfmmdamgcpiciaaGreatDoor
namespace Go.Proofs.YtfmmdamgcpiciaaGreatDoor
open Go Go.RowKit
def TabAt (w : World) (i hi lo : Nat) : Prop :=w.cell? ⟨8,i * 2,none⟩ = some (.int .u64 hi) ∧ w.cell? ⟨8,i * 2 + 1,none⟩ = some (.int .u64 lo)
theorem prescale (w : World) (pc i hi lo s : Nat) (e p lp : Int) (ht : TabAt w i hi lo) (hi1 : p + 348 = (i : Int)) (hi2 : i < 696) (hs : -(e + lp + 3) = (s : Int)) (he : -4000 ≤ e) (he2 : e ≤ 4000) (hl : -4000 ≤ lp) (hl2 : lp ≤ 4000)
    {u0 u1 u2 : Value} (c0 : w.cell? ⟨pc,0,none⟩ = some u0) (c1 : w.cell? ⟨pc,1,none⟩ = some u1) (c2 : w.cell? ⟨pc,2,none⟩ = some u2) (nf : NF w pc) (hpc : 8 < pc) :
    Calls Tryz.prog 236 #[ptr pc,.int .i64 e,.int .i64 p,.int .i64 lp] w fun r w' => r = .returned (.tuple #[]) ∧ Scale w' pc hi lo s ∧ Chg w w' (fun b _ => b = pc) :=by
  have t0 :=ht.1
  have t1 :=ht.2
  have f0 :=nf 0
  have f1 :=nf 1
  have f2 :=nf 2
  have e1 :=wrap_i64_in (p + 348) (by omega) (by omega)
  have e2 :=wrap_i64_in (e + lp) (by omega) (by omega)
  have e3 :=wrap_i64_in (e + lp + 3) (by omega) (by omega)
  have e4 :=wrap_i64_in (-(e + lp + 3)) (by omega) (by omega)
  go_enter Tryz.func236,Tryz.ntmps236
  go_wp2_with fail
  first | go_end0 | refine ⟨_,results_none rfl _ _ _,?_⟩
  refine ⟨rfl,⟨cs_ne (cs_ne (cell_setCell_eq c0) (by omega)) (by omega),cs_ne (cell_setCell_eq (cs_ne c1 (by omega))) (by omega),cell_setCell_eq (cs_ne (cs_ne c2 (by omega)) (by omega))⟩,?_⟩
  exact ((Chg.setCell w pc 0 (.int .u64 hi) (fun b _ => b = pc) fun _ => rfl).trans (Chg.setCell _ pc 1 (.int .u64 lo) (fun b _ => b = pc) fun _ => rfl) fun _ _ _ h => h).trans (Chg.setCell _ pc 2 (.int .i64 s) (fun b _ => b = pc) fun _ => rfl) fun _ _ _ h => h
theorem Scale.kept {w w' : World} {pc hi lo s : Nat} (h : Scale w pc hi lo s) (k : Kept w w') : Scale w' pc hi lo s :=⟨Kept.at k h.hi,Kept.at k h.lo,Kept.at k h.s⟩
theorem TabAt.kept {w w' : World} {i hi lo : Nat} (h : TabAt w i hi lo) (k : Kept w w') : TabAt w' i hi lo :=⟨Kept.at k h.1,Kept.at k h.2⟩
def sfP (m : Nat) (e : Int) : Int :=if m = 9223372036854775808 then -(((e + 11) * 631305 - 261663) / 2097152) else -((e + 11) * 78913 / 262144)
def sfS (m : Nat) (e : Int) : Int :=-(e + sfP m e * 108853 / 32768 + 3)
def sfMin (m : Nat) : Nat :=if m = 9223372036854775808 then m - 512 else m - 1024
def sfOdd (m : Nat) : Nat :=m / 2048 % 2
def sfLow (m : Nat) (e : Int) (hi lo : Nat) : Nat :=(usc (sfMin m) hi lo (sfS m e).toNat + sfOdd m + 3) / 4
def sfTop (m : Nat) (e : Int) (hi lo : Nat) : Nat :=(usc (m + 1024) hi lo (sfS m e).toNat - sfOdd m) / 4
def sfMid (m : Nat) (e : Int) (hi lo : Nat) : Nat :=(usc m hi lo (sfS m e).toNat + 1 + usc m hi lo (sfS m e).toNat / 4 % 2) / 4
def sfD (m : Nat) (e : Int) (hi lo : Nat) : Nat × Int :=
  if sfLow m e hi lo ≤ sfTop m e hi lo / 10 * 10 then (sfTop m e hi lo / 10,-(sfP m e - 1))
  else (if sfLow m e hi lo < sfTop m e hi lo then sfMid m e hi lo else sfLow m e hi lo,-sfP m e)
structure SfOk (m : Nat) (e : Int) (hi lo : Nat) : Prop where
  m1 : 9223372036854775808 ≤ m
  m2 : m ≤ 18446744073709549568
  e1 : -1085 < e
  e2 : e ≤ 1000
  s1 : 0 ≤ sfS m e
  s2 : sfS m e < 64
  h : hi < W64
  l : lo < W64
  u1 : usc (sfMin m) hi lo (sfS m e).toNat < 4000000000000000000
  u2 : usc (m + 1024) hi lo (sfS m e).toNat < 4000000000000000000
  u3 : usc m hi lo (sfS m e).toNat < 4000000000000000000
  u4 : 1 ≤ usc (m + 1024) hi lo (sfS m e).toNat
  p1 : -348 ≤ sfP m e
  p2 : sfP m e < 348
theorem and1i (x : Nat) (hx : x < 9223372036854775808) : bits .and .i64 (x : Int) 1 = ((x % 2 : Nat) : Int) :=by
  simp only [bits,show (1 : Int) = ((1 : Nat) : Int) from rfl,BitVec.ofInt_natCast,BitVec.toNat_and,BitVec.toNat_ofNat]
  show IntKind.i64.wrap ((x % 2 ^ 64 &&& 1 % 2 ^ 64 : Nat) : Int) = _
  rw [Nat.mod_eq_of_lt (by omega : x < 2 ^ 64),show 1 % 2 ^ 64 = 2 ^ 1 - 1 from rfl,Nat.and_two_pow_sub_one_eq_mod,show 2 ^ 1 = 2 from rfl]
  exact wrap_i64_in _ (by omega) (by omega)
theorem sc_made (w : World) (x y z : Value) (t : TypeId) : (w.alloc (.cells #[x,y,z] t)).cell? ⟨w.heap.size,0,none⟩ = some x ∧ (w.alloc (.cells #[x,y,z] t)).cell? ⟨w.heap.size,1,none⟩ = some y ∧ (w.alloc (.cells #[x,y,z] t)).cell? ⟨w.heap.size,2,none⟩ = some z :=by
  refine ⟨?_,?_,?_⟩ <;> (rw [World.cell?_alloc_at _ _ _ _ rfl];rfl)
theorem shortFloat (w : World) (m i hi lo : Nat) (e : Int) (ok : SfOk m e hi lo) (hw : 8 < w.heap.size) (hi1 : sfP m e + 348 = (i : Int)) (ht : TabAt w i hi lo) :
    Calls Tryz.prog 204 #[.int .u64 m,.int .i64 e] w fun r w' => r = .returned (.tuple #[.int .u64 (sfD m e hi lo).1,.int .i64 (sfD m e hi lo).2]) ∧ Kept w w' :=by
  obtain ⟨s,hs⟩ : ∃ s : Nat,sfS m e = (s : Int) :=⟨(sfS m e).toNat,by have :=ok.s1;omega⟩
  have hst : (sfS m e).toNat = s :=by omega
  have o1 :=ok.m1
  have o2 :=ok.m2
  have o3 :=ok.e1
  have o4 :=ok.e2
  have o5 :=ok.s2
  have o6 :=ok.u1
  have o7 :=ok.u2
  have o8 :=ok.u3
  have o9 :=ok.u4
  have o10 :=ok.p1
  have o11 :=ok.p2
  have hD : sfD m e hi lo = if sfLow m e hi lo ≤ sfTop m e hi lo / 10 * 10 then (sfTop m e hi lo / 10,-(sfP m e - 1)) else (if sfLow m e hi lo < sfTop m e hi lo then sfMid m e hi lo else sfLow m e hi lo,-sfP m e) :=rfl
  have hL : sfLow m e hi lo = (usc (sfMin m) hi lo s + sfOdd m + 3) / 4 :=by unfold sfLow;rw [hst]
  have hT : sfTop m e hi lo = (usc (m + 1024) hi lo s - sfOdd m) / 4 :=by unfold sfTop;rw [hst]
  have hM : sfMid m e hi lo = (usc m hi lo s + 1 + usc m hi lo s / 4 % 2) / 4 :=by unfold sfMid;rw [hst]
  rw [hst] at o6 o7 o8 o9
  rw [hs] at o5
  obtain ⟨p,hp⟩ : ∃ p,sfP m e = p :=⟨_,rfl⟩
  have hlp : -(e + p * 108853 / 32768 + 3) = (s : Int) :=by rw [← hs,← hp];rfl
  obtain ⟨odd,hod⟩ : ∃ o,sfOdd m = o :=⟨_,rfl⟩
  have hodb : odd < 2 :=by rw [← hod];exact Nat.mod_lt _ (by decide)
  obtain ⟨mn,hmn⟩ : ∃ o,sfMin m = o :=⟨_,rfl⟩
  rw [hod] at hL hT
  rw [hmn] at hL o6
  rw [hp] at hD hi1 o10 o11
  have hmnb : mn < W64 :=by rw [← hmn];unfold sfMin W64;split <;> omega
  have q1 :=fun W pc (hc : Scale W pc hi lo s) => uscale W pc mn hi lo s hmnb ok.h ok.l (by omega) hc
  have q2 :=fun W pc (hc : Scale W pc hi lo s) => uscale W pc (m + 1024) hi lo s (by unfold W64;omega) ok.h ok.l (by omega) hc
  have q3 :=fun W pc (hc : Scale W pc hi lo s) => uscale W pc m hi lo s (by unfold W64;omega) ok.h ok.l (by omega) hc
  have hpre :=fun W pc (ht : TabAt W i hi lo) {u0 u1 u2 : Value} (c0 : W.cell? ⟨pc,0,none⟩ = some u0) (c1 : W.cell? ⟨pc,1,none⟩ = some u1) (c2 : W.cell? ⟨pc,2,none⟩ = some u2) (nf : NF W pc) (hpc : 8 < pc) => prescale W pc i hi lo s e p (p * 108853 / 32768) ht hi1 (by omega) hlp (by omega) (by omega) (by omega) (by omega) c0 c1 c2 nf hpc
  have hl2 :=log2Pow10 p (by omega) (by omega)
  clear ok hs hst hlp
  obtain ⟨a,ha⟩ : ∃ a,usc mn hi lo s = a :=⟨_,rfl⟩
  obtain ⟨b,hb⟩ : ∃ a,usc (m + 1024) hi lo s = a :=⟨_,rfl⟩
  obtain ⟨c,hc⟩ : ∃ a,usc m hi lo s = a :=⟨_,rfl⟩
  rw [ha] at q1 o6 hL
  rw [hb] at q2 o7 o9 hT
  rw [hc] at q3 o8 hM
  have n1 :=nudge a (a + odd) odd (by omega) (by omega) (by omega) (by omega)
  have n2 :=uceil (a + odd) (by omega)
  have n3 :=nudge b (b - odd) (-(odd : Int)) (by omega) (by omega) (by omega) (by omega)
  have n4 :=ufloor (b - odd) (by omega)
  have n5 :=uround c (by omega)
  rw [← hL] at n2
  rw [← hT] at n4
  rw [← hM] at n5
  have hLb : sfLow m e hi lo < 2000000000000000000 :=by rw [hL];omega
  have hTb : sfTop m e hi lo < 2000000000000000000 :=by rw [hT];omega
  generalize a + odd = a1 at *
  generalize b - odd = b1 at *
  rw [hD]
  clear hL hT hM ha hb hc hD
  generalize sfLow m e hi lo = dm at *
  generalize sfTop m e hi lo = dx at *
  generalize sfMid m e hi lo = md at *
  have k1 : (dx : Int) / 10 = ((dx / 10 : Nat) : Int) :=by omega
  have k2 : (dx : Int).tdiv 10 = ((dx / 10 : Nat) : Int) :=by rw [Int.tdiv_eq_ediv_of_nonneg (by omega)];exact k1
  have k3 : IntKind.u64.wrap (((dx / 10 : Nat) : Int) * 10) = ((dx / 10 * 10 : Nat) : Int) :=by rw [wrap_u64_in _ (by omega) (by omega)];omega
  have k4 :=wrap_i64_in (p - 1) (by omega) (by omega)
  have k5 :=wrap_i64_in (-(p - 1)) (by omega) (by omega)
  have k6 :=wrap_i64_in (-p) (by omega) (by omega)
  have kb :=wrap_i64_in (e + 11) (by omega) (by omega)
  generalize hd0 : dx / 10 = d0 at *
  have HD :=Lib.hid hd0
  clear hd0
  obtain ⟨d10,hd10⟩ : ∃ d,d0 * 10 = d :=⟨_,rfl⟩
  rw [hd10] at k3 ⊢
  clear hd10
  have HT :=Lib.hid ht
  clear ht
  have hmx : IntKind.u64.wrap ((m : Int) + 1024) = ((m + 1024 : Nat) : Int) :=by rw [wrap_u64_in _ (by omega) (by omega)];omega
  by_cases hpw : m = 9223372036854775808
  · subst hpw
    have hm1 : IntKind.u64.wrap ((9223372036854775808 : Int) - 512) = (mn : Int) :=by
      rw [← hmn];unfold sfMin;rw [if_pos rfl];rfl
    have hm2 : (9223372036854775296 : Int) = (mn : Int) :=by rw [← hmn];unfold sfMin;rw [if_pos rfl];rfl
    have hpp : -(((e + 11) * 631305 - 261663) / 2097152) = p :=by rw [← hp];unfold sfP;rw [if_pos rfl]
    have hsk :=skewed (e + 11) (by omega) (by omega)
    have hand : bits .and .i64 (4503599627370496 : Int) 1 = (odd : Int) :=by rw [← hod];rfl
    have e9 : ((9223372036854775808 + 1024 : Nat) : Int) = 9223372036854776832 :=rfl
    have e8 : ((9223372036854775808 : Nat) : Int) = 9223372036854775808 :=rfl
    simp only [e9] at q2
    simp only [e8] at q3
    have hee : (-1085 < e) = True :=eq_true o3
    generalize ((e + 11) * 631305 - 261663) / 2097152 = x10 at *
    clear hmn hod hp hi1 hmnb
    by_cases h1 : dm ≤ d10
    · rw [if_pos h1]
      go_enter Tryz.func204,Tryz.ntmps204
      go_wp2_with (first
            | (go_at_call 235;(with_reducible refine (hsk _).mono ?_);rintro r w1 ⟨rfl,hw1⟩;rw [hw1];clear hw1)
            | (go_at_call 237;(with_reducible refine (hl2 _).mono ?_);rintro r w1 ⟨rfl,hw1⟩;rw [hw1];clear hw1)
            | (go_at_call 236;refine (hpre _ w.heap.size (HT.out.kept (Chg.alloc _ _ _)) (sc_made w _ _ _ _).1 (sc_made w _ _ _ _).2.1 (sc_made w _ _ _ _).2.2 (NF.made w _ _) hw).mono ?_;rintro r w1 ⟨rfl,sc,k⟩;have K :=Lib.hid ((Chg.alloc _ _ _ : Kept w _).keptNew k fun b _ h => by omega);clear k)
            | (go_at_call 238;first
                | ((with_reducible refine (q1 _ _ sc).mono ?_);rintro r w1 ⟨rfl,k⟩;have sc :=sc.kept k;have K :=Lib.hid (kt K.out k);clear k)
                | ((with_reducible refine (q2 _ _ sc).mono ?_);rintro r w1 ⟨rfl,k⟩;have sc :=sc.kept k;have K :=Lib.hid (kt K.out k);clear k)
                | ((with_reducible refine (q3 _ _ sc).mono ?_);rintro r w1 ⟨rfl,k⟩;have sc :=sc.kept k;have K :=Lib.hid (kt K.out k);clear k))
            | (go_at_call 239;first
                | ((with_reducible refine (n1 _).mono ?_);rintro r w1 ⟨rfl,hw1⟩;rw [hw1];clear hw1)
                | ((with_reducible refine (n3 _).mono ?_);rintro r w1 ⟨rfl,hw1⟩;rw [hw1];clear hw1))
            | (go_at_call 240;(with_reducible refine (n2 _).mono ?_);rintro r w1 ⟨rfl,hw1⟩;rw [hw1];clear hw1)
            | (go_at_call 241;(with_reducible refine (n4 _).mono ?_);rintro r w1 ⟨rfl,hw1⟩;rw [hw1];clear hw1)
            | (go_at_call 242;(with_reducible refine (n5 _).mono ?_);rintro r w1 ⟨rfl,hw1⟩;rw [hw1];clear hw1))
      first | go_ret2 | refine ⟨_,results_tmp2 rfl _ _ _,?_⟩
      exact ⟨rfl,K.out⟩
    · rw [if_neg h1]
      by_cases h2 : dm < dx
      · rw [if_pos h2]
        go_enter Tryz.func204,Tryz.ntmps204
        go_wp2_with (first
              | (go_at_call 235;(with_reducible refine (hsk _).mono ?_);rintro r w1 ⟨rfl,hw1⟩;rw [hw1];clear hw1)
              | (go_at_call 237;(with_reducible refine (hl2 _).mono ?_);rintro r w1 ⟨rfl,hw1⟩;rw [hw1];clear hw1)
              | (go_at_call 236;refine (hpre _ w.heap.size (HT.out.kept (Chg.alloc _ _ _)) (sc_made w _ _ _ _).1 (sc_made w _ _ _ _).2.1 (sc_made w _ _ _ _).2.2 (NF.made w _ _) hw).mono ?_;rintro r w1 ⟨rfl,sc,k⟩;have K :=Lib.hid ((Chg.alloc _ _ _ : Kept w _).keptNew k fun b _ h => by omega);clear k)
              | (go_at_call 238;first
                  | ((with_reducible refine (q1 _ _ sc).mono ?_);rintro r w1 ⟨rfl,k⟩;have sc :=sc.kept k;have K :=Lib.hid (kt K.out k);clear k)
                  | ((with_reducible refine (q2 _ _ sc).mono ?_);rintro r w1 ⟨rfl,k⟩;have sc :=sc.kept k;have K :=Lib.hid (kt K.out k);clear k)
                  | ((with_reducible refine (q3 _ _ sc).mono ?_);rintro r w1 ⟨rfl,k⟩;have sc :=sc.kept k;have K :=Lib.hid (kt K.out k);clear k))
              | (go_at_call 239;first
                  | ((with_reducible refine (n1 _).mono ?_);rintro r w1 ⟨rfl,hw1⟩;rw [hw1];clear hw1)
                  | ((with_reducible refine (n3 _).mono ?_);rintro r w1 ⟨rfl,hw1⟩;rw [hw1];clear hw1))
              | (go_at_call 240;(with_reducible refine (n2 _).mono ?_);rintro r w1 ⟨rfl,hw1⟩;rw [hw1];clear hw1)
              | (go_at_call 241;(with_reducible refine (n4 _).mono ?_);rintro r w1 ⟨rfl,hw1⟩;rw [hw1];clear hw1)
              | (go_at_call 242;(with_reducible refine (n5 _).mono ?_);rintro r w1 ⟨rfl,hw1⟩;rw [hw1];clear hw1))
        first | go_ret2 | refine ⟨_,results_tmp2 rfl _ _ _,?_⟩
        exact ⟨rfl,K.out⟩
      · rw [if_neg h2]
        go_enter Tryz.func204,Tryz.ntmps204
        go_wp2_with (first
              | (go_at_call 235;(with_reducible refine (hsk _).mono ?_);rintro r w1 ⟨rfl,hw1⟩;rw [hw1];clear hw1)
              | (go_at_call 237;(with_reducible refine (hl2 _).mono ?_);rintro r w1 ⟨rfl,hw1⟩;rw [hw1];clear hw1)
              | (go_at_call 236;refine (hpre _ w.heap.size (HT.out.kept (Chg.alloc _ _ _)) (sc_made w _ _ _ _).1 (sc_made w _ _ _ _).2.1 (sc_made w _ _ _ _).2.2 (NF.made w _ _) hw).mono ?_;rintro r w1 ⟨rfl,sc,k⟩;have K :=Lib.hid ((Chg.alloc _ _ _ : Kept w _).keptNew k fun b _ h => by omega);clear k)
              | (go_at_call 238;first
                  | ((with_reducible refine (q1 _ _ sc).mono ?_);rintro r w1 ⟨rfl,k⟩;have sc :=sc.kept k;have K :=Lib.hid (kt K.out k);clear k)
                  | ((with_reducible refine (q2 _ _ sc).mono ?_);rintro r w1 ⟨rfl,k⟩;have sc :=sc.kept k;have K :=Lib.hid (kt K.out k);clear k)
                  | ((with_reducible refine (q3 _ _ sc).mono ?_);rintro r w1 ⟨rfl,k⟩;have sc :=sc.kept k;have K :=Lib.hid (kt K.out k);clear k))
              | (go_at_call 239;first
                  | ((with_reducible refine (n1 _).mono ?_);rintro r w1 ⟨rfl,hw1⟩;rw [hw1];clear hw1)
                  | ((with_reducible refine (n3 _).mono ?_);rintro r w1 ⟨rfl,hw1⟩;rw [hw1];clear hw1))
              | (go_at_call 240;(with_reducible refine (n2 _).mono ?_);rintro r w1 ⟨rfl,hw1⟩;rw [hw1];clear hw1)
              | (go_at_call 241;(with_reducible refine (n4 _).mono ?_);rintro r w1 ⟨rfl,hw1⟩;rw [hw1];clear hw1)
              | (go_at_call 242;(with_reducible refine (n5 _).mono ?_);rintro r w1 ⟨rfl,hw1⟩;rw [hw1];clear hw1))
        first | go_ret2 | refine ⟨_,results_tmp2 rfl _ _ _,?_⟩
        exact ⟨rfl,K.out⟩
  · have hm1 : IntKind.u64.wrap ((m : Int) - 1024) = (mn : Int) :=by
      rw [← hmn];unfold sfMin;rw [if_neg hpw,wrap_u64_in _ (by omega) (by omega)];omega
    have hpp : -((e + 11) * 78913 / 262144) = p :=by rw [← hp];unfold sfP;rw [if_neg hpw]
    have hl10 :=log10Pow2 (e + 11) (by omega) (by omega)
    have hsh : (m : Int) / 2048 = ((m / 2048 : Nat) : Int) :=by omega
    have hcv :=wrap_i64_in ((m / 2048 : Nat) : Int) (by omega) (by omega)
    have hand : bits .and .i64 ((m / 2048 : Nat) : Int) 1 = (odd : Int) :=by
      rw [← hod]
      exact and1i (m / 2048) (by omega)
    have hne : ((m : Int) == 9223372036854775808) = false :=by simp only [beq_eq_false_iff_ne];omega
    generalize (e + 11) * 78913 / 262144 = x10 at *
    generalize m / 2048 = ms at *
    generalize ((m + 1024 : Nat) : Int) = MX at *
    generalize (m : Int) = M at *
    clear hmn hod hp hi1 hmnb
    by_cases h1 : dm ≤ d10
    · rw [if_pos h1]
      go_enter Tryz.func204,Tryz.ntmps204
      go_wp2_with (first
            | (go_at_call 199;(with_reducible refine (hl10 _).mono ?_);rintro r w1 ⟨rfl,hw1⟩;rw [hw1];clear hw1)
            | (go_at_call 237;(with_reducible refine (hl2 _).mono ?_);rintro r w1 ⟨rfl,hw1⟩;rw [hw1];clear hw1)
            | (go_at_call 236;refine (hpre _ w.heap.size (HT.out.kept (Chg.alloc _ _ _)) (sc_made w _ _ _ _).1 (sc_made w _ _ _ _).2.1 (sc_made w _ _ _ _).2.2 (NF.made w _ _) hw).mono ?_;rintro r w1 ⟨rfl,sc,k⟩;have K :=Lib.hid ((Chg.alloc _ _ _ : Kept w _).keptNew k fun b _ h => by omega);clear k)
            | (go_at_call 238;first
                | ((with_reducible refine (q1 _ _ sc).mono ?_);rintro r w1 ⟨rfl,k⟩;have sc :=sc.kept k;have K :=Lib.hid (kt K.out k);clear k)
                | ((with_reducible refine (q2 _ _ sc).mono ?_);rintro r w1 ⟨rfl,k⟩;have sc :=sc.kept k;have K :=Lib.hid (kt K.out k);clear k)
                | ((with_reducible refine (q3 _ _ sc).mono ?_);rintro r w1 ⟨rfl,k⟩;have sc :=sc.kept k;have K :=Lib.hid (kt K.out k);clear k))
            | (go_at_call 239;first
                | ((with_reducible refine (n1 _).mono ?_);rintro r w1 ⟨rfl,hw1⟩;rw [hw1];clear hw1)
                | ((with_reducible refine (n3 _).mono ?_);rintro r w1 ⟨rfl,hw1⟩;rw [hw1];clear hw1))
            | (go_at_call 240;(with_reducible refine (n2 _).mono ?_);rintro r w1 ⟨rfl,hw1⟩;rw [hw1];clear hw1)
            | (go_at_call 241;(with_reducible refine (n4 _).mono ?_);rintro r w1 ⟨rfl,hw1⟩;rw [hw1];clear hw1)
            | (go_at_call 242;(with_reducible refine (n5 _).mono ?_);rintro r w1 ⟨rfl,hw1⟩;rw [hw1];clear hw1))
      first | go_ret2 | refine ⟨_,results_tmp2 rfl _ _ _,?_⟩
      exact ⟨rfl,K.out⟩
    · rw [if_neg h1]
      by_cases h2 : dm < dx
      · rw [if_pos h2]
        go_enter Tryz.func204,Tryz.ntmps204
        go_wp2_with (first
              | (go_at_call 199;(with_reducible refine (hl10 _).mono ?_);rintro r w1 ⟨rfl,hw1⟩;rw [hw1];clear hw1)
              | (go_at_call 237;(with_reducible refine (hl2 _).mono ?_);rintro r w1 ⟨rfl,hw1⟩;rw [hw1];clear hw1)
              | (go_at_call 236;refine (hpre _ w.heap.size (HT.out.kept (Chg.alloc _ _ _)) (sc_made w _ _ _ _).1 (sc_made w _ _ _ _).2.1 (sc_made w _ _ _ _).2.2 (NF.made w _ _) hw).mono ?_;rintro r w1 ⟨rfl,sc,k⟩;have K :=Lib.hid ((Chg.alloc _ _ _ : Kept w _).keptNew k fun b _ h => by omega);clear k)
              | (go_at_call 238;first
                  | ((with_reducible refine (q1 _ _ sc).mono ?_);rintro r w1 ⟨rfl,k⟩;have sc :=sc.kept k;have K :=Lib.hid (kt K.out k);clear k)
                  | ((with_reducible refine (q2 _ _ sc).mono ?_);rintro r w1 ⟨rfl,k⟩;have sc :=sc.kept k;have K :=Lib.hid (kt K.out k);clear k)
                  | ((with_reducible refine (q3 _ _ sc).mono ?_);rintro r w1 ⟨rfl,k⟩;have sc :=sc.kept k;have K :=Lib.hid (kt K.out k);clear k))
              | (go_at_call 239;first
                  | ((with_reducible refine (n1 _).mono ?_);rintro r w1 ⟨rfl,hw1⟩;rw [hw1];clear hw1)
                  | ((with_reducible refine (n3 _).mono ?_);rintro r w1 ⟨rfl,hw1⟩;rw [hw1];clear hw1))
              | (go_at_call 240;(with_reducible refine (n2 _).mono ?_);rintro r w1 ⟨rfl,hw1⟩;rw [hw1];clear hw1)
              | (go_at_call 241;(with_reducible refine (n4 _).mono ?_);rintro r w1 ⟨rfl,hw1⟩;rw [hw1];clear hw1)
              | (go_at_call 242;(with_reducible refine (n5 _).mono ?_);rintro r w1 ⟨rfl,hw1⟩;rw [hw1];clear hw1))
        first | go_ret2 | refine ⟨_,results_tmp2 rfl _ _ _,?_⟩
        exact ⟨rfl,K.out⟩
      · rw [if_neg h2]
        go_enter Tryz.func204,Tryz.ntmps204
        go_wp2_with (first
              | (go_at_call 199;(with_reducible refine (hl10 _).mono ?_);rintro r w1 ⟨rfl,hw1⟩;rw [hw1];clear hw1)
              | (go_at_call 237;(with_reducible refine (hl2 _).mono ?_);rintro r w1 ⟨rfl,hw1⟩;rw [hw1];clear hw1)
              | (go_at_call 236;refine (hpre _ w.heap.size (HT.out.kept (Chg.alloc _ _ _)) (sc_made w _ _ _ _).1 (sc_made w _ _ _ _).2.1 (sc_made w _ _ _ _).2.2 (NF.made w _ _) hw).mono ?_;rintro r w1 ⟨rfl,sc,k⟩;have K :=Lib.hid ((Chg.alloc _ _ _ : Kept w _).keptNew k fun b _ h => by omega);clear k)
              | (go_at_call 238;first
                  | ((with_reducible refine (q1 _ _ sc).mono ?_);rintro r w1 ⟨rfl,k⟩;have sc :=sc.kept k;have K :=Lib.hid (kt K.out k);clear k)
                  | ((with_reducible refine (q2 _ _ sc).mono ?_);rintro r w1 ⟨rfl,k⟩;have sc :=sc.kept k;have K :=Lib.hid (kt K.out k);clear k)
                  | ((with_reducible refine (q3 _ _ sc).mono ?_);rintro r w1 ⟨rfl,k⟩;have sc :=sc.kept k;have K :=Lib.hid (kt K.out k);clear k))
              | (go_at_call 239;first
                  | ((with_reducible refine (n1 _).mono ?_);rintro r w1 ⟨rfl,hw1⟩;rw [hw1];clear hw1)
                  | ((with_reducible refine (n3 _).mono ?_);rintro r w1 ⟨rfl,hw1⟩;rw [hw1];clear hw1))
              | (go_at_call 240;(with_reducible refine (n2 _).mono ?_);rintro r w1 ⟨rfl,hw1⟩;rw [hw1];clear hw1)
              | (go_at_call 241;(with_reducible refine (n4 _).mono ?_);rintro r w1 ⟨rfl,hw1⟩;rw [hw1];clear hw1)
              | (go_at_call 242;(with_reducible refine (n5 _).mono ?_);rintro r w1 ⟨rfl,hw1⟩;rw [hw1];clear hw1))
        first | go_ret2 | refine ⟨_,results_tmp2 rfl _ _ _,?_⟩
        exact ⟨rfl,K.out⟩
end Go.Proofs.YtfmmdamgcpiciaaGreatDoor
namespace Go.Proofs.YtfmmdamgcpiciaaGreatDoor
open Go Go.RowKit
def TenAt (w : World) : Prop :=∀ j : Nat,j < 20 → w.cell? ⟨7,j,none⟩ = some (.int .u64 (10 ^ j : Nat))
theorem TenAt.kept {w w' : World} (h : TenAt w) (k : Kept w w') : TenAt w' :=fun j hj => Kept.at k (h j hj)
def nDig (d : Nat) : Nat :=Lib.bitLen d * 78913 / 262144 + (if 10 ^ (Lib.bitLen d * 78913 / 262144) ≤ d then 1 else 0)
theorem numDigits (w : World) (d : Nat) (hd : d < W64) (ht : TenAt w) : Calls Tryz.prog 198 #[.int .u64 d] w fun e w' => e = .returned (.int .i64 (nDig d : Nat)) ∧ Kept w w' :=by
  have hl :=len64 d hd
  have hb :=bitLen_64 hd
  obtain ⟨L,hL⟩ : ∃ L,Lib.bitLen d = L :=⟨_,rfl⟩
  have hn : nDig d = L * 78913 / 262144 + (if 10 ^ (L * 78913 / 262144) ≤ d then 1 else 0) :=by unfold nDig;rw [hL]
  rw [hL] at hl hb
  have hg :=log10Pow2 (L : Int) (by omega) (by omega)
  have e1 : (L : Int) * 78913 / 262144 = ((L * 78913 / 262144 : Nat) : Int) :=by omega
  rw [e1] at hg
  rw [hn]
  have hq : L * 78913 / 262144 < 20 :=by omega
  generalize L * 78913 / 262144 = q at *
  have c :=ht q hq
  generalize 10 ^ q = P at *
  have hbo : ∀ W,Calls Tryz.prog 244 #[.bool (decide ((P : Int) ≤ (d : Int)))] W fun e w' => e = .returned (.int .i64 ((if P ≤ d then 1 else 0 : Nat) : Int)) ∧ w' = W :=fun W => by
    have :=boolTo 244 (decide ((P : Int) ≤ (d : Int))) W (.inr rfl)
    have e : ((P : Int) ≤ (d : Int)) = (P ≤ d) :=propext ⟨fun h => by omega,fun h => by omega⟩
    simp only [e] at this ⊢
    by_cases h : P ≤ d <;> simpa [h] using this
  obtain ⟨g,hg2⟩ : ∃ g,(if P ≤ d then 1 else 0 : Nat) = g :=⟨_,rfl⟩
  have hgb : g ≤ 1 :=by rw [← hg2];split <;> omega
  rw [hg2] at hbo ⊢
  have e3 :=wrap_i64_in ((q : Int) + (g : Int)) (by omega) (by omega)
  clear hg2 hn hL hd e1
  generalize (d : Int) = D at *
  generalize (P : Int) = PI at *
  go_enter Tryz.func198,Tryz.ntmps198
  go_wp2_with (first
    | refine ⟨by kernel_rfl,?_⟩
    | (go_at_call 195;(with_reducible refine (hl _).mono ?_);rintro r w1 ⟨rfl,hw1⟩;rw [hw1];clear hw1)
    | (go_at_call 199;(with_reducible refine (hg _).mono ?_);rintro r w1 ⟨rfl,hw1⟩;rw [hw1];clear hw1)
    | (go_at_call 244;(with_reducible refine (hbo _).mono ?_);rintro r w1 ⟨rfl,hw1⟩;rw [hw1];clear hw1))
  refine ⟨_,results_tmp rfl _ _ _,?_⟩
  exact ⟨rfl,Chg.refl _ _⟩
end Go.Proofs.YtfmmdamgcpiciaaGreatDoor
namespace Go.Proofs.YtfmmdamgcpiciaaGreatDoor
open Go Go.RowKit
def renB : Go.Shelf.Ren :={ f :=fun n => if n = 285 then 243 else n,t :=fun n => if n = 37 then 76 else if n = 51 then 72 else if n = 53 then 69 else n,g :=fun n => n }
theorem laysB : Lays.n285 Tryz.prog renB :=
  { mixed :=by kernel_rfl,
    f285 :=by kernel_rfl,
    t0 :=by kernel_rfl,
    a0 :=fun w => by kernel_rfl,
    z0 :=fun w => by kernel_rfl,
    v0 :=fun w => by kernel_rfl,
    t3 :=by kernel_rfl,
    a3 :=fun w => by kernel_rfl,
    z3 :=fun w => by kernel_rfl,
    v3 :=fun w => by kernel_rfl,
    t4 :=by kernel_rfl,
    a4 :=fun w => by kernel_rfl,
    z4 :=fun w => by kernel_rfl,
    v4 :=fun w => by kernel_rfl,
    t5 :=by kernel_rfl,
    a5 :=fun w => by kernel_rfl,
    z5 :=fun w => by kernel_rfl,
    v5 :=fun w => by kernel_rfl,
    t9 :=by kernel_rfl,
    a9 :=fun w => by kernel_rfl,
    z9 :=fun w => by kernel_rfl,
    v9 :=fun w => by kernel_rfl,
    t37 :=by kernel_rfl,
    a37 :=fun w => by kernel_rfl,
    z37 :=fun w => by kernel_rfl,
    v37 :=fun w => by kernel_rfl,
    t51 :=by kernel_rfl,
    a51 :=fun w => by kernel_rfl,
    z51 :=fun w => by kernel_rfl,
    v51 :=fun w => by kernel_rfl,
    t53 :=by kernel_rfl,
    a53 :=fun w => by kernel_rfl,
    z53 :=fun w => by kernel_rfl,
    v53 :=fun w => by kernel_rfl }
abbrev encB : UInt8 → Value :=fun b => Value.int .u8 (b.toNat : Int)
theorem chg_row {w : World} {blk off : Nat} {d0 : Array UInt8} (h0 : Go.Sort.Holds encB w blk off d0) (d : Array UInt8) : ∀ (k : Nat) (e : Array UInt8),k ≤ d0.size → e.size = d0.size → (∀ j,j < d0.size → k ≤ j → e[j]! = d0[j]!) → Chg w (Go.Sort.putRow encB w blk off e) (In blk off k) :=by
  intro k
  induction k with
  | zero =>
    intro e _ he hj
    have : e = d0 :=by
      apply Array.ext he
      intro i h1 h2
      have :=hj i h2 (Nat.zero_le _)
      rwa [getElem!_pos e i h1,getElem!_pos d0 i h2] at this
    rw [this,Go.Sort.putRow_self _ _ _ _ _ h0]
    exact Chg.refl _ _
  | succ k ih =>
    intro e hk he hj
    have hke : k < e.size :=by omega
    have h1 :=ih (e.setIfInBounds k d0[k]!) (by omega) (by simpa using he) fun j hj1 hj2 => by
      rcases Nat.eq_or_lt_of_le hj2 with rfl | hlt
      · exact Go.Sort.getElem!_set_same e k _ hke
      · rw [getElem!_pos _ j (by simp;omega),Array.getElem_setIfInBounds,if_neg (by omega)]
        have :=hj j hj1 (by omega)
        rwa [getElem!_pos e j (by omega)] at this
    have h2 :=Go.Sort.putRow_set encB w blk off (e.setIfInBounds k d0[k]!) k e[k]! (by simpa using hke)
    have h3 : (e.setIfInBounds k d0[k]!).setIfInBounds k e[k]! = e :=by
      apply Array.ext_getElem?
      intro i
      by_cases h : i = k
      · subst h
        rw [Array.getElem?_setIfInBounds_self_of_lt (by simpa using hke),getElem!_pos e i hke,Array.getElem?_eq_getElem hke]
      · rw [Array.getElem?_setIfInBounds_ne (by omega),Array.getElem?_setIfInBounds_ne (by omega)]
    rw [h3] at h2
    rw [← h2]
    exact h1.store _
def Bytes (w : World) (b o : Nat) (xs : List Nat) : Prop :=∀ (j x : Nat),xs[j]? = some x → w.cell? ⟨b,o + j,none⟩ = some (.int .u8 (x : Int)) ∧ w.frozen? ⟨b,o + j,none⟩ = false
def digs (u n : Nat) : List Nat :=(List.range n).map fun t => 48 + u / 10 ^ (n - 1 - t) % 10
theorem digs_len (u n : Nat) : (digs u n).length = n :=by simp [digs]
theorem digs_at {u n t : Nat} (h : t < n) : (digs u n)[t]? = some (48 + u / 10 ^ (n - 1 - t) % 10) :=by simp [digs,h]
theorem formatBase10 (w : World) (blk off cap u nd : Nat) (hz : ∀ j,j < nd → w.cell? ⟨blk,off + j,none⟩ = some (.int .u8 0) ∧ w.frozen? ⟨blk,off + j,none⟩ = false) (hu : u < 10 ^ nd) (hu64 : u < W64) (hsz : nd < 4611686018427387904) :
    Calls Tryz.prog 243 #[.slice (some ⟨blk,off,none⟩) nd cap,.int .u64 u] w fun e w' => e = .returned (.tuple #[]) ∧ Bytes w' blk off (digs u nd) ∧ Chg w w' (In blk off nd) :=by
  have hs : (Array.replicate nd (0 : UInt8)).size = nd :=by simp
  have hH : Go.Sort.Holds encB w blk off (Array.replicate nd (0 : UInt8)) :=fun j hj => by
    have hj' : j < nd :=by simpa using hj
    rw [getElem!_pos _ j hj]
    rw [Array.getElem_replicate]
    exact hz j hj'
  have h :=Any.internal_strconv_formatBase10 laysB blk off cap u (Array.replicate nd (0 : UInt8)) w hH (by rw [hs];exact hu) hu64 (by rw [hs];exact hsz)
  rw [hs] at h
  refine h.mono ?_
  rintro e w' ⟨rfl,n,v',dk,rfl,hI⟩
  have hc :=(chg_row hH dk nd dk (by simp) (by rw [hI.size,hs]) (fun j h1 h2 => by simp at h1;omega)).drewN n
  have hr :=Go.Sort.holds_putRow encB w blk off _ dk hH (by rw [hI.size,hs])
  refine ⟨rfl,fun j x hx => ?_,hc⟩
  have hj : j < nd :=by
    have :=(List.getElem?_eq_some_iff.1 hx).1
    rwa [digs_len] at this
  rw [digs_at hj] at hx
  obtain rfl :=Option.some.inj hx
  have h1 :=hr j (by rw [hI.size];exact hj)
  have h2 :=hI.done j (Nat.zero_le _) hj
  refine ⟨?_,h1.2⟩
  refine h1.1.trans ?_
  show some (Value.int .u8 ((dk[j]!).toNat : Int)) = _
  rw [h2]
  unfold Lib.dg
  congr 3
  rw [UInt8.toNat_ofNat',Nat.mod_eq_of_lt]
  have :=Nat.mod_lt (u / 10 ^ (nd - 1 - j)) (show 0 < 10 by decide)
  omega
end Go.Proofs.YtfmmdamgcpiciaaGreatDoor
namespace Go.Proofs.YtfmmdamgcpiciaaGreatDoor
open Go Go.RowKit
def strip (xs : List Nat) : Nat :=(xs.reverse.dropWhile (· == 48)).length
theorem strip_snoc (xs : List Nat) (x : Nat) : strip (xs ++ [x]) = if x = 48 then strip xs else xs.length + 1 :=by
  unfold strip
  rw [List.reverse_append,List.reverse_singleton,List.singleton_append,List.dropWhile_cons]
  by_cases h : x = 48
  · subst h;simp
  · simp [h]
theorem take_succ {xs : List Nat} {k x : Nat} (h : xs[k]? = some x) : xs.take (k + 1) = xs.take k ++ [x] :=by
  rw [List.take_add_one,h];rfl
theorem setDigits (w : World) (b o n cap u nd : Nat) (p : Int) (hz : ∀ j,j < nd → w.cell? ⟨b,o + j,none⟩ = some (.int .u8 0) ∧ w.frozen? ⟨b,o + j,none⟩ = false) (hu : u < 10 ^ nd) (hu64 : u < W64) (hn : nd ≤ n) (hnc : n ≤ cap) (hsz : n < 1000) (hc : cap < 1000000) (p1 : -1000 ≤ p) (p2 : p ≤ 1000) :
    Calls Tryz.prog 197 #[.slice (some ⟨b,o,none⟩) n cap,.int .u64 u,.int .i64 p,.int .i64 nd] w fun e w' => e = .returned (.tuple #[.int .i64 ((nd : Int) + p),.int .i64 (strip (digs u nd) : Nat)]) ∧ Bytes w' b o (digs u nd) ∧ Chg w w' (In b o nd) :=by
  have hf :=fun cap => formatBase10 w b o cap u nd hz hu hu64 (by omega)
  have hle : (nd : Int) ≤ (n : Int) :=by omega
  have e1 :=wrap_i64_in ((nd : Int) + p) (by omega) (by omega)
  have hl :=digs_len u nd
  generalize digs u nd = xs at *
  have HZ :=Lib.hid hz
  clear hz hu
  go_enter Tryz.func197,Tryz.ntmps197
  go_wp2_with (go_at_call 243;refine (hf _).mono ?_;rintro e w1 ⟨rfl,g1,g2⟩)
  go_loop [3] (fun t => ∃ k : Nat,k ≤ nd ∧ t = .int .i64 k ∧ strip (xs.take k) = strip xs) (fun t => (intOf t).toNat)
  case atStart => exact ⟨nd,Nat.le_refl _,rfl,by rw [List.take_of_length_le (by omega)]⟩
  case round =>
    obtain ⟨k,hk,rfl,hst⟩ :=hrel
    rcases Nat.eq_zero_or_pos k with rfl | hkp
    · have h0 : strip xs = 0 :=by rw [← hst];rfl
      rw [h0]
      go_wp2_with fail
      first | go_ret2 | refine ⟨_,results_tmp2 rfl _ _ _,?_⟩
      exact ⟨rfl,g1,g2⟩
    · obtain ⟨k,rfl⟩ : ∃ j,k = j + 1 :=⟨k - 1,by omega⟩
      have gx : xs[k]? = some (xs[k]'(by omega)) :=List.getElem?_eq_getElem _
      generalize xs[k]'_ = x at gx
      rw [take_succ gx,strip_snoc] at hst
      have c :=(g1 k x gx).1
      by_cases hx : x = 48
      · subst hx
        rw [if_pos rfl] at hst
        go_wp2_with fail
        go_round
        case rel => exact ⟨k,by omega,by first | rfl | (congr 1;omega),hst⟩
        case measure => simp [intOf]
      · have hne : ((x : Int) == 48) = false :=by simp;omega
        rw [if_neg hx,List.length_take,Nat.min_eq_left (by omega)] at hst
        have HS :=Lib.hid hst
        clear hst
        go_wp2_with fail
        first | go_ret2 | refine ⟨_,results_tmp2 rfl _ _ _,?_⟩
        refine ⟨?_,g1,g2⟩
        rw [← HS.out,Int.natCast_add]
        rfl
end Go.Proofs.YtfmmdamgcpiciaaGreatDoor
namespace Go.Proofs.YtfmmdamgcpiciaaGreatDoor
open Go Go.RowKit
abbrev u8v (x : Nat) : Value :=.int .u8 (x : Int)
structure OutAt (w : World) (b o cap : Nat) (ys : List Nat) : Prop where
  row : ∀ (j x : Nat),ys[j]? = some x → w.cell? ⟨b,o + j,none⟩ = some (u8v x)
  room : Wr w b o cap
  le : ys.length ≤ cap
theorem info5 : (Tryz.prog.info? 5).map (fun i => (i.zero,i.size,i.bytes)) = some (some (.int .u8 0),1,1) :=by kernel_rfl
theorem u76 : Tryz.prog.underlying 76 = some (.slice 5) :=by kernel_rfl
theorem OutAt.kept {w w' : World} {b o cap : Nat} {ys : List Nat} (h : OutAt w b o cap ys) (k : Kept w w') : OutAt w' b o cap ys :=⟨fun j x hj => Kept.at k (h.row j x hj),h.room.chg k,h.le⟩
theorem app_run {w : World} {b o cap : Nat} {ys : List Nat} (h : OutAt w b o cap ys) (zs : List Nat) (ab ao m c : Nat) (hm : zs.length = m) (hz : ∀ (j x : Nat),zs[j]? = some x → w.cell? ⟨ab,ao + j,none⟩ = some (u8v x)) (hr : ys.length + m ≤ cap) :
    (Builtin.append_ #[76,76] 76 #[.slice (some ⟨b,o,none⟩) ys.length cap,.slice (some ⟨ab,ao,none⟩) m c]).run Tryz.prog w = .ok (.slice (some ⟨b,o,none⟩) (ys.length + m) cap) (w.setCells b (o + ys.length) (zs.map u8v)) :=by
  obtain ⟨i0,hi,hz0,hz1,hz2⟩ :=info_parts info5
  have h1 :=run_append_room_cells (P :=Tryz.prog) w 76 76 5 i0 u76 hi b o ys.length cap ⟨ab,ao,none⟩ m c (zs.map u8v) (by simp [hz1,hm]) (fun j u hj => by
      rw [List.getElem?_map] at hj
      cases hx : zs[j]? with
      | none => rw [hx] at hj;cases hj
      | some x =>
        rw [hx] at hj
        obtain rfl :=Option.some.inj hj
        rw [Addr.add_lit]
        exact hz j x hx) (fun u hu => by
      obtain ⟨x,_,rfl⟩ :=List.mem_map.1 hu
      rfl) hr (fun j hj => by
      rw [hz1,Nat.mul_one]
      obtain ⟨⟨v,hv⟩,_⟩ :=h.room (ys.length + j) (by simp at hj;omega)
      rw [show o + ys.length + j = o + (ys.length + j) by omega,hv];rfl) (fun j hj => by
      rw [hz1,Nat.mul_one,show o + ys.length + j = o + (ys.length + j) by omega]
      exact (h.room (ys.length + j) (by simp at hj;omega)).2)
  rw [hz1,Nat.mul_one] at h1
  exact h1
theorem row8_setCells {w : World} {b o : Nat} (xs : List Nat) (hw : Wr w b o xs.length) : ∀ (j x : Nat),xs[j]? = some x → (w.setCells b o (xs.map u8v)).cell? ⟨b,o + j,none⟩ = some (u8v x) :=fun j x hj => by
  obtain ⟨hl,hx⟩ :=List.getElem?_eq_some_iff.1 hj
  have :=World.cell?_setCells_in b (xs.map u8v) o w (fun j hj => by
    obtain ⟨⟨v,hv⟩,_⟩ :=hw j (by simpa using hj)
    simp [hv]) j (by simpa using hl)
  rw [this];simp [hx]
theorem OutAt.app {w : World} {b o cap : Nat} {ys : List Nat} (h : OutAt w b o cap ys) (zs : List Nat) (hr : ys.length + zs.length ≤ cap) : OutAt (w.setCells b (o + ys.length) (zs.map u8v)) b o cap (ys ++ zs) ∧ Chg w (w.setCells b (o + ys.length) (zs.map u8v)) (fun p _ => p = b) :=by
  have hc :=Chg.setCells b (zs.map u8v) (o + ys.length) w
  refine ⟨⟨fun j x hj => ?_,h.room.chg hc,by simp;omega⟩,hc.mono fun _ _ _ h => h.1⟩
  rcases Nat.lt_or_ge j ys.length with hlt | hge
  · rw [List.getElem?_append_left hlt] at hj
    exact hc.at (h.row j x hj) fun e => by have :=e.2.1;omega
  · rw [List.getElem?_append_right hge] at hj
    have hr2 :=row8_setCells (w :=w) (b :=b) (o :=o + ys.length) zs (fun i hi => by
      have :=h.room (ys.length + i) (by omega)
      rw [show o + ys.length + i = o + (ys.length + i) by omega];exact this)
    have :=hr2 (j - ys.length) x hj
    rwa [show o + ys.length + (j - ys.length) = o + j by omega] at this
section
variable {W0 : World} {ops : Array Oper} {rest : List Oper} {op : Oper} {a : Act} {Q : Exit → Act → World → Prop}
theorem wp_app (hgd : op.guard = none) (s x : Operand) (ho : op.op = .call { callee :=.builtin .append,args :=#[s,x],argTypes :=#[76,76] }) (hty : op.type = 76) {b o cap n m c ab ao : Nat} {ys : List Nat} (zs : List Nat)
    (hs : a.eval s = .slice (some ⟨b,o,none⟩) n cap) (hx : a.eval x = .slice (some ⟨ab,ao,none⟩) m c) (h : OutAt W0 b o cap ys) (hn : ys.length = n) (hm : zs.length = m) (hr : n + m ≤ cap)
    (hz : ∀ (j y : Nat),zs[j]? = some y → W0.cell? ⟨ab,ao + j,none⟩ = some (u8v y))
    (hk : ∀ W1,OutAt W1 b o cap (ys ++ zs) → Chg W0 W1 (fun p _ => p = b) → wpList Tryz.prog ops Q rest (a.put op.dst (.slice (some ⟨b,o,none⟩) (n + m) cap)) W1) : wpList Tryz.prog ops Q (op :: rest) a W0 :=by
  subst hn
  have hrun :=app_run h zs ab ao m c hm hz hr
  have hap :=h.app zs (by omega)
  refine Lib.wpList_append_run _ hgd s x 76 76 ho _ _ hs hx _ _ (by rw [hty];exact hrun) (hk _ hap.1 hap.2)
theorem wp_app1 (hgd : op.guard = none) (s x : Operand) (ho : op.op = .call { callee :=.builtin .append,args :=#[s,x],argTypes :=#[76,76] }) (hty : op.type = 76) {b o cap n : Nat} {z : Int} {ys : List Nat}
    (hs : a.eval s = .slice (some ⟨b,o,none⟩) n cap) (hx : a.eval x = .slice (some ⟨W0.heap.size,0,none⟩) 1 1) (h : OutAt W0 b o cap ys) (hn : ys.length = n) (hr : n + 1 ≤ cap) (h0 : 0 ≤ z)
    (hk : ∀ W1,OutAt W1 b o cap (ys ++ [z.toNat]) → Chg W0 W1 (fun p _ => p = b) → wpList Tryz.prog ops Q rest (a.put op.dst (.slice (some ⟨b,o,none⟩) (n + 1) cap)) W1) : wpList Tryz.prog ops Q (op :: rest) a (W0.alloc (.cells #[.int .u8 z] 5)) :=by
  have ka : Kept W0 (W0.alloc (.cells #[.int .u8 z] 5)) :=Chg.alloc _ _ _
  refine wp_app hgd s x ho hty [z.toNat] hs hx (h.kept ka) hn rfl hr (fun j y hj => ?_) fun W1 h1 h2 => hk W1 h1 (ka.any _ |>.trans h2 fun _ _ _ h => h)
  match j,hj with
  | 0,hj =>
    obtain rfl :=Option.some.inj hj
    rw [World.cell?_alloc_at _ _ _ _ rfl]
    show some (Value.int .u8 z) = some (Value.int .u8 (z.toNat : Int))
    rw [Int.toNat_of_nonneg h0]
theorem wp_app2 (hgd : op.guard = none) (s x : Operand) (ho : op.op = .call { callee :=.builtin .append,args :=#[s,x],argTypes :=#[76,76] }) (hty : op.type = 76) {b o cap n : Nat} {z z' : Int} {ys : List Nat}
    (hs : a.eval s = .slice (some ⟨b,o,none⟩) n cap) (hx : a.eval x = .slice (some ⟨W0.heap.size,0,none⟩) 2 2) (h : OutAt W0 b o cap ys) (hn : ys.length = n) (hr : n + 2 ≤ cap) (h0 : 0 ≤ z) (h1 : 0 ≤ z')
    (hk : ∀ W1,OutAt W1 b o cap (ys ++ [z.toNat,z'.toNat]) → Chg W0 W1 (fun p _ => p = b) → wpList Tryz.prog ops Q rest (a.put op.dst (.slice (some ⟨b,o,none⟩) (n + 2) cap)) W1) : wpList Tryz.prog ops Q (op :: rest) a (W0.alloc (.cells #[.int .u8 z,.int .u8 z'] 5)) :=by
  have ka : Kept W0 (W0.alloc (.cells #[.int .u8 z,.int .u8 z'] 5)) :=Chg.alloc _ _ _
  refine wp_app hgd s x ho hty [z.toNat,z'.toNat] hs hx (h.kept ka) hn rfl hr (fun j y hj => ?_) fun W1 h1 h2 => hk W1 h1 (ka.any _ |>.trans h2 fun _ _ _ h => h)
  match j,hj with
  | 0,hj =>
    obtain rfl :=Option.some.inj hj
    rw [World.cell?_alloc_at _ _ _ _ rfl]
    show some (Value.int .u8 z) = some (Value.int .u8 (z.toNat : Int))
    rw [Int.toNat_of_nonneg h0]
  | 1,hj =>
    obtain rfl :=Option.some.inj hj
    rw [World.cell?_alloc_at _ _ _ _ rfl]
    show some (Value.int .u8 z') = some (Value.int .u8 (z'.toNat : Int))
    rw [Int.toNat_of_nonneg h1]
end
def eText (neg : Bool) (c : Nat) (ds : List Nat) (x : Int) : List Nat :=(if neg then [45] else []) ++ ([c] ++ ((if ds = [] then [] else [46] ++ ds) ++ ([101] ++ ([if x < 0 then 45 else 43] ++ [48 + x.natAbs / 10,48 + x.natAbs % 10]))))
theorem tdiv10 {x : Int} (h : x ≤ 0) : x.tdiv 10 = -((-x) / 10) :=by
  have : x.tdiv 10 = -((-x).tdiv 10) :=by rw [Int.neg_tdiv,Int.neg_neg]
  rw [this,Int.tdiv_eq_ediv_of_nonneg (by omega)]
theorem tmod10 {x : Int} (h : x ≤ 0) : x.tmod 10 = -((-x) % 10) :=by
  have : x.tmod 10 = -((-x).tmod 10) :=by rw [Int.neg_tmod,Int.neg_neg]
  rw [this,Int.tmod_eq_emod_of_nonneg (by omega)]
theorem fin_e {w W1 : World} {b o cap n : Nat} {ys T : List Nat} (h : OutAt W1 b o cap ys) (e : ys = T) (hn : n = ys.length) (K : Chg w W1 (fun p _ => p = b)) :
    Ending.returned (.slice (some ⟨b,o,none⟩) n cap) = .returned (.slice (some ⟨b,o,none⟩) T.length cap) ∧ OutAt W1 b o cap T ∧ Chg w W1 (fun p _ => p = b) :=by
  subst e;subst hn;exact ⟨rfl,h,K⟩
theorem fmtE (w : World) (b o cap bs os ns cs c : Nat) (ds : List Nat) (neg : Bool) (x : Int) (h : OutAt w b o cap []) (hcap : 24 ≤ cap) (hds : ds.length ≤ 17)
    (hs : ∀ (j y : Nat),(c :: ds)[j]? = some y → w.cell? ⟨bs,os + j,none⟩ = some (u8v y)) (hns : ds.length + 1 ≤ ns) (hnc : ns ≤ cs) (hbs : bs ≠ b) (hx : -99 ≤ x) (hx2 : x ≤ 99) (hlb : bs < w.heap.size) (hcc : cs < 1000000) :
    Calls Tryz.prog 194 #[.slice (some ⟨b,o,none⟩) 0 cap,.bool neg,.slice (some ⟨bs,os,none⟩) ns cs,.int .i64 (x + 1),.int .i64 ((ds.length : Int) + 1),.int .i64 ds.length,.int .u8 101,.bool true] w fun e w' =>
      e = .returned (.slice (some ⟨b,o,none⟩) (eText neg c ds x).length cap) ∧ OutAt w' b o cap (eText neg c ds x) ∧ Chg w w' (fun p _ => p = b) :=by
  obtain ⟨nd,hnd⟩ : ∃ n,ds.length = n :=⟨_,rfl⟩
  rw [hnd] at hds hns ⊢
  have c0 :=hs 0 c rfl
  simp only [Nat.add_zero] at c0
  have K : Chg w w (fun p _ => p = b) :=Chg.refl _ _
  rcases ds with _ | ⟨d,ds⟩
  · subst hnd
    cases neg
    · go_enter Tryz.func194,Tryz.ntmps194
      go_wp2_with (first
        | (at_builtin;refine wp_app1 rfl _ _ rfl rfl rfl rfl h (by simp <;> omega) (by omega) (by omega) ?_;intro W1 h k;have K :=K.trans k fun _ _ _ h => h;have c0 :=k.at c0 hbs)
        | (at_builtin;refine wp_app2 rfl _ _ rfl rfl rfl rfl h (by simp <;> omega) (by omega) (by omega) (by omega) ?_;intro W1 h k;have K :=K.trans k fun _ _ _ h => h;have c0 :=k.at c0 hbs))
      all_goals first | go_ret | refine ⟨_,results_tmp rfl _ _ _,?_⟩
      all_goals refine fin_e h ?_ (by simp <;> omega) K
      all_goals unfold eText
      all_goals (simp <;> (try rw [tdiv10 (by omega),tmod10 (by omega)]) <;> (try unfold wrap64) <;> omega)
    · go_enter Tryz.func194,Tryz.ntmps194
      go_wp2_with (first
        | (at_builtin;refine wp_app1 rfl _ _ rfl rfl rfl rfl h (by simp <;> omega) (by omega) (by omega) ?_;intro W1 h k;have K :=K.trans k fun _ _ _ h => h;have c0 :=k.at c0 hbs)
        | (at_builtin;refine wp_app2 rfl _ _ rfl rfl rfl rfl h (by simp <;> omega) (by omega) (by omega) (by omega) ?_;intro W1 h k;have K :=K.trans k fun _ _ _ h => h;have c0 :=k.at c0 hbs))
      all_goals first | go_ret | refine ⟨_,results_tmp rfl _ _ _,?_⟩
      all_goals refine fin_e h ?_ (by simp <;> omega) K
      all_goals unfold eText
      all_goals (simp <;> (try rw [tdiv10 (by omega),tmod10 (by omega)]) <;> (try unfold wrap64) <;> omega)
  · have hp : 0 < nd :=by rw [← hnd];simp
    have hnd2 : ds.length + 1 = nd :=by rw [← hnd];simp
    cases neg
    · go_enter Tryz.func194,Tryz.ntmps194
      go_wp2_with (first
        | (at_builtin;refine wp_app1 rfl _ _ rfl rfl rfl rfl h (by simp <;> omega) (by omega) (by omega) ?_;intro W1 h k;have K :=K.trans k fun _ _ _ h => h;have c0 :=k.at c0 hbs)
        | (at_builtin;refine wp_app2 rfl _ _ rfl rfl rfl rfl h (by simp <;> omega) (by omega) (by omega) (by omega) ?_;intro W1 h k;have K :=K.trans k fun _ _ _ h => h;have c0 :=k.at c0 hbs)
        | (at_builtin;refine wp_app rfl _ _ rfl rfl (d :: ds) rfl rfl h (by simp <;> omega) hnd (by omega) (fun j y hj => (by rw [Nat.add_assoc,Nat.add_comm 1 j];exact K.at (hs (j + 1) y hj) hbs)) ?_;intro W1 h k;have K :=K.trans k fun _ _ _ h => h;have c0 :=k.at c0 hbs))
      all_goals (refine wp_loop_rounds 1 ?_;rw [rounds_succ])
      all_goals go_wp2_with (first
        | (at_builtin;refine wp_app1 rfl _ _ rfl rfl rfl rfl h (by simp <;> omega) (by omega) (by omega) ?_;intro W1 h k;have K :=K.trans k fun _ _ _ h => h;have c0 :=k.at c0 hbs)
        | (at_builtin;refine wp_app2 rfl _ _ rfl rfl rfl rfl h (by simp <;> omega) (by omega) (by omega) (by omega) ?_;intro W1 h k;have K :=K.trans k fun _ _ _ h => h;have c0 :=k.at c0 hbs)
        | (at_builtin;refine wp_app rfl _ _ rfl rfl (d :: ds) rfl rfl h (by simp <;> omega) hnd (by omega) (fun j y hj => (by rw [Nat.add_assoc,Nat.add_comm 1 j];exact K.at (hs (j + 1) y hj) hbs)) ?_;intro W1 h k;have K :=K.trans k fun _ _ _ h => h;have c0 :=k.at c0 hbs))
      all_goals first | go_ret | refine ⟨_,results_tmp rfl _ _ _,?_⟩
      all_goals refine fin_e h ?_ (by simp <;> omega) K
      all_goals unfold eText
      all_goals (simp <;> (try rw [tdiv10 (by omega),tmod10 (by omega)]) <;> (try unfold wrap64) <;> omega)
    · go_enter Tryz.func194,Tryz.ntmps194
      go_wp2_with (first
        | (at_builtin;refine wp_app1 rfl _ _ rfl rfl rfl rfl h (by simp <;> omega) (by omega) (by omega) ?_;intro W1 h k;have K :=K.trans k fun _ _ _ h => h;have c0 :=k.at c0 hbs)
        | (at_builtin;refine wp_app2 rfl _ _ rfl rfl rfl rfl h (by simp <;> omega) (by omega) (by omega) (by omega) ?_;intro W1 h k;have K :=K.trans k fun _ _ _ h => h;have c0 :=k.at c0 hbs)
        | (at_builtin;refine wp_app rfl _ _ rfl rfl (d :: ds) rfl rfl h (by simp <;> omega) hnd (by omega) (fun j y hj => (by rw [Nat.add_assoc,Nat.add_comm 1 j];exact K.at (hs (j + 1) y hj) hbs)) ?_;intro W1 h k;have K :=K.trans k fun _ _ _ h => h;have c0 :=k.at c0 hbs))
      all_goals (refine wp_loop_rounds 1 ?_;rw [rounds_succ])
      all_goals go_wp2_with (first
        | (at_builtin;refine wp_app1 rfl _ _ rfl rfl rfl rfl h (by simp <;> omega) (by omega) (by omega) ?_;intro W1 h k;have K :=K.trans k fun _ _ _ h => h;have c0 :=k.at c0 hbs)
        | (at_builtin;refine wp_app2 rfl _ _ rfl rfl rfl rfl h (by simp <;> omega) (by omega) (by omega) (by omega) ?_;intro W1 h k;have K :=K.trans k fun _ _ _ h => h;have c0 :=k.at c0 hbs)
        | (at_builtin;refine wp_app rfl _ _ rfl rfl (d :: ds) rfl rfl h (by simp <;> omega) hnd (by omega) (fun j y hj => (by rw [Nat.add_assoc,Nat.add_comm 1 j];exact K.at (hs (j + 1) y hj) hbs)) ?_;intro W1 h k;have K :=K.trans k fun _ _ _ h => h;have c0 :=k.at c0 hbs))
      all_goals first | go_ret | refine ⟨_,results_tmp rfl _ _ _,?_⟩
      all_goals refine fin_e h ?_ (by simp <;> omega) K
      all_goals unfold eText
      all_goals (simp <;> (try rw [tdiv10 (by omega),tmod10 (by omega)]) <;> (try unfold wrap64) <;> omega)
end Go.Proofs.YtfmmdamgcpiciaaGreatDoor
