/- A part of the proof, joined out of the texts A21, H9, H10, A22, A23, A24, A25, A26, D3, D4, D5, D6; each theorem bears its own conditions. -/
import Derived.Test.YtfmmdamgcpiciaaGreatDoorT04
set_option linter.unusedVariables false
set_option linter.unusedSimpArgs false
set_option linter.all false
set_option maxHeartbeats 9000000
set_option exponentiation.threshold 400000
set_option maxRecDepth 1000000
namespace Go.Proofs.YtfmmdamgcpiciaaGreatDoor
open Go Go.RowKit
abbrev Zi (w : World) : World :=w.alloc (.cells #[.bool false,.slice none 0 0] 112)
abbrev Box3 (w : World) (a0 a1 b0 b1 : Value) : World :=Box (Box (Box w a0 a1) b0 b1) (.pointer none) (.int .i32 0)
theorem box3K (w : World) (a0 a1 b0 b1 : Value) : Kept w (Box3 w a0 a1 b0 b1) :=((boxK _ _ _).trans (boxK _ _ _) fun _ _ _ h => h).trans (boxK _ _ _) fun _ _ _ h => h
theorem box3S (w : World) (a0 a1 b0 b1 : Value) : (Box3 w a0 a1 b0 b1).heap.size = w.heap.size + 3 :=by simp
theorem box3R (w : World) (a0 a1 b0 b1 : Value) : Slot (Box3 w a0 a1 b0 b1) (w.heap.size + 2) :=by
  have h :=Slot.made (Box (Box w a0 a1) b0 b1) (.pointer none) (.int .i32 0)
  have e : (Box (Box w a0 a1) b0 b1).heap.size = w.heap.size + 2 :=by simp
  rw [e] at h
  exact h
theorem ziK (w : World) : Kept w (Zi w) :=Chg.alloc _ _ _
theorem kt {a b c : World} (h : Kept a b) (k : Kept b c) : Kept a c :=h.trans k fun _ _ _ h => h
theorem oldD {w w' : World} (h : Kept w w') : Old w.drew w' :=by
  have h2 : Kept w.drew w' :=⟨h.os,h.tape,h.output,h.size,h.cell,h.frz,h.dom,h.block⟩
  exact h2.old
theorem dec_mul (w : World) (hg : Glob w) (b1 b2 : Nat) (e1 e2 X Y : Int) (h1 : IntAt w b1 X) (h2 : IntAt w b2 Y) (h11 : b1 = b2 → X.natAbs < W64 ^ 11) (hX : X.natAbs < W39) (hY : Y.natAbs < W39)
    (l1 : -1000000 ≤ e1) (u1 : e1 ≤ 1000000) (l2 : -1000000 ≤ e2) (u2 : e2 ≤ 1000000) :
    Calls Tryz.prog 67 #[dv b1 e1,dv b2 e2] w (NewDec w (X * Y) (e1 + e2)) :=by
  have hlt1 :=h1.lt
  have hlt2 :=h2.lt
  have hW :=box3K w (ptr b1) (.int .i32 e1) (ptr b2) (.int .i32 e2)
  have hS :=box3S w (ptr b1) (.int .i32 e1) (ptr b2) (.int .i32 e2)
  have hR :=box3R w (ptr b1) (.int .i32 e1) (ptr b2) (.int .i32 e2)
  have hm : ∀ w4 bz,Kept (Box3 w (ptr b1) (.int .i32 e1) (ptr b2) (.int .i32 e2)) w4 → w.heap.size + 3 ≤ bz → ZeroInt w4 bz → Calls Tryz.prog 91 #[ptr bz,ptr b1,ptr b2] w4 fun e w' => e = .returned (ptr bz) ∧ IntN (Box3 w (ptr b1) (.int .i32 e1) (ptr b2) (.int .i32 e2)) w' bz (X * Y) ∧ Kept (Box3 w (ptr b1) (.int .i32 e1) (ptr b2) (.int .i32 e2)) w' :=by
    intro w4 bz q1 q2 q3
    have kw :=kt hW q1
    exact int_Mul _ w4 (hg.kept kw) q1 bz b1 b2 (by rw [hS];exact q2) q3 X Y (h1.kept kw) (h2.kept kw) (by omega) (by omega) h11 hX hY
  have HM :=Lib.hid hm
  have HS :=Lib.hid (And.intro hS (And.intro hW hR))
  clear hm hS hW hR
  go_enter Tryz.func67,Tryz.ntmps67
  go_wp2_with (first
    | (refine wp_region_lit_plan (id :=4) (.seg [1,3] (.two 0 2 (.seg [2] (.seg [4] (.seg [5] (.seg [6] .fin)))) (.two 0 4 (.seg [4] (.seg [5] (.seg [6] .fin))) (.seg [0] (.seg [5] (.seg [6] .fin)))))) mixed (by kernel_rfl) ?_;simp only [wpPlanL,gaC,gaN,lZ0,lS0,coS])
    | refine ⟨by kernel_rfl,?_⟩
    | refine ⟨by kernel_rfl,oldD (by first | assumption | exact Chg.refl _ _ | exact (Chg.refl _ _).drew | exact kt (by first | assumption | exact (Chg.refl _ _).drew | exact Chg.refl _ _) (ziK _) | exact Chg.drew (by assumption)),?_⟩
    | refine ⟨oldD (by first | assumption | exact Chg.refl _ _ | exact (Chg.refl _ _).drew | exact kt (by first | assumption | exact (Chg.refl _ _).drew | exact Chg.refl _ _) (ziK _) | exact Chg.drew (by assumption)),?_⟩
    | (with_reducible refine And.intro ?_ ?_)
    | (go_at_call 88;refine (dec_getValue _ _ _).mono ?_;rintro r w1 ⟨rfl,k⟩;have K : Kept (Box3 w (ptr b1) (.int .i32 e1) (ptr b2) (.int .i32 e2)) w1 :=kt (by first | assumption | exact Chg.refl _ _ | exact (Chg.refl _ _).drew | exact kt (by first | assumption | exact (Chg.refl _ _).drew | exact Chg.refl _ _) (ziK _) | exact Chg.drew (by assumption)) k;have G : w.heap.size + 3 ≤ w1.heap.size :=(by have q :=Chg.size K;rw [HS.out.1] at q;exact q);first | have Z :=(ZeroInt.made _).kept k | have Z :=(ZeroInt.made _).kept k.of_drew | have Z :=Z.kept k | skip;clear k)
    | (go_at_call 91;refine (HM.out _ _ (by first | assumption | exact Chg.refl _ _ | exact (Chg.refl _ _).drew | exact kt (by first | assumption | exact (Chg.refl _ _).drew | exact Chg.refl _ _) (ziK _) | exact Chg.drew (by assumption)) (by omega) (by first | exact Z | exact ZeroInt.made _ | simpa using Z)).mono ?_;rintro r w5 ⟨rfl,k1,k2⟩;have S :=HS.out.2.2.kept k2;obtain ⟨⟨u0,s0⟩,⟨u1,s1⟩,sf⟩ :=id S;have f0 :=sf 0;have f1 :=sf 1))
  all_goals
    refine ⟨dv _ (e1 + e2),results_dec rfl rfl (put2_0 S _ _) (put2_1 S _ _),_,rfl,dec_ret (by omega) ?_ HS.out.2.1 k1 k2 _ _⟩
    rw [HS.out.1]
    omega
end Go.Proofs.YtfmmdamgcpiciaaGreatDoor
namespace Go.Proofs.YtfmmdamgcpiciaaGreatDoor
open Go Go.RowKit
theorem Sl.empty (w0 w : World) (h : w0.heap.size ≤ w.heap.size) : Sl .u32 w0 (w.alloc (.cells #[] 72)) (some ⟨w.heap.size,0,none⟩) 0 [] :=
  Sl.of h (by simp) ⟨fun j x hj => by simp at hj,fun j hj => by omega,Nat.le_refl _,NF.made w _ _,by simp⟩ (Nat.zero_le _)
theorem Sl.single (w0 w : World) (h : w0.heap.size ≤ w.heap.size) (x : Nat) : Sl .u32 w0 (w.alloc (.cells #[.int .u32 (x : Int)] 72)) (some ⟨w.heap.size,0,none⟩) 1 [x] :=by
  have hc : (w.alloc (.cells #[.int .u32 (x : Int)] 72)).cell? ⟨w.heap.size,0,none⟩ = some (.int .u32 (x : Int)) :=by
    rw [World.cell?_alloc_at _ _ _ _ rfl];rfl
  refine Sl.of h (by simp) ⟨fun j y hj => ?_,fun j hj => ?_,Nat.le_refl _,NF.made w _ _,by simp⟩ (by decide)
  · match j,hj with
    | 0,hj => obtain rfl :=Option.some.inj hj;exact hc
  · obtain rfl : j = 0 :=by omega
    exact ⟨⟨_,hc⟩,NF.made w _ _ _⟩
theorem NV.nil (w : World) : NV w (.slice none 0 0) 0 :=⟨none,0,0,rfl,[],rfl,Nat.le_refl _,Nat.zero_le _,by decide,.inl rfl,Lt.nil,Nz.nil,rfl⟩
theorem natDiv_lt (w : World) (sx sy : Option Addr) (m n cx cy X Y : Nat) (hx : Dig w sx m cx X) (hy : Dig w sy n cy Y) (hlt : X < Y) :
    Calls Tryz.prog 75 #[.slice sx m cx,.slice sy n cy] w fun e w' => (∃ v1 v2,e = .returned (.tuple #[v1,v2]) ∧ NV w' v1 (X / Y) ∧ NV w' v2 (X % Y)) ∧ Kept w w' :=by
  have hc :=natCmp w sx sy m n cx cy X Y hx hy
  rw [show cmpI X Y = -1 by simp [cmpI,hlt]] at hc
  obtain ⟨xs,h1,h2,h3,h4,h5,h6,h7,h8⟩ :=hx
  rw [Nat.div_eq_of_lt hlt,Nat.mod_eq_of_lt hlt]
  have HS :=Lib.hid (And.intro h7 (And.intro h8 h3))
  clear hy hlt h3 h7 h8
  go_enter Tryz.func75,Tryz.ntmps75
  go_wp2_with (first
    | (go_at_call 77;refine hc.mono ?_;rintro r w1 ⟨rfl,k1⟩)
    | (at_builtin;refine wp_gappR (w0 :=w) rfl (.tmp 18) (.tmp 19) rfl rfl rfl rfl (Sl.empty w _ k1.size) (Nat.le_trans k1.size (Chg.alloc _ _ None2).size) rfl h1 (by omega) (h5.kept (kt k1 (Chg.alloc _ _ _))) ?_;intro s4 c4 w4 hS4 hC4))
  first | go_ret2 | refine ⟨_,results_tmp2 rfl _ _ _,?_⟩
  obtain ⟨h7,h8,h3⟩ :=HS.out
  refine ⟨⟨_,_,rfl,NV.nil _,s4,_,c4,rfl,hS4.ret (by rw [List.nil_append,h1]) (by omega) h6 h7 h8⟩,?_⟩
  refine (kt k1 (Chg.alloc _ _ _)).trans hC4 fun b o hb h => ?_
  obtain ⟨a,ha,rfl⟩ :=h
  obtain rfl :=Option.some.inj ha
  have :=k1.size
  simp only at hb
  omega
theorem natDiv_one (w : World) (sx sy : Option Addr) (m cx cy X Y : Nat) (hx : Dig w sx m cx X) (hy : Dig w sy 1 cy Y) (hle : Y ≤ X) (hm : m ≤ 1000000) :
    Calls Tryz.prog 75 #[.slice sx m cx,.slice sy 1 cy] w fun e w' => (∃ v1 v2,e = .returned (.tuple #[v1,v2]) ∧ NV w' v1 (X / Y) ∧ NV w' v2 (X % Y)) ∧ Kept w w' :=by
  have hY0 : 0 < Y :=by
    have :=hy.zero
    omega
  have hc :=natCmp w sx sy m 1 cx cy X Y hx hy
  have hc0 : 0 ≤ cmpI X Y :=by unfold cmpI;repeat' split <;> omega
  obtain ⟨z,hz⟩ : ∃ z,cmpI X Y = z :=⟨_,rfl⟩
  rw [hz] at hc hc0
  obtain ⟨ys,k1,k2,k3,k4,k5,k6,k7,k8⟩ :=hy
  obtain ⟨y,rfl⟩ : ∃ y,ys = [y] :=List.length_eq_one_iff.1 k1
  have hyY : y = Y :=by rw [← k8];simp [val]
  subst hyY
  have hyL : y < L9 :=k6 y (by simp)
  obtain ⟨g2,rfl,r2⟩ :=k5.row (by simp)
  have c2 :=r2 0 y rfl
  have hsh :=fun W (k : Kept w W) => natShort W sx m cx X y (hx.kept k) hY0 hyL hm
  have hrl : X % y < L9 :=Nat.lt_trans (Nat.mod_lt _ hY0) hyL
  have hfr :=fun W => natFrom W (X % y) (by unfold L9 at hrl;omega)
  obtain ⟨B,eB⟩ : ∃ B : Int,(y : Int) = B :=⟨_,rfl⟩
  obtain ⟨M,eM⟩ : ∃ M : Int,((X % y : Nat) : Int) = M :=⟨_,rfl⟩
  rw [eB] at c2
  rw [eB,eM] at hsh
  rw [eM] at hfr
  have M0 : 0 ≤ M :=by omega
  have M1 : M ≤ 999999999 :=by unfold L9 at hrl;omega
  have HX :=Lib.hid hx
  clear hle hz k3 k8 k6 k7 k5 hyL hrl eB eM hY0 hx
  go_enter Tryz.func75,Tryz.ntmps75
  go_wp2_with (first
    | (go_at_call 77;refine hc.mono ?_;rintro r w1 ⟨rfl,q1⟩;have c3 :=Kept.at q1 c2)
    | (go_at_call 103;refine (hsh _ q1).mono ?_;rintro r w2 ⟨⟨v2,rfl,n2⟩,q2⟩)
    | (go_at_call 41;refine (hfr _).mono ?_;rintro r w3 ⟨⟨v3,rfl,n3⟩,q3⟩))
  first | go_ret2 | refine ⟨_,results_tmp2 rfl _ _ _,?_⟩
  exact ⟨⟨_,_,rfl,n2.kept q3,n3⟩,kt q1 (kt q2 q3)⟩
end Go.Proofs.YtfmmdamgcpiciaaGreatDoor
namespace Go.Proofs.YtfmmdamgcpiciaaGreatDoor
open Go Go.RowKit
theorem ShI.step2 {xs us : List Nat} {n b k r x : Nat} (h : ShI xs n b (k + 1) r us) (hk : k < n) (hx : xs[k]? = some x) (hxb : x < L9) (t : Nat) (ht : x + L9 * r = t) : t < L9 * b ∧ t / b < L9 ∧ ShI xs n b k (t % b) (us.set k (t / b)) :=by
  obtain ⟨ts,rfl,h2,h3,h4,h5⟩ :=h
  have h1 : t < L9 * b :=by
    have : L9 * (r + 1) ≤ L9 * b :=Nat.mul_le_mul_left _ h4
    rw [Nat.mul_add,Nat.mul_one] at this
    omega
  have hq : t / b < L9 :=by
    rw [Nat.div_lt_iff_lt_mul (by omega)];exact h1
  refine ⟨h1,hq,(t / b) :: ts,?_,by rw [List.length_cons];omega,fun y hy => ?_,Nat.mod_lt _ (by omega),?_⟩
  · rw [List.replicate_succ',List.append_assoc,List.set_append_right _ _ (by simp)]
    simp
  · rcases List.mem_cons.1 hy with rfl | hy
    · exact hq
    · exact h3 y hy
  · obtain ⟨hl,rfl⟩ :=List.getElem?_eq_some_iff.1 hx
    rw [List.drop_eq_getElem_cons hl]
    exact div_limb h5 t (by rw [← ht,Nat.mul_comm L9,Nat.add_comm]) rfl
theorem div_scaled {X Y b Q R : Nat} (hb : 0 < b) (hY : 0 < Y) (h : Q * (Y * b) + R = X * b) (hR : R < Y * b) : Q = X / Y ∧ R / b = X % Y :=by
  have h1 : (X * b) / (Y * b) = Q :=by
    rw [← h,Nat.mul_comm Q,Nat.mul_add_div (Nat.mul_pos hY hb),Nat.div_eq_of_lt hR,Nat.add_zero]
  have h2 : (X * b) % (Y * b) = R :=by
    rw [← h,Nat.mul_comm Q,Nat.mul_add_mod,Nat.mod_eq_of_lt hR]
  rw [Nat.mul_div_mul_right _ _ hb] at h1
  rw [Nat.mul_mod_mul_right] at h2
  exact ⟨h1.symm,by rw [← h2,Nat.mul_div_cancel _ hb]⟩
theorem natDiv_big (w : World) (sx sy : Option Addr) (m n cx cy X Y : Nat) (hx : Dig w sx m cx X) (hy : Dig w sy n cy Y) (hle : Y ≤ X) (hm : m < 400000) (hn1 : 1 < n) (hn : n < 400000) :
    Calls Tryz.prog 75 #[.slice sx m cx,.slice sy n cy] w fun e w' => (∃ v1 v2,e = .returned (.tuple #[v1,v2]) ∧ NV w' v1 (X / Y) ∧ NV w' v2 (X % Y)) ∧ Kept w w' :=by
  have hY0 : 0 < Y :=by
    have :=hy.zero
    omega
  have hc :=natCmp w sx sy m n cx cy X Y hx hy
  have hc0 : 0 ≤ cmpI X Y :=by unfold cmpI;repeat' split <;> omega
  obtain ⟨z,hz⟩ : ∃ z,cmpI X Y = z :=⟨_,rfl⟩
  rw [hz] at hc hc0
  obtain ⟨p,rfl⟩ : ∃ p,n = p + 1 :=⟨n - 1,by omega⟩
  have hx' :=Lib.hid hx
  have hy' :=Lib.hid hy
  obtain ⟨ys,k1,k2,k3,k4,k5,k6,k7,k8⟩ :=hy
  have gy : ys[p]? = some (lb ys p) :=by rw [lb_in (List.getElem?_eq_getElem (by omega))];exact List.getElem?_eq_getElem (by omega)
  have hyl :=lb_lt k6 p
  have hyp : 0 < lb ys p :=by
    refine Nat.pos_of_ne_zero fun h => k7 _ ?_ h
    rw [List.getLast?_eq_getElem?,k1]
    exact gy
  obtain ⟨g2,rfl,r2⟩ :=k5.row (fun e => by subst e;simp at k1)
  have c2 :=r2 p (lb ys p) gy
  obtain ⟨b,hb⟩ : ∃ b,1000000000 / (lb ys p + 1) = b :=⟨_,rfl⟩
  have hb0 : 0 < b :=by rw [← hb];exact Nat.div_pos (by unfold L9 at hyl;omega) (by omega)
  have hbL : b < L9 :=by
    rw [← hb,Nat.div_lt_iff_lt_mul (by omega)]
    unfold L9
    omega
  obtain ⟨A,eA⟩ : ∃ A : Int,((lb ys p : Nat) : Int) = A :=⟨_,rfl⟩
  rw [eA] at c2
  simp only [Nat.zero_add] at c2
  have A0 : 0 ≤ A :=by omega
  have A1 : A ≤ 999999999 :=by unfold L9 at hyl;omega
  have eb : 1000000000 / (A + 1) = (b : Int) :=by rw [← eA,← hb];rfl
  obtain ⟨B,eB⟩ : ∃ B : Int,(b : Int) = B :=⟨_,rfl⟩
  rw [eB] at eb
  have B0 : 0 < B :=by omega
  have B1 : B ≤ 999999999 :=by unfold L9 at hbL;omega
  have hA1 : A + 1 ≠ 0 :=by omega
  have ep : (p : Int) + 1 - 1 = (p : Int) :=by omega
  have hn1' : ((p : Int) + 1 == 1) = false :=by simp;omega
  have HB :=Lib.hid (And.intro hb0 (And.intro hbL (And.intro eB (And.intro hY0 hle))))
  have hbd : ∀ W : World,Dig (W.alloc (.cells #[.int .u32 B] 72)) (some ⟨W.heap.size,0,none⟩) 1 1 b :=fun W => by
    have :=(Sl.single W W (Nat.le_refl _) b).ret (X :=b) rfl (by simp) (Lt.one hbL) (Nz.one (by omega)) (by simp [val])
    rw [eB] at this
    exact this
  have hm1 : ∀ W sb,Kept w W → Dig W sb 1 1 b → Calls Tryz.prog 40 #[.slice sx m cx,.slice sb 1 1] W fun e w' => (∃ v,e = .returned v ∧ NV w' v (X * b)) ∧ Kept W w' :=fun W sb k h => natMul W sx sb m 1 cx 1 X b (hx'.out.kept k) h (by omega) (by omega)
  have hm2 : ∀ W sb,Kept w W → Dig W sb 1 1 b → Calls Tryz.prog 40 #[.slice (some ⟨g2,0,none⟩) (p + 1) cy,.slice sb 1 1] W fun e w' => (∃ v,e = .returned v ∧ NV w' v (Y * b)) ∧ Kept W w' :=fun W sb k h => natMul W _ sb (p + 1) 1 cy 1 Y b (hy'.out.kept k) h (by omega) (by omega)
  clear hz k3 k8 k6 k7 k5 hyl hyp gy hb hb0 hbL eA eB hY0 hle hx
  go_enter Tryz.func75,Tryz.ntmps75
  go_upto_region 8 with (first
    | (go_at_call 77;refine hc.mono ?_;rintro r w1 ⟨rfl,q1⟩;have c3 :=Kept.at q1 c2;have kb :=kt q1 (Chg.alloc w1 (.cells #[.int .u32 B] 72) None2);have db :=hbd w1)
    | (go_at_call 40;(with_reducible refine (hm1 _ _ kb db).mono ?_);rintro r w2 ⟨⟨v2,rfl,n2⟩,q2⟩)
    | (go_at_call 40;(with_reducible refine (hm2 _ _ (kt kb q2) (db.kept q2)).mono ?_);rintro r w3 ⟨⟨v3,rfl,n3⟩,q3⟩))
  obtain ⟨sX,NX,cX,rfl,dX⟩ :=n2
  obtain ⟨sY,NY,cY,rfl,dY⟩ :=n3
  replace dX :=dX.kept q3
  have kw :=kt kb (kt q2 q3)
  have db3 :=db.kept (kt q2 q3)
  clear kb db q2 q3 hm1 hm2 hbd eb c3 c2 q1 hc hc0 hA1
  have hYb0 : 0 < Y * b :=Nat.mul_pos HB.out.2.2.2.1 HB.out.1
  have hYL : Y * b < L9 ^ NY :=by
    obtain ⟨ys',a1,a2,a3,a4,a5,a6,a7,a8⟩ :=dY
    have b1 :=val_lt a6
    rw [a1,a8] at b1
    exact b1
  have HYb :=Lib.hid hYb0
  have HYL :=Lib.hid hYL
  clear hYL
  obtain ⟨xs,h1,h2,h3,h4,h5,h6,h7,h8⟩ :=dX
  have hYn : NY < 500000 :=by
    have :=dY.len_le (k :=p + 1 + 1) ?_
    · omega
    · obtain ⟨ys',a1,a2,a3,a4,a5,a6,a7,a8⟩ :=hy'.out
      have b1 :=val_lt a6
      rw [a1,a8] at b1
      rw [Nat.pow_succ]
      exact Nat.mul_lt_mul'' b1 HB.out.2.1
  have hXn : NX ≤ 1000000 :=by
    have hd : Dig w3 sX NX cX (X * b) :=⟨xs,h1,h2,h3,h4,h5,h6,h7,h8⟩
    have :=hd.len_le (k :=m + 1) ?_
    · omega
    · obtain ⟨ys',a1,a2,a3,a4,a5,a6,a7,a8⟩ :=hx'.out
      have b1 :=val_lt a6
      rw [a1,a8] at b1
      rw [Nat.pow_succ]
      exact Nat.mul_lt_mul'' b1 HB.out.2.1
  have hmk :=make26 w3 NX (by omega)
  have hO :=made26 w3 NX
  have hI : ShI xs NX (Y * b) NX 0 (List.replicate NX 0) :=⟨[],by simp,by simp,Lt.nil,hYb0,by rw [List.drop_of_length_le (by omega)];simp [val]⟩
  have ka : Kept w3 (w3.alloc (.cells (madeCells #[.int .u32 0] NX) 72)) :=Chg.alloc _ _ _
  obtain ⟨g,hg⟩ : ∃ g,w3.heap.size = g :=⟨_,rfl⟩
  rw [hg] at hmk hO
  have hgW : g < (w3.alloc (.cells (madeCells #[.int .u32 0] NX) 72)).heap.size :=hO.lt
  obtain ⟨W4,hW4⟩ : ∃ W,w3.alloc (.cells (madeCells #[.int .u32 0] NX) 72) = W :=⟨_,rfl⟩
  rw [hW4] at hmk hO ka hgW
  clear hW4
  have HX :=Lib.hid (And.intro h7 (And.intro h8 h3))
  clear h3 h7 h8 hYb0
  go_wp2
  go_loopw [5,11] (fun t5 t11 wx => ∃ (k R : Nat) (us : List Nat) (s : Option Addr) (n c : Nat),t11 = .int .i64 ((k : Int) - 1) ∧ k ≤ NX ∧ t5 = .slice s n c ∧ Dig wx s n c R ∧ Hid (ShI xs NX (Y * b) k R us) ∧ Hid (OutK .u32 wx g 0 NX us) ∧ Kept w3 wx) (fun _ t11 _ => (intOf t11 + 1).toNat)
  case atStart => exact ⟨NX,0,_,none,0,0,by first | rfl | (congr 1;omega),Nat.le_refl _,rfl,(by obtain ⟨s,n,c,e,h⟩ :=NV.nil W4;cases e;exact h),Lib.hid hI,Lib.hid hO,ka⟩
  case round =>
    clear hI hO ka hmk
    obtain ⟨k,R,us,s,n,c,rfl,hk,rfl,hR,hI,hO,hK⟩ :=hrel
    have hRY : R < Y * b :=by obtain ⟨_,_,_,_,h,_⟩ :=hI.out;exact h
    have hnY : n ≤ NY :=by
      rcases Nat.lt_or_ge NY n with h | h
      · have :=dY.len_ge hR h;omega
      · exact h
    rcases Nat.eq_zero_or_pos k with rfl | hkp
    · obtain ⟨ts,e1,e2,e3,e4,e5⟩ :=hI.out
      rw [List.replicate_zero,List.nil_append] at e1
      subst e1
      obtain ⟨hb0,hbL,eB,hY0,hle⟩ :=HB.out
      rw [List.drop_zero,HX.out.2.1] at e5
      obtain ⟨hq,hr⟩ :=div_scaled hb0 hY0 e5 e4
      have hsh :=natShort wr s n c R b hR hb0 hbL (by omega)
      rw [eB,hr] at hsh
      obtain ⟨bs',a1,a2,a3,a4,a5,a6,a7,a8⟩ :=db3
      obtain ⟨y,rfl⟩ : ∃ y,bs' = [y] :=List.length_eq_one_iff.1 a1
      have hyb : y = b :=by rw [← a8];simp [val]
      subst hyb
      obtain ⟨g9,e9,r9⟩ :=a5.row (by simp)
      obtain rfl :=(Addr.mk.inj (Option.some.inj e9)).1
      have c9 :=(r9.keep hK) 0 y rfl
      rw [eB] at c9
      have ht :=fun W (kW : Kept wr W) => natTrim W (some ⟨g,0,none⟩) NX NX us (by omega) (Nat.le_refl _) (by simp only [maxLen];omega) (by omega) (.inr ⟨g,rfl,(hO.out.kept kW).row⟩) e3
      rw [hq] at ht
      have HK :=Lib.hid (kt kw hK)
      clear hq hr hb0 hbL hY0 hle eB e5 e4 e3 a2 a3 a4 a5 a6 a7 a8 e9 r9 hRY
      go_wp2_with (first
        | (go_at_call 103;refine hsh.mono ?_;rintro r w7 ⟨⟨v7,rfl,n7⟩,q7⟩)
        | (go_at_call 80;refine (ht _ q7).mono ?_;rintro r w8 ⟨rfl,n',rfl,d8⟩))
      first | go_ret2 | refine ⟨_,results_tmp2 rfl _ _ _,?_⟩
      exact ⟨⟨_,_,rfl,⟨_,_,_,rfl,d8⟩,n7⟩,kt HK.out q7⟩
    · obtain ⟨i,rfl⟩ : ∃ i,k = i + 1 :=⟨k - 1,by omega⟩
      have hic : i < cX :=by omega
      have hiN : i < NX :=by omega
      have gx : xs[i]? = some xs[i] :=List.getElem?_eq_getElem (by omega)
      have lx : xs[i] < L9 :=h6 _ (List.getElem_mem _)
      generalize xs[i] = x at gx lx
      obtain ⟨g1,rfl,r1⟩ :=h5.row (fun e => by subst e;simp at h1;omega)
      have c1 :=(r1.keep hK) i x gx
      simp only [Nat.zero_add] at c1
      obtain ⟨AX,eX⟩ : ∃ A : Int,(x : Int) = A :=⟨_,rfl⟩
      rw [eX] at c1
      have hS1 :=Sl.single wr wr (Nat.le_refl _) x
      rw [eX] at hS1
      obtain ⟨t,ht⟩ : ∃ t,x + L9 * R = t :=⟨_,rfl⟩
      obtain ⟨htY,hqL,hst⟩ :=hI.out.step2 hiN gx lx t ht
      have hq1 : Y * b * (t / (Y * b)) ≤ t :=Nat.mul_div_le t (Y * b)
      have hq2 : ∀ d,t / (Y * b) < d → t < Y * b * d :=fun d h => by rw [Nat.mul_comm];exact (Nat.div_lt_iff_lt_mul HYb.out).1 h
      have hq3 : t - Y * b * (t / (Y * b)) = t % (Y * b) :=by have :=Nat.mod_add_div t (Y * b);omega
      obtain ⟨q,hqd⟩ : ∃ q,t / (Y * b) = q :=⟨_,rfl⟩
      rw [hqd] at hqL hst hq1 hq2 hq3
      obtain ⟨rs,a1,a2,a3,a4,a5,a6,a7,a8⟩ :=hR
      have hval : val L9 ([x] ++ rs) = t :=by rw [List.singleton_append,val,a8,ht]
      have hltt : Lt L9 ([x] ++ rs) :=(Lt.one lx).app a6
      have htrim : ∀ W s' c',Sl .u32 wr W s' c' ([x] ++ rs) → Calls Tryz.prog 80 #[.slice s' (1 + n) c'] W fun r w' => w' = W ∧ ∃ n',r = .returned (.slice s' n' c') ∧ Dig W s' n' c' t :=fun W s' c' h => by
        have :=natTrim W s' (1 + n) c' ([x] ++ rs) (by simp [a1];omega) (by have :=h.le;simp [a1] at this;omega) h.cap (by omega) (Rd.of_Sl h) hltt
        rw [hval] at this;exact this
      have hgs : ∀ W s' n' c',Kept w3 W → Dig W s' n' c' t → Calls Tryz.prog 104 #[.slice s' n' c',.slice sY NY cY] W fun e w' => w' = W ∧ ∃ d : Nat,e = .returned (.int .u64 (d : Int)) ∧ q ≤ d ∧ d < L9 :=fun W s' n' c' kW h => by
        have :=natGuess W s' sY n' NY c' cY t (Y * b) h (dY.kept kW) HYb.out htY hYn
        rw [hqd] at this;exact this
      have hfr : ∀ W (d : Nat) (D : Int),(d : Int) = D → d < L9 → Calls Tryz.prog 41 #[.int .u64 D] W fun e w' => (∃ v,e = .returned v ∧ NV w' v d) ∧ Kept W w' :=fun W d D e h => by subst e;exact natFrom W d (Nat.lt_trans h (by decide))
      have hml : ∀ W sd nd cd (d : Nat),Kept w3 W → d < L9 → Dig W sd nd cd d → Calls Tryz.prog 40 #[.slice sY NY cY,.slice sd nd cd] W fun e w' => (∃ v,e = .returned v ∧ NV w' v (Y * b * d)) ∧ Kept W w' :=fun W sd nd cd d kW hd h => natMul W sY sd NY nd cY cd (Y * b) d (dY.kept kW) h hYn (by have :=h.len_le (k :=1) (by simpa using hd);omega)
      have HH :=Lib.hid (And.intro hqL (And.intro hst (And.intro htY lx)))
      clear hqL hst htY lx ht hval hltt a6 a7 a8 gx eX hRY
      go_upto_block 2 with (first
        | (at_builtin;refine wp_gappR (w0 :=wr) rfl (.tmp 67) (.tmp 68) rfl rfl rfl rfl hS1 (Chg.alloc _ _ None2).size rfl a1 (by omega) (a5.kept (Chg.alloc _ _ _)) ?_;intro s4 c4 w4 hS4 hC4;have kA : Kept wr w4 :=(Chg.alloc _ _ None2).trans hC4 fun b o hb h => (by obtain ⟨a,ha,rfl⟩ :=h;obtain rfl :=Option.some.inj ha;exact absurd hb (Nat.lt_irrefl _)))
        | (go_at_call 80;(with_reducible refine (htrim _ _ _ hS4).mono ?_);rintro r w5 ⟨hw5,n5,rfl,d5⟩;subst hw5)
        | (go_at_call 104;(with_reducible refine (hgs _ _ _ _ (kt hK kA) d5).mono ?_);rintro r w6 ⟨hw6,d,rfl,hd1,hd2⟩;subst hw6;obtain ⟨DI,eD⟩ : ∃ D : Int,(d : Int) = D :=⟨_,rfl⟩;rw [eD];have HD :=Lib.hid (And.intro hd1 (And.intro hd2 eD));clear hd1 hd2 eD)
        | (go_at_call 41;(with_reducible refine (hfr _ d DI HD.out.2.2 HD.out.2.1).mono ?_);rintro r w7 ⟨⟨v7,rfl,n7⟩,q7⟩;obtain ⟨s7,m7,c7,rfl,d7⟩ :=n7)
        | (go_at_call 40;(with_reducible refine (hml _ _ _ _ d (kt (kt hK kA) q7) HD.out.2.1 d7).mono ?_);rintro r w8 ⟨⟨v8,rfl,n8⟩,q8⟩;obtain ⟨s8,m8,c8,rfl,d8⟩ :=n8))
      have k8 :=kt (kt hK kA) (kt q7 q8)
      have k48 :=kt kA (kt q7 q8)
      have dR :=d5.kept (kt q7 q8)
      clear q7 q8 kA hC4 hS4 d5 d7 htrim hgs hfr hml hS1 a5 c1
      go_cut [12,13] from 77 to 87 (fun t12 t13 wx => ∃ (s n c : _) (D : Int),D = (q : Int) ∧ t12 = .int .u64 D ∧ t13 = .slice s n c ∧ Dig wx s n c (Y * b * q) ∧ Kept w8 wx)
      case first =>
        go_wp2
        go_loopw [12,13] (fun t12 t13 wx => ∃ (d : Nat) (D : Int) (s : Option Addr) (n c : Nat),t12 = .int .u64 D ∧ Hid ((d : Int) = D ∧ q ≤ d ∧ d < L9) ∧ t13 = .slice s n c ∧ Dig wx s n c (Y * b * d) ∧ Kept w8 wx) (fun t12 _ _ => (intOf t12).toNat)
        case atStart => exact ⟨d,DI,s8,m8,c8,rfl,Lib.hid ⟨HD.out.2.2,HD.out.1,HD.out.2.1⟩,rfl,d8,Chg.refl _ _⟩
        case round =>
          clear d8
          obtain ⟨d',D',s',n',c',rfl,hd',rfl,dd,kd⟩ :=hrel
          have hD0 : 0 ≤ D' :=by have :=hd'.out.1;omega
          have hD1 : D' ≤ 999999999 :=by obtain ⟨h1,h2,h3⟩ :=hd'.out;unfold L9 at h3;omega
          have hcp :=natCmp wr s' s4 n' n5 c' c4 (Y * b * d') t dd (dR.kept kd)
          by_cases hq : d' = q
          · have hz : cmpI (Y * b * d') t ≤ 0 :=by
              rw [hq]
              unfold cmpI
              repeat' split <;> omega
            obtain ⟨zz,hzz⟩ : ∃ z,cmpI (Y * b * d') t = z :=⟨_,rfl⟩
            rw [hzz] at hcp hz
            have Hq :=Lib.hid (And.intro hq hd'.out)
            clear hzz hq
            go_wp2_with (go_at_call 77;refine hcp.mono ?_;rintro r w9 ⟨rfl,q9⟩)
            go_meet
            obtain ⟨hq,h1,h2,h3⟩ :=Hq.out
            rw [hq] at dd h1
            exact ⟨s',n',c',D',h1.symm,rfl,rfl,dd.kept q9,kt kd q9⟩
          · have hgt : t < Y * b * d' :=hq2 d' (by have :=hd'.out.2.1;omega)
            have hz : cmpI (Y * b * d') t = 1 :=by unfold cmpI;rw [if_neg (by omega),if_pos hgt]
            rw [hz] at hcp
            obtain ⟨e,rfl⟩ : ∃ e,d' = e + 1 :=⟨d' - 1,by have :=hd'.out.2.1;omega⟩
            have hle : Y * b ≤ Y * b * (e + 1) :=Nat.le_mul_of_pos_right _ (by omega)
            have hlen : n' < 1000000 :=by
              have :=dd.len_le (k :=NY + 1) (by rw [Nat.pow_succ];exact Nat.mul_lt_mul'' HYL.out hd'.out.2.2)
              omega
            have hsb :=fun W (k : Kept wr W) => natSub W s' sY n' NY c' cY (Y * b * (e + 1)) (Y * b) (dd.kept k) (dY.kept (kt (kt k8 kd) k)) hlen hle
            rw [show Y * b * (e + 1) - Y * b = Y * b * e by rw [Nat.mul_add,Nat.mul_one,Nat.add_sub_cancel]] at hsb
            have hD2 : 1 ≤ D' :=by have :=hd'.out.1;omega
            have Hq :=Lib.hid (And.intro hd'.out (show ¬ (e + 1 = q) from hq))
            clear hz hq hgt hle hlen hd'
            go_wp2_with (first
              | (go_at_call 77;refine hcp.mono ?_;rintro r w9 ⟨rfl,q9⟩)
              | (go_at_call 79;refine (hsb _ q9).mono ?_;rintro r w10 ⟨⟨v10,rfl,n10⟩,q10⟩;obtain ⟨s10,m10,c10,rfl,d10,_⟩ :=n10))
            go_roundw
            case rel =>
              obtain ⟨⟨h1,h2,h3⟩,hq⟩ :=Hq.out
              exact ⟨e,D' - 1,s10,m10,c10,rfl,Lib.hid ⟨by omega,by omega,by omega⟩,rfl,d10,kt kd (kt q9 q10)⟩
            case measure => simp [intOf];omega
      case rest =>
        obtain ⟨sP,nP,cP,D,hDq,rfl,rfl,dP,kP⟩ :=hcut
        obtain ⟨hqL,hst,htY,lx⟩ :=HH.out
        have hlen : n5 < 1000000 :=by
          have :=dR.len_le (k :=NY + 1) (by rw [Nat.pow_succ,Nat.mul_comm];exact Nat.lt_trans htY (Nat.mul_lt_mul_of_pos_left HYL.out (by decide)))
          omega
        have hsb :=natSub wc s4 sP n5 nP c4 cP t _ (dR.kept kP) dP hlen hq1
        rw [hq3] at hsb
        have hul : us.length = NX :=by obtain ⟨ts,e1,e2,_⟩ :=hI.out;rw [e1,List.length_append,List.length_replicate,e2];omega
        have D0 : 0 ≤ D :=by omega
        have D1 : D ≤ 999999999 :=by unfold L9 at hqL;omega
        have hOc :=hO.out.kept (kt k48 kP)
        have hgl :=hOc.lt
        have f3 :=fun W (k : Kept wc W) => ((hOc.kept k).room i hiN).2
        have c3 :=fun W (k : Kept wc W) => ((hOc.kept k).room i hiN).1
        simp only [Nat.zero_add] at f3 c3
        have HO :=Lib.hid (And.intro hst (And.intro hDq (And.intro hul hOc)))
        clear hst hDq hOc hq1 hq2 hq3 hqL htY lx hqd
        go_wp2_with (go_at_call 79;refine hsb.mono ?_;rintro r w10 ⟨⟨v10,rfl,n10⟩,q10⟩;obtain ⟨s10,m10,c10,rfl,d10,hnew⟩ :=n10;have f4 :=f3 _ q10;obtain ⟨u4,c4'⟩ :=c3 _ q10)
        go_roundw
        case rel =>
          obtain ⟨hst,hDq,hul,hOc⟩ :=HO.out
          have kc :=Chg.setCell w10 g i (.int .u32 D) (fun b _ => b = g) fun _ => rfl
          refine ⟨i,t % (Y * b),us.set i q,s10,m10,c10,by go_num,by omega,rfl,?_,Lib.hid hst,Lib.hid ?_,?_⟩
          · obtain ⟨rs',b1,b2,b3,b4,b5,b6⟩ :=d10
            refine ⟨rs',b1,b2,b3,b4,?_,b6⟩
            rcases b5 with h | ⟨g',rfl,h⟩
            · exact .inl h
            · have :=hnew _ rfl
              exact .inr ⟨g',rfl,h.chg kc fun j _ e => by simp only at this;omega⟩
          · have :=(hOc.kept q10).set q (i :=i) (by omega)
            rw [Nat.zero_add,← hDq] at this
            exact this
          · exact (kt (kt k8 kP) q10).keptNew kc fun b _ h => by omega
        case measure => simp [intOf]
theorem natDiv (w : World) (sx sy : Option Addr) (m n cx cy X Y : Nat) (hx : Dig w sx m cx X) (hy : Dig w sy n cy Y) (hY : 0 < Y) (hm : m < 400000) (hn : n < 400000) :
    Calls Tryz.prog 75 #[.slice sx m cx,.slice sy n cy] w fun e w' => (∃ v1 v2,e = .returned (.tuple #[v1,v2]) ∧ NV w' v1 (X / Y) ∧ NV w' v2 (X % Y)) ∧ Kept w w' :=by
  rcases Nat.lt_or_ge X Y with h | h
  · exact natDiv_lt w sx sy m n cx cy X Y hx hy h
  · rcases (by have :=hy.zero;omega : n = 1 ∨ 1 < n) with rfl | h1
    · exact natDiv_one w sx sy m cx cy X Y hx hy h (by omega)
    · exact natDiv_big w sx sy m n cx cy X Y hx hy h hm h1 hn
end Go.Proofs.YtfmmdamgcpiciaaGreatDoor
namespace Go.Proofs.YtfmmdamgcpiciaaGreatDoor
open Go Go.RowKit
abbrev Box2 (w : World) (a0 a1 : Value) : World :=Box (Box w a0 a1) (.pointer none) (.int .i32 0)
theorem box2K (w : World) (a0 a1 : Value) : Kept w (Box2 w a0 a1) :=(boxK _ _ _).trans (boxK _ _ _) fun _ _ _ h => h
theorem box2S (w : World) (a0 a1 : Value) : (Box2 w a0 a1).heap.size = w.heap.size + 2 :=by simp
theorem box2R (w : World) (a0 a1 : Value) : Slot (Box2 w a0 a1) (w.heap.size + 1) :=by
  have h :=Slot.made (Box w a0 a1) (.pointer none) (.int .i32 0)
  rw [boxS] at h
  exact h
theorem dec_rescale (w : World) (hg : Glob w) (b : Nat) (e x X : Int) (h : IntAt w b X) (hX : X.natAbs < W39) (hlt : x < e) (l1 : -512 < x) (u1 : e < 512) (hd : e - x ≤ 420) :
    Calls Tryz.prog 99 #[dv b e,.int .i32 x] w (NewDec w (X * (10 ^ (e - x).toNat : Nat)) x) :=by
  have hltb :=h.lt
  have hsub : ∀ W,(binOp .sub 92 (.float .f64 (fl x)) (.float .f64 (fl e))).run Tryz.prog W = .ok (.float .f64 (fl (x - e))) W :=fun W => run_float_arith W .sub 92 .f64 _ _ _ (fl_sub x e (by omega) (by omega) (by omega) (by omega) (by omega))
  have hab :=mathAbs (x - e) (by omega) (by omega)
  have hcv : ∀ W,(convert 92 2 (.float .f64 (fl ((x - e).natAbs : Nat)))).run Tryz.prog W = .ok (.int .i64 ((x - e).natAbs : Nat)) W :=fun W =>
    run_convert_float_int W 92 2 .f64 .i64 _ _ (by kernel_rfl) Tryz.underlying2 (fl_int ⟨(x - e).natAbs,by omega⟩)
  have hn : (x - e).natAbs = (e - x).toNat :=by omega
  rw [hn] at hab hcv
  have hnl : (e - x).toNat ≤ 420 :=by omega
  clear hn
  generalize (e - x).toNat = n at *
  have hne : (e == x) = false :=by simp;omega
  have hW :=box2K w (ptr b) (.int .i32 e)
  have hS :=box2S w (ptr b) (.int .i32 e)
  have hR :=box2R w (ptr b) (.int .i32 e)
  have hZ : ZeroInt (Zi (Box2 w (ptr b) (.int .i32 e))) (w.heap.size + 2) :=by rw [← hS];exact ZeroInt.made _
  have hp :=fun W (hW2 : Kept w W) => pow10 W (hg.kept hW2) n hnl
  have hm : ∀ w4 b2,Kept (Zi (Box2 w (ptr b) (.int .i32 e))) w4 → w.heap.size + 2 < b2 → IntAt w4 b2 (10 ^ n : Nat) → Calls Tryz.prog 91 #[ptr (w.heap.size + 2),ptr b,ptr b2] w4 fun r w' => r = .returned (ptr (w.heap.size + 2)) ∧ IntN (Box2 w (ptr b) (.int .i32 e)) w' (w.heap.size + 2) (X * (10 ^ n : Nat)) ∧ Kept (Box2 w (ptr b) (.int .i32 e)) w' :=by
    intro w4 b2 q1 q2 q3
    have kz :=kt (ziK (Box2 w (ptr b) (.int .i32 e))) q1
    have kw :=kt hW kz
    exact int_Mul _ w4 (hg.kept kw) kz _ b b2 (by rw [hS];omega) (hZ.kept q1) X _ (h.kept kw) q3 (by omega) (by omega) (fun e => by omega) hX (by
      have :=pow10_lt2 hnl
      rw [Int.natAbs_natCast]
      exact Nat.lt_of_lt_of_le this (Nat.pow_le_pow_right (by decide) (by decide)))
  have HM :=Lib.hid hm
  have HS :=Lib.hid (And.intro hS (And.intro hW hR))
  clear hm hS hW hR hZ
  go_enter Tryz.func99,Tryz.ntmps99
  go_wp2_with (first
    | (go_at_call 115;refine (hab _).mono ?_;rintro r w1 ⟨rfl,hw⟩;rw [hw])
    | (go_at_call 88;refine (dec_getValue _ _ _).mono ?_;rintro r w1 ⟨rfl,k⟩;have K : Kept (Zi (Box2 w (ptr b) (.int .i32 e))) w1 :=k;have G : w.heap.size + 3 ≤ w1.heap.size :=(by have q :=Chg.size K;simp at q;omega))
    | (go_at_call 92;refine (hp _ (kt HS.out.2.1 (kt (ziK _) K))).mono ?_;rintro r w2 ⟨b2,rfl,q1,q2⟩)
    | (go_at_call 91;refine (HM.out w2 b2 (kt K q2) (by have :=q1.ge;omega) q1.at).mono ?_;rintro r w5 ⟨rfl,k1,k2⟩;have S :=HS.out.2.2.kept k2;obtain ⟨⟨u0,s0⟩,⟨u1,s1⟩,sf⟩ :=id S;have f0 :=sf 0;have f1 :=sf 1))
  first
    | refine ⟨dv _ x,results_dec rfl rfl (put2_0 S _ _) (put2_1 S _ _),_,rfl,dec_ret (by omega) ?_ HS.out.2.1 k1 k2 _ _⟩
    | refine bodyPost_ret (v :=dv _ x) (results_dec rfl rfl (put2_0 S _ _) (put2_1 S _ _)) rfl ⟨_,rfl,dec_ret (by omega) ?_ HS.out.2.1 k1 k2 _ _⟩
  rw [HS.out.1]
  omega
end Go.Proofs.YtfmmdamgcpiciaaGreatDoor
namespace Go.Proofs.YtfmmdamgcpiciaaGreatDoor
open Go Go.RowKit
theorem Recv.keep {w0 w w' : World} {b : Nat} {s : Option Addr} {n c : Nat} (h : Recv w0 w b s n c) (k : Kept w w') : Recv w0 w' b s n c :=by
  obtain ⟨⟨u,hu⟩,h2,h3,h4,h5,h6,h7,h8,h9⟩ :=h
  exact ⟨⟨u,Kept.at k hu⟩,Kept.at k h2,h3.chg k,h4,h5.chg (lt_of_cell hu) k,h6,h7,h8,kt h9 k⟩
theorem natBig {w : World} {s : Option Addr} {n c X : Nat} (h : NatAt w s n c X) (hX : X < W39) : n < Big :=Nat.lt_of_le_of_lt (h.len_lt hX) (by decide)
theorem IntA.lt0 {w : World} {b : Nat} {s : Option Addr} {n c : Nat} {X : Int} (h : IntA w b s n c X) : ∀ a,s = some a → a.block < w.heap.size :=h.nat.lt
theorem box3c0 (w : World) (a0 a1 b0 b1 : Value) : (Box3 w a0 a1 b0 b1).cell? ⟨w.heap.size,0,none⟩ = some a0 ∧ (Box3 w a0 a1 b0 b1).cell? ⟨w.heap.size,1,none⟩ = some a1 ∧ (Box3 w a0 a1 b0 b1).cell? ⟨w.heap.size + 1,0,none⟩ = some b0 ∧ (Box3 w a0 a1 b0 b1).cell? ⟨w.heap.size + 1,1,none⟩ = some b1 :=by
  have k1 :=boxK (Box w a0 a1) b0 b1
  have k2 :=boxK (Box (Box w a0 a1) b0 b1) (.pointer none) (.int .i32 0)
  have c0 :=box0 (Box w a0 a1) b0 b1
  have c1 :=box1 (Box w a0 a1) b0 b1
  rw [boxS] at c0 c1
  exact ⟨Kept.at k2 (Kept.at k1 (box0 w a0 a1)),Kept.at k2 (Kept.at k1 (box1 w a0 a1)),Kept.at k2 c0,Kept.at k2 c1⟩
abbrev B3 (w : World) (b1 b2 : Nat) (e1 e2 : Int) : World :=Box3 w (ptr b1) (.int .i32 e1) (ptr b2) (.int .i32 e2)
theorem RDone.at {w0 w w' : World} {bz : Nat} {sz : Option Addr} {X : Int} (h : RDone w0 w w' bz sz X) {b o : Nat} {v : Value} (hc : w.cell? ⟨b,o,none⟩ = some v) (h1 : b ≠ bz) (h2 : ∀ a,sz = some a → a.block ≠ b) : w'.cell? ⟨b,o,none⟩ = some v :=
  h.2.2.at hc (by rintro (h | ⟨o',h⟩);exact h1 h;exact h2 _ h rfl)
theorem int_add_y (w0 w1 w : World) (bz bx : Nat) (X Y : Int) (hz : IntN w0 w1 bz Y) (hk1 : Kept w0 w1) (hk2 : Kept w1 w) (hx : IntAt w0 bx X) (hX : X.natAbs < W39) (hY : Y.natAbs < W39) : ∃ sz,(∀ a,sz = some a → a.block < w1.heap.size) ∧ Calls Tryz.prog 101 #[ptr bz,ptr bx,ptr bz] w fun e w' => e = .returned (ptr bz) ∧ RDone w0 w w' bz sz (X + Y) :=by
  obtain ⟨sz,nz,cz,hr,hy⟩ :=hz.recv hk1
  obtain ⟨sx,nx,cx,hx⟩ :=hx
  have hd :=hr.dis hx
  have hx :=hx.kept (kt hk1 hk2)
  exact ⟨sz,hy.lt0,int_add w0 w bz bx bz sz sx sz nz cz nx cx nz cz X Y (hr.keep hk2) hx (hy.kept hk2) (natBig hx.nat hX) (natBig hy.nat hY) hd.1.sep (.inl rfl)⟩
theorem int_add_x (w0 w1 w : World) (bz by' : Nat) (X Y : Int) (hz : IntN w0 w1 bz X) (hk1 : Kept w0 w1) (hk2 : Kept w1 w) (hy : IntAt w0 by' Y) (hX : X.natAbs < W39) (hY : Y.natAbs < W39) : ∃ sz,(∀ a,sz = some a → a.block < w1.heap.size) ∧ Calls Tryz.prog 101 #[ptr bz,ptr bz,ptr by'] w fun e w' => e = .returned (ptr bz) ∧ RDone w0 w w' bz sz (X + Y) :=by
  obtain ⟨sz,nz,cz,hr,hx⟩ :=hz.recv hk1
  obtain ⟨sy,ny,cy,hy⟩ :=hy
  have hd :=hr.dis hy
  have hy :=hy.kept (kt hk1 hk2)
  exact ⟨sz,hx.lt0,int_add w0 w bz bz by' sz sz sy nz cz nz cz ny cy X Y (hr.keep hk2) (hx.kept hk2) hy (natBig hx.nat hX) (natBig hy.nat hY) (.inl rfl) hd.1.sep⟩
theorem int_add_n (w0 w : World) (bz bx by' : Nat) (X Y : Int) (hz : ZeroInt w bz) (hb : w0.heap.size ≤ bz) (hk : Kept w0 w) (hx : IntAt w bx X) (hy : IntAt w by' Y) (hX : X.natAbs < W39) (hY : Y.natAbs < W39) : Calls Tryz.prog 101 #[ptr bz,ptr bx,ptr by'] w fun e w' => e = .returned (ptr bz) ∧ RDone w0 w w' bz none (X + Y) :=by
  obtain ⟨sx,nx,cx,hx⟩ :=hx
  obtain ⟨sy,ny,cy,hy⟩ :=hy
  exact int_add w0 w bz bx by' none sx sy 0 0 nx cx ny cy X Y (hz.recv hb hk) hx hy (natBig hx.nat hX) (natBig hy.nat hY) (Dis.nil _).sep (Dis.nil _).sep
theorem dec_add_lt (w : World) (hg : Glob w) (b1 b2 : Nat) (e1 e2 X Y : Int) (h1 : IntAt w b1 X) (h2 : IntAt w b2 Y) (hX : X.natAbs < W39) (hY : Y.natAbs < W39) (hlt : e1 < e2) (l1 : -512 < e1) (u2 : e2 < 512) (hd : e2 - e1 ≤ 420) (hY2 : (Y * (10 ^ (e2 - e1).toNat : Nat)).natAbs < W39) :
    Calls Tryz.prog 70 #[dv b1 e1,dv b2 e2] w (NewDec w (X + Y * (10 ^ (e2 - e1).toNat : Nat)) e1) :=by
  have hW :=box3K w (ptr b1) (.int .i32 e1) (ptr b2) (.int .i32 e2)
  have hS :=box3S w (ptr b1) (.int .i32 e1) (ptr b2) (.int .i32 e2)
  have hR :=box3R w (ptr b1) (.int .i32 e1) (ptr b2) (.int .i32 e2)
  have hre :=dec_rescale (B3 w b1 b2 e1 e2) (hg.kept hW) b2 e2 e1 Y (h2.kept hW) hY hlt l1 u2 hd
  generalize (10 ^ (e2 - e1).toNat : Nat) = T at *
  have hc0 :=box3c0 w (ptr b1) (.int .i32 e1) (ptr b2) (.int .i32 e2)
  have HS :=Lib.hid (And.intro hS (And.intro hW (And.intro hR hc0)))
  clear hS hW hR hc0
  go_enter Tryz.func70,Tryz.ntmps70
  go_wp2_with (first
    | (go_at_call 99;refine hre.mono ?_;rintro r w1 ⟨b',rfl,k1,k2⟩;have G :=Chg.size k2;rw [HS.out.1] at G;
       have p0 :=box0 w1 (ptr b') (.int .i32 e1);have p1 :=box1 w1 (ptr b') (.int .i32 e1);have KP :=boxK w1 (ptr b') (.int .i32 e1);
       have t0 :=Kept.at (kt k2 KP) HS.out.2.2.2.1;have t1 :=Kept.at (kt k2 KP) HS.out.2.2.2.2.1)
    | (refine wp_region_lit_segs (id :=3) [[0,1,2,4,5,3],[6]] mixed (by kernel_rfl) ?_;simp only [wpSegsL,gaC,gaN,lZ0,lS0,coS])
    | refine ⟨by kernel_rfl,?_⟩
    | refine ⟨by kernel_rfl,oldD (by first | assumption | exact Chg.refl _ _ | exact (Chg.refl _ _).drew | exact kt (by first | assumption | exact (Chg.refl _ _).drew | exact Chg.refl _ _) (ziK _) | exact Chg.drew (by assumption)),?_⟩
    | refine ⟨oldD (by first | assumption | exact Chg.refl _ _ | exact (Chg.refl _ _).drew | exact kt (by first | assumption | exact (Chg.refl _ _).drew | exact Chg.refl _ _) (ziK _) | exact Chg.drew (by assumption)),?_⟩
    | (with_reducible refine And.intro ?_ ?_)
    | (go_at_call 88;refine (dec_getValue _ _ _).mono ?_;rintro r w3 ⟨rfl,k⟩;have k :=k.of_drew;have K3 :=kt KP k;have q0 :=Kept.at k p0;have q1 :=Kept.at k p1)
    | (go_at_call 101;obtain ⟨sz,hsz,hc⟩ :=int_add_y (B3 w b1 b2 e1 e2) w1 w3 b' b1 X _ k1 k2 K3 (h1.kept HS.out.2.1) hX hY2;refine hc.mono ?_;rintro r w4 ⟨rfl,d⟩;
       have hb' :=k1.at.lt;have r0 :=d.at q0 (by omega) (fun a ha => by have :=hsz a ha;omega);have r1 :=d.at q1 (by omega) (fun a ha => by have :=hsz a ha;omega);
       have S :=HS.out.2.2.1.kept d.2.1;obtain ⟨⟨u0,s0⟩,⟨u1,s1⟩,sf⟩ :=id S;have f0 :=sf 0;have f1 :=sf 1;have s2 :=cs_ne (u :=ptr b') s1 (b' :=w.heap.size + 2) (o' :=0) (by omega)))
  first
    | refine ⟨dv _ e1,results_dec rfl rfl (put2_0 S _ _) (put2_1 S _ _),_,rfl,dec_ret (by omega) ?_ HS.out.2.1 d.1 d.2.1 _ _⟩
    | refine bodyPost_ret (v :=dv _ e1) (results_dec rfl rfl (put2_0 S _ _) (put2_1 S _ _)) rfl ⟨_,rfl,dec_ret (by omega) ?_ HS.out.2.1 d.1 d.2.1 _ _⟩
  rw [HS.out.1]
  omega
theorem dec_add_gt (w : World) (hg : Glob w) (b1 b2 : Nat) (e1 e2 X Y : Int) (h1 : IntAt w b1 X) (h2 : IntAt w b2 Y) (hX : X.natAbs < W39) (hY : Y.natAbs < W39) (hlt : e2 < e1) (l1 : -512 < e2) (u2 : e1 < 512) (hd : e1 - e2 ≤ 420) (hX2 : (X * (10 ^ (e1 - e2).toNat : Nat)).natAbs < W39) :
    Calls Tryz.prog 70 #[dv b1 e1,dv b2 e2] w (NewDec w (X * (10 ^ (e1 - e2).toNat : Nat) + Y) e2) :=by
  have hW :=box3K w (ptr b1) (.int .i32 e1) (ptr b2) (.int .i32 e2)
  have hS :=box3S w (ptr b1) (.int .i32 e1) (ptr b2) (.int .i32 e2)
  have hR :=box3R w (ptr b1) (.int .i32 e1) (ptr b2) (.int .i32 e2)
  have hre :=dec_rescale (B3 w b1 b2 e1 e2) (hg.kept hW) b1 e1 e2 X (h1.kept hW) hX hlt l1 u2 hd
  generalize (10 ^ (e1 - e2).toNat : Nat) = T at *
  have hc0 :=box3c0 w (ptr b1) (.int .i32 e1) (ptr b2) (.int .i32 e2)
  have HS :=Lib.hid (And.intro hS (And.intro hW (And.intro hR hc0)))
  have hnl : ¬ e1 < e2 :=by omega
  clear hS hW hR hc0
  go_enter Tryz.func70,Tryz.ntmps70
  go_wp2_with (first
    | (go_at_call 99;refine hre.mono ?_;rintro r w1 ⟨b',rfl,k1,k2⟩;have G :=Chg.size k2;rw [HS.out.1] at G;
       have p0 :=box0 w1 (ptr b') (.int .i32 e2);have p1 :=box1 w1 (ptr b') (.int .i32 e2);have KP :=boxK w1 (ptr b') (.int .i32 e2);
       have t0 :=Kept.at (kt k2 KP) HS.out.2.2.2.2.2.1;have t1 :=Kept.at (kt k2 KP) HS.out.2.2.2.2.2.2)
    | (refine wp_region_lit_segs (id :=7) [[0,1,2,3,4,5],[6]] mixed (by kernel_rfl) ?_;simp only [wpSegsL,gaC,gaN,lZ0,lS0,coS])
    | refine ⟨by kernel_rfl,?_⟩
    | refine ⟨by kernel_rfl,oldD (by first | assumption | exact Chg.refl _ _ | exact (Chg.refl _ _).drew | exact kt (by first | assumption | exact (Chg.refl _ _).drew | exact Chg.refl _ _) (ziK _) | exact Chg.drew (by assumption)),?_⟩
    | refine ⟨oldD (by first | assumption | exact Chg.refl _ _ | exact (Chg.refl _ _).drew | exact kt (by first | assumption | exact (Chg.refl _ _).drew | exact Chg.refl _ _) (ziK _) | exact Chg.drew (by assumption)),?_⟩
    | (with_reducible refine And.intro ?_ ?_)
    | (go_at_call 88;refine (dec_getValue _ _ _).mono ?_;rintro r w3 ⟨rfl,k⟩;have k :=k.of_drew;have K3 :=kt KP k;have q0 :=Kept.at k p0;have q1 :=Kept.at k p1)
    | (go_at_call 101;obtain ⟨sz,hsz,hc⟩ :=int_add_x (B3 w b1 b2 e1 e2) w1 w3 b' b2 _ Y k1 k2 K3 (h2.kept HS.out.2.1) hX2 hY;refine hc.mono ?_;rintro r w4 ⟨rfl,d⟩;
       have hb' :=k1.at.lt;have r0 :=d.at q0 (by omega) (fun a ha => by have :=hsz a ha;omega);have r1 :=d.at q1 (by omega) (fun a ha => by have :=hsz a ha;omega);
       have S :=HS.out.2.2.1.kept d.2.1;obtain ⟨⟨u0,s0⟩,⟨u1,s1⟩,sf⟩ :=id S;have f0 :=sf 0;have f1 :=sf 1;have s2 :=cs_ne (u :=ptr b') s1 (b' :=w.heap.size + 2) (o' :=0) (by omega)))
  first
    | refine ⟨dv _ e2,results_dec rfl rfl (put2_0 S _ _) (put2_1 S _ _),_,rfl,dec_ret (by omega) ?_ HS.out.2.1 d.1 d.2.1 _ _⟩
    | refine bodyPost_ret (v :=dv _ e2) (results_dec rfl rfl (put2_0 S _ _) (put2_1 S _ _)) rfl ⟨_,rfl,dec_ret (by omega) ?_ HS.out.2.1 d.1 d.2.1 _ _⟩
  rw [HS.out.1]
  omega
theorem dec_add_eq (w : World) (b1 b2 : Nat) (e1 X Y : Int) (h1 : IntAt w b1 X) (h2 : IntAt w b2 Y) (hX : X.natAbs < W39) (hY : Y.natAbs < W39) :
    Calls Tryz.prog 70 #[dv b1 e1,dv b2 e1] w (NewDec w (X + Y) e1) :=by
  have hlt1 :=h1.lt
  have hlt2 :=h2.lt
  have hW :=box3K w (ptr b1) (.int .i32 e1) (ptr b2) (.int .i32 e1)
  have hS :=box3S w (ptr b1) (.int .i32 e1) (ptr b2) (.int .i32 e1)
  have hR :=box3R w (ptr b1) (.int .i32 e1) (ptr b2) (.int .i32 e1)
  have hm : ∀ w4 bz,Kept (B3 w b1 b2 e1 e1) w4 → w.heap.size + 3 ≤ bz → ZeroInt w4 bz → Calls Tryz.prog 101 #[ptr bz,ptr b1,ptr b2] w4 fun e w' => e = .returned (ptr bz) ∧ RDone (B3 w b1 b2 e1 e1) w4 w' bz none (X + Y) :=by
    intro w4 bz q1 q2 q3
    have kw :=kt hW q1
    exact int_add_n (B3 w b1 b2 e1 e1) w4 bz b1 b2 X Y q3 (by rw [hS];exact q2) q1 (h1.kept kw) (h2.kept kw) hX hY
  have HM :=Lib.hid hm
  have hc0 :=box3c0 w (ptr b1) (.int .i32 e1) (ptr b2) (.int .i32 e1)
  have HS :=Lib.hid (And.intro hS (And.intro hW (And.intro hR hc0)))
  clear hm hS hW hR hc0
  go_enter Tryz.func70,Tryz.ntmps70
  go_wp2_with (first
    | (refine wp_region_lit_plan (id :=9) (.seg [1,3] (.two 0 2 (.seg [2] (.seg [4] (.seg [5] (.seg [6] .fin)))) (.two 0 4 (.seg [4] (.seg [5] (.seg [6] .fin))) (.seg [0] (.seg [5] (.seg [6] .fin)))))) mixed (by kernel_rfl) ?_;simp only [wpPlanL,gaC,gaN,lZ0,lS0,coS])
    | refine ⟨by kernel_rfl,?_⟩
    | refine ⟨by kernel_rfl,oldD (by first | assumption | exact Chg.refl _ _ | exact (Chg.refl _ _).drew | exact kt (by first | assumption | exact (Chg.refl _ _).drew | exact Chg.refl _ _) (ziK _) | exact Chg.drew (by assumption)),?_⟩
    | refine ⟨oldD (by first | assumption | exact Chg.refl _ _ | exact (Chg.refl _ _).drew | exact kt (by first | assumption | exact (Chg.refl _ _).drew | exact Chg.refl _ _) (ziK _) | exact Chg.drew (by assumption)),?_⟩
    | (with_reducible refine And.intro ?_ ?_)
    | (go_at_call 88;refine (dec_getValue _ _ _).mono ?_;rintro r w1 ⟨rfl,k⟩;have K : Kept (B3 w b1 b2 e1 e1) w1 :=kt (by first | assumption | exact Chg.refl _ _ | exact (Chg.refl _ _).drew | exact kt (by first | assumption | exact (Chg.refl _ _).drew | exact Chg.refl _ _) (ziK _) | exact Chg.drew (by assumption)) k;have G : w.heap.size + 3 ≤ w1.heap.size :=(by have q :=Chg.size K;rw [HS.out.1] at q;exact q);first | have Z :=(ZeroInt.made _).kept k | have Z :=(ZeroInt.made _).kept k.of_drew | have Z :=Z.kept k | skip;clear k)
    | (go_at_call 101;refine (HM.out _ _ (by first | assumption | exact Chg.refl _ _ | exact (Chg.refl _ _).drew | exact kt (by first | assumption | exact (Chg.refl _ _).drew | exact Chg.refl _ _) (ziK _) | exact Chg.drew (by assumption)) (by omega) (by first | exact Z | exact ZeroInt.made _ | simpa using Z)).mono ?_;rintro r w5 ⟨rfl,d⟩;have K5 :=d.2.1;have S :=HS.out.2.2.1.kept d.2.1;obtain ⟨⟨u0,s0⟩,⟨u1,s1⟩,sf⟩ :=id S;have f0 :=sf 0;have f1 :=sf 1;have t1 :=Kept.at d.2.1 HS.out.2.2.2.2.1))
  all_goals
    refine ⟨dv _ e1,results_dec rfl rfl (put2_0 S _ _) (put2_1 S _ _),_,rfl,dec_ret (by omega) ?_ HS.out.2.1 d.1 d.2.1 _ _⟩
    rw [HS.out.1]
    omega
theorem int_sub_y (w0 w1 w : World) (bz bx : Nat) (X Y : Int) (hz : IntN w0 w1 bz Y) (hk1 : Kept w0 w1) (hk2 : Kept w1 w) (hx : IntAt w0 bx X) (hX : X.natAbs < W39) (hY : Y.natAbs < W39) : ∃ sz,(∀ a,sz = some a → a.block < w1.heap.size) ∧ Calls Tryz.prog 102 #[ptr bz,ptr bx,ptr bz] w fun e w' => e = .returned (ptr bz) ∧ RDone w0 w w' bz sz (X - Y) :=by
  obtain ⟨sz,nz,cz,hr,hy⟩ :=hz.recv hk1
  obtain ⟨sx,nx,cx,hx⟩ :=hx
  have hd :=hr.dis hx
  have hx :=hx.kept (kt hk1 hk2)
  exact ⟨sz,hy.lt0,int_sub w0 w bz bx bz sz sx sz nz cz nx cx nz cz X Y (hr.keep hk2) hx (hy.kept hk2) (natBig hx.nat hX) (natBig hy.nat hY) hd.1.sep (.inl rfl)⟩
theorem int_sub_x (w0 w1 w : World) (bz by' : Nat) (X Y : Int) (hz : IntN w0 w1 bz X) (hk1 : Kept w0 w1) (hk2 : Kept w1 w) (hy : IntAt w0 by' Y) (hX : X.natAbs < W39) (hY : Y.natAbs < W39) : ∃ sz,(∀ a,sz = some a → a.block < w1.heap.size) ∧ Calls Tryz.prog 102 #[ptr bz,ptr bz,ptr by'] w fun e w' => e = .returned (ptr bz) ∧ RDone w0 w w' bz sz (X - Y) :=by
  obtain ⟨sz,nz,cz,hr,hx⟩ :=hz.recv hk1
  obtain ⟨sy,ny,cy,hy⟩ :=hy
  have hd :=hr.dis hy
  have hy :=hy.kept (kt hk1 hk2)
  exact ⟨sz,hx.lt0,int_sub w0 w bz bz by' sz sz sy nz cz nz cz ny cy X Y (hr.keep hk2) (hx.kept hk2) hy (natBig hx.nat hX) (natBig hy.nat hY) (.inl rfl) hd.1.sep⟩
theorem int_sub_n (w0 w : World) (bz bx by' : Nat) (X Y : Int) (hz : ZeroInt w bz) (hb : w0.heap.size ≤ bz) (hk : Kept w0 w) (hx : IntAt w bx X) (hy : IntAt w by' Y) (hX : X.natAbs < W39) (hY : Y.natAbs < W39) : Calls Tryz.prog 102 #[ptr bz,ptr bx,ptr by'] w fun e w' => e = .returned (ptr bz) ∧ RDone w0 w w' bz none (X - Y) :=by
  obtain ⟨sx,nx,cx,hx⟩ :=hx
  obtain ⟨sy,ny,cy,hy⟩ :=hy
  exact int_sub w0 w bz bx by' none sx sy 0 0 nx cx ny cy X Y (hz.recv hb hk) hx hy (natBig hx.nat hX) (natBig hy.nat hY) (Dis.nil _).sep (Dis.nil _).sep
theorem dec_sub_lt (w : World) (hg : Glob w) (b1 b2 : Nat) (e1 e2 X Y : Int) (h1 : IntAt w b1 X) (h2 : IntAt w b2 Y) (hX : X.natAbs < W39) (hY : Y.natAbs < W39) (hlt : e1 < e2) (l1 : -512 < e1) (u2 : e2 < 512) (hd : e2 - e1 ≤ 420) (hY2 : (Y * (10 ^ (e2 - e1).toNat : Nat)).natAbs < W39) :
    Calls Tryz.prog 72 #[dv b1 e1,dv b2 e2] w (NewDec w (X - Y * (10 ^ (e2 - e1).toNat : Nat)) e1) :=by
  have hW :=box3K w (ptr b1) (.int .i32 e1) (ptr b2) (.int .i32 e2)
  have hS :=box3S w (ptr b1) (.int .i32 e1) (ptr b2) (.int .i32 e2)
  have hR :=box3R w (ptr b1) (.int .i32 e1) (ptr b2) (.int .i32 e2)
  have hre :=dec_rescale (B3 w b1 b2 e1 e2) (hg.kept hW) b2 e2 e1 Y (h2.kept hW) hY hlt l1 u2 hd
  generalize (10 ^ (e2 - e1).toNat : Nat) = T at *
  have hc0 :=box3c0 w (ptr b1) (.int .i32 e1) (ptr b2) (.int .i32 e2)
  have HS :=Lib.hid (And.intro hS (And.intro hW (And.intro hR hc0)))
  clear hS hW hR hc0
  go_enter Tryz.func72,Tryz.ntmps72
  go_wp2_with (first
    | (go_at_call 99;refine hre.mono ?_;rintro r w1 ⟨b',rfl,k1,k2⟩;have G :=Chg.size k2;rw [HS.out.1] at G;
       have p0 :=box0 w1 (ptr b') (.int .i32 e1);have p1 :=box1 w1 (ptr b') (.int .i32 e1);have KP :=boxK w1 (ptr b') (.int .i32 e1);
       have t0 :=Kept.at (kt k2 KP) HS.out.2.2.2.1;have t1 :=Kept.at (kt k2 KP) HS.out.2.2.2.2.1)
    | (refine wp_region_lit_segs (id :=3) [[0,1,2,4,5,3],[6]] mixed (by kernel_rfl) ?_;simp only [wpSegsL,gaC,gaN,lZ0,lS0,coS])
    | refine ⟨by kernel_rfl,?_⟩
    | refine ⟨by kernel_rfl,oldD (by first | assumption | exact Chg.refl _ _ | exact (Chg.refl _ _).drew | exact kt (by first | assumption | exact (Chg.refl _ _).drew | exact Chg.refl _ _) (ziK _) | exact Chg.drew (by assumption)),?_⟩
    | refine ⟨oldD (by first | assumption | exact Chg.refl _ _ | exact (Chg.refl _ _).drew | exact kt (by first | assumption | exact (Chg.refl _ _).drew | exact Chg.refl _ _) (ziK _) | exact Chg.drew (by assumption)),?_⟩
    | (with_reducible refine And.intro ?_ ?_)
    | (go_at_call 88;refine (dec_getValue _ _ _).mono ?_;rintro r w3 ⟨rfl,k⟩;have k :=k.of_drew;have K3 :=kt KP k;have q0 :=Kept.at k p0;have q1 :=Kept.at k p1)
    | (go_at_call 102;obtain ⟨sz,hsz,hc⟩ :=int_sub_y (B3 w b1 b2 e1 e2) w1 w3 b' b1 X _ k1 k2 K3 (h1.kept HS.out.2.1) hX hY2;refine hc.mono ?_;rintro r w4 ⟨rfl,d⟩;
       have hb' :=k1.at.lt;have r0 :=d.at q0 (by omega) (fun a ha => by have :=hsz a ha;omega);have r1 :=d.at q1 (by omega) (fun a ha => by have :=hsz a ha;omega);
       have S :=HS.out.2.2.1.kept d.2.1;obtain ⟨⟨u0,s0⟩,⟨u1,s1⟩,sf⟩ :=id S;have f0 :=sf 0;have f1 :=sf 1;have s2 :=cs_ne (u :=ptr b') s1 (b' :=w.heap.size + 2) (o' :=0) (by omega)))
  first
    | refine ⟨dv _ e1,results_dec rfl rfl (put2_0 S _ _) (put2_1 S _ _),_,rfl,dec_ret (by omega) ?_ HS.out.2.1 d.1 d.2.1 _ _⟩
    | refine bodyPost_ret (v :=dv _ e1) (results_dec rfl rfl (put2_0 S _ _) (put2_1 S _ _)) rfl ⟨_,rfl,dec_ret (by omega) ?_ HS.out.2.1 d.1 d.2.1 _ _⟩
  rw [HS.out.1]
  omega
theorem dec_sub_gt (w : World) (hg : Glob w) (b1 b2 : Nat) (e1 e2 X Y : Int) (h1 : IntAt w b1 X) (h2 : IntAt w b2 Y) (hX : X.natAbs < W39) (hY : Y.natAbs < W39) (hlt : e2 < e1) (l1 : -512 < e2) (u2 : e1 < 512) (hd : e1 - e2 ≤ 420) (hX2 : (X * (10 ^ (e1 - e2).toNat : Nat)).natAbs < W39) :
    Calls Tryz.prog 72 #[dv b1 e1,dv b2 e2] w (NewDec w (X * (10 ^ (e1 - e2).toNat : Nat) - Y) e2) :=by
  have hW :=box3K w (ptr b1) (.int .i32 e1) (ptr b2) (.int .i32 e2)
  have hS :=box3S w (ptr b1) (.int .i32 e1) (ptr b2) (.int .i32 e2)
  have hR :=box3R w (ptr b1) (.int .i32 e1) (ptr b2) (.int .i32 e2)
  have hre :=dec_rescale (B3 w b1 b2 e1 e2) (hg.kept hW) b1 e1 e2 X (h1.kept hW) hX hlt l1 u2 hd
  generalize (10 ^ (e1 - e2).toNat : Nat) = T at *
  have hc0 :=box3c0 w (ptr b1) (.int .i32 e1) (ptr b2) (.int .i32 e2)
  have HS :=Lib.hid (And.intro hS (And.intro hW (And.intro hR hc0)))
  have hnl : ¬ e1 < e2 :=by omega
  clear hS hW hR hc0
  go_enter Tryz.func72,Tryz.ntmps72
  go_wp2_with (first
    | (go_at_call 99;refine hre.mono ?_;rintro r w1 ⟨b',rfl,k1,k2⟩;have G :=Chg.size k2;rw [HS.out.1] at G;
       have p0 :=box0 w1 (ptr b') (.int .i32 e2);have p1 :=box1 w1 (ptr b') (.int .i32 e2);have KP :=boxK w1 (ptr b') (.int .i32 e2);
       have t0 :=Kept.at (kt k2 KP) HS.out.2.2.2.2.2.1;have t1 :=Kept.at (kt k2 KP) HS.out.2.2.2.2.2.2)
    | (refine wp_region_lit_segs (id :=7) [[0,1,2,3,4,5],[6]] mixed (by kernel_rfl) ?_;simp only [wpSegsL,gaC,gaN,lZ0,lS0,coS])
    | refine ⟨by kernel_rfl,?_⟩
    | refine ⟨by kernel_rfl,oldD (by first | assumption | exact Chg.refl _ _ | exact (Chg.refl _ _).drew | exact kt (by first | assumption | exact (Chg.refl _ _).drew | exact Chg.refl _ _) (ziK _) | exact Chg.drew (by assumption)),?_⟩
    | refine ⟨oldD (by first | assumption | exact Chg.refl _ _ | exact (Chg.refl _ _).drew | exact kt (by first | assumption | exact (Chg.refl _ _).drew | exact Chg.refl _ _) (ziK _) | exact Chg.drew (by assumption)),?_⟩
    | (with_reducible refine And.intro ?_ ?_)
    | (go_at_call 88;refine (dec_getValue _ _ _).mono ?_;rintro r w3 ⟨rfl,k⟩;have k :=k.of_drew;have K3 :=kt KP k;have q0 :=Kept.at k p0;have q1 :=Kept.at k p1)
    | (go_at_call 102;obtain ⟨sz,hsz,hc⟩ :=int_sub_x (B3 w b1 b2 e1 e2) w1 w3 b' b2 _ Y k1 k2 K3 (h2.kept HS.out.2.1) hX2 hY;refine hc.mono ?_;rintro r w4 ⟨rfl,d⟩;
       have hb' :=k1.at.lt;have r0 :=d.at q0 (by omega) (fun a ha => by have :=hsz a ha;omega);have r1 :=d.at q1 (by omega) (fun a ha => by have :=hsz a ha;omega);
       have S :=HS.out.2.2.1.kept d.2.1;obtain ⟨⟨u0,s0⟩,⟨u1,s1⟩,sf⟩ :=id S;have f0 :=sf 0;have f1 :=sf 1;have s2 :=cs_ne (u :=ptr b') s1 (b' :=w.heap.size + 2) (o' :=0) (by omega)))
  first
    | refine ⟨dv _ e2,results_dec rfl rfl (put2_0 S _ _) (put2_1 S _ _),_,rfl,dec_ret (by omega) ?_ HS.out.2.1 d.1 d.2.1 _ _⟩
    | refine bodyPost_ret (v :=dv _ e2) (results_dec rfl rfl (put2_0 S _ _) (put2_1 S _ _)) rfl ⟨_,rfl,dec_ret (by omega) ?_ HS.out.2.1 d.1 d.2.1 _ _⟩
  rw [HS.out.1]
  omega
theorem dec_sub_eq (w : World) (b1 b2 : Nat) (e1 X Y : Int) (h1 : IntAt w b1 X) (h2 : IntAt w b2 Y) (hX : X.natAbs < W39) (hY : Y.natAbs < W39) :
    Calls Tryz.prog 72 #[dv b1 e1,dv b2 e1] w (NewDec w (X - Y) e1) :=by
  have hlt1 :=h1.lt
  have hlt2 :=h2.lt
  have hW :=box3K w (ptr b1) (.int .i32 e1) (ptr b2) (.int .i32 e1)
  have hS :=box3S w (ptr b1) (.int .i32 e1) (ptr b2) (.int .i32 e1)
  have hR :=box3R w (ptr b1) (.int .i32 e1) (ptr b2) (.int .i32 e1)
  have hm : ∀ w4 bz,Kept (B3 w b1 b2 e1 e1) w4 → w.heap.size + 3 ≤ bz → ZeroInt w4 bz → Calls Tryz.prog 102 #[ptr bz,ptr b1,ptr b2] w4 fun e w' => e = .returned (ptr bz) ∧ RDone (B3 w b1 b2 e1 e1) w4 w' bz none (X - Y) :=by
    intro w4 bz q1 q2 q3
    have kw :=kt hW q1
    exact int_sub_n (B3 w b1 b2 e1 e1) w4 bz b1 b2 X Y q3 (by rw [hS];exact q2) q1 (h1.kept kw) (h2.kept kw) hX hY
  have HM :=Lib.hid hm
  have hc0 :=box3c0 w (ptr b1) (.int .i32 e1) (ptr b2) (.int .i32 e1)
  have HS :=Lib.hid (And.intro hS (And.intro hW (And.intro hR hc0)))
  clear hm hS hW hR hc0
  go_enter Tryz.func72,Tryz.ntmps72
  go_wp2_with (first
    | (refine wp_region_lit_plan (id :=9) (.seg [1,3] (.two 0 2 (.seg [2] (.seg [4] (.seg [5] (.seg [6] .fin)))) (.two 0 4 (.seg [4] (.seg [5] (.seg [6] .fin))) (.seg [0] (.seg [5] (.seg [6] .fin)))))) mixed (by kernel_rfl) ?_;simp only [wpPlanL,gaC,gaN,lZ0,lS0,coS])
    | refine ⟨by kernel_rfl,?_⟩
    | refine ⟨by kernel_rfl,oldD (by first | assumption | exact Chg.refl _ _ | exact (Chg.refl _ _).drew | exact kt (by first | assumption | exact (Chg.refl _ _).drew | exact Chg.refl _ _) (ziK _) | exact Chg.drew (by assumption)),?_⟩
    | refine ⟨oldD (by first | assumption | exact Chg.refl _ _ | exact (Chg.refl _ _).drew | exact kt (by first | assumption | exact (Chg.refl _ _).drew | exact Chg.refl _ _) (ziK _) | exact Chg.drew (by assumption)),?_⟩
    | (with_reducible refine And.intro ?_ ?_)
    | (go_at_call 88;refine (dec_getValue _ _ _).mono ?_;rintro r w1 ⟨rfl,k⟩;have K : Kept (B3 w b1 b2 e1 e1) w1 :=kt (by first | assumption | exact Chg.refl _ _ | exact (Chg.refl _ _).drew | exact kt (by first | assumption | exact (Chg.refl _ _).drew | exact Chg.refl _ _) (ziK _) | exact Chg.drew (by assumption)) k;have G : w.heap.size + 3 ≤ w1.heap.size :=(by have q :=Chg.size K;rw [HS.out.1] at q;exact q);first | have Z :=(ZeroInt.made _).kept k | have Z :=(ZeroInt.made _).kept k.of_drew | have Z :=Z.kept k | skip;clear k)
    | (go_at_call 102;refine (HM.out _ _ (by first | assumption | exact Chg.refl _ _ | exact (Chg.refl _ _).drew | exact kt (by first | assumption | exact (Chg.refl _ _).drew | exact Chg.refl _ _) (ziK _) | exact Chg.drew (by assumption)) (by omega) (by first | exact Z | exact ZeroInt.made _ | simpa using Z)).mono ?_;rintro r w5 ⟨rfl,d⟩;have K5 :=d.2.1;have S :=HS.out.2.2.1.kept d.2.1;obtain ⟨⟨u0,s0⟩,⟨u1,s1⟩,sf⟩ :=id S;have f0 :=sf 0;have f1 :=sf 1;have t1 :=Kept.at d.2.1 HS.out.2.2.2.2.1))
  all_goals
    refine ⟨dv _ e1,results_dec rfl rfl (put2_0 S _ _) (put2_1 S _ _),_,rfl,dec_ret (by omega) ?_ HS.out.2.1 d.1 d.2.1 _ _⟩
    rw [HS.out.1]
    omega
end Go.Proofs.YtfmmdamgcpiciaaGreatDoor
namespace Go.Proofs.YtfmmdamgcpiciaaGreatDoor
open Go Go.RowKit
theorem dec_fromInt (w : World) (x : Int) (h1 : -9223372036854775808 ≤ x) (h2 : x ≤ 9223372036854775807) : Calls Tryz.prog 56 #[.int .i64 x] w (NewDec w x 0) :=by
  have hn :=fun W => int_new W x h1 h2
  go_enter Tryz.func56,Tryz.ntmps56
  go_wp2_with (first
    | (go_at_call 93;refine (hn _).mono ?_;rintro r w1 ⟨b,rfl,k1,k2⟩;have S :=(Slot.made w (.pointer none) (.int .i32 0)).kept k2;obtain ⟨⟨u0,s0⟩,⟨u1,s1⟩,sf⟩ :=id S;have f0 :=sf 0;have f1 :=sf 1;have s2 :=cs_ne (u :=ptr b) s1 (b' :=w.heap.size) (o' :=0) (by omega)))
  exact bodyPost_ret (v :=dv b 0) (results_dec rfl rfl (put2_0 S _ _) (put2_1 S _ _)) rfl ⟨b,rfl,dec_ret (Nat.le_refl _) (by simp) (boxK _ _ _) k1 k2 _ _⟩
theorem dec_make (w : World) (b : Nat) (e : Int) : Calls Tryz.prog 53 #[ptr b,.int .i32 e] w fun r w' => r = .returned (dv b e) ∧ Kept w w' :=by
  go_enter Tryz.func53,Tryz.ntmps53
  go_wp2
  exact bodyPost_ret (v :=dv b e) (results_dec rfl rfl (box0 w (ptr b) (.int .i32 e)) (box1 w (ptr b) (.int .i32 e))) rfl ⟨rfl,boxK w _ _⟩
theorem dec_value (w : World) (b : Nat) (e : Int) : Calls Tryz.prog 58 #[dv b e] w fun r w' => r = .returned (ptr b) ∧ Kept w w' :=by
  go_enter Tryz.func58,Tryz.ntmps58
  go_wp2_with (go_at_call 88;refine (dec_getValue _ b e).mono ?_;rintro r w1 ⟨rfl,k⟩;have K :=Lib.hid (kt (boxK _ _ _) k);clear k)
  first | go_ret | refine ⟨_,results_tmp rfl _ _ _,?_⟩
  exact ⟨rfl,K.out⟩
theorem dec_exponent (w : World) (b : Nat) (e : Int) : Calls Tryz.prog 59 #[dv b e] w fun r w' => r = .returned (.int .i32 e) ∧ Kept w w' :=by
  go_enter Tryz.func59,Tryz.ntmps59
  go_wp2
  first | go_ret | refine ⟨_,results_tmp rfl _ _ _,?_⟩
  exact ⟨rfl,boxK _ _ _⟩
theorem dec_isZero (w : World) (b : Nat) (e X : Int) (h : IntAt w b X) : Calls Tryz.prog 64 #[dv b e] w fun r w' => r = .returned (.bool (decide (X = 0))) ∧ Kept w w' :=by
  have hs :=fun W (hW : Kept w W) => dec_sign W b e X (h.kept hW)
  have hv : (X.sign == 0) = decide (X = 0) :=by rw [Bool.eq_iff_iff];simp [Int.sign_eq_zero_iff_zero]
  generalize X.sign = g at *
  generalize decide (X = 0) = r at *
  go_enter Tryz.func64,Tryz.ntmps64
  go_wp2_with (go_at_call 90;refine (hs _ (boxK _ _ _)).mono ?_;rintro r w1 ⟨rfl,k⟩;have K :=Lib.hid (kt (boxK _ _ _) k);clear k)
  first | go_ret | refine ⟨_,results_tmp rfl _ _ _,?_⟩
  exact ⟨rfl,K.out⟩
theorem dec_isNegative (w : World) (b : Nat) (e X : Int) (h : IntAt w b X) : Calls Tryz.prog 65 #[dv b e] w fun r w' => r = .returned (.bool (decide (X < 0))) ∧ Kept w w' :=by
  have hs :=fun W (hW : Kept w W) => dec_sign W b e X (h.kept hW)
  have hv : (X.sign == -1) = decide (X < 0) :=by rw [Bool.eq_iff_iff];simp [Int.sign_eq_neg_one_iff_neg]
  generalize X.sign = g at *
  generalize decide (X < 0) = r at *
  go_enter Tryz.func65,Tryz.ntmps65
  go_wp2_with (go_at_call 90;refine (hs _ (boxK _ _ _)).mono ?_;rintro r w1 ⟨rfl,k⟩;have K :=Lib.hid (kt (boxK _ _ _) k);clear k)
  first | go_ret | refine ⟨_,results_tmp rfl _ _ _,?_⟩
  exact ⟨rfl,K.out⟩
theorem dec_neg (w : World) (b : Nat) (e X : Int) (h : IntAt w b X) : Calls Tryz.prog 66 #[dv b e] w (NewDec w (-X) e) :=by
  have hlt :=h.lt
  have hW :=box2K w (ptr b) (.int .i32 e)
  have hS :=box2S w (ptr b) (.int .i32 e)
  have hR :=box2R w (ptr b) (.int .i32 e)
  have hm : ∀ w4,Kept (Zi (Box2 w (ptr b) (.int .i32 e))) w4 → Calls Tryz.prog 86 #[ptr (w.heap.size + 2),ptr b] w4 fun r w' => r = .returned (ptr (w.heap.size + 2)) ∧ IntN (Box2 w (ptr b) (.int .i32 e)) w' (w.heap.size + 2) (-X) ∧ Kept (Box2 w (ptr b) (.int .i32 e)) w' :=by
    intro w4 q1
    have kz :=kt (ziK (Box2 w (ptr b) (.int .i32 e))) q1
    have hZ : ZeroInt (Zi (Box2 w (ptr b) (.int .i32 e))) (w.heap.size + 2) :=by rw [← hS];exact ZeroInt.made _
    exact int_neg _ w4 kz _ b (by rw [hS];omega) (hZ.kept q1) X (h.kept (kt hW kz)) (by omega)
  have hc0 :=Kept.at (boxK (Box w (ptr b) (.int .i32 e)) (.pointer none) (.int .i32 0)) (box1 w (ptr b) (.int .i32 e))
  have HM :=Lib.hid hm
  have HS :=Lib.hid (And.intro hS (And.intro hW (And.intro hR hc0)))
  clear hm hS hW hR hc0
  go_enter Tryz.func66,Tryz.ntmps66
  go_wp2_with (first
    | (go_at_call 88;refine (dec_getValue _ _ _).mono ?_;rintro r w1 ⟨rfl,k⟩;have K : Kept (Zi (Box2 w (ptr b) (.int .i32 e))) w1 :=k;have G : w.heap.size + 3 ≤ w1.heap.size :=(by have q :=Chg.size K;simp at q;omega))
    | (go_at_call 86;refine (HM.out w1 K).mono ?_;rintro r w5 ⟨rfl,k1,k2⟩;have S :=HS.out.2.2.1.kept k2;obtain ⟨⟨u0,s0⟩,⟨u1,s1⟩,sf⟩ :=id S;have f0 :=sf 0;have f1 :=sf 1;have t1 :=Kept.at k2 HS.out.2.2.2))
  first
    | refine ⟨dv _ e,results_dec rfl rfl (put2_0 S _ _) (put2_1 S _ _),_,rfl,dec_ret (by omega) ?_ HS.out.2.1 k1 k2 _ _⟩
    | refine bodyPost_ret (v :=dv _ e) (results_dec rfl rfl (put2_0 S _ _) (put2_1 S _ _)) rfl ⟨_,rfl,dec_ret (by omega) ?_ HS.out.2.1 k1 k2 _ _⟩
  rw [HS.out.1]
  omega
end Go.Proofs.YtfmmdamgcpiciaaGreatDoor
namespace Go.Proofs.YtfmmdamgcpiciaaGreatDoor
open Go Go.RowKit
theorem dec_abs (w : World) (b : Nat) (e X : Int) (h : IntAt w b X) : Calls Tryz.prog 54 #[dv b e] w fun r w' => ∃ b',r = .returned (dv b' e) ∧ IntAt w' b' X.natAbs ∧ Kept w w' :=by
  have hlt :=h.lt
  have hW :=box2K w (ptr b) (.int .i32 e)
  have hS :=box2S w (ptr b) (.int .i32 e)
  have hR :=box2R w (ptr b) (.int .i32 e)
  have hc0 :=Kept.at (boxK (Box w (ptr b) (.int .i32 e)) (.pointer none) (.int .i32 0)) (box0 w (ptr b) (.int .i32 e))
  have hc1 :=Kept.at (boxK (Box w (ptr b) (.int .i32 e)) (.pointer none) (.int .i32 0)) (box1 w (ptr b) (.int .i32 e))
  have hs :=fun W (hW : Kept w W) => dec_isNegative W b e X (h.kept hW)
  have hm : ∀ w3 w4,Kept (Box2 w (ptr b) (.int .i32 e)) w3 → Kept (Zi w3) w4 → Calls Tryz.prog 87 #[ptr w3.heap.size,ptr b] w4 fun r w' => r = .returned (ptr w3.heap.size) ∧ IntN (Box2 w (ptr b) (.int .i32 e)) w' w3.heap.size X.natAbs ∧ Kept (Box2 w (ptr b) (.int .i32 e)) w' :=by
    intro w3 w4 q0 q1
    have kz :=kt q0 (kt (ziK w3) q1)
    have g :=Chg.size q0
    rw [hS] at g
    exact int_abs _ w4 kz _ b (by rw [hS];omega) ((ZeroInt.made _).kept q1) X (h.kept (kt hW kz)) (by omega)
  have HM :=Lib.hid hm
  have HS :=Lib.hid (And.intro hS (And.intro hW (And.intro hR (And.intro hc0 hc1))))
  have HX :=Lib.hid h
  by_cases hneg : X < 0
  · have hd : decide (X < 0) = true :=by simpa using hneg
    rw [hd] at hs
    clear hm hS hW hR hc0 hc1 hd h
    go_enter Tryz.func54,Tryz.ntmps54
    go_wp2_with (first
      | (go_at_call 65;refine (hs _ (kt (boxK _ _ _) (boxK _ _ _))).mono ?_;rintro r w3 ⟨rfl,k3⟩;have t1 :=Kept.at k3 HS.out.2.2.2.1;have t2 :=Kept.at k3 HS.out.2.2.2.2;have t1z :=Kept.at (ziK w3) t1;have t2z :=Kept.at (ziK w3) t2)
      | (go_at_call 88;refine (dec_getValue _ _ _).mono ?_;rintro r w1 ⟨rfl,k⟩;have K : Kept (Zi w3) w1 :=k;have t2 :=Kept.at (kt (ziK _) K) t2)
      | (go_at_call 87;refine (HM.out w3 w1 k3 K).mono ?_;rintro r w5 ⟨rfl,k1,k2⟩;have S :=HS.out.2.2.1.kept k2;obtain ⟨⟨u0,s0⟩,⟨u1,s1⟩,sf⟩ :=id S;have f0 :=sf 0;have f1 :=sf 1;have t2 :=Kept.at k2 HS.out.2.2.2.2))
    have hd :=dec_ret (w :=w) (W :=Box2 w (ptr b) (.int .i32 e)) (r :=w.heap.size + 1) (by omega) (by rw [HS.out.1];omega) HS.out.2.1 k1 k2 (ptr w3.heap.size) (.int .i32 e)
    first
      | exact ⟨dv _ e,results_dec rfl rfl (put2_0 S _ _) (put2_1 S _ _),_,rfl,hd.1.at,hd.2⟩
      | exact bodyPost_ret (v :=dv _ e) (results_dec rfl rfl (put2_0 S _ _) (put2_1 S _ _)) rfl ⟨_,rfl,hd.1.at,hd.2⟩
  · have hd : decide (X < 0) = false :=by simpa using hneg
    rw [hd] at hs
    clear hm hS hW hR hc0 hc1 hd h
    go_enter Tryz.func54,Tryz.ntmps54
    go_wp2_with (first
      | (go_at_call 65;refine (hs _ (kt (boxK _ _ _) (boxK _ _ _))).mono ?_;rintro r w3 ⟨rfl,k3⟩;have t1 :=Kept.at k3 HS.out.2.2.2.1;have t2 :=Kept.at k3 HS.out.2.2.2.2;have S :=HS.out.2.2.1.kept k3;obtain ⟨⟨u0,s0⟩,⟨u1,s1⟩,sf⟩ :=id S;have f0 :=sf 0;have f1 :=sf 1;have s2 :=cs_ne (u :=ptr b) s1 (b' :=w.heap.size + 1) (o' :=0) (by omega)))
    have kk :=(kt HS.out.2.1 k3).keptNew (put2_chg w3 (w.heap.size + 1) (ptr b) (.int .i32 e)) (fun b' _ h => by omega)
    have hX :=HX.out.kept kk
    have e1 : X = ((X.natAbs : Nat) : Int) :=by omega
    first
      | exact ⟨dv b e,results_dec rfl rfl (put2_0 S _ _) (put2_1 S _ _),_,rfl,e1 ▸ hX,kk⟩
      | exact bodyPost_ret (v :=dv b e) (results_dec rfl rfl (put2_0 S _ _) (put2_1 S _ _)) rfl ⟨_,rfl,e1 ▸ hX,kk⟩
abbrev Bx2 (w : World) (a0 a1 b0 b1 : Value) : World :=Box (Box w a0 a1) b0 b1
theorem bx2K (w : World) (a0 a1 b0 b1 : Value) : Kept w (Bx2 w a0 a1 b0 b1) :=kt (boxK _ _ _) (boxK _ _ _)
theorem bx2S (w : World) (a0 a1 b0 b1 : Value) : (Bx2 w a0 a1 b0 b1).heap.size = w.heap.size + 2 :=by simp
theorem bx2c (w : World) (a0 a1 b0 b1 : Value) : (Bx2 w a0 a1 b0 b1).cell? ⟨w.heap.size,0,none⟩ = some a0 ∧ (Bx2 w a0 a1 b0 b1).cell? ⟨w.heap.size,1,none⟩ = some a1 ∧ (Bx2 w a0 a1 b0 b1).cell? ⟨w.heap.size + 1,0,none⟩ = some b0 ∧ (Bx2 w a0 a1 b0 b1).cell? ⟨w.heap.size + 1,1,none⟩ = some b1 :=by
  have k1 :=boxK (Box w a0 a1) b0 b1
  have c0 :=box0 (Box w a0 a1) b0 b1
  have c1 :=box1 (Box w a0 a1) b0 b1
  rw [boxS] at c0 c1
  exact ⟨Kept.at k1 (box0 w a0 a1),Kept.at k1 (box1 w a0 a1),c0,c1⟩
theorem dec_cmp_eq (w : World) (b1 b2 : Nat) (e X Y : Int) (h1 : IntAt w b1 X) (h2 : IntAt w b2 Y) : Calls Tryz.prog 55 #[dv b1 e,dv b2 e] w fun r w' => r = .returned (.int .i64 (cmpZ X Y)) ∧ Kept w w' :=by
  have hW :=bx2K w (ptr b1) (.int .i32 e) (ptr b2) (.int .i32 e)
  have hc :=bx2c w (ptr b1) (.int .i32 e) (ptr b2) (.int .i32 e)
  have hm :=fun W (hW : Kept w W) => int_cmp W b1 b2 X Y (h1.kept hW) (h2.kept hW)
  have HS :=Lib.hid (And.intro hW hc)
  clear hW hc
  go_enter Tryz.func55,Tryz.ntmps55
  go_wp2_with (first
    | (refine wp_region_lit_segs (id :=2) [[0,2,1],[3,4,5]] mixed (by kernel_rfl) ?_;simp only [wpSegsL,gaC,gaN,lZ0,lS0,coS])
    | refine ⟨by kernel_rfl,?_⟩
    | refine ⟨by kernel_rfl,oldD (by first | assumption | exact Chg.refl _ _ | exact (Chg.refl _ _).drew | exact kt (by first | assumption | exact (Chg.refl _ _).drew | exact Chg.refl _ _) (ziK _) | exact Chg.drew (by assumption)),?_⟩
    | refine ⟨oldD (by first | assumption | exact Chg.refl _ _ | exact (Chg.refl _ _).drew | exact kt (by first | assumption | exact (Chg.refl _ _).drew | exact Chg.refl _ _) (ziK _) | exact Chg.drew (by assumption)),?_⟩
    | (with_reducible refine And.intro ?_ ?_)
    | (go_at_call 88;refine (dec_getValue _ _ _).mono ?_;rintro r w1 ⟨rfl,k⟩;have K : Kept (Bx2 w (ptr b1) (.int .i32 e) (ptr b2) (.int .i32 e)) w1 :=kt (by first | assumption | exact Chg.refl _ _ | exact (Chg.refl _ _).drew | exact kt (by first | assumption | exact (Chg.refl _ _).drew | exact Chg.refl _ _) (ziK _) | exact Chg.drew (by assumption)) k)
    | (go_at_call 89;refine (hm _ (kt HS.out.1 (by first | assumption | exact Chg.refl _ _ | exact (Chg.refl _ _).drew | exact kt (by first | assumption | exact (Chg.refl _ _).drew | exact Chg.refl _ _) (ziK _) | exact Chg.drew (by assumption)))).mono ?_;rintro r w2 ⟨rfl,k⟩;have K :=kt K k;have KK :=Lib.hid (kt HS.out.1 K)))
  first | go_ret | refine ⟨_,results_tmp rfl _ _ _,?_⟩
  exact ⟨rfl,KK.out⟩
end Go.Proofs.YtfmmdamgcpiciaaGreatDoor
namespace Go.Proofs.YtfmmdamgcpiciaaGreatDoor
open Go Go.RowKit
theorem sign_lt {A B : Int} (h : A.sign < B.sign) : A < B :=by
  have a1 : A.sign = -1 ∧ A < 0 ∨ A.sign = 0 ∧ A = 0 ∨ A.sign = 1 ∧ 0 < A :=by
    rcases Int.lt_trichotomy A 0 with h | h | h
    · exact .inl ⟨Int.sign_eq_neg_one_of_neg h,h⟩
    · exact .inr (.inl ⟨by rw [h];rfl,h⟩)
    · exact .inr (.inr ⟨Int.sign_eq_one_of_pos h,h⟩)
  have a2 : B.sign = -1 ∧ B < 0 ∨ B.sign = 0 ∧ B = 0 ∨ B.sign = 1 ∧ 0 < B :=by
    rcases Int.lt_trichotomy B 0 with h | h | h
    · exact .inl ⟨Int.sign_eq_neg_one_of_neg h,h⟩
    · exact .inr (.inl ⟨by rw [h];rfl,h⟩)
    · exact .inr (.inr ⟨Int.sign_eq_one_of_pos h,h⟩)
  omega
theorem dec_cmp_zero (T : Nat) : cmpZ 0 (0 * (T : Int)) = 0 ∧ cmpZ (0 * (T : Int)) 0 = 0 :=by simp [cmpZ]
theorem dec_cmp_lt_val (X Y : Int) (T : Nat) (hT : 0 < T) (hs : X.sign ≠ Y.sign) : cmpZ X (Y * (T : Int)) = if Y.sign < X.sign then 1 else -1 :=by
  have hT' : (0 : Int) < (T : Int) :=by omega
  have sg : (Y * (T : Int)).sign = Y.sign :=by rw [Int.sign_mul,Int.sign_eq_one_of_pos hT',Int.mul_one]
  generalize Y * (T : Int) = Z at *
  unfold cmpZ
  rcases Int.lt_or_gt_of_ne hs with h | h
  · have :=sign_lt (show X.sign < Z.sign by omega)
    rw [if_pos this,if_neg (by omega)]
  · have :=sign_lt (show Z.sign < X.sign by omega)
    rw [if_neg (by omega),if_pos this,if_pos h]
theorem dec_cmp_lt (w : World) (hg : Glob w) (b1 b2 : Nat) (e1 e2 X Y : Int) (h1 : IntAt w b1 X) (h2 : IntAt w b2 Y) (hX : X.natAbs < W39) (hY : Y.natAbs < W39) (hlt : e1 < e2) (l1 : -1000000 ≤ e1) (u1 : e1 ≤ 1000000) (l2 : -1000000 ≤ e2) (u2 : e2 ≤ 1000000) (hd : e2 - e1 ≤ 420) :
    Calls Tryz.prog 55 #[dv b1 e1,dv b2 e2] w fun r w' => r = .returned (.int .i64 (cmpZ X (Y * (10 ^ (e2 - e1).toNat : Nat)))) ∧ Kept w w' :=by
  have hlt1 :=h1.lt
  have hlt2 :=h2.lt
  have hW :=bx2K w (ptr b1) (.int .i32 e1) (ptr b2) (.int .i32 e2)
  have hS :=bx2S w (ptr b1) (.int .i32 e1) (ptr b2) (.int .i32 e2)
  have hc :=bx2c w (ptr b1) (.int .i32 e1) (ptr b2) (.int .i32 e2)
  have hs1 :=fun W (hW : Kept w W) => dec_sign W b1 e1 X (h1.kept hW)
  have hs2 :=fun W (hW : Kept w W) => dec_sign W b2 e2 Y (h2.kept hW)
  have hT : 0 < 10 ^ (e2 - e1).toNat :=Nat.pow_pos (by omega)
  have hval :=dec_cmp_lt_val X Y (10 ^ (e2 - e1).toNat) hT
  have hne : (e1 == e2) = false :=by simp;omega
  have hnl : (e2 - e1).toNat ≤ 420 :=by omega
  have hde : e2 - e1 = (((e2 - e1).toNat : Nat) : Int) :=by omega
  have hT2 : 10 ^ (e2 - e1).toNat < W39 :=Nat.lt_of_lt_of_le (pow10_lt2 hnl) (Nat.pow_le_pow_right (by decide) (by decide))
  have hp :=fun W (hW : Kept w W) => pow10 W (hg.kept hW) (e2 - e1).toNat hnl
  rw [← hde] at hp
  generalize (e2 - e1).toNat = n at *
  have hm : ∀ w3 w4 b',Kept w w3 → Kept (Zi w3) w4 → w3.heap.size < b' → IntAt w4 b' (10 ^ n : Nat) → Calls Tryz.prog 91 #[ptr w3.heap.size,ptr b2,ptr b'] w4 fun r w' => r = .returned (ptr w3.heap.size) ∧ IntN w3 w' w3.heap.size (Y * (10 ^ n : Nat)) ∧ Kept w3 w' :=by
    intro w3 w4 b' q0 q1 q2 q3
    have kz :=kt (ziK w3) q1
    have g :=Chg.size q0
    exact int_Mul w3 w4 (hg.kept (kt q0 kz)) kz _ b2 b' (Nat.le_refl _) ((ZeroInt.made _).kept q1) Y _ (h2.kept (kt q0 kz)) q3 (by omega) (by omega) (fun e => by omega) hY (by rw [Int.natAbs_natCast];exact hT2)
  have hz :=dec_cmp_zero (10 ^ n)
  generalize (10 ^ n : Nat) = T at *
  have HM :=Lib.hid hm
  have HS :=Lib.hid (And.intro hW (And.intro hS hc))
  have H1 :=Lib.hid h1
  have H2 :=Lib.hid h2
  clear hm hW hS hc hT hT2 h1 h2 hde
  by_cases hs : X.sign = Y.sign
  · by_cases h0 : X.sign = 0
    · have hv : cmpZ X (Y * (T : Int)) = 0 :=by
        have e1 : X = 0 :=Int.sign_eq_zero_iff_zero.1 h0
        have e2 : Y = 0 :=Int.sign_eq_zero_iff_zero.1 (hs ▸ h0)
        subst e1
        subst e2
        exact hz.1
      rw [hv]
      rw [h0] at hs1
      rw [← hs,h0] at hs2
      clear hv hval hs h0 hz
      go_enter Tryz.func55,Tryz.ntmps55
      go_wp2_with (first
        | (refine wp_region_lit_segs (id :=3) [[0,2,1],[3,4,5]] mixed (by kernel_rfl) ?_;simp only [wpSegsL,gaC,gaN,lZ0,lS0,coS])
        | refine ⟨by kernel_rfl,?_⟩
        | refine ⟨by kernel_rfl,oldD (by first | assumption | exact Chg.refl _ _ | exact (Chg.refl _ _).drew | exact kt (by first | assumption | exact (Chg.refl _ _).drew | exact Chg.refl _ _) (ziK _) | exact Chg.drew (by assumption)),?_⟩
        | refine ⟨oldD (by first | assumption | exact Chg.refl _ _ | exact (Chg.refl _ _).drew | exact kt (by first | assumption | exact (Chg.refl _ _).drew | exact Chg.refl _ _) (ziK _) | exact Chg.drew (by assumption)),?_⟩
        | (with_reducible refine And.intro ?_ ?_)
        | (go_at_call 90;first | ((with_reducible refine (hs1 _ (kt HS.out.1 (Chg.refl _ _).drew)).mono ?_);rintro r w1 ⟨rfl,k⟩;have K : Kept (Bx2 w (ptr b1) (.int .i32 e1) (ptr b2) (.int .i32 e2)) w1 :=kt (by first | assumption | exact Chg.refl _ _ | exact (Chg.refl _ _).drew | exact kt (by first | assumption | exact (Chg.refl _ _).drew | exact Chg.refl _ _) (ziK _) | exact Chg.drew (by assumption)) k) | (refine (hs2 _ (kt HS.out.1 K)).mono ?_;rintro r w2 ⟨rfl,k⟩;have KK :=Lib.hid (kt HS.out.1 (kt K k)))))
      first | go_ret | refine ⟨_,results_tmp rfl _ _ _,?_⟩
      exact ⟨rfl,KK.out⟩
    · rw [← hs] at hs2
      have hg0 : (X.sign == 0) = false :=by simpa using h0
      generalize X.sign = g at *
      clear hval hs h0 hz
      go_enter Tryz.func55,Tryz.ntmps55
      go_wp2_with (first
        | (refine wp_region_lit_segs (id :=3) [[0,2,1],[3,4,5]] mixed (by kernel_rfl) ?_;simp only [wpSegsL,gaC,gaN,lZ0,lS0,coS])
        | (refine wp_region_lit_segs (id :=12) [[0,2,4,5,6,7,8,9,10,1],[3],[11,12,13,14]] mixed (by kernel_rfl) ?_;simp only [wpSegsL,gaC,gaN,lZ0,lS0,coS])
        | refine ⟨by kernel_rfl,?_⟩
        | refine ⟨by kernel_rfl,oldD (by first | assumption | exact Chg.refl _ _ | exact (Chg.refl _ _).drew | exact kt (by first | assumption | exact (Chg.refl _ _).drew | exact Chg.refl _ _) (ziK _) | exact Chg.drew (by assumption)),?_⟩
        | refine ⟨oldD (by first | assumption | exact Chg.refl _ _ | exact (Chg.refl _ _).drew | exact kt (by first | assumption | exact (Chg.refl _ _).drew | exact Chg.refl _ _) (ziK _) | exact Chg.drew (by assumption)),?_⟩
        | (with_reducible refine And.intro ?_ ?_)
        | (go_at_call 90;first | ((with_reducible refine (hs1 _ (kt HS.out.1 (Chg.refl _ _).drew)).mono ?_);rintro r w1 ⟨rfl,k⟩;have K : Kept (Bx2 w (ptr b1) (.int .i32 e1) (ptr b2) (.int .i32 e2)) w1 :=kt (by first | assumption | exact Chg.refl _ _ | exact (Chg.refl _ _).drew | exact kt (by first | assumption | exact (Chg.refl _ _).drew | exact Chg.refl _ _) (ziK _) | exact Chg.drew (by assumption)) k) | (refine (hs2 _ (kt HS.out.1 K)).mono ?_;rintro r w2 ⟨rfl,k⟩;have K2 :=kt K k;have t0 :=Kept.at K2 HS.out.2.2.1;have t1 :=Kept.at K2 HS.out.2.2.2.1;have t2 :=Kept.at K2 HS.out.2.2.2.2.1;have t3 :=Kept.at K2 HS.out.2.2.2.2.2;have u0 :=Kept.at (ziK w2) t0;have u1 :=Kept.at (ziK w2) t1;have u2 :=Kept.at (ziK w2) t2;have u3 :=Kept.at (ziK w2) t3;have K3 : Kept (Zi w2) (Zi w2).drew :=(Chg.refl _ _).drew;clear K))
        | (go_at_call 88;refine (dec_getValue _ _ _).mono ?_;rintro r w3 ⟨rfl,k⟩;have K4 : Kept (Zi w2) w3 :=kt (by assumption) k;clear K3;have K3 :=K4;clear K4 k)
        | (go_at_call 92;refine (hp _ (kt (kt HS.out.1 K2) (kt (ziK w2) K3))).mono ?_;rintro r w5 ⟨b5,rfl,p1,p2⟩;have K5 :=kt K3 p2)
        | (go_at_call 91;refine (HM.out w2 w5 b5 (kt HS.out.1 K2) K5 (by have q :=p1.ge;have q2 :=Chg.size K3;simp at q2;omega) p1.at).mono ?_;rintro r w6 ⟨rfl,p3,p4⟩)
        | (go_at_call 89;refine (int_cmp w6 _ _ _ _ ((H1.out.kept (kt (kt HS.out.1 K2) p4))) p3.at).mono ?_;rintro r w7 ⟨rfl,p5⟩;have KK :=Lib.hid (kt (kt HS.out.1 K2) (kt p4 p5))))
      first | go_ret | refine ⟨_,results_tmp rfl _ _ _,?_⟩
      exact ⟨rfl,KK.out⟩
  · rw [hval hs]
    have hgl : (X.sign != Y.sign) = true :=by simpa using hs
    have hx3 :=Int.sign_trichotomy X
    generalize X.sign = g at *
    generalize Y.sign = g2 at *
    by_cases hg2 : g2 < g
    · rw [if_pos hg2]
      clear hval hs hz hx3
      go_enter Tryz.func55,Tryz.ntmps55
      go_wp2_with (first
        | (refine wp_region_lit_segs (id :=3) [[0,2,1],[3,4,5]] mixed (by kernel_rfl) ?_;simp only [wpSegsL,gaC,gaN,lZ0,lS0,coS])
        | refine ⟨by kernel_rfl,?_⟩
        | refine ⟨by kernel_rfl,oldD (by first | assumption | exact Chg.refl _ _ | exact (Chg.refl _ _).drew | exact kt (by first | assumption | exact (Chg.refl _ _).drew | exact Chg.refl _ _) (ziK _) | exact Chg.drew (by assumption)),?_⟩
        | refine ⟨oldD (by first | assumption | exact Chg.refl _ _ | exact (Chg.refl _ _).drew | exact kt (by first | assumption | exact (Chg.refl _ _).drew | exact Chg.refl _ _) (ziK _) | exact Chg.drew (by assumption)),?_⟩
        | (with_reducible refine And.intro ?_ ?_)
        | (go_at_call 90;first | ((with_reducible refine (hs1 _ (kt HS.out.1 (Chg.refl _ _).drew)).mono ?_);rintro r w1 ⟨rfl,k⟩;have K : Kept (Bx2 w (ptr b1) (.int .i32 e1) (ptr b2) (.int .i32 e2)) w1 :=kt (by first | assumption | exact Chg.refl _ _ | exact (Chg.refl _ _).drew | exact kt (by first | assumption | exact (Chg.refl _ _).drew | exact Chg.refl _ _) (ziK _) | exact Chg.drew (by assumption)) k) | (refine (hs2 _ (kt HS.out.1 K)).mono ?_;rintro r w2 ⟨rfl,k⟩;have KK :=Lib.hid (kt HS.out.1 (kt K k)))))
      first | go_ret | refine ⟨_,results_tmp rfl _ _ _,?_⟩
      exact ⟨rfl,KK.out⟩
    · rw [if_neg hg2]
      clear hval hs hz hx3
      go_enter Tryz.func55,Tryz.ntmps55
      go_wp2_with (first
        | (refine wp_region_lit_segs (id :=3) [[0,2,1],[3,4,5]] mixed (by kernel_rfl) ?_;simp only [wpSegsL,gaC,gaN,lZ0,lS0,coS])
        | refine ⟨by kernel_rfl,?_⟩
        | refine ⟨by kernel_rfl,oldD (by first | assumption | exact Chg.refl _ _ | exact (Chg.refl _ _).drew | exact kt (by first | assumption | exact (Chg.refl _ _).drew | exact Chg.refl _ _) (ziK _) | exact Chg.drew (by assumption)),?_⟩
        | refine ⟨oldD (by first | assumption | exact Chg.refl _ _ | exact (Chg.refl _ _).drew | exact kt (by first | assumption | exact (Chg.refl _ _).drew | exact Chg.refl _ _) (ziK _) | exact Chg.drew (by assumption)),?_⟩
        | (with_reducible refine And.intro ?_ ?_)
        | (go_at_call 90;first | ((with_reducible refine (hs1 _ (kt HS.out.1 (Chg.refl _ _).drew)).mono ?_);rintro r w1 ⟨rfl,k⟩;have K : Kept (Bx2 w (ptr b1) (.int .i32 e1) (ptr b2) (.int .i32 e2)) w1 :=kt (by first | assumption | exact Chg.refl _ _ | exact (Chg.refl _ _).drew | exact kt (by first | assumption | exact (Chg.refl _ _).drew | exact Chg.refl _ _) (ziK _) | exact Chg.drew (by assumption)) k) | (refine (hs2 _ (kt HS.out.1 K)).mono ?_;rintro r w2 ⟨rfl,k⟩;have KK :=Lib.hid (kt HS.out.1 (kt K k)))))
      first | go_ret | refine ⟨_,results_tmp rfl _ _ _,?_⟩
      exact ⟨rfl,KK.out⟩
end Go.Proofs.YtfmmdamgcpiciaaGreatDoor
namespace Go.Proofs.YtfmmdamgcpiciaaGreatDoor
open Go Go.RowKit
structure DivNums (B d m x1 x0 : Nat) (a1 a0 s0 c q e1 e0 r0 b r1 : Nat) : Prop where
  mul : a1 = m * x1 / B ∧ a0 = m * x1 % B
  sum : s0 = (a0 + x0) % B ∧ c = (a0 + x0) / B
  quo : q = (a1 + x1 + c) % B
  prod : e1 = d * q / B ∧ e0 = d * q % B
  dif : r0 = (x0 + B - e0) % B ∧ b = if x0 < e0 then 1 else 0
  dif1 : r1 = (x1 + B - e1 - b) % B
theorem div_nums {B d m x1 x0 a1 a0 s0 c q e1 e0 r0 b r1 : Nat} (h : DivNums B d m x1 x0 a1 a0 s0 c q e1 e0 r0 b r1) (hB2 : B ≤ 2 * d) (hdB : d < B) (hm : (B * B - 1) / d = m + B) (hx1 : x1 < d) (hx0 : x0 < B) :
    q * d ≤ x1 * B + x0 ∧ x1 * B + x0 < q * d + (B + d) ∧ r1 * B + r0 + q * d = x1 * B + x0 ∧ r1 ≤ 1 ∧ r0 < B ∧ q < B ∧ c ≤ 1 ∧ b ≤ 1 ∧ a1 < B ∧ e1 < B :=by
  have hd0 : 0 < d :=by omega
  have hB0 : 0 < B :=by omega
  obtain ⟨k1,k2⟩ :=Plain.recip_bounds hd0 hB0 hm
  obtain ⟨⟨ha1,ha0⟩,⟨hs0,hc⟩,hq,⟨he1,he0⟩,⟨hr0,hb⟩,hr1⟩ :=h
  have hd1 : m * x1 = a1 * B + a0 :=by rw [ha1,ha0,Nat.mul_comm (m * x1 / B)];exact (Nat.div_add_mod _ _).symm
  have ha0B : a0 < B :=by rw [ha0];exact Nat.mod_lt _ hB0
  have hd2 : a0 + x0 = c * B + s0 :=by rw [hc,hs0,Nat.mul_comm ((a0 + x0) / B)];exact (Nat.div_add_mod _ _).symm
  have hs0B : s0 < B :=by rw [hs0];exact Nat.mod_lt _ hB0
  have hc1 : c ≤ 1 :=by
    have : c < 2 :=by rw [hc,Nat.div_lt_iff_lt_mul hB0];omega
    omega
  have ht : x1 * (m + B) + x0 = (a1 + x1 + c) * B + s0 :=by
    rw [Nat.mul_add,Nat.mul_comm x1 m,hd1,Nat.add_mul,Nat.add_mul];omega
  have hlow :=Plain.recip_low (x1 :=x1) (x0 :=x0) (q :=a1 + x1 + c) (by omega) hB0 k1 (by omega)
  have hhigh :=Plain.recip_high (x1 :=x1) (x0 :=x0) (q :=a1 + x1 + c) hd0 hdB k2 hx1 hx0 (by rw [Nat.add_mul (a1 + x1 + c),Nat.one_mul];omega)
  have hX : x1 * B + x0 < d * B :=by
    have :=Nat.mul_le_mul_right B (show x1 + 1 ≤ d from hx1)
    rw [Nat.add_mul,Nat.one_mul] at this
    omega
  have hqB : a1 + x1 + c < B :=by
    have h1 : (a1 + x1 + c) * d < B * d :=by rw [Nat.mul_comm B];exact Nat.lt_of_le_of_lt hlow hX
    exact Nat.lt_of_mul_lt_mul_right h1
  rw [Nat.mod_eq_of_lt hqB] at hq
  rw [← hq] at hlow hhigh hqB
  have hd3 : q * d = e1 * B + e0 :=by rw [he1,he0,Nat.mul_comm (d * q / B),Nat.mul_comm q];exact (Nat.div_add_mod _ _).symm
  have he0B : e0 < B :=by rw [he0];exact Nat.mod_lt _ hB0
  have ha1B : a1 < B :=by omega
  have hb1 : b ≤ 1 :=by rw [hb];split <;> omega
  have hr0B : r0 < B :=by rw [hr0];exact Nat.mod_lt _ hB0
  have hrr : r0 + e0 = x0 + b * B :=by
    rw [hr0,hb]
    split
    · rw [Nat.mod_eq_of_lt (by omega)];omega
    · rw [show x0 + B - e0 = x0 - e0 + B by omega,Nat.add_mod_right,Nat.mod_eq_of_lt (by omega)];omega
  -- x1 - e1 - b is 0 or 1
  have key : e1 + b ≤ x1 ∧ x1 ≤ e1 + b + 1 :=by
    rw [hd3] at hlow hhigh
    constructor
    · have h1 : (e1 + b) * B < (x1 + 1) * B :=by rw [Nat.add_mul,Nat.add_mul,Nat.one_mul];omega
      have :=Nat.lt_of_mul_lt_mul_right h1
      omega
    · have h1 : x1 * B < (e1 + b + 2) * B :=by rw [Nat.add_mul,Nat.add_mul];omega
      have :=Nat.lt_of_mul_lt_mul_right h1
      omega
  have hr1' : r1 = x1 - e1 - b :=by
    rw [hr1,show x1 + B - e1 - b = (x1 - e1 - b) + B by omega,Nat.add_mod_right,Nat.mod_eq_of_lt (by omega)]
  have he1B : e1 < B :=by omega
  refine ⟨hlow,hhigh,?_,by omega,hr0B,hqB,hc1,hb1,ha1B,he1B⟩
  obtain ⟨k,hk⟩ : ∃ k,x1 = e1 + b + k :=⟨x1 - e1 - b,by omega⟩
  have hk2 : r1 = k :=by omega
  rw [hd3,hk2,hk,Nat.add_mul,Nat.add_mul]
  omega
end Go.Proofs.YtfmmdamgcpiciaaGreatDoor
namespace Go.Proofs.YtfmmdamgcpiciaaGreatDoor
open Go Go.RowKit
theorem divWW_z00 (x1 x0 y m z X1 X0 D a1 a0 s0 c q e1 e0 r0 b r1 xh xl g1 g2 : Nat) (B1 : x1 < 18446744073709551616) (B2 : x0 < 18446744073709551616) (B3 : y < 18446744073709551616) (B4 : z ≤ 63) (B5 : X1 < 18446744073709551616) (B6 : X0 < 18446744073709551616) (B7 : D < 18446744073709551616) (B8 : q + 0 < 18446744073709551616) (B9 : r0 < 18446744073709551616)
    (hz : ∀ w,Calls Tryz.prog 185 #[.int .u64 y] w fun e w' => e = .returned (.int .u64 (z : Nat)) ∧ w' = w) (hzz : z = 0) (hX : X1 = x1 ∧ X0 = x0 ∧ D = y) (hr1 : r1 = 0) (hcmp : r0 < D)
    (c1 : ∀ w,Calls Tryz.prog 168 #[.int .u64 m,.int .u64 X1] w fun e w' => e = .returned (.tuple #[.int .u64 a1,.int .u64 a0]) ∧ w' = w)
    (c2 : ∀ w,Calls Tryz.prog 163 #[.int .u64 a0,.int .u64 X0,.int .u64 0] w fun e w' => e = .returned (.tuple #[.int .u64 s0,.int .u64 c]) ∧ w' = w)
    (c3 : ∀ w,Calls Tryz.prog 163 #[.int .u64 a1,.int .u64 X1,.int .u64 c] w fun e w' => e = .returned (.tuple #[.int .u64 q,.int .u64 g1]) ∧ w' = w)
    (c4 : ∀ w,Calls Tryz.prog 168 #[.int .u64 D,.int .u64 q] w fun e w' => e = .returned (.tuple #[.int .u64 e1,.int .u64 e0]) ∧ w' = w)
    (c5 : ∀ w,Calls Tryz.prog 165 #[.int .u64 X0,.int .u64 e0,.int .u64 0] w fun e w' => e = .returned (.tuple #[.int .u64 r0,.int .u64 b]) ∧ w' = w)
    (c6 : ∀ w,Calls Tryz.prog 165 #[.int .u64 X1,.int .u64 e1,.int .u64 b] w fun e w' => e = .returned (.tuple #[.int .u64 r1,.int .u64 g2]) ∧ w' = w) (w : World) :
    Calls Tryz.prog 228 #[.int .u64 x1,.int .u64 x0,.int .u64 y,.int .u64 m] w fun e w' => e = .returned (.tuple #[.int .u64 ((q : Int)),.int .u64 ((r0 : Int) / 2 ^ z)]) ∧ w' = w :=by
  obtain ⟨rfl,rfl,rfl⟩ :=hX
  subst hzz
  subst hr1
  go_enter Tryz.func228,Tryz.ntmps228
  go_wp2_with (first
    | (go_at_call 185;refine (hz _).mono ?_;rintro e w1 ⟨rfl,hw⟩;rw [hw];clear hw)
    | (go_at_call 168;first | ((with_reducible refine (c1 _).mono ?_);rintro e w1 ⟨rfl,hw⟩;rw [hw];clear hw) | ((with_reducible refine (c4 _).mono ?_);rintro e w1 ⟨rfl,hw⟩;rw [hw];clear hw))
    | (go_at_call 163;first | ((with_reducible refine (c2 _).mono ?_);rintro e w1 ⟨rfl,hw⟩;rw [hw];clear hw) | ((with_reducible refine (c3 _).mono ?_);rintro e w1 ⟨rfl,hw⟩;rw [hw];clear hw))
    | (go_at_call 165;first | ((with_reducible refine (c5 _).mono ?_);rintro e w1 ⟨rfl,hw⟩;rw [hw];clear hw) | ((with_reducible refine (c6 _).mono ?_);rintro e w1 ⟨rfl,hw⟩;rw [hw];clear hw)))
  first | go_ret2 | refine ⟨_,results_tmp2 rfl _ _ _,?_⟩
  exact ⟨by first | rfl | simp,rfl⟩
theorem divWW_z01 (x1 x0 y m z X1 X0 D a1 a0 s0 c q e1 e0 r0 b r1 xh xl g1 g2 : Nat) (B1 : x1 < 18446744073709551616) (B2 : x0 < 18446744073709551616) (B3 : y < 18446744073709551616) (B4 : z ≤ 63) (B5 : X1 < 18446744073709551616) (B6 : X0 < 18446744073709551616) (B7 : D < 18446744073709551616) (B8 : q + 1 < 18446744073709551616) (B9 : r0 < 18446744073709551616)
    (hz : ∀ w,Calls Tryz.prog 185 #[.int .u64 y] w fun e w' => e = .returned (.int .u64 (z : Nat)) ∧ w' = w) (hzz : z = 0) (hX : X1 = x1 ∧ X0 = x0 ∧ D = y) (hr1 : r1 = 0) (hcmp : D ≤ r0)
    (c1 : ∀ w,Calls Tryz.prog 168 #[.int .u64 m,.int .u64 X1] w fun e w' => e = .returned (.tuple #[.int .u64 a1,.int .u64 a0]) ∧ w' = w)
    (c2 : ∀ w,Calls Tryz.prog 163 #[.int .u64 a0,.int .u64 X0,.int .u64 0] w fun e w' => e = .returned (.tuple #[.int .u64 s0,.int .u64 c]) ∧ w' = w)
    (c3 : ∀ w,Calls Tryz.prog 163 #[.int .u64 a1,.int .u64 X1,.int .u64 c] w fun e w' => e = .returned (.tuple #[.int .u64 q,.int .u64 g1]) ∧ w' = w)
    (c4 : ∀ w,Calls Tryz.prog 168 #[.int .u64 D,.int .u64 q] w fun e w' => e = .returned (.tuple #[.int .u64 e1,.int .u64 e0]) ∧ w' = w)
    (c5 : ∀ w,Calls Tryz.prog 165 #[.int .u64 X0,.int .u64 e0,.int .u64 0] w fun e w' => e = .returned (.tuple #[.int .u64 r0,.int .u64 b]) ∧ w' = w)
    (c6 : ∀ w,Calls Tryz.prog 165 #[.int .u64 X1,.int .u64 e1,.int .u64 b] w fun e w' => e = .returned (.tuple #[.int .u64 r1,.int .u64 g2]) ∧ w' = w) (w : World) :
    Calls Tryz.prog 228 #[.int .u64 x1,.int .u64 x0,.int .u64 y,.int .u64 m] w fun e w' => e = .returned (.tuple #[.int .u64 ((q : Int) + 1),.int .u64 (((r0 : Int) - (D : Int)) / 2 ^ z)]) ∧ w' = w :=by
  obtain ⟨rfl,rfl,rfl⟩ :=hX
  subst hzz
  subst hr1
  go_enter Tryz.func228,Tryz.ntmps228
  go_wp2_with (first
    | (go_at_call 185;refine (hz _).mono ?_;rintro e w1 ⟨rfl,hw⟩;rw [hw];clear hw)
    | (go_at_call 168;first | ((with_reducible refine (c1 _).mono ?_);rintro e w1 ⟨rfl,hw⟩;rw [hw];clear hw) | ((with_reducible refine (c4 _).mono ?_);rintro e w1 ⟨rfl,hw⟩;rw [hw];clear hw))
    | (go_at_call 163;first | ((with_reducible refine (c2 _).mono ?_);rintro e w1 ⟨rfl,hw⟩;rw [hw];clear hw) | ((with_reducible refine (c3 _).mono ?_);rintro e w1 ⟨rfl,hw⟩;rw [hw];clear hw))
    | (go_at_call 165;first | ((with_reducible refine (c5 _).mono ?_);rintro e w1 ⟨rfl,hw⟩;rw [hw];clear hw) | ((with_reducible refine (c6 _).mono ?_);rintro e w1 ⟨rfl,hw⟩;rw [hw];clear hw)))
  first | go_ret2 | refine ⟨_,results_tmp2 rfl _ _ _,?_⟩
  exact ⟨by first | rfl | simp,rfl⟩
theorem divWW_z10 (x1 x0 y m z X1 X0 D a1 a0 s0 c q e1 e0 r0 b r1 xh xl g1 g2 : Nat) (B1 : x1 < 18446744073709551616) (B2 : x0 < 18446744073709551616) (B3 : y < 18446744073709551616) (B4 : z ≤ 63) (B5 : X1 < 18446744073709551616) (B6 : X0 < 18446744073709551616) (B7 : D < 18446744073709551616) (B8 : q + 1 < 18446744073709551616) (B9 : r0 < 18446744073709551616)
    (hz : ∀ w,Calls Tryz.prog 185 #[.int .u64 y] w fun e w' => e = .returned (.int .u64 (z : Nat)) ∧ w' = w) (hzz : z = 0) (hX : X1 = x1 ∧ X0 = x0 ∧ D = y) (ρ : Nat) (hρ : IntKind.u64.wrap ((r0 : Int) - (D : Int)) = (ρ : Nat)) (hρB : ρ < 18446744073709551616) (hr1 : r1 = 1) (hcmp : ρ < D)
    (c1 : ∀ w,Calls Tryz.prog 168 #[.int .u64 m,.int .u64 X1] w fun e w' => e = .returned (.tuple #[.int .u64 a1,.int .u64 a0]) ∧ w' = w)
    (c2 : ∀ w,Calls Tryz.prog 163 #[.int .u64 a0,.int .u64 X0,.int .u64 0] w fun e w' => e = .returned (.tuple #[.int .u64 s0,.int .u64 c]) ∧ w' = w)
    (c3 : ∀ w,Calls Tryz.prog 163 #[.int .u64 a1,.int .u64 X1,.int .u64 c] w fun e w' => e = .returned (.tuple #[.int .u64 q,.int .u64 g1]) ∧ w' = w)
    (c4 : ∀ w,Calls Tryz.prog 168 #[.int .u64 D,.int .u64 q] w fun e w' => e = .returned (.tuple #[.int .u64 e1,.int .u64 e0]) ∧ w' = w)
    (c5 : ∀ w,Calls Tryz.prog 165 #[.int .u64 X0,.int .u64 e0,.int .u64 0] w fun e w' => e = .returned (.tuple #[.int .u64 r0,.int .u64 b]) ∧ w' = w)
    (c6 : ∀ w,Calls Tryz.prog 165 #[.int .u64 X1,.int .u64 e1,.int .u64 b] w fun e w' => e = .returned (.tuple #[.int .u64 r1,.int .u64 g2]) ∧ w' = w) (w : World) :
    Calls Tryz.prog 228 #[.int .u64 x1,.int .u64 x0,.int .u64 y,.int .u64 m] w fun e w' => e = .returned (.tuple #[.int .u64 ((q : Int) + 1),.int .u64 ((ρ : Int) / 2 ^ z)]) ∧ w' = w :=by
  obtain ⟨rfl,rfl,rfl⟩ :=hX
  subst hzz
  subst hr1
  go_enter Tryz.func228,Tryz.ntmps228
  go_wp2_with (first
    | (go_at_call 185;refine (hz _).mono ?_;rintro e w1 ⟨rfl,hw⟩;rw [hw];clear hw)
    | (go_at_call 168;first | ((with_reducible refine (c1 _).mono ?_);rintro e w1 ⟨rfl,hw⟩;rw [hw];clear hw) | ((with_reducible refine (c4 _).mono ?_);rintro e w1 ⟨rfl,hw⟩;rw [hw];clear hw))
    | (go_at_call 163;first | ((with_reducible refine (c2 _).mono ?_);rintro e w1 ⟨rfl,hw⟩;rw [hw];clear hw) | ((with_reducible refine (c3 _).mono ?_);rintro e w1 ⟨rfl,hw⟩;rw [hw];clear hw))
    | (go_at_call 165;first | ((with_reducible refine (c5 _).mono ?_);rintro e w1 ⟨rfl,hw⟩;rw [hw];clear hw) | ((with_reducible refine (c6 _).mono ?_);rintro e w1 ⟨rfl,hw⟩;rw [hw];clear hw)))
  first | go_ret2 | refine ⟨_,results_tmp2 rfl _ _ _,?_⟩
  exact ⟨by first | rfl | simp,rfl⟩
theorem divWW_z11 (x1 x0 y m z X1 X0 D a1 a0 s0 c q e1 e0 r0 b r1 xh xl g1 g2 : Nat) (B1 : x1 < 18446744073709551616) (B2 : x0 < 18446744073709551616) (B3 : y < 18446744073709551616) (B4 : z ≤ 63) (B5 : X1 < 18446744073709551616) (B6 : X0 < 18446744073709551616) (B7 : D < 18446744073709551616) (B8 : q + 2 < 18446744073709551616) (B9 : r0 < 18446744073709551616)
    (hz : ∀ w,Calls Tryz.prog 185 #[.int .u64 y] w fun e w' => e = .returned (.int .u64 (z : Nat)) ∧ w' = w) (hzz : z = 0) (hX : X1 = x1 ∧ X0 = x0 ∧ D = y) (ρ : Nat) (hρ : IntKind.u64.wrap ((r0 : Int) - (D : Int)) = (ρ : Nat)) (hρB : ρ < 18446744073709551616) (hr1 : r1 = 1) (hcmp : D ≤ ρ)
    (c1 : ∀ w,Calls Tryz.prog 168 #[.int .u64 m,.int .u64 X1] w fun e w' => e = .returned (.tuple #[.int .u64 a1,.int .u64 a0]) ∧ w' = w)
    (c2 : ∀ w,Calls Tryz.prog 163 #[.int .u64 a0,.int .u64 X0,.int .u64 0] w fun e w' => e = .returned (.tuple #[.int .u64 s0,.int .u64 c]) ∧ w' = w)
    (c3 : ∀ w,Calls Tryz.prog 163 #[.int .u64 a1,.int .u64 X1,.int .u64 c] w fun e w' => e = .returned (.tuple #[.int .u64 q,.int .u64 g1]) ∧ w' = w)
    (c4 : ∀ w,Calls Tryz.prog 168 #[.int .u64 D,.int .u64 q] w fun e w' => e = .returned (.tuple #[.int .u64 e1,.int .u64 e0]) ∧ w' = w)
    (c5 : ∀ w,Calls Tryz.prog 165 #[.int .u64 X0,.int .u64 e0,.int .u64 0] w fun e w' => e = .returned (.tuple #[.int .u64 r0,.int .u64 b]) ∧ w' = w)
    (c6 : ∀ w,Calls Tryz.prog 165 #[.int .u64 X1,.int .u64 e1,.int .u64 b] w fun e w' => e = .returned (.tuple #[.int .u64 r1,.int .u64 g2]) ∧ w' = w) (w : World) :
    Calls Tryz.prog 228 #[.int .u64 x1,.int .u64 x0,.int .u64 y,.int .u64 m] w fun e w' => e = .returned (.tuple #[.int .u64 ((q : Int) + 1 + 1),.int .u64 (((ρ : Int) - (D : Int)) / 2 ^ z)]) ∧ w' = w :=by
  obtain ⟨rfl,rfl,rfl⟩ :=hX
  subst hzz
  subst hr1
  go_enter Tryz.func228,Tryz.ntmps228
  go_wp2_with (first
    | (go_at_call 185;refine (hz _).mono ?_;rintro e w1 ⟨rfl,hw⟩;rw [hw];clear hw)
    | (go_at_call 168;first | ((with_reducible refine (c1 _).mono ?_);rintro e w1 ⟨rfl,hw⟩;rw [hw];clear hw) | ((with_reducible refine (c4 _).mono ?_);rintro e w1 ⟨rfl,hw⟩;rw [hw];clear hw))
    | (go_at_call 163;first | ((with_reducible refine (c2 _).mono ?_);rintro e w1 ⟨rfl,hw⟩;rw [hw];clear hw) | ((with_reducible refine (c3 _).mono ?_);rintro e w1 ⟨rfl,hw⟩;rw [hw];clear hw))
    | (go_at_call 165;first | ((with_reducible refine (c5 _).mono ?_);rintro e w1 ⟨rfl,hw⟩;rw [hw];clear hw) | ((with_reducible refine (c6 _).mono ?_);rintro e w1 ⟨rfl,hw⟩;rw [hw];clear hw)))
  first | go_ret2 | refine ⟨_,results_tmp2 rfl _ _ _,?_⟩
  exact ⟨by first | rfl | simp,rfl⟩
theorem divWW_s00 (x1 x0 y m z X1 X0 D a1 a0 s0 c q e1 e0 r0 b r1 xh xl g1 g2 : Nat) (B1 : x1 < 18446744073709551616) (B2 : x0 < 18446744073709551616) (B3 : y < 18446744073709551616) (B4 : z ≤ 63) (B5 : X1 < 18446744073709551616) (B6 : X0 < 18446744073709551616) (B7 : D < 18446744073709551616) (B8 : q + 0 < 18446744073709551616) (B9 : r0 < 18446744073709551616)
    (hz : ∀ w,Calls Tryz.prog 185 #[.int .u64 y] w fun e w' => e = .returned (.int .u64 (z : Nat)) ∧ w' = w) (hzz : ¬ z = 0) (hX : IntKind.u64.wrap ((x1 : Int) * 2 ^ z) = (xh : Nat) ∧ (x0 : Int) / 2 ^ (64 - z) = (xl : Nat) ∧ bits .or .u64 (xh : Int) (xl : Int) = (X1 : Nat) ∧ IntKind.u64.wrap ((x0 : Int) * 2 ^ z) = (X0 : Nat) ∧ IntKind.u64.wrap ((y : Int) * 2 ^ z) = (D : Nat)) (hr1 : r1 = 0) (hcmp : r0 < D)
    (c1 : ∀ w,Calls Tryz.prog 168 #[.int .u64 m,.int .u64 X1] w fun e w' => e = .returned (.tuple #[.int .u64 a1,.int .u64 a0]) ∧ w' = w)
    (c2 : ∀ w,Calls Tryz.prog 163 #[.int .u64 a0,.int .u64 X0,.int .u64 0] w fun e w' => e = .returned (.tuple #[.int .u64 s0,.int .u64 c]) ∧ w' = w)
    (c3 : ∀ w,Calls Tryz.prog 163 #[.int .u64 a1,.int .u64 X1,.int .u64 c] w fun e w' => e = .returned (.tuple #[.int .u64 q,.int .u64 g1]) ∧ w' = w)
    (c4 : ∀ w,Calls Tryz.prog 168 #[.int .u64 D,.int .u64 q] w fun e w' => e = .returned (.tuple #[.int .u64 e1,.int .u64 e0]) ∧ w' = w)
    (c5 : ∀ w,Calls Tryz.prog 165 #[.int .u64 X0,.int .u64 e0,.int .u64 0] w fun e w' => e = .returned (.tuple #[.int .u64 r0,.int .u64 b]) ∧ w' = w)
    (c6 : ∀ w,Calls Tryz.prog 165 #[.int .u64 X1,.int .u64 e1,.int .u64 b] w fun e w' => e = .returned (.tuple #[.int .u64 r1,.int .u64 g2]) ∧ w' = w) (w : World) :
    Calls Tryz.prog 228 #[.int .u64 x1,.int .u64 x0,.int .u64 y,.int .u64 m] w fun e w' => e = .returned (.tuple #[.int .u64 ((q : Int)),.int .u64 ((r0 : Int) / 2 ^ z)]) ∧ w' = w :=by
  obtain ⟨hx1,hx2,hx3,hx4,hx5⟩ :=hX
  have hzn : ((z : Int) != 0) = true :=by simpa using hzz
  subst hr1
  go_enter Tryz.func228,Tryz.ntmps228
  go_wp2_with (first
    | (go_at_call 185;refine (hz _).mono ?_;rintro e w1 ⟨rfl,hw⟩;rw [hw];clear hw)
    | (go_at_call 168;first | ((with_reducible refine (c1 _).mono ?_);rintro e w1 ⟨rfl,hw⟩;rw [hw];clear hw) | ((with_reducible refine (c4 _).mono ?_);rintro e w1 ⟨rfl,hw⟩;rw [hw];clear hw))
    | (go_at_call 163;first | ((with_reducible refine (c2 _).mono ?_);rintro e w1 ⟨rfl,hw⟩;rw [hw];clear hw) | ((with_reducible refine (c3 _).mono ?_);rintro e w1 ⟨rfl,hw⟩;rw [hw];clear hw))
    | (go_at_call 165;first | ((with_reducible refine (c5 _).mono ?_);rintro e w1 ⟨rfl,hw⟩;rw [hw];clear hw) | ((with_reducible refine (c6 _).mono ?_);rintro e w1 ⟨rfl,hw⟩;rw [hw];clear hw)))
  first | go_ret2 | refine ⟨_,results_tmp2 rfl _ _ _,?_⟩
  exact ⟨by first | rfl | simp,rfl⟩
theorem divWW_s01 (x1 x0 y m z X1 X0 D a1 a0 s0 c q e1 e0 r0 b r1 xh xl g1 g2 : Nat) (B1 : x1 < 18446744073709551616) (B2 : x0 < 18446744073709551616) (B3 : y < 18446744073709551616) (B4 : z ≤ 63) (B5 : X1 < 18446744073709551616) (B6 : X0 < 18446744073709551616) (B7 : D < 18446744073709551616) (B8 : q + 1 < 18446744073709551616) (B9 : r0 < 18446744073709551616)
    (hz : ∀ w,Calls Tryz.prog 185 #[.int .u64 y] w fun e w' => e = .returned (.int .u64 (z : Nat)) ∧ w' = w) (hzz : ¬ z = 0) (hX : IntKind.u64.wrap ((x1 : Int) * 2 ^ z) = (xh : Nat) ∧ (x0 : Int) / 2 ^ (64 - z) = (xl : Nat) ∧ bits .or .u64 (xh : Int) (xl : Int) = (X1 : Nat) ∧ IntKind.u64.wrap ((x0 : Int) * 2 ^ z) = (X0 : Nat) ∧ IntKind.u64.wrap ((y : Int) * 2 ^ z) = (D : Nat)) (hr1 : r1 = 0) (hcmp : D ≤ r0)
    (c1 : ∀ w,Calls Tryz.prog 168 #[.int .u64 m,.int .u64 X1] w fun e w' => e = .returned (.tuple #[.int .u64 a1,.int .u64 a0]) ∧ w' = w)
    (c2 : ∀ w,Calls Tryz.prog 163 #[.int .u64 a0,.int .u64 X0,.int .u64 0] w fun e w' => e = .returned (.tuple #[.int .u64 s0,.int .u64 c]) ∧ w' = w)
    (c3 : ∀ w,Calls Tryz.prog 163 #[.int .u64 a1,.int .u64 X1,.int .u64 c] w fun e w' => e = .returned (.tuple #[.int .u64 q,.int .u64 g1]) ∧ w' = w)
    (c4 : ∀ w,Calls Tryz.prog 168 #[.int .u64 D,.int .u64 q] w fun e w' => e = .returned (.tuple #[.int .u64 e1,.int .u64 e0]) ∧ w' = w)
    (c5 : ∀ w,Calls Tryz.prog 165 #[.int .u64 X0,.int .u64 e0,.int .u64 0] w fun e w' => e = .returned (.tuple #[.int .u64 r0,.int .u64 b]) ∧ w' = w)
    (c6 : ∀ w,Calls Tryz.prog 165 #[.int .u64 X1,.int .u64 e1,.int .u64 b] w fun e w' => e = .returned (.tuple #[.int .u64 r1,.int .u64 g2]) ∧ w' = w) (w : World) :
    Calls Tryz.prog 228 #[.int .u64 x1,.int .u64 x0,.int .u64 y,.int .u64 m] w fun e w' => e = .returned (.tuple #[.int .u64 ((q : Int) + 1),.int .u64 (((r0 : Int) - (D : Int)) / 2 ^ z)]) ∧ w' = w :=by
  obtain ⟨hx1,hx2,hx3,hx4,hx5⟩ :=hX
  have hzn : ((z : Int) != 0) = true :=by simpa using hzz
  subst hr1
  go_enter Tryz.func228,Tryz.ntmps228
  go_wp2_with (first
    | (go_at_call 185;refine (hz _).mono ?_;rintro e w1 ⟨rfl,hw⟩;rw [hw];clear hw)
    | (go_at_call 168;first | ((with_reducible refine (c1 _).mono ?_);rintro e w1 ⟨rfl,hw⟩;rw [hw];clear hw) | ((with_reducible refine (c4 _).mono ?_);rintro e w1 ⟨rfl,hw⟩;rw [hw];clear hw))
    | (go_at_call 163;first | ((with_reducible refine (c2 _).mono ?_);rintro e w1 ⟨rfl,hw⟩;rw [hw];clear hw) | ((with_reducible refine (c3 _).mono ?_);rintro e w1 ⟨rfl,hw⟩;rw [hw];clear hw))
    | (go_at_call 165;first | ((with_reducible refine (c5 _).mono ?_);rintro e w1 ⟨rfl,hw⟩;rw [hw];clear hw) | ((with_reducible refine (c6 _).mono ?_);rintro e w1 ⟨rfl,hw⟩;rw [hw];clear hw)))
  first | go_ret2 | refine ⟨_,results_tmp2 rfl _ _ _,?_⟩
  exact ⟨by first | rfl | simp,rfl⟩
theorem divWW_s10 (x1 x0 y m z X1 X0 D a1 a0 s0 c q e1 e0 r0 b r1 xh xl g1 g2 : Nat) (B1 : x1 < 18446744073709551616) (B2 : x0 < 18446744073709551616) (B3 : y < 18446744073709551616) (B4 : z ≤ 63) (B5 : X1 < 18446744073709551616) (B6 : X0 < 18446744073709551616) (B7 : D < 18446744073709551616) (B8 : q + 1 < 18446744073709551616) (B9 : r0 < 18446744073709551616)
    (hz : ∀ w,Calls Tryz.prog 185 #[.int .u64 y] w fun e w' => e = .returned (.int .u64 (z : Nat)) ∧ w' = w) (hzz : ¬ z = 0) (hX : IntKind.u64.wrap ((x1 : Int) * 2 ^ z) = (xh : Nat) ∧ (x0 : Int) / 2 ^ (64 - z) = (xl : Nat) ∧ bits .or .u64 (xh : Int) (xl : Int) = (X1 : Nat) ∧ IntKind.u64.wrap ((x0 : Int) * 2 ^ z) = (X0 : Nat) ∧ IntKind.u64.wrap ((y : Int) * 2 ^ z) = (D : Nat)) (ρ : Nat) (hρ : IntKind.u64.wrap ((r0 : Int) - (D : Int)) = (ρ : Nat)) (hρB : ρ < 18446744073709551616) (hr1 : r1 = 1) (hcmp : ρ < D)
    (c1 : ∀ w,Calls Tryz.prog 168 #[.int .u64 m,.int .u64 X1] w fun e w' => e = .returned (.tuple #[.int .u64 a1,.int .u64 a0]) ∧ w' = w)
    (c2 : ∀ w,Calls Tryz.prog 163 #[.int .u64 a0,.int .u64 X0,.int .u64 0] w fun e w' => e = .returned (.tuple #[.int .u64 s0,.int .u64 c]) ∧ w' = w)
    (c3 : ∀ w,Calls Tryz.prog 163 #[.int .u64 a1,.int .u64 X1,.int .u64 c] w fun e w' => e = .returned (.tuple #[.int .u64 q,.int .u64 g1]) ∧ w' = w)
    (c4 : ∀ w,Calls Tryz.prog 168 #[.int .u64 D,.int .u64 q] w fun e w' => e = .returned (.tuple #[.int .u64 e1,.int .u64 e0]) ∧ w' = w)
    (c5 : ∀ w,Calls Tryz.prog 165 #[.int .u64 X0,.int .u64 e0,.int .u64 0] w fun e w' => e = .returned (.tuple #[.int .u64 r0,.int .u64 b]) ∧ w' = w)
    (c6 : ∀ w,Calls Tryz.prog 165 #[.int .u64 X1,.int .u64 e1,.int .u64 b] w fun e w' => e = .returned (.tuple #[.int .u64 r1,.int .u64 g2]) ∧ w' = w) (w : World) :
    Calls Tryz.prog 228 #[.int .u64 x1,.int .u64 x0,.int .u64 y,.int .u64 m] w fun e w' => e = .returned (.tuple #[.int .u64 ((q : Int) + 1),.int .u64 ((ρ : Int) / 2 ^ z)]) ∧ w' = w :=by
  obtain ⟨hx1,hx2,hx3,hx4,hx5⟩ :=hX
  have hzn : ((z : Int) != 0) = true :=by simpa using hzz
  subst hr1
  go_enter Tryz.func228,Tryz.ntmps228
  go_wp2_with (first
    | (go_at_call 185;refine (hz _).mono ?_;rintro e w1 ⟨rfl,hw⟩;rw [hw];clear hw)
    | (go_at_call 168;first | ((with_reducible refine (c1 _).mono ?_);rintro e w1 ⟨rfl,hw⟩;rw [hw];clear hw) | ((with_reducible refine (c4 _).mono ?_);rintro e w1 ⟨rfl,hw⟩;rw [hw];clear hw))
    | (go_at_call 163;first | ((with_reducible refine (c2 _).mono ?_);rintro e w1 ⟨rfl,hw⟩;rw [hw];clear hw) | ((with_reducible refine (c3 _).mono ?_);rintro e w1 ⟨rfl,hw⟩;rw [hw];clear hw))
    | (go_at_call 165;first | ((with_reducible refine (c5 _).mono ?_);rintro e w1 ⟨rfl,hw⟩;rw [hw];clear hw) | ((with_reducible refine (c6 _).mono ?_);rintro e w1 ⟨rfl,hw⟩;rw [hw];clear hw)))
  first | go_ret2 | refine ⟨_,results_tmp2 rfl _ _ _,?_⟩
  exact ⟨by first | rfl | simp,rfl⟩
theorem divWW_s11 (x1 x0 y m z X1 X0 D a1 a0 s0 c q e1 e0 r0 b r1 xh xl g1 g2 : Nat) (B1 : x1 < 18446744073709551616) (B2 : x0 < 18446744073709551616) (B3 : y < 18446744073709551616) (B4 : z ≤ 63) (B5 : X1 < 18446744073709551616) (B6 : X0 < 18446744073709551616) (B7 : D < 18446744073709551616) (B8 : q + 2 < 18446744073709551616) (B9 : r0 < 18446744073709551616)
    (hz : ∀ w,Calls Tryz.prog 185 #[.int .u64 y] w fun e w' => e = .returned (.int .u64 (z : Nat)) ∧ w' = w) (hzz : ¬ z = 0) (hX : IntKind.u64.wrap ((x1 : Int) * 2 ^ z) = (xh : Nat) ∧ (x0 : Int) / 2 ^ (64 - z) = (xl : Nat) ∧ bits .or .u64 (xh : Int) (xl : Int) = (X1 : Nat) ∧ IntKind.u64.wrap ((x0 : Int) * 2 ^ z) = (X0 : Nat) ∧ IntKind.u64.wrap ((y : Int) * 2 ^ z) = (D : Nat)) (ρ : Nat) (hρ : IntKind.u64.wrap ((r0 : Int) - (D : Int)) = (ρ : Nat)) (hρB : ρ < 18446744073709551616) (hr1 : r1 = 1) (hcmp : D ≤ ρ)
    (c1 : ∀ w,Calls Tryz.prog 168 #[.int .u64 m,.int .u64 X1] w fun e w' => e = .returned (.tuple #[.int .u64 a1,.int .u64 a0]) ∧ w' = w)
    (c2 : ∀ w,Calls Tryz.prog 163 #[.int .u64 a0,.int .u64 X0,.int .u64 0] w fun e w' => e = .returned (.tuple #[.int .u64 s0,.int .u64 c]) ∧ w' = w)
    (c3 : ∀ w,Calls Tryz.prog 163 #[.int .u64 a1,.int .u64 X1,.int .u64 c] w fun e w' => e = .returned (.tuple #[.int .u64 q,.int .u64 g1]) ∧ w' = w)
    (c4 : ∀ w,Calls Tryz.prog 168 #[.int .u64 D,.int .u64 q] w fun e w' => e = .returned (.tuple #[.int .u64 e1,.int .u64 e0]) ∧ w' = w)
    (c5 : ∀ w,Calls Tryz.prog 165 #[.int .u64 X0,.int .u64 e0,.int .u64 0] w fun e w' => e = .returned (.tuple #[.int .u64 r0,.int .u64 b]) ∧ w' = w)
    (c6 : ∀ w,Calls Tryz.prog 165 #[.int .u64 X1,.int .u64 e1,.int .u64 b] w fun e w' => e = .returned (.tuple #[.int .u64 r1,.int .u64 g2]) ∧ w' = w) (w : World) :
    Calls Tryz.prog 228 #[.int .u64 x1,.int .u64 x0,.int .u64 y,.int .u64 m] w fun e w' => e = .returned (.tuple #[.int .u64 ((q : Int) + 1 + 1),.int .u64 (((ρ : Int) - (D : Int)) / 2 ^ z)]) ∧ w' = w :=by
  obtain ⟨hx1,hx2,hx3,hx4,hx5⟩ :=hX
  have hzn : ((z : Int) != 0) = true :=by simpa using hzz
  subst hr1
  go_enter Tryz.func228,Tryz.ntmps228
  go_wp2_with (first
    | (go_at_call 185;refine (hz _).mono ?_;rintro e w1 ⟨rfl,hw⟩;rw [hw];clear hw)
    | (go_at_call 168;first | ((with_reducible refine (c1 _).mono ?_);rintro e w1 ⟨rfl,hw⟩;rw [hw];clear hw) | ((with_reducible refine (c4 _).mono ?_);rintro e w1 ⟨rfl,hw⟩;rw [hw];clear hw))
    | (go_at_call 163;first | ((with_reducible refine (c2 _).mono ?_);rintro e w1 ⟨rfl,hw⟩;rw [hw];clear hw) | ((with_reducible refine (c3 _).mono ?_);rintro e w1 ⟨rfl,hw⟩;rw [hw];clear hw))
    | (go_at_call 165;first | ((with_reducible refine (c5 _).mono ?_);rintro e w1 ⟨rfl,hw⟩;rw [hw];clear hw) | ((with_reducible refine (c6 _).mono ?_);rintro e w1 ⟨rfl,hw⟩;rw [hw];clear hw)))
  first | go_ret2 | refine ⟨_,results_tmp2 rfl _ _ _,?_⟩
  exact ⟨by first | rfl | simp,rfl⟩
end Go.Proofs.YtfmmdamgcpiciaaGreatDoor
namespace Go.Proofs.YtfmmdamgcpiciaaGreatDoor
open Go Go.RowKit
theorem divmod_of {D X q r : Nat} (h : q * D + r = X) (hr : r < D) : X / D = q ∧ X % D = r :=by
  subst h
  exact ⟨by rw [Nat.mul_comm,Nat.mul_add_div (by omega),Nat.div_eq_of_lt hr,Nat.add_zero],by rw [Nat.mul_comm,Nat.mul_add_mod,Nat.mod_eq_of_lt hr]⟩
theorem cast_mul (x z : Nat) : (x : Int) * 2 ^ z = ((x * 2 ^ z : Nat) : Int) :=by rw [Int.natCast_mul,Int.natCast_pow];rfl
theorem cast_div (x z : Nat) : ((x / 2 ^ z : Nat) : Int) = (x : Int) / 2 ^ z :=by rw [Int.natCast_ediv,Int.natCast_pow];rfl
theorem exists_nums (B d m x1 x0 : Nat) : ∃ a1 a0 s0 c q e1 e0 r0 b r1,DivNums B d m x1 x0 a1 a0 s0 c q e1 e0 r0 b r1 :=
  ⟨_,_,_,_,_,_,_,_,_,_,⟨rfl,rfl⟩,⟨rfl,rfl⟩,rfl,⟨rfl,rfl⟩,⟨rfl,rfl⟩,rfl⟩
theorem divWW_any (x1 x0 y m z X1 X0 D : Nat) (xh xl : Nat) (B1 : x1 < W64) (B2 : x0 < W64) (B3 : y < W64) (B4 : z ≤ 63) (B5 : X1 < D) (B6 : X0 < W64) (B7 : D < W64) (B8 : 9223372036854775808 ≤ D) (hm : m < W64) (hmd : (W64 * W64 - 1) / D = m + W64)
    (hz : ∀ w,Calls Tryz.prog 185 #[.int .u64 y] w fun e w' => e = .returned (.int .u64 (z : Nat)) ∧ w' = w)
    (hX : (z = 0 ∧ X1 = x1 ∧ X0 = x0 ∧ D = y) ∨ (¬ z = 0 ∧ IntKind.u64.wrap ((x1 : Int) * 2 ^ z) = (xh : Nat) ∧ (x0 : Int) / 2 ^ (64 - z) = (xl : Nat) ∧ bits .or .u64 (xh : Int) (xl : Int) = (X1 : Nat) ∧ IntKind.u64.wrap ((x0 : Int) * 2 ^ z) = (X0 : Nat) ∧ IntKind.u64.wrap ((y : Int) * 2 ^ z) = (D : Nat))) (w : World) :
    Calls Tryz.prog 228 #[.int .u64 x1,.int .u64 x0,.int .u64 y,.int .u64 m] w fun e w' => e = .returned (.tuple #[.int .u64 ((X1 * W64 + X0) / D : Nat),.int .u64 ((X1 * W64 + X0) % D / 2 ^ z : Nat)]) ∧ w' = w :=by
  obtain ⟨a1,a0,s0,c,q,e1,e0,r0,b,r1,hN⟩ :=exists_nums W64 D m X1 X0
  obtain ⟨n1,n2,n3,n4,n5,n6,n7,n8,n9,n10⟩ :=div_nums hN (by unfold W64;omega) B7 hmd B5 B6
  obtain ⟨⟨ha1,ha0⟩,⟨hs0,hc⟩,hq,⟨he1,he0⟩,⟨hr0,hb⟩,hr1⟩ :=hN
  have c1 :=fun w => bits_Mul m X1 hm (Nat.lt_trans B5 B7) w
  have c2 :=fun w => bits_Add a0 X0 0 (by omega) w
  have c3 :=fun w => bits_Add a1 X1 c n7 w
  have c4 :=fun w => bits_Mul D q B7 n6 w
  have c5 :=fun w => bits_Sub X0 e0 0 (by omega) w
  have c6 :=fun w => bits_Sub X1 e1 b n8 w
  have k1 : m * X1 / 18446744073709551616 = a1 :=ha1.symm
  have k2 : m * X1 % 18446744073709551616 = a0 :=ha0.symm
  have k3 : (a0 + X0 + 0) % 18446744073709551616 = s0 :=hs0.symm
  have k4 : (a0 + X0 + 0) / 18446744073709551616 = c :=hc.symm
  have k5 : (a1 + X1 + c) % 18446744073709551616 = q :=hq.symm
  have k6 : D * q / 18446744073709551616 = e1 :=he1.symm
  have k7 : D * q % 18446744073709551616 = e0 :=he0.symm
  have k8 : (X0 + 18446744073709551616 - e0 - 0) % 18446744073709551616 = r0 :=hr0.symm
  have k9 : (if X0 < e0 + 0 then 1 else 0) = b :=hb.symm
  have k10 : (X1 + 18446744073709551616 - e1 - b) % 18446744073709551616 = r1 :=hr1.symm
  simp only [k1,k2] at c1
  simp only [k3,k4] at c2
  simp only [k5] at c3
  simp only [k6,k7] at c4
  simp only [k8,k9] at c5
  simp only [k10] at c6
  have hXD : X1 * W64 + X0 < W64 * D :=by
    have :=Nat.mul_le_mul_right W64 (show X1 + 1 ≤ D from B5)
    rw [Nat.add_mul,Nat.one_mul,Nat.mul_comm D] at this
    omega
  clear hr1 hb hr0 he0 he1 hq hc hs0 ha0 ha1 k1 k2 k3 k4 k5 k6 k7 k8 k9 k10 hmd
  have fin : ∀ Q R : Nat,Q * D + R = X1 * W64 + X0 → R < D → (X1 * W64 + X0) / D = Q ∧ (X1 * W64 + X0) % D = R ∧ Q < W64 :=by
    intro Q R h1 h2
    obtain ⟨h3,h4⟩ :=divmod_of h1 h2
    refine ⟨h3,h4,?_⟩
    rw [← h3,Nat.div_lt_iff_lt_mul (by omega)]
    exact hXD
  obtain ⟨X,hXe⟩ : ∃ X,X1 * W64 + X0 = X :=⟨_,rfl⟩
  rw [hXe] at n1 n2 n3 fin hXD ⊢
  clear hXe
  unfold W64 at *
  have cast : ∀ r : Nat,((r / 2 ^ z : Nat) : Int) = (r : Int) / 2 ^ z :=fun r => cast_div r z
  rcases (by omega : r1 = 0 ∨ r1 = 1) with h0 | h0
  · by_cases hc : D ≤ r0
    · obtain ⟨f1,f2,f3⟩ :=fin (q + 1) (r0 - D) (by rw [Nat.add_mul];omega) (by omega)
      rw [f1,f2]
      have e1' : ((q + 1 : Nat) : Int) = (q : Int) + 1 :=rfl
      have e2' : ((r0 - D : Nat) : Int) = (r0 : Int) - (D : Int) :=by omega
      rw [cast,e1',e2']
      rcases hX with ⟨z1,z2⟩ | ⟨z1,z2⟩
      · exact divWW_z01 x1 x0 y m z X1 X0 D a1 a0 s0 c q e1 e0 r0 b r1 0 0 _ _ B1 B2 B3 B4 (by omega) B6 B7 f3 n5 hz z1 z2 h0 hc c1 c2 c3 c4 c5 c6 w
      · exact divWW_s01 x1 x0 y m z X1 X0 D a1 a0 s0 c q e1 e0 r0 b r1 xh xl _ _ B1 B2 B3 B4 (by omega) B6 B7 f3 n5 hz z1 z2 h0 hc c1 c2 c3 c4 c5 c6 w
    · obtain ⟨f1,f2,f3⟩ :=fin q r0 (by subst h0;omega) (by omega)
      rw [f1,f2,cast]
      rcases hX with ⟨z1,z2⟩ | ⟨z1,z2⟩
      · exact divWW_z00 x1 x0 y m z X1 X0 D a1 a0 s0 c q e1 e0 r0 b r1 0 0 _ _ B1 B2 B3 B4 (by omega) B6 B7 f3 n5 hz z1 z2 h0 (by omega) c1 c2 c3 c4 c5 c6 w
      · exact divWW_s00 x1 x0 y m z X1 X0 D a1 a0 s0 c q e1 e0 r0 b r1 xh xl _ _ B1 B2 B3 B4 (by omega) B6 B7 f3 n5 hz z1 z2 h0 (by omega) c1 c2 c3 c4 c5 c6 w
  · have hlt : r0 < D :=by subst h0;omega
    obtain ⟨ρ,hρ⟩ : ∃ ρ,r0 + 18446744073709551616 - D = ρ :=⟨_,rfl⟩
    have hw : IntKind.u64.wrap ((r0 : Int) - (D : Int)) = (ρ : Nat) :=by rw [wrap_u64];omega
    by_cases hc : D ≤ ρ
    · obtain ⟨f1,f2,f3⟩ :=fin (q + 2) (ρ - D) (by rw [Nat.add_mul];subst h0;omega) (by omega)
      rw [f1,f2]
      have e1' : ((q + 2 : Nat) : Int) = (q : Int) + 1 + 1 :=by omega
      have e2' : ((ρ - D : Nat) : Int) = (ρ : Int) - (D : Int) :=by omega
      rw [cast,e1',e2']
      rcases hX with ⟨z1,z2⟩ | ⟨z1,z2⟩
      · exact divWW_z11 x1 x0 y m z X1 X0 D a1 a0 s0 c q e1 e0 r0 b r1 0 0 _ _ B1 B2 B3 B4 (by omega) B6 B7 f3 n5 hz z1 z2 ρ hw (by omega) h0 hc c1 c2 c3 c4 c5 c6 w
      · exact divWW_s11 x1 x0 y m z X1 X0 D a1 a0 s0 c q e1 e0 r0 b r1 xh xl _ _ B1 B2 B3 B4 (by omega) B6 B7 f3 n5 hz z1 z2 ρ hw (by omega) h0 hc c1 c2 c3 c4 c5 c6 w
    · obtain ⟨f1,f2,f3⟩ :=fin (q + 1) ρ (by rw [Nat.add_mul];subst h0;omega) (by omega)
      rw [f1,f2]
      have e1' : ((q + 1 : Nat) : Int) = (q : Int) + 1 :=rfl
      rw [cast,e1']
      rcases hX with ⟨z1,z2⟩ | ⟨z1,z2⟩
      · exact divWW_z10 x1 x0 y m z X1 X0 D a1 a0 s0 c q e1 e0 r0 b r1 0 0 _ _ B1 B2 B3 B4 (by omega) B6 B7 f3 n5 hz z1 z2 ρ hw (by omega) h0 (by omega) c1 c2 c3 c4 c5 c6 w
      · exact divWW_s10 x1 x0 y m z X1 X0 D a1 a0 s0 c q e1 e0 r0 b r1 xh xl _ _ B1 B2 B3 B4 (by omega) B6 B7 f3 n5 hz z1 z2 ρ hw (by omega) h0 (by omega) c1 c2 c3 c4 c5 c6 w
theorem divWW (x1 x0 y : Nat) (hy : y < W64) (h0 : y ≠ 0) (h1 : x1 < y) (h2 : x0 < W64) (w : World) :
    Calls Tryz.prog 228 #[.int .u64 x1,.int .u64 x0,.int .u64 y,.int .u64 (rec64 y)] w fun e w' => e = .returned (.tuple #[.int .u64 ((x1 * W64 + x0) / y : Nat),.int .u64 ((x1 * W64 + x0) % y : Nat)]) ∧ w' = w :=by
  obtain ⟨u1,u2,u3,u4⟩ :=up_bounds hy h0
  have hm :=rec64_spec hy h0
  have hml :=rec64_lt hy h0
  have hz :=nlz y hy
  have hup : up y = y * 2 ^ (64 - Lib.bitLen y) :=rfl
  have hw :=up_wrap hy h0
  obtain ⟨z,hz2⟩ : ∃ z,64 - Lib.bitLen y = z :=⟨_,rfl⟩
  rw [hz2] at hz hup hw
  have hz63 : z ≤ 63 :=by omega
  have hp : 0 < 2 ^ z :=Nat.two_pow_pos z
  have hsp : 2 ^ z * 2 ^ (64 - z) = W64 :=by rw [← Nat.pow_add,show z + (64 - z) = 64 by omega]
  -- the numbers moved up
  obtain ⟨X1,X0,hX,hX0⟩ : ∃ X1 X0,X1 * W64 + X0 = (x1 * W64 + x0) * 2 ^ z ∧ X0 < W64 :=⟨(x1 * W64 + x0) * 2 ^ z / W64,(x1 * W64 + x0) * 2 ^ z % W64,by rw [Nat.mul_comm _ W64];exact Nat.div_add_mod _ _,Nat.mod_lt _ (by decide)⟩
  have hlt : X1 < up y :=by
    have h3 : (x1 * W64 + x0) * 2 ^ z < y * W64 * 2 ^ z :=by
      refine Nat.mul_lt_mul_of_pos_right ?_ hp
      have :=Nat.mul_le_mul_right W64 (show x1 + 1 ≤ y from h1)
      rw [Nat.add_mul,Nat.one_mul] at this
      omega
    have h4 : X1 * W64 < up y * W64 :=by
      rw [hup,Nat.mul_assoc,Nat.mul_comm (2 ^ z),← Nat.mul_assoc]
      omega
    exact Nat.lt_of_mul_lt_mul_right h4
  have hd1 : (X1 * W64 + X0) / up y = (x1 * W64 + x0) / y :=by rw [hX,hup,Nat.mul_div_mul_right _ _ hp]
  have hd2 : (X1 * W64 + X0) % up y / 2 ^ z = (x1 * W64 + x0) % y :=by rw [hX,hup,Nat.mul_mod_mul_right,Nat.mul_div_cancel _ hp]
  rw [← hd1,← hd2]
  by_cases hz0 : z = 0
  · have e : X1 = x1 ∧ X0 = x0 :=by
      rw [hz0,Nat.pow_zero,Nat.mul_one] at hX
      unfold W64 at *
      omega
    exact divWW_any x1 x0 y _ z X1 X0 (up y) 0 0 (by omega) h2 hy hz63 hlt hX0 u2 u1 hml hm hz (.inl ⟨hz0,e.1,e.2,by rw [hup,hz0];simp⟩) w
  · have hdm :=Nat.div_add_mod x0 (2 ^ (64 - z))
    have hl : x0 % 2 ^ (64 - z) < 2 ^ (64 - z) :=Nat.mod_lt _ (Nat.two_pow_pos _)
    have hh : x0 / 2 ^ (64 - z) < 2 ^ z :=by
      rw [Nat.div_lt_iff_lt_mul (Nat.two_pow_pos _),hsp];exact h2
    have hx1z : x1 * 2 ^ z < W64 :=by
      have : x1 * 2 ^ z ≤ y * 2 ^ z :=Nat.mul_le_mul_right _ (by omega)
      rw [← hup] at this
      omega
    have e0 : x0 % 2 ^ (64 - z) * 2 ^ z < W64 :=by
      have :=Nat.mul_lt_mul_of_pos_right hl hp
      rw [Nat.mul_comm (2 ^ (64 - z)),hsp] at this
      exact this
    have esum : (x1 * 2 ^ z + x0 / 2 ^ (64 - z)) * W64 + x0 % 2 ^ (64 - z) * 2 ^ z = (x1 * W64 + x0) * 2 ^ z :=by
      have a : x0 * 2 ^ z = x0 / 2 ^ (64 - z) * W64 + x0 % 2 ^ (64 - z) * 2 ^ z :=by
        rw [← hsp,← Nat.mul_assoc,Nat.mul_comm (x0 / 2 ^ (64 - z)),Nat.mul_assoc (2 ^ z),Nat.mul_comm (x0 / 2 ^ (64 - z)),Nat.mul_comm (2 ^ z),← Nat.add_mul,hdm]
      rw [Nat.add_mul,Nat.add_mul,a,Nat.mul_assoc,Nat.mul_assoc,Nat.mul_comm W64 (2 ^ z)]
      omega
    have eX : X1 = x1 * 2 ^ z + x0 / 2 ^ (64 - z) ∧ X0 = x0 % 2 ^ (64 - z) * 2 ^ z :=by
      rw [← esum] at hX
      generalize x1 * 2 ^ z + x0 / 2 ^ (64 - z) = A at *
      generalize x0 % 2 ^ (64 - z) * 2 ^ z = C at *
      unfold W64 at *
      omega
    refine divWW_any x1 x0 y _ z X1 X0 (up y) (x1 * 2 ^ z) (x0 / 2 ^ (64 - z)) (by omega) h2 hy hz63 hlt hX0 u2 u1 hml hm hz (.inr ⟨hz0,?_,?_,?_,?_,hw⟩) w
    · rw [cast_mul x1 z,wrap_u64_in _ (Int.natCast_nonneg _) (Int.ofNat_lt.2 hx1z)]
    · exact (cast_div x0 (64 - z)).symm
    · rw [or_u64 _ _ hx1z (Nat.lt_of_lt_of_le hh (Nat.pow_le_pow_right (by decide) (by omega))),eX.1]
      have :=Nat.two_pow_add_eq_or_of_lt hh x1
      rw [Nat.mul_comm x1,this]
    · rw [cast_mul x0 z,wrap_u64,eX.2]
      have a : x0 * 2 ^ z % W64 = x0 % 2 ^ (64 - z) * 2 ^ z :=by rw [← hsp,Nat.mul_comm (2 ^ z),Nat.mul_mod_mul_right]
      unfold W64 at a
      clear eX esum hX hX0 hd1 hd2 hlt e0 hdm
      generalize x0 * 2 ^ z = P at *
      generalize x0 % 2 ^ (64 - z) * 2 ^ z = C at *
      omega
end Go.Proofs.YtfmmdamgcpiciaaGreatDoor
namespace Go.Proofs.YtfmmdamgcpiciaaGreatDoor
open Go Go.RowKit
theorem Row.consAt {w : World} {b o : Nat} {ts : List Nat} (x : Nat) (h : Row .u64 w b (o + 1) ts) (hw : ∃ u,w.cell? ⟨b,o,none⟩ = some u) : Row .u64 (w.setCell ⟨b,o,none⟩ (.int .u64 x)) b o (x :: ts) :=fun j y hj => by
  cases j with
  | zero =>
    simp at hj;subst hj
    obtain ⟨u,hu⟩ :=hw
    exact cell_setCell_eq hu
  | succ j =>
    simp at hj
    have :=h j y hj
    rw [show o + (j + 1) = o + 1 + j by omega]
    exact (cell_setCell_ne (by omega)).trans this
theorem div_step {B V T r y q r' x D : Nat} (h : D = T * y + r) (hq : r * B + x = y * q + r') (hv : V = x + B * D) : V = (q + B * T) * y + r' :=by
  rw [hv,h,Nat.mul_add,Nat.add_mul,← Nat.mul_assoc,Nat.mul_comm B r,Nat.mul_comm q y]
  omega
theorem divWVW (w : World) (bz oz bx ox n cz cx y : Nat) (xs : List Nat) (hn : 0 < n) (hnB : n ≤ Big) (hy : y < W64) (h0 : y ≠ 0)
    (hx : Row .u64 w bx ox xs) (hlx : xs.length = n) (hbx : Lt W64 xs) (hz : Wr w bz oz n) (fx : bx ≠ bz) :
    Calls Tryz.prog 186 #[.slice (some ⟨bz,oz,none⟩) n cz,.int .u64 0,.slice (some ⟨bx,ox,none⟩) n cx,.int .u64 y] w fun e w' => ∃ zs,e = .returned (.int .u64 (val W64 xs % y : Nat)) ∧ zs.length = n ∧ Row .u64 w' bz oz zs ∧ Lt W64 zs ∧
      val W64 zs = val W64 xs / y ∧ Chg w w' (In bz oz n) :=by
  unfold Big at hnB
  by_cases h1 : n = 1
  · subst h1
    obtain ⟨x,rfl⟩ : ∃ x,xs = [x] :=by
      match xs,hlx with
      | [x],_ => exact ⟨x,rfl⟩
    have hcx :=hx 0 x rfl
    simp only [Nat.add_zero] at hcx
    have hxl : x < W64 :=hbx x (by simp)
    obtain ⟨⟨u,hu⟩,hf⟩ :=hz 0 (by omega)
    simp only [Nat.add_zero] at hu hf
    have hd :=bitsDiv_small x y hxl hy (by omega)
    have hv : val W64 [x] = x :=by simp [val]
    rw [hv]
    have hql : x / y < W64 :=Nat.lt_of_le_of_lt (Nat.div_le_self _ _) hxl
    generalize x / y = q at *
    generalize x % y = r at *
    go_enter Tryz.func186,Tryz.ntmps186
    go_wp2_with (go_at_call 226;refine (hd _).mono ?_;rintro e w1 ⟨rfl,k⟩;have hu :=Kept.at k hu;have hf :=(k.frz bz oz (lt_of_cell (by assumption))).trans hf)
    go_ret
    have hrow : Row .u64 (w1.setCell ⟨bz,oz,none⟩ (.int .u64 q)) bz oz [q] :=Row.one q ⟨u,hu⟩
    refine ⟨[q],rfl,rfl,hrow,Lt.one hql,by simp [val],?_⟩
    exact (Chg.any k (In bz oz 1)).trans (Chg.setCell w1 bz oz (.int .u64 q) (In bz oz 1) fun _ => ⟨rfl,by omega,by omega⟩) fun _ _ _ h => h
  · have hrc :=reciprocalWord y hy h0
    have hne : ((n : Int) == 1) = false :=by simp;omega
    go_enter Tryz.func186,Tryz.ntmps186
    go_wp2_with (go_at_call 227;refine (hrc _).mono ?_;rintro e w1 ⟨rfl,k1⟩;have K1 :=Lib.hid k1;clear k1)
    go_loopw [8,12] (fun t8 t12 wr => ∃ (k r : Nat) (ts : List Nat),k ≤ n ∧ t12 = .int .i64 ((k : Int) - 1) ∧ t8 = .int .u64 r ∧ r < y ∧ ts.length = n - k ∧ Row .u64 wr bz (oz + k) ts ∧ Lt W64 ts ∧
      val W64 (xs.drop k) = val W64 ts * y + r ∧ Chg w wr (In bz oz n)) (fun _ t12 _ => (intOf t12 + 1).toNat)
    case atStart => exact ⟨n,0,[],Nat.le_refl _,rfl,rfl,by omega,by simp,Row.nil,Lt.nil,by rw [List.drop_eq_nil_of_le (by omega)];simp [val],K1.out.any _⟩
    case round =>
      obtain ⟨k,r,ts,hk,rfl,rfl,hr,hlt,hrow,hts,hval,hchg⟩ :=hrel
      rcases Nat.eq_zero_or_pos k with rfl | hkp
      · go_wp2
        go_ret
        simp only [Nat.add_zero,Nat.sub_zero,List.drop_zero] at *
        obtain ⟨d1,d2⟩ :=divmod_of hval.symm hr
        rw [d2]
        exact ⟨ts,rfl,hlt,hrow,hts,d1.symm,hchg⟩
      · obtain ⟨k,rfl⟩ : ∃ j,k = j + 1 :=⟨k - 1,by omega⟩
        have gx : xs[k]? = some xs[k] :=List.getElem?_eq_getElem (by omega)
        have bx1 : xs[k] < W64 :=hbx _ (List.getElem_mem _)
        have hdv :=drop_get gx
        generalize xs[k] = x at gx bx1 hdv
        have cx1 :=hx k x gx
        have cx2 : wr.cell? ⟨bx,ox + k,none⟩ = some (.int .u64 x) :=by
          rw [hchg.cell bx (ox + k) (lt_of_cell cx1) (fun h => fx h.1)];exact cx1
        obtain ⟨⟨u,hu⟩,hf⟩ :=(hz.chg hchg) k (by omega)
        have e1 : (((k + 1 : Nat) : Int) - 1) = (k : Int) :=by omega
        rw [e1]
        have hd :=divWW r x y hy h0 hr bx1
        have hq : (r * W64 + x) / y < W64 :=by
          rw [Nat.div_lt_iff_lt_mul (by omega)]
          have :=Nat.mul_le_mul_right W64 (show r + 1 ≤ y from hr)
          rw [Nat.add_mul,Nat.one_mul,Nat.mul_comm y] at this
          omega
        have hdm :=(Nat.div_add_mod (r * W64 + x) y).symm
        have hrl : (r * W64 + x) % y < y :=Nat.mod_lt _ (by omega)
        generalize (r * W64 + x) / y = q at *
        generalize (r * W64 + x) % y = r' at *
        have hv : val W64 (xs.drop k) = x + W64 * val W64 (xs.drop (k + 1)) :=by rw [hdv];rfl
        have hst :=div_step hval hdm hv
        have HH :=Lib.hid (And.intro hst (And.intro hrow (And.intro hts (And.intro hchg hlt))))
        clear hst hv hdm hdv gx hval hrow hts hchg hlt
        go_wp2_with (go_at_call 228;refine (hd _).mono ?_;rintro e w2 ⟨rfl,hw⟩;rw [hw];clear hw)
        obtain ⟨hst,hrow,hts,hchg,hlt⟩ :=HH.out
        go_roundw
        case rel =>
          refine ⟨k,r',q :: ts,by omega,rfl,rfl,hrl,by simp [hlt];omega,?_,?_,hst,?_⟩
          · rw [show oz + (k + 1) = oz + k + 1 by omega] at hrow
            exact Row.consAt q hrow ⟨u,hu⟩
          · intro z hz
            rcases List.mem_cons.1 hz with rfl | hz
            · exact hq
            · exact hts z hz
          · exact hchg.trans (Chg.setCell wr bz (oz + k) (.int .u64 q) (In bz oz n) fun _ => ⟨rfl,by omega,by omega⟩) fun _ _ _ h => h
        case measure => simp [intOf]
def GotDivW (w : World) (s : Option Addr) (c X y : Nat) (e : Ending) (w' : World) : Prop :=∃ s' n' c',e = .returned (.tuple #[.slice s' n' c',.int .u64 (X % y : Nat)]) ∧ NatAt w' s' n' c' (X / y) ∧ Fr w s c s' c' ∧ Chg w w' (Blk s)
theorem nat_divW (w : World) (s sx : Option Addr) (n0 c n cx X y : Nat) (hc : SlOk w s c) (hcc : c ≤ (8388607 * Big + 1099511627775)) (hx : NatAt w sx n cx X) (hy : y < W64) (h0 : y ≠ 0) (dx : Dis sx s) :
    Calls Tryz.prog 157 #[.slice s n0 c,.slice sx n cx,.int .u64 y] w (GotDivW w s c X y) :=by
  have hz0 : ((y : Int) == 0) = false :=by simp;omega
  by_cases h1 : y = 1
  · subst h1
    have hs :=nat_set' w s sx n0 c n cx X hc hcc hx
    go_enter Tryz.func157,Tryz.ntmps157
    go_wp2_with (go_at_call 126;refine hs.mono ?_;rintro e w1 ⟨s',n',c',rfl,k1,k2,k3⟩)
    first | go_ret2 | refine ⟨_,results_tmp2 rfl _ _ _,?_⟩
    exact ⟨s',n',c',by simp [Nat.mod_one],by simpa using k1,k2,k3⟩
  · have hz1 : ((y : Int) == 1) = false :=by simp;omega
    have hnB :=hx.ok.2.2.1
    by_cases hn : n = 0
    · subst hn
      obtain rfl :=hx.zero
      unfold Big at hcc
      go_enter Tryz.func157,Tryz.ntmps157
      go_wp2
      first | go_ret2 | refine ⟨_,results_tmp2 rfl _ _ _,?_⟩
      exact ⟨s,0,c,by simp,by simpa using sliceNil_nat hc (by unfold Big;omega),.inl ⟨rfl,rfl⟩,Chg.refl _ _⟩
    · obtain ⟨n,rfl⟩ : ∃ k,n = k + 1 :=⟨n - 1,by omega⟩
      have hmk :=nat_make w s n0 c (n + 1) hc hnB (by unfold Big at *;omega)
      obtain ⟨bx,ox,xs,rfl,hrx,hlx,hltx,-,rfl,hwx,nfx,hx1,hx2,hbx⟩ :=hx.open
      clear hx
      unfold Big at hcc hx2 hnB
      unfold W64 at hy
      have hn0 : ((n : Int) + 1 == 0) = false :=by simp;omega
      go_enter Tryz.func157,Tryz.ntmps157
      go_wp2_with (first
        | (go_at_call 134;refine hmk.mono ?_;rintro e w1 ⟨s',c',rfl,h1,h2,h3,h4,h5⟩;obtain ⟨b,o,rfl,hw,hf,hb⟩ :=h3.pos (by omega))
        | (go_at_call 186;refine (divWVW w1 b o bx ox (n + 1) c' cx y xs (by omega) (by unfold Big;omega) hy h0 (hrx.keep h5) hlx hltx (fun j hj => hw j (by omega)) (dx.ne h4 hbx)).mono ?_;rintro e w2 ⟨zs,rfl,g1,g2,g3,g4,g5⟩)
        | (go_at_call 106;refine (nat_norm _ _ (n + 1) c' zs (.inr ⟨b,o,rfl,g2⟩) g1 (by omega) h1).mono ?_;rintro e w3 ⟨rfl,hw3⟩;rw [hw3];clear hw3))
      first | go_ret2 | refine ⟨_,results_tmp2 rfl _ _ _,?_⟩
      refine ⟨_,_,c',rfl,trim_nat (by omega) (by unfold Big at *;omega) (by unfold Big;omega) (h3.chg g5) (.inr ⟨b,o,rfl,g2⟩) g3 g4,h4,?_⟩
      exact (h5.any (Blk s)).fr h4 rfl g5 fun _ _ h => h.1
end Go.Proofs.YtfmmdamgcpiciaaGreatDoor
