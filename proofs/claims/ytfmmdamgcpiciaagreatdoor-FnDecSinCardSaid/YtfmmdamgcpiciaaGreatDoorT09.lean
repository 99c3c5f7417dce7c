/- A part of the proof, joined out of the texts P2, S2; each theorem bears its own conditions. -/
import Derived.Test.YtfmmdamgcpiciaaGreatDoorT08
set_option linter.unusedVariables false
set_option linter.unusedSimpArgs false
set_option linter.all false
set_option maxHeartbeats 9000000
set_option maxRecDepth 1000000
namespace Go.Proofs.YtfmmdamgcpiciaaGreatDoor
open Go Go.RowKit
theorem put2_box (W : World) (x y x' y' : Value) : put2 (Box W x y) W.heap.size x' y' = Box W x' y' :=by simp only [put2,Box];rw [World.setCell_alloc_new,World.setCell_alloc_new];rfl
theorem Fm.subV {w0 w : World} {L V V'} (h : Fm w0 w L V) (hs : V'.Sublist V) : Fm w0 w L V' :=
  ⟨h.big,h.glob,h.globF,h.kept,fun p hp => by
    obtain ⟨s,n,c,h1,h2⟩ :=h.ints p hp
    exact ⟨s,n,c,h1,fun v hv => h2 v (hs.subset hv)⟩,fun v hv => h.vars v (hs.subset hv),h.dist.sublist hs⟩
abbrev mulF (A B R : Dc) : Prop :=∀ W ba bb,Glob W → IntAt W ba A.m → IntAt W bb B.m → Calls Tryz.prog 67 #[dv ba A.e,dv bb B.e] W (NewDec W R.m R.e)
abbrev addF (A B R : Dc) : Prop :=∀ W ba bb,Glob W → IntAt W ba A.m → IntAt W bb B.m → Calls Tryz.prog 70 #[dv ba A.e,dv bb B.e] W (NewDec W R.m R.e)
abbrev subF (A B R : Dc) : Prop :=∀ W ba bb,Glob W → IntAt W ba A.m → IntAt W bb B.m → Calls Tryz.prog 72 #[dv ba A.e,dv bb B.e] W (NewDec W R.m R.e)
theorem Bd.le {A : Dc} {k l : Nat} (h : Bd A k) (hl : k ≤ l) : Bd A l :=Nat.le_trans h (Nat.pow_le_pow_right (by decide) hl)
theorem hstep {A U C M B : Dc} (n : Nat) (hA : Bd A n) (hU : Bd U 62) (hC : Bd C 17) (x1 : -62 ≤ U.e) (x2 : U.e ≤ -60) (y1 : -340 ≤ A.e) (y2 : A.e ≤ -16) (z1 : -27 ≤ C.e) (z2 : C.e ≤ -16) (hn : n ≤ 300) (hs : C.e - A.e - U.e + 17 < n + 63) (hM : A.mul U = M) (hB : M.add C = B) :
    mulF A U M ∧ addF M C B ∧ Bd B (n + 63) ∧ B.e = A.e + U.e :=by
  have hMb : Bd M (n + 62) :=hM ▸ hA.mul hU
  have hMe : M.e = A.e + U.e :=by rw [← hM];rfl
  have hBe : B.e = min M.e C.e :=by rw [← hB];rfl
  have hmin : min M.e C.e = M.e :=by omega
  refine ⟨fun W ba bb hg h1 h2 => ?_,fun W ba bb hg h1 h2 => ?_,?_,by omega⟩
  · have :=dec_mulD W hg ba bb A U n 62 h1 h2 hA hU (by omega) (by omega) (by omega) (by omega) (by omega) (by omega) (by omega)
    rw [hM] at this;exact this
  · have :=dec_addD W hg ba bb M C (n + 62) 17 h1 h2 hMb hC (by omega) (by omega) (by omega) (by omega) (by omega) (by omega) (by omega) (by omega) (by omega) (by omega)
    rw [hB] at this;exact this
  · rw [← hB]
    exact hMb.add hC (s :=0) (t :=(C.e - M.e).toNat) (by omega) (by omega) (by omega) (by omega)
def hor (U : Dc) : Dc → List Dc → Dc
  | A,[] => A
  | A,C :: r => hor U ((A.mul U).add C) r
theorem series (U : Dc) (hU : Bd U 62) (x1 : -62 ≤ U.e) (x2 : U.e ≤ -60) (C0 C1 C2 C3 C4 C5 A5 : Dc) (hC : ∀ C ∈ [C0,C1,C2,C3,C4,C5],Bd C 17 ∧ -27 ≤ C.e ∧ C.e ≤ -16) (h5 : hor U C0 [C1,C2,C3,C4,C5] = A5) :
    ∃ M1 A1 M2 A2 M3 A3 M4 A4 M5 : Dc,mulF C0 U M1 ∧ addF M1 C1 A1 ∧ mulF A1 U M2 ∧ addF M2 C2 A2 ∧ mulF A2 U M3 ∧ addF M3 C3 A3 ∧ mulF A3 U M4 ∧ addF M4 C4 A4 ∧ mulF A4 U M5 ∧ addF M5 C5 A5 ∧ Bd A5 345 ∧ A5.e = C0.e + 5 * U.e :=by
  obtain ⟨b0,l0,u0⟩ :=hC C0 (by simp)
  obtain ⟨b1,l1,u1⟩ :=hC C1 (by simp)
  obtain ⟨b2,l2,u2⟩ :=hC C2 (by simp)
  obtain ⟨b3,l3,u3⟩ :=hC C3 (by simp)
  obtain ⟨b4,l4,u4⟩ :=hC C4 (by simp)
  obtain ⟨b5,l5,u5⟩ :=hC C5 (by simp)
  obtain ⟨p1,q1,r1,s1⟩ :=hstep 30 (b0.le (by decide)) hU b1 x1 x2 (by omega) (by omega) l1 u1 (by omega) (by omega) (M :=C0.mul U) (B :=(C0.mul U).add C1) rfl rfl
  obtain ⟨A1,hA1⟩ : ∃ S,(C0.mul U).add C1 = S :=⟨_,rfl⟩
  rw [hA1] at q1 r1 s1
  obtain ⟨p2,q2,r2,s2⟩ :=hstep 93 r1 hU b2 x1 x2 (by omega) (by omega) l2 u2 (by omega) (by omega) (M :=A1.mul U) (B :=(A1.mul U).add C2) rfl rfl
  obtain ⟨A2,hA2⟩ : ∃ S,(A1.mul U).add C2 = S :=⟨_,rfl⟩
  rw [hA2] at q2 r2 s2
  obtain ⟨p3,q3,r3,s3⟩ :=hstep 156 r2 hU b3 x1 x2 (by omega) (by omega) l3 u3 (by omega) (by omega) (M :=A2.mul U) (B :=(A2.mul U).add C3) rfl rfl
  obtain ⟨A3,hA3⟩ : ∃ S,(A2.mul U).add C3 = S :=⟨_,rfl⟩
  rw [hA3] at q3 r3 s3
  obtain ⟨p4,q4,r4,s4⟩ :=hstep 219 r3 hU b4 x1 x2 (by omega) (by omega) l4 u4 (by omega) (by omega) (M :=A3.mul U) (B :=(A3.mul U).add C4) rfl rfl
  obtain ⟨A4,hA4⟩ : ∃ S,(A3.mul U).add C4 = S :=⟨_,rfl⟩
  rw [hA4] at q4 r4 s4
  have hA5 : (A4.mul U).add C5 = A5 :=by rw [← h5,← hA4,← hA3,← hA2,← hA1];rfl
  obtain ⟨p5,q5,r5,s5⟩ :=hstep 282 r4 hU b5 x1 x2 (by omega) (by omega) l5 u5 (by omega) (by omega) (M :=A4.mul U) (B :=A5) rfl hA5
  exact ⟨_,_,_,_,_,_,_,_,_,p1,q1,p2,q2,p3,q3,p4,q4,p5,q5,r5,by omega⟩
theorem index94 (a : Array Value) (i : Nat) (hi : i < 6) (w : World) : (Instr.index 94 (.agg a) (.int .i64 (i : Int))).run Tryz.prog w = .ok (.agg (a.extract (i * 2) (i * 2 + 2))) w :=by
  have h : Tryz.prog.underlying 94 = some (.array 6 55) :=by kernel_rfl
  have hn : (0 ≤ (i : Int) ∧ (i : Int) < ((6 : Nat) : Int)) :=by omega
  have hs : (Tryz.prog.types[55]?.getD default).size = 2 :=by kernel_rfl
  simp [Instr.index,run_underlying h,asIntOf,hn,go_sem]
  omega
@[go_sem] theorem index94_0 (a0 a1 a2 a3 a4 a5 a6 a7 a8 a9 a10 a11 : Value) (w : World) : (Instr.index 94 (.agg #[a0,a1,a2,a3,a4,a5,a6,a7,a8,a9,a10,a11]) (.int .i64 0)).run Tryz.prog w = .ok (.agg #[a0,a1]) w :=index94 #[a0,a1,a2,a3,a4,a5,a6,a7,a8,a9,a10,a11] 0 (by decide) w
@[go_sem] theorem index94_1 (a0 a1 a2 a3 a4 a5 a6 a7 a8 a9 a10 a11 : Value) (w : World) : (Instr.index 94 (.agg #[a0,a1,a2,a3,a4,a5,a6,a7,a8,a9,a10,a11]) (.int .i64 1)).run Tryz.prog w = .ok (.agg #[a2,a3]) w :=index94 #[a0,a1,a2,a3,a4,a5,a6,a7,a8,a9,a10,a11] 1 (by decide) w
@[go_sem] theorem index94_2 (a0 a1 a2 a3 a4 a5 a6 a7 a8 a9 a10 a11 : Value) (w : World) : (Instr.index 94 (.agg #[a0,a1,a2,a3,a4,a5,a6,a7,a8,a9,a10,a11]) (.int .i64 2)).run Tryz.prog w = .ok (.agg #[a4,a5]) w :=index94 #[a0,a1,a2,a3,a4,a5,a6,a7,a8,a9,a10,a11] 2 (by decide) w
@[go_sem] theorem index94_3 (a0 a1 a2 a3 a4 a5 a6 a7 a8 a9 a10 a11 : Value) (w : World) : (Instr.index 94 (.agg #[a0,a1,a2,a3,a4,a5,a6,a7,a8,a9,a10,a11]) (.int .i64 3)).run Tryz.prog w = .ok (.agg #[a6,a7]) w :=index94 #[a0,a1,a2,a3,a4,a5,a6,a7,a8,a9,a10,a11] 3 (by decide) w
@[go_sem] theorem index94_4 (a0 a1 a2 a3 a4 a5 a6 a7 a8 a9 a10 a11 : Value) (w : World) : (Instr.index 94 (.agg #[a0,a1,a2,a3,a4,a5,a6,a7,a8,a9,a10,a11]) (.int .i64 4)).run Tryz.prog w = .ok (.agg #[a8,a9]) w :=index94 #[a0,a1,a2,a3,a4,a5,a6,a7,a8,a9,a10,a11] 4 (by decide) w
@[go_sem] theorem index94_5 (a0 a1 a2 a3 a4 a5 a6 a7 a8 a9 a10 a11 : Value) (w : World) : (Instr.index 94 (.agg #[a0,a1,a2,a3,a4,a5,a6,a7,a8,a9,a10,a11]) (.int .i64 5)).run Tryz.prog w = .ok (.agg #[a10,a11]) w :=index94 #[a0,a1,a2,a3,a4,a5,a6,a7,a8,a9,a10,a11] 5 (by decide) w
def sinC (i : Nat) : Dc :=match i with
  | 0 => ⟨15896230157654656,-26⟩ | 1 => ⟨-25050747762857807,-24⟩ | 2 => ⟨27557313621385722,-22⟩ | 3 => ⟨-1984126982958954,-19⟩ | 4 => ⟨8333333333322118,-18⟩ | _ => ⟨-1666666666666663,-16⟩
def cosC (i : Nat) : Dc :=match i with
  | 0 => ⟨-11358536521387682,-27⟩ | 1 => ⟨2087570084197473,-24⟩ | 2 => ⟨-2755731417929674,-22⟩ | 3 => ⟨24801587288851704,-21⟩ | 4 => ⟨-13888888888873056,-19⟩ | _ => ⟨41666666666666595,-18⟩
def sinP (U : Dc) : Dc :=hor U (sinC 0) [sinC 1,sinC 2,sinC 3,sinC 4,sinC 5]
def cosP (U : Dc) : Dc :=hor U (cosC 0) [cosC 1,cosC 2,cosC 3,cosC 4,cosC 5]
def sinD (Z : Dc) : Dc :=Z.add ((Z.mul (Z.mul Z)).mul (sinP (Z.mul Z)))
def cosD (Z : Dc) : Dc :=((⟨1,0⟩ : Dc).sub ((⟨5,-1⟩ : Dc).mul (Z.mul Z))).add (((Z.mul Z).mul (Z.mul Z)).mul (cosP (Z.mul Z)))
theorem sinC_all : ∀ C ∈ [sinC 0,sinC 1,sinC 2,sinC 3,sinC 4,sinC 5],Bd C 17 ∧ -27 ≤ C.e ∧ C.e ≤ -16 :=by
  simp only [List.forall_mem_cons,List.not_mem_nil,false_imp_iff,implies_true,and_true,sinC,Bd]
  decide
theorem cosC_all : ∀ C ∈ [cosC 0,cosC 1,cosC 2,cosC 3,cosC 4,cosC 5],Bd C 17 ∧ -27 ≤ C.e ∧ C.e ≤ -16 :=by
  simp only [List.forall_mem_cons,List.not_mem_nil,false_imp_iff,implies_true,and_true,cosC,Bd]
  decide
theorem sin_steps (Z U : Dc) (hU : Z.mul Z = U) (hZ : Bd Z 31) (z1 : -31 ≤ Z.e) (z2 : Z.e ≤ -30) : ∃ M1 A1 M2 A2 M3 A3 M4 A4 M5 A5 V1 V2 : Dc,mulF Z U V1 ∧ mulF (sinC 0) U M1 ∧ addF M1 (sinC 1) A1 ∧ mulF A1 U M2 ∧ addF M2 (sinC 2) A2 ∧ mulF A2 U M3 ∧ addF M3 (sinC 3) A3 ∧ mulF A3 U M4 ∧ addF M4 (sinC 4) A4 ∧ mulF A4 U M5 ∧ addF M5 (sinC 5) A5 ∧ mulF V1 A5 V2 ∧ addF Z V2 (sinD Z) ∧ Bd (sinD Z) 470 ∧ -430 ≤ (sinD Z).e ∧ (sinD Z).e ≤ 0 :=by
  have hUb : Bd U 62 :=hU ▸ hZ.mul hZ
  have hUe : U.e = Z.e + Z.e :=by rw [← hU];rfl
  obtain ⟨M1,A1,M2,A2,M3,A3,M4,A4,M5,p1,q1,p2,q2,p3,q3,p4,q4,p5,q5,r5,s5⟩ :=series U hUb (by omega) (by omega) (sinC 0) (sinC 1) (sinC 2) (sinC 3) (sinC 4) (sinC 5) (sinP U) sinC_all rfl
  obtain ⟨A5,hA5⟩ : ∃ S,sinP U = S :=⟨_,rfl⟩
  rw [hA5] at q5 r5 s5
  have hc0 : (sinC 0).e = -26 :=rfl
  obtain ⟨V1,hV1⟩ : ∃ S,Z.mul U = S :=⟨_,rfl⟩
  have hV1b : Bd V1 93 :=hV1 ▸ hZ.mul hUb
  have hV1e : V1.e = Z.e + U.e :=by rw [← hV1];rfl
  obtain ⟨V2,hV2⟩ : ∃ S,V1.mul A5 = S :=⟨_,rfl⟩
  have hV2b : Bd V2 438 :=hV2 ▸ hV1b.mul r5
  have hV2e : V2.e = V1.e + A5.e :=by rw [← hV2];rfl
  have hR : sinD Z = Z.add V2 :=by unfold sinD;rw [hU,hV1,hA5,hV2]
  have hRe : (sinD Z).e = min Z.e V2.e :=by rw [hR];rfl
  refine ⟨M1,A1,M2,A2,M3,A3,M4,A4,M5,A5,V1,V2,fun W ba bb hg h1 h2 => ?_,p1,q1,p2,q2,p3,q3,p4,q4,p5,q5,fun W ba bb hg h1 h2 => ?_,fun W ba bb hg h1 h2 => ?_,?_,by omega,by omega⟩
  · have :=dec_mulD W hg ba bb Z U 31 62 h1 h2 hZ hUb (by omega) (by omega) (by omega) (by omega) (by omega) (by omega) (by omega)
    rw [hV1] at this;exact this
  · have :=dec_mulD W hg ba bb V1 A5 93 345 h1 h2 hV1b r5 (by omega) (by omega) (by omega) (by omega) (by omega) (by omega) (by omega)
    rw [hV2] at this;exact this
  · have :=dec_addD W hg ba bb Z V2 31 438 h1 h2 hZ hV2b (by omega) (by omega) (by omega) (by omega) (by omega) (by omega) (by omega) (by omega) (by omega) (by omega)
    rw [← hR] at this;exact this
  · rw [hR]
    exact hZ.add hV2b (s :=402) (t :=0) (by omega) (by omega) (by omega) (by omega)
theorem cos_steps (Z U : Dc) (hU : Z.mul Z = U) (hZ : Bd Z 31) (z1 : -31 ≤ Z.e) (z2 : Z.e ≤ -30) : ∃ M1 A1 M2 A2 M3 A3 M4 A4 M5 A5 V1 V2 H D : Dc,mulF U U V1 ∧ mulF (cosC 0) U M1 ∧ addF M1 (cosC 1) A1 ∧ mulF A1 U M2 ∧ addF M2 (cosC 2) A2 ∧ mulF A2 U M3 ∧ addF M3 (cosC 3) A3 ∧ mulF A3 U M4 ∧ addF M4 (cosC 4) A4 ∧ mulF A4 U M5 ∧ addF M5 (cosC 5) A5 ∧ mulF V1 A5 V2 ∧ mulF ⟨5,-1⟩ U H ∧ subF ⟨1,0⟩ H D ∧ addF D V2 (cosD Z) ∧ Bd (cosD Z) 500 ∧ -465 ≤ (cosD Z).e ∧ (cosD Z).e ≤ 0 :=by
  have hUb : Bd U 62 :=hU ▸ hZ.mul hZ
  have hUe : U.e = Z.e + Z.e :=by rw [← hU];rfl
  obtain ⟨M1,A1,M2,A2,M3,A3,M4,A4,M5,p1,q1,p2,q2,p3,q3,p4,q4,p5,q5,r5,s5⟩ :=series U hUb (by omega) (by omega) (cosC 0) (cosC 1) (cosC 2) (cosC 3) (cosC 4) (cosC 5) (cosP U) cosC_all rfl
  obtain ⟨A5,hA5⟩ : ∃ S,cosP U = S :=⟨_,rfl⟩
  rw [hA5] at q5 r5 s5
  have hc0 : (cosC 0).e = -27 :=rfl
  obtain ⟨V1,hV1⟩ : ∃ S,U.mul U = S :=⟨_,rfl⟩
  have hV1b : Bd V1 124 :=hV1 ▸ hUb.mul hUb
  have hV1e : V1.e = U.e + U.e :=by rw [← hV1];rfl
  obtain ⟨V2,hV2⟩ : ∃ S,V1.mul A5 = S :=⟨_,rfl⟩
  have hV2b : Bd V2 469 :=hV2 ▸ hV1b.mul r5
  have hV2e : V2.e = V1.e + A5.e :=by rw [← hV2];rfl
  obtain ⟨H,hH⟩ : ∃ S,(⟨5,-1⟩ : Dc).mul U = S :=⟨_,rfl⟩
  have h5 : Bd ⟨5,-1⟩ 1 :=by unfold Bd;decide
  have h1' : Bd ⟨1,0⟩ 1 :=by unfold Bd;decide
  have hHb : Bd H 63 :=hH ▸ h5.mul hUb
  have hHe : H.e = -1 + U.e :=by rw [← hH];rfl
  obtain ⟨D,hD⟩ : ∃ S,(⟨1,0⟩ : Dc).sub H = S :=⟨_,rfl⟩
  have hDe : D.e = min 0 H.e :=by rw [← hD];rfl
  have hDb : Bd D 66 :=by
    rw [← hD]
    exact h1'.sub hHb (s :=63) (t :=0) (by simp only;omega) (by simp only;omega) (by omega) (by omega)
  have hR : cosD Z = D.add V2 :=by unfold cosD;rw [hU,hV1,hA5,hV2,hH,hD]
  have hRe : (cosD Z).e = min D.e V2.e :=by rw [hR];rfl
  refine ⟨M1,A1,M2,A2,M3,A3,M4,A4,M5,A5,V1,V2,H,D,fun W ba bb hg h1 h2 => ?_,p1,q1,p2,q2,p3,q3,p4,q4,p5,q5,fun W ba bb hg h1 h2 => ?_,fun W ba bb hg h1 h2 => ?_,fun W ba bb hg h1 h2 => ?_,fun W ba bb hg h1 h2 => ?_,?_,by omega,by omega⟩
  · have :=dec_mulD W hg ba bb U U 62 62 h1 h2 hUb hUb (by omega) (by omega) (by omega) (by omega) (by omega) (by omega) (by omega)
    rw [hV1] at this;exact this
  · have :=dec_mulD W hg ba bb V1 A5 124 345 h1 h2 hV1b r5 (by omega) (by omega) (by omega) (by omega) (by omega) (by omega) (by omega)
    rw [hV2] at this;exact this
  · have :=dec_mulD W hg ba bb ⟨5,-1⟩ U 1 62 h1 h2 h5 hUb (by omega) (by omega) (by omega) (by decide) (by decide) (by omega) (by omega)
    rw [hH] at this;exact this
  · have :=dec_subD W hg ba bb ⟨1,0⟩ H 1 63 h1 h2 h1' hHb (by omega) (by omega) (by decide) (by decide) (by omega) (by omega) (by simp only;omega) (by simp only;omega) (by simp only;omega) (by simp only;omega)
    rw [hD] at this;exact this
  · have :=dec_addD W hg ba bb D V2 66 469 h1 h2 hDb hV2b (by omega) (by omega) (by omega) (by omega) (by omega) (by omega) (by omega) (by omega) (by omega) (by omega)
    rw [← hR] at this;exact this
  · rw [hR]
    exact hDb.add hV2b (s :=410) (t :=0) (by omega) (by omega) (by omega) (by omega)
end Go.Proofs.YtfmmdamgcpiciaaGreatDoor
namespace Go.Proofs.YtfmmdamgcpiciaaGreatDoor
open Go Go.RowKit
theorem planTwo {P : Program} {ops : List Oper} {W w : World} {N : Act → World → Prop} {i j : Nat} {p q : Plan} {a : Act}
    (h1 : wpList P ops.toArray (Exit.then (fun a' w' => Old W w' ∧ wpPlanL P ops W N p a' w') (fun _ _ _ => False)) (getAll ops [i]) a w)
    (h2 : wpList P ops.toArray (Exit.then (fun a' w' => Old W w' ∧ wpPlanL P ops W N q a' w') (fun _ _ _ => False)) (getAll ops [j]) a w) : wpPlanL P ops W N (.two i j p q) a w :=⟨h1,h2⟩
theorem planFin {P : Program} {ops : List Oper} {W w : World} {N : Act → World → Prop} {s : List Nat} {a : Act}
    (h : wpList P ops.toArray (Exit.then (fun a' w' => fineSeg P ops.toArray s a' = true ∧ N a' w') (fun _ _ _ => False)) (getAll ops s) a w) : wpPlanL P ops W N (.seg s .fin) a w :=h
theorem planSeg {P : Program} {ops : List Oper} {W w : World} {N : Act → World → Prop} {s : List Nat} {n : Plan} {a : Act}
    (h : wpList P ops.toArray (Exit.then (fun a' w' => fineSeg P ops.toArray s a' = true ∧ Old W w' ∧ wpPlanL P ops W N n a' w') (fun _ _ _ => False)) (getAll ops s) a w) : wpPlanL P ops W N (.seg s n) a w :=by
  cases n
  · exact wpList_mono_norm (M :=fun a' w' => fineSeg P ops.toArray s a' = true ∧ Old W w' ∧ wpPlanL P ops W N .fin a' w') (fun a' w' hx => ⟨hx.1,hx.2.2⟩) _ _ _ h
  · exact h
  · exact h
def regionN (n : Nat) : Code → Option Code
  | .region i o d => if i = n then some (.region i o d) else none
  | .loop c => regionN n c
  | .seq a b => match regionN n a with
    | some c => some c
    | none => regionN n b
  | .block _ c => regionN n c
  | .scope c => regionN n c
  | .cond _ a b => match regionN n a with
    | some c => some c
    | none => regionN n b
  | _ => none
def opsOf : Code → List Oper
  | .region _ ⟨l⟩ _ => l
  | _ => []
noncomputable def sin20 : Code :=((Tryz.f32.body.bind (regionN 20)).getD .skip)
noncomputable def sin20ops : List Oper :=opsOf sin20
def S20End (w : World) (N : Act → World → Prop) (V : List (Nat × Value × Value)) (vU bU : Nat) (U V2 : Dc) (c0 c1 c2 c3 c4 c5 c6 c7 c8 c9 c10 c13 c14 c15 c16 c17 c18 c19 c20 c21 c22 c23 c24 c25 c26 c27 c28 c29 c30 c31 c32 c33 c34 c35 c36 c37 c38 c39 c40 c41 c42 c43 c44 c45 c46 c47 c48 c49 c50 c51 c52 c53 c54 c55 c56 c57 c58 c59 c60 c61 c62 c63 c64 c65 c66 c67 c68 : Value) : Prop :=
  ∀ u69 u70 u71 u72 u73 u74 u75 u76 u77 u78 u79 u80 u81 u82 u83 u84 u85 u86 u87 u88 u89 u90 u91 u92 u93 u94 u95 u96 u97 u98 u99 u100 u101 u102 u103 u104 u105 u106 u107 u108 u109 u110 u111 u112 u113 u114 u115 u116 u117 u118 u119 u120 u121 u122 u123 u124 u125 u126 u127 u128 u129 u130 u131 u132 u133 u134 u135 u136 u137 u138 u139 u140 u141 u142 u143 wx vw bw,Fm w wx [(bw,V2.m),(bU,U.m)] ((vw,ptr bw,.int .i32 V2.e) :: (vU,ptr bU,.int .i32 U.e) :: V) → N ⟨#[c0,c1,c2,c3,c4,c5,c6,c7,c8,c9,c10,ptr vU,ptr vw,c13,c14,c15,c16,c17,c18,c19,c20,c21,c22,c23,c24,c25,c26,c27,c28,c29,c30,c31,c32,c33,c34,c35,c36,c37,c38,c39,c40,c41,c42,c43,c44,c45,c46,c47,c48,c49,c50,c51,c52,c53,c54,c55,c56,c57,c58,c59,c60,c61,c62,c63,c64,c65,c66,c67,c68,u69,u70,u71,u72,u73,u74,u75,u76,u77,u78,u79,u80,u81,u82,u83,u84,u85,u86,u87,u88,u89,u90,u91,u92,u93,u94,u95,u96,u97,u98,u99,u100,u101,u102,u103,u104,u105,u106,u107,u108,u109,u110,u111,u112,u113,u114,u115,u116,u117,u118,u119,u120,u121,u122,u123,u124,u125,u126,u127,u128,u129,u130,u131,u132,u133,u134,u135,u136,u137,u138,u139,u140,u141,u142,u143],[]⟩ wx
abbrev p20_r27 : Plan :=.seg [32] .fin
abbrev p20_t26 : Plan :=.seg [31] p20_r27
abbrev p20_r28 : Plan :=.seg [30] p20_r27
abbrev p20_t25 : Plan :=.two 30 31 p20_t26 p20_r28
abbrev p20_r29 : Plan :=.seg [29] p20_r28
abbrev p20_t24 : Plan :=.two 29 31 p20_t25 p20_r29
abbrev p20_t23 : Plan :=.seg [28] p20_t24
abbrev p20_r31 : Plan :=.seg [28,29] p20_r28
abbrev p20_r30 : Plan :=.seg [27] p20_r31
abbrev p20_t22 : Plan :=.two 27 31 p20_t23 p20_r30
abbrev p20_r32 : Plan :=.seg [26] p20_r30
abbrev p20_t21 : Plan :=.two 26 31 p20_t22 p20_r32
abbrev p20_r33 : Plan :=.seg [24] p20_r32
abbrev p20_t20 : Plan :=.two 24 31 p20_t21 p20_r33
abbrev p20_t19 : Plan :=.seg [23] p20_t20
abbrev p20_r35 : Plan :=.seg [23,24] p20_r32
abbrev p20_r34 : Plan :=.seg [22] p20_r35
abbrev p20_t18 : Plan :=.two 22 31 p20_t19 p20_r34
abbrev p20_r36 : Plan :=.seg [21] p20_r34
abbrev p20_t17 : Plan :=.two 21 31 p20_t18 p20_r36
abbrev p20_r37 : Plan :=.seg [19] p20_r36
abbrev p20_t16 : Plan :=.two 19 31 p20_t17 p20_r37
abbrev p20_t15 : Plan :=.seg [18] p20_t16
abbrev p20_r39 : Plan :=.seg [18,19] p20_r36
abbrev p20_r38 : Plan :=.seg [17] p20_r39
abbrev p20_t14 : Plan :=.two 17 31 p20_t15 p20_r38
abbrev p20_r40 : Plan :=.seg [16] p20_r38
abbrev p20_t13 : Plan :=.two 16 31 p20_t14 p20_r40
abbrev p20_r41 : Plan :=.seg [14] p20_r40
abbrev p20_t12 : Plan :=.two 14 31 p20_t13 p20_r41
abbrev p20_t11 : Plan :=.seg [13] p20_t12
abbrev p20_r43 : Plan :=.seg [13,14] p20_r40
abbrev p20_r42 : Plan :=.seg [12] p20_r43
abbrev p20_t10 : Plan :=.two 12 31 p20_t11 p20_r42
abbrev p20_r44 : Plan :=.seg [11] p20_r42
abbrev p20_t9 : Plan :=.two 11 31 p20_t10 p20_r44
abbrev p20_r45 : Plan :=.seg [9] p20_r44
abbrev p20_t8 : Plan :=.two 9 31 p20_t9 p20_r45
abbrev p20_t7 : Plan :=.seg [8] p20_t8
abbrev p20_r47 : Plan :=.seg [8,9] p20_r44
abbrev p20_r46 : Plan :=.seg [7] p20_r47
abbrev p20_t6 : Plan :=.two 7 31 p20_t7 p20_r46
abbrev p20_r48 : Plan :=.seg [6] p20_r46
abbrev p20_t5 : Plan :=.two 6 31 p20_t6 p20_r48
abbrev p20_t4 : Plan :=.seg [4] p20_t5
abbrev p20_r50 : Plan :=.seg [4,6] p20_r46
abbrev p20_r49 : Plan :=.seg [3] p20_r50
abbrev p20_t3 : Plan :=.two 3 31 p20_t4 p20_r49
abbrev p20_r51 : Plan :=.seg [2] p20_r49
abbrev p20_t2 : Plan :=.two 2 31 p20_t3 p20_r51
abbrev p20_t1 : Plan :=.seg [0,1,5,10,15,20,25] p20_t2
section
variable {w wd wx : World} {N : Act → World → Prop} {V : List (Nat × Value × Value)} {ops : List Oper} {vU bU vw bc bw g0 g1 g2 g3 g4 g5 bv1 bm1 bm2 bm3 bm4 bm5 ba1 ba2 ba3 ba4 ba5 : Nat} {U M1 A1 M2 A2 M3 A3 M4 A4 M5 A5 V1 V2 : Dc} {c0 c1 c2 c3 c4 c5 c6 c7 c8 c9 c10 c13 c14 c15 c16 c17 c18 c19 c20 c21 c22 c23 c24 c25 c26 c27 c28 c29 c30 c31 c32 c33 c34 c35 c36 c37 c38 c39 c40 c41 c42 c43 c44 c45 c46 c47 c48 c49 c50 c51 c52 c53 c54 c55 c56 c57 c58 c59 c60 c61 c62 c63 c64 c65 c66 c67 c68 u12 u69 u70 u71 u72 u73 u74 u75 u76 u77 u78 u79 u80 u81 u82 u83 u84 u85 u86 u87 u88 u89 u90 u91 u92 u93 u94 u95 u96 u97 u98 u99 u100 u101 u102 u103 u104 u105 u106 u107 u108 u109 u110 u111 u112 u113 u114 u115 u116 u117 u118 u119 u120 u121 u122 u123 u124 u125 u126 u127 u128 u129 u130 u131 u132 u133 u134 u135 u136 u137 u138 u139 u140 u141 u142 u143 : Value}
theorem s20_r27 (ho : ops = sin20ops) (kr : Kept wd wx) (F : Fm w wx [(bU,U.m),(bw,V2.m)] ((vw,.pointer none,.int .i32 0) :: (vU,ptr bU,.int .i32 U.e) :: V))
    (hN : S20End w N V vU bU U V2 c0 c1 c2 c3 c4 c5 c6 c7 c8 c9 c10 c13 c14 c15 c16 c17 c18 c19 c20 c21 c22 c23 c24 c25 c26 c27 c28 c29 c30 c31 c32 c33 c34 c35 c36 c37 c38 c39 c40 c41 c42 c43 c44 c45 c46 c47 c48 c49 c50 c51 c52 c53 c54 c55 c56 c57 c58 c59 c60 c61 c62 c63 c64 c65 c66 c67 c68) :
    wpPlanL Tryz.prog ops wd.drew N p20_r27 ⟨#[c0,c1,c2,c3,c4,c5,c6,c7,c8,c9,c10,ptr vU,ptr vw,c13,c14,c15,c16,c17,c18,c19,c20,c21,c22,c23,c24,c25,c26,c27,c28,c29,c30,c31,c32,c33,c34,c35,c36,c37,c38,c39,c40,c41,c42,c43,c44,c45,c46,c47,c48,c49,c50,c51,c52,c53,c54,c55,c56,c57,c58,c59,c60,c61,c62,c63,c64,c65,c66,c67,c68,u69,u70,u71,u72,u73,u74,u75,u76,u77,u78,u79,u80,u81,u82,u83,u84,u85,u86,u87,u88,u89,u90,u91,u92,u93,u94,u95,u96,u97,u98,dv bw V2.e,u100,u101,u102,u103,u104,u105,u106,u107,u108,u109,u110,u111,u112,u113,u114,u115,u116,u117,u118,u119,u120,u121,u122,u123,u124,u125,u126,u127,u128,u129,u130,u131,u132,u133,u134,u135,u136,u137,u138,u139,u140,u141,u142,u143],[]⟩ wx :=by
  subst ho
  (conv => arg 2;whnf)
  refine planFin ?_
  (conv => arg 4;simp only [gaC,gaN,lZ0,lS0,coS])
  obtain ⟨q0,q1,qf0,qf1⟩ :=F.at 0 rfl
  go_wp2_with (refine ⟨by kernel_rfl,?_⟩)
  exact hN _ _ _ _ _ _ _ _ _ _ _ _ _ _ _ _ _ _ _ _ _ _ _ _ _ _ _ _ _ _ _ _ _ _ _ _ _ _ _ _ _ _ _ _ _ _ _ _ _ _ _ _ _ _ _ _ _ _ _ _ _ _ _ _ _ _ _ _ _ _ _ _ _ _ _ _ _ bw ((Fm.put (V1 :=[]) (V2 :=(vU,ptr bU,.int .i32 U.e) :: V) F (ptr bw) (.int .i32 V2.e)).sub fun p hp => (by simp only [List.mem_cons,List.not_mem_nil,or_false] at hp ⊢;rcases hp with h | h <;> simp [h]))
theorem s20_t26 (ho : ops = sin20ops) (kr : Kept wd wx) (F : Fm w wx [(bU,U.m),(bw,V2.m)] ((vU,ptr bU,.int .i32 U.e) :: V))
    (hN : S20End w N V vU bU U V2 c0 c1 c2 c3 c4 c5 c6 c7 c8 c9 c10 c13 c14 c15 c16 c17 c18 c19 c20 c21 c22 c23 c24 c25 c26 c27 c28 c29 c30 c31 c32 c33 c34 c35 c36 c37 c38 c39 c40 c41 c42 c43 c44 c45 c46 c47 c48 c49 c50 c51 c52 c53 c54 c55 c56 c57 c58 c59 c60 c61 c62 c63 c64 c65 c66 c67 c68) :
    wpPlanL Tryz.prog ops wd.drew N p20_t26 ⟨#[c0,c1,c2,c3,c4,c5,c6,c7,c8,c9,c10,ptr vU,u12,c13,c14,c15,c16,c17,c18,c19,c20,c21,c22,c23,c24,c25,c26,c27,c28,c29,c30,c31,c32,c33,c34,c35,c36,c37,c38,c39,c40,c41,c42,c43,c44,c45,c46,c47,c48,c49,c50,c51,c52,c53,c54,c55,c56,c57,c58,c59,c60,c61,c62,c63,c64,c65,c66,c67,c68,u69,u70,u71,u72,u73,u74,u75,u76,u77,u78,u79,u80,u81,u82,u83,u84,u85,u86,u87,u88,u89,u90,u91,u92,u93,u94,u95,u96,u97,u98,dv bw V2.e,u100,u101,u102,u103,u104,u105,u106,u107,u108,u109,u110,u111,u112,u113,u114,u115,u116,u117,u118,u119,u120,u121,u122,u123,u124,u125,u126,u127,u128,u129,u130,u131,u132,u133,u134,u135,u136,u137,u138,u139,u140,u141,u142,u143],[]⟩ wx :=by
  subst ho
  (conv => arg 2;whnf)
  refine planSeg ?_
  (conv => arg 4;simp only [gaC,gaN,lZ0,lS0,coS])
  go_wp2_with (refine ⟨by kernel_rfl,oldD (kt kr (Chg.alloc _ _ _)),?_⟩)
  replace kr :=kt kr (boxK _ (.pointer none) (.int .i32 0))
  replace F :=F.box (.pointer none) (.int .i32 0)
  exact s20_r27 (by kernel_rfl) kr (F.sub (by simp))  hN
theorem s20_r28 (ho : ops = sin20ops) (kr : Kept wd wx) (F : Fm w wx [(bU,U.m),(bv1,V1.m),(ba5,A5.m)] ((vw,.pointer none,.int .i32 0) :: (vU,ptr bU,.int .i32 U.e) :: V)) (hv2 : mulF V1 A5 V2)
    (hN : S20End w N V vU bU U V2 c0 c1 c2 c3 c4 c5 c6 c7 c8 c9 c10 c13 c14 c15 c16 c17 c18 c19 c20 c21 c22 c23 c24 c25 c26 c27 c28 c29 c30 c31 c32 c33 c34 c35 c36 c37 c38 c39 c40 c41 c42 c43 c44 c45 c46 c47 c48 c49 c50 c51 c52 c53 c54 c55 c56 c57 c58 c59 c60 c61 c62 c63 c64 c65 c66 c67 c68) :
    wpPlanL Tryz.prog ops wd.drew N p20_r28 ⟨#[c0,c1,c2,c3,c4,c5,c6,c7,c8,c9,c10,ptr vU,ptr vw,c13,c14,c15,c16,c17,c18,c19,c20,c21,c22,c23,c24,c25,c26,c27,c28,c29,c30,c31,c32,c33,c34,c35,c36,c37,c38,c39,c40,c41,c42,c43,c44,c45,c46,c47,c48,c49,c50,c51,c52,c53,c54,c55,c56,c57,c58,c59,c60,c61,c62,c63,c64,c65,c66,c67,c68,u69,u70,dv bv1 V1.e,u72,u73,u74,u75,u76,u77,u78,u79,u80,u81,u82,u83,u84,u85,u86,u87,u88,u89,u90,u91,u92,u93,u94,u95,u96,u97,dv ba5 A5.e,u99,u100,u101,u102,u103,u104,u105,u106,u107,u108,u109,u110,u111,u112,u113,u114,u115,u116,u117,u118,u119,u120,u121,u122,u123,u124,u125,u126,u127,u128,u129,u130,u131,u132,u133,u134,u135,u136,u137,u138,u139,u140,u141,u142,u143],[]⟩ wx :=by
  subst ho
  (conv => arg 2;whnf)
  refine planSeg ?_
  (conv => arg 4;simp only [gaC,gaN,lZ0,lS0,coS])
  go_wp2_with (first
    | refine ⟨by kernel_rfl,oldD kr,?_⟩
    | refine ⟨oldD kr,?_⟩
    | (go_at_call 67;(with_reducible refine (hv2 _ _ _ F.glob (F.int (by simp)) (F.int (by simp))).mono ?_);rintro r w1 ⟨bw,rfl,n,k⟩;replace kr :=kt kr k;replace F :=F.new n k;clear n k))
  exact s20_r27 (by kernel_rfl) kr (F.sub (by simp))  hN
theorem s20_t25 (ho : ops = sin20ops) (kr : Kept wd wx) (F : Fm w wx [(bU,U.m),(bv1,V1.m),(ba5,A5.m)] ((vU,ptr bU,.int .i32 U.e) :: V)) (hv2 : mulF V1 A5 V2)
    (hN : S20End w N V vU bU U V2 c0 c1 c2 c3 c4 c5 c6 c7 c8 c9 c10 c13 c14 c15 c16 c17 c18 c19 c20 c21 c22 c23 c24 c25 c26 c27 c28 c29 c30 c31 c32 c33 c34 c35 c36 c37 c38 c39 c40 c41 c42 c43 c44 c45 c46 c47 c48 c49 c50 c51 c52 c53 c54 c55 c56 c57 c58 c59 c60 c61 c62 c63 c64 c65 c66 c67 c68) :
    wpPlanL Tryz.prog ops wd.drew N p20_t25 ⟨#[c0,c1,c2,c3,c4,c5,c6,c7,c8,c9,c10,ptr vU,u12,c13,c14,c15,c16,c17,c18,c19,c20,c21,c22,c23,c24,c25,c26,c27,c28,c29,c30,c31,c32,c33,c34,c35,c36,c37,c38,c39,c40,c41,c42,c43,c44,c45,c46,c47,c48,c49,c50,c51,c52,c53,c54,c55,c56,c57,c58,c59,c60,c61,c62,c63,c64,c65,c66,c67,c68,u69,u70,dv bv1 V1.e,u72,u73,u74,u75,u76,u77,u78,u79,u80,u81,u82,u83,u84,u85,u86,u87,u88,u89,u90,u91,u92,u93,u94,u95,u96,u97,dv ba5 A5.e,u99,u100,u101,u102,u103,u104,u105,u106,u107,u108,u109,u110,u111,u112,u113,u114,u115,u116,u117,u118,u119,u120,u121,u122,u123,u124,u125,u126,u127,u128,u129,u130,u131,u132,u133,u134,u135,u136,u137,u138,u139,u140,u141,u142,u143],[]⟩ wx :=by
  subst ho
  (conv => arg 2;whnf)
  refine planTwo ?_ ?_
  · (conv => arg 4;simp only [gaC,gaN,lZ0,lS0,coS])
    go_wp2_with (first
      | refine ⟨by kernel_rfl,oldD kr,?_⟩
      | refine ⟨oldD kr,?_⟩
      | (go_at_call 67;(with_reducible refine (hv2 _ _ _ F.glob (F.int (by simp)) (F.int (by simp))).mono ?_);rintro r w1 ⟨bw,rfl,n,k⟩;replace kr :=kt kr k;replace F :=F.new n k;clear n k))
    exact s20_t26 (by kernel_rfl) kr (F.sub (by simp))  hN
  · (conv => arg 4;simp only [gaC,gaN,lZ0,lS0,coS])
    go_wp2_with (refine ⟨oldD (kt kr (Chg.alloc _ _ _)),?_⟩)
    replace kr :=kt kr (boxK _ (.pointer none) (.int .i32 0))
    replace F :=F.box (.pointer none) (.int .i32 0)
    exact s20_r28 (by kernel_rfl) kr (F.sub (by simp)) hv2 hN
theorem s20_r29 (ho : ops = sin20ops) (kr : Kept wd wx) (F : Fm w wx [(bU,U.m),(bv1,V1.m),(bm5,M5.m),(bc,41666666666666595)] ((vw,.pointer none,.int .i32 0) :: (vU,ptr bU,.int .i32 U.e) :: V)) (a5 : addF M5 ⟨41666666666666595,-18⟩ A5) (hv2 : mulF V1 A5 V2)
    (hN : S20End w N V vU bU U V2 c0 c1 c2 c3 c4 c5 c6 c7 c8 c9 c10 c13 c14 c15 c16 c17 c18 c19 c20 c21 c22 c23 c24 c25 c26 c27 c28 c29 c30 c31 c32 c33 c34 c35 c36 c37 c38 c39 c40 c41 c42 c43 c44 c45 c46 c47 c48 c49 c50 c51 c52 c53 c54 c55 c56 c57 c58 c59 c60 c61 c62 c63 c64 c65 c66 c67 c68) :
    wpPlanL Tryz.prog ops wd.drew N p20_r29 ⟨#[c0,c1,c2,c3,c4,c5,c6,c7,c8,c9,c10,ptr vU,ptr vw,c13,c14,c15,c16,c17,c18,c19,c20,c21,c22,c23,c24,c25,c26,c27,c28,c29,c30,c31,c32,c33,c34,c35,c36,c37,c38,c39,c40,c41,c42,c43,c44,c45,c46,c47,c48,c49,c50,c51,c52,c53,c54,c55,c56,c57,c58,c59,c60,c61,c62,c63,c64,c65,c66,c67,c68,u69,u70,dv bv1 V1.e,u72,u73,u74,u75,u76,u77,u78,u79,u80,u81,u82,u83,u84,u85,u86,u87,u88,u89,u90,u91,u92,u93,u94,dv bm5 M5.e,u96,dv bc (-18),u98,u99,u100,u101,u102,u103,u104,u105,u106,u107,u108,u109,u110,u111,u112,u113,u114,u115,u116,u117,u118,u119,u120,u121,u122,u123,u124,u125,u126,u127,u128,u129,u130,u131,u132,u133,u134,u135,u136,u137,u138,u139,u140,u141,u142,u143],[]⟩ wx :=by
  subst ho
  (conv => arg 2;whnf)
  refine planSeg ?_
  (conv => arg 4;simp only [gaC,gaN,lZ0,lS0,coS])
  go_wp2_with (first
    | refine ⟨by kernel_rfl,oldD kr,?_⟩
    | refine ⟨oldD kr,?_⟩
    | (go_at_call 70;(with_reducible refine (a5 _ _ _ F.glob (F.int (by simp)) (F.int (by simp))).mono ?_);rintro r w1 ⟨ba5,rfl,n,k⟩;replace kr :=kt kr k;replace F :=F.new n k;clear n k))
  exact s20_r28 (by kernel_rfl) kr (F.sub (by simp)) hv2 hN
theorem s20_t24 (ho : ops = sin20ops) (kr : Kept wd wx) (F : Fm w wx [(bU,U.m),(bv1,V1.m),(bm5,M5.m),(bc,41666666666666595)] ((vU,ptr bU,.int .i32 U.e) :: V)) (a5 : addF M5 ⟨41666666666666595,-18⟩ A5) (hv2 : mulF V1 A5 V2)
    (hN : S20End w N V vU bU U V2 c0 c1 c2 c3 c4 c5 c6 c7 c8 c9 c10 c13 c14 c15 c16 c17 c18 c19 c20 c21 c22 c23 c24 c25 c26 c27 c28 c29 c30 c31 c32 c33 c34 c35 c36 c37 c38 c39 c40 c41 c42 c43 c44 c45 c46 c47 c48 c49 c50 c51 c52 c53 c54 c55 c56 c57 c58 c59 c60 c61 c62 c63 c64 c65 c66 c67 c68) :
    wpPlanL Tryz.prog ops wd.drew N p20_t24 ⟨#[c0,c1,c2,c3,c4,c5,c6,c7,c8,c9,c10,ptr vU,u12,c13,c14,c15,c16,c17,c18,c19,c20,c21,c22,c23,c24,c25,c26,c27,c28,c29,c30,c31,c32,c33,c34,c35,c36,c37,c38,c39,c40,c41,c42,c43,c44,c45,c46,c47,c48,c49,c50,c51,c52,c53,c54,c55,c56,c57,c58,c59,c60,c61,c62,c63,c64,c65,c66,c67,c68,u69,u70,dv bv1 V1.e,u72,u73,u74,u75,u76,u77,u78,u79,u80,u81,u82,u83,u84,u85,u86,u87,u88,u89,u90,u91,u92,u93,u94,dv bm5 M5.e,u96,dv bc (-18),u98,u99,u100,u101,u102,u103,u104,u105,u106,u107,u108,u109,u110,u111,u112,u113,u114,u115,u116,u117,u118,u119,u120,u121,u122,u123,u124,u125,u126,u127,u128,u129,u130,u131,u132,u133,u134,u135,u136,u137,u138,u139,u140,u141,u142,u143],[]⟩ wx :=by
  subst ho
  (conv => arg 2;whnf)
  refine planTwo ?_ ?_
  · (conv => arg 4;simp only [gaC,gaN,lZ0,lS0,coS])
    go_wp2_with (first
      | refine ⟨by kernel_rfl,oldD kr,?_⟩
      | refine ⟨oldD kr,?_⟩
      | (go_at_call 70;(with_reducible refine (a5 _ _ _ F.glob (F.int (by simp)) (F.int (by simp))).mono ?_);rintro r w1 ⟨ba5,rfl,n,k⟩;replace kr :=kt kr k;replace F :=F.new n k;clear n k))
    exact s20_t25 (by kernel_rfl) kr (F.sub (by simp)) hv2 hN
  · (conv => arg 4;simp only [gaC,gaN,lZ0,lS0,coS])
    go_wp2_with (refine ⟨oldD (kt kr (Chg.alloc _ _ _)),?_⟩)
    replace kr :=kt kr (boxK _ (.pointer none) (.int .i32 0))
    replace F :=F.box (.pointer none) (.int .i32 0)
    exact s20_r29 (by kernel_rfl) kr (F.sub (by simp)) a5 hv2 hN
theorem s20_t23 (ho : ops = sin20ops) (kr : Kept wd wx) (F : Fm w wx [(bU,U.m),(bv1,V1.m),(bm5,M5.m),(g5,41666666666666595)] ((vU,ptr bU,.int .i32 U.e) :: V)) (a5 : addF M5 ⟨41666666666666595,-18⟩ A5) (hv2 : mulF V1 A5 V2)
    (hN : S20End w N V vU bU U V2 c0 c1 c2 c3 c4 c5 c6 c7 c8 c9 c10 c13 c14 c15 c16 c17 c18 c19 c20 c21 c22 c23 c24 c25 c26 c27 c28 c29 c30 c31 c32 c33 c34 c35 c36 c37 c38 c39 c40 c41 c42 c43 c44 c45 c46 c47 c48 c49 c50 c51 c52 c53 c54 c55 c56 c57 c58 c59 c60 c61 c62 c63 c64 c65 c66 c67 c68) :
    wpPlanL Tryz.prog ops wd.drew N p20_t23 ⟨#[c0,c1,c2,c3,c4,c5,c6,c7,c8,c9,c10,ptr vU,u12,c13,c14,c15,c16,c17,c18,c19,c20,c21,c22,c23,c24,c25,c26,c27,c28,c29,c30,c31,c32,c33,c34,c35,c36,c37,c38,c39,c40,c41,c42,c43,c44,c45,c46,c47,c48,c49,c50,c51,c52,c53,c54,c55,c56,c57,c58,c59,c60,c61,c62,c63,c64,c65,c66,c67,c68,u69,u70,dv bv1 V1.e,u72,u73,u74,u75,u76,u77,u78,u79,u80,u81,u82,u83,u84,u85,u86,u87,u88,u89,u90,u91,u92,u93,u94,dv bm5 M5.e,.agg #[ptr g0,.int .i32 (-27),ptr g1,.int .i32 (-24),ptr g2,.int .i32 (-22),ptr g3,.int .i32 (-21),ptr g4,.int .i32 (-19),ptr g5,.int .i32 (-18)],u97,u98,u99,u100,u101,u102,u103,u104,u105,u106,u107,u108,u109,u110,u111,u112,u113,u114,u115,u116,u117,u118,u119,u120,u121,u122,u123,u124,u125,u126,u127,u128,u129,u130,u131,u132,u133,u134,u135,u136,u137,u138,u139,u140,u141,u142,u143],[]⟩ wx :=by
  subst ho
  (conv => arg 2;whnf)
  refine planSeg ?_
  (conv => arg 4;simp only [gaC,gaN,lZ0,lS0,coS])
  go_wp2_with (first
    | refine ⟨by kernel_rfl,oldD kr,?_⟩
    | refine ⟨oldD kr,?_⟩)
  exact s20_t24 (by kernel_rfl) kr (F.sub (by simp)) a5 hv2 hN
theorem s20_r31 (ho : ops = sin20ops) (kr : Kept wd wx) (F : Fm w wx [(bU,U.m),(bv1,V1.m),(bm5,M5.m),(g5,41666666666666595)] ((vw,.pointer none,.int .i32 0) :: (vU,ptr bU,.int .i32 U.e) :: V)) (a5 : addF M5 ⟨41666666666666595,-18⟩ A5) (hv2 : mulF V1 A5 V2)
    (hN : S20End w N V vU bU U V2 c0 c1 c2 c3 c4 c5 c6 c7 c8 c9 c10 c13 c14 c15 c16 c17 c18 c19 c20 c21 c22 c23 c24 c25 c26 c27 c28 c29 c30 c31 c32 c33 c34 c35 c36 c37 c38 c39 c40 c41 c42 c43 c44 c45 c46 c47 c48 c49 c50 c51 c52 c53 c54 c55 c56 c57 c58 c59 c60 c61 c62 c63 c64 c65 c66 c67 c68) :
    wpPlanL Tryz.prog ops wd.drew N p20_r31 ⟨#[c0,c1,c2,c3,c4,c5,c6,c7,c8,c9,c10,ptr vU,ptr vw,c13,c14,c15,c16,c17,c18,c19,c20,c21,c22,c23,c24,c25,c26,c27,c28,c29,c30,c31,c32,c33,c34,c35,c36,c37,c38,c39,c40,c41,c42,c43,c44,c45,c46,c47,c48,c49,c50,c51,c52,c53,c54,c55,c56,c57,c58,c59,c60,c61,c62,c63,c64,c65,c66,c67,c68,u69,u70,dv bv1 V1.e,u72,u73,u74,u75,u76,u77,u78,u79,u80,u81,u82,u83,u84,u85,u86,u87,u88,u89,u90,u91,u92,u93,u94,dv bm5 M5.e,.agg #[ptr g0,.int .i32 (-27),ptr g1,.int .i32 (-24),ptr g2,.int .i32 (-22),ptr g3,.int .i32 (-21),ptr g4,.int .i32 (-19),ptr g5,.int .i32 (-18)],u97,u98,u99,u100,u101,u102,u103,u104,u105,u106,u107,u108,u109,u110,u111,u112,u113,u114,u115,u116,u117,u118,u119,u120,u121,u122,u123,u124,u125,u126,u127,u128,u129,u130,u131,u132,u133,u134,u135,u136,u137,u138,u139,u140,u141,u142,u143],[]⟩ wx :=by
  subst ho
  (conv => arg 2;whnf)
  refine planSeg ?_
  (conv => arg 4;simp only [gaC,gaN,lZ0,lS0,coS])
  go_wp2_with (first
    | refine ⟨by kernel_rfl,oldD kr,?_⟩
    | refine ⟨oldD kr,?_⟩
    | (go_at_call 70;(with_reducible refine (a5 _ _ _ F.glob (F.int (by simp)) (F.int (by simp))).mono ?_);rintro r w1 ⟨ba5,rfl,n,k⟩;replace kr :=kt kr k;replace F :=F.new n k;clear n k))
  exact s20_r28 (by kernel_rfl) kr (F.sub (by simp)) hv2 hN
theorem s20_r30 (ho : ops = sin20ops) (kr : Kept wd wx) (F : Fm w wx [(bU,U.m),(bv1,V1.m),(bm5,M5.m)] ((vw,.pointer none,.int .i32 0) :: (vU,ptr bU,.int .i32 U.e) :: V)) (a5 : addF M5 ⟨41666666666666595,-18⟩ A5) (hv2 : mulF V1 A5 V2)
    (hN : S20End w N V vU bU U V2 c0 c1 c2 c3 c4 c5 c6 c7 c8 c9 c10 c13 c14 c15 c16 c17 c18 c19 c20 c21 c22 c23 c24 c25 c26 c27 c28 c29 c30 c31 c32 c33 c34 c35 c36 c37 c38 c39 c40 c41 c42 c43 c44 c45 c46 c47 c48 c49 c50 c51 c52 c53 c54 c55 c56 c57 c58 c59 c60 c61 c62 c63 c64 c65 c66 c67 c68) :
    wpPlanL Tryz.prog ops wd.drew N p20_r30 ⟨#[c0,c1,c2,c3,c4,c5,c6,c7,c8,c9,c10,ptr vU,ptr vw,c13,c14,c15,c16,c17,c18,c19,c20,c21,c22,c23,c24,c25,c26,c27,c28,c29,c30,c31,c32,c33,c34,c35,c36,c37,c38,c39,c40,c41,c42,c43,c44,c45,c46,c47,c48,c49,c50,c51,c52,c53,c54,c55,c56,c57,c58,c59,c60,c61,c62,c63,c64,c65,c66,c67,c68,u69,u70,dv bv1 V1.e,u72,u73,u74,u75,u76,u77,u78,u79,u80,u81,u82,u83,u84,u85,u86,u87,u88,u89,u90,u91,u92,u93,u94,dv bm5 M5.e,u96,u97,u98,u99,u100,u101,u102,u103,u104,u105,u106,u107,u108,u109,u110,u111,u112,u113,u114,u115,u116,u117,u118,u119,u120,u121,u122,u123,u124,u125,u126,u127,u128,u129,u130,u131,u132,u133,u134,u135,u136,u137,u138,u139,u140,u141,u142,u143],[]⟩ wx :=by
  subst ho
  (conv => arg 2;whnf)
  refine planSeg ?_
  (conv => arg 4;simp only [gaC,gaN,lZ0,lS0,coS])
  go_wp2_with (first
    | refine ⟨by kernel_rfl,oldD kr,?_⟩
    | refine ⟨oldD kr,?_⟩
    | (go_at_call 73;(with_reducible refine (dec_arr73 _ F.globF).mono ?_);rintro r w1 ⟨g0,g1,g2,g3,g4,g5,rfl,n0,n1,n2,n3,n4,n5,k⟩;replace kr :=kt kr k;replace F :=F.new n5 k;clear n0 n1 n2 n3 n4 n5 k))
  exact s20_r31 (by kernel_rfl) kr (F.sub (by simp)) a5 hv2 hN
theorem s20_t22 (ho : ops = sin20ops) (kr : Kept wd wx) (F : Fm w wx [(bU,U.m),(bv1,V1.m),(bm5,M5.m)] ((vU,ptr bU,.int .i32 U.e) :: V)) (a5 : addF M5 ⟨41666666666666595,-18⟩ A5) (hv2 : mulF V1 A5 V2)
    (hN : S20End w N V vU bU U V2 c0 c1 c2 c3 c4 c5 c6 c7 c8 c9 c10 c13 c14 c15 c16 c17 c18 c19 c20 c21 c22 c23 c24 c25 c26 c27 c28 c29 c30 c31 c32 c33 c34 c35 c36 c37 c38 c39 c40 c41 c42 c43 c44 c45 c46 c47 c48 c49 c50 c51 c52 c53 c54 c55 c56 c57 c58 c59 c60 c61 c62 c63 c64 c65 c66 c67 c68) :
    wpPlanL Tryz.prog ops wd.drew N p20_t22 ⟨#[c0,c1,c2,c3,c4,c5,c6,c7,c8,c9,c10,ptr vU,u12,c13,c14,c15,c16,c17,c18,c19,c20,c21,c22,c23,c24,c25,c26,c27,c28,c29,c30,c31,c32,c33,c34,c35,c36,c37,c38,c39,c40,c41,c42,c43,c44,c45,c46,c47,c48,c49,c50,c51,c52,c53,c54,c55,c56,c57,c58,c59,c60,c61,c62,c63,c64,c65,c66,c67,c68,u69,u70,dv bv1 V1.e,u72,u73,u74,u75,u76,u77,u78,u79,u80,u81,u82,u83,u84,u85,u86,u87,u88,u89,u90,u91,u92,u93,u94,dv bm5 M5.e,u96,u97,u98,u99,u100,u101,u102,u103,u104,u105,u106,u107,u108,u109,u110,u111,u112,u113,u114,u115,u116,u117,u118,u119,u120,u121,u122,u123,u124,u125,u126,u127,u128,u129,u130,u131,u132,u133,u134,u135,u136,u137,u138,u139,u140,u141,u142,u143],[]⟩ wx :=by
  subst ho
  (conv => arg 2;whnf)
  refine planTwo ?_ ?_
  · (conv => arg 4;simp only [gaC,gaN,lZ0,lS0,coS])
    go_wp2_with (first
      | refine ⟨by kernel_rfl,oldD kr,?_⟩
      | refine ⟨oldD kr,?_⟩
      | (go_at_call 73;(with_reducible refine (dec_arr73 _ F.globF).mono ?_);rintro r w1 ⟨g0,g1,g2,g3,g4,g5,rfl,n0,n1,n2,n3,n4,n5,k⟩;replace kr :=kt kr k;replace F :=F.new n5 k;clear n0 n1 n2 n3 n4 n5 k))
    exact s20_t23 (by kernel_rfl) kr (F.sub (by simp)) a5 hv2 hN
  · (conv => arg 4;simp only [gaC,gaN,lZ0,lS0,coS])
    go_wp2_with (refine ⟨oldD (kt kr (Chg.alloc _ _ _)),?_⟩)
    replace kr :=kt kr (boxK _ (.pointer none) (.int .i32 0))
    replace F :=F.box (.pointer none) (.int .i32 0)
    exact s20_r30 (by kernel_rfl) kr (F.sub (by simp)) a5 hv2 hN
theorem s20_r32 (ho : ops = sin20ops) (kr : Kept wd wx) (F : Fm w wx [(bU,U.m),(bv1,V1.m),(ba4,A4.m)] ((vw,.pointer none,.int .i32 0) :: (vU,ptr bU,.int .i32 U.e) :: V)) (m5 : mulF A4 U M5) (a5 : addF M5 ⟨41666666666666595,-18⟩ A5) (hv2 : mulF V1 A5 V2)
    (hN : S20End w N V vU bU U V2 c0 c1 c2 c3 c4 c5 c6 c7 c8 c9 c10 c13 c14 c15 c16 c17 c18 c19 c20 c21 c22 c23 c24 c25 c26 c27 c28 c29 c30 c31 c32 c33 c34 c35 c36 c37 c38 c39 c40 c41 c42 c43 c44 c45 c46 c47 c48 c49 c50 c51 c52 c53 c54 c55 c56 c57 c58 c59 c60 c61 c62 c63 c64 c65 c66 c67 c68) :
    wpPlanL Tryz.prog ops wd.drew N p20_r32 ⟨#[c0,c1,c2,c3,c4,c5,c6,c7,c8,c9,c10,ptr vU,ptr vw,c13,c14,c15,c16,c17,c18,c19,c20,c21,c22,c23,c24,c25,c26,c27,c28,c29,c30,c31,c32,c33,c34,c35,c36,c37,c38,c39,c40,c41,c42,c43,c44,c45,c46,c47,c48,c49,c50,c51,c52,c53,c54,c55,c56,c57,c58,c59,c60,c61,c62,c63,c64,c65,c66,c67,c68,u69,u70,dv bv1 V1.e,u72,u73,u74,u75,u76,u77,u78,u79,u80,u81,u82,u83,u84,u85,u86,u87,u88,u89,u90,u91,u92,dv ba4 A4.e,dv bU U.e,u95,u96,u97,u98,u99,u100,u101,u102,u103,u104,u105,u106,u107,u108,u109,u110,u111,u112,u113,u114,u115,u116,u117,u118,u119,u120,u121,u122,u123,u124,u125,u126,u127,u128,u129,u130,u131,u132,u133,u134,u135,u136,u137,u138,u139,u140,u141,u142,u143],[]⟩ wx :=by
  subst ho
  (conv => arg 2;whnf)
  refine planSeg ?_
  (conv => arg 4;simp only [gaC,gaN,lZ0,lS0,coS])
  go_wp2_with (first
    | refine ⟨by kernel_rfl,oldD kr,?_⟩
    | refine ⟨oldD kr,?_⟩
    | (go_at_call 67;(with_reducible refine (m5 _ _ _ F.glob (F.int (by simp)) (F.int (by simp))).mono ?_);rintro r w1 ⟨bm5,rfl,n,k⟩;replace kr :=kt kr k;replace F :=F.new n k;clear n k))
  exact s20_r30 (by kernel_rfl) kr (F.sub (by simp)) a5 hv2 hN
theorem s20_t21 (ho : ops = sin20ops) (kr : Kept wd wx) (F : Fm w wx [(bU,U.m),(bv1,V1.m),(ba4,A4.m)] ((vU,ptr bU,.int .i32 U.e) :: V)) (m5 : mulF A4 U M5) (a5 : addF M5 ⟨41666666666666595,-18⟩ A5) (hv2 : mulF V1 A5 V2)
    (hN : S20End w N V vU bU U V2 c0 c1 c2 c3 c4 c5 c6 c7 c8 c9 c10 c13 c14 c15 c16 c17 c18 c19 c20 c21 c22 c23 c24 c25 c26 c27 c28 c29 c30 c31 c32 c33 c34 c35 c36 c37 c38 c39 c40 c41 c42 c43 c44 c45 c46 c47 c48 c49 c50 c51 c52 c53 c54 c55 c56 c57 c58 c59 c60 c61 c62 c63 c64 c65 c66 c67 c68) :
    wpPlanL Tryz.prog ops wd.drew N p20_t21 ⟨#[c0,c1,c2,c3,c4,c5,c6,c7,c8,c9,c10,ptr vU,u12,c13,c14,c15,c16,c17,c18,c19,c20,c21,c22,c23,c24,c25,c26,c27,c28,c29,c30,c31,c32,c33,c34,c35,c36,c37,c38,c39,c40,c41,c42,c43,c44,c45,c46,c47,c48,c49,c50,c51,c52,c53,c54,c55,c56,c57,c58,c59,c60,c61,c62,c63,c64,c65,c66,c67,c68,u69,u70,dv bv1 V1.e,u72,u73,u74,u75,u76,u77,u78,u79,u80,u81,u82,u83,u84,u85,u86,u87,u88,u89,u90,u91,u92,dv ba4 A4.e,dv bU U.e,u95,u96,u97,u98,u99,u100,u101,u102,u103,u104,u105,u106,u107,u108,u109,u110,u111,u112,u113,u114,u115,u116,u117,u118,u119,u120,u121,u122,u123,u124,u125,u126,u127,u128,u129,u130,u131,u132,u133,u134,u135,u136,u137,u138,u139,u140,u141,u142,u143],[]⟩ wx :=by
  subst ho
  (conv => arg 2;whnf)
  refine planTwo ?_ ?_
  · (conv => arg 4;simp only [gaC,gaN,lZ0,lS0,coS])
    go_wp2_with (first
      | refine ⟨by kernel_rfl,oldD kr,?_⟩
      | refine ⟨oldD kr,?_⟩
      | (go_at_call 67;(with_reducible refine (m5 _ _ _ F.glob (F.int (by simp)) (F.int (by simp))).mono ?_);rintro r w1 ⟨bm5,rfl,n,k⟩;replace kr :=kt kr k;replace F :=F.new n k;clear n k))
    exact s20_t22 (by kernel_rfl) kr (F.sub (by simp)) a5 hv2 hN
  · (conv => arg 4;simp only [gaC,gaN,lZ0,lS0,coS])
    go_wp2_with (refine ⟨oldD (kt kr (Chg.alloc _ _ _)),?_⟩)
    replace kr :=kt kr (boxK _ (.pointer none) (.int .i32 0))
    replace F :=F.box (.pointer none) (.int .i32 0)
    exact s20_r32 (by kernel_rfl) kr (F.sub (by simp)) m5 a5 hv2 hN
theorem s20_r33 (ho : ops = sin20ops) (kr : Kept wd wx) (F : Fm w wx [(bU,U.m),(bv1,V1.m),(bm4,M4.m),(bc,-13888888888873056)] ((vw,.pointer none,.int .i32 0) :: (vU,ptr bU,.int .i32 U.e) :: V)) (a4 : addF M4 ⟨-13888888888873056,-19⟩ A4) (m5 : mulF A4 U M5) (a5 : addF M5 ⟨41666666666666595,-18⟩ A5) (hv2 : mulF V1 A5 V2)
    (hN : S20End w N V vU bU U V2 c0 c1 c2 c3 c4 c5 c6 c7 c8 c9 c10 c13 c14 c15 c16 c17 c18 c19 c20 c21 c22 c23 c24 c25 c26 c27 c28 c29 c30 c31 c32 c33 c34 c35 c36 c37 c38 c39 c40 c41 c42 c43 c44 c45 c46 c47 c48 c49 c50 c51 c52 c53 c54 c55 c56 c57 c58 c59 c60 c61 c62 c63 c64 c65 c66 c67 c68) :
    wpPlanL Tryz.prog ops wd.drew N p20_r33 ⟨#[c0,c1,c2,c3,c4,c5,c6,c7,c8,c9,c10,ptr vU,ptr vw,c13,c14,c15,c16,c17,c18,c19,c20,c21,c22,c23,c24,c25,c26,c27,c28,c29,c30,c31,c32,c33,c34,c35,c36,c37,c38,c39,c40,c41,c42,c43,c44,c45,c46,c47,c48,c49,c50,c51,c52,c53,c54,c55,c56,c57,c58,c59,c60,c61,c62,c63,c64,c65,c66,c67,c68,u69,u70,dv bv1 V1.e,u72,u73,u74,u75,u76,u77,u78,u79,u80,u81,u82,u83,u84,u85,u86,u87,u88,u89,dv bm4 M4.e,u91,dv bc (-19),u93,dv bU U.e,u95,u96,u97,u98,u99,u100,u101,u102,u103,u104,u105,u106,u107,u108,u109,u110,u111,u112,u113,u114,u115,u116,u117,u118,u119,u120,u121,u122,u123,u124,u125,u126,u127,u128,u129,u130,u131,u132,u133,u134,u135,u136,u137,u138,u139,u140,u141,u142,u143],[]⟩ wx :=by
  subst ho
  (conv => arg 2;whnf)
  refine planSeg ?_
  (conv => arg 4;simp only [gaC,gaN,lZ0,lS0,coS])
  go_wp2_with (first
    | refine ⟨by kernel_rfl,oldD kr,?_⟩
    | refine ⟨oldD kr,?_⟩
    | (go_at_call 70;(with_reducible refine (a4 _ _ _ F.glob (F.int (by simp)) (F.int (by simp))).mono ?_);rintro r w1 ⟨ba4,rfl,n,k⟩;replace kr :=kt kr k;replace F :=F.new n k;clear n k))
  exact s20_r32 (by kernel_rfl) kr (F.sub (by simp)) m5 a5 hv2 hN
theorem s20_t20 (ho : ops = sin20ops) (kr : Kept wd wx) (F : Fm w wx [(bU,U.m),(bv1,V1.m),(bm4,M4.m),(bc,-13888888888873056)] ((vU,ptr bU,.int .i32 U.e) :: V)) (a4 : addF M4 ⟨-13888888888873056,-19⟩ A4) (m5 : mulF A4 U M5) (a5 : addF M5 ⟨41666666666666595,-18⟩ A5) (hv2 : mulF V1 A5 V2)
    (hN : S20End w N V vU bU U V2 c0 c1 c2 c3 c4 c5 c6 c7 c8 c9 c10 c13 c14 c15 c16 c17 c18 c19 c20 c21 c22 c23 c24 c25 c26 c27 c28 c29 c30 c31 c32 c33 c34 c35 c36 c37 c38 c39 c40 c41 c42 c43 c44 c45 c46 c47 c48 c49 c50 c51 c52 c53 c54 c55 c56 c57 c58 c59 c60 c61 c62 c63 c64 c65 c66 c67 c68) :
    wpPlanL Tryz.prog ops wd.drew N p20_t20 ⟨#[c0,c1,c2,c3,c4,c5,c6,c7,c8,c9,c10,ptr vU,u12,c13,c14,c15,c16,c17,c18,c19,c20,c21,c22,c23,c24,c25,c26,c27,c28,c29,c30,c31,c32,c33,c34,c35,c36,c37,c38,c39,c40,c41,c42,c43,c44,c45,c46,c47,c48,c49,c50,c51,c52,c53,c54,c55,c56,c57,c58,c59,c60,c61,c62,c63,c64,c65,c66,c67,c68,u69,u70,dv bv1 V1.e,u72,u73,u74,u75,u76,u77,u78,u79,u80,u81,u82,u83,u84,u85,u86,u87,u88,u89,dv bm4 M4.e,u91,dv bc (-19),u93,dv bU U.e,u95,u96,u97,u98,u99,u100,u101,u102,u103,u104,u105,u106,u107,u108,u109,u110,u111,u112,u113,u114,u115,u116,u117,u118,u119,u120,u121,u122,u123,u124,u125,u126,u127,u128,u129,u130,u131,u132,u133,u134,u135,u136,u137,u138,u139,u140,u141,u142,u143],[]⟩ wx :=by
  subst ho
  (conv => arg 2;whnf)
  refine planTwo ?_ ?_
  · (conv => arg 4;simp only [gaC,gaN,lZ0,lS0,coS])
    go_wp2_with (first
      | refine ⟨by kernel_rfl,oldD kr,?_⟩
      | refine ⟨oldD kr,?_⟩
      | (go_at_call 70;(with_reducible refine (a4 _ _ _ F.glob (F.int (by simp)) (F.int (by simp))).mono ?_);rintro r w1 ⟨ba4,rfl,n,k⟩;replace kr :=kt kr k;replace F :=F.new n k;clear n k))
    exact s20_t21 (by kernel_rfl) kr (F.sub (by simp)) m5 a5 hv2 hN
  · (conv => arg 4;simp only [gaC,gaN,lZ0,lS0,coS])
    go_wp2_with (refine ⟨oldD (kt kr (Chg.alloc _ _ _)),?_⟩)
    replace kr :=kt kr (boxK _ (.pointer none) (.int .i32 0))
    replace F :=F.box (.pointer none) (.int .i32 0)
    exact s20_r33 (by kernel_rfl) kr (F.sub (by simp)) a4 m5 a5 hv2 hN
theorem s20_t19 (ho : ops = sin20ops) (kr : Kept wd wx) (F : Fm w wx [(bU,U.m),(bv1,V1.m),(bm4,M4.m),(g4,-13888888888873056)] ((vU,ptr bU,.int .i32 U.e) :: V)) (a4 : addF M4 ⟨-13888888888873056,-19⟩ A4) (m5 : mulF A4 U M5) (a5 : addF M5 ⟨41666666666666595,-18⟩ A5) (hv2 : mulF V1 A5 V2)
    (hN : S20End w N V vU bU U V2 c0 c1 c2 c3 c4 c5 c6 c7 c8 c9 c10 c13 c14 c15 c16 c17 c18 c19 c20 c21 c22 c23 c24 c25 c26 c27 c28 c29 c30 c31 c32 c33 c34 c35 c36 c37 c38 c39 c40 c41 c42 c43 c44 c45 c46 c47 c48 c49 c50 c51 c52 c53 c54 c55 c56 c57 c58 c59 c60 c61 c62 c63 c64 c65 c66 c67 c68) :
    wpPlanL Tryz.prog ops wd.drew N p20_t19 ⟨#[c0,c1,c2,c3,c4,c5,c6,c7,c8,c9,c10,ptr vU,u12,c13,c14,c15,c16,c17,c18,c19,c20,c21,c22,c23,c24,c25,c26,c27,c28,c29,c30,c31,c32,c33,c34,c35,c36,c37,c38,c39,c40,c41,c42,c43,c44,c45,c46,c47,c48,c49,c50,c51,c52,c53,c54,c55,c56,c57,c58,c59,c60,c61,c62,c63,c64,c65,c66,c67,c68,u69,u70,dv bv1 V1.e,u72,u73,u74,u75,u76,u77,u78,u79,u80,u81,u82,u83,u84,u85,u86,u87,u88,u89,dv bm4 M4.e,.agg #[ptr g0,.int .i32 (-27),ptr g1,.int .i32 (-24),ptr g2,.int .i32 (-22),ptr g3,.int .i32 (-21),ptr g4,.int .i32 (-19),ptr g5,.int .i32 (-18)],u92,u93,dv bU U.e,u95,u96,u97,u98,u99,u100,u101,u102,u103,u104,u105,u106,u107,u108,u109,u110,u111,u112,u113,u114,u115,u116,u117,u118,u119,u120,u121,u122,u123,u124,u125,u126,u127,u128,u129,u130,u131,u132,u133,u134,u135,u136,u137,u138,u139,u140,u141,u142,u143],[]⟩ wx :=by
  subst ho
  (conv => arg 2;whnf)
  refine planSeg ?_
  (conv => arg 4;simp only [gaC,gaN,lZ0,lS0,coS])
  go_wp2_with (first
    | refine ⟨by kernel_rfl,oldD kr,?_⟩
    | refine ⟨oldD kr,?_⟩)
  exact s20_t20 (by kernel_rfl) kr (F.sub (by simp)) a4 m5 a5 hv2 hN
theorem s20_r35 (ho : ops = sin20ops) (kr : Kept wd wx) (F : Fm w wx [(bU,U.m),(bv1,V1.m),(bm4,M4.m),(g4,-13888888888873056)] ((vw,.pointer none,.int .i32 0) :: (vU,ptr bU,.int .i32 U.e) :: V)) (a4 : addF M4 ⟨-13888888888873056,-19⟩ A4) (m5 : mulF A4 U M5) (a5 : addF M5 ⟨41666666666666595,-18⟩ A5) (hv2 : mulF V1 A5 V2)
    (hN : S20End w N V vU bU U V2 c0 c1 c2 c3 c4 c5 c6 c7 c8 c9 c10 c13 c14 c15 c16 c17 c18 c19 c20 c21 c22 c23 c24 c25 c26 c27 c28 c29 c30 c31 c32 c33 c34 c35 c36 c37 c38 c39 c40 c41 c42 c43 c44 c45 c46 c47 c48 c49 c50 c51 c52 c53 c54 c55 c56 c57 c58 c59 c60 c61 c62 c63 c64 c65 c66 c67 c68) :
    wpPlanL Tryz.prog ops wd.drew N p20_r35 ⟨#[c0,c1,c2,c3,c4,c5,c6,c7,c8,c9,c10,ptr vU,ptr vw,c13,c14,c15,c16,c17,c18,c19,c20,c21,c22,c23,c24,c25,c26,c27,c28,c29,c30,c31,c32,c33,c34,c35,c36,c37,c38,c39,c40,c41,c42,c43,c44,c45,c46,c47,c48,c49,c50,c51,c52,c53,c54,c55,c56,c57,c58,c59,c60,c61,c62,c63,c64,c65,c66,c67,c68,u69,u70,dv bv1 V1.e,u72,u73,u74,u75,u76,u77,u78,u79,u80,u81,u82,u83,u84,u85,u86,u87,u88,u89,dv bm4 M4.e,.agg #[ptr g0,.int .i32 (-27),ptr g1,.int .i32 (-24),ptr g2,.int .i32 (-22),ptr g3,.int .i32 (-21),ptr g4,.int .i32 (-19),ptr g5,.int .i32 (-18)],u92,u93,dv bU U.e,u95,u96,u97,u98,u99,u100,u101,u102,u103,u104,u105,u106,u107,u108,u109,u110,u111,u112,u113,u114,u115,u116,u117,u118,u119,u120,u121,u122,u123,u124,u125,u126,u127,u128,u129,u130,u131,u132,u133,u134,u135,u136,u137,u138,u139,u140,u141,u142,u143],[]⟩ wx :=by
  subst ho
  (conv => arg 2;whnf)
  refine planSeg ?_
  (conv => arg 4;simp only [gaC,gaN,lZ0,lS0,coS])
  go_wp2_with (first
    | refine ⟨by kernel_rfl,oldD kr,?_⟩
    | refine ⟨oldD kr,?_⟩
    | (go_at_call 70;(with_reducible refine (a4 _ _ _ F.glob (F.int (by simp)) (F.int (by simp))).mono ?_);rintro r w1 ⟨ba4,rfl,n,k⟩;replace kr :=kt kr k;replace F :=F.new n k;clear n k))
  exact s20_r32 (by kernel_rfl) kr (F.sub (by simp)) m5 a5 hv2 hN
theorem s20_r34 (ho : ops = sin20ops) (kr : Kept wd wx) (F : Fm w wx [(bU,U.m),(bv1,V1.m),(bm4,M4.m)] ((vw,.pointer none,.int .i32 0) :: (vU,ptr bU,.int .i32 U.e) :: V)) (a4 : addF M4 ⟨-13888888888873056,-19⟩ A4) (m5 : mulF A4 U M5) (a5 : addF M5 ⟨41666666666666595,-18⟩ A5) (hv2 : mulF V1 A5 V2)
    (hN : S20End w N V vU bU U V2 c0 c1 c2 c3 c4 c5 c6 c7 c8 c9 c10 c13 c14 c15 c16 c17 c18 c19 c20 c21 c22 c23 c24 c25 c26 c27 c28 c29 c30 c31 c32 c33 c34 c35 c36 c37 c38 c39 c40 c41 c42 c43 c44 c45 c46 c47 c48 c49 c50 c51 c52 c53 c54 c55 c56 c57 c58 c59 c60 c61 c62 c63 c64 c65 c66 c67 c68) :
    wpPlanL Tryz.prog ops wd.drew N p20_r34 ⟨#[c0,c1,c2,c3,c4,c5,c6,c7,c8,c9,c10,ptr vU,ptr vw,c13,c14,c15,c16,c17,c18,c19,c20,c21,c22,c23,c24,c25,c26,c27,c28,c29,c30,c31,c32,c33,c34,c35,c36,c37,c38,c39,c40,c41,c42,c43,c44,c45,c46,c47,c48,c49,c50,c51,c52,c53,c54,c55,c56,c57,c58,c59,c60,c61,c62,c63,c64,c65,c66,c67,c68,u69,u70,dv bv1 V1.e,u72,u73,u74,u75,u76,u77,u78,u79,u80,u81,u82,u83,u84,u85,u86,u87,u88,u89,dv bm4 M4.e,u91,u92,u93,dv bU U.e,u95,u96,u97,u98,u99,u100,u101,u102,u103,u104,u105,u106,u107,u108,u109,u110,u111,u112,u113,u114,u115,u116,u117,u118,u119,u120,u121,u122,u123,u124,u125,u126,u127,u128,u129,u130,u131,u132,u133,u134,u135,u136,u137,u138,u139,u140,u141,u142,u143],[]⟩ wx :=by
  subst ho
  (conv => arg 2;whnf)
  refine planSeg ?_
  (conv => arg 4;simp only [gaC,gaN,lZ0,lS0,coS])
  go_wp2_with (first
    | refine ⟨by kernel_rfl,oldD kr,?_⟩
    | refine ⟨oldD kr,?_⟩
    | (go_at_call 73;(with_reducible refine (dec_arr73 _ F.globF).mono ?_);rintro r w1 ⟨g0,g1,g2,g3,g4,g5,rfl,n0,n1,n2,n3,n4,n5,k⟩;replace kr :=kt kr k;replace F :=F.new n4 k;clear n0 n1 n2 n3 n4 n5 k))
  exact s20_r35 (by kernel_rfl) kr (F.sub (by simp)) a4 m5 a5 hv2 hN
theorem s20_t18 (ho : ops = sin20ops) (kr : Kept wd wx) (F : Fm w wx [(bU,U.m),(bv1,V1.m),(bm4,M4.m)] ((vU,ptr bU,.int .i32 U.e) :: V)) (a4 : addF M4 ⟨-13888888888873056,-19⟩ A4) (m5 : mulF A4 U M5) (a5 : addF M5 ⟨41666666666666595,-18⟩ A5) (hv2 : mulF V1 A5 V2)
    (hN : S20End w N V vU bU U V2 c0 c1 c2 c3 c4 c5 c6 c7 c8 c9 c10 c13 c14 c15 c16 c17 c18 c19 c20 c21 c22 c23 c24 c25 c26 c27 c28 c29 c30 c31 c32 c33 c34 c35 c36 c37 c38 c39 c40 c41 c42 c43 c44 c45 c46 c47 c48 c49 c50 c51 c52 c53 c54 c55 c56 c57 c58 c59 c60 c61 c62 c63 c64 c65 c66 c67 c68) :
    wpPlanL Tryz.prog ops wd.drew N p20_t18 ⟨#[c0,c1,c2,c3,c4,c5,c6,c7,c8,c9,c10,ptr vU,u12,c13,c14,c15,c16,c17,c18,c19,c20,c21,c22,c23,c24,c25,c26,c27,c28,c29,c30,c31,c32,c33,c34,c35,c36,c37,c38,c39,c40,c41,c42,c43,c44,c45,c46,c47,c48,c49,c50,c51,c52,c53,c54,c55,c56,c57,c58,c59,c60,c61,c62,c63,c64,c65,c66,c67,c68,u69,u70,dv bv1 V1.e,u72,u73,u74,u75,u76,u77,u78,u79,u80,u81,u82,u83,u84,u85,u86,u87,u88,u89,dv bm4 M4.e,u91,u92,u93,dv bU U.e,u95,u96,u97,u98,u99,u100,u101,u102,u103,u104,u105,u106,u107,u108,u109,u110,u111,u112,u113,u114,u115,u116,u117,u118,u119,u120,u121,u122,u123,u124,u125,u126,u127,u128,u129,u130,u131,u132,u133,u134,u135,u136,u137,u138,u139,u140,u141,u142,u143],[]⟩ wx :=by
  subst ho
  (conv => arg 2;whnf)
  refine planTwo ?_ ?_
  · (conv => arg 4;simp only [gaC,gaN,lZ0,lS0,coS])
    go_wp2_with (first
      | refine ⟨by kernel_rfl,oldD kr,?_⟩
      | refine ⟨oldD kr,?_⟩
      | (go_at_call 73;(with_reducible refine (dec_arr73 _ F.globF).mono ?_);rintro r w1 ⟨g0,g1,g2,g3,g4,g5,rfl,n0,n1,n2,n3,n4,n5,k⟩;replace kr :=kt kr k;replace F :=F.new n4 k;clear n0 n1 n2 n3 n4 n5 k))
    exact s20_t19 (by kernel_rfl) kr (F.sub (by simp)) a4 m5 a5 hv2 hN
  · (conv => arg 4;simp only [gaC,gaN,lZ0,lS0,coS])
    go_wp2_with (refine ⟨oldD (kt kr (Chg.alloc _ _ _)),?_⟩)
    replace kr :=kt kr (boxK _ (.pointer none) (.int .i32 0))
    replace F :=F.box (.pointer none) (.int .i32 0)
    exact s20_r34 (by kernel_rfl) kr (F.sub (by simp)) a4 m5 a5 hv2 hN
theorem s20_r36 (ho : ops = sin20ops) (kr : Kept wd wx) (F : Fm w wx [(bU,U.m),(bv1,V1.m),(ba3,A3.m)] ((vw,.pointer none,.int .i32 0) :: (vU,ptr bU,.int .i32 U.e) :: V)) (m4 : mulF A3 U M4) (a4 : addF M4 ⟨-13888888888873056,-19⟩ A4) (m5 : mulF A4 U M5) (a5 : addF M5 ⟨41666666666666595,-18⟩ A5) (hv2 : mulF V1 A5 V2)
    (hN : S20End w N V vU bU U V2 c0 c1 c2 c3 c4 c5 c6 c7 c8 c9 c10 c13 c14 c15 c16 c17 c18 c19 c20 c21 c22 c23 c24 c25 c26 c27 c28 c29 c30 c31 c32 c33 c34 c35 c36 c37 c38 c39 c40 c41 c42 c43 c44 c45 c46 c47 c48 c49 c50 c51 c52 c53 c54 c55 c56 c57 c58 c59 c60 c61 c62 c63 c64 c65 c66 c67 c68) :
    wpPlanL Tryz.prog ops wd.drew N p20_r36 ⟨#[c0,c1,c2,c3,c4,c5,c6,c7,c8,c9,c10,ptr vU,ptr vw,c13,c14,c15,c16,c17,c18,c19,c20,c21,c22,c23,c24,c25,c26,c27,c28,c29,c30,c31,c32,c33,c34,c35,c36,c37,c38,c39,c40,c41,c42,c43,c44,c45,c46,c47,c48,c49,c50,c51,c52,c53,c54,c55,c56,c57,c58,c59,c60,c61,c62,c63,c64,c65,c66,c67,c68,u69,u70,dv bv1 V1.e,u72,u73,u74,u75,u76,u77,u78,u79,u80,u81,u82,u83,u84,u85,u86,u87,dv ba3 A3.e,dv bU U.e,u90,u91,u92,u93,dv bU U.e,u95,u96,u97,u98,u99,u100,u101,u102,u103,u104,u105,u106,u107,u108,u109,u110,u111,u112,u113,u114,u115,u116,u117,u118,u119,u120,u121,u122,u123,u124,u125,u126,u127,u128,u129,u130,u131,u132,u133,u134,u135,u136,u137,u138,u139,u140,u141,u142,u143],[]⟩ wx :=by
  subst ho
  (conv => arg 2;whnf)
  refine planSeg ?_
  (conv => arg 4;simp only [gaC,gaN,lZ0,lS0,coS])
  go_wp2_with (first
    | refine ⟨by kernel_rfl,oldD kr,?_⟩
    | refine ⟨oldD kr,?_⟩
    | (go_at_call 67;(with_reducible refine (m4 _ _ _ F.glob (F.int (by simp)) (F.int (by simp))).mono ?_);rintro r w1 ⟨bm4,rfl,n,k⟩;replace kr :=kt kr k;replace F :=F.new n k;clear n k))
  exact s20_r34 (by kernel_rfl) kr (F.sub (by simp)) a4 m5 a5 hv2 hN
theorem s20_t17 (ho : ops = sin20ops) (kr : Kept wd wx) (F : Fm w wx [(bU,U.m),(bv1,V1.m),(ba3,A3.m)] ((vU,ptr bU,.int .i32 U.e) :: V)) (m4 : mulF A3 U M4) (a4 : addF M4 ⟨-13888888888873056,-19⟩ A4) (m5 : mulF A4 U M5) (a5 : addF M5 ⟨41666666666666595,-18⟩ A5) (hv2 : mulF V1 A5 V2)
    (hN : S20End w N V vU bU U V2 c0 c1 c2 c3 c4 c5 c6 c7 c8 c9 c10 c13 c14 c15 c16 c17 c18 c19 c20 c21 c22 c23 c24 c25 c26 c27 c28 c29 c30 c31 c32 c33 c34 c35 c36 c37 c38 c39 c40 c41 c42 c43 c44 c45 c46 c47 c48 c49 c50 c51 c52 c53 c54 c55 c56 c57 c58 c59 c60 c61 c62 c63 c64 c65 c66 c67 c68) :
    wpPlanL Tryz.prog ops wd.drew N p20_t17 ⟨#[c0,c1,c2,c3,c4,c5,c6,c7,c8,c9,c10,ptr vU,u12,c13,c14,c15,c16,c17,c18,c19,c20,c21,c22,c23,c24,c25,c26,c27,c28,c29,c30,c31,c32,c33,c34,c35,c36,c37,c38,c39,c40,c41,c42,c43,c44,c45,c46,c47,c48,c49,c50,c51,c52,c53,c54,c55,c56,c57,c58,c59,c60,c61,c62,c63,c64,c65,c66,c67,c68,u69,u70,dv bv1 V1.e,u72,u73,u74,u75,u76,u77,u78,u79,u80,u81,u82,u83,u84,u85,u86,u87,dv ba3 A3.e,dv bU U.e,u90,u91,u92,u93,dv bU U.e,u95,u96,u97,u98,u99,u100,u101,u102,u103,u104,u105,u106,u107,u108,u109,u110,u111,u112,u113,u114,u115,u116,u117,u118,u119,u120,u121,u122,u123,u124,u125,u126,u127,u128,u129,u130,u131,u132,u133,u134,u135,u136,u137,u138,u139,u140,u141,u142,u143],[]⟩ wx :=by
  subst ho
  (conv => arg 2;whnf)
  refine planTwo ?_ ?_
  · (conv => arg 4;simp only [gaC,gaN,lZ0,lS0,coS])
    go_wp2_with (first
      | refine ⟨by kernel_rfl,oldD kr,?_⟩
      | refine ⟨oldD kr,?_⟩
      | (go_at_call 67;(with_reducible refine (m4 _ _ _ F.glob (F.int (by simp)) (F.int (by simp))).mono ?_);rintro r w1 ⟨bm4,rfl,n,k⟩;replace kr :=kt kr k;replace F :=F.new n k;clear n k))
    exact s20_t18 (by kernel_rfl) kr (F.sub (by simp)) a4 m5 a5 hv2 hN
  · (conv => arg 4;simp only [gaC,gaN,lZ0,lS0,coS])
    go_wp2_with (refine ⟨oldD (kt kr (Chg.alloc _ _ _)),?_⟩)
    replace kr :=kt kr (boxK _ (.pointer none) (.int .i32 0))
    replace F :=F.box (.pointer none) (.int .i32 0)
    exact s20_r36 (by kernel_rfl) kr (F.sub (by simp)) m4 a4 m5 a5 hv2 hN
theorem s20_r37 (ho : ops = sin20ops) (kr : Kept wd wx) (F : Fm w wx [(bU,U.m),(bv1,V1.m),(bm3,M3.m),(bc,24801587288851704)] ((vw,.pointer none,.int .i32 0) :: (vU,ptr bU,.int .i32 U.e) :: V)) (a3 : addF M3 ⟨24801587288851704,-21⟩ A3) (m4 : mulF A3 U M4) (a4 : addF M4 ⟨-13888888888873056,-19⟩ A4) (m5 : mulF A4 U M5) (a5 : addF M5 ⟨41666666666666595,-18⟩ A5) (hv2 : mulF V1 A5 V2)
    (hN : S20End w N V vU bU U V2 c0 c1 c2 c3 c4 c5 c6 c7 c8 c9 c10 c13 c14 c15 c16 c17 c18 c19 c20 c21 c22 c23 c24 c25 c26 c27 c28 c29 c30 c31 c32 c33 c34 c35 c36 c37 c38 c39 c40 c41 c42 c43 c44 c45 c46 c47 c48 c49 c50 c51 c52 c53 c54 c55 c56 c57 c58 c59 c60 c61 c62 c63 c64 c65 c66 c67 c68) :
    wpPlanL Tryz.prog ops wd.drew N p20_r37 ⟨#[c0,c1,c2,c3,c4,c5,c6,c7,c8,c9,c10,ptr vU,ptr vw,c13,c14,c15,c16,c17,c18,c19,c20,c21,c22,c23,c24,c25,c26,c27,c28,c29,c30,c31,c32,c33,c34,c35,c36,c37,c38,c39,c40,c41,c42,c43,c44,c45,c46,c47,c48,c49,c50,c51,c52,c53,c54,c55,c56,c57,c58,c59,c60,c61,c62,c63,c64,c65,c66,c67,c68,u69,u70,dv bv1 V1.e,u72,u73,u74,u75,u76,u77,u78,u79,u80,u81,u82,u83,u84,dv bm3 M3.e,u86,dv bc (-21),u88,dv bU U.e,u90,u91,u92,u93,dv bU U.e,u95,u96,u97,u98,u99,u100,u101,u102,u103,u104,u105,u106,u107,u108,u109,u110,u111,u112,u113,u114,u115,u116,u117,u118,u119,u120,u121,u122,u123,u124,u125,u126,u127,u128,u129,u130,u131,u132,u133,u134,u135,u136,u137,u138,u139,u140,u141,u142,u143],[]⟩ wx :=by
  subst ho
  (conv => arg 2;whnf)
  refine planSeg ?_
  (conv => arg 4;simp only [gaC,gaN,lZ0,lS0,coS])
  go_wp2_with (first
    | refine ⟨by kernel_rfl,oldD kr,?_⟩
    | refine ⟨oldD kr,?_⟩
    | (go_at_call 70;(with_reducible refine (a3 _ _ _ F.glob (F.int (by simp)) (F.int (by simp))).mono ?_);rintro r w1 ⟨ba3,rfl,n,k⟩;replace kr :=kt kr k;replace F :=F.new n k;clear n k))
  exact s20_r36 (by kernel_rfl) kr (F.sub (by simp)) m4 a4 m5 a5 hv2 hN
theorem s20_t16 (ho : ops = sin20ops) (kr : Kept wd wx) (F : Fm w wx [(bU,U.m),(bv1,V1.m),(bm3,M3.m),(bc,24801587288851704)] ((vU,ptr bU,.int .i32 U.e) :: V)) (a3 : addF M3 ⟨24801587288851704,-21⟩ A3) (m4 : mulF A3 U M4) (a4 : addF M4 ⟨-13888888888873056,-19⟩ A4) (m5 : mulF A4 U M5) (a5 : addF M5 ⟨41666666666666595,-18⟩ A5) (hv2 : mulF V1 A5 V2)
    (hN : S20End w N V vU bU U V2 c0 c1 c2 c3 c4 c5 c6 c7 c8 c9 c10 c13 c14 c15 c16 c17 c18 c19 c20 c21 c22 c23 c24 c25 c26 c27 c28 c29 c30 c31 c32 c33 c34 c35 c36 c37 c38 c39 c40 c41 c42 c43 c44 c45 c46 c47 c48 c49 c50 c51 c52 c53 c54 c55 c56 c57 c58 c59 c60 c61 c62 c63 c64 c65 c66 c67 c68) :
    wpPlanL Tryz.prog ops wd.drew N p20_t16 ⟨#[c0,c1,c2,c3,c4,c5,c6,c7,c8,c9,c10,ptr vU,u12,c13,c14,c15,c16,c17,c18,c19,c20,c21,c22,c23,c24,c25,c26,c27,c28,c29,c30,c31,c32,c33,c34,c35,c36,c37,c38,c39,c40,c41,c42,c43,c44,c45,c46,c47,c48,c49,c50,c51,c52,c53,c54,c55,c56,c57,c58,c59,c60,c61,c62,c63,c64,c65,c66,c67,c68,u69,u70,dv bv1 V1.e,u72,u73,u74,u75,u76,u77,u78,u79,u80,u81,u82,u83,u84,dv bm3 M3.e,u86,dv bc (-21),u88,dv bU U.e,u90,u91,u92,u93,dv bU U.e,u95,u96,u97,u98,u99,u100,u101,u102,u103,u104,u105,u106,u107,u108,u109,u110,u111,u112,u113,u114,u115,u116,u117,u118,u119,u120,u121,u122,u123,u124,u125,u126,u127,u128,u129,u130,u131,u132,u133,u134,u135,u136,u137,u138,u139,u140,u141,u142,u143],[]⟩ wx :=by
  subst ho
  (conv => arg 2;whnf)
  refine planTwo ?_ ?_
  · (conv => arg 4;simp only [gaC,gaN,lZ0,lS0,coS])
    go_wp2_with (first
      | refine ⟨by kernel_rfl,oldD kr,?_⟩
      | refine ⟨oldD kr,?_⟩
      | (go_at_call 70;(with_reducible refine (a3 _ _ _ F.glob (F.int (by simp)) (F.int (by simp))).mono ?_);rintro r w1 ⟨ba3,rfl,n,k⟩;replace kr :=kt kr k;replace F :=F.new n k;clear n k))
    exact s20_t17 (by kernel_rfl) kr (F.sub (by simp)) m4 a4 m5 a5 hv2 hN
  · (conv => arg 4;simp only [gaC,gaN,lZ0,lS0,coS])
    go_wp2_with (refine ⟨oldD (kt kr (Chg.alloc _ _ _)),?_⟩)
    replace kr :=kt kr (boxK _ (.pointer none) (.int .i32 0))
    replace F :=F.box (.pointer none) (.int .i32 0)
    exact s20_r37 (by kernel_rfl) kr (F.sub (by simp)) a3 m4 a4 m5 a5 hv2 hN
theorem s20_t15 (ho : ops = sin20ops) (kr : Kept wd wx) (F : Fm w wx [(bU,U.m),(bv1,V1.m),(bm3,M3.m),(g3,24801587288851704)] ((vU,ptr bU,.int .i32 U.e) :: V)) (a3 : addF M3 ⟨24801587288851704,-21⟩ A3) (m4 : mulF A3 U M4) (a4 : addF M4 ⟨-13888888888873056,-19⟩ A4) (m5 : mulF A4 U M5) (a5 : addF M5 ⟨41666666666666595,-18⟩ A5) (hv2 : mulF V1 A5 V2)
    (hN : S20End w N V vU bU U V2 c0 c1 c2 c3 c4 c5 c6 c7 c8 c9 c10 c13 c14 c15 c16 c17 c18 c19 c20 c21 c22 c23 c24 c25 c26 c27 c28 c29 c30 c31 c32 c33 c34 c35 c36 c37 c38 c39 c40 c41 c42 c43 c44 c45 c46 c47 c48 c49 c50 c51 c52 c53 c54 c55 c56 c57 c58 c59 c60 c61 c62 c63 c64 c65 c66 c67 c68) :
    wpPlanL Tryz.prog ops wd.drew N p20_t15 ⟨#[c0,c1,c2,c3,c4,c5,c6,c7,c8,c9,c10,ptr vU,u12,c13,c14,c15,c16,c17,c18,c19,c20,c21,c22,c23,c24,c25,c26,c27,c28,c29,c30,c31,c32,c33,c34,c35,c36,c37,c38,c39,c40,c41,c42,c43,c44,c45,c46,c47,c48,c49,c50,c51,c52,c53,c54,c55,c56,c57,c58,c59,c60,c61,c62,c63,c64,c65,c66,c67,c68,u69,u70,dv bv1 V1.e,u72,u73,u74,u75,u76,u77,u78,u79,u80,u81,u82,u83,u84,dv bm3 M3.e,.agg #[ptr g0,.int .i32 (-27),ptr g1,.int .i32 (-24),ptr g2,.int .i32 (-22),ptr g3,.int .i32 (-21),ptr g4,.int .i32 (-19),ptr g5,.int .i32 (-18)],u87,u88,dv bU U.e,u90,u91,u92,u93,dv bU U.e,u95,u96,u97,u98,u99,u100,u101,u102,u103,u104,u105,u106,u107,u108,u109,u110,u111,u112,u113,u114,u115,u116,u117,u118,u119,u120,u121,u122,u123,u124,u125,u126,u127,u128,u129,u130,u131,u132,u133,u134,u135,u136,u137,u138,u139,u140,u141,u142,u143],[]⟩ wx :=by
  subst ho
  (conv => arg 2;whnf)
  refine planSeg ?_
  (conv => arg 4;simp only [gaC,gaN,lZ0,lS0,coS])
  go_wp2_with (first
    | refine ⟨by kernel_rfl,oldD kr,?_⟩
    | refine ⟨oldD kr,?_⟩)
  exact s20_t16 (by kernel_rfl) kr (F.sub (by simp)) a3 m4 a4 m5 a5 hv2 hN
theorem s20_r39 (ho : ops = sin20ops) (kr : Kept wd wx) (F : Fm w wx [(bU,U.m),(bv1,V1.m),(bm3,M3.m),(g3,24801587288851704)] ((vw,.pointer none,.int .i32 0) :: (vU,ptr bU,.int .i32 U.e) :: V)) (a3 : addF M3 ⟨24801587288851704,-21⟩ A3) (m4 : mulF A3 U M4) (a4 : addF M4 ⟨-13888888888873056,-19⟩ A4) (m5 : mulF A4 U M5) (a5 : addF M5 ⟨41666666666666595,-18⟩ A5) (hv2 : mulF V1 A5 V2)
    (hN : S20End w N V vU bU U V2 c0 c1 c2 c3 c4 c5 c6 c7 c8 c9 c10 c13 c14 c15 c16 c17 c18 c19 c20 c21 c22 c23 c24 c25 c26 c27 c28 c29 c30 c31 c32 c33 c34 c35 c36 c37 c38 c39 c40 c41 c42 c43 c44 c45 c46 c47 c48 c49 c50 c51 c52 c53 c54 c55 c56 c57 c58 c59 c60 c61 c62 c63 c64 c65 c66 c67 c68) :
    wpPlanL Tryz.prog ops wd.drew N p20_r39 ⟨#[c0,c1,c2,c3,c4,c5,c6,c7,c8,c9,c10,ptr vU,ptr vw,c13,c14,c15,c16,c17,c18,c19,c20,c21,c22,c23,c24,c25,c26,c27,c28,c29,c30,c31,c32,c33,c34,c35,c36,c37,c38,c39,c40,c41,c42,c43,c44,c45,c46,c47,c48,c49,c50,c51,c52,c53,c54,c55,c56,c57,c58,c59,c60,c61,c62,c63,c64,c65,c66,c67,c68,u69,u70,dv bv1 V1.e,u72,u73,u74,u75,u76,u77,u78,u79,u80,u81,u82,u83,u84,dv bm3 M3.e,.agg #[ptr g0,.int .i32 (-27),ptr g1,.int .i32 (-24),ptr g2,.int .i32 (-22),ptr g3,.int .i32 (-21),ptr g4,.int .i32 (-19),ptr g5,.int .i32 (-18)],u87,u88,dv bU U.e,u90,u91,u92,u93,dv bU U.e,u95,u96,u97,u98,u99,u100,u101,u102,u103,u104,u105,u106,u107,u108,u109,u110,u111,u112,u113,u114,u115,u116,u117,u118,u119,u120,u121,u122,u123,u124,u125,u126,u127,u128,u129,u130,u131,u132,u133,u134,u135,u136,u137,u138,u139,u140,u141,u142,u143],[]⟩ wx :=by
  subst ho
  (conv => arg 2;whnf)
  refine planSeg ?_
  (conv => arg 4;simp only [gaC,gaN,lZ0,lS0,coS])
  go_wp2_with (first
    | refine ⟨by kernel_rfl,oldD kr,?_⟩
    | refine ⟨oldD kr,?_⟩
    | (go_at_call 70;(with_reducible refine (a3 _ _ _ F.glob (F.int (by simp)) (F.int (by simp))).mono ?_);rintro r w1 ⟨ba3,rfl,n,k⟩;replace kr :=kt kr k;replace F :=F.new n k;clear n k))
  exact s20_r36 (by kernel_rfl) kr (F.sub (by simp)) m4 a4 m5 a5 hv2 hN
theorem s20_r38 (ho : ops = sin20ops) (kr : Kept wd wx) (F : Fm w wx [(bU,U.m),(bv1,V1.m),(bm3,M3.m)] ((vw,.pointer none,.int .i32 0) :: (vU,ptr bU,.int .i32 U.e) :: V)) (a3 : addF M3 ⟨24801587288851704,-21⟩ A3) (m4 : mulF A3 U M4) (a4 : addF M4 ⟨-13888888888873056,-19⟩ A4) (m5 : mulF A4 U M5) (a5 : addF M5 ⟨41666666666666595,-18⟩ A5) (hv2 : mulF V1 A5 V2)
    (hN : S20End w N V vU bU U V2 c0 c1 c2 c3 c4 c5 c6 c7 c8 c9 c10 c13 c14 c15 c16 c17 c18 c19 c20 c21 c22 c23 c24 c25 c26 c27 c28 c29 c30 c31 c32 c33 c34 c35 c36 c37 c38 c39 c40 c41 c42 c43 c44 c45 c46 c47 c48 c49 c50 c51 c52 c53 c54 c55 c56 c57 c58 c59 c60 c61 c62 c63 c64 c65 c66 c67 c68) :
    wpPlanL Tryz.prog ops wd.drew N p20_r38 ⟨#[c0,c1,c2,c3,c4,c5,c6,c7,c8,c9,c10,ptr vU,ptr vw,c13,c14,c15,c16,c17,c18,c19,c20,c21,c22,c23,c24,c25,c26,c27,c28,c29,c30,c31,c32,c33,c34,c35,c36,c37,c38,c39,c40,c41,c42,c43,c44,c45,c46,c47,c48,c49,c50,c51,c52,c53,c54,c55,c56,c57,c58,c59,c60,c61,c62,c63,c64,c65,c66,c67,c68,u69,u70,dv bv1 V1.e,u72,u73,u74,u75,u76,u77,u78,u79,u80,u81,u82,u83,u84,dv bm3 M3.e,u86,u87,u88,dv bU U.e,u90,u91,u92,u93,dv bU U.e,u95,u96,u97,u98,u99,u100,u101,u102,u103,u104,u105,u106,u107,u108,u109,u110,u111,u112,u113,u114,u115,u116,u117,u118,u119,u120,u121,u122,u123,u124,u125,u126,u127,u128,u129,u130,u131,u132,u133,u134,u135,u136,u137,u138,u139,u140,u141,u142,u143],[]⟩ wx :=by
  subst ho
  (conv => arg 2;whnf)
  refine planSeg ?_
  (conv => arg 4;simp only [gaC,gaN,lZ0,lS0,coS])
  go_wp2_with (first
    | refine ⟨by kernel_rfl,oldD kr,?_⟩
    | refine ⟨oldD kr,?_⟩
    | (go_at_call 73;(with_reducible refine (dec_arr73 _ F.globF).mono ?_);rintro r w1 ⟨g0,g1,g2,g3,g4,g5,rfl,n0,n1,n2,n3,n4,n5,k⟩;replace kr :=kt kr k;replace F :=F.new n3 k;clear n0 n1 n2 n3 n4 n5 k))
  exact s20_r39 (by kernel_rfl) kr (F.sub (by simp)) a3 m4 a4 m5 a5 hv2 hN
theorem s20_t14 (ho : ops = sin20ops) (kr : Kept wd wx) (F : Fm w wx [(bU,U.m),(bv1,V1.m),(bm3,M3.m)] ((vU,ptr bU,.int .i32 U.e) :: V)) (a3 : addF M3 ⟨24801587288851704,-21⟩ A3) (m4 : mulF A3 U M4) (a4 : addF M4 ⟨-13888888888873056,-19⟩ A4) (m5 : mulF A4 U M5) (a5 : addF M5 ⟨41666666666666595,-18⟩ A5) (hv2 : mulF V1 A5 V2)
    (hN : S20End w N V vU bU U V2 c0 c1 c2 c3 c4 c5 c6 c7 c8 c9 c10 c13 c14 c15 c16 c17 c18 c19 c20 c21 c22 c23 c24 c25 c26 c27 c28 c29 c30 c31 c32 c33 c34 c35 c36 c37 c38 c39 c40 c41 c42 c43 c44 c45 c46 c47 c48 c49 c50 c51 c52 c53 c54 c55 c56 c57 c58 c59 c60 c61 c62 c63 c64 c65 c66 c67 c68) :
    wpPlanL Tryz.prog ops wd.drew N p20_t14 ⟨#[c0,c1,c2,c3,c4,c5,c6,c7,c8,c9,c10,ptr vU,u12,c13,c14,c15,c16,c17,c18,c19,c20,c21,c22,c23,c24,c25,c26,c27,c28,c29,c30,c31,c32,c33,c34,c35,c36,c37,c38,c39,c40,c41,c42,c43,c44,c45,c46,c47,c48,c49,c50,c51,c52,c53,c54,c55,c56,c57,c58,c59,c60,c61,c62,c63,c64,c65,c66,c67,c68,u69,u70,dv bv1 V1.e,u72,u73,u74,u75,u76,u77,u78,u79,u80,u81,u82,u83,u84,dv bm3 M3.e,u86,u87,u88,dv bU U.e,u90,u91,u92,u93,dv bU U.e,u95,u96,u97,u98,u99,u100,u101,u102,u103,u104,u105,u106,u107,u108,u109,u110,u111,u112,u113,u114,u115,u116,u117,u118,u119,u120,u121,u122,u123,u124,u125,u126,u127,u128,u129,u130,u131,u132,u133,u134,u135,u136,u137,u138,u139,u140,u141,u142,u143],[]⟩ wx :=by
  subst ho
  (conv => arg 2;whnf)
  refine planTwo ?_ ?_
  · (conv => arg 4;simp only [gaC,gaN,lZ0,lS0,coS])
    go_wp2_with (first
      | refine ⟨by kernel_rfl,oldD kr,?_⟩
      | refine ⟨oldD kr,?_⟩
      | (go_at_call 73;(with_reducible refine (dec_arr73 _ F.globF).mono ?_);rintro r w1 ⟨g0,g1,g2,g3,g4,g5,rfl,n0,n1,n2,n3,n4,n5,k⟩;replace kr :=kt kr k;replace F :=F.new n3 k;clear n0 n1 n2 n3 n4 n5 k))
    exact s20_t15 (by kernel_rfl) kr (F.sub (by simp)) a3 m4 a4 m5 a5 hv2 hN
  · (conv => arg 4;simp only [gaC,gaN,lZ0,lS0,coS])
    go_wp2_with (refine ⟨oldD (kt kr (Chg.alloc _ _ _)),?_⟩)
    replace kr :=kt kr (boxK _ (.pointer none) (.int .i32 0))
    replace F :=F.box (.pointer none) (.int .i32 0)
    exact s20_r38 (by kernel_rfl) kr (F.sub (by simp)) a3 m4 a4 m5 a5 hv2 hN
theorem s20_r40 (ho : ops = sin20ops) (kr : Kept wd wx) (F : Fm w wx [(bU,U.m),(bv1,V1.m),(ba2,A2.m)] ((vw,.pointer none,.int .i32 0) :: (vU,ptr bU,.int .i32 U.e) :: V)) (m3 : mulF A2 U M3) (a3 : addF M3 ⟨24801587288851704,-21⟩ A3) (m4 : mulF A3 U M4) (a4 : addF M4 ⟨-13888888888873056,-19⟩ A4) (m5 : mulF A4 U M5) (a5 : addF M5 ⟨41666666666666595,-18⟩ A5) (hv2 : mulF V1 A5 V2)
    (hN : S20End w N V vU bU U V2 c0 c1 c2 c3 c4 c5 c6 c7 c8 c9 c10 c13 c14 c15 c16 c17 c18 c19 c20 c21 c22 c23 c24 c25 c26 c27 c28 c29 c30 c31 c32 c33 c34 c35 c36 c37 c38 c39 c40 c41 c42 c43 c44 c45 c46 c47 c48 c49 c50 c51 c52 c53 c54 c55 c56 c57 c58 c59 c60 c61 c62 c63 c64 c65 c66 c67 c68) :
    wpPlanL Tryz.prog ops wd.drew N p20_r40 ⟨#[c0,c1,c2,c3,c4,c5,c6,c7,c8,c9,c10,ptr vU,ptr vw,c13,c14,c15,c16,c17,c18,c19,c20,c21,c22,c23,c24,c25,c26,c27,c28,c29,c30,c31,c32,c33,c34,c35,c36,c37,c38,c39,c40,c41,c42,c43,c44,c45,c46,c47,c48,c49,c50,c51,c52,c53,c54,c55,c56,c57,c58,c59,c60,c61,c62,c63,c64,c65,c66,c67,c68,u69,u70,dv bv1 V1.e,u72,u73,u74,u75,u76,u77,u78,u79,u80,u81,u82,dv ba2 A2.e,dv bU U.e,u85,u86,u87,u88,dv bU U.e,u90,u91,u92,u93,dv bU U.e,u95,u96,u97,u98,u99,u100,u101,u102,u103,u104,u105,u106,u107,u108,u109,u110,u111,u112,u113,u114,u115,u116,u117,u118,u119,u120,u121,u122,u123,u124,u125,u126,u127,u128,u129,u130,u131,u132,u133,u134,u135,u136,u137,u138,u139,u140,u141,u142,u143],[]⟩ wx :=by
  subst ho
  (conv => arg 2;whnf)
  refine planSeg ?_
  (conv => arg 4;simp only [gaC,gaN,lZ0,lS0,coS])
  go_wp2_with (first
    | refine ⟨by kernel_rfl,oldD kr,?_⟩
    | refine ⟨oldD kr,?_⟩
    | (go_at_call 67;(with_reducible refine (m3 _ _ _ F.glob (F.int (by simp)) (F.int (by simp))).mono ?_);rintro r w1 ⟨bm3,rfl,n,k⟩;replace kr :=kt kr k;replace F :=F.new n k;clear n k))
  exact s20_r38 (by kernel_rfl) kr (F.sub (by simp)) a3 m4 a4 m5 a5 hv2 hN
theorem s20_t13 (ho : ops = sin20ops) (kr : Kept wd wx) (F : Fm w wx [(bU,U.m),(bv1,V1.m),(ba2,A2.m)] ((vU,ptr bU,.int .i32 U.e) :: V)) (m3 : mulF A2 U M3) (a3 : addF M3 ⟨24801587288851704,-21⟩ A3) (m4 : mulF A3 U M4) (a4 : addF M4 ⟨-13888888888873056,-19⟩ A4) (m5 : mulF A4 U M5) (a5 : addF M5 ⟨41666666666666595,-18⟩ A5) (hv2 : mulF V1 A5 V2)
    (hN : S20End w N V vU bU U V2 c0 c1 c2 c3 c4 c5 c6 c7 c8 c9 c10 c13 c14 c15 c16 c17 c18 c19 c20 c21 c22 c23 c24 c25 c26 c27 c28 c29 c30 c31 c32 c33 c34 c35 c36 c37 c38 c39 c40 c41 c42 c43 c44 c45 c46 c47 c48 c49 c50 c51 c52 c53 c54 c55 c56 c57 c58 c59 c60 c61 c62 c63 c64 c65 c66 c67 c68) :
    wpPlanL Tryz.prog ops wd.drew N p20_t13 ⟨#[c0,c1,c2,c3,c4,c5,c6,c7,c8,c9,c10,ptr vU,u12,c13,c14,c15,c16,c17,c18,c19,c20,c21,c22,c23,c24,c25,c26,c27,c28,c29,c30,c31,c32,c33,c34,c35,c36,c37,c38,c39,c40,c41,c42,c43,c44,c45,c46,c47,c48,c49,c50,c51,c52,c53,c54,c55,c56,c57,c58,c59,c60,c61,c62,c63,c64,c65,c66,c67,c68,u69,u70,dv bv1 V1.e,u72,u73,u74,u75,u76,u77,u78,u79,u80,u81,u82,dv ba2 A2.e,dv bU U.e,u85,u86,u87,u88,dv bU U.e,u90,u91,u92,u93,dv bU U.e,u95,u96,u97,u98,u99,u100,u101,u102,u103,u104,u105,u106,u107,u108,u109,u110,u111,u112,u113,u114,u115,u116,u117,u118,u119,u120,u121,u122,u123,u124,u125,u126,u127,u128,u129,u130,u131,u132,u133,u134,u135,u136,u137,u138,u139,u140,u141,u142,u143],[]⟩ wx :=by
  subst ho
  (conv => arg 2;whnf)
  refine planTwo ?_ ?_
  · (conv => arg 4;simp only [gaC,gaN,lZ0,lS0,coS])
    go_wp2_with (first
      | refine ⟨by kernel_rfl,oldD kr,?_⟩
      | refine ⟨oldD kr,?_⟩
      | (go_at_call 67;(with_reducible refine (m3 _ _ _ F.glob (F.int (by simp)) (F.int (by simp))).mono ?_);rintro r w1 ⟨bm3,rfl,n,k⟩;replace kr :=kt kr k;replace F :=F.new n k;clear n k))
    exact s20_t14 (by kernel_rfl) kr (F.sub (by simp)) a3 m4 a4 m5 a5 hv2 hN
  · (conv => arg 4;simp only [gaC,gaN,lZ0,lS0,coS])
    go_wp2_with (refine ⟨oldD (kt kr (Chg.alloc _ _ _)),?_⟩)
    replace kr :=kt kr (boxK _ (.pointer none) (.int .i32 0))
    replace F :=F.box (.pointer none) (.int .i32 0)
    exact s20_r40 (by kernel_rfl) kr (F.sub (by simp)) m3 a3 m4 a4 m5 a5 hv2 hN
theorem s20_r41 (ho : ops = sin20ops) (kr : Kept wd wx) (F : Fm w wx [(bU,U.m),(bv1,V1.m),(bm2,M2.m),(bc,-2755731417929674)] ((vw,.pointer none,.int .i32 0) :: (vU,ptr bU,.int .i32 U.e) :: V)) (a2 : addF M2 ⟨-2755731417929674,-22⟩ A2) (m3 : mulF A2 U M3) (a3 : addF M3 ⟨24801587288851704,-21⟩ A3) (m4 : mulF A3 U M4) (a4 : addF M4 ⟨-13888888888873056,-19⟩ A4) (m5 : mulF A4 U M5) (a5 : addF M5 ⟨41666666666666595,-18⟩ A5) (hv2 : mulF V1 A5 V2)
    (hN : S20End w N V vU bU U V2 c0 c1 c2 c3 c4 c5 c6 c7 c8 c9 c10 c13 c14 c15 c16 c17 c18 c19 c20 c21 c22 c23 c24 c25 c26 c27 c28 c29 c30 c31 c32 c33 c34 c35 c36 c37 c38 c39 c40 c41 c42 c43 c44 c45 c46 c47 c48 c49 c50 c51 c52 c53 c54 c55 c56 c57 c58 c59 c60 c61 c62 c63 c64 c65 c66 c67 c68) :
    wpPlanL Tryz.prog ops wd.drew N p20_r41 ⟨#[c0,c1,c2,c3,c4,c5,c6,c7,c8,c9,c10,ptr vU,ptr vw,c13,c14,c15,c16,c17,c18,c19,c20,c21,c22,c23,c24,c25,c26,c27,c28,c29,c30,c31,c32,c33,c34,c35,c36,c37,c38,c39,c40,c41,c42,c43,c44,c45,c46,c47,c48,c49,c50,c51,c52,c53,c54,c55,c56,c57,c58,c59,c60,c61,c62,c63,c64,c65,c66,c67,c68,u69,u70,dv bv1 V1.e,u72,u73,u74,u75,u76,u77,u78,u79,dv bm2 M2.e,u81,dv bc (-22),u83,dv bU U.e,u85,u86,u87,u88,dv bU U.e,u90,u91,u92,u93,dv bU U.e,u95,u96,u97,u98,u99,u100,u101,u102,u103,u104,u105,u106,u107,u108,u109,u110,u111,u112,u113,u114,u115,u116,u117,u118,u119,u120,u121,u122,u123,u124,u125,u126,u127,u128,u129,u130,u131,u132,u133,u134,u135,u136,u137,u138,u139,u140,u141,u142,u143],[]⟩ wx :=by
  subst ho
  (conv => arg 2;whnf)
  refine planSeg ?_
  (conv => arg 4;simp only [gaC,gaN,lZ0,lS0,coS])
  go_wp2_with (first
    | refine ⟨by kernel_rfl,oldD kr,?_⟩
    | refine ⟨oldD kr,?_⟩
    | (go_at_call 70;(with_reducible refine (a2 _ _ _ F.glob (F.int (by simp)) (F.int (by simp))).mono ?_);rintro r w1 ⟨ba2,rfl,n,k⟩;replace kr :=kt kr k;replace F :=F.new n k;clear n k))
  exact s20_r40 (by kernel_rfl) kr (F.sub (by simp)) m3 a3 m4 a4 m5 a5 hv2 hN
theorem s20_t12 (ho : ops = sin20ops) (kr : Kept wd wx) (F : Fm w wx [(bU,U.m),(bv1,V1.m),(bm2,M2.m),(bc,-2755731417929674)] ((vU,ptr bU,.int .i32 U.e) :: V)) (a2 : addF M2 ⟨-2755731417929674,-22⟩ A2) (m3 : mulF A2 U M3) (a3 : addF M3 ⟨24801587288851704,-21⟩ A3) (m4 : mulF A3 U M4) (a4 : addF M4 ⟨-13888888888873056,-19⟩ A4) (m5 : mulF A4 U M5) (a5 : addF M5 ⟨41666666666666595,-18⟩ A5) (hv2 : mulF V1 A5 V2)
    (hN : S20End w N V vU bU U V2 c0 c1 c2 c3 c4 c5 c6 c7 c8 c9 c10 c13 c14 c15 c16 c17 c18 c19 c20 c21 c22 c23 c24 c25 c26 c27 c28 c29 c30 c31 c32 c33 c34 c35 c36 c37 c38 c39 c40 c41 c42 c43 c44 c45 c46 c47 c48 c49 c50 c51 c52 c53 c54 c55 c56 c57 c58 c59 c60 c61 c62 c63 c64 c65 c66 c67 c68) :
    wpPlanL Tryz.prog ops wd.drew N p20_t12 ⟨#[c0,c1,c2,c3,c4,c5,c6,c7,c8,c9,c10,ptr vU,u12,c13,c14,c15,c16,c17,c18,c19,c20,c21,c22,c23,c24,c25,c26,c27,c28,c29,c30,c31,c32,c33,c34,c35,c36,c37,c38,c39,c40,c41,c42,c43,c44,c45,c46,c47,c48,c49,c50,c51,c52,c53,c54,c55,c56,c57,c58,c59,c60,c61,c62,c63,c64,c65,c66,c67,c68,u69,u70,dv bv1 V1.e,u72,u73,u74,u75,u76,u77,u78,u79,dv bm2 M2.e,u81,dv bc (-22),u83,dv bU U.e,u85,u86,u87,u88,dv bU U.e,u90,u91,u92,u93,dv bU U.e,u95,u96,u97,u98,u99,u100,u101,u102,u103,u104,u105,u106,u107,u108,u109,u110,u111,u112,u113,u114,u115,u116,u117,u118,u119,u120,u121,u122,u123,u124,u125,u126,u127,u128,u129,u130,u131,u132,u133,u134,u135,u136,u137,u138,u139,u140,u141,u142,u143],[]⟩ wx :=by
  subst ho
  (conv => arg 2;whnf)
  refine planTwo ?_ ?_
  · (conv => arg 4;simp only [gaC,gaN,lZ0,lS0,coS])
    go_wp2_with (first
      | refine ⟨by kernel_rfl,oldD kr,?_⟩
      | refine ⟨oldD kr,?_⟩
      | (go_at_call 70;(with_reducible refine (a2 _ _ _ F.glob (F.int (by simp)) (F.int (by simp))).mono ?_);rintro r w1 ⟨ba2,rfl,n,k⟩;replace kr :=kt kr k;replace F :=F.new n k;clear n k))
    exact s20_t13 (by kernel_rfl) kr (F.sub (by simp)) m3 a3 m4 a4 m5 a5 hv2 hN
  · (conv => arg 4;simp only [gaC,gaN,lZ0,lS0,coS])
    go_wp2_with (refine ⟨oldD (kt kr (Chg.alloc _ _ _)),?_⟩)
    replace kr :=kt kr (boxK _ (.pointer none) (.int .i32 0))
    replace F :=F.box (.pointer none) (.int .i32 0)
    exact s20_r41 (by kernel_rfl) kr (F.sub (by simp)) a2 m3 a3 m4 a4 m5 a5 hv2 hN
theorem s20_t11 (ho : ops = sin20ops) (kr : Kept wd wx) (F : Fm w wx [(bU,U.m),(bv1,V1.m),(bm2,M2.m),(g2,-2755731417929674)] ((vU,ptr bU,.int .i32 U.e) :: V)) (a2 : addF M2 ⟨-2755731417929674,-22⟩ A2) (m3 : mulF A2 U M3) (a3 : addF M3 ⟨24801587288851704,-21⟩ A3) (m4 : mulF A3 U M4) (a4 : addF M4 ⟨-13888888888873056,-19⟩ A4) (m5 : mulF A4 U M5) (a5 : addF M5 ⟨41666666666666595,-18⟩ A5) (hv2 : mulF V1 A5 V2)
    (hN : S20End w N V vU bU U V2 c0 c1 c2 c3 c4 c5 c6 c7 c8 c9 c10 c13 c14 c15 c16 c17 c18 c19 c20 c21 c22 c23 c24 c25 c26 c27 c28 c29 c30 c31 c32 c33 c34 c35 c36 c37 c38 c39 c40 c41 c42 c43 c44 c45 c46 c47 c48 c49 c50 c51 c52 c53 c54 c55 c56 c57 c58 c59 c60 c61 c62 c63 c64 c65 c66 c67 c68) :
    wpPlanL Tryz.prog ops wd.drew N p20_t11 ⟨#[c0,c1,c2,c3,c4,c5,c6,c7,c8,c9,c10,ptr vU,u12,c13,c14,c15,c16,c17,c18,c19,c20,c21,c22,c23,c24,c25,c26,c27,c28,c29,c30,c31,c32,c33,c34,c35,c36,c37,c38,c39,c40,c41,c42,c43,c44,c45,c46,c47,c48,c49,c50,c51,c52,c53,c54,c55,c56,c57,c58,c59,c60,c61,c62,c63,c64,c65,c66,c67,c68,u69,u70,dv bv1 V1.e,u72,u73,u74,u75,u76,u77,u78,u79,dv bm2 M2.e,.agg #[ptr g0,.int .i32 (-27),ptr g1,.int .i32 (-24),ptr g2,.int .i32 (-22),ptr g3,.int .i32 (-21),ptr g4,.int .i32 (-19),ptr g5,.int .i32 (-18)],u82,u83,dv bU U.e,u85,u86,u87,u88,dv bU U.e,u90,u91,u92,u93,dv bU U.e,u95,u96,u97,u98,u99,u100,u101,u102,u103,u104,u105,u106,u107,u108,u109,u110,u111,u112,u113,u114,u115,u116,u117,u118,u119,u120,u121,u122,u123,u124,u125,u126,u127,u128,u129,u130,u131,u132,u133,u134,u135,u136,u137,u138,u139,u140,u141,u142,u143],[]⟩ wx :=by
  subst ho
  (conv => arg 2;whnf)
  refine planSeg ?_
  (conv => arg 4;simp only [gaC,gaN,lZ0,lS0,coS])
  go_wp2_with (first
    | refine ⟨by kernel_rfl,oldD kr,?_⟩
    | refine ⟨oldD kr,?_⟩)
  exact s20_t12 (by kernel_rfl) kr (F.sub (by simp)) a2 m3 a3 m4 a4 m5 a5 hv2 hN
theorem s20_r43 (ho : ops = sin20ops) (kr : Kept wd wx) (F : Fm w wx [(bU,U.m),(bv1,V1.m),(bm2,M2.m),(g2,-2755731417929674)] ((vw,.pointer none,.int .i32 0) :: (vU,ptr bU,.int .i32 U.e) :: V)) (a2 : addF M2 ⟨-2755731417929674,-22⟩ A2) (m3 : mulF A2 U M3) (a3 : addF M3 ⟨24801587288851704,-21⟩ A3) (m4 : mulF A3 U M4) (a4 : addF M4 ⟨-13888888888873056,-19⟩ A4) (m5 : mulF A4 U M5) (a5 : addF M5 ⟨41666666666666595,-18⟩ A5) (hv2 : mulF V1 A5 V2)
    (hN : S20End w N V vU bU U V2 c0 c1 c2 c3 c4 c5 c6 c7 c8 c9 c10 c13 c14 c15 c16 c17 c18 c19 c20 c21 c22 c23 c24 c25 c26 c27 c28 c29 c30 c31 c32 c33 c34 c35 c36 c37 c38 c39 c40 c41 c42 c43 c44 c45 c46 c47 c48 c49 c50 c51 c52 c53 c54 c55 c56 c57 c58 c59 c60 c61 c62 c63 c64 c65 c66 c67 c68) :
    wpPlanL Tryz.prog ops wd.drew N p20_r43 ⟨#[c0,c1,c2,c3,c4,c5,c6,c7,c8,c9,c10,ptr vU,ptr vw,c13,c14,c15,c16,c17,c18,c19,c20,c21,c22,c23,c24,c25,c26,c27,c28,c29,c30,c31,c32,c33,c34,c35,c36,c37,c38,c39,c40,c41,c42,c43,c44,c45,c46,c47,c48,c49,c50,c51,c52,c53,c54,c55,c56,c57,c58,c59,c60,c61,c62,c63,c64,c65,c66,c67,c68,u69,u70,dv bv1 V1.e,u72,u73,u74,u75,u76,u77,u78,u79,dv bm2 M2.e,.agg #[ptr g0,.int .i32 (-27),ptr g1,.int .i32 (-24),ptr g2,.int .i32 (-22),ptr g3,.int .i32 (-21),ptr g4,.int .i32 (-19),ptr g5,.int .i32 (-18)],u82,u83,dv bU U.e,u85,u86,u87,u88,dv bU U.e,u90,u91,u92,u93,dv bU U.e,u95,u96,u97,u98,u99,u100,u101,u102,u103,u104,u105,u106,u107,u108,u109,u110,u111,u112,u113,u114,u115,u116,u117,u118,u119,u120,u121,u122,u123,u124,u125,u126,u127,u128,u129,u130,u131,u132,u133,u134,u135,u136,u137,u138,u139,u140,u141,u142,u143],[]⟩ wx :=by
  subst ho
  (conv => arg 2;whnf)
  refine planSeg ?_
  (conv => arg 4;simp only [gaC,gaN,lZ0,lS0,coS])
  go_wp2_with (first
    | refine ⟨by kernel_rfl,oldD kr,?_⟩
    | refine ⟨oldD kr,?_⟩
    | (go_at_call 70;(with_reducible refine (a2 _ _ _ F.glob (F.int (by simp)) (F.int (by simp))).mono ?_);rintro r w1 ⟨ba2,rfl,n,k⟩;replace kr :=kt kr k;replace F :=F.new n k;clear n k))
  exact s20_r40 (by kernel_rfl) kr (F.sub (by simp)) m3 a3 m4 a4 m5 a5 hv2 hN
theorem s20_r42 (ho : ops = sin20ops) (kr : Kept wd wx) (F : Fm w wx [(bU,U.m),(bv1,V1.m),(bm2,M2.m)] ((vw,.pointer none,.int .i32 0) :: (vU,ptr bU,.int .i32 U.e) :: V)) (a2 : addF M2 ⟨-2755731417929674,-22⟩ A2) (m3 : mulF A2 U M3) (a3 : addF M3 ⟨24801587288851704,-21⟩ A3) (m4 : mulF A3 U M4) (a4 : addF M4 ⟨-13888888888873056,-19⟩ A4) (m5 : mulF A4 U M5) (a5 : addF M5 ⟨41666666666666595,-18⟩ A5) (hv2 : mulF V1 A5 V2)
    (hN : S20End w N V vU bU U V2 c0 c1 c2 c3 c4 c5 c6 c7 c8 c9 c10 c13 c14 c15 c16 c17 c18 c19 c20 c21 c22 c23 c24 c25 c26 c27 c28 c29 c30 c31 c32 c33 c34 c35 c36 c37 c38 c39 c40 c41 c42 c43 c44 c45 c46 c47 c48 c49 c50 c51 c52 c53 c54 c55 c56 c57 c58 c59 c60 c61 c62 c63 c64 c65 c66 c67 c68) :
    wpPlanL Tryz.prog ops wd.drew N p20_r42 ⟨#[c0,c1,c2,c3,c4,c5,c6,c7,c8,c9,c10,ptr vU,ptr vw,c13,c14,c15,c16,c17,c18,c19,c20,c21,c22,c23,c24,c25,c26,c27,c28,c29,c30,c31,c32,c33,c34,c35,c36,c37,c38,c39,c40,c41,c42,c43,c44,c45,c46,c47,c48,c49,c50,c51,c52,c53,c54,c55,c56,c57,c58,c59,c60,c61,c62,c63,c64,c65,c66,c67,c68,u69,u70,dv bv1 V1.e,u72,u73,u74,u75,u76,u77,u78,u79,dv bm2 M2.e,u81,u82,u83,dv bU U.e,u85,u86,u87,u88,dv bU U.e,u90,u91,u92,u93,dv bU U.e,u95,u96,u97,u98,u99,u100,u101,u102,u103,u104,u105,u106,u107,u108,u109,u110,u111,u112,u113,u114,u115,u116,u117,u118,u119,u120,u121,u122,u123,u124,u125,u126,u127,u128,u129,u130,u131,u132,u133,u134,u135,u136,u137,u138,u139,u140,u141,u142,u143],[]⟩ wx :=by
  subst ho
  (conv => arg 2;whnf)
  refine planSeg ?_
  (conv => arg 4;simp only [gaC,gaN,lZ0,lS0,coS])
  go_wp2_with (first
    | refine ⟨by kernel_rfl,oldD kr,?_⟩
    | refine ⟨oldD kr,?_⟩
    | (go_at_call 73;(with_reducible refine (dec_arr73 _ F.globF).mono ?_);rintro r w1 ⟨g0,g1,g2,g3,g4,g5,rfl,n0,n1,n2,n3,n4,n5,k⟩;replace kr :=kt kr k;replace F :=F.new n2 k;clear n0 n1 n2 n3 n4 n5 k))
  exact s20_r43 (by kernel_rfl) kr (F.sub (by simp)) a2 m3 a3 m4 a4 m5 a5 hv2 hN
theorem s20_t10 (ho : ops = sin20ops) (kr : Kept wd wx) (F : Fm w wx [(bU,U.m),(bv1,V1.m),(bm2,M2.m)] ((vU,ptr bU,.int .i32 U.e) :: V)) (a2 : addF M2 ⟨-2755731417929674,-22⟩ A2) (m3 : mulF A2 U M3) (a3 : addF M3 ⟨24801587288851704,-21⟩ A3) (m4 : mulF A3 U M4) (a4 : addF M4 ⟨-13888888888873056,-19⟩ A4) (m5 : mulF A4 U M5) (a5 : addF M5 ⟨41666666666666595,-18⟩ A5) (hv2 : mulF V1 A5 V2)
    (hN : S20End w N V vU bU U V2 c0 c1 c2 c3 c4 c5 c6 c7 c8 c9 c10 c13 c14 c15 c16 c17 c18 c19 c20 c21 c22 c23 c24 c25 c26 c27 c28 c29 c30 c31 c32 c33 c34 c35 c36 c37 c38 c39 c40 c41 c42 c43 c44 c45 c46 c47 c48 c49 c50 c51 c52 c53 c54 c55 c56 c57 c58 c59 c60 c61 c62 c63 c64 c65 c66 c67 c68) :
    wpPlanL Tryz.prog ops wd.drew N p20_t10 ⟨#[c0,c1,c2,c3,c4,c5,c6,c7,c8,c9,c10,ptr vU,u12,c13,c14,c15,c16,c17,c18,c19,c20,c21,c22,c23,c24,c25,c26,c27,c28,c29,c30,c31,c32,c33,c34,c35,c36,c37,c38,c39,c40,c41,c42,c43,c44,c45,c46,c47,c48,c49,c50,c51,c52,c53,c54,c55,c56,c57,c58,c59,c60,c61,c62,c63,c64,c65,c66,c67,c68,u69,u70,dv bv1 V1.e,u72,u73,u74,u75,u76,u77,u78,u79,dv bm2 M2.e,u81,u82,u83,dv bU U.e,u85,u86,u87,u88,dv bU U.e,u90,u91,u92,u93,dv bU U.e,u95,u96,u97,u98,u99,u100,u101,u102,u103,u104,u105,u106,u107,u108,u109,u110,u111,u112,u113,u114,u115,u116,u117,u118,u119,u120,u121,u122,u123,u124,u125,u126,u127,u128,u129,u130,u131,u132,u133,u134,u135,u136,u137,u138,u139,u140,u141,u142,u143],[]⟩ wx :=by
  subst ho
  (conv => arg 2;whnf)
  refine planTwo ?_ ?_
  · (conv => arg 4;simp only [gaC,gaN,lZ0,lS0,coS])
    go_wp2_with (first
      | refine ⟨by kernel_rfl,oldD kr,?_⟩
      | refine ⟨oldD kr,?_⟩
      | (go_at_call 73;(with_reducible refine (dec_arr73 _ F.globF).mono ?_);rintro r w1 ⟨g0,g1,g2,g3,g4,g5,rfl,n0,n1,n2,n3,n4,n5,k⟩;replace kr :=kt kr k;replace F :=F.new n2 k;clear n0 n1 n2 n3 n4 n5 k))
    exact s20_t11 (by kernel_rfl) kr (F.sub (by simp)) a2 m3 a3 m4 a4 m5 a5 hv2 hN
  · (conv => arg 4;simp only [gaC,gaN,lZ0,lS0,coS])
    go_wp2_with (refine ⟨oldD (kt kr (Chg.alloc _ _ _)),?_⟩)
    replace kr :=kt kr (boxK _ (.pointer none) (.int .i32 0))
    replace F :=F.box (.pointer none) (.int .i32 0)
    exact s20_r42 (by kernel_rfl) kr (F.sub (by simp)) a2 m3 a3 m4 a4 m5 a5 hv2 hN
theorem s20_r44 (ho : ops = sin20ops) (kr : Kept wd wx) (F : Fm w wx [(bU,U.m),(bv1,V1.m),(ba1,A1.m)] ((vw,.pointer none,.int .i32 0) :: (vU,ptr bU,.int .i32 U.e) :: V)) (m2 : mulF A1 U M2) (a2 : addF M2 ⟨-2755731417929674,-22⟩ A2) (m3 : mulF A2 U M3) (a3 : addF M3 ⟨24801587288851704,-21⟩ A3) (m4 : mulF A3 U M4) (a4 : addF M4 ⟨-13888888888873056,-19⟩ A4) (m5 : mulF A4 U M5) (a5 : addF M5 ⟨41666666666666595,-18⟩ A5) (hv2 : mulF V1 A5 V2)
    (hN : S20End w N V vU bU U V2 c0 c1 c2 c3 c4 c5 c6 c7 c8 c9 c10 c13 c14 c15 c16 c17 c18 c19 c20 c21 c22 c23 c24 c25 c26 c27 c28 c29 c30 c31 c32 c33 c34 c35 c36 c37 c38 c39 c40 c41 c42 c43 c44 c45 c46 c47 c48 c49 c50 c51 c52 c53 c54 c55 c56 c57 c58 c59 c60 c61 c62 c63 c64 c65 c66 c67 c68) :
    wpPlanL Tryz.prog ops wd.drew N p20_r44 ⟨#[c0,c1,c2,c3,c4,c5,c6,c7,c8,c9,c10,ptr vU,ptr vw,c13,c14,c15,c16,c17,c18,c19,c20,c21,c22,c23,c24,c25,c26,c27,c28,c29,c30,c31,c32,c33,c34,c35,c36,c37,c38,c39,c40,c41,c42,c43,c44,c45,c46,c47,c48,c49,c50,c51,c52,c53,c54,c55,c56,c57,c58,c59,c60,c61,c62,c63,c64,c65,c66,c67,c68,u69,u70,dv bv1 V1.e,u72,u73,u74,u75,u76,u77,dv ba1 A1.e,dv bU U.e,u80,u81,u82,u83,dv bU U.e,u85,u86,u87,u88,dv bU U.e,u90,u91,u92,u93,dv bU U.e,u95,u96,u97,u98,u99,u100,u101,u102,u103,u104,u105,u106,u107,u108,u109,u110,u111,u112,u113,u114,u115,u116,u117,u118,u119,u120,u121,u122,u123,u124,u125,u126,u127,u128,u129,u130,u131,u132,u133,u134,u135,u136,u137,u138,u139,u140,u141,u142,u143],[]⟩ wx :=by
  subst ho
  (conv => arg 2;whnf)
  refine planSeg ?_
  (conv => arg 4;simp only [gaC,gaN,lZ0,lS0,coS])
  go_wp2_with (first
    | refine ⟨by kernel_rfl,oldD kr,?_⟩
    | refine ⟨oldD kr,?_⟩
    | (go_at_call 67;(with_reducible refine (m2 _ _ _ F.glob (F.int (by simp)) (F.int (by simp))).mono ?_);rintro r w1 ⟨bm2,rfl,n,k⟩;replace kr :=kt kr k;replace F :=F.new n k;clear n k))
  exact s20_r42 (by kernel_rfl) kr (F.sub (by simp)) a2 m3 a3 m4 a4 m5 a5 hv2 hN
theorem s20_t9 (ho : ops = sin20ops) (kr : Kept wd wx) (F : Fm w wx [(bU,U.m),(bv1,V1.m),(ba1,A1.m)] ((vU,ptr bU,.int .i32 U.e) :: V)) (m2 : mulF A1 U M2) (a2 : addF M2 ⟨-2755731417929674,-22⟩ A2) (m3 : mulF A2 U M3) (a3 : addF M3 ⟨24801587288851704,-21⟩ A3) (m4 : mulF A3 U M4) (a4 : addF M4 ⟨-13888888888873056,-19⟩ A4) (m5 : mulF A4 U M5) (a5 : addF M5 ⟨41666666666666595,-18⟩ A5) (hv2 : mulF V1 A5 V2)
    (hN : S20End w N V vU bU U V2 c0 c1 c2 c3 c4 c5 c6 c7 c8 c9 c10 c13 c14 c15 c16 c17 c18 c19 c20 c21 c22 c23 c24 c25 c26 c27 c28 c29 c30 c31 c32 c33 c34 c35 c36 c37 c38 c39 c40 c41 c42 c43 c44 c45 c46 c47 c48 c49 c50 c51 c52 c53 c54 c55 c56 c57 c58 c59 c60 c61 c62 c63 c64 c65 c66 c67 c68) :
    wpPlanL Tryz.prog ops wd.drew N p20_t9 ⟨#[c0,c1,c2,c3,c4,c5,c6,c7,c8,c9,c10,ptr vU,u12,c13,c14,c15,c16,c17,c18,c19,c20,c21,c22,c23,c24,c25,c26,c27,c28,c29,c30,c31,c32,c33,c34,c35,c36,c37,c38,c39,c40,c41,c42,c43,c44,c45,c46,c47,c48,c49,c50,c51,c52,c53,c54,c55,c56,c57,c58,c59,c60,c61,c62,c63,c64,c65,c66,c67,c68,u69,u70,dv bv1 V1.e,u72,u73,u74,u75,u76,u77,dv ba1 A1.e,dv bU U.e,u80,u81,u82,u83,dv bU U.e,u85,u86,u87,u88,dv bU U.e,u90,u91,u92,u93,dv bU U.e,u95,u96,u97,u98,u99,u100,u101,u102,u103,u104,u105,u106,u107,u108,u109,u110,u111,u112,u113,u114,u115,u116,u117,u118,u119,u120,u121,u122,u123,u124,u125,u126,u127,u128,u129,u130,u131,u132,u133,u134,u135,u136,u137,u138,u139,u140,u141,u142,u143],[]⟩ wx :=by
  subst ho
  (conv => arg 2;whnf)
  refine planTwo ?_ ?_
  · (conv => arg 4;simp only [gaC,gaN,lZ0,lS0,coS])
    go_wp2_with (first
      | refine ⟨by kernel_rfl,oldD kr,?_⟩
      | refine ⟨oldD kr,?_⟩
      | (go_at_call 67;(with_reducible refine (m2 _ _ _ F.glob (F.int (by simp)) (F.int (by simp))).mono ?_);rintro r w1 ⟨bm2,rfl,n,k⟩;replace kr :=kt kr k;replace F :=F.new n k;clear n k))
    exact s20_t10 (by kernel_rfl) kr (F.sub (by simp)) a2 m3 a3 m4 a4 m5 a5 hv2 hN
  · (conv => arg 4;simp only [gaC,gaN,lZ0,lS0,coS])
    go_wp2_with (refine ⟨oldD (kt kr (Chg.alloc _ _ _)),?_⟩)
    replace kr :=kt kr (boxK _ (.pointer none) (.int .i32 0))
    replace F :=F.box (.pointer none) (.int .i32 0)
    exact s20_r44 (by kernel_rfl) kr (F.sub (by simp)) m2 a2 m3 a3 m4 a4 m5 a5 hv2 hN
theorem s20_r45 (ho : ops = sin20ops) (kr : Kept wd wx) (F : Fm w wx [(bU,U.m),(bv1,V1.m),(bm1,M1.m),(bc,2087570084197473)] ((vw,.pointer none,.int .i32 0) :: (vU,ptr bU,.int .i32 U.e) :: V)) (a1 : addF M1 ⟨2087570084197473,-24⟩ A1) (m2 : mulF A1 U M2) (a2 : addF M2 ⟨-2755731417929674,-22⟩ A2) (m3 : mulF A2 U M3) (a3 : addF M3 ⟨24801587288851704,-21⟩ A3) (m4 : mulF A3 U M4) (a4 : addF M4 ⟨-13888888888873056,-19⟩ A4) (m5 : mulF A4 U M5) (a5 : addF M5 ⟨41666666666666595,-18⟩ A5) (hv2 : mulF V1 A5 V2)
    (hN : S20End w N V vU bU U V2 c0 c1 c2 c3 c4 c5 c6 c7 c8 c9 c10 c13 c14 c15 c16 c17 c18 c19 c20 c21 c22 c23 c24 c25 c26 c27 c28 c29 c30 c31 c32 c33 c34 c35 c36 c37 c38 c39 c40 c41 c42 c43 c44 c45 c46 c47 c48 c49 c50 c51 c52 c53 c54 c55 c56 c57 c58 c59 c60 c61 c62 c63 c64 c65 c66 c67 c68) :
    wpPlanL Tryz.prog ops wd.drew N p20_r45 ⟨#[c0,c1,c2,c3,c4,c5,c6,c7,c8,c9,c10,ptr vU,ptr vw,c13,c14,c15,c16,c17,c18,c19,c20,c21,c22,c23,c24,c25,c26,c27,c28,c29,c30,c31,c32,c33,c34,c35,c36,c37,c38,c39,c40,c41,c42,c43,c44,c45,c46,c47,c48,c49,c50,c51,c52,c53,c54,c55,c56,c57,c58,c59,c60,c61,c62,c63,c64,c65,c66,c67,c68,u69,u70,dv bv1 V1.e,u72,u73,u74,dv bm1 M1.e,u76,dv bc (-24),u78,dv bU U.e,u80,u81,u82,u83,dv bU U.e,u85,u86,u87,u88,dv bU U.e,u90,u91,u92,u93,dv bU U.e,u95,u96,u97,u98,u99,u100,u101,u102,u103,u104,u105,u106,u107,u108,u109,u110,u111,u112,u113,u114,u115,u116,u117,u118,u119,u120,u121,u122,u123,u124,u125,u126,u127,u128,u129,u130,u131,u132,u133,u134,u135,u136,u137,u138,u139,u140,u141,u142,u143],[]⟩ wx :=by
  subst ho
  (conv => arg 2;whnf)
  refine planSeg ?_
  (conv => arg 4;simp only [gaC,gaN,lZ0,lS0,coS])
  go_wp2_with (first
    | refine ⟨by kernel_rfl,oldD kr,?_⟩
    | refine ⟨oldD kr,?_⟩
    | (go_at_call 70;(with_reducible refine (a1 _ _ _ F.glob (F.int (by simp)) (F.int (by simp))).mono ?_);rintro r w1 ⟨ba1,rfl,n,k⟩;replace kr :=kt kr k;replace F :=F.new n k;clear n k))
  exact s20_r44 (by kernel_rfl) kr (F.sub (by simp)) m2 a2 m3 a3 m4 a4 m5 a5 hv2 hN
theorem s20_t8 (ho : ops = sin20ops) (kr : Kept wd wx) (F : Fm w wx [(bU,U.m),(bv1,V1.m),(bm1,M1.m),(bc,2087570084197473)] ((vU,ptr bU,.int .i32 U.e) :: V)) (a1 : addF M1 ⟨2087570084197473,-24⟩ A1) (m2 : mulF A1 U M2) (a2 : addF M2 ⟨-2755731417929674,-22⟩ A2) (m3 : mulF A2 U M3) (a3 : addF M3 ⟨24801587288851704,-21⟩ A3) (m4 : mulF A3 U M4) (a4 : addF M4 ⟨-13888888888873056,-19⟩ A4) (m5 : mulF A4 U M5) (a5 : addF M5 ⟨41666666666666595,-18⟩ A5) (hv2 : mulF V1 A5 V2)
    (hN : S20End w N V vU bU U V2 c0 c1 c2 c3 c4 c5 c6 c7 c8 c9 c10 c13 c14 c15 c16 c17 c18 c19 c20 c21 c22 c23 c24 c25 c26 c27 c28 c29 c30 c31 c32 c33 c34 c35 c36 c37 c38 c39 c40 c41 c42 c43 c44 c45 c46 c47 c48 c49 c50 c51 c52 c53 c54 c55 c56 c57 c58 c59 c60 c61 c62 c63 c64 c65 c66 c67 c68) :
    wpPlanL Tryz.prog ops wd.drew N p20_t8 ⟨#[c0,c1,c2,c3,c4,c5,c6,c7,c8,c9,c10,ptr vU,u12,c13,c14,c15,c16,c17,c18,c19,c20,c21,c22,c23,c24,c25,c26,c27,c28,c29,c30,c31,c32,c33,c34,c35,c36,c37,c38,c39,c40,c41,c42,c43,c44,c45,c46,c47,c48,c49,c50,c51,c52,c53,c54,c55,c56,c57,c58,c59,c60,c61,c62,c63,c64,c65,c66,c67,c68,u69,u70,dv bv1 V1.e,u72,u73,u74,dv bm1 M1.e,u76,dv bc (-24),u78,dv bU U.e,u80,u81,u82,u83,dv bU U.e,u85,u86,u87,u88,dv bU U.e,u90,u91,u92,u93,dv bU U.e,u95,u96,u97,u98,u99,u100,u101,u102,u103,u104,u105,u106,u107,u108,u109,u110,u111,u112,u113,u114,u115,u116,u117,u118,u119,u120,u121,u122,u123,u124,u125,u126,u127,u128,u129,u130,u131,u132,u133,u134,u135,u136,u137,u138,u139,u140,u141,u142,u143],[]⟩ wx :=by
  subst ho
  (conv => arg 2;whnf)
  refine planTwo ?_ ?_
  · (conv => arg 4;simp only [gaC,gaN,lZ0,lS0,coS])
    go_wp2_with (first
      | refine ⟨by kernel_rfl,oldD kr,?_⟩
      | refine ⟨oldD kr,?_⟩
      | (go_at_call 70;(with_reducible refine (a1 _ _ _ F.glob (F.int (by simp)) (F.int (by simp))).mono ?_);rintro r w1 ⟨ba1,rfl,n,k⟩;replace kr :=kt kr k;replace F :=F.new n k;clear n k))
    exact s20_t9 (by kernel_rfl) kr (F.sub (by simp)) m2 a2 m3 a3 m4 a4 m5 a5 hv2 hN
  · (conv => arg 4;simp only [gaC,gaN,lZ0,lS0,coS])
    go_wp2_with (refine ⟨oldD (kt kr (Chg.alloc _ _ _)),?_⟩)
    replace kr :=kt kr (boxK _ (.pointer none) (.int .i32 0))
    replace F :=F.box (.pointer none) (.int .i32 0)
    exact s20_r45 (by kernel_rfl) kr (F.sub (by simp)) a1 m2 a2 m3 a3 m4 a4 m5 a5 hv2 hN
theorem s20_t7 (ho : ops = sin20ops) (kr : Kept wd wx) (F : Fm w wx [(bU,U.m),(bv1,V1.m),(bm1,M1.m),(g1,2087570084197473)] ((vU,ptr bU,.int .i32 U.e) :: V)) (a1 : addF M1 ⟨2087570084197473,-24⟩ A1) (m2 : mulF A1 U M2) (a2 : addF M2 ⟨-2755731417929674,-22⟩ A2) (m3 : mulF A2 U M3) (a3 : addF M3 ⟨24801587288851704,-21⟩ A3) (m4 : mulF A3 U M4) (a4 : addF M4 ⟨-13888888888873056,-19⟩ A4) (m5 : mulF A4 U M5) (a5 : addF M5 ⟨41666666666666595,-18⟩ A5) (hv2 : mulF V1 A5 V2)
    (hN : S20End w N V vU bU U V2 c0 c1 c2 c3 c4 c5 c6 c7 c8 c9 c10 c13 c14 c15 c16 c17 c18 c19 c20 c21 c22 c23 c24 c25 c26 c27 c28 c29 c30 c31 c32 c33 c34 c35 c36 c37 c38 c39 c40 c41 c42 c43 c44 c45 c46 c47 c48 c49 c50 c51 c52 c53 c54 c55 c56 c57 c58 c59 c60 c61 c62 c63 c64 c65 c66 c67 c68) :
    wpPlanL Tryz.prog ops wd.drew N p20_t7 ⟨#[c0,c1,c2,c3,c4,c5,c6,c7,c8,c9,c10,ptr vU,u12,c13,c14,c15,c16,c17,c18,c19,c20,c21,c22,c23,c24,c25,c26,c27,c28,c29,c30,c31,c32,c33,c34,c35,c36,c37,c38,c39,c40,c41,c42,c43,c44,c45,c46,c47,c48,c49,c50,c51,c52,c53,c54,c55,c56,c57,c58,c59,c60,c61,c62,c63,c64,c65,c66,c67,c68,u69,u70,dv bv1 V1.e,u72,u73,u74,dv bm1 M1.e,.agg #[ptr g0,.int .i32 (-27),ptr g1,.int .i32 (-24),ptr g2,.int .i32 (-22),ptr g3,.int .i32 (-21),ptr g4,.int .i32 (-19),ptr g5,.int .i32 (-18)],u77,u78,dv bU U.e,u80,u81,u82,u83,dv bU U.e,u85,u86,u87,u88,dv bU U.e,u90,u91,u92,u93,dv bU U.e,u95,u96,u97,u98,u99,u100,u101,u102,u103,u104,u105,u106,u107,u108,u109,u110,u111,u112,u113,u114,u115,u116,u117,u118,u119,u120,u121,u122,u123,u124,u125,u126,u127,u128,u129,u130,u131,u132,u133,u134,u135,u136,u137,u138,u139,u140,u141,u142,u143],[]⟩ wx :=by
  subst ho
  (conv => arg 2;whnf)
  refine planSeg ?_
  (conv => arg 4;simp only [gaC,gaN,lZ0,lS0,coS])
  go_wp2_with (first
    | refine ⟨by kernel_rfl,oldD kr,?_⟩
    | refine ⟨oldD kr,?_⟩)
  exact s20_t8 (by kernel_rfl) kr (F.sub (by simp)) a1 m2 a2 m3 a3 m4 a4 m5 a5 hv2 hN
theorem s20_r47 (ho : ops = sin20ops) (kr : Kept wd wx) (F : Fm w wx [(bU,U.m),(bv1,V1.m),(bm1,M1.m),(g1,2087570084197473)] ((vw,.pointer none,.int .i32 0) :: (vU,ptr bU,.int .i32 U.e) :: V)) (a1 : addF M1 ⟨2087570084197473,-24⟩ A1) (m2 : mulF A1 U M2) (a2 : addF M2 ⟨-2755731417929674,-22⟩ A2) (m3 : mulF A2 U M3) (a3 : addF M3 ⟨24801587288851704,-21⟩ A3) (m4 : mulF A3 U M4) (a4 : addF M4 ⟨-13888888888873056,-19⟩ A4) (m5 : mulF A4 U M5) (a5 : addF M5 ⟨41666666666666595,-18⟩ A5) (hv2 : mulF V1 A5 V2)
    (hN : S20End w N V vU bU U V2 c0 c1 c2 c3 c4 c5 c6 c7 c8 c9 c10 c13 c14 c15 c16 c17 c18 c19 c20 c21 c22 c23 c24 c25 c26 c27 c28 c29 c30 c31 c32 c33 c34 c35 c36 c37 c38 c39 c40 c41 c42 c43 c44 c45 c46 c47 c48 c49 c50 c51 c52 c53 c54 c55 c56 c57 c58 c59 c60 c61 c62 c63 c64 c65 c66 c67 c68) :
    wpPlanL Tryz.prog ops wd.drew N p20_r47 ⟨#[c0,c1,c2,c3,c4,c5,c6,c7,c8,c9,c10,ptr vU,ptr vw,c13,c14,c15,c16,c17,c18,c19,c20,c21,c22,c23,c24,c25,c26,c27,c28,c29,c30,c31,c32,c33,c34,c35,c36,c37,c38,c39,c40,c41,c42,c43,c44,c45,c46,c47,c48,c49,c50,c51,c52,c53,c54,c55,c56,c57,c58,c59,c60,c61,c62,c63,c64,c65,c66,c67,c68,u69,u70,dv bv1 V1.e,u72,u73,u74,dv bm1 M1.e,.agg #[ptr g0,.int .i32 (-27),ptr g1,.int .i32 (-24),ptr g2,.int .i32 (-22),ptr g3,.int .i32 (-21),ptr g4,.int .i32 (-19),ptr g5,.int .i32 (-18)],u77,u78,dv bU U.e,u80,u81,u82,u83,dv bU U.e,u85,u86,u87,u88,dv bU U.e,u90,u91,u92,u93,dv bU U.e,u95,u96,u97,u98,u99,u100,u101,u102,u103,u104,u105,u106,u107,u108,u109,u110,u111,u112,u113,u114,u115,u116,u117,u118,u119,u120,u121,u122,u123,u124,u125,u126,u127,u128,u129,u130,u131,u132,u133,u134,u135,u136,u137,u138,u139,u140,u141,u142,u143],[]⟩ wx :=by
  subst ho
  (conv => arg 2;whnf)
  refine planSeg ?_
  (conv => arg 4;simp only [gaC,gaN,lZ0,lS0,coS])
  go_wp2_with (first
    | refine ⟨by kernel_rfl,oldD kr,?_⟩
    | refine ⟨oldD kr,?_⟩
    | (go_at_call 70;(with_reducible refine (a1 _ _ _ F.glob (F.int (by simp)) (F.int (by simp))).mono ?_);rintro r w1 ⟨ba1,rfl,n,k⟩;replace kr :=kt kr k;replace F :=F.new n k;clear n k))
  exact s20_r44 (by kernel_rfl) kr (F.sub (by simp)) m2 a2 m3 a3 m4 a4 m5 a5 hv2 hN
theorem s20_r46 (ho : ops = sin20ops) (kr : Kept wd wx) (F : Fm w wx [(bU,U.m),(bv1,V1.m),(bm1,M1.m)] ((vw,.pointer none,.int .i32 0) :: (vU,ptr bU,.int .i32 U.e) :: V)) (a1 : addF M1 ⟨2087570084197473,-24⟩ A1) (m2 : mulF A1 U M2) (a2 : addF M2 ⟨-2755731417929674,-22⟩ A2) (m3 : mulF A2 U M3) (a3 : addF M3 ⟨24801587288851704,-21⟩ A3) (m4 : mulF A3 U M4) (a4 : addF M4 ⟨-13888888888873056,-19⟩ A4) (m5 : mulF A4 U M5) (a5 : addF M5 ⟨41666666666666595,-18⟩ A5) (hv2 : mulF V1 A5 V2)
    (hN : S20End w N V vU bU U V2 c0 c1 c2 c3 c4 c5 c6 c7 c8 c9 c10 c13 c14 c15 c16 c17 c18 c19 c20 c21 c22 c23 c24 c25 c26 c27 c28 c29 c30 c31 c32 c33 c34 c35 c36 c37 c38 c39 c40 c41 c42 c43 c44 c45 c46 c47 c48 c49 c50 c51 c52 c53 c54 c55 c56 c57 c58 c59 c60 c61 c62 c63 c64 c65 c66 c67 c68) :
    wpPlanL Tryz.prog ops wd.drew N p20_r46 ⟨#[c0,c1,c2,c3,c4,c5,c6,c7,c8,c9,c10,ptr vU,ptr vw,c13,c14,c15,c16,c17,c18,c19,c20,c21,c22,c23,c24,c25,c26,c27,c28,c29,c30,c31,c32,c33,c34,c35,c36,c37,c38,c39,c40,c41,c42,c43,c44,c45,c46,c47,c48,c49,c50,c51,c52,c53,c54,c55,c56,c57,c58,c59,c60,c61,c62,c63,c64,c65,c66,c67,c68,u69,u70,dv bv1 V1.e,u72,u73,u74,dv bm1 M1.e,u76,u77,u78,dv bU U.e,u80,u81,u82,u83,dv bU U.e,u85,u86,u87,u88,dv bU U.e,u90,u91,u92,u93,dv bU U.e,u95,u96,u97,u98,u99,u100,u101,u102,u103,u104,u105,u106,u107,u108,u109,u110,u111,u112,u113,u114,u115,u116,u117,u118,u119,u120,u121,u122,u123,u124,u125,u126,u127,u128,u129,u130,u131,u132,u133,u134,u135,u136,u137,u138,u139,u140,u141,u142,u143],[]⟩ wx :=by
  subst ho
  (conv => arg 2;whnf)
  refine planSeg ?_
  (conv => arg 4;simp only [gaC,gaN,lZ0,lS0,coS])
  go_wp2_with (first
    | refine ⟨by kernel_rfl,oldD kr,?_⟩
    | refine ⟨oldD kr,?_⟩
    | (go_at_call 73;(with_reducible refine (dec_arr73 _ F.globF).mono ?_);rintro r w1 ⟨g0,g1,g2,g3,g4,g5,rfl,n0,n1,n2,n3,n4,n5,k⟩;replace kr :=kt kr k;replace F :=F.new n1 k;clear n0 n1 n2 n3 n4 n5 k))
  exact s20_r47 (by kernel_rfl) kr (F.sub (by simp)) a1 m2 a2 m3 a3 m4 a4 m5 a5 hv2 hN
theorem s20_t6 (ho : ops = sin20ops) (kr : Kept wd wx) (F : Fm w wx [(bU,U.m),(bv1,V1.m),(bm1,M1.m)] ((vU,ptr bU,.int .i32 U.e) :: V)) (a1 : addF M1 ⟨2087570084197473,-24⟩ A1) (m2 : mulF A1 U M2) (a2 : addF M2 ⟨-2755731417929674,-22⟩ A2) (m3 : mulF A2 U M3) (a3 : addF M3 ⟨24801587288851704,-21⟩ A3) (m4 : mulF A3 U M4) (a4 : addF M4 ⟨-13888888888873056,-19⟩ A4) (m5 : mulF A4 U M5) (a5 : addF M5 ⟨41666666666666595,-18⟩ A5) (hv2 : mulF V1 A5 V2)
    (hN : S20End w N V vU bU U V2 c0 c1 c2 c3 c4 c5 c6 c7 c8 c9 c10 c13 c14 c15 c16 c17 c18 c19 c20 c21 c22 c23 c24 c25 c26 c27 c28 c29 c30 c31 c32 c33 c34 c35 c36 c37 c38 c39 c40 c41 c42 c43 c44 c45 c46 c47 c48 c49 c50 c51 c52 c53 c54 c55 c56 c57 c58 c59 c60 c61 c62 c63 c64 c65 c66 c67 c68) :
    wpPlanL Tryz.prog ops wd.drew N p20_t6 ⟨#[c0,c1,c2,c3,c4,c5,c6,c7,c8,c9,c10,ptr vU,u12,c13,c14,c15,c16,c17,c18,c19,c20,c21,c22,c23,c24,c25,c26,c27,c28,c29,c30,c31,c32,c33,c34,c35,c36,c37,c38,c39,c40,c41,c42,c43,c44,c45,c46,c47,c48,c49,c50,c51,c52,c53,c54,c55,c56,c57,c58,c59,c60,c61,c62,c63,c64,c65,c66,c67,c68,u69,u70,dv bv1 V1.e,u72,u73,u74,dv bm1 M1.e,u76,u77,u78,dv bU U.e,u80,u81,u82,u83,dv bU U.e,u85,u86,u87,u88,dv bU U.e,u90,u91,u92,u93,dv bU U.e,u95,u96,u97,u98,u99,u100,u101,u102,u103,u104,u105,u106,u107,u108,u109,u110,u111,u112,u113,u114,u115,u116,u117,u118,u119,u120,u121,u122,u123,u124,u125,u126,u127,u128,u129,u130,u131,u132,u133,u134,u135,u136,u137,u138,u139,u140,u141,u142,u143],[]⟩ wx :=by
  subst ho
  (conv => arg 2;whnf)
  refine planTwo ?_ ?_
  · (conv => arg 4;simp only [gaC,gaN,lZ0,lS0,coS])
    go_wp2_with (first
      | refine ⟨by kernel_rfl,oldD kr,?_⟩
      | refine ⟨oldD kr,?_⟩
      | (go_at_call 73;(with_reducible refine (dec_arr73 _ F.globF).mono ?_);rintro r w1 ⟨g0,g1,g2,g3,g4,g5,rfl,n0,n1,n2,n3,n4,n5,k⟩;replace kr :=kt kr k;replace F :=F.new n1 k;clear n0 n1 n2 n3 n4 n5 k))
    exact s20_t7 (by kernel_rfl) kr (F.sub (by simp)) a1 m2 a2 m3 a3 m4 a4 m5 a5 hv2 hN
  · (conv => arg 4;simp only [gaC,gaN,lZ0,lS0,coS])
    go_wp2_with (refine ⟨oldD (kt kr (Chg.alloc _ _ _)),?_⟩)
    replace kr :=kt kr (boxK _ (.pointer none) (.int .i32 0))
    replace F :=F.box (.pointer none) (.int .i32 0)
    exact s20_r46 (by kernel_rfl) kr (F.sub (by simp)) a1 m2 a2 m3 a3 m4 a4 m5 a5 hv2 hN
theorem s20_r48 (ho : ops = sin20ops) (kr : Kept wd wx) (F : Fm w wx [(bU,U.m),(bv1,V1.m),(bc,-11358536521387682)] ((vw,.pointer none,.int .i32 0) :: (vU,ptr bU,.int .i32 U.e) :: V)) (m1 : mulF ⟨-11358536521387682,-27⟩ U M1) (a1 : addF M1 ⟨2087570084197473,-24⟩ A1) (m2 : mulF A1 U M2) (a2 : addF M2 ⟨-2755731417929674,-22⟩ A2) (m3 : mulF A2 U M3) (a3 : addF M3 ⟨24801587288851704,-21⟩ A3) (m4 : mulF A3 U M4) (a4 : addF M4 ⟨-13888888888873056,-19⟩ A4) (m5 : mulF A4 U M5) (a5 : addF M5 ⟨41666666666666595,-18⟩ A5) (hv2 : mulF V1 A5 V2)
    (hN : S20End w N V vU bU U V2 c0 c1 c2 c3 c4 c5 c6 c7 c8 c9 c10 c13 c14 c15 c16 c17 c18 c19 c20 c21 c22 c23 c24 c25 c26 c27 c28 c29 c30 c31 c32 c33 c34 c35 c36 c37 c38 c39 c40 c41 c42 c43 c44 c45 c46 c47 c48 c49 c50 c51 c52 c53 c54 c55 c56 c57 c58 c59 c60 c61 c62 c63 c64 c65 c66 c67 c68) :
    wpPlanL Tryz.prog ops wd.drew N p20_r48 ⟨#[c0,c1,c2,c3,c4,c5,c6,c7,c8,c9,c10,ptr vU,ptr vw,c13,c14,c15,c16,c17,c18,c19,c20,c21,c22,c23,c24,c25,c26,c27,c28,c29,c30,c31,c32,c33,c34,c35,c36,c37,c38,c39,c40,c41,c42,c43,c44,c45,c46,c47,c48,c49,c50,c51,c52,c53,c54,c55,c56,c57,c58,c59,c60,c61,c62,c63,c64,c65,c66,c67,c68,u69,u70,dv bv1 V1.e,u72,dv bc (-27),dv bU U.e,u75,u76,u77,u78,dv bU U.e,u80,u81,u82,u83,dv bU U.e,u85,u86,u87,u88,dv bU U.e,u90,u91,u92,u93,dv bU U.e,u95,u96,u97,u98,u99,u100,u101,u102,u103,u104,u105,u106,u107,u108,u109,u110,u111,u112,u113,u114,u115,u116,u117,u118,u119,u120,u121,u122,u123,u124,u125,u126,u127,u128,u129,u130,u131,u132,u133,u134,u135,u136,u137,u138,u139,u140,u141,u142,u143],[]⟩ wx :=by
  subst ho
  (conv => arg 2;whnf)
  refine planSeg ?_
  (conv => arg 4;simp only [gaC,gaN,lZ0,lS0,coS])
  go_wp2_with (first
    | refine ⟨by kernel_rfl,oldD kr,?_⟩
    | refine ⟨oldD kr,?_⟩
    | (go_at_call 67;(with_reducible refine (m1 _ _ _ F.glob (F.int (by simp)) (F.int (by simp))).mono ?_);rintro r w1 ⟨bm1,rfl,n,k⟩;replace kr :=kt kr k;replace F :=F.new n k;clear n k))
  exact s20_r46 (by kernel_rfl) kr (F.sub (by simp)) a1 m2 a2 m3 a3 m4 a4 m5 a5 hv2 hN
theorem s20_t5 (ho : ops = sin20ops) (kr : Kept wd wx) (F : Fm w wx [(bU,U.m),(bv1,V1.m),(bc,-11358536521387682)] ((vU,ptr bU,.int .i32 U.e) :: V)) (m1 : mulF ⟨-11358536521387682,-27⟩ U M1) (a1 : addF M1 ⟨2087570084197473,-24⟩ A1) (m2 : mulF A1 U M2) (a2 : addF M2 ⟨-2755731417929674,-22⟩ A2) (m3 : mulF A2 U M3) (a3 : addF M3 ⟨24801587288851704,-21⟩ A3) (m4 : mulF A3 U M4) (a4 : addF M4 ⟨-13888888888873056,-19⟩ A4) (m5 : mulF A4 U M5) (a5 : addF M5 ⟨41666666666666595,-18⟩ A5) (hv2 : mulF V1 A5 V2)
    (hN : S20End w N V vU bU U V2 c0 c1 c2 c3 c4 c5 c6 c7 c8 c9 c10 c13 c14 c15 c16 c17 c18 c19 c20 c21 c22 c23 c24 c25 c26 c27 c28 c29 c30 c31 c32 c33 c34 c35 c36 c37 c38 c39 c40 c41 c42 c43 c44 c45 c46 c47 c48 c49 c50 c51 c52 c53 c54 c55 c56 c57 c58 c59 c60 c61 c62 c63 c64 c65 c66 c67 c68) :
    wpPlanL Tryz.prog ops wd.drew N p20_t5 ⟨#[c0,c1,c2,c3,c4,c5,c6,c7,c8,c9,c10,ptr vU,u12,c13,c14,c15,c16,c17,c18,c19,c20,c21,c22,c23,c24,c25,c26,c27,c28,c29,c30,c31,c32,c33,c34,c35,c36,c37,c38,c39,c40,c41,c42,c43,c44,c45,c46,c47,c48,c49,c50,c51,c52,c53,c54,c55,c56,c57,c58,c59,c60,c61,c62,c63,c64,c65,c66,c67,c68,u69,u70,dv bv1 V1.e,u72,dv bc (-27),dv bU U.e,u75,u76,u77,u78,dv bU U.e,u80,u81,u82,u83,dv bU U.e,u85,u86,u87,u88,dv bU U.e,u90,u91,u92,u93,dv bU U.e,u95,u96,u97,u98,u99,u100,u101,u102,u103,u104,u105,u106,u107,u108,u109,u110,u111,u112,u113,u114,u115,u116,u117,u118,u119,u120,u121,u122,u123,u124,u125,u126,u127,u128,u129,u130,u131,u132,u133,u134,u135,u136,u137,u138,u139,u140,u141,u142,u143],[]⟩ wx :=by
  subst ho
  (conv => arg 2;whnf)
  refine planTwo ?_ ?_
  · (conv => arg 4;simp only [gaC,gaN,lZ0,lS0,coS])
    go_wp2_with (first
      | refine ⟨by kernel_rfl,oldD kr,?_⟩
      | refine ⟨oldD kr,?_⟩
      | (go_at_call 67;(with_reducible refine (m1 _ _ _ F.glob (F.int (by simp)) (F.int (by simp))).mono ?_);rintro r w1 ⟨bm1,rfl,n,k⟩;replace kr :=kt kr k;replace F :=F.new n k;clear n k))
    exact s20_t6 (by kernel_rfl) kr (F.sub (by simp)) a1 m2 a2 m3 a3 m4 a4 m5 a5 hv2 hN
  · (conv => arg 4;simp only [gaC,gaN,lZ0,lS0,coS])
    go_wp2_with (refine ⟨oldD (kt kr (Chg.alloc _ _ _)),?_⟩)
    replace kr :=kt kr (boxK _ (.pointer none) (.int .i32 0))
    replace F :=F.box (.pointer none) (.int .i32 0)
    exact s20_r48 (by kernel_rfl) kr (F.sub (by simp)) m1 a1 m2 a2 m3 a3 m4 a4 m5 a5 hv2 hN
theorem s20_t4 (ho : ops = sin20ops) (kr : Kept wd wx) (F : Fm w wx [(bU,U.m),(bv1,V1.m),(g0,-11358536521387682)] ((vU,ptr bU,.int .i32 U.e) :: V)) (m1 : mulF ⟨-11358536521387682,-27⟩ U M1) (a1 : addF M1 ⟨2087570084197473,-24⟩ A1) (m2 : mulF A1 U M2) (a2 : addF M2 ⟨-2755731417929674,-22⟩ A2) (m3 : mulF A2 U M3) (a3 : addF M3 ⟨24801587288851704,-21⟩ A3) (m4 : mulF A3 U M4) (a4 : addF M4 ⟨-13888888888873056,-19⟩ A4) (m5 : mulF A4 U M5) (a5 : addF M5 ⟨41666666666666595,-18⟩ A5) (hv2 : mulF V1 A5 V2)
    (hN : S20End w N V vU bU U V2 c0 c1 c2 c3 c4 c5 c6 c7 c8 c9 c10 c13 c14 c15 c16 c17 c18 c19 c20 c21 c22 c23 c24 c25 c26 c27 c28 c29 c30 c31 c32 c33 c34 c35 c36 c37 c38 c39 c40 c41 c42 c43 c44 c45 c46 c47 c48 c49 c50 c51 c52 c53 c54 c55 c56 c57 c58 c59 c60 c61 c62 c63 c64 c65 c66 c67 c68) :
    wpPlanL Tryz.prog ops wd.drew N p20_t4 ⟨#[c0,c1,c2,c3,c4,c5,c6,c7,c8,c9,c10,ptr vU,u12,c13,c14,c15,c16,c17,c18,c19,c20,c21,c22,c23,c24,c25,c26,c27,c28,c29,c30,c31,c32,c33,c34,c35,c36,c37,c38,c39,c40,c41,c42,c43,c44,c45,c46,c47,c48,c49,c50,c51,c52,c53,c54,c55,c56,c57,c58,c59,c60,c61,c62,c63,c64,c65,c66,c67,c68,u69,u70,dv bv1 V1.e,.agg #[ptr g0,.int .i32 (-27),ptr g1,.int .i32 (-24),ptr g2,.int .i32 (-22),ptr g3,.int .i32 (-21),ptr g4,.int .i32 (-19),ptr g5,.int .i32 (-18)],u73,dv bU U.e,u75,u76,u77,u78,dv bU U.e,u80,u81,u82,u83,dv bU U.e,u85,u86,u87,u88,dv bU U.e,u90,u91,u92,u93,dv bU U.e,u95,u96,u97,u98,u99,u100,u101,u102,u103,u104,u105,u106,u107,u108,u109,u110,u111,u112,u113,u114,u115,u116,u117,u118,u119,u120,u121,u122,u123,u124,u125,u126,u127,u128,u129,u130,u131,u132,u133,u134,u135,u136,u137,u138,u139,u140,u141,u142,u143],[]⟩ wx :=by
  subst ho
  (conv => arg 2;whnf)
  refine planSeg ?_
  (conv => arg 4;simp only [gaC,gaN,lZ0,lS0,coS])
  go_wp2_with (first
    | refine ⟨by kernel_rfl,oldD kr,?_⟩
    | refine ⟨oldD kr,?_⟩)
  exact s20_t5 (by kernel_rfl) kr (F.sub (by simp)) m1 a1 m2 a2 m3 a3 m4 a4 m5 a5 hv2 hN
theorem s20_r50 (ho : ops = sin20ops) (kr : Kept wd wx) (F : Fm w wx [(bU,U.m),(bv1,V1.m),(g0,-11358536521387682)] ((vw,.pointer none,.int .i32 0) :: (vU,ptr bU,.int .i32 U.e) :: V)) (m1 : mulF ⟨-11358536521387682,-27⟩ U M1) (a1 : addF M1 ⟨2087570084197473,-24⟩ A1) (m2 : mulF A1 U M2) (a2 : addF M2 ⟨-2755731417929674,-22⟩ A2) (m3 : mulF A2 U M3) (a3 : addF M3 ⟨24801587288851704,-21⟩ A3) (m4 : mulF A3 U M4) (a4 : addF M4 ⟨-13888888888873056,-19⟩ A4) (m5 : mulF A4 U M5) (a5 : addF M5 ⟨41666666666666595,-18⟩ A5) (hv2 : mulF V1 A5 V2)
    (hN : S20End w N V vU bU U V2 c0 c1 c2 c3 c4 c5 c6 c7 c8 c9 c10 c13 c14 c15 c16 c17 c18 c19 c20 c21 c22 c23 c24 c25 c26 c27 c28 c29 c30 c31 c32 c33 c34 c35 c36 c37 c38 c39 c40 c41 c42 c43 c44 c45 c46 c47 c48 c49 c50 c51 c52 c53 c54 c55 c56 c57 c58 c59 c60 c61 c62 c63 c64 c65 c66 c67 c68) :
    wpPlanL Tryz.prog ops wd.drew N p20_r50 ⟨#[c0,c1,c2,c3,c4,c5,c6,c7,c8,c9,c10,ptr vU,ptr vw,c13,c14,c15,c16,c17,c18,c19,c20,c21,c22,c23,c24,c25,c26,c27,c28,c29,c30,c31,c32,c33,c34,c35,c36,c37,c38,c39,c40,c41,c42,c43,c44,c45,c46,c47,c48,c49,c50,c51,c52,c53,c54,c55,c56,c57,c58,c59,c60,c61,c62,c63,c64,c65,c66,c67,c68,u69,u70,dv bv1 V1.e,.agg #[ptr g0,.int .i32 (-27),ptr g1,.int .i32 (-24),ptr g2,.int .i32 (-22),ptr g3,.int .i32 (-21),ptr g4,.int .i32 (-19),ptr g5,.int .i32 (-18)],u73,dv bU U.e,u75,u76,u77,u78,dv bU U.e,u80,u81,u82,u83,dv bU U.e,u85,u86,u87,u88,dv bU U.e,u90,u91,u92,u93,dv bU U.e,u95,u96,u97,u98,u99,u100,u101,u102,u103,u104,u105,u106,u107,u108,u109,u110,u111,u112,u113,u114,u115,u116,u117,u118,u119,u120,u121,u122,u123,u124,u125,u126,u127,u128,u129,u130,u131,u132,u133,u134,u135,u136,u137,u138,u139,u140,u141,u142,u143],[]⟩ wx :=by
  subst ho
  (conv => arg 2;whnf)
  refine planSeg ?_
  (conv => arg 4;simp only [gaC,gaN,lZ0,lS0,coS])
  go_wp2_with (first
    | refine ⟨by kernel_rfl,oldD kr,?_⟩
    | refine ⟨oldD kr,?_⟩
    | (go_at_call 67;(with_reducible refine (m1 _ _ _ F.glob (F.int (by simp)) (F.int (by simp))).mono ?_);rintro r w1 ⟨bm1,rfl,n,k⟩;replace kr :=kt kr k;replace F :=F.new n k;clear n k))
  exact s20_r46 (by kernel_rfl) kr (F.sub (by simp)) a1 m2 a2 m3 a3 m4 a4 m5 a5 hv2 hN
theorem s20_r49 (ho : ops = sin20ops) (kr : Kept wd wx) (F : Fm w wx [(bU,U.m),(bv1,V1.m)] ((vw,.pointer none,.int .i32 0) :: (vU,ptr bU,.int .i32 U.e) :: V)) (m1 : mulF ⟨-11358536521387682,-27⟩ U M1) (a1 : addF M1 ⟨2087570084197473,-24⟩ A1) (m2 : mulF A1 U M2) (a2 : addF M2 ⟨-2755731417929674,-22⟩ A2) (m3 : mulF A2 U M3) (a3 : addF M3 ⟨24801587288851704,-21⟩ A3) (m4 : mulF A3 U M4) (a4 : addF M4 ⟨-13888888888873056,-19⟩ A4) (m5 : mulF A4 U M5) (a5 : addF M5 ⟨41666666666666595,-18⟩ A5) (hv2 : mulF V1 A5 V2)
    (hN : S20End w N V vU bU U V2 c0 c1 c2 c3 c4 c5 c6 c7 c8 c9 c10 c13 c14 c15 c16 c17 c18 c19 c20 c21 c22 c23 c24 c25 c26 c27 c28 c29 c30 c31 c32 c33 c34 c35 c36 c37 c38 c39 c40 c41 c42 c43 c44 c45 c46 c47 c48 c49 c50 c51 c52 c53 c54 c55 c56 c57 c58 c59 c60 c61 c62 c63 c64 c65 c66 c67 c68) :
    wpPlanL Tryz.prog ops wd.drew N p20_r49 ⟨#[c0,c1,c2,c3,c4,c5,c6,c7,c8,c9,c10,ptr vU,ptr vw,c13,c14,c15,c16,c17,c18,c19,c20,c21,c22,c23,c24,c25,c26,c27,c28,c29,c30,c31,c32,c33,c34,c35,c36,c37,c38,c39,c40,c41,c42,c43,c44,c45,c46,c47,c48,c49,c50,c51,c52,c53,c54,c55,c56,c57,c58,c59,c60,c61,c62,c63,c64,c65,c66,c67,c68,u69,u70,dv bv1 V1.e,u72,u73,dv bU U.e,u75,u76,u77,u78,dv bU U.e,u80,u81,u82,u83,dv bU U.e,u85,u86,u87,u88,dv bU U.e,u90,u91,u92,u93,dv bU U.e,u95,u96,u97,u98,u99,u100,u101,u102,u103,u104,u105,u106,u107,u108,u109,u110,u111,u112,u113,u114,u115,u116,u117,u118,u119,u120,u121,u122,u123,u124,u125,u126,u127,u128,u129,u130,u131,u132,u133,u134,u135,u136,u137,u138,u139,u140,u141,u142,u143],[]⟩ wx :=by
  subst ho
  (conv => arg 2;whnf)
  refine planSeg ?_
  (conv => arg 4;simp only [gaC,gaN,lZ0,lS0,coS])
  go_wp2_with (first
    | refine ⟨by kernel_rfl,oldD kr,?_⟩
    | refine ⟨oldD kr,?_⟩
    | (go_at_call 73;(with_reducible refine (dec_arr73 _ F.globF).mono ?_);rintro r w1 ⟨g0,g1,g2,g3,g4,g5,rfl,n0,n1,n2,n3,n4,n5,k⟩;replace kr :=kt kr k;replace F :=F.new n0 k;clear n0 n1 n2 n3 n4 n5 k))
  exact s20_r50 (by kernel_rfl) kr (F.sub (by simp)) m1 a1 m2 a2 m3 a3 m4 a4 m5 a5 hv2 hN
theorem s20_t3 (ho : ops = sin20ops) (kr : Kept wd wx) (F : Fm w wx [(bU,U.m),(bv1,V1.m)] ((vU,ptr bU,.int .i32 U.e) :: V)) (m1 : mulF ⟨-11358536521387682,-27⟩ U M1) (a1 : addF M1 ⟨2087570084197473,-24⟩ A1) (m2 : mulF A1 U M2) (a2 : addF M2 ⟨-2755731417929674,-22⟩ A2) (m3 : mulF A2 U M3) (a3 : addF M3 ⟨24801587288851704,-21⟩ A3) (m4 : mulF A3 U M4) (a4 : addF M4 ⟨-13888888888873056,-19⟩ A4) (m5 : mulF A4 U M5) (a5 : addF M5 ⟨41666666666666595,-18⟩ A5) (hv2 : mulF V1 A5 V2)
    (hN : S20End w N V vU bU U V2 c0 c1 c2 c3 c4 c5 c6 c7 c8 c9 c10 c13 c14 c15 c16 c17 c18 c19 c20 c21 c22 c23 c24 c25 c26 c27 c28 c29 c30 c31 c32 c33 c34 c35 c36 c37 c38 c39 c40 c41 c42 c43 c44 c45 c46 c47 c48 c49 c50 c51 c52 c53 c54 c55 c56 c57 c58 c59 c60 c61 c62 c63 c64 c65 c66 c67 c68) :
    wpPlanL Tryz.prog ops wd.drew N p20_t3 ⟨#[c0,c1,c2,c3,c4,c5,c6,c7,c8,c9,c10,ptr vU,u12,c13,c14,c15,c16,c17,c18,c19,c20,c21,c22,c23,c24,c25,c26,c27,c28,c29,c30,c31,c32,c33,c34,c35,c36,c37,c38,c39,c40,c41,c42,c43,c44,c45,c46,c47,c48,c49,c50,c51,c52,c53,c54,c55,c56,c57,c58,c59,c60,c61,c62,c63,c64,c65,c66,c67,c68,u69,u70,dv bv1 V1.e,u72,u73,dv bU U.e,u75,u76,u77,u78,dv bU U.e,u80,u81,u82,u83,dv bU U.e,u85,u86,u87,u88,dv bU U.e,u90,u91,u92,u93,dv bU U.e,u95,u96,u97,u98,u99,u100,u101,u102,u103,u104,u105,u106,u107,u108,u109,u110,u111,u112,u113,u114,u115,u116,u117,u118,u119,u120,u121,u122,u123,u124,u125,u126,u127,u128,u129,u130,u131,u132,u133,u134,u135,u136,u137,u138,u139,u140,u141,u142,u143],[]⟩ wx :=by
  subst ho
  (conv => arg 2;whnf)
  refine planTwo ?_ ?_
  · (conv => arg 4;simp only [gaC,gaN,lZ0,lS0,coS])
    go_wp2_with (first
      | refine ⟨by kernel_rfl,oldD kr,?_⟩
      | refine ⟨oldD kr,?_⟩
      | (go_at_call 73;(with_reducible refine (dec_arr73 _ F.globF).mono ?_);rintro r w1 ⟨g0,g1,g2,g3,g4,g5,rfl,n0,n1,n2,n3,n4,n5,k⟩;replace kr :=kt kr k;replace F :=F.new n0 k;clear n0 n1 n2 n3 n4 n5 k))
    exact s20_t4 (by kernel_rfl) kr (F.sub (by simp)) m1 a1 m2 a2 m3 a3 m4 a4 m5 a5 hv2 hN
  · (conv => arg 4;simp only [gaC,gaN,lZ0,lS0,coS])
    go_wp2_with (refine ⟨oldD (kt kr (Chg.alloc _ _ _)),?_⟩)
    replace kr :=kt kr (boxK _ (.pointer none) (.int .i32 0))
    replace F :=F.box (.pointer none) (.int .i32 0)
    exact s20_r49 (by kernel_rfl) kr (F.sub (by simp)) m1 a1 m2 a2 m3 a3 m4 a4 m5 a5 hv2 hN
theorem s20_r51 (ho : ops = sin20ops) (kr : Kept wd wx) (F : Fm w wx [(bU,U.m)] ((vw,.pointer none,.int .i32 0) :: (vU,ptr bU,.int .i32 U.e) :: V)) (hv1 : mulF U U V1) (m1 : mulF ⟨-11358536521387682,-27⟩ U M1) (a1 : addF M1 ⟨2087570084197473,-24⟩ A1) (m2 : mulF A1 U M2) (a2 : addF M2 ⟨-2755731417929674,-22⟩ A2) (m3 : mulF A2 U M3) (a3 : addF M3 ⟨24801587288851704,-21⟩ A3) (m4 : mulF A3 U M4) (a4 : addF M4 ⟨-13888888888873056,-19⟩ A4) (m5 : mulF A4 U M5) (a5 : addF M5 ⟨41666666666666595,-18⟩ A5) (hv2 : mulF V1 A5 V2)
    (hN : S20End w N V vU bU U V2 c0 c1 c2 c3 c4 c5 c6 c7 c8 c9 c10 c13 c14 c15 c16 c17 c18 c19 c20 c21 c22 c23 c24 c25 c26 c27 c28 c29 c30 c31 c32 c33 c34 c35 c36 c37 c38 c39 c40 c41 c42 c43 c44 c45 c46 c47 c48 c49 c50 c51 c52 c53 c54 c55 c56 c57 c58 c59 c60 c61 c62 c63 c64 c65 c66 c67 c68) :
    wpPlanL Tryz.prog ops wd.drew N p20_r51 ⟨#[c0,c1,c2,c3,c4,c5,c6,c7,c8,c9,c10,ptr vU,ptr vw,c13,c14,c15,c16,c17,c18,c19,c20,c21,c22,c23,c24,c25,c26,c27,c28,c29,c30,c31,c32,c33,c34,c35,c36,c37,c38,c39,c40,c41,c42,c43,c44,c45,c46,c47,c48,c49,c50,c51,c52,c53,c54,c55,c56,c57,c58,c59,c60,c61,c62,c63,c64,c65,c66,c67,c68,dv bU U.e,dv bU U.e,u71,u72,u73,dv bU U.e,u75,u76,u77,u78,dv bU U.e,u80,u81,u82,u83,dv bU U.e,u85,u86,u87,u88,dv bU U.e,u90,u91,u92,u93,dv bU U.e,u95,u96,u97,u98,u99,u100,u101,u102,u103,u104,u105,u106,u107,u108,u109,u110,u111,u112,u113,u114,u115,u116,u117,u118,u119,u120,u121,u122,u123,u124,u125,u126,u127,u128,u129,u130,u131,u132,u133,u134,u135,u136,u137,u138,u139,u140,u141,u142,u143],[]⟩ wx :=by
  subst ho
  (conv => arg 2;whnf)
  refine planSeg ?_
  (conv => arg 4;simp only [gaC,gaN,lZ0,lS0,coS])
  go_wp2_with (first
    | refine ⟨by kernel_rfl,oldD kr,?_⟩
    | refine ⟨oldD kr,?_⟩
    | (go_at_call 67;(with_reducible refine (hv1 _ _ _ F.glob (F.int (by simp)) (F.int (by simp))).mono ?_);rintro r w1 ⟨bv1,rfl,n,k⟩;replace kr :=kt kr k;replace F :=F.new n k;clear n k))
  exact s20_r49 (by kernel_rfl) kr (F.sub (by simp)) m1 a1 m2 a2 m3 a3 m4 a4 m5 a5 hv2 hN
theorem s20_t2 (ho : ops = sin20ops) (kr : Kept wd wx) (F : Fm w wx [(bU,U.m)] ((vU,ptr bU,.int .i32 U.e) :: V)) (hv1 : mulF U U V1) (m1 : mulF ⟨-11358536521387682,-27⟩ U M1) (a1 : addF M1 ⟨2087570084197473,-24⟩ A1) (m2 : mulF A1 U M2) (a2 : addF M2 ⟨-2755731417929674,-22⟩ A2) (m3 : mulF A2 U M3) (a3 : addF M3 ⟨24801587288851704,-21⟩ A3) (m4 : mulF A3 U M4) (a4 : addF M4 ⟨-13888888888873056,-19⟩ A4) (m5 : mulF A4 U M5) (a5 : addF M5 ⟨41666666666666595,-18⟩ A5) (hv2 : mulF V1 A5 V2)
    (hN : S20End w N V vU bU U V2 c0 c1 c2 c3 c4 c5 c6 c7 c8 c9 c10 c13 c14 c15 c16 c17 c18 c19 c20 c21 c22 c23 c24 c25 c26 c27 c28 c29 c30 c31 c32 c33 c34 c35 c36 c37 c38 c39 c40 c41 c42 c43 c44 c45 c46 c47 c48 c49 c50 c51 c52 c53 c54 c55 c56 c57 c58 c59 c60 c61 c62 c63 c64 c65 c66 c67 c68) :
    wpPlanL Tryz.prog ops wd.drew N p20_t2 ⟨#[c0,c1,c2,c3,c4,c5,c6,c7,c8,c9,c10,ptr vU,u12,c13,c14,c15,c16,c17,c18,c19,c20,c21,c22,c23,c24,c25,c26,c27,c28,c29,c30,c31,c32,c33,c34,c35,c36,c37,c38,c39,c40,c41,c42,c43,c44,c45,c46,c47,c48,c49,c50,c51,c52,c53,c54,c55,c56,c57,c58,c59,c60,c61,c62,c63,c64,c65,c66,c67,c68,dv bU U.e,dv bU U.e,u71,u72,u73,dv bU U.e,u75,u76,u77,u78,dv bU U.e,u80,u81,u82,u83,dv bU U.e,u85,u86,u87,u88,dv bU U.e,u90,u91,u92,u93,dv bU U.e,u95,u96,u97,u98,u99,u100,u101,u102,u103,u104,u105,u106,u107,u108,u109,u110,u111,u112,u113,u114,u115,u116,u117,u118,u119,u120,u121,u122,u123,u124,u125,u126,u127,u128,u129,u130,u131,u132,u133,u134,u135,u136,u137,u138,u139,u140,u141,u142,u143],[]⟩ wx :=by
  subst ho
  (conv => arg 2;whnf)
  refine planTwo ?_ ?_
  · (conv => arg 4;simp only [gaC,gaN,lZ0,lS0,coS])
    go_wp2_with (first
      | refine ⟨by kernel_rfl,oldD kr,?_⟩
      | refine ⟨oldD kr,?_⟩
      | (go_at_call 67;(with_reducible refine (hv1 _ _ _ F.glob (F.int (by simp)) (F.int (by simp))).mono ?_);rintro r w1 ⟨bv1,rfl,n,k⟩;replace kr :=kt kr k;replace F :=F.new n k;clear n k))
    exact s20_t3 (by kernel_rfl) kr (F.sub (by simp)) m1 a1 m2 a2 m3 a3 m4 a4 m5 a5 hv2 hN
  · (conv => arg 4;simp only [gaC,gaN,lZ0,lS0,coS])
    go_wp2_with (refine ⟨oldD (kt kr (Chg.alloc _ _ _)),?_⟩)
    replace kr :=kt kr (boxK _ (.pointer none) (.int .i32 0))
    replace F :=F.box (.pointer none) (.int .i32 0)
    exact s20_r51 (by kernel_rfl) kr (F.sub (by simp)) hv1 m1 a1 m2 a2 m3 a3 m4 a4 m5 a5 hv2 hN
theorem s20_t1 (ho : ops = sin20ops) (kr : Kept wd wx) (F : Fm w wx [(bU,U.m)] ((vU,ptr bU,.int .i32 U.e) :: V)) (hv1 : mulF U U V1) (m1 : mulF ⟨-11358536521387682,-27⟩ U M1) (a1 : addF M1 ⟨2087570084197473,-24⟩ A1) (m2 : mulF A1 U M2) (a2 : addF M2 ⟨-2755731417929674,-22⟩ A2) (m3 : mulF A2 U M3) (a3 : addF M3 ⟨24801587288851704,-21⟩ A3) (m4 : mulF A3 U M4) (a4 : addF M4 ⟨-13888888888873056,-19⟩ A4) (m5 : mulF A4 U M5) (a5 : addF M5 ⟨41666666666666595,-18⟩ A5) (hv2 : mulF V1 A5 V2)
    (hN : S20End w N V vU bU U V2 c0 c1 c2 c3 c4 c5 c6 c7 c8 c9 c10 c13 c14 c15 c16 c17 c18 c19 c20 c21 c22 c23 c24 c25 c26 c27 c28 c29 c30 c31 c32 c33 c34 c35 c36 c37 c38 c39 c40 c41 c42 c43 c44 c45 c46 c47 c48 c49 c50 c51 c52 c53 c54 c55 c56 c57 c58 c59 c60 c61 c62 c63 c64 c65 c66 c67 c68) :
    wpPlanL Tryz.prog ops wd.drew N p20_t1 ⟨#[c0,c1,c2,c3,c4,c5,c6,c7,c8,c9,c10,ptr vU,u12,c13,c14,c15,c16,c17,c18,c19,c20,c21,c22,c23,c24,c25,c26,c27,c28,c29,c30,c31,c32,c33,c34,c35,c36,c37,c38,c39,c40,c41,c42,c43,c44,c45,c46,c47,c48,c49,c50,c51,c52,c53,c54,c55,c56,c57,c58,c59,c60,c61,c62,c63,c64,c65,c66,c67,c68,u69,u70,u71,u72,u73,u74,u75,u76,u77,u78,u79,u80,u81,u82,u83,u84,u85,u86,u87,u88,u89,u90,u91,u92,u93,u94,u95,u96,u97,u98,u99,u100,u101,u102,u103,u104,u105,u106,u107,u108,u109,u110,u111,u112,u113,u114,u115,u116,u117,u118,u119,u120,u121,u122,u123,u124,u125,u126,u127,u128,u129,u130,u131,u132,u133,u134,u135,u136,u137,u138,u139,u140,u141,u142,u143],[]⟩ wx :=by
  subst ho
  (conv => arg 2;whnf)
  obtain ⟨z0,z1,zf0,zf1⟩ :=F.at 0 rfl
  refine planSeg ?_
  (conv => arg 4;simp only [gaC,gaN,lZ0,lS0,coS])
  go_wp2_with (first
    | refine ⟨by kernel_rfl,oldD kr,?_⟩
    | refine ⟨oldD kr,?_⟩)
  exact s20_t2 (by kernel_rfl) kr (F.sub (by simp)) hv1 m1 a1 m2 a2 m3 a3 m4 a4 m5 a5 hv2 hN
end
theorem sin_r20 {c : Code} (hc : c = sin20) (w wd : World) (K : Act → World → Prop) (Q : Exit → Act → World → Prop) (vU bU : Nat) (U : Dc) (V : List (Nat × Value × Value)) (F : Fm w wd [(bU,U.m)] ((vU,ptr bU,.int .i32 U.e) :: V))
    (M1 A1 M2 A2 M3 A3 M4 A4 M5 A5 V1 V2 : Dc) (hv1 : mulF U U V1) (m1 : mulF (cosC 0) U M1) (a1 : addF M1 (cosC 1) A1) (m2 : mulF A1 U M2) (a2 : addF M2 (cosC 2) A2) (m3 : mulF A2 U M3) (a3 : addF M3 (cosC 3) A3) (m4 : mulF A3 U M4) (a4 : addF M4 (cosC 4) A4) (m5 : mulF A4 U M5) (a5 : addF M5 (cosC 5) A5) (hv2 : mulF V1 A5 V2)
    (c0 c1 c2 c3 c4 c5 c6 c7 c8 c9 c10 c13 c14 c15 c16 c17 c18 c19 c20 c21 c22 c23 c24 c25 c26 c27 c28 c29 c30 c31 c32 c33 c34 c35 c36 c37 c38 c39 c40 c41 c42 c43 c44 c45 c46 c47 c48 c49 c50 c51 c52 c53 c54 c55 c56 c57 c58 c59 c60 c61 c62 c63 c64 c65 c66 c67 c68 u12 u69 u70 u71 u72 u73 u74 u75 u76 u77 u78 u79 u80 u81 u82 u83 u84 u85 u86 u87 u88 u89 u90 u91 u92 u93 u94 u95 u96 u97 u98 u99 u100 u101 u102 u103 u104 u105 u106 u107 u108 u109 u110 u111 u112 u113 u114 u115 u116 u117 u118 u119 u120 u121 u122 u123 u124 u125 u126 u127 u128 u129 u130 u131 u132 u133 u134 u135 u136 u137 u138 u139 u140 u141 u142 u143 : Value) (hN : S20End w K V vU bU U V2 c0 c1 c2 c3 c4 c5 c6 c7 c8 c9 c10 c13 c14 c15 c16 c17 c18 c19 c20 c21 c22 c23 c24 c25 c26 c27 c28 c29 c30 c31 c32 c33 c34 c35 c36 c37 c38 c39 c40 c41 c42 c43 c44 c45 c46 c47 c48 c49 c50 c51 c52 c53 c54 c55 c56 c57 c58 c59 c60 c61 c62 c63 c64 c65 c66 c67 c68) :
    Code.wp Tryz.prog c (Exit.then K Q) ⟨#[c0,c1,c2,c3,c4,c5,c6,c7,c8,c9,c10,ptr vU,u12,c13,c14,c15,c16,c17,c18,c19,c20,c21,c22,c23,c24,c25,c26,c27,c28,c29,c30,c31,c32,c33,c34,c35,c36,c37,c38,c39,c40,c41,c42,c43,c44,c45,c46,c47,c48,c49,c50,c51,c52,c53,c54,c55,c56,c57,c58,c59,c60,c61,c62,c63,c64,c65,c66,c67,c68,u69,u70,u71,u72,u73,u74,u75,u76,u77,u78,u79,u80,u81,u82,u83,u84,u85,u86,u87,u88,u89,u90,u91,u92,u93,u94,u95,u96,u97,u98,u99,u100,u101,u102,u103,u104,u105,u106,u107,u108,u109,u110,u111,u112,u113,u114,u115,u116,u117,u118,u119,u120,u121,u122,u123,u124,u125,u126,u127,u128,u129,u130,u131,u132,u133,u134,u135,u136,u137,u138,u139,u140,u141,u142,u143],[]⟩ wd :=by
  subst hc
  (conv => arg 2;whnf)
  refine wp_region_lit_plan (id :=20) p20_t1 mixed (by kernel_rfl) ?_
  have kr : Kept wd wd.drew :=(Chg.refl _ _).drew
  replace F :=F.go kr
  exact s20_t1 (by kernel_rfl) kr F hv1 m1 a1 m2 a2 m3 a3 m4 a4 m5 a5 hv2 hN
end Go.Proofs.YtfmmdamgcpiciaaGreatDoor
