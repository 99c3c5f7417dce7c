/- A part of the proof, joined out of the texts H19, H20, H21, H22, H24, K1, M1, Q1, D22, E1, E2, E3, E4, E5, E6, E7; each theorem bears its own conditions. -/
import Derived.ArgAppend
import Derived.Lib.AppendZeros
import Derived.Shelf.Strconv.Itoa2
import Derived.Test.YtfmmdamgcpiciaaGreatDoorT01
import Derived.Test.YtfmmdamgcpiciaaGreatDoorT08
set_option linter.unusedVariables false
set_option linter.unusedSimpArgs false
set_option linter.all false
set_option maxHeartbeats 9000000
set_option exponentiation.threshold 400000
set_option maxRecDepth 1000000
namespace Go.Proofs.YtfmmdamgcpiciaaGreatDoor
open Go Go.RowKit
structure Slot3 (w : World) (b : Nat) : Prop where
  c0 : ∃ u,w.cell? ⟨b,0,none⟩ = some u
  c1 : ∃ u,w.cell? ⟨b,1,none⟩ = some u
  c2 : ∃ u,w.cell? ⟨b,2,none⟩ = some u
  nf : NF w b
theorem Slot3.kept {w w' : World} {b : Nat} (h : Slot3 w b) (hk : Kept w w') : Slot3 w' b :=by
  obtain ⟨⟨u,hu⟩,⟨v,hv⟩,⟨x,hx⟩,hf⟩ :=h
  exact ⟨⟨u,Kept.at hk hu⟩,⟨v,Kept.at hk hv⟩,⟨x,Kept.at hk hx⟩,hf.chg (lt_of_cell hu) hk⟩
theorem box3_cells (w : World) (x y z : Value) (t : TypeId) : (w.alloc (.cells #[x,y,z] t)).cell? ⟨w.heap.size,0,none⟩ = some x ∧ (w.alloc (.cells #[x,y,z] t)).cell? ⟨w.heap.size,1,none⟩ = some y ∧ (w.alloc (.cells #[x,y,z] t)).cell? ⟨w.heap.size,2,none⟩ = some z :=by
  refine ⟨?_,?_,?_⟩ <;> (rw [World.cell?_alloc_at _ _ _ _ rfl];rfl)
theorem slot3_made (w : World) (x y z : Value) (t : TypeId) : Slot3 (w.alloc (.cells #[x,y,z] t)) w.heap.size :=by
  obtain ⟨h0,h1,h2⟩ :=box3_cells w x y z t
  exact ⟨⟨_,h0⟩,⟨_,h1⟩,⟨_,h2⟩,NF.made w _ _⟩
abbrev put3 (w : World) (r : Nat) (x y z : Value) : World :=((w.setCell ⟨r,0,none⟩ x).setCell ⟨r,1,none⟩ y).setCell ⟨r,2,none⟩ z
theorem put3_chg (w : World) (r : Nat) (x y z : Value) : Chg w (put3 w r x y z) fun b _ => b = r :=
  ((Chg.setCell w r 0 x (fun b _ => b = r) fun _ => rfl).trans (Chg.setCell _ r 1 y (fun b _ => b = r) fun _ => rfl) fun _ _ _ h => h).trans (Chg.setCell _ r 2 z (fun b _ => b = r) fun _ => rfl) fun _ _ _ h => h
theorem put3_cells {w : World} {r : Nat} (h : Slot3 w r) (x y z : Value) : (put3 w r x y z).cell? ⟨r,0,none⟩ = some x ∧ (put3 w r x y z).cell? ⟨r,1,none⟩ = some y ∧ (put3 w r x y z).cell? ⟨r,2,none⟩ = some z :=by
  obtain ⟨⟨u,hu⟩,⟨v,hv⟩,⟨t,ht⟩,_⟩ :=h
  refine ⟨?_,?_,?_⟩
  · exact cs_ne (cs_ne (cell_setCell_eq hu) (by omega)) (by omega)
  · exact cs_ne (cell_setCell_eq (cs_ne hv (by omega))) (by omega)
  · exact cell_setCell_eq (cs_ne (cs_ne ht (by omega)) (by omega))
theorem results_37 {fn : Func} {t r : Nat} {tmps : Array Value} {w : World} {x y u : Value} (h : fn.results = #[.cell t 37]) (hp : tmps.getD t undef = ptr r) (hc : w.cell? ⟨r,0,none⟩ = some x ∧ w.cell? ⟨r,1,none⟩ = some y ∧ w.cell? ⟨r,2,none⟩ = some u) :
    (results fn tmps).run Tryz.prog w = .ok (.agg #[x,y,u]) w :=by
  obtain ⟨h0,h1,h2⟩ :=hc
  obtain ⟨i0,hi,hz0,hz1,hz2⟩ :=info_parts info37
  have hp' : tmps[t]?.getD undef = ptr r :=by simpa using hp
  simp [results,h,hp',go_sem,hi,hz1,h0,h1,h2]
theorem results_30 {fn : Func} {t r : Nat} {tmps : Array Value} {w : World} {x y u : Value} (h : fn.results = #[.cell t 30]) (hp : tmps.getD t undef = ptr r) (hc : w.cell? ⟨r,0,none⟩ = some x ∧ w.cell? ⟨r,1,none⟩ = some y ∧ w.cell? ⟨r,2,none⟩ = some u) :
    (results fn tmps).run Tryz.prog w = .ok (.agg #[x,y,u]) w :=by
  obtain ⟨h0,h1,h2⟩ :=hc
  obtain ⟨i0,hi,hz0,hz1,hz2⟩ :=info_parts info30
  have hp' : tmps[t]?.getD undef = ptr r :=by simpa using hp
  simp [results,h,hp',go_sem,hi,hz1,h0,h1,h2]
def DV (w : World) (v : Value) (Z e : Int) : Prop :=∃ s n c,v = .agg #[.bool (decide (Z < 0)),.slice s n c,.int .i64 e] ∧ Dig w s n c Z.natAbs
def FV (w : World) (v : Value) (N : Int) (D : Nat) : Prop :=∃ s n c s2 n2 c2,v = .agg #[.bool (decide (N < 0)),.slice s n c,.slice s2 n2 c2] ∧ Dig w s n c N.natAbs ∧ Dig w s2 n2 c2 D
theorem FV.kept {w w' : World} {v : Value} {N : Int} {D : Nat} (h : FV w v N D) (k : Kept w w') : FV w' v N D :=by
  obtain ⟨s,n,c,s2,n2,c2,h1,h2,h3⟩ :=h
  exact ⟨s,n,c,s2,n2,c2,h1,h2.kept k,h3.kept k⟩
theorem decIn (w : World) (A e : Int) (hA : A.natAbs < 10 ^ 999) : Calls Tryz.prog 9 #[pd (str (txt A)) e] w fun r w' => (∃ v,r = .returned v ∧ DV w' v A e) ∧ Kept w w' :=by
  have hp :=fun W => wholeIn W A hA
  obtain ⟨s,hs⟩ : ∃ s,str (txt A) = .string s :=⟨_,rfl⟩
  rw [hs] at hp ⊢
  have k1 : Kept w (Box23 w (.string s) (.int .i64 e)) :=Chg.alloc _ _ _
  have k2 : Kept (Box23 w (.string s) (.int .i64 e)) ((Box23 w (.string s) (.int .i64 e)).alloc (.cells #[.bool false,.slice none 0 0,.int .i64 0] 37)) :=Chg.alloc _ _ _
  have a0 :=Kept.at k2 (show (Box23 w (.string s) (.int .i64 e)).cell? ⟨w.heap.size,0,none⟩ = some (.string s) by rw [World.cell?_alloc_at _ _ _ _ rfl];rfl)
  have a1 :=Kept.at k2 (show (Box23 w (.string s) (.int .i64 e)).cell? ⟨w.heap.size,1,none⟩ = some (.int .i64 e) by rw [World.cell?_alloc_at _ _ _ _ rfl];rfl)
  have S0 :=slot3_made (Box23 w (.string s) (.int .i64 e)) (.bool false) (.slice none 0 0) (.int .i64 0) 37
  have r0 :=(box3_cells (Box23 w (.string s) (.int .i64 e)) (.bool false) (.slice none 0 0) (.int .i64 0) 37).1
  have e1 : (Box23 w (.string s) (.int .i64 e)).heap.size = w.heap.size + 1 :=by simp
  rw [e1] at S0 r0
  clear hA hs
  have k0 :=kt k1 k2
  obtain ⟨d,hd⟩ : ∃ b,decide (A < 0) = b :=⟨_,rfl⟩
  obtain ⟨W,hW⟩ : ∃ W,((Box23 w (.string s) (.int .i64 e)).alloc (.cells #[.bool false,.slice none 0 0,.int .i64 0] 37)) = W :=⟨_,rfl⟩
  rw [hW] at S0 r0 a0 a1 k0
  have HW :=Lib.hid hW
  clear hW k1 k2
  go_enter Tryz.func9,Tryz.ntmps9
  go_upto_region 1 with fail
  rw [show (w.alloc (.cells #[.string s,.int .i64 e] 23)).alloc (.cells #[.bool false,.slice none 0 0,.int .i64 0] 37) = W from HW.out]
  go_wp2_with (first
    | (refine wp_region_lit_segs (id :=1) [[0,1,3,4,2],[5,6]] mixed (by kernel_rfl) ?_;simp only [wpSegsL,gaC,gaN,lZ0,lS0,coS])
    | refine ⟨by kernel_rfl,?_⟩
    | (refine ⟨by kernel_rfl,oldD kr,?_⟩)
    | (refine ⟨oldD kr,?_⟩)
    | (go_at_call 34;(with_reducible refine (hp _).mono ?_);rintro r w1 ⟨⟨v1,rfl,s',n',c',rfl,hd1⟩,p1⟩;rw [hd];have kr :=p1.of_drew;have S :=S0.kept kr;have r1 :=Kept.at kr r0;obtain ⟨⟨u0,s0⟩,⟨u1,s1⟩,⟨u2,s2⟩,sf⟩ :=id S;have f0 :=sf 0;have f1 :=sf 1;have f2 :=sf 2;have t1 :=cs_ne (u :=.bool d) s1 (b' :=w.heap.size + 1) (o' :=0) (by omega);have t2 :=cs_ne (u :=.slice s' n' c') (cs_ne (u :=.bool d) s2 (b' :=w.heap.size + 1) (o' :=0) (by omega)) (b' :=w.heap.size + 1) (o' :=1) (by omega)))
  exact ⟨_,results_37 (r :=w.heap.size + 1) rfl rfl (put3_cells S _ _ _),⟨s',n',c',by rw [hd],hd1.set r1 (put3_chg _ _ _ _ _)⟩,(kt k0 kr).keptNew (put3_chg _ _ _ _ _) fun b' _ h => by omega⟩
theorem decOut (w : World) (v : Value) (A e : Int) (h : DV w v A e) (hA : A.natAbs < 10 ^ 1000) : Calls Tryz.prog 8 #[v] w fun r w' => r = .returned (pd (str (txt A)) e) ∧ Kept w w' :=by
  obtain ⟨s,n,c,rfl,hd⟩ :=h
  have k1 : Kept w (w.alloc (.cells #[.bool (decide (A < 0)),.slice s n c,.int .i64 e] 37)) :=Chg.alloc _ _ _
  have e1 : (w.alloc (.cells #[.bool (decide (A < 0)),.slice s n c,.int .i64 e] 37)).heap.size = w.heap.size + 1 :=by simp
  obtain ⟨a0,a1,a2⟩ :=box3_cells w (.bool (decide (A < 0))) (.slice s n c) (.int .i64 e) 37
  have hp : ∀ W,Kept w W → Calls Tryz.prog 33 #[.agg #[.bool (decide (A < 0)),.slice s n c]] W fun r w' => r = .returned (str (txt A)) ∧ Kept W w' :=fun W k => wholeString W _ A ⟨s,n,c,rfl,hd.kept k⟩ hA
  obtain ⟨d,hd'⟩ : ∃ b,decide (A < 0) = b :=⟨_,rfl⟩
  rw [hd'] at k1 e1 a0 a1 a2 hp ⊢
  obtain ⟨W1,hW1⟩ : ∃ W,w.alloc (.cells #[.bool d,.slice s n c,.int .i64 e] 37) = W :=⟨_,rfl⟩
  rw [hW1] at k1 e1 a0 a1 a2
  have k2 : Kept W1 (Box23 W1 (.string { data :=#[] }) (.int .i64 0)) :=Chg.alloc _ _ _
  have S0 :=slot23 W1 (.string { data :=#[] }) (.int .i64 0)
  rw [e1] at S0
  replace a0 :=Kept.at k2 a0
  replace a1 :=Kept.at k2 a1
  replace a2 :=Kept.at k2 a2
  have k0 :=kt k1 k2
  obtain ⟨t,ht⟩ : ∃ t,str (txt A) = .string t :=⟨_,rfl⟩
  rw [ht] at hp ⊢
  obtain ⟨W,hW⟩ : ∃ W,W1.alloc (.cells #[.string { data :=#[] },.int .i64 0] 23) = W :=⟨_,rfl⟩
  simp only [Box23,hW] at S0 a0 a1 a2 k0 k2
  have HW :=Lib.hid (And.intro hW1 hW)
  clear hW hW1 k1 k2 hd hd' ht hA e1
  go_enter Tryz.func8,Tryz.ntmps8
  go_upto_region 1 with fail
  rw [HW.out.1,HW.out.2]
  go_wp2_with (first
    | (refine wp_region_lit_segs (id :=1) [[0,1,3,4,2],[5,6]] mixed (by kernel_rfl) ?_;simp only [wpSegsL,gaC,gaN,lZ0,lS0,coS])
    | refine ⟨by kernel_rfl,?_⟩
    | (refine ⟨by kernel_rfl,oldD kr,?_⟩)
    | (refine ⟨oldD kr,?_⟩)
    | (go_at_call 33;(with_reducible refine (hp _ (kt k0 (Chg.refl _ _).drew)).mono ?_);rintro r w1 ⟨rfl,p1⟩;have kr :=p1.of_drew;have S :=S0.kept kr;obtain ⟨⟨u0,s0⟩,⟨u1,s1⟩,sf⟩ :=id S;have f0 :=sf 0;have f1 :=sf 1;have t1 :=cs_ne (u :=.string t) s1 (b' :=w.heap.size + 1) (o' :=0) (by omega)))
  exact ⟨_,results_23 (r :=w.heap.size + 1) rfl rfl (put2_0 S _ _) (put2_1 S _ _),rfl,(kt k0 kr).keptNew (put2_chg _ _ _ _) fun b' _ h => by omega⟩
end Go.Proofs.YtfmmdamgcpiciaaGreatDoor
namespace Go.Proofs.YtfmmdamgcpiciaaGreatDoor
open Go Go.RowKit
structure One3 (w W : World) (x y z : Value) : Prop where
  k : Kept w W
  a0 : W.cell? ⟨w.heap.size,0,none⟩ = some x
  a1 : W.cell? ⟨w.heap.size,1,none⟩ = some y
  a2 : W.cell? ⟨w.heap.size,2,none⟩ = some z
  r0 : W.cell? ⟨w.heap.size + 1,0,none⟩ = some (.bool false)
  S : Slot3 W (w.heap.size + 1)
theorem one3 (w : World) (x y z u v : Value) (T U : TypeId) : One3 w ((w.alloc (.cells #[x,y,z] T)).alloc (.cells #[.bool false,u,v] U)) x y z :=by
  have k1 : Kept w (w.alloc (.cells #[x,y,z] T)) :=Chg.alloc _ _ _
  have k2 : Kept (w.alloc (.cells #[x,y,z] T)) ((w.alloc (.cells #[x,y,z] T)).alloc (.cells #[.bool false,u,v] U)) :=Chg.alloc _ _ _
  have e1 : (w.alloc (.cells #[x,y,z] T)).heap.size = w.heap.size + 1 :=by simp
  obtain ⟨a0,a1,a2⟩ :=box3_cells w x y z T
  have S0 :=slot3_made (w.alloc (.cells #[x,y,z] T)) (.bool false) u v U
  have r0 :=(box3_cells (w.alloc (.cells #[x,y,z] T)) (.bool false) u v U).1
  rw [e1] at S0 r0
  exact ⟨kt k1 k2,Kept.at k2 a0,Kept.at k2 a1,Kept.at k2 a2,r0,S0⟩
theorem One3.keep {w W W' : World} {x y z : Value} (h : One3 w W x y z) (k : Kept W W') : One3 w W' x y z :=⟨kt h.k k,Kept.at k h.a0,Kept.at k h.a1,Kept.at k h.a2,Kept.at k h.r0,h.S.kept k⟩
theorem FV.put {w W w1 : World} {N : Int} {D : Nat} {s s2 : Option Addr} {n c n2 c2 : Nat} {x y z : Value} (O : One3 w W x y z) (k : Kept W w1) (d : Bool) (hd : decide (N < 0) = d) (h1 : Dig w1 s n c N.natAbs) (h2 : Dig w1 s2 n2 c2 D) :
    FV (put3 w1 (w.heap.size + 1) (.bool d) (.slice s n c) (.slice s2 n2 c2)) (.agg #[.bool d,.slice s n c,.slice s2 n2 c2]) N D ∧ Kept w (put3 w1 (w.heap.size + 1) (.bool d) (.slice s n c) (.slice s2 n2 c2)) :=by
  have r1 :=Kept.at k O.r0
  exact ⟨⟨s,n,c,s2,n2,c2,by rw [hd],h1.set r1 (put3_chg _ _ _ _ _),h2.set r1 (put3_chg _ _ _ _ _)⟩,(kt O.k k).keptNew (put3_chg _ _ _ _ _) fun b' _ h => by omega⟩
theorem Slot3.use {w : World} {r : Nat} (S : Slot3 w r) : (∃ u,w.cell? ⟨r,0,none⟩ = some u) ∧ (∃ u,w.cell? ⟨r,1,none⟩ = some u ∧ ∀ x,(w.setCell ⟨r,0,none⟩ x).cell? ⟨r,1,none⟩ = some u) ∧ (∃ u,w.cell? ⟨r,2,none⟩ = some u ∧ ∀ x y,((w.setCell ⟨r,0,none⟩ x).setCell ⟨r,1,none⟩ y).cell? ⟨r,2,none⟩ = some u) ∧ w.frozen? ⟨r,0,none⟩ = false ∧ w.frozen? ⟨r,1,none⟩ = false ∧ w.frozen? ⟨r,2,none⟩ = false :=by
  obtain ⟨⟨u0,h0⟩,⟨u1,h1⟩,⟨u2,h2⟩,hf⟩ :=S
  exact ⟨⟨u0,h0⟩,⟨u1,h1,fun x => cs_ne h1 (by omega)⟩,⟨u2,h2,fun x y => cs_ne (cs_ne h2 (by omega)) (by omega)⟩,hf 0,hf 1,hf 2⟩
theorem decFrac_neg (w : World) (v : Value) (A : Int) (k : Nat) (h : DV w v A (-(k : Int))) (hk0 : 0 < k) (hk : k ≤ 100000) : Calls Tryz.prog 43 #[v] w fun r w' => (∃ v',r = .returned v' ∧ FV w' v' A (10 ^ k)) ∧ Kept w w' :=by
  obtain ⟨s,n,c,rfl,hd⟩ :=h
  obtain ⟨d,hd'⟩ : ∃ b,decide (A < 0) = b :=⟨_,rfl⟩
  rw [hd']
  have O :=one3 w (.bool d) (.slice s n c) (.int .i64 (-(k : Int))) (.slice none 0 0) (.slice none 0 0) 37 30
  obtain ⟨W,hW⟩ : ∃ W,((w.alloc (.cells #[.bool d,.slice s n c,.int .i64 (-(k : Int))] 37)).alloc (.cells #[.bool false,.slice none 0 0,.slice none 0 0] 30)) = W :=⟨_,rfl⟩
  rw [hW] at O
  have hp :=fun W => natPow10 W k hk
  obtain ⟨E,hE⟩ : ∃ E : Int,-(k : Int) = E :=⟨_,rfl⟩
  have hkE : ((k : Nat) : Int) = -E :=by omega
  rw [hkE] at hp
  rw [hE] at O hW ⊢
  have hE0 : ¬ 0 ≤ E :=by omega
  have hE1 : -100000 ≤ E :=by omega
  have HW :=Lib.hid hW
  have HD :=Lib.hid (And.intro hd' hd)
  clear hW hd' hd hkE hE hk hk0
  obtain ⟨q0,q1,q2,q3,q4,q5⟩ :=id O
  go_enter Tryz.func43,Tryz.ntmps43
  go_upto_region 1 with fail
  rw [HW.out]
  go_wp2_with (first
    | (refine wp_region_lit_segs (id :=3) [[0,1,2,3,4,5],[6,7]] mixed (by kernel_rfl) ?_;simp only [wpSegsL,gaC,gaN,lZ0,lS0,coS])
    | refine ⟨by kernel_rfl,?_⟩
    | (refine ⟨by kernel_rfl,oldD kr,?_⟩)
    | (refine ⟨oldD kr,?_⟩)
    | (go_at_call 17;(with_reducible refine (hp _).mono ?_);rintro r w1 ⟨⟨v1,rfl,s2,n2,c2,rfl,d2⟩,p1⟩;have kr :=p1.of_drew;obtain ⟨⟨u0,s0⟩,⟨u1,s1,t1⟩,⟨u2,s2',t2⟩,f0,f1,f2⟩ :=(O.keep kr).S.use))
  obtain ⟨g1,g2⟩ :=FV.put O kr d HD.out.1 (HD.out.2.kept (kt O.k kr)) d2
  exact ⟨_,results_30 (r :=w.heap.size + 1) rfl rfl (put3_cells (O.keep kr).S _ _ _),g1,g2⟩
theorem decFrac_zero (w : World) (v : Value) (A : Int) (h : DV w v A 0) (hA : Sm A.natAbs) : Calls Tryz.prog 43 #[v] w fun r w' => (∃ v',r = .returned v' ∧ FV w' v' A 1) ∧ Kept w w' :=by
  obtain ⟨s,n,c,rfl,hd⟩ :=h
  have hl :=hd.sm hA
  clear hA
  obtain ⟨d,hd'⟩ : ∃ b,decide (A < 0) = b :=⟨_,rfl⟩
  rw [hd']
  have O :=one3 w (.bool d) (.slice s n c) (.int .i64 0) (.slice none 0 0) (.slice none 0 0) 37 30
  obtain ⟨W,hW⟩ : ∃ W,((w.alloc (.cells #[.bool d,.slice s n c,.int .i64 0] 37)).alloc (.cells #[.bool false,.slice none 0 0,.slice none 0 0] 30)) = W :=⟨_,rfl⟩
  rw [hW] at O
  have hp : ∀ W,Calls Tryz.prog 17 #[.int .i64 0] W fun r w' => (∃ v,r = .returned v ∧ NV w' v 1) ∧ Kept W w' :=fun W => natPow10 W 0 (by decide)
  have hm : ∀ W' s2 n2 c2,Kept w W' → Dig W' s2 n2 c2 1 → Calls Tryz.prog 40 #[.slice s n c,.slice s2 n2 c2] W' fun r w' => (∃ v,r = .returned v ∧ NV w' v A.natAbs) ∧ Kept W' w' :=fun W' s2 n2 c2 k h => by
    have :=natMul W' s s2 n n2 c c2 A.natAbs 1 (hd.kept k) h (by omega) (by have :=h.len_le (k :=1) (by decide);omega)
    rw [Nat.mul_one] at this
    exact this
  have hwo : ∀ W' v,NV W' v A.natAbs → Calls Tryz.prog 35 #[.bool d,v] W' fun r w' => (∃ v',r = .returned v' ∧ WV w' v' A) ∧ Kept W' w' :=fun W' v h => by
    have :=wholeOf W' d v _ h
    rw [← hd',sgn_of] at this
    rw [hd'] at this
    exact this
  have HW :=Lib.hid hW
  have HD :=Lib.hid hd'
  clear hW hd hl hd'
  obtain ⟨q0,q1,q2,q3,q4,q5⟩ :=id O
  go_enter Tryz.func43,Tryz.ntmps43
  go_upto_region 1 with fail
  rw [HW.out]
  go_wp2_with (first
    | (refine wp_region_lit_segs (id :=2) [[0,1,2,3,4,5,6,7,8],[9],[10,11,12,13]] mixed (by kernel_rfl) ?_;simp only [wpSegsL,gaC,gaN,lZ0,lS0,coS])
    | refine ⟨by kernel_rfl,?_⟩
    | (refine ⟨by kernel_rfl,oldD kr,?_⟩)
    | (refine ⟨oldD kr,?_⟩)
    | (go_at_call 17;(with_reducible refine (hp _).mono ?_);rintro r w1 ⟨⟨v1,rfl,s2,n2,c2,rfl,d2⟩,p1⟩;have kr :=p1.of_drew)
    | (go_at_call 40;(with_reducible refine (hm _ _ _ _ (kt O.k kr) d2).mono ?_);rintro r w2 ⟨⟨v2,rfl,n3⟩,p2⟩;replace kr :=kt kr p2)
    | (go_at_call 35;(with_reducible refine (hwo _ _ n3).mono ?_);rintro r w3 ⟨⟨v3,rfl,s3,n4,c3,rfl,d3⟩,p3⟩;rw [HD.out];replace kr :=kt kr p3)
    | (go_at_call 48;(with_reducible refine (natOne _).mono ?_);rintro r w4 ⟨⟨v4,rfl,s5,n5,c5,rfl,d5⟩,p4⟩;replace kr :=kt kr p4;obtain ⟨⟨u0,s0⟩,⟨u1,s1,t1⟩,⟨u2,s2',t2⟩,f0,f1,f2⟩ :=(O.keep kr).S.use))
  obtain ⟨g1,g2⟩ :=FV.put O kr d HD.out (d3.kept p4) d5
  exact ⟨_,results_30 (r :=w.heap.size + 1) rfl rfl (put3_cells (O.keep kr).S _ _ _),g1,g2⟩
theorem decFrac (w : World) (v : Value) (A : Int) (k : Nat) (h : DV w v A (-(k : Int))) (hA : Sm A.natAbs) (hk : k ≤ 100000) : Calls Tryz.prog 43 #[v] w fun r w' => (∃ v',r = .returned v' ∧ FV w' v' A (10 ^ k)) ∧ Kept w w' :=by
  rcases Nat.eq_zero_or_pos k with rfl | hk0
  · exact decFrac_zero w v A h hA
  · exact decFrac_neg w v A k h hk0 hk
theorem fracOf (w : World) (A : Int) (k : Nat) (hA : A.natAbs < 10 ^ 999) (hk : k ≤ 100000) : Calls Tryz.prog 14 #[pd (str (txt A)) (-(k : Int))] w fun r w' => (∃ v',r = .returned v' ∧ FV w' v' A (10 ^ k)) ∧ Kept w w' :=by
  have h1 :=fun W => decIn W A (-(k : Int)) hA
  have h2 :=fun W v (h : DV W v A (-(k : Int))) => decFrac W v A k h (Nat.lt_trans hA (by
    show 10 ^ 999 < L9 ^ 399999
    have : 10 ^ 999 = L9 ^ 111 :=by decide
    rw [this]
    exact Nat.pow_lt_pow_right (by decide) (by decide))) hk
  obtain ⟨E,hE⟩ : ∃ E : Int,-(k : Int) = E :=⟨_,rfl⟩
  obtain ⟨s,hs⟩ : ∃ s,str (txt A) = .string s :=⟨_,rfl⟩
  rw [hE,hs] at h1
  rw [hE] at h2
  rw [hE,hs]
  have kA : Kept w (Box23 w (.string s) (.int .i64 E)) :=Chg.alloc _ _ _
  have kB : Kept (Box23 w (.string s) (.int .i64 E)) ((Box23 w (.string s) (.int .i64 E)).alloc (.cells #[.bool false,.slice none 0 0,.slice none 0 0] 30)) :=Chg.alloc _ _ _
  have a0 :=Kept.at kB (show (Box23 w (.string s) (.int .i64 E)).cell? ⟨w.heap.size,0,none⟩ = some (.string s) by rw [World.cell?_alloc_at _ _ _ _ rfl];rfl)
  have a1 :=Kept.at kB (show (Box23 w (.string s) (.int .i64 E)).cell? ⟨w.heap.size,1,none⟩ = some (.int .i64 E) by rw [World.cell?_alloc_at _ _ _ _ rfl];rfl)
  have S0 :=slot3_made (Box23 w (.string s) (.int .i64 E)) (.bool false) (.slice none 0 0) (.slice none 0 0) 30
  have r0 :=(box3_cells (Box23 w (.string s) (.int .i64 E)) (.bool false) (.slice none 0 0) (.slice none 0 0) 30).1
  have e1 : (Box23 w (.string s) (.int .i64 E)).heap.size = w.heap.size + 1 :=by simp
  rw [e1] at S0 r0
  have k0 :=kt kA kB
  obtain ⟨W,hW⟩ : ∃ W,((w.alloc (.cells #[.string s,.int .i64 E] 23)).alloc (.cells #[.bool false,.slice none 0 0,.slice none 0 0] 30)) = W :=⟨_,rfl⟩
  simp only [Box23,hW] at S0 r0 a0 a1 k0
  have HW :=Lib.hid hW
  clear hW kA kB hA hE hs hk e1
  obtain ⟨d,hd⟩ : ∃ b,decide (A < 0) = b :=⟨_,rfl⟩
  go_enter Tryz.func14,Tryz.ntmps14
  go_upto_region 1 with fail
  rw [HW.out]
  go_wp2_with (first
    | (go_at_call 9;(with_reducible refine (h1 _).mono ?_);rintro r w1 ⟨⟨v1,rfl,n1⟩,p1⟩)
    | (go_at_call 43;(with_reducible refine (h2 _ _ n1).mono ?_);rintro r w2 ⟨⟨v2,rfl,s1,n2,c1,s2,n3,c2,rfl,d1,d2⟩,p2⟩;rw [hd];have kr :=kt p1 p2;have S :=S0.kept kr;obtain ⟨⟨u0,x0⟩,⟨u1,x1,t1⟩,⟨u2,x2,t2⟩,f0,f1,f2⟩ :=S.use))
  have r1 :=Kept.at kr r0
  exact bodyPost_ret (results_30 (r :=w.heap.size + 1) rfl rfl (put3_cells S _ _ _)) rfl ⟨⟨_,rfl,s1,n2,c1,s2,n3,c2,by rw [hd],d1.set r1 (put3_chg _ _ _ _ _),d2.set r1 (put3_chg _ _ _ _ _)⟩,(kt k0 kr).keptNew (put3_chg _ _ _ _ _) fun b' _ h => by omega⟩
end Go.Proofs.YtfmmdamgcpiciaaGreatDoor
namespace Go.Proofs.YtfmmdamgcpiciaaGreatDoor
open Go Go.RowKit
theorem fracMinus (w : World) (v : Value) (N : Int) (D : Nat) (h : FV w v N D) : Calls Tryz.prog 15 #[v] w fun r w' => (∃ v',r = .returned v' ∧ FV w' v' (-N) D) ∧ Kept w w' :=by
  obtain ⟨s,n,c,s2,n2,c2,rfl,h1,h2⟩ :=h
  have hm : ∀ W,Kept w W → Calls Tryz.prog 10 #[.agg #[.bool (decide (N < 0)),.slice s n c]] W fun r w' => (∃ v',r = .returned v' ∧ WV w' v' (-N)) ∧ Kept W w' :=fun W k => wholeMinus W _ N ⟨s,n,c,rfl,h1.kept k⟩
  obtain ⟨d,hd⟩ : ∃ b,decide (N < 0) = b :=⟨_,rfl⟩
  obtain ⟨Y,hY⟩ : ∃ Y,-N = Y :=⟨_,rfl⟩
  obtain ⟨d',hd'⟩ : ∃ b,decide (Y < 0) = b :=⟨_,rfl⟩
  rw [hd,hY] at hm
  rw [hd,hY]
  have O :=one3 w (.bool d) (.slice s n c) (.slice s2 n2 c2) (.slice none 0 0) (.slice none 0 0) 30 30
  obtain ⟨W,hW⟩ : ∃ W,((w.alloc (.cells #[.bool d,.slice s n c,.slice s2 n2 c2] 30)).alloc (.cells #[.bool false,.slice none 0 0,.slice none 0 0] 30)) = W :=⟨_,rfl⟩
  rw [hW] at O
  have HW :=Lib.hid hW
  clear hW hd hY h1
  obtain ⟨q0,q1,q2,q3,q4,q5⟩ :=id O
  go_enter Tryz.func15,Tryz.ntmps15
  go_upto_region 1 with fail
  rw [HW.out]
  go_wp2_with (first
    | (refine wp_region_lit_segs (id :=1) [[0,1,3,4,2],[5,6]] mixed (by kernel_rfl) ?_;simp only [wpSegsL,gaC,gaN,lZ0,lS0,coS])
    | refine ⟨by kernel_rfl,?_⟩
    | (refine ⟨by kernel_rfl,oldD kr,?_⟩)
    | (refine ⟨oldD kr,?_⟩)
    | (go_at_call 10;(with_reducible refine (hm _ (kt O.k (Chg.refl _ _).drew)).mono ?_);rintro r w1 ⟨⟨v1,rfl,s3,n3,c3,rfl,d3⟩,p1⟩;rw [hd'];have kr :=p1.of_drew;obtain ⟨⟨u0,s0⟩,⟨u1,s1,t1⟩,⟨u2,s2',t2⟩,f0,f1,f2⟩ :=(O.keep kr).S.use))
  obtain ⟨g1,g2⟩ :=FV.put O kr d' hd' d3 (h2.kept (kt O.k kr))
  exact ⟨_,results_30 (r :=w.heap.size + 1) rfl rfl (put3_cells (O.keep kr).S _ _ _),g1,g2⟩
theorem fracAbs (w : World) (v : Value) (N : Int) (D : Nat) (h : FV w v N D) : Calls Tryz.prog 18 #[v] w fun r w' => (∃ v',r = .returned v' ∧ FV w' v' N.natAbs D) ∧ Kept w w' :=by
  obtain ⟨s,n,c,s2,n2,c2,rfl,h1,h2⟩ :=h
  obtain ⟨d,hd⟩ : ∃ b,decide (N < 0) = b :=⟨_,rfl⟩
  rw [hd]
  have O :=one3 w (.bool d) (.slice s n c) (.slice s2 n2 c2) (.slice none 0 0) (.slice none 0 0) 30 30
  obtain ⟨W,hW⟩ : ∃ W,((w.alloc (.cells #[.bool d,.slice s n c,.slice s2 n2 c2] 30)).alloc (.cells #[.bool false,.slice none 0 0,.slice none 0 0] 30)) = W :=⟨_,rfl⟩
  rw [hW] at O
  have HW :=Lib.hid hW
  clear hW hd
  obtain ⟨q0,q1,q2,q3,q4,q5⟩ :=id O
  obtain ⟨⟨u0,s0⟩,⟨u1,s1,t1⟩,⟨u2,s2',t2⟩,f0,f1,f2⟩ :=O.S.use
  go_enter Tryz.func18,Tryz.ntmps18
  go_upto_region 1 with fail
  rw [HW.out]
  go_wp2
  have hz : decide (((N.natAbs : Nat) : Int) < 0) = false :=decide_eq_false (by omega)
  obtain ⟨g1,g2⟩ :=FV.put (N :=N.natAbs) O (Chg.refl _ _) false hz (by rw [Int.natAbs_natCast];exact h1.kept O.k) (h2.kept O.k)
  exact bodyPost_ret (results_30 (r :=w.heap.size + 1) rfl rfl (put3_cells O.S _ _ _)) rfl ⟨⟨_,rfl,g1⟩,g2⟩
structure Two3 (w W : World) (x y z x' y' z' : Value) : Prop where
  k : Kept w W
  a0 : W.cell? ⟨w.heap.size,0,none⟩ = some x
  a1 : W.cell? ⟨w.heap.size,1,none⟩ = some y
  a2 : W.cell? ⟨w.heap.size,2,none⟩ = some z
  b0 : W.cell? ⟨w.heap.size + 1,0,none⟩ = some x'
  b1 : W.cell? ⟨w.heap.size + 1,1,none⟩ = some y'
  b2 : W.cell? ⟨w.heap.size + 1,2,none⟩ = some z'
theorem two3 (w : World) (x y z x' y' z' : Value) : Two3 w ((w.alloc (.cells #[x,y,z] 30)).alloc (.cells #[x',y',z'] 30)) x y z x' y' z' :=by
  have k1 : Kept w (w.alloc (.cells #[x,y,z] 30)) :=Chg.alloc _ _ _
  have k2 : Kept (w.alloc (.cells #[x,y,z] 30)) ((w.alloc (.cells #[x,y,z] 30)).alloc (.cells #[x',y',z'] 30)) :=Chg.alloc _ _ _
  have e1 : (w.alloc (.cells #[x,y,z] 30)).heap.size = w.heap.size + 1 :=by simp
  obtain ⟨a0,a1,a2⟩ :=box3_cells w x y z 30
  obtain ⟨b0,b1,b2⟩ :=box3_cells (w.alloc (.cells #[x,y,z] 30)) x' y' z' 30
  rw [e1] at b0 b1 b2
  exact ⟨kt k1 k2,Kept.at k2 a0,Kept.at k2 a1,Kept.at k2 a2,b0,b1,b2⟩
theorem WV.nat {w : World} {s : Option Addr} {n c X : Nat} (h : Dig w s n c X) : WV w (.agg #[.bool false,.slice s n c]) (X : Int) :=⟨s,n,c,by rw [decide_eq_false (by omega : ¬ ((X : Nat) : Int) < 0)],by rw [Int.natAbs_natCast];exact h⟩
theorem fracCmp (w : World) (v1 v2 : Value) (N M : Int) (D E : Nat) (h1 : FV w v1 N D) (h2 : FV w v2 M E) (hN : Sm N.natAbs) (hM : Sm M.natAbs) (hD : Sm D) (hE : Sm E) : Calls Tryz.prog 19 #[v1,v2] w fun r w' => r = .returned (.int .i64 (cmpZ (N * E) (M * D))) ∧ Kept w w' :=by
  obtain ⟨s,n,c,s2,n2,c2,rfl,d1,d2⟩ :=h1
  obtain ⟨s3,n3,c3,s4,n4,c4,rfl,d3,d4⟩ :=h2
  have hm1 : ∀ W,Kept w W → Calls Tryz.prog 39 #[.agg #[.bool (decide (N < 0)),.slice s n c],.agg #[.bool false,.slice s4 n4 c4]] W fun r w' => (∃ v',r = .returned v' ∧ WV w' v' (N * E)) ∧ Kept W w' :=fun W k => wholeMul W _ _ N E ⟨s,n,c,rfl,d1.kept k⟩ (WV.nat (d4.kept k)) hN (by rw [Int.natAbs_natCast];exact hE)
  have hm2 : ∀ W,Kept w W → Calls Tryz.prog 39 #[.agg #[.bool (decide (M < 0)),.slice s3 n3 c3],.agg #[.bool false,.slice s2 n2 c2]] W fun r w' => (∃ v',r = .returned v' ∧ WV w' v' (M * D)) ∧ Kept W w' :=fun W k => wholeMul W _ _ M D ⟨s3,n3,c3,rfl,d3.kept k⟩ (WV.nat (d2.kept k)) hM (by rw [Int.natAbs_natCast];exact hD)
  obtain ⟨a,ha⟩ : ∃ b,decide (N < 0) = b :=⟨_,rfl⟩
  obtain ⟨b,hb⟩ : ∃ b,decide (M < 0) = b :=⟨_,rfl⟩
  obtain ⟨X,hX⟩ : ∃ X,N * (E : Int) = X :=⟨_,rfl⟩
  obtain ⟨Y,hY⟩ : ∃ X,M * (D : Int) = X :=⟨_,rfl⟩
  rw [ha,hX] at hm1
  rw [hb,hY] at hm2
  rw [ha,hb,hX,hY]
  have T :=two3 w (.bool a) (.slice s n c) (.slice s2 n2 c2) (.bool b) (.slice s3 n3 c3) (.slice s4 n4 c4)
  obtain ⟨W,hW⟩ : ∃ W,((w.alloc (.cells #[.bool a,.slice s n c,.slice s2 n2 c2] 30)).alloc (.cells #[.bool b,.slice s3 n3 c3,.slice s4 n4 c4] 30)) = W :=⟨_,rfl⟩
  rw [hW] at T
  have HW :=Lib.hid hW
  clear hW ha hb hX hY d1 d2 d3 d4 hN hM hD hE
  obtain ⟨q0,q1,q2,q3,q4,q5,q6⟩ :=id T
  go_enter Tryz.func19,Tryz.ntmps19
  go_upto_region 1 with fail
  rw [HW.out]
  go_wp2_with (first
    | (refine wp_region_lit_segs (id :=1) [[0,1,2,3,4,6,7,8,9,10,5],[11,12,13]] mixed (by kernel_rfl) ?_;simp only [wpSegsL,gaC,gaN,lZ0,lS0,coS])
    | refine ⟨by kernel_rfl,?_⟩
    | (refine ⟨by kernel_rfl,oldD kr,?_⟩)
    | (refine ⟨oldD kr,?_⟩)
    | (go_at_call 39;(with_reducible refine (hm1 _ (kt T.k (Chg.refl _ _).drew)).mono ?_);rintro r w1 ⟨⟨v1,rfl,m1⟩,p1⟩;have kr :=p1.of_drew)
    | (go_at_call 39;(with_reducible refine (hm2 _ (kt T.k kr)).mono ?_);rintro r w2 ⟨⟨v2,rfl,m2⟩,p2⟩;replace kr :=kt kr p2)
    | (go_at_call 44;(with_reducible refine (wholeCmp _ _ _ X Y (m1.kept p2) m2).mono ?_);rintro r w3 ⟨rfl,p3⟩;replace kr :=kt kr p3))
  first | go_ret | refine ⟨_,results_tmp rfl _ _ _,?_⟩
  exact ⟨rfl,kt T.k kr⟩
end Go.Proofs.YtfmmdamgcpiciaaGreatDoor
namespace Go.Proofs.YtfmmdamgcpiciaaGreatDoor
open Go Go.RowKit
structure Two3R (w W : World) (x y z x' y' z' : Value) : Prop where
  T : Two3 w W x y z x' y' z'
  r0 : W.cell? ⟨w.heap.size + 2,0,none⟩ = some (.bool false)
  S : Slot3 W (w.heap.size + 2)
theorem two3R (w : World) (x y z x' y' z' : Value) : Two3R w (((w.alloc (.cells #[x,y,z] 30)).alloc (.cells #[x',y',z'] 30)).alloc (.cells #[.bool false,.slice none 0 0,.slice none 0 0] 30)) x y z x' y' z' :=by
  obtain ⟨k,a0,a1,a2,b0,b1,b2⟩ :=two3 w x y z x' y' z'
  have k2 : Kept ((w.alloc (.cells #[x,y,z] 30)).alloc (.cells #[x',y',z'] 30)) (((w.alloc (.cells #[x,y,z] 30)).alloc (.cells #[x',y',z'] 30)).alloc (.cells #[.bool false,.slice none 0 0,.slice none 0 0] 30)) :=Chg.alloc _ _ _
  have e2 : ((w.alloc (.cells #[x,y,z] 30)).alloc (.cells #[x',y',z'] 30)).heap.size = w.heap.size + 2 :=by simp
  have S0 :=slot3_made ((w.alloc (.cells #[x,y,z] 30)).alloc (.cells #[x',y',z'] 30)) (.bool false) (.slice none 0 0) (.slice none 0 0) 30
  have r0 :=(box3_cells ((w.alloc (.cells #[x,y,z] 30)).alloc (.cells #[x',y',z'] 30)) (.bool false) (.slice none 0 0) (.slice none 0 0) 30).1
  rw [e2] at S0 r0
  exact ⟨⟨kt k k2,Kept.at k2 a0,Kept.at k2 a1,Kept.at k2 a2,Kept.at k2 b0,Kept.at k2 b1,Kept.at k2 b2⟩,r0,S0⟩
theorem FV.put2 {w W w1 : World} {N : Int} {D : Nat} {s s2 : Option Addr} {n c n2 c2 : Nat} {x y z x' y' z' : Value} (O : Two3R w W x y z x' y' z') (k : Kept W w1) (d : Bool) (hd : decide (N < 0) = d) (h1 : Dig w1 s n c N.natAbs) (h2 : Dig w1 s2 n2 c2 D) :
    FV (put3 w1 (w.heap.size + 2) (.bool d) (.slice s n c) (.slice s2 n2 c2)) (.agg #[.bool d,.slice s n c,.slice s2 n2 c2]) N D ∧ Kept w (put3 w1 (w.heap.size + 2) (.bool d) (.slice s n c) (.slice s2 n2 c2)) :=by
  have r1 :=Kept.at k O.r0
  exact ⟨⟨s,n,c,s2,n2,c2,by rw [hd],h1.set r1 (put3_chg _ _ _ _ _),h2.set r1 (put3_chg _ _ _ _ _)⟩,(kt O.T.k k).keptNew (put3_chg _ _ _ _ _) fun b' _ h => by omega⟩
theorem fracAdd (w : World) (v1 v2 : Value) (N M : Int) (D E : Nat) (h1 : FV w v1 N D) (h2 : FV w v2 M E) (hN : Sm N.natAbs) (hM : Sm M.natAbs) (hD : Sm D) (hE : Sm E) (hX : Sm (N * E).natAbs) (hY : Sm (M * D).natAbs) : Calls Tryz.prog 24 #[v1,v2] w fun r w' => (∃ v',r = .returned v' ∧ FV w' v' (N * E + M * D) (D * E)) ∧ Kept w w' :=by
  obtain ⟨s,n,c,s2,n2,c2,rfl,d1,d2⟩ :=h1
  obtain ⟨s3,n3,c3,s4,n4,c4,rfl,d3,d4⟩ :=h2
  have hm1 : ∀ W,Kept w W → Calls Tryz.prog 39 #[.agg #[.bool (decide (N < 0)),.slice s n c],.agg #[.bool false,.slice s4 n4 c4]] W fun r w' => (∃ v',r = .returned v' ∧ WV w' v' (N * E)) ∧ Kept W w' :=fun W k => wholeMul W _ _ N E ⟨s,n,c,rfl,d1.kept k⟩ (WV.nat (d4.kept k)) hN (by rw [Int.natAbs_natCast];exact hE)
  have hm2 : ∀ W,Kept w W → Calls Tryz.prog 39 #[.agg #[.bool (decide (M < 0)),.slice s3 n3 c3],.agg #[.bool false,.slice s2 n2 c2]] W fun r w' => (∃ v',r = .returned v' ∧ WV w' v' (M * D)) ∧ Kept W w' :=fun W k => wholeMul W _ _ M D ⟨s3,n3,c3,rfl,d3.kept k⟩ (WV.nat (d2.kept k)) hM (by rw [Int.natAbs_natCast];exact hD)
  have hm3 : ∀ W,Kept w W → Calls Tryz.prog 40 #[.slice s2 n2 c2,.slice s4 n4 c4] W fun r w' => (∃ v',r = .returned v' ∧ NV w' v' (D * E)) ∧ Kept W w' :=fun W k => natMul W s2 s4 n2 n4 c2 c4 D E (d2.kept k) (d4.kept k) (by have :=d2.sm hD;omega) (by have :=d4.sm hE;omega)
  have ha : ∀ W v v',WV W v (N * E) → WV W v' (M * D) → Calls Tryz.prog 38 #[v,v'] W fun r w' => (∃ v',r = .returned v' ∧ WV w' v' (N * E + M * D)) ∧ Kept W w' :=fun W v v' h h' => wholeAdd W v v' _ _ h h' hX hY
  obtain ⟨a,ha'⟩ : ∃ b,decide (N < 0) = b :=⟨_,rfl⟩
  obtain ⟨b,hb'⟩ : ∃ b,decide (M < 0) = b :=⟨_,rfl⟩
  obtain ⟨Z,hZ⟩ : ∃ Z,N * (E : Int) + M * (D : Int) = Z :=⟨_,rfl⟩
  obtain ⟨z,hz⟩ : ∃ b,decide (Z < 0) = b :=⟨_,rfl⟩
  rw [hZ] at ha
  obtain ⟨X,hX'⟩ : ∃ X,N * (E : Int) = X :=⟨_,rfl⟩
  obtain ⟨Y,hY'⟩ : ∃ X,M * (D : Int) = X :=⟨_,rfl⟩
  rw [ha',hX'] at hm1
  rw [hb',hY'] at hm2
  rw [hX',hY'] at ha
  rw [ha',hb',hZ]
  have T :=two3R w (.bool a) (.slice s n c) (.slice s2 n2 c2) (.bool b) (.slice s3 n3 c3) (.slice s4 n4 c4)
  obtain ⟨W,hW⟩ : ∃ W,(((w.alloc (.cells #[.bool a,.slice s n c,.slice s2 n2 c2] 30)).alloc (.cells #[.bool b,.slice s3 n3 c3,.slice s4 n4 c4] 30)).alloc (.cells #[.bool false,.slice none 0 0,.slice none 0 0] 30)) = W :=⟨_,rfl⟩
  rw [hW] at T
  have HW :=Lib.hid hW
  clear hW ha' hb' hX hY hX' hY' hZ d1 d2 d3 d4 hN hM hD hE
  obtain ⟨q0,q1,q2,q3,q4,q5,q6⟩ :=id T.T
  go_enter Tryz.func24,Tryz.ntmps24
  go_upto_region 1 with fail
  rw [HW.out]
  go_wp2_with (first
    | (refine wp_region_lit_segs (id :=1) [[0,1,2,3,4,6,7,8,9,10,13,14,15,16,5],[11],[12],[17,18,19]] mixed (by kernel_rfl) ?_;simp only [wpSegsL,gaC,gaN,lZ0,lS0,coS])
    | refine ⟨by kernel_rfl,?_⟩
    | (refine ⟨by kernel_rfl,oldD kr,?_⟩)
    | (refine ⟨oldD kr,?_⟩)
    | (go_at_call 39;(with_reducible refine (hm1 _ (kt q0 (Chg.refl _ _).drew)).mono ?_);rintro r w1 ⟨⟨v1,rfl,m1⟩,p1⟩;have kr :=p1.of_drew)
    | (go_at_call 39;(with_reducible refine (hm2 _ (kt q0 kr)).mono ?_);rintro r w2 ⟨⟨v2,rfl,m2⟩,p2⟩;replace kr :=kt kr p2)
    | (go_at_call 38;(with_reducible refine (ha _ _ _ (m1.kept p2) m2).mono ?_);rintro r w3 ⟨⟨v3,rfl,s5,n5,c5,rfl,d5⟩,p3⟩;rw [hz];replace kr :=kt kr p3)
    | (go_at_call 40;(with_reducible refine (hm3 _ (kt q0 kr)).mono ?_);rintro r w4 ⟨⟨v4,rfl,s6,n6,c6,rfl,d6⟩,p4⟩;replace kr :=kt kr p4;obtain ⟨⟨u0,x0⟩,⟨u1,x1,t1⟩,⟨u2,x2,t2⟩,f0,f1,f2⟩ :=(T.S.kept kr).use))
  obtain ⟨g1,g2⟩ :=FV.put2 T kr z hz (d5.kept p4) d6
  exact ⟨_,results_30 (r :=w.heap.size + 2) rfl rfl (put3_cells (T.S.kept kr) _ _ _),g1,g2⟩
theorem fracSub (w : World) (v1 v2 : Value) (N M : Int) (D E : Nat) (h1 : FV w v1 N D) (h2 : FV w v2 M E) (hN : Sm N.natAbs) (hM : Sm M.natAbs) (hD : Sm D) (hE : Sm E) (hX : Sm (N * E).natAbs) (hY : Sm (M * D).natAbs) : Calls Tryz.prog 16 #[v1,v2] w fun r w' => (∃ v',r = .returned v' ∧ FV w' v' (N * E - M * D) (D * E)) ∧ Kept w w' :=by
  have hmi : ∀ W,Kept w W → Calls Tryz.prog 15 #[v2] W fun r w' => (∃ v',r = .returned v' ∧ FV w' v' (-M) E) ∧ Kept W w' :=fun W k => fracMinus W v2 M E (h2.kept k)
  have had : ∀ W v,Kept w W → FV W v (-M) E → Calls Tryz.prog 24 #[v1,v] W fun r w' => (∃ v',r = .returned v' ∧ FV w' v' (N * E - M * D) (D * E)) ∧ Kept W w' :=fun W v k h => by
    have :=fracAdd W v1 v N (-M) D E (h1.kept k) h hN (by rw [Int.natAbs_neg];exact hM) hD hE hX (by rw [Int.neg_mul,Int.natAbs_neg];exact hY)
    rw [Int.neg_mul,← Int.sub_eq_add_neg] at this
    exact this
  obtain ⟨s,n,c,s2,n2,c2,rfl,d1,d2⟩ :=h1
  obtain ⟨s3,n3,c3,s4,n4,c4,rfl,d3,d4⟩ :=h2
  obtain ⟨a,ha'⟩ : ∃ b,decide (N < 0) = b :=⟨_,rfl⟩
  obtain ⟨b,hb'⟩ : ∃ b,decide (M < 0) = b :=⟨_,rfl⟩
  obtain ⟨Z,hZ⟩ : ∃ Z,N * (E : Int) - M * (D : Int) = Z :=⟨_,rfl⟩
  obtain ⟨z,hz⟩ : ∃ b,decide (Z < 0) = b :=⟨_,rfl⟩
  rw [ha',hZ] at had
  rw [hb'] at hmi
  rw [ha',hb',hZ]
  have T :=two3R w (.bool a) (.slice s n c) (.slice s2 n2 c2) (.bool b) (.slice s3 n3 c3) (.slice s4 n4 c4)
  obtain ⟨W,hW⟩ : ∃ W,(((w.alloc (.cells #[.bool a,.slice s n c,.slice s2 n2 c2] 30)).alloc (.cells #[.bool b,.slice s3 n3 c3,.slice s4 n4 c4] 30)).alloc (.cells #[.bool false,.slice none 0 0,.slice none 0 0] 30)) = W :=⟨_,rfl⟩
  rw [hW] at T
  have HW :=Lib.hid hW
  clear hW ha' hb' hX hY hZ d1 d2 d3 d4 hN hM hD hE
  obtain ⟨q0,q1,q2,q3,q4,q5,q6⟩ :=id T.T
  go_enter Tryz.func16,Tryz.ntmps16
  go_upto_region 1 with fail
  rw [HW.out]
  go_wp2_with (first
    | (refine wp_region_lit_segs (id :=1) [[0,1,2],[3,4]] mixed (by kernel_rfl) ?_;simp only [wpSegsL,gaC,gaN,lZ0,lS0,coS])
    | refine ⟨by kernel_rfl,?_⟩
    | (refine ⟨by kernel_rfl,oldD kr,?_⟩)
    | (refine ⟨oldD kr,?_⟩)
    | (go_at_call 15;(with_reducible refine (hmi _ (kt q0 (Chg.refl _ _).drew)).mono ?_);rintro r w1 ⟨⟨v1,rfl,m1⟩,p1⟩;have kr :=p1.of_drew)
    | (go_at_call 24;(with_reducible refine (had _ _ (kt q0 kr) m1).mono ?_);rintro r w4 ⟨⟨v4,rfl,s5,n5,c5,s6,n6,c6,rfl,d5,d6⟩,p4⟩;rw [hz];replace kr :=kt kr p4;obtain ⟨⟨u0,x0⟩,⟨u1,x1,t1⟩,⟨u2,x2,t2⟩,f0,f1,f2⟩ :=(T.S.kept kr).use))
  obtain ⟨g1,g2⟩ :=FV.put2 T kr z hz d5 d6
  exact ⟨_,results_30 (r :=w.heap.size + 2) rfl rfl (put3_cells (T.S.kept kr) _ _ _),g1,g2⟩
end Go.Proofs.YtfmmdamgcpiciaaGreatDoor
namespace Go.Proofs.YtfmmdamgcpiciaaGreatDoor
open Go Go.RowKit
theorem fracMul (w : World) (v1 v2 : Value) (N M : Int) (D E : Nat) (h1 : FV w v1 N D) (h2 : FV w v2 M E) (hN : Sm N.natAbs) (hM : Sm M.natAbs) (hD : Sm D) (hE : Sm E) : Calls Tryz.prog 25 #[v1,v2] w fun r w' => (∃ v',r = .returned v' ∧ FV w' v' (N * M) (D * E)) ∧ Kept w w' :=by
  obtain ⟨s,n,c,s2,n2,c2,rfl,d1,d2⟩ :=h1
  obtain ⟨s3,n3,c3,s4,n4,c4,rfl,d3,d4⟩ :=h2
  have hm1 : ∀ W,Kept w W → Calls Tryz.prog 39 #[.agg #[.bool (decide (N < 0)),.slice s n c],.agg #[.bool (decide (M < 0)),.slice s3 n3 c3]] W fun r w' => (∃ v',r = .returned v' ∧ WV w' v' (N * M)) ∧ Kept W w' :=fun W k => wholeMul W _ _ N M ⟨s,n,c,rfl,d1.kept k⟩ ⟨s3,n3,c3,rfl,d3.kept k⟩ hN hM
  have hm3 : ∀ W,Kept w W → Calls Tryz.prog 40 #[.slice s2 n2 c2,.slice s4 n4 c4] W fun r w' => (∃ v',r = .returned v' ∧ NV w' v' (D * E)) ∧ Kept W w' :=fun W k => natMul W s2 s4 n2 n4 c2 c4 D E (d2.kept k) (d4.kept k) (by have :=d2.sm hD;omega) (by have :=d4.sm hE;omega)
  obtain ⟨a,ha'⟩ : ∃ b,decide (N < 0) = b :=⟨_,rfl⟩
  obtain ⟨b,hb'⟩ : ∃ b,decide (M < 0) = b :=⟨_,rfl⟩
  obtain ⟨Z,hZ⟩ : ∃ Z,N * M = Z :=⟨_,rfl⟩
  obtain ⟨z,hz⟩ : ∃ b,decide (Z < 0) = b :=⟨_,rfl⟩
  rw [ha',hb',hZ] at hm1
  rw [ha',hb',hZ]
  have T :=two3R w (.bool a) (.slice s n c) (.slice s2 n2 c2) (.bool b) (.slice s3 n3 c3) (.slice s4 n4 c4)
  obtain ⟨W,hW⟩ : ∃ W,(((w.alloc (.cells #[.bool a,.slice s n c,.slice s2 n2 c2] 30)).alloc (.cells #[.bool b,.slice s3 n3 c3,.slice s4 n4 c4] 30)).alloc (.cells #[.bool false,.slice none 0 0,.slice none 0 0] 30)) = W :=⟨_,rfl⟩
  rw [hW] at T
  have HW :=Lib.hid hW
  clear hW ha' hb' hZ d1 d2 d3 d4 hN hM hD hE
  obtain ⟨q0,q1,q2,q3,q4,q5,q6⟩ :=id T.T
  go_enter Tryz.func25,Tryz.ntmps25
  go_upto_region 1 with fail
  rw [HW.out]
  go_wp2_with (first
    | (refine wp_region_lit_segs (id :=1) [[0,1,2,3,5,6,7,8,4],[9,10,11]] mixed (by kernel_rfl) ?_;simp only [wpSegsL,gaC,gaN,lZ0,lS0,coS])
    | refine ⟨by kernel_rfl,?_⟩
    | (refine ⟨by kernel_rfl,oldD kr,?_⟩)
    | (refine ⟨oldD kr,?_⟩)
    | (go_at_call 39;(with_reducible refine (hm1 _ (kt q0 (Chg.refl _ _).drew)).mono ?_);rintro r w1 ⟨⟨v1,rfl,s5,n5,c5,rfl,d5⟩,p1⟩;rw [hz];have kr :=p1.of_drew)
    | (go_at_call 40;(with_reducible refine (hm3 _ (kt q0 kr)).mono ?_);rintro r w4 ⟨⟨v4,rfl,s6,n6,c6,rfl,d6⟩,p4⟩;replace kr :=kt kr p4;obtain ⟨⟨u0,x0⟩,⟨u1,x1,t1⟩,⟨u2,x2,t2⟩,f0,f1,f2⟩ :=(T.S.kept kr).use))
  obtain ⟨g1,g2⟩ :=FV.put2 T kr z hz (d5.kept p4) d6
  exact ⟨_,results_30 (r :=w.heap.size + 2) rfl rfl (put3_cells (T.S.kept kr) _ _ _),g1,g2⟩
theorem fracOne (w : World) : Calls Tryz.prog 23 #[.int .i64 1] w fun r w' => (∃ v',r = .returned v' ∧ FV w' v' 1 1) ∧ Kept w w' :=by
  have S0 :=slot3_made w (.bool false) (.slice none 0 0) (.slice none 0 0) 30
  have r0 :=(box3_cells w (.bool false) (.slice none 0 0) (.slice none 0 0) 30).1
  have k0 : Kept w (w.alloc (.cells #[.bool false,.slice none 0 0,.slice none 0 0] 30)) :=Chg.alloc _ _ _
  obtain ⟨d,hd⟩ : ∃ b,decide ((1 : Int) < 0) = b :=⟨_,rfl⟩
  have Hd :=Lib.hid hd
  go_enter Tryz.func23,Tryz.ntmps23
  go_wp2_with (first
    | (go_at_call 45;(with_reducible refine (wholeOne _).mono ?_);rintro r w1 ⟨⟨v1,rfl,s2,n2,c2,rfl,d2⟩,p1⟩;rw [Hd.out])
    | (go_at_call 48;(with_reducible refine (natOne _).mono ?_);rintro r w2 ⟨⟨v2,rfl,s3,n3,c3,rfl,d3⟩,p2⟩;have kr :=kt p1 p2;obtain ⟨⟨u0,x0⟩,⟨u1,x1,t1⟩,⟨u2,x2,t2⟩,f0,f1,f2⟩ :=(S0.kept kr).use))
  have r1 :=Kept.at kr r0
  exact bodyPost_ret (results_30 (r :=w.heap.size) rfl rfl (put3_cells (S0.kept kr) _ _ _)) rfl ⟨⟨_,rfl,s2,n2,c2,s3,n3,c3,by rw [Hd.out],(d2.kept p2).set r1 (put3_chg _ _ _ _ _),d3.set r1 (put3_chg _ _ _ _ _)⟩,(kt k0 kr).keptNew (put3_chg _ _ _ _ _) fun b' _ h => by omega⟩
theorem arTiny12 (w : World) : Calls Tryz.prog 20 #[.int .i64 12] w fun r w' => (∃ v',r = .returned v' ∧ FV w' v' 1 (10 ^ 12)) ∧ Kept w w' :=by
  have h2 : ∀ W v,DV W v 1 (-12) → Calls Tryz.prog 43 #[v] W fun r w' => (∃ v',r = .returned v' ∧ FV w' v' 1 (10 ^ 12)) ∧ Kept W w' :=fun W v h => decFrac W v 1 12 h (by
    show (1 : Nat) < L9 ^ 399999
    exact Nat.one_lt_pow (by decide) (by decide)) (by decide)
  have S0 :=slot3_made w (.bool false) (.slice none 0 0) (.slice none 0 0) 30
  have r0 :=(box3_cells w (.bool false) (.slice none 0 0) (.slice none 0 0) 30).1
  have k0 : Kept w (w.alloc (.cells #[.bool false,.slice none 0 0,.slice none 0 0] 30)) :=Chg.alloc _ _ _
  obtain ⟨d,hd⟩ : ∃ b,decide ((1 : Int) < 0) = b :=⟨_,rfl⟩
  have Hd :=Lib.hid hd
  obtain ⟨E,hE⟩ : ∃ E,10 ^ 12 = E :=⟨_,rfl⟩
  rw [hE] at h2 ⊢
  clear hE
  go_enter Tryz.func20,Tryz.ntmps20
  go_wp2_with (first
    | (go_at_call 45;(with_reducible refine (wholeOne _).mono ?_);rintro r w1 ⟨⟨v1,rfl,s1,n1,c1,rfl,d1⟩,p1⟩;rw [Hd.out];have dv1 : DV w1 (.agg #[.bool d,.slice s1 n1 c1,.int .i64 (-12)]) 1 (-12) :=⟨s1,n1,c1,(by rw [Hd.out]),d1⟩)
    | (go_at_call 43;(with_reducible refine (h2 _ _ dv1).mono ?_);rintro r w2 ⟨⟨v2,rfl,s2,n2,c2,s3,n3,c3,rfl,d2,d3⟩,p2⟩;rw [Hd.out];have kr :=kt p1 p2;have S :=S0.kept kr;obtain ⟨⟨u0,x0⟩,⟨u1,x1,t1⟩,⟨u2,x2,t2⟩,f0,f1,f2⟩ :=S.use))
  have r1 :=Kept.at kr r0
  exact bodyPost_ret (results_30 (r :=w.heap.size) rfl rfl (put3_cells S _ _ _)) rfl ⟨⟨_,rfl,s2,n2,c2,s3,n3,c3,by rw [Hd.out],d2.set r1 (put3_chg _ _ _ _ _),d3.set r1 (put3_chg _ _ _ _ _)⟩,(kt k0 kr).keptNew (put3_chg _ _ _ _ _) fun b' _ h => by omega⟩
end Go.Proofs.YtfmmdamgcpiciaaGreatDoor
namespace Go.Proofs.YtfmmdamgcpiciaaGreatDoor.Plain
def ev : List Int → Int → Int
  | [],_ => 0
  | a :: p,x => a + x * ev p x
def padd : List Int → List Int → List Int
  | [],q => q
  | a :: p,[] => a :: p
  | a :: p,b :: q => (a + b) :: padd p q
def psmul (c : Int) : List Int → List Int
  | [] => []
  | a :: p => (c * a) :: psmul c p
def pmul : List Int → List Int → List Int
  | [],_ => []
  | a :: p,q => padd (psmul a q) (0 :: pmul p q)
def pstep (c a : Int) (q : List Int) : List Int :=padd [a] (padd (psmul c q) (0 :: q))
def pshift (c : Int) : List Int → List Int
  | [] => []
  | a :: p => pstep c a (pshift c p)
def pdil (c : Int) : List Int → List Int
  | [] => []
  | a :: p => a :: psmul c (pdil c p)
def pabs (R : Nat) : List Int → Nat
  | [] => 0
  | a :: p => a.natAbs + R * pabs R p
theorem ev_padd (x : Int) : ∀ p q,ev (padd p q) x = ev p x + ev q x
  | [],q => by simp [padd,ev]
  | a :: p,[] => by simp [padd,ev]
  | a :: p,b :: q => by simp only [padd,ev];rw [ev_padd x p q];grind
theorem ev_psmul (c x : Int) : ∀ p,ev (psmul c p) x = c * ev p x
  | [] => by simp [psmul,ev]
  | a :: p => by simp only [psmul,ev];rw [ev_psmul c x p];grind
theorem ev_pmul (x : Int) : ∀ p q,ev (pmul p q) x = ev p x * ev q x
  | [],q => by simp [pmul,ev]
  | a :: p,q => by simp only [pmul,ev_padd,ev_psmul,ev];rw [ev_pmul x p q];grind
theorem ev_pshift (c x : Int) : ∀ p,ev (pshift c p) x = ev p (x + c)
  | [] => rfl
  | a :: p => by simp only [pshift,pstep,ev_padd,ev_psmul,ev];rw [ev_pshift c x p];grind
theorem ev_pdil (c x : Int) : ∀ p,ev (pdil c p) x = ev p (c * x)
  | [] => rfl
  | a :: p => by simp only [pdil,ev_psmul,ev];rw [ev_pdil c x p];grind
theorem ev_le (R : Nat) (x : Int) (hx : x.natAbs ≤ R) : ∀ p,(ev p x).natAbs ≤ pabs R p
  | [] => by simp [ev]
  | a :: p => by
    simp only [ev,pabs]
    have h1 :=ev_le R x hx p
    have h2 : (x * ev p x).natAbs ≤ R * pabs R p :=by rw [Int.natAbs_mul];exact Nat.mul_le_mul hx h1
    omega
def part (D : Nat) (x : Int) : Nat → Int
  | 0 => D
  | n + 1 => (part D x n * x).tdiv (D * (n + 1) : Nat)
def sgS (n : Nat) : Int :=match n % 4 with | 1 => 1 | 3 => -1 | _ => 0
def sgC (n : Nat) : Int :=match n % 4 with | 0 => 1 | 2 => -1 | _ => 0
def sumTo (f : Nat → Int) : Nat → Int
  | 0 => 0
  | n + 1 => sumTo f n + f n
def fact : Nat → Nat
  | 0 => 1
  | n + 1 => (n + 1) * fact n
def eb : Nat → Nat
  | 0 => 0
  | n + 1 => 10 * eb n / (n + 1) + 2
def ebSum : Nat → Nat
  | 0 => 0
  | n + 1 => ebSum n + eb n
theorem tdiv_split (a : Int) (b : Nat) (hb : 0 < b) : ∃ r : Int,a = a.tdiv b * b + r ∧ r.natAbs < b :=by
  refine ⟨a.tmod b,?_,?_⟩
  · have :=Int.mul_tdiv_add_tmod a b
    rw [Int.mul_comm] at this
    exact this.symm
  · rw [Int.natAbs_tmod]
    simpa using Nat.mod_lt _ hb
theorem eb_step (n : Nat) : 10 * eb n + (n + 1) ≤ (n + 1) * eb (n + 1) :=by
  simp only [eb]
  have h :=Nat.div_add_mod (10 * eb n) (n + 1)
  have h2 :=Nat.mod_lt (10 * eb n) (Nat.succ_pos n)
  rw [Nat.mul_add]
  simp only [Nat.succ_eq_add_one] at *
  omega
theorem part_err (D : Nat) (hD : 0 < D) (x : Int) (hx : x.natAbs ≤ 10 * D) : ∀ n,(part D x n * ((fact n * D ^ n : Nat) : Int) - D * x ^ n).natAbs ≤ eb n * (fact n * D ^ n)
  | 0 => by simp [part,fact,eb]
  | n + 1 => by
    have ih :=part_err D hD x hx n
    obtain ⟨r,h1,h2⟩ :=tdiv_split (part D x n * x) (D * (n + 1)) (Nat.mul_pos hD (Nat.succ_pos n))
    have e : part D x (n + 1) * ((fact (n + 1) * D ^ (n + 1) : Nat) : Int) - D * x ^ (n + 1) = x * (part D x n * ((fact n * D ^ n : Nat) : Int) - D * x ^ n) - r * ((fact n * D ^ n : Nat) : Int) :=by
      have h3 : part D x (n + 1) * ((D * (n + 1) : Nat) : Int) = part D x n * x - r :=by simp only [part];omega
      have h4 : ((fact (n + 1) * D ^ (n + 1) : Nat) : Int) = ((D * (n + 1) : Nat) : Int) * ((fact n * D ^ n : Nat) : Int) :=by
        rw [← Int.natCast_mul]
        congr 1
        simp only [fact,Nat.pow_succ]
        grind
      rw [h4,← Int.mul_assoc,h3,Int.pow_succ]
      grind
    rw [e]
    generalize part D x n * ((fact n * D ^ n : Nat) : Int) - D * x ^ n = u at *
    have hF : fact (n + 1) * D ^ (n + 1) = (D * (n + 1)) * (fact n * D ^ n) :=by simp only [fact,Nat.pow_succ];grind
    rw [hF]
    generalize fact n * D ^ n = F at *
    have a1 : (x * u).natAbs ≤ (10 * D) * (eb n * F) :=by rw [Int.natAbs_mul];exact Nat.mul_le_mul hx ih
    have a2 : (r * (F : Int)).natAbs ≤ (D * (n + 1)) * F :=by rw [Int.natAbs_mul];simpa using Nat.mul_le_mul (Nat.le_of_lt h2) (Nat.le_refl F)
    have a3 : D * F * (10 * eb n + (n + 1)) ≤ D * F * ((n + 1) * eb (n + 1)) :=Nat.mul_le_mul (Nat.le_refl _) (eb_step n)
    have a4 : (10 * D) * (eb n * F) + (D * (n + 1)) * F = D * F * (10 * eb n + (n + 1)) :=by grind
    have a5 : D * F * ((n + 1) * eb (n + 1)) = eb (n + 1) * (D * (n + 1) * F) :=by grind
    omega
def cf (D : Nat) : Nat → Nat → Nat
  | 0,_ => 1
  | k + 1,n => (n + 1) * D * cf D k (n + 1)
theorem cf_fact (D : Nat) : ∀ k n,fact n * D ^ n * cf D k n = fact (n + k) * D ^ (n + k)
  | 0,n => by simp [cf]
  | k + 1,n => by
    have :=cf_fact D k (n + 1)
    rw [show n + 1 + k = n + (k + 1) by omega] at this
    rw [← this]
    simp only [cf,fact,Nat.pow_succ]
    grind
def ser (D : Nat) (sg : Nat → Int) : Nat → Nat → List Int
  | 0,_ => []
  | k + 1,n => (sg n * (cf D (k + 1) n : Nat)) :: ser D sg k (n + 1)
theorem sumTo_shift (f : Nat → Int) : ∀ k,sumTo f (k + 1) = f 0 + sumTo (fun i => f (i + 1)) k
  | 0 => by simp [sumTo]
  | k + 1 => by rw [sumTo,sumTo_shift f k];simp only [sumTo];omega
theorem sumTo_congr {f g : Nat → Int} : ∀ {k : Nat},(∀ i,i < k → f i = g i) → sumTo f k = sumTo g k
  | 0,_ => rfl
  | k + 1,h => by simp only [sumTo];rw [sumTo_congr (fun i hi => h i (by omega)),h k (by omega)]
theorem sumTo_mul (c : Int) (f : Nat → Int) : ∀ k,sumTo (fun i => c * f i) k = c * sumTo f k
  | 0 => by simp [sumTo]
  | k + 1 => by simp only [sumTo];rw [sumTo_mul c f k];grind
theorem ev_ser (D : Nat) (sg : Nat → Int) (x : Int) : ∀ k n,ev (ser D sg k n) x = sumTo (fun i => sg (n + i) * (cf D (k - i) (n + i) : Nat) * x ^ i) k
  | 0,n => rfl
  | k + 1,n => by
    rw [sumTo_shift]
    simp only [ser,ev]
    rw [ev_ser D sg x k (n + 1),← sumTo_mul]
    congr 1
    · simp
    · apply sumTo_congr
      intro i hi
      rw [show n + 1 + i = n + (i + 1) by omega,show k + 1 - (i + 1) = k - i by omega,Int.pow_succ]
      grind
theorem sumTo_err (f g : Nat → Int) (e : Nat → Nat) : ∀ k,(∀ i,i < k → (f i - g i).natAbs ≤ e i) → ∀ E : Nat → Nat,(E 0 = 0) → (∀ i,E (i + 1) = E i + e i) → (sumTo f k - sumTo g k).natAbs ≤ E k
  | 0,_,E,_,_ => by simp [sumTo]
  | k + 1,h,E,h0,h1 => by
    have :=sumTo_err f g e k (fun i hi => h i (by omega)) E h0 h1
    have :=h k (by omega)
    simp only [sumTo]
    rw [h1 k]
    omega
theorem series_near (D : Nat) (hD : 0 < D) (x : Int) (hx : x.natAbs ≤ 10 * D) (sg : Nat → Int) (hs : ∀ n,(sg n).natAbs ≤ 1) (N : Nat) :
    (((fact N * D ^ N : Nat) : Int) * sumTo (fun n => sg n * part D x n) N - D * ev (ser D sg N 0) x).natAbs ≤ ebSum N * (fact N * D ^ N) :=by
  rw [ev_ser,← sumTo_mul,← sumTo_mul]
  have key :=sumTo_err (fun n => ((fact N * D ^ N : Nat) : Int) * (sg n * part D x n)) (fun i => (D : Int) * (sg (0 + i) * (cf D (N - i) (0 + i) : Nat) * x ^ i)) (fun n => eb n * (fact N * D ^ N)) N ?_ (fun n => ebSum n * (fact N * D ^ N)) (by simp [ebSum]) (fun i => by simp only [ebSum];grind)
  · exact key
  intro n hn
  simp only [Nat.zero_add]
  have h1 :=part_err D hD x hx n
  have h2 :=cf_fact D (N - n) n
  rw [show n + (N - n) = N by omega] at h2
  rw [← h2]
  have e : ((fact n * D ^ n * cf D (N - n) n : Nat) : Int) * (sg n * part D x n) - (D : Int) * (sg n * (cf D (N - n) n : Nat) * x ^ n) = sg n * (cf D (N - n) n : Nat) * (part D x n * ((fact n * D ^ n : Nat) : Int) - D * x ^ n) :=by
    rw [Int.natCast_mul]
    grind
  rw [e]
  generalize part D x n * ((fact n * D ^ n : Nat) : Int) - D * x ^ n = u at *
  generalize fact n * D ^ n = F at *
  generalize cf D (N - n) n = c at *
  rw [Int.natAbs_mul,Int.natAbs_mul]
  have h3 :=hs n
  calc (sg n).natAbs * (c : Int).natAbs * u.natAbs ≤ 1 * c * (eb n * F) :=Nat.mul_le_mul (Nat.mul_le_mul h3 (by simp)) h1
    _ = eb n * (F * c) :=by grind
theorem part_small (D : Nat) (x : Int) (hx : x.natAbs ≤ 10 * D) (hD : 0 < D) : ∀ n,(part D x n).natAbs * fact n ≤ D * 10 ^ n
  | 0 => by simp [part,fact]
  | n + 1 => by
    have ih :=part_small D x hx hD n
    have h : (part D x (n + 1)).natAbs * (D * (n + 1)) ≤ (part D x n).natAbs * x.natAbs :=by
      simp only [part]
      rw [Int.natAbs_tdiv,Int.natAbs_mul]
      exact Nat.div_mul_le_self _ _
    have h2 : (part D x (n + 1)).natAbs * (D * (n + 1)) ≤ (part D x n).natAbs * (10 * D) :=Nat.le_trans h (Nat.mul_le_mul (Nat.le_refl _) hx)
    generalize (part D x (n + 1)).natAbs = p' at *
    generalize (part D x n).natAbs = p at *
    have h3 : D * (p' * (n + 1)) ≤ D * (10 * p) :=by
      have e1 : p' * (D * (n + 1)) = D * (p' * (n + 1)) :=by grind
      have e2 : p * (10 * D) = D * (10 * p) :=by grind
      omega
    have h4 :=Nat.le_of_mul_le_mul_left h3 hD
    have h5 : p' * (n + 1) * fact n ≤ 10 * p * fact n :=Nat.mul_le_mul_right _ h4
    simp only [fact,Nat.pow_succ]
    have e3 : p' * ((n + 1) * fact n) = p' * (n + 1) * fact n :=by grind
    have e4 : 10 * p * fact n = 10 * (p * fact n) :=by grind
    have e5 : D * (10 ^ n * 10) = 10 * (D * 10 ^ n) :=by grind
    omega
end Go.Proofs.YtfmmdamgcpiciaaGreatDoor.Plain
namespace Go.Proofs.YtfmmdamgcpiciaaGreatDoor.Plain
abbrev D40 : Nat :=10 ^ 40
abbrev R31 : Nat :=7853981633975000000000000000000
def F82 : Nat :=fact 82 * D40 ^ 82
def c31 : Int :=7853981633974482744594090790595
def serS (c : Int) : List Int :=pshift c (pdil 1000000000 (ser D40 sgS 82 0))
def dif (sg : Int) (P : List Int) (c : Int) : List Int :=padd (psmul (sg * F82) P) (psmul (-(10 ^ 465)) (serS c))
def four (R h : Nat) (c : Int) (lo hi : List Int) (B : Nat) : Bool :=
  let H :=R ^ 15 * pabs R hi
  decide (pabs h (pshift c lo) + H ≤ B) && decide (pabs h (pshift (-c) lo) + H ≤ B) && decide (pabs h (pshift (3 * c) lo) + H ≤ B) && decide (pabs h (pshift (-3 * c) lo) + H ≤ B)
def sgJ (jj : Nat) : Int :=if 3 < jj % 8 then -1 else 1
theorem pow_le (z : Int) (R : Nat) (h : z.natAbs ≤ R) : ∀ n,(z ^ n).natAbs ≤ R ^ n
  | 0 => by simp
  | n + 1 => by
    rw [Int.pow_succ,Int.natAbs_mul,Nat.pow_succ]
    exact Nat.mul_le_mul (pow_le z R h n) h
def sumS (x : Int) : Int :=sumTo (fun n => sgS n * part D40 x n) 82
theorem sgS_le (n : Nat) : (sgS n).natAbs ≤ 1 :=by unfold sgS;split <;> decide
theorem sgC_le (n : Nat) : (sgC n).natAbs ≤ 1 :=by unfold sgC;split <;> decide
theorem F82_pos : 0 < F82 :=by decide +kernel
theorem eb82 : ebSum 82 ≤ 1000000000 :=by decide +kernel
theorem part_zero {D : Nat} {x : Int} {n : Nat} (h : part D x n = 0) : ∀ k,part D x (n + k) = 0
  | 0 => h
  | k + 1 => by
    rw [← Nat.add_assoc,part,part_zero h k]
    simp
theorem sum_stop {D : Nat} {x : Int} {sg : Nat → Int} {n : Nat} (h : part D x n = 0) : ∀ k,sumTo (fun i => sg i * part D x i) (n + k) = sumTo (fun i => sg i * part D x i) n
  | 0 => rfl
  | k + 1 => by
    rw [← Nat.add_assoc,sumTo,sum_stop h k,part_zero h k]
    simp
theorem part82 {x : Int} (hx : x.natAbs ≤ 10 * D40) : part D40 x 82 = 0 :=by
  have h :=part_small D40 x hx (by decide) 82
  have h2 : D40 * 10 ^ 82 < fact 82 :=by decide +kernel
  have h3 : (part D40 x 82).natAbs = 0 :=by
    refine Nat.eq_zero_of_not_pos fun hp => ?_
    have h4 :=Nat.mul_le_mul_right (fact 82) hp
    rw [Nat.succ_eq_add_one,Nat.zero_add,Nat.one_mul] at h4
    exact absurd (Nat.lt_of_le_of_lt (Nat.le_trans h4 h) h2) (Nat.lt_irrefl _)
  omega
theorem sum_end {x : Int} {sg : Nat → Int} {m : Nat} (hx : x.natAbs ≤ 10 * D40) (h : part D40 x m = 0) : sumTo (fun i => sg i * part D40 x i) m = sumTo (fun i => sg i * part D40 x i) 82 :=by
  rcases Nat.le_total m 82 with hm | hm
  · have :=sum_stop (sg :=sg) h (82 - m)
    rw [Nat.add_sub_cancel' hm] at this
    exact this.symm
  · have :=sum_stop (sg :=sg) (part82 hx) (m - 82)
    rw [Nat.add_sub_cancel' hm] at this
    exact this
theorem fact_pos : ∀ n,0 < fact n
  | 0 => Nat.one_pos
  | n + 1 => Nat.mul_pos (Nat.succ_pos n) (fact_pos n)
theorem part_le {x : Int} (hx : x.natAbs ≤ 10 * D40) {n : Nat} (hn : n ≤ 82) : (part D40 x n).natAbs ≤ 10 ^ 122 :=by
  have h :=part_small D40 x hx (by decide) n
  have h1 : (part D40 x n).natAbs * 1 ≤ (part D40 x n).natAbs * fact n :=Nat.mul_le_mul_left _ (fact_pos n)
  have h2 : D40 * 10 ^ n ≤ D40 * 10 ^ 82 :=Nat.mul_le_mul_left _ (Nat.pow_le_pow_right (by decide) hn)
  rw [Nat.mul_one] at h1
  exact Nat.le_trans h1 (Nat.le_trans h (Nat.le_trans h2 (by decide +kernel)))
theorem sum_le {x : Int} {sg : Nat → Int} (hs : ∀ n,(sg n).natAbs ≤ 1) (hx : x.natAbs ≤ 10 * D40) : ∀ n,n ≤ 82 → (sumTo (fun i => sg i * part D40 x i) n).natAbs ≤ n * 10 ^ 122
  | 0,_ => by simp [sumTo]
  | n + 1,hn => by
    have ih :=sum_le hs hx n (by omega)
    have h1 :=part_le hx (n :=n) (by omega)
    have h2 : (sg n * part D40 x n).natAbs ≤ 10 ^ 122 :=by
      rw [Int.natAbs_mul]
      have :=Nat.mul_le_mul (hs n) h1
      rw [Nat.one_mul] at this
      exact this
    simp only [sumTo]
    rw [Nat.add_mul,Nat.one_mul]
    exact Nat.le_trans (Int.natAbs_add_le _ _) (Nat.add_le_add ih h2)
theorem part_neg (D : Nat) (x : Int) : ∀ n,part D (-x) n = (if n % 2 = 0 then 1 else -1) * part D x n
  | 0 => by simp [part]
  | n + 1 => by
    rw [part,part,part_neg D x n]
    rcases Nat.mod_two_eq_zero_or_one n with h | h
    · rw [if_pos h,if_neg (by omega),Int.one_mul,Int.mul_neg,Int.neg_tdiv]
      simp
    · rw [if_neg (by omega),if_pos (by omega),Int.one_mul]
      congr 1
      grind
theorem sumS_neg (x : Int) : sumS (-x) = -sumS x :=by
  unfold sumS
  have : (fun n => sgS n * part D40 (-x) n) = fun n => (-1) * (sgS n * part D40 x n) :=by
    funext n
    rw [part_neg]
    rcases Nat.mod_two_eq_zero_or_one n with h | h
    · have : sgS n = 0 :=by unfold sgS;split <;> omega
      rw [this];simp
    · rw [if_neg (by omega)];grind
  rw [this,sumTo_mul]
  omega
end Go.Proofs.YtfmmdamgcpiciaaGreatDoor.Plain
namespace Go.Proofs.YtfmmdamgcpiciaaGreatDoor
open Go Go.RowKit
theorem dec_intPart (w : World) (hg : Glob w) (b X n : Nat) (h : IntAt w b X) (hX : X < W39) (hn : n ≤ 420) (hq : X / 10 ^ n < 9223372036854775808) :
    Calls Tryz.prog 68 #[dv b (-(n : Int))] w fun r w' => r = .returned (.int .i64 (X / 10 ^ n : Nat)) ∧ Kept w w' :=by
  have hK :=boxK w (ptr b) (.int .i32 (-(n : Int)))
  have c0 :=box0 w (ptr b) (.int .i32 (-(n : Int)))
  have c1 :=box1 w (ptr b) (.int .i32 (-(n : Int)))
  have hv :=fun W => dec_getValue W b (-(n : Int))
  have hi :=fun W (hW : Kept w W) => int_isInt64 W b X (h.kept hW)
  by_cases hf : n ≤ 18 ∧ X < 9223372036854775808
  · obtain ⟨hn18,hX63⟩ :=hf
    have hi64 :=fun W (hW : Kept w W) => int_int64 W b X (h.kept hW) hX63
    obtain ⟨P,hP⟩ : ∃ P,10 ^ n = P :=⟨_,rfl⟩
    have hp :=fun W => pow10Uint64 W n P hn18 hP
    rw [hP] at hq ⊢
    have hP1 : 1 ≤ P :=by rw [← hP];exact Nat.pow_pos (by decide)
    have hP2 : P ≤ 10 ^ 18 :=by rw [← hP];exact Nat.pow_le_pow_right (by decide) hn18
    rw [decide_eq_true hX63] at hi
    have e1 :=wrap_i64_in (P : Int) (by omega) (by omega)
    have e2 : ((P : Int) == 0) = false :=by simp;omega
    have hqX :=Nat.div_le_self X P
    have e3 : (X : Int).tdiv (P : Int) = ((X / P : Nat) : Int) :=(Int.ofNat_tdiv X P).symm
    generalize X / P = Q at *
    have e4 :=wrap_i64_in (Q : Int) (by omega) (by omega)
    have e5 : ((n : Int) ≤ 18) :=by omega
    have hp1 : (1 : Int) ≤ (P : Int) :=by omega
    have HK :=Lib.hid hK
    generalize (P : Int) = p at *
    generalize (Q : Int) = q at *
    clear hqX
    clear hP hg hK hP2 hq
    go_enter Tryz.func68,Tryz.ntmps68
    go_wp2_with (first
      | (refine wp_region_lit_segs (id :=3) [[0,2,3,4,1],[5,6,7,8]] mixed (by kernel_rfl) ?_;simp only [wpSegsL,gaC,gaN,lZ0,lS0,coS])
      | refine ⟨by kernel_rfl,?_⟩
      | refine ⟨by kernel_rfl,oldD (by first | assumption | exact Chg.refl _ _ | exact (Chg.refl _ _).drew | exact kt (by first | assumption | exact (Chg.refl _ _).drew | exact Chg.refl _ _) (ziK _) | exact Chg.drew (by assumption)),?_⟩
      | refine ⟨oldD (by first | assumption | exact Chg.refl _ _ | exact (Chg.refl _ _).drew | exact kt (by first | assumption | exact (Chg.refl _ _).drew | exact Chg.refl _ _) (ziK _) | exact Chg.drew (by assumption)),?_⟩
      | (with_reducible refine And.intro ?_ ?_)
      | (go_at_call 88;refine (hv _).mono ?_;rintro r w1 ⟨rfl,k⟩;have K :=Lib.hid (kt HK.out k);have d1 :=Kept.at k c1)
      | (go_at_call 96;refine (hi _ K.out).mono ?_;rintro r w1 ⟨rfl,hw⟩;rw [hw];clear hw)
      | (go_at_call 97;refine (hi64 _ K.out.drew).mono ?_;rintro r w1 ⟨rfl,hw⟩;rw [hw];clear hw)
      | (go_at_call 98;refine (hp _).mono ?_;rintro r w1 ⟨rfl,hw⟩;rw [hw];clear hw))
    all_goals first | (exfalso;omega) | skip
    first | go_ret | refine ⟨_,results_tmp rfl _ _ _,?_⟩
    exact ⟨rfl,K.out.drew⟩
  · have hnr : n ≠ 0 ∧ (18 < n ∨ ¬ X < 9223372036854775808) :=by
      rcases Nat.eq_zero_or_pos n with rfl | h0
      · simp at hq;omega
      · omega
    have hr :=fun W (hW : Kept w W) => dec_rescale_up W (hg.kept hW) b (-(n : Int)) 0 X (h.kept hW) (by rw [Int.natAbs_natCast];exact hX) (by omega) (by omega) (by omega) (by omega)
    have et : ((0 : Int) - -(n : Int)).toNat = n :=by omega
    have eq : (X : Int).tdiv (10 ^ n : Nat) = ((X / 10 ^ n : Nat) : Int) :=(Int.ofNat_tdiv X (10 ^ n)).symm
    rw [et,eq] at hr
    generalize X / 10 ^ n = Q at *
    obtain ⟨bb,hbb⟩ : ∃ bb,decide (X < 9223372036854775808) = bb :=⟨_,rfl⟩
    rw [hbb] at hi
    have hnn : bb = true → ¬ (n : Int) ≤ 18 :=by intro e;subst e;simp at hbb;omega
    have HK :=Lib.hid hK
    have hnp : 0 < n :=by omega
    clear hg hK hnr hX
    by_cases h18 : n ≤ 18
    · have e18 : ((n : Int) ≤ 18) :=by omega
      obtain rfl : bb = false :=by
        cases bb with
        | false => rfl
        | true => exact absurd e18 (hnn rfl)
      clear hbb hnn
      go_enter Tryz.func68,Tryz.ntmps68
      go_wp2_with (first
        | (refine wp_region_lit_segs (id :=3) [[0,2,3,4,1],[5,6,7,8]] mixed (by kernel_rfl) ?_;simp only [wpSegsL,gaC,gaN,lZ0,lS0,coS])
        | refine ⟨by kernel_rfl,?_⟩
        | refine ⟨by kernel_rfl,oldD (by first | assumption | exact Chg.refl _ _ | exact (Chg.refl _ _).drew | exact kt (by first | assumption | exact (Chg.refl _ _).drew | exact Chg.refl _ _) (ziK _) | exact Chg.drew (by assumption)),?_⟩
        | refine ⟨oldD (by first | assumption | exact Chg.refl _ _ | exact (Chg.refl _ _).drew | exact kt (by first | assumption | exact (Chg.refl _ _).drew | exact Chg.refl _ _) (ziK _) | exact Chg.drew (by assumption)),?_⟩
        | (with_reducible refine And.intro ?_ ?_)
        | (go_at_call 88;refine (dec_getValue _ _ _).mono ?_;rintro r w1 ⟨rfl,k⟩;first
            | (have B :=A2.kept (kt (Chg.alloc _ _ _) k);have K :=Lib.hid (kt K2 (kt (Chg.alloc _ _ _) k)))
            | (have K :=Lib.hid (kt HK.out k);have d0 :=Kept.at k c0;have d1 :=Kept.at k c1))
        | (go_at_call 96;refine (hi _ K.out).mono ?_;rintro r w1 ⟨rfl,hw⟩;rw [hw];clear hw)
        | (go_at_call 99;refine (hr _ K.out).mono ?_;rintro r w2 ⟨b2,rfl,q1,q2⟩;have K2 :=kt K.out q2;have A2 :=q1.at)
        | (go_at_call 97;refine (int_int64 _ _ Q B hq).mono ?_;rintro r w6 ⟨rfl,hw⟩;rw [hw];clear hw))
      first | go_ret | refine ⟨_,results_tmp rfl _ _ _,?_⟩
      exact ⟨rfl,K.out⟩
    · have e18 : ¬ ((n : Int) ≤ 18) :=by omega
      clear hbb hnn
      go_enter Tryz.func68,Tryz.ntmps68
      go_wp2_with (first
        | (refine wp_region_lit_segs (id :=3) [[0,2,3,4,1],[5,6,7,8]] mixed (by kernel_rfl) ?_;simp only [wpSegsL,gaC,gaN,lZ0,lS0,coS])
        | refine ⟨by kernel_rfl,?_⟩
        | refine ⟨by kernel_rfl,oldD (by first | assumption | exact Chg.refl _ _ | exact (Chg.refl _ _).drew | exact kt (by first | assumption | exact (Chg.refl _ _).drew | exact Chg.refl _ _) (ziK _) | exact Chg.drew (by assumption)),?_⟩
        | refine ⟨oldD (by first | assumption | exact Chg.refl _ _ | exact (Chg.refl _ _).drew | exact kt (by first | assumption | exact (Chg.refl _ _).drew | exact Chg.refl _ _) (ziK _) | exact Chg.drew (by assumption)),?_⟩
        | (with_reducible refine And.intro ?_ ?_)
        | (go_at_call 88;refine (dec_getValue _ _ _).mono ?_;rintro r w1 ⟨rfl,k⟩;first
            | (have B :=A2.kept (kt (Chg.alloc _ _ _) k);have K :=Lib.hid (kt K2 (kt (Chg.alloc _ _ _) k)))
            | (have K :=Lib.hid (kt HK.out k);have d0 :=Kept.at k c0;have d1 :=Kept.at k c1))
        | (go_at_call 96;refine (hi _ K.out).mono ?_;rintro r w1 ⟨rfl,hw⟩;rw [hw];clear hw)
        | (go_at_call 99;refine (hr _ K.out).mono ?_;rintro r w2 ⟨b2,rfl,q1,q2⟩;have K2 :=kt K.out q2;have A2 :=q1.at)
        | (go_at_call 97;refine (int_int64 _ _ Q B hq).mono ?_;rintro r w6 ⟨rfl,hw⟩;rw [hw];clear hw))
      first | go_ret | refine ⟨_,results_tmp rfl _ _ _,?_⟩
      exact ⟨rfl,K.out⟩
end Go.Proofs.YtfmmdamgcpiciaaGreatDoor
namespace Go.Proofs.YtfmmdamgcpiciaaGreatDoor
open Go Go.RowKit
theorem log10Pow2 (x : Int) (h1 : -2000 ≤ x) (h2 : x ≤ 2000) (w : World) : Calls Tryz.prog 199 #[.int .i64 x] w fun e w' => e = .returned (.int .i64 (x * 78913 / 262144)) ∧ w' = w :=by
  have e1 :=wrap_i64_in (x * 78913) (by omega) (by omega)
  go_enter Tryz.func199,Tryz.ntmps199
  go_wp2
  first | go_ret | refine ⟨_,results_tmp rfl _ _ _,?_⟩
  exact ⟨rfl,rfl⟩
theorem log2Pow10 (x : Int) (h1 : -2000 ≤ x) (h2 : x ≤ 2000) (w : World) : Calls Tryz.prog 237 #[.int .i64 x] w fun e w' => e = .returned (.int .i64 (x * 108853 / 32768)) ∧ w' = w :=by
  have e1 :=wrap_i64_in (x * 108853) (by omega) (by omega)
  go_enter Tryz.func237,Tryz.ntmps237
  go_wp2
  first | go_ret | refine ⟨_,results_tmp rfl _ _ _,?_⟩
  exact ⟨rfl,rfl⟩
theorem skewed (x : Int) (h1 : -2000 ≤ x) (h2 : x ≤ 2000) (w : World) : Calls Tryz.prog 235 #[.int .i64 x] w fun e w' => e = .returned (.int .i64 ((x * 631305 - 261663) / 2097152)) ∧ w' = w :=by
  have e1 :=wrap_i64_in (x * 631305) (by omega) (by omega)
  have e2 :=wrap_i64_in (x * 631305 - 261663) (by omega) (by omega)
  go_enter Tryz.func235,Tryz.ntmps235
  go_wp2
  first | go_ret | refine ⟨_,results_tmp rfl _ _ _,?_⟩
  exact ⟨rfl,rfl⟩
theorem boolTo (f : Nat) (b : Bool) (w : World) (h : f = 266 ∨ f = 244) : Calls Tryz.prog f #[.bool b] w fun e w' => e = .returned (if f = 266 then .int .u64 (if b then 1 else 0) else .int .i64 (if b then 1 else 0)) ∧ w' = w :=by
  rcases h with rfl | rfl <;> cases b
  · go_enter Tryz.func266,Tryz.ntmps266
    go_wp2
    first | go_ret | refine ⟨_,results_tmp rfl _ _ _,?_⟩
    exact ⟨rfl,rfl⟩
  · go_enter Tryz.func266,Tryz.ntmps266
    go_wp2
    first | go_ret | refine ⟨_,results_tmp rfl _ _ _,?_⟩
    exact ⟨rfl,rfl⟩
  · go_enter Tryz.func244,Tryz.ntmps244
    go_wp2
    first | go_ret | refine ⟨_,results_tmp rfl _ _ _,?_⟩
    exact ⟨rfl,rfl⟩
  · go_enter Tryz.func244,Tryz.ntmps244
    go_wp2
    first | go_ret | refine ⟨_,results_tmp rfl _ _ _,?_⟩
    exact ⟨rfl,rfl⟩
def usc (x hi lo s : Nat) : Nat :=
  let h :=x * hi / W64
  let mid :=x * hi % W64
  if h / 2 ^ s * 2 ^ s = h then
    let mid2 :=x * lo / W64
    ((h + W64 - (if mid < mid2 then 1 else 0)) % W64 / 2 ^ s) ||| (if 1 < (mid + W64 - mid2) % W64 then 1 else 0)
  else h / 2 ^ s ||| 1
structure Scale (w : World) (pc hi lo s : Nat) : Prop where
  hi : w.cell? ⟨pc,0,none⟩ = some (.int .u64 hi)
  lo : w.cell? ⟨pc,1,none⟩ = some (.int .u64 lo)
  s : w.cell? ⟨pc,2,none⟩ = some (.int .i64 s)
theorem and63i (x : Nat) (hx : x < 64) : bits .and .i64 (x : Int) 63 = (x : Int) :=by
  simp only [bits,show (63 : Int) = ((63 : Nat) : Int) from rfl,BitVec.ofInt_natCast,BitVec.toNat_and,BitVec.toNat_ofNat]
  show IntKind.i64.wrap ((x % 2 ^ 64 &&& 63 % 2 ^ 64 : Nat) : Int) = x
  rw [Nat.mod_eq_of_lt (by omega : x < 2 ^ 64),show 63 % 2 ^ 64 = 2 ^ 6 - 1 from rfl,Nat.and_two_pow_sub_one_eq_mod,Nat.mod_eq_of_lt (by omega : x < 2 ^ 6)]
  exact wrap_i64_in _ (by omega) (by omega)
theorem sub_mod (W m n : Nat) (hn : n ≤ W) : ((m : Int) - (n : Int)) % (W : Int) = (((m + W - n) % W : Nat) : Int) :=by
  rw [Int.natCast_emod,Int.ofNat_sub (by omega),Int.natCast_add,show (m : Int) + (W : Int) - (n : Int) = (m : Int) - (n : Int) + (W : Int) by omega,Int.add_emod_right]
theorem wrap_sub (m n : Nat) (hn : n ≤ W64) : IntKind.u64.wrap ((m : Int) - (n : Int)) = (((m + W64 - n) % W64 : Nat) : Int) :=by
  rw [wrap_u64]
  exact sub_mod W64 m n hn
theorem mul_hi (W x y : Nat) (hx : x < W) (hy : y < W) : x * y / W < W :=(Nat.div_lt_iff_lt_mul (by omega)).2 (Nat.lt_of_le_of_lt (Nat.mul_le_mul_right _ (Nat.le_of_lt hx)) (Nat.mul_lt_mul_of_pos_left hy (by omega)))
theorem shl_back (h s : Nat) (hb : h < 18446744073709551616) : IntKind.u64.wrap (((h / 2 ^ s : Nat) : Int) * 2 ^ s) = ((h / 2 ^ s * 2 ^ s : Nat) : Int) :=by
  have hq : h / 2 ^ s * 2 ^ s ≤ h :=Nat.div_mul_le_self _ _
  rw [cast_mul,wrap_u64_in _ (by omega) (by omega)]
theorem usc_parts (x hi lo s : Nat) (hx : x < W64) (hh : hi < W64) (hl : lo < W64) : ∃ h m m2 : Nat,x * hi / W64 = h ∧ x * hi % W64 = m ∧ x * lo / W64 = m2 ∧ h < 18446744073709551616 ∧ m < 18446744073709551616 ∧ m2 < 18446744073709551616 ∧
    (h / 2 ^ s * 2 ^ s ≠ h → usc x hi lo s = h / 2 ^ s ||| 1) ∧
    (h / 2 ^ s * 2 ^ s = h → ∃ h' r : Nat,h' < 18446744073709551616 ∧ IntKind.u64.wrap ((h : Int) - ((if m < m2 then 1 else 0 : Nat) : Int)) = (h' : Int) ∧ IntKind.u64.wrap ((m : Int) - (m2 : Int)) = (r : Int) ∧ usc x hi lo s = h' / 2 ^ s ||| (if 1 < r then 1 else 0)) :=by
  refine ⟨_,_,_,rfl,rfl,rfl,mul_hi _ _ _ hx hh,Nat.mod_lt _ (by decide),mul_hi _ _ _ hx hl,fun h => ?_,fun h => ⟨_,_,Nat.mod_lt _ (by decide),wrap_sub _ _ ?_,wrap_sub _ _ (Nat.le_of_lt (mul_hi _ _ _ hx hl)),?_⟩⟩
  · unfold usc;simp only;rw [if_neg h]
  · split <;> decide
  · unfold usc;simp only;rw [if_pos h]
theorem uscale (w : World) (pc x hi lo s : Nat) (hx : x < W64) (hh : hi < W64) (hl : lo < W64) (hs : s < 64) (hc : Scale w pc hi lo s) :
    Calls Tryz.prog 238 #[.int .u64 x,ptr pc] w fun e w' => e = .returned (.int .u64 (usc x hi lo s)) ∧ Kept w w' :=by
  have c0 :=hc.hi
  have c1 :=hc.lo
  have c2 :=hc.s
  have hm :=bits_Mul64 x hi hx hh
  have hm2 :=bits_Mul64 x lo hx hl
  have hW : (18446744073709551616 : Nat) = W64 :=rfl
  rw [hW] at hm hm2
  obtain ⟨h,m,m2,p1,p2,p3,b1,b2,b3,p4,p5⟩ :=usc_parts x hi lo s hx hh hl
  rw [p1,p2] at hm
  rw [p3] at hm2
  generalize x * lo % W64 = l2 at *
  generalize usc x hi lo s = U at *
  clear p1 p2 p3 hW hx hh hl hc
  have a1 :=and63i s hs
  have hs63 : s ≤ 63 :=by omega
  have hqd : h / 2 ^ s ≤ h :=Nat.div_le_self _ _
  have f2 :=(cast_div h s).symm
  have f3 :=shl_back h s b1
  have f4 :=or_u64 (h / 2 ^ s) 1 (by omega) (by omega)
  by_cases hc : h / 2 ^ s * 2 ^ s = h
  · obtain ⟨h',r,b4,k1,k2,rfl⟩ :=p5 hc
    clear p4 p5
    rw [hc] at f3
    have hq' : h' / 2 ^ s ≤ h' :=Nat.div_le_self _ _
    obtain ⟨g,hg⟩ : ∃ g,(if 1 < r then 1 else 0) = g :=⟨_,rfl⟩
    rw [hg]
    have hgb : g < 2 :=by rw [← hg];split <;> omega
    have hb1 : ∀ W,Calls Tryz.prog 266 #[.bool (decide (m < m2))] W fun e w' => e = .returned (.int .u64 ((if m < m2 then 1 else 0 : Nat) : Int)) ∧ w' = W :=fun W => by
      have :=boolTo 266 (decide (m < m2)) W (.inl rfl)
      by_cases h : m < m2 <;> simpa [h] using this
    have hb2 : ∀ W,Calls Tryz.prog 266 #[.bool (decide ((1 : Int) < (r : Int)))] W fun e w' => e = .returned (.int .u64 (g : Nat)) ∧ w' = W :=fun W => by
      have :=boolTo 266 (decide ((1 : Int) < (r : Int))) W (.inl rfl)
      have e : ((1 : Int) < (r : Int)) = (1 < r) :=propext ⟨fun h => by omega,fun h => by omega⟩
      simp only [e] at this ⊢
      by_cases h : 1 < r <;> (simp [h] at hg;subst hg;simpa [h] using this)
    have f5 :=(cast_div h' s).symm
    have f6 :=or_u64 (h' / 2 ^ s) g (by omega) (by omega)
    generalize (if m < m2 then 1 else 0 : Nat) = d at *
    generalize h / 2 ^ s = q at *
    generalize h' / 2 ^ s = q2 at *
    clear hg hc
    go_enter Tryz.func238,Tryz.ntmps238
    go_wp2_with (first
      | (refine wp_region_lit_segs (id :=7) [[0,1,2,3,4,5,6,7,8,9]] mixed (by kernel_rfl) ?_;simp only [wpSegsL,gaC,gaN,lZ0,lS0,coS])
      | refine ⟨by kernel_rfl,?_⟩
      | (go_at_call 211;first
          | ((with_reducible refine (hm _).mono ?_);rintro e w' ⟨rfl,hw⟩;rw [hw];clear hw)
          | ((with_reducible refine (hm2 _).mono ?_);rintro e w' ⟨rfl,hw⟩;rw [hw];clear hw))
      | (go_at_call 266;first
          | ((with_reducible refine (hb1 _).mono ?_);rintro e w' ⟨rfl,hw⟩;rw [hw];clear hw)
          | ((with_reducible refine (hb2 _).mono ?_);rintro e w' ⟨rfl,hw⟩;rw [hw];clear hw)))
    first | go_ret | refine ⟨_,results_tmp rfl _ _ _,?_⟩
    exact ⟨rfl,(Chg.refl _ _).drew⟩
  · have hne : (((h / 2 ^ s * 2 ^ s : Nat) : Int) != (h : Int)) = true :=by simp only [bne_iff_ne,ne_eq];omega
    rw [p4 hc]
    clear p4 p5
    generalize h / 2 ^ s * 2 ^ s = r at *
    generalize h / 2 ^ s = q at *
    clear hc
    go_enter Tryz.func238,Tryz.ntmps238
    go_wp2_with (go_at_call 211;(with_reducible refine (hm _).mono ?_);rintro e w' ⟨rfl,hw⟩;rw [hw];clear hw)
    first | go_ret | refine ⟨_,results_tmp rfl _ _ _,?_⟩
    exact ⟨congrArg (fun i => Ending.returned (Value.int .u64 i)) f4,Chg.refl _ _⟩
theorem nudge (x y : Nat) (d : Int) (h : (x : Int) + d = (y : Int)) (hd : d = 0 ∨ d = 1 ∨ d = -1) (hy : y < 18446744073709551616) (hx : x < 18446744073709551616) (w : World) : Calls Tryz.prog 239 #[.int .u64 x,.int .i64 d] w fun e w' => e = .returned (.int .u64 y) ∧ w' = w :=by
  rcases hd with rfl | rfl | rfl
  · obtain rfl : x = y :=by omega
    go_enter Tryz.func239,Tryz.ntmps239
    go_wp2
    first | go_ret | refine ⟨_,results_tmp rfl _ _ _,?_⟩
    exact ⟨rfl,rfl⟩
  · have e1 : IntKind.u64.wrap ((x : Int) + 1) = (y : Int) :=by rw [wrap_u64];omega
    clear h
    go_enter Tryz.func239,Tryz.ntmps239
    go_wp2
    first | go_ret | refine ⟨_,results_tmp rfl _ _ _,?_⟩
    exact ⟨rfl,rfl⟩
  · have e1 : IntKind.u64.wrap ((x : Int) + 18446744073709551615) = (y : Int) :=by rw [wrap_u64];omega
    have e2 : IntKind.u64.wrap (-1) = 18446744073709551615 :=by rw [wrap_u64];rfl
    clear h
    go_enter Tryz.func239,Tryz.ntmps239
    go_wp2
    first | go_ret | refine ⟨_,results_tmp rfl _ _ _,?_⟩
    exact ⟨rfl,rfl⟩
theorem uceil (x : Nat) (hx : x < 18446744073709551610) (w : World) : Calls Tryz.prog 240 #[.int .u64 x] w fun e w' => e = .returned (.int .u64 ((x + 3) / 4 : Nat)) ∧ w' = w :=by
  have e1 :=wrap_u64_in ((x : Int) + 3) (by omega) (by omega)
  have e2 : ((x : Int) + 3) / 4 = (((x + 3) / 4 : Nat) : Int) :=by omega
  generalize (x + 3) / 4 = y at *
  go_enter Tryz.func240,Tryz.ntmps240
  go_wp2
  first | go_ret | refine ⟨_,results_tmp rfl _ _ _,?_⟩
  exact ⟨rfl,rfl⟩
theorem ufloor (x : Nat) (hx : x < 18446744073709551610) (w : World) : Calls Tryz.prog 241 #[.int .u64 x] w fun e w' => e = .returned (.int .u64 (x / 4 : Nat)) ∧ w' = w :=by
  have e2 : (x : Int) / 4 = ((x / 4 : Nat) : Int) :=by omega
  generalize x / 4 = y at *
  go_enter Tryz.func241,Tryz.ntmps241
  go_wp2
  first | go_ret | refine ⟨_,results_tmp rfl _ _ _,?_⟩
  exact ⟨rfl,rfl⟩
theorem uround (x : Nat) (hx : x < 18446744073709551610) (w : World) : Calls Tryz.prog 242 #[.int .u64 x] w fun e w' => e = .returned (.int .u64 ((x + 1 + x / 4 % 2) / 4 : Nat)) ∧ w' = w :=by
  have e0 : (x : Int) / 4 = ((x / 4 : Nat) : Int) :=by omega
  have e1 :=wrap_u64_in ((x : Int) + 1) (by omega) (by omega)
  have e2 : bits .and .u64 ((x / 4 : Nat) : Int) 1 = ((x / 4 % 2 : Nat) : Int) :=by
    have h :=and_u64 (x / 4) (2 ^ 1 - 1) (by omega) (by decide)
    rw [Nat.and_two_pow_sub_one_eq_mod] at h
    exact h
  have e3 : IntKind.u64.wrap ((x : Int) + 1 + ((x / 4 % 2 : Nat) : Int)) = ((x + 1 + x / 4 % 2 : Nat) : Int) :=by rw [wrap_u64_in _ (by omega) (by omega)];omega
  have e4 : ((x + 1 + x / 4 % 2 : Nat) : Int) / 4 = (((x + 1 + x / 4 % 2) / 4 : Nat) : Int) :=by omega
  generalize (x + 1 + x / 4 % 2) / 4 = y at *
  generalize x + 1 + x / 4 % 2 = z at *
  generalize x / 4 % 2 = u at *
  generalize x / 4 = v at *
  go_enter Tryz.func242,Tryz.ntmps242
  go_wp2
  first | go_ret | refine ⟨_,results_tmp rfl _ _ _,?_⟩
  exact ⟨rfl,rfl⟩
end Go.Proofs.YtfmmdamgcpiciaaGreatDoor
namespace Go.Proofs.YtfmmdamgcpiciaaGreatDoor
open Go Go.RowKit
def TabAt (w : World) (i hi lo : Nat) : Prop :=w.cell? ⟨8,i * 2,none⟩ = some (.int .u64 hi) ∧ w.cell? ⟨8,i * 2 + 1,none⟩ = some (.int .u64 lo)
theorem prescale (w : World) (pc i hi lo s : Nat) (e p lp : Int) (ht : TabAt w i hi lo) (hi1 : p + 348 = (i : Int)) (hi2 : i < 696) (hs : -(e + lp + 3) = (s : Int)) (he : -4000 ≤ e) (he2 : e ≤ 4000) (hl : -4000 ≤ lp) (hl2 : lp ≤ 4000)
    {u0 u1 u2 : Value} (c0 : w.cell? ⟨pc,0,none⟩ = some u0) (c1 : w.cell? ⟨pc,1,none⟩ = some u1) (c2 : w.cell? ⟨pc,2,none⟩ = some u2) (nf : NF w pc) (hpc : 8 < pc) :
    Calls Tryz.prog 236 #[ptr pc,.int .i64 e,.int .i64 p,.int .i64 lp] w fun r w' => r = .returned (.tuple #[]) ∧ Scale w' pc hi lo s ∧ Chg w w' (fun b _ => b = pc) :=by
  have t0 :=ht.1
  have t1 :=ht.2
  have f0 :=nf 0
  have f1 :=nf 1
  have f2 :=nf 2
  have e1 :=wrap_i64_in (p + 348) (by omega) (by omega)
  have e2 :=wrap_i64_in (e + lp) (by omega) (by omega)
  have e3 :=wrap_i64_in (e + lp + 3) (by omega) (by omega)
  have e4 :=wrap_i64_in (-(e + lp + 3)) (by omega) (by omega)
  go_enter Tryz.func236,Tryz.ntmps236
  go_wp2_with fail
  first | go_end0 | refine ⟨_,results_none rfl _ _ _,?_⟩
  refine ⟨rfl,⟨cs_ne (cs_ne (cell_setCell_eq c0) (by omega)) (by omega),cs_ne (cell_setCell_eq (cs_ne c1 (by omega))) (by omega),cell_setCell_eq (cs_ne (cs_ne c2 (by omega)) (by omega))⟩,?_⟩
  exact ((Chg.setCell w pc 0 (.int .u64 hi) (fun b _ => b = pc) fun _ => rfl).trans (Chg.setCell _ pc 1 (.int .u64 lo) (fun b _ => b = pc) fun _ => rfl) fun _ _ _ h => h).trans (Chg.setCell _ pc 2 (.int .i64 s) (fun b _ => b = pc) fun _ => rfl) fun _ _ _ h => h
theorem Scale.kept {w w' : World} {pc hi lo s : Nat} (h : Scale w pc hi lo s) (k : Kept w w') : Scale w' pc hi lo s :=⟨Kept.at k h.hi,Kept.at k h.lo,Kept.at k h.s⟩
theorem TabAt.kept {w w' : World} {i hi lo : Nat} (h : TabAt w i hi lo) (k : Kept w w') : TabAt w' i hi lo :=⟨Kept.at k h.1,Kept.at k h.2⟩
def sfP (m : Nat) (e : Int) : Int :=if m = 9223372036854775808 then -(((e + 11) * 631305 - 261663) / 2097152) else -((e + 11) * 78913 / 262144)
def sfS (m : Nat) (e : Int) : Int :=-(e + sfP m e * 108853 / 32768 + 3)
def sfMin (m : Nat) : Nat :=if m = 9223372036854775808 then m - 512 else m - 1024
def sfOdd (m : Nat) : Nat :=m / 2048 % 2
def sfLow (m : Nat) (e : Int) (hi lo : Nat) : Nat :=(usc (sfMin m) hi lo (sfS m e).toNat + sfOdd m + 3) / 4
def sfTop (m : Nat) (e : Int) (hi lo : Nat) : Nat :=(usc (m + 1024) hi lo (sfS m e).toNat - sfOdd m) / 4
def sfMid (m : Nat) (e : Int) (hi lo : Nat) : Nat :=(usc m hi lo (sfS m e).toNat + 1 + usc m hi lo (sfS m e).toNat / 4 % 2) / 4
def sfD (m : Nat) (e : Int) (hi lo : Nat) : Nat × Int :=
  if sfLow m e hi lo ≤ sfTop m e hi lo / 10 * 10 then (sfTop m e hi lo / 10,-(sfP m e - 1))
  else (if sfLow m e hi lo < sfTop m e hi lo then sfMid m e hi lo else sfLow m e hi lo,-sfP m e)
structure SfOk (m : Nat) (e : Int) (hi lo : Nat) : Prop where
  m1 : 9223372036854775808 ≤ m
  m2 : m ≤ 18446744073709549568
  e1 : -1085 < e
  e2 : e ≤ 1000
  s1 : 0 ≤ sfS m e
  s2 : sfS m e < 64
  h : hi < W64
  l : lo < W64
  u1 : usc (sfMin m) hi lo (sfS m e).toNat < 4000000000000000000
  u2 : usc (m + 1024) hi lo (sfS m e).toNat < 4000000000000000000
  u3 : usc m hi lo (sfS m e).toNat < 4000000000000000000
  u4 : 1 ≤ usc (m + 1024) hi lo (sfS m e).toNat
  p1 : -348 ≤ sfP m e
  p2 : sfP m e < 348
theorem and1i (x : Nat) (hx : x < 9223372036854775808) : bits .and .i64 (x : Int) 1 = ((x % 2 : Nat) : Int) :=by
  simp only [bits,show (1 : Int) = ((1 : Nat) : Int) from rfl,BitVec.ofInt_natCast,BitVec.toNat_and,BitVec.toNat_ofNat]
  show IntKind.i64.wrap ((x % 2 ^ 64 &&& 1 % 2 ^ 64 : Nat) : Int) = _
  rw [Nat.mod_eq_of_lt (by omega : x < 2 ^ 64),show 1 % 2 ^ 64 = 2 ^ 1 - 1 from rfl,Nat.and_two_pow_sub_one_eq_mod,show 2 ^ 1 = 2 from rfl]
  exact wrap_i64_in _ (by omega) (by omega)
theorem sc_made (w : World) (x y z : Value) (t : TypeId) : (w.alloc (.cells #[x,y,z] t)).cell? ⟨w.heap.size,0,none⟩ = some x ∧ (w.alloc (.cells #[x,y,z] t)).cell? ⟨w.heap.size,1,none⟩ = some y ∧ (w.alloc (.cells #[x,y,z] t)).cell? ⟨w.heap.size,2,none⟩ = some z :=by
  refine ⟨?_,?_,?_⟩ <;> (rw [World.cell?_alloc_at _ _ _ _ rfl];rfl)
theorem shortFloat (w : World) (m i hi lo : Nat) (e : Int) (ok : SfOk m e hi lo) (hw : 8 < w.heap.size) (hi1 : sfP m e + 348 = (i : Int)) (ht : TabAt w i hi lo) :
    Calls Tryz.prog 204 #[.int .u64 m,.int .i64 e] w fun r w' => r = .returned (.tuple #[.int .u64 (sfD m e hi lo).1,.int .i64 (sfD m e hi lo).2]) ∧ Kept w w' :=by
  obtain ⟨s,hs⟩ : ∃ s : Nat,sfS m e = (s : Int) :=⟨(sfS m e).toNat,by have :=ok.s1;omega⟩
  have hst : (sfS m e).toNat = s :=by omega
  have o1 :=ok.m1
  have o2 :=ok.m2
  have o3 :=ok.e1
  have o4 :=ok.e2
  have o5 :=ok.s2
  have o6 :=ok.u1
  have o7 :=ok.u2
  have o8 :=ok.u3
  have o9 :=ok.u4
  have o10 :=ok.p1
  have o11 :=ok.p2
  have hD : sfD m e hi lo = if sfLow m e hi lo ≤ sfTop m e hi lo / 10 * 10 then (sfTop m e hi lo / 10,-(sfP m e - 1)) else (if sfLow m e hi lo < sfTop m e hi lo then sfMid m e hi lo else sfLow m e hi lo,-sfP m e) :=rfl
  have hL : sfLow m e hi lo = (usc (sfMin m) hi lo s + sfOdd m + 3) / 4 :=by unfold sfLow;rw [hst]
  have hT : sfTop m e hi lo = (usc (m + 1024) hi lo s - sfOdd m) / 4 :=by unfold sfTop;rw [hst]
  have hM : sfMid m e hi lo = (usc m hi lo s + 1 + usc m hi lo s / 4 % 2) / 4 :=by unfold sfMid;rw [hst]
  rw [hst] at o6 o7 o8 o9
  rw [hs] at o5
  obtain ⟨p,hp⟩ : ∃ p,sfP m e = p :=⟨_,rfl⟩
  have hlp : -(e + p * 108853 / 32768 + 3) = (s : Int) :=by rw [← hs,← hp];rfl
  obtain ⟨odd,hod⟩ : ∃ o,sfOdd m = o :=⟨_,rfl⟩
  have hodb : odd < 2 :=by rw [← hod];exact Nat.mod_lt _ (by decide)
  obtain ⟨mn,hmn⟩ : ∃ o,sfMin m = o :=⟨_,rfl⟩
  rw [hod] at hL hT
  rw [hmn] at hL o6
  rw [hp] at hD hi1 o10 o11
  have hmnb : mn < W64 :=by rw [← hmn];unfold sfMin W64;split <;> omega
  have q1 :=fun W pc (hc : Scale W pc hi lo s) => uscale W pc mn hi lo s hmnb ok.h ok.l (by omega) hc
  have q2 :=fun W pc (hc : Scale W pc hi lo s) => uscale W pc (m + 1024) hi lo s (by unfold W64;omega) ok.h ok.l (by omega) hc
  have q3 :=fun W pc (hc : Scale W pc hi lo s) => uscale W pc m hi lo s (by unfold W64;omega) ok.h ok.l (by omega) hc
  have hpre :=fun W pc (ht : TabAt W i hi lo) {u0 u1 u2 : Value} (c0 : W.cell? ⟨pc,0,none⟩ = some u0) (c1 : W.cell? ⟨pc,1,none⟩ = some u1) (c2 : W.cell? ⟨pc,2,none⟩ = some u2) (nf : NF W pc) (hpc : 8 < pc) => prescale W pc i hi lo s e p (p * 108853 / 32768) ht hi1 (by omega) hlp (by omega) (by omega) (by omega) (by omega) c0 c1 c2 nf hpc
  have hl2 :=log2Pow10 p (by omega) (by omega)
  clear ok hs hst hlp
  obtain ⟨a,ha⟩ : ∃ a,usc mn hi lo s = a :=⟨_,rfl⟩
  obtain ⟨b,hb⟩ : ∃ a,usc (m + 1024) hi lo s = a :=⟨_,rfl⟩
  obtain ⟨c,hc⟩ : ∃ a,usc m hi lo s = a :=⟨_,rfl⟩
  rw [ha] at q1 o6 hL
  rw [hb] at q2 o7 o9 hT
  rw [hc] at q3 o8 hM
  have n1 :=nudge a (a + odd) odd (by omega) (by omega) (by omega) (by omega)
  have n2 :=uceil (a + odd) (by omega)
  have n3 :=nudge b (b - odd) (-(odd : Int)) (by omega) (by omega) (by omega) (by omega)
  have n4 :=ufloor (b - odd) (by omega)
  have n5 :=uround c (by omega)
  rw [← hL] at n2
  rw [← hT] at n4
  rw [← hM] at n5
  have hLb : sfLow m e hi lo < 2000000000000000000 :=by rw [hL];omega
  have hTb : sfTop m e hi lo < 2000000000000000000 :=by rw [hT];omega
  generalize a + odd = a1 at *
  generalize b - odd = b1 at *
  rw [hD]
  clear hL hT hM ha hb hc hD
  generalize sfLow m e hi lo = dm at *
  generalize sfTop m e hi lo = dx at *
  generalize sfMid m e hi lo = md at *
  have k1 : (dx : Int) / 10 = ((dx / 10 : Nat) : Int) :=by omega
  have k2 : (dx : Int).tdiv 10 = ((dx / 10 : Nat) : Int) :=by rw [Int.tdiv_eq_ediv_of_nonneg (by omega)];exact k1
  have k3 : IntKind.u64.wrap (((dx / 10 : Nat) : Int) * 10) = ((dx / 10 * 10 : Nat) : Int) :=by rw [wrap_u64_in _ (by omega) (by omega)];omega
  have k4 :=wrap_i64_in (p - 1) (by omega) (by omega)
  have k5 :=wrap_i64_in (-(p - 1)) (by omega) (by omega)
  have k6 :=wrap_i64_in (-p) (by omega) (by omega)
  have kb :=wrap_i64_in (e + 11) (by omega) (by omega)
  generalize hd0 : dx / 10 = d0 at *
  have HD :=Lib.hid hd0
  clear hd0
  obtain ⟨d10,hd10⟩ : ∃ d,d0 * 10 = d :=⟨_,rfl⟩
  rw [hd10] at k3 ⊢
  clear hd10
  have HT :=Lib.hid ht
  clear ht
  have hmx : IntKind.u64.wrap ((m : Int) + 1024) = ((m + 1024 : Nat) : Int) :=by rw [wrap_u64_in _ (by omega) (by omega)];omega
  by_cases hpw : m = 9223372036854775808
  · subst hpw
    have hm1 : IntKind.u64.wrap ((9223372036854775808 : Int) - 512) = (mn : Int) :=by
      rw [← hmn];unfold sfMin;rw [if_pos rfl];rfl
    have hm2 : (9223372036854775296 : Int) = (mn : Int) :=by rw [← hmn];unfold sfMin;rw [if_pos rfl];rfl
    have hpp : -(((e + 11) * 631305 - 261663) / 2097152) = p :=by rw [← hp];unfold sfP;rw [if_pos rfl]
    have hsk :=skewed (e + 11) (by omega) (by omega)
    have hand : bits .and .i64 (4503599627370496 : Int) 1 = (odd : Int) :=by rw [← hod];rfl
    have e9 : ((9223372036854775808 + 1024 : Nat) : Int) = 9223372036854776832 :=rfl
    have e8 : ((9223372036854775808 : Nat) : Int) = 9223372036854775808 :=rfl
    simp only [e9] at q2
    simp only [e8] at q3
    have hee : (-1085 < e) = True :=eq_true o3
    generalize ((e + 11) * 631305 - 261663) / 2097152 = x10 at *
    clear hmn hod hp hi1 hmnb
    by_cases h1 : dm ≤ d10
    · rw [if_pos h1]
      go_enter Tryz.func204,Tryz.ntmps204
      go_wp2_with (first
            | (go_at_call 235;(with_reducible refine (hsk _).mono ?_);rintro r w1 ⟨rfl,hw1⟩;rw [hw1];clear hw1)
            | (go_at_call 237;(with_reducible refine (hl2 _).mono ?_);rintro r w1 ⟨rfl,hw1⟩;rw [hw1];clear hw1)
            | (go_at_call 236;refine (hpre _ w.heap.size (HT.out.kept (Chg.alloc _ _ _)) (sc_made w _ _ _ _).1 (sc_made w _ _ _ _).2.1 (sc_made w _ _ _ _).2.2 (NF.made w _ _) hw).mono ?_;rintro r w1 ⟨rfl,sc,k⟩;have K :=Lib.hid ((Chg.alloc _ _ _ : Kept w _).keptNew k fun b _ h => by omega);clear k)
            | (go_at_call 238;first
                | ((with_reducible refine (q1 _ _ sc).mono ?_);rintro r w1 ⟨rfl,k⟩;have sc :=sc.kept k;have K :=Lib.hid (kt K.out k);clear k)
                | ((with_reducible refine (q2 _ _ sc).mono ?_);rintro r w1 ⟨rfl,k⟩;have sc :=sc.kept k;have K :=Lib.hid (kt K.out k);clear k)
                | ((with_reducible refine (q3 _ _ sc).mono ?_);rintro r w1 ⟨rfl,k⟩;have sc :=sc.kept k;have K :=Lib.hid (kt K.out k);clear k))
            | (go_at_call 239;first
                | ((with_reducible refine (n1 _).mono ?_);rintro r w1 ⟨rfl,hw1⟩;rw [hw1];clear hw1)
                | ((with_reducible refine (n3 _).mono ?_);rintro r w1 ⟨rfl,hw1⟩;rw [hw1];clear hw1))
            | (go_at_call 240;(with_reducible refine (n2 _).mono ?_);rintro r w1 ⟨rfl,hw1⟩;rw [hw1];clear hw1)
            | (go_at_call 241;(with_reducible refine (n4 _).mono ?_);rintro r w1 ⟨rfl,hw1⟩;rw [hw1];clear hw1)
            | (go_at_call 242;(with_reducible refine (n5 _).mono ?_);rintro r w1 ⟨rfl,hw1⟩;rw [hw1];clear hw1))
      first | go_ret2 | refine ⟨_,results_tmp2 rfl _ _ _,?_⟩
      exact ⟨rfl,K.out⟩
    · rw [if_neg h1]
      by_cases h2 : dm < dx
      · rw [if_pos h2]
        go_enter Tryz.func204,Tryz.ntmps204
        go_wp2_with (first
              | (go_at_call 235;(with_reducible refine (hsk _).mono ?_);rintro r w1 ⟨rfl,hw1⟩;rw [hw1];clear hw1)
              | (go_at_call 237;(with_reducible refine (hl2 _).mono ?_);rintro r w1 ⟨rfl,hw1⟩;rw [hw1];clear hw1)
              | (go_at_call 236;refine (hpre _ w.heap.size (HT.out.kept (Chg.alloc _ _ _)) (sc_made w _ _ _ _).1 (sc_made w _ _ _ _).2.1 (sc_made w _ _ _ _).2.2 (NF.made w _ _) hw).mono ?_;rintro r w1 ⟨rfl,sc,k⟩;have K :=Lib.hid ((Chg.alloc _ _ _ : Kept w _).keptNew k fun b _ h => by omega);clear k)
              | (go_at_call 238;first
                  | ((with_reducible refine (q1 _ _ sc).mono ?_);rintro r w1 ⟨rfl,k⟩;have sc :=sc.kept k;have K :=Lib.hid (kt K.out k);clear k)
                  | ((with_reducible refine (q2 _ _ sc).mono ?_);rintro r w1 ⟨rfl,k⟩;have sc :=sc.kept k;have K :=Lib.hid (kt K.out k);clear k)
                  | ((with_reducible refine (q3 _ _ sc).mono ?_);rintro r w1 ⟨rfl,k⟩;have sc :=sc.kept k;have K :=Lib.hid (kt K.out k);clear k))
              | (go_at_call 239;first
                  | ((with_reducible refine (n1 _).mono ?_);rintro r w1 ⟨rfl,hw1⟩;rw [hw1];clear hw1)
                  | ((with_reducible refine (n3 _).mono ?_);rintro r w1 ⟨rfl,hw1⟩;rw [hw1];clear hw1))
              | (go_at_call 240;(with_reducible refine (n2 _).mono ?_);rintro r w1 ⟨rfl,hw1⟩;rw [hw1];clear hw1)
              | (go_at_call 241;(with_reducible refine (n4 _).mono ?_);rintro r w1 ⟨rfl,hw1⟩;rw [hw1];clear hw1)
              | (go_at_call 242;(with_reducible refine (n5 _).mono ?_);rintro r w1 ⟨rfl,hw1⟩;rw [hw1];clear hw1))
        first | go_ret2 | refine ⟨_,results_tmp2 rfl _ _ _,?_⟩
        exact ⟨rfl,K.out⟩
      · rw [if_neg h2]
        go_enter Tryz.func204,Tryz.ntmps204
        go_wp2_with (first
              | (go_at_call 235;(with_reducible refine (hsk _).mono ?_);rintro r w1 ⟨rfl,hw1⟩;rw [hw1];clear hw1)
              | (go_at_call 237;(with_reducible refine (hl2 _).mono ?_);rintro r w1 ⟨rfl,hw1⟩;rw [hw1];clear hw1)
              | (go_at_call 236;refine (hpre _ w.heap.size (HT.out.kept (Chg.alloc _ _ _)) (sc_made w _ _ _ _).1 (sc_made w _ _ _ _).2.1 (sc_made w _ _ _ _).2.2 (NF.made w _ _) hw).mono ?_;rintro r w1 ⟨rfl,sc,k⟩;have K :=Lib.hid ((Chg.alloc _ _ _ : Kept w _).keptNew k fun b _ h => by omega);clear k)
              | (go_at_call 238;first
                  | ((with_reducible refine (q1 _ _ sc).mono ?_);rintro r w1 ⟨rfl,k⟩;have sc :=sc.kept k;have K :=Lib.hid (kt K.out k);clear k)
                  | ((with_reducible refine (q2 _ _ sc).mono ?_);rintro r w1 ⟨rfl,k⟩;have sc :=sc.kept k;have K :=Lib.hid (kt K.out k);clear k)
                  | ((with_reducible refine (q3 _ _ sc).mono ?_);rintro r w1 ⟨rfl,k⟩;have sc :=sc.kept k;have K :=Lib.hid (kt K.out k);clear k))
              | (go_at_call 239;first
                  | ((with_reducible refine (n1 _).mono ?_);rintro r w1 ⟨rfl,hw1⟩;rw [hw1];clear hw1)
                  | ((with_reducible refine (n3 _).mono ?_);rintro r w1 ⟨rfl,hw1⟩;rw [hw1];clear hw1))
              | (go_at_call 240;(with_reducible refine (n2 _).mono ?_);rintro r w1 ⟨rfl,hw1⟩;rw [hw1];clear hw1)
              | (go_at_call 241;(with_reducible refine (n4 _).mono ?_);rintro r w1 ⟨rfl,hw1⟩;rw [hw1];clear hw1)
              | (go_at_call 242;(with_reducible refine (n5 _).mono ?_);rintro r w1 ⟨rfl,hw1⟩;rw [hw1];clear hw1))
        first | go_ret2 | refine ⟨_,results_tmp2 rfl _ _ _,?_⟩
        exact ⟨rfl,K.out⟩
  · have hm1 : IntKind.u64.wrap ((m : Int) - 1024) = (mn : Int) :=by
      rw [← hmn];unfold sfMin;rw [if_neg hpw,wrap_u64_in _ (by omega) (by omega)];omega
    have hpp : -((e + 11) * 78913 / 262144) = p :=by rw [← hp];unfold sfP;rw [if_neg hpw]
    have hl10 :=log10Pow2 (e + 11) (by omega) (by omega)
    have hsh : (m : Int) / 2048 = ((m / 2048 : Nat) : Int) :=by omega
    have hcv :=wrap_i64_in ((m / 2048 : Nat) : Int) (by omega) (by omega)
    have hand : bits .and .i64 ((m / 2048 : Nat) : Int) 1 = (odd : Int) :=by
      rw [← hod]
      exact and1i (m / 2048) (by omega)
    have hne : ((m : Int) == 9223372036854775808) = false :=by simp only [beq_eq_false_iff_ne];omega
    generalize (e + 11) * 78913 / 262144 = x10 at *
    generalize m / 2048 = ms at *
    generalize ((m + 1024 : Nat) : Int) = MX at *
    generalize (m : Int) = M at *
    clear hmn hod hp hi1 hmnb
    by_cases h1 : dm ≤ d10
    · rw [if_pos h1]
      go_enter Tryz.func204,Tryz.ntmps204
      go_wp2_with (first
            | (go_at_call 199;(with_reducible refine (hl10 _).mono ?_);rintro r w1 ⟨rfl,hw1⟩;rw [hw1];clear hw1)
            | (go_at_call 237;(with_reducible refine (hl2 _).mono ?_);rintro r w1 ⟨rfl,hw1⟩;rw [hw1];clear hw1)
            | (go_at_call 236;refine (hpre _ w.heap.size (HT.out.kept (Chg.alloc _ _ _)) (sc_made w _ _ _ _).1 (sc_made w _ _ _ _).2.1 (sc_made w _ _ _ _).2.2 (NF.made w _ _) hw).mono ?_;rintro r w1 ⟨rfl,sc,k⟩;have K :=Lib.hid ((Chg.alloc _ _ _ : Kept w _).keptNew k fun b _ h => by omega);clear k)
            | (go_at_call 238;first
                | ((with_reducible refine (q1 _ _ sc).mono ?_);rintro r w1 ⟨rfl,k⟩;have sc :=sc.kept k;have K :=Lib.hid (kt K.out k);clear k)
                | ((with_reducible refine (q2 _ _ sc).mono ?_);rintro r w1 ⟨rfl,k⟩;have sc :=sc.kept k;have K :=Lib.hid (kt K.out k);clear k)
                | ((with_reducible refine (q3 _ _ sc).mono ?_);rintro r w1 ⟨rfl,k⟩;have sc :=sc.kept k;have K :=Lib.hid (kt K.out k);clear k))
            | (go_at_call 239;first
                | ((with_reducible refine (n1 _).mono ?_);rintro r w1 ⟨rfl,hw1⟩;rw [hw1];clear hw1)
                | ((with_reducible refine (n3 _).mono ?_);rintro r w1 ⟨rfl,hw1⟩;rw [hw1];clear hw1))
            | (go_at_call 240;(with_reducible refine (n2 _).mono ?_);rintro r w1 ⟨rfl,hw1⟩;rw [hw1];clear hw1)
            | (go_at_call 241;(with_reducible refine (n4 _).mono ?_);rintro r w1 ⟨rfl,hw1⟩;rw [hw1];clear hw1)
            | (go_at_call 242;(with_reducible refine (n5 _).mono ?_);rintro r w1 ⟨rfl,hw1⟩;rw [hw1];clear hw1))
      first | go_ret2 | refine ⟨_,results_tmp2 rfl _ _ _,?_⟩
      exact ⟨rfl,K.out⟩
    · rw [if_neg h1]
      by_cases h2 : dm < dx
      · rw [if_pos h2]
        go_enter Tryz.func204,Tryz.ntmps204
        go_wp2_with (first
              | (go_at_call 199;(with_reducible refine (hl10 _).mono ?_);rintro r w1 ⟨rfl,hw1⟩;rw [hw1];clear hw1)
              | (go_at_call 237;(with_reducible refine (hl2 _).mono ?_);rintro r w1 ⟨rfl,hw1⟩;rw [hw1];clear hw1)
              | (go_at_call 236;refine (hpre _ w.heap.size (HT.out.kept (Chg.alloc _ _ _)) (sc_made w _ _ _ _).1 (sc_made w _ _ _ _).2.1 (sc_made w _ _ _ _).2.2 (NF.made w _ _) hw).mono ?_;rintro r w1 ⟨rfl,sc,k⟩;have K :=Lib.hid ((Chg.alloc _ _ _ : Kept w _).keptNew k fun b _ h => by omega);clear k)
              | (go_at_call 238;first
                  | ((with_reducible refine (q1 _ _ sc).mono ?_);rintro r w1 ⟨rfl,k⟩;have sc :=sc.kept k;have K :=Lib.hid (kt K.out k);clear k)
                  | ((with_reducible refine (q2 _ _ sc).mono ?_);rintro r w1 ⟨rfl,k⟩;have sc :=sc.kept k;have K :=Lib.hid (kt K.out k);clear k)
                  | ((with_reducible refine (q3 _ _ sc).mono ?_);rintro r w1 ⟨rfl,k⟩;have sc :=sc.kept k;have K :=Lib.hid (kt K.out k);clear k))
              | (go_at_call 239;first
                  | ((with_reducible refine (n1 _).mono ?_);rintro r w1 ⟨rfl,hw1⟩;rw [hw1];clear hw1)
                  | ((with_reducible refine (n3 _).mono ?_);rintro r w1 ⟨rfl,hw1⟩;rw [hw1];clear hw1))
              | (go_at_call 240;(with_reducible refine (n2 _).mono ?_);rintro r w1 ⟨rfl,hw1⟩;rw [hw1];clear hw1)
              | (go_at_call 241;(with_reducible refine (n4 _).mono ?_);rintro r w1 ⟨rfl,hw1⟩;rw [hw1];clear hw1)
              | (go_at_call 242;(with_reducible refine (n5 _).mono ?_);rintro r w1 ⟨rfl,hw1⟩;rw [hw1];clear hw1))
        first | go_ret2 | refine ⟨_,results_tmp2 rfl _ _ _,?_⟩
        exact ⟨rfl,K.out⟩
      · rw [if_neg h2]
        go_enter Tryz.func204,Tryz.ntmps204
        go_wp2_with (first
              | (go_at_call 199;(with_reducible refine (hl10 _).mono ?_);rintro r w1 ⟨rfl,hw1⟩;rw [hw1];clear hw1)
              | (go_at_call 237;(with_reducible refine (hl2 _).mono ?_);rintro r w1 ⟨rfl,hw1⟩;rw [hw1];clear hw1)
              | (go_at_call 236;refine (hpre _ w.heap.size (HT.out.kept (Chg.alloc _ _ _)) (sc_made w _ _ _ _).1 (sc_made w _ _ _ _).2.1 (sc_made w _ _ _ _).2.2 (NF.made w _ _) hw).mono ?_;rintro r w1 ⟨rfl,sc,k⟩;have K :=Lib.hid ((Chg.alloc _ _ _ : Kept w _).keptNew k fun b _ h => by omega);clear k)
              | (go_at_call 238;first
                  | ((with_reducible refine (q1 _ _ sc).mono ?_);rintro r w1 ⟨rfl,k⟩;have sc :=sc.kept k;have K :=Lib.hid (kt K.out k);clear k)
                  | ((with_reducible refine (q2 _ _ sc).mono ?_);rintro r w1 ⟨rfl,k⟩;have sc :=sc.kept k;have K :=Lib.hid (kt K.out k);clear k)
                  | ((with_reducible refine (q3 _ _ sc).mono ?_);rintro r w1 ⟨rfl,k⟩;have sc :=sc.kept k;have K :=Lib.hid (kt K.out k);clear k))
              | (go_at_call 239;first
                  | ((with_reducible refine (n1 _).mono ?_);rintro r w1 ⟨rfl,hw1⟩;rw [hw1];clear hw1)
                  | ((with_reducible refine (n3 _).mono ?_);rintro r w1 ⟨rfl,hw1⟩;rw [hw1];clear hw1))
              | (go_at_call 240;(with_reducible refine (n2 _).mono ?_);rintro r w1 ⟨rfl,hw1⟩;rw [hw1];clear hw1)
              | (go_at_call 241;(with_reducible refine (n4 _).mono ?_);rintro r w1 ⟨rfl,hw1⟩;rw [hw1];clear hw1)
              | (go_at_call 242;(with_reducible refine (n5 _).mono ?_);rintro r w1 ⟨rfl,hw1⟩;rw [hw1];clear hw1))
        first | go_ret2 | refine ⟨_,results_tmp2 rfl _ _ _,?_⟩
        exact ⟨rfl,K.out⟩
end Go.Proofs.YtfmmdamgcpiciaaGreatDoor
namespace Go.Proofs.YtfmmdamgcpiciaaGreatDoor
open Go Go.RowKit
def TenAt (w : World) : Prop :=∀ j : Nat,j < 20 → w.cell? ⟨7,j,none⟩ = some (.int .u64 (10 ^ j : Nat))
theorem TenAt.kept {w w' : World} (h : TenAt w) (k : Kept w w') : TenAt w' :=fun j hj => Kept.at k (h j hj)
def nDig (d : Nat) : Nat :=Lib.bitLen d * 78913 / 262144 + (if 10 ^ (Lib.bitLen d * 78913 / 262144) ≤ d then 1 else 0)
theorem numDigits (w : World) (d : Nat) (hd : d < W64) (ht : TenAt w) : Calls Tryz.prog 198 #[.int .u64 d] w fun e w' => e = .returned (.int .i64 (nDig d : Nat)) ∧ Kept w w' :=by
  have hl :=len64 d hd
  have hb :=bitLen_64 hd
  obtain ⟨L,hL⟩ : ∃ L,Lib.bitLen d = L :=⟨_,rfl⟩
  have hn : nDig d = L * 78913 / 262144 + (if 10 ^ (L * 78913 / 262144) ≤ d then 1 else 0) :=by unfold nDig;rw [hL]
  rw [hL] at hl hb
  have hg :=log10Pow2 (L : Int) (by omega) (by omega)
  have e1 : (L : Int) * 78913 / 262144 = ((L * 78913 / 262144 : Nat) : Int) :=by omega
  rw [e1] at hg
  rw [hn]
  have hq : L * 78913 / 262144 < 20 :=by omega
  generalize L * 78913 / 262144 = q at *
  have c :=ht q hq
  generalize 10 ^ q = P at *
  have hbo : ∀ W,Calls Tryz.prog 244 #[.bool (decide ((P : Int) ≤ (d : Int)))] W fun e w' => e = .returned (.int .i64 ((if P ≤ d then 1 else 0 : Nat) : Int)) ∧ w' = W :=fun W => by
    have :=boolTo 244 (decide ((P : Int) ≤ (d : Int))) W (.inr rfl)
    have e : ((P : Int) ≤ (d : Int)) = (P ≤ d) :=propext ⟨fun h => by omega,fun h => by omega⟩
    simp only [e] at this ⊢
    by_cases h : P ≤ d <;> simpa [h] using this
  obtain ⟨g,hg2⟩ : ∃ g,(if P ≤ d then 1 else 0 : Nat) = g :=⟨_,rfl⟩
  have hgb : g ≤ 1 :=by rw [← hg2];split <;> omega
  rw [hg2] at hbo ⊢
  have e3 :=wrap_i64_in ((q : Int) + (g : Int)) (by omega) (by omega)
  clear hg2 hn hL hd e1
  generalize (d : Int) = D at *
  generalize (P : Int) = PI at *
  go_enter Tryz.func198,Tryz.ntmps198
  go_wp2_with (first
    | refine ⟨by kernel_rfl,?_⟩
    | (go_at_call 195;(with_reducible refine (hl _).mono ?_);rintro r w1 ⟨rfl,hw1⟩;rw [hw1];clear hw1)
    | (go_at_call 199;(with_reducible refine (hg _).mono ?_);rintro r w1 ⟨rfl,hw1⟩;rw [hw1];clear hw1)
    | (go_at_call 244;(with_reducible refine (hbo _).mono ?_);rintro r w1 ⟨rfl,hw1⟩;rw [hw1];clear hw1))
  refine ⟨_,results_tmp rfl _ _ _,?_⟩
  exact ⟨rfl,Chg.refl _ _⟩
end Go.Proofs.YtfmmdamgcpiciaaGreatDoor
namespace Go.Proofs.YtfmmdamgcpiciaaGreatDoor
open Go Go.RowKit
def renB : Go.Shelf.Ren :={ f :=fun n => if n = 285 then 243 else n,t :=fun n => if n = 37 then 76 else if n = 51 then 72 else if n = 53 then 69 else n,g :=fun n => n }
theorem laysB : Lays.n285 Tryz.prog renB :=
  { mixed :=by kernel_rfl,
    f285 :=by kernel_rfl,
    t0 :=by kernel_rfl,
    a0 :=fun w => by kernel_rfl,
    z0 :=fun w => by kernel_rfl,
    v0 :=fun w => by kernel_rfl,
    t3 :=by kernel_rfl,
    a3 :=fun w => by kernel_rfl,
    z3 :=fun w => by kernel_rfl,
    v3 :=fun w => by kernel_rfl,
    t4 :=by kernel_rfl,
    a4 :=fun w => by kernel_rfl,
    z4 :=fun w => by kernel_rfl,
    v4 :=fun w => by kernel_rfl,
    t5 :=by kernel_rfl,
    a5 :=fun w => by kernel_rfl,
    z5 :=fun w => by kernel_rfl,
    v5 :=fun w => by kernel_rfl,
    t9 :=by kernel_rfl,
    a9 :=fun w => by kernel_rfl,
    z9 :=fun w => by kernel_rfl,
    v9 :=fun w => by kernel_rfl,
    t37 :=by kernel_rfl,
    a37 :=fun w => by kernel_rfl,
    z37 :=fun w => by kernel_rfl,
    v37 :=fun w => by kernel_rfl,
    t51 :=by kernel_rfl,
    a51 :=fun w => by kernel_rfl,
    z51 :=fun w => by kernel_rfl,
    v51 :=fun w => by kernel_rfl,
    t53 :=by kernel_rfl,
    a53 :=fun w => by kernel_rfl,
    z53 :=fun w => by kernel_rfl,
    v53 :=fun w => by kernel_rfl }
abbrev encB : UInt8 → Value :=fun b => Value.int .u8 (b.toNat : Int)
theorem chg_row {w : World} {blk off : Nat} {d0 : Array UInt8} (h0 : Go.Sort.Holds encB w blk off d0) (d : Array UInt8) : ∀ (k : Nat) (e : Array UInt8),k ≤ d0.size → e.size = d0.size → (∀ j,j < d0.size → k ≤ j → e[j]! = d0[j]!) → Chg w (Go.Sort.putRow encB w blk off e) (In blk off k) :=by
  intro k
  induction k with
  | zero =>
    intro e _ he hj
    have : e = d0 :=by
      apply Array.ext he
      intro i h1 h2
      have :=hj i h2 (Nat.zero_le _)
      rwa [getElem!_pos e i h1,getElem!_pos d0 i h2] at this
    rw [this,Go.Sort.putRow_self _ _ _ _ _ h0]
    exact Chg.refl _ _
  | succ k ih =>
    intro e hk he hj
    have hke : k < e.size :=by omega
    have h1 :=ih (e.setIfInBounds k d0[k]!) (by omega) (by simpa using he) fun j hj1 hj2 => by
      rcases Nat.eq_or_lt_of_le hj2 with rfl | hlt
      · exact Go.Sort.getElem!_set_same e k _ hke
      · rw [getElem!_pos _ j (by simp;omega),Array.getElem_setIfInBounds,if_neg (by omega)]
        have :=hj j hj1 (by omega)
        rwa [getElem!_pos e j (by omega)] at this
    have h2 :=Go.Sort.putRow_set encB w blk off (e.setIfInBounds k d0[k]!) k e[k]! (by simpa using hke)
    have h3 : (e.setIfInBounds k d0[k]!).setIfInBounds k e[k]! = e :=by
      apply Array.ext_getElem?
      intro i
      by_cases h : i = k
      · subst h
        rw [Array.getElem?_setIfInBounds_self_of_lt (by simpa using hke),getElem!_pos e i hke,Array.getElem?_eq_getElem hke]
      · rw [Array.getElem?_setIfInBounds_ne (by omega),Array.getElem?_setIfInBounds_ne (by omega)]
    rw [h3] at h2
    rw [← h2]
    exact h1.store _
def Bytes (w : World) (b o : Nat) (xs : List Nat) : Prop :=∀ (j x : Nat),xs[j]? = some x → w.cell? ⟨b,o + j,none⟩ = some (.int .u8 (x : Int)) ∧ w.frozen? ⟨b,o + j,none⟩ = false
def digs (u n : Nat) : List Nat :=(List.range n).map fun t => 48 + u / 10 ^ (n - 1 - t) % 10
theorem digs_len (u n : Nat) : (digs u n).length = n :=by simp [digs]
theorem digs_at {u n t : Nat} (h : t < n) : (digs u n)[t]? = some (48 + u / 10 ^ (n - 1 - t) % 10) :=by simp [digs,h]
theorem formatBase10 (w : World) (blk off cap u nd : Nat) (hz : ∀ j,j < nd → w.cell? ⟨blk,off + j,none⟩ = some (.int .u8 0) ∧ w.frozen? ⟨blk,off + j,none⟩ = false) (hu : u < 10 ^ nd) (hu64 : u < W64) (hsz : nd < 4611686018427387904) :
    Calls Tryz.prog 243 #[.slice (some ⟨blk,off,none⟩) nd cap,.int .u64 u] w fun e w' => e = .returned (.tuple #[]) ∧ Bytes w' blk off (digs u nd) ∧ Chg w w' (In blk off nd) :=by
  have hs : (Array.replicate nd (0 : UInt8)).size = nd :=by simp
  have hH : Go.Sort.Holds encB w blk off (Array.replicate nd (0 : UInt8)) :=fun j hj => by
    have hj' : j < nd :=by simpa using hj
    rw [getElem!_pos _ j hj]
    rw [Array.getElem_replicate]
    exact hz j hj'
  have h :=Any.internal_strconv_formatBase10 laysB blk off cap u (Array.replicate nd (0 : UInt8)) w hH (by rw [hs];exact hu) hu64 (by rw [hs];exact hsz)
  rw [hs] at h
  refine h.mono ?_
  rintro e w' ⟨rfl,n,v',dk,rfl,hI⟩
  have hc :=(chg_row hH dk nd dk (by simp) (by rw [hI.size,hs]) (fun j h1 h2 => by simp at h1;omega)).drewN n
  have hr :=Go.Sort.holds_putRow encB w blk off _ dk hH (by rw [hI.size,hs])
  refine ⟨rfl,fun j x hx => ?_,hc⟩
  have hj : j < nd :=by
    have :=(List.getElem?_eq_some_iff.1 hx).1
    rwa [digs_len] at this
  rw [digs_at hj] at hx
  obtain rfl :=Option.some.inj hx
  have h1 :=hr j (by rw [hI.size];exact hj)
  have h2 :=hI.done j (Nat.zero_le _) hj
  refine ⟨?_,h1.2⟩
  refine h1.1.trans ?_
  show some (Value.int .u8 ((dk[j]!).toNat : Int)) = _
  rw [h2]
  unfold Lib.dg
  congr 3
  rw [UInt8.toNat_ofNat',Nat.mod_eq_of_lt]
  have :=Nat.mod_lt (u / 10 ^ (nd - 1 - j)) (show 0 < 10 by decide)
  omega
end Go.Proofs.YtfmmdamgcpiciaaGreatDoor
namespace Go.Proofs.YtfmmdamgcpiciaaGreatDoor
open Go Go.RowKit
def strip (xs : List Nat) : Nat :=(xs.reverse.dropWhile (· == 48)).length
theorem strip_snoc (xs : List Nat) (x : Nat) : strip (xs ++ [x]) = if x = 48 then strip xs else xs.length + 1 :=by
  unfold strip
  rw [List.reverse_append,List.reverse_singleton,List.singleton_append,List.dropWhile_cons]
  by_cases h : x = 48
  · subst h;simp
  · simp [h]
theorem take_succ {xs : List Nat} {k x : Nat} (h : xs[k]? = some x) : xs.take (k + 1) = xs.take k ++ [x] :=by
  rw [List.take_add_one,h];rfl
theorem setDigits (w : World) (b o n cap u nd : Nat) (p : Int) (hz : ∀ j,j < nd → w.cell? ⟨b,o + j,none⟩ = some (.int .u8 0) ∧ w.frozen? ⟨b,o + j,none⟩ = false) (hu : u < 10 ^ nd) (hu64 : u < W64) (hn : nd ≤ n) (hnc : n ≤ cap) (hsz : n < 1000) (hc : cap < 1000000) (p1 : -1000 ≤ p) (p2 : p ≤ 1000) :
    Calls Tryz.prog 197 #[.slice (some ⟨b,o,none⟩) n cap,.int .u64 u,.int .i64 p,.int .i64 nd] w fun e w' => e = .returned (.tuple #[.int .i64 ((nd : Int) + p),.int .i64 (strip (digs u nd) : Nat)]) ∧ Bytes w' b o (digs u nd) ∧ Chg w w' (In b o nd) :=by
  have hf :=fun cap => formatBase10 w b o cap u nd hz hu hu64 (by omega)
  have hle : (nd : Int) ≤ (n : Int) :=by omega
  have e1 :=wrap_i64_in ((nd : Int) + p) (by omega) (by omega)
  have hl :=digs_len u nd
  generalize digs u nd = xs at *
  have HZ :=Lib.hid hz
  clear hz hu
  go_enter Tryz.func197,Tryz.ntmps197
  go_wp2_with (go_at_call 243;refine (hf _).mono ?_;rintro e w1 ⟨rfl,g1,g2⟩)
  go_loop [3] (fun t => ∃ k : Nat,k ≤ nd ∧ t = .int .i64 k ∧ strip (xs.take k) = strip xs) (fun t => (intOf t).toNat)
  case atStart => exact ⟨nd,Nat.le_refl _,rfl,by rw [List.take_of_length_le (by omega)]⟩
  case round =>
    obtain ⟨k,hk,rfl,hst⟩ :=hrel
    rcases Nat.eq_zero_or_pos k with rfl | hkp
    · have h0 : strip xs = 0 :=by rw [← hst];rfl
      rw [h0]
      go_wp2_with fail
      first | go_ret2 | refine ⟨_,results_tmp2 rfl _ _ _,?_⟩
      exact ⟨rfl,g1,g2⟩
    · obtain ⟨k,rfl⟩ : ∃ j,k = j + 1 :=⟨k - 1,by omega⟩
      have gx : xs[k]? = some (xs[k]'(by omega)) :=List.getElem?_eq_getElem _
      generalize xs[k]'_ = x at gx
      rw [take_succ gx,strip_snoc] at hst
      have c :=(g1 k x gx).1
      by_cases hx : x = 48
      · subst hx
        rw [if_pos rfl] at hst
        go_wp2_with fail
        go_round
        case rel => exact ⟨k,by omega,by first | rfl | (congr 1;omega),hst⟩
        case measure => simp [intOf]
      · have hne : ((x : Int) == 48) = false :=by simp;omega
        rw [if_neg hx,List.length_take,Nat.min_eq_left (by omega)] at hst
        have HS :=Lib.hid hst
        clear hst
        go_wp2_with fail
        first | go_ret2 | refine ⟨_,results_tmp2 rfl _ _ _,?_⟩
        refine ⟨?_,g1,g2⟩
        rw [← HS.out,Int.natCast_add]
        rfl
end Go.Proofs.YtfmmdamgcpiciaaGreatDoor
namespace Go.Proofs.YtfmmdamgcpiciaaGreatDoor
open Go Go.RowKit
abbrev u8v (x : Nat) : Value :=.int .u8 (x : Int)
structure OutAt (w : World) (b o cap : Nat) (ys : List Nat) : Prop where
  row : ∀ (j x : Nat),ys[j]? = some x → w.cell? ⟨b,o + j,none⟩ = some (u8v x)
  room : Wr w b o cap
  le : ys.length ≤ cap
theorem info5 : (Tryz.prog.info? 5).map (fun i => (i.zero,i.size,i.bytes)) = some (some (.int .u8 0),1,1) :=by kernel_rfl
theorem u76 : Tryz.prog.underlying 76 = some (.slice 5) :=by kernel_rfl
theorem OutAt.kept {w w' : World} {b o cap : Nat} {ys : List Nat} (h : OutAt w b o cap ys) (k : Kept w w') : OutAt w' b o cap ys :=⟨fun j x hj => Kept.at k (h.row j x hj),h.room.chg k,h.le⟩
theorem app_run {w : World} {b o cap : Nat} {ys : List Nat} (h : OutAt w b o cap ys) (zs : List Nat) (ab ao m c : Nat) (hm : zs.length = m) (hz : ∀ (j x : Nat),zs[j]? = some x → w.cell? ⟨ab,ao + j,none⟩ = some (u8v x)) (hr : ys.length + m ≤ cap) :
    (Builtin.append_ #[76,76] 76 #[.slice (some ⟨b,o,none⟩) ys.length cap,.slice (some ⟨ab,ao,none⟩) m c]).run Tryz.prog w = .ok (.slice (some ⟨b,o,none⟩) (ys.length + m) cap) (w.setCells b (o + ys.length) (zs.map u8v)) :=by
  obtain ⟨i0,hi,hz0,hz1,hz2⟩ :=info_parts info5
  have h1 :=run_append_room_cells (P :=Tryz.prog) w 76 76 5 i0 u76 hi b o ys.length cap ⟨ab,ao,none⟩ m c (zs.map u8v) (by simp [hz1,hm]) (fun j u hj => by
      rw [List.getElem?_map] at hj
      cases hx : zs[j]? with
      | none => rw [hx] at hj;cases hj
      | some x =>
        rw [hx] at hj
        obtain rfl :=Option.some.inj hj
        rw [Addr.add_lit]
        exact hz j x hx) (fun u hu => by
      obtain ⟨x,_,rfl⟩ :=List.mem_map.1 hu
      rfl) hr (fun j hj => by
      rw [hz1,Nat.mul_one]
      obtain ⟨⟨v,hv⟩,_⟩ :=h.room (ys.length + j) (by simp at hj;omega)
      rw [show o + ys.length + j = o + (ys.length + j) by omega,hv];rfl) (fun j hj => by
      rw [hz1,Nat.mul_one,show o + ys.length + j = o + (ys.length + j) by omega]
      exact (h.room (ys.length + j) (by simp at hj;omega)).2)
  rw [hz1,Nat.mul_one] at h1
  exact h1
theorem row8_setCells {w : World} {b o : Nat} (xs : List Nat) (hw : Wr w b o xs.length) : ∀ (j x : Nat),xs[j]? = some x → (w.setCells b o (xs.map u8v)).cell? ⟨b,o + j,none⟩ = some (u8v x) :=fun j x hj => by
  obtain ⟨hl,hx⟩ :=List.getElem?_eq_some_iff.1 hj
  have :=World.cell?_setCells_in b (xs.map u8v) o w (fun j hj => by
    obtain ⟨⟨v,hv⟩,_⟩ :=hw j (by simpa using hj)
    simp [hv]) j (by simpa using hl)
  rw [this];simp [hx]
theorem OutAt.app {w : World} {b o cap : Nat} {ys : List Nat} (h : OutAt w b o cap ys) (zs : List Nat) (hr : ys.length + zs.length ≤ cap) : OutAt (w.setCells b (o + ys.length) (zs.map u8v)) b o cap (ys ++ zs) ∧ Chg w (w.setCells b (o + ys.length) (zs.map u8v)) (fun p _ => p = b) :=by
  have hc :=Chg.setCells b (zs.map u8v) (o + ys.length) w
  refine ⟨⟨fun j x hj => ?_,h.room.chg hc,by simp;omega⟩,hc.mono fun _ _ _ h => h.1⟩
  rcases Nat.lt_or_ge j ys.length with hlt | hge
  · rw [List.getElem?_append_left hlt] at hj
    exact hc.at (h.row j x hj) fun e => by have :=e.2.1;omega
  · rw [List.getElem?_append_right hge] at hj
    have hr2 :=row8_setCells (w :=w) (b :=b) (o :=o + ys.length) zs (fun i hi => by
      have :=h.room (ys.length + i) (by omega)
      rw [show o + ys.length + i = o + (ys.length + i) by omega];exact this)
    have :=hr2 (j - ys.length) x hj
    rwa [show o + ys.length + (j - ys.length) = o + j by omega] at this
section
variable {W0 : World} {ops : Array Oper} {rest : List Oper} {op : Oper} {a : Act} {Q : Exit → Act → World → Prop}
theorem wp_app (hgd : op.guard = none) (s x : Operand) (ho : op.op = .call { callee :=.builtin .append,args :=#[s,x],argTypes :=#[76,76] }) (hty : op.type = 76) {b o cap n m c ab ao : Nat} {ys : List Nat} (zs : List Nat)
    (hs : a.eval s = .slice (some ⟨b,o,none⟩) n cap) (hx : a.eval x = .slice (some ⟨ab,ao,none⟩) m c) (h : OutAt W0 b o cap ys) (hn : ys.length = n) (hm : zs.length = m) (hr : n + m ≤ cap)
    (hz : ∀ (j y : Nat),zs[j]? = some y → W0.cell? ⟨ab,ao + j,none⟩ = some (u8v y))
    (hk : ∀ W1,OutAt W1 b o cap (ys ++ zs) → Chg W0 W1 (fun p _ => p = b) → wpList Tryz.prog ops Q rest (a.put op.dst (.slice (some ⟨b,o,none⟩) (n + m) cap)) W1) : wpList Tryz.prog ops Q (op :: rest) a W0 :=by
  subst hn
  have hrun :=app_run h zs ab ao m c hm hz hr
  have hap :=h.app zs (by omega)
  refine Lib.wpList_append_run _ hgd s x 76 76 ho _ _ hs hx _ _ (by rw [hty];exact hrun) (hk _ hap.1 hap.2)
theorem wp_app1 (hgd : op.guard = none) (s x : Operand) (ho : op.op = .call { callee :=.builtin .append,args :=#[s,x],argTypes :=#[76,76] }) (hty : op.type = 76) {b o cap n : Nat} {z : Int} {ys : List Nat}
    (hs : a.eval s = .slice (some ⟨b,o,none⟩) n cap) (hx : a.eval x = .slice (some ⟨W0.heap.size,0,none⟩) 1 1) (h : OutAt W0 b o cap ys) (hn : ys.length = n) (hr : n + 1 ≤ cap) (h0 : 0 ≤ z)
    (hk : ∀ W1,OutAt W1 b o cap (ys ++ [z.toNat]) → Chg W0 W1 (fun p _ => p = b) → wpList Tryz.prog ops Q rest (a.put op.dst (.slice (some ⟨b,o,none⟩) (n + 1) cap)) W1) : wpList Tryz.prog ops Q (op :: rest) a (W0.alloc (.cells #[.int .u8 z] 5)) :=by
  have ka : Kept W0 (W0.alloc (.cells #[.int .u8 z] 5)) :=Chg.alloc _ _ _
  refine wp_app hgd s x ho hty [z.toNat] hs hx (h.kept ka) hn rfl hr (fun j y hj => ?_) fun W1 h1 h2 => hk W1 h1 (ka.any _ |>.trans h2 fun _ _ _ h => h)
  match j,hj with
  | 0,hj =>
    obtain rfl :=Option.some.inj hj
    rw [World.cell?_alloc_at _ _ _ _ rfl]
    show some (Value.int .u8 z) = some (Value.int .u8 (z.toNat : Int))
    rw [Int.toNat_of_nonneg h0]
theorem wp_app2 (hgd : op.guard = none) (s x : Operand) (ho : op.op = .call { callee :=.builtin .append,args :=#[s,x],argTypes :=#[76,76] }) (hty : op.type = 76) {b o cap n : Nat} {z z' : Int} {ys : List Nat}
    (hs : a.eval s = .slice (some ⟨b,o,none⟩) n cap) (hx : a.eval x = .slice (some ⟨W0.heap.size,0,none⟩) 2 2) (h : OutAt W0 b o cap ys) (hn : ys.length = n) (hr : n + 2 ≤ cap) (h0 : 0 ≤ z) (h1 : 0 ≤ z')
    (hk : ∀ W1,OutAt W1 b o cap (ys ++ [z.toNat,z'.toNat]) → Chg W0 W1 (fun p _ => p = b) → wpList Tryz.prog ops Q rest (a.put op.dst (.slice (some ⟨b,o,none⟩) (n + 2) cap)) W1) : wpList Tryz.prog ops Q (op :: rest) a (W0.alloc (.cells #[.int .u8 z,.int .u8 z'] 5)) :=by
  have ka : Kept W0 (W0.alloc (.cells #[.int .u8 z,.int .u8 z'] 5)) :=Chg.alloc _ _ _
  refine wp_app hgd s x ho hty [z.toNat,z'.toNat] hs hx (h.kept ka) hn rfl hr (fun j y hj => ?_) fun W1 h1 h2 => hk W1 h1 (ka.any _ |>.trans h2 fun _ _ _ h => h)
  match j,hj with
  | 0,hj =>
    obtain rfl :=Option.some.inj hj
    rw [World.cell?_alloc_at _ _ _ _ rfl]
    show some (Value.int .u8 z) = some (Value.int .u8 (z.toNat : Int))
    rw [Int.toNat_of_nonneg h0]
  | 1,hj =>
    obtain rfl :=Option.some.inj hj
    rw [World.cell?_alloc_at _ _ _ _ rfl]
    show some (Value.int .u8 z') = some (Value.int .u8 (z'.toNat : Int))
    rw [Int.toNat_of_nonneg h1]
end
def eText (neg : Bool) (c : Nat) (ds : List Nat) (x : Int) : List Nat :=(if neg then [45] else []) ++ ([c] ++ ((if ds = [] then [] else [46] ++ ds) ++ ([101] ++ ([if x < 0 then 45 else 43] ++ [48 + x.natAbs / 10,48 + x.natAbs % 10]))))
theorem tdiv10 {x : Int} (h : x ≤ 0) : x.tdiv 10 = -((-x) / 10) :=by
  have : x.tdiv 10 = -((-x).tdiv 10) :=by rw [Int.neg_tdiv,Int.neg_neg]
  rw [this,Int.tdiv_eq_ediv_of_nonneg (by omega)]
theorem tmod10 {x : Int} (h : x ≤ 0) : x.tmod 10 = -((-x) % 10) :=by
  have : x.tmod 10 = -((-x).tmod 10) :=by rw [Int.neg_tmod,Int.neg_neg]
  rw [this,Int.tmod_eq_emod_of_nonneg (by omega)]
theorem fin_e {w W1 : World} {b o cap n : Nat} {ys T : List Nat} (h : OutAt W1 b o cap ys) (e : ys = T) (hn : n = ys.length) (K : Chg w W1 (fun p _ => p = b)) :
    Ending.returned (.slice (some ⟨b,o,none⟩) n cap) = .returned (.slice (some ⟨b,o,none⟩) T.length cap) ∧ OutAt W1 b o cap T ∧ Chg w W1 (fun p _ => p = b) :=by
  subst e;subst hn;exact ⟨rfl,h,K⟩
theorem fmtE (w : World) (b o cap bs os ns cs c : Nat) (ds : List Nat) (neg : Bool) (x : Int) (h : OutAt w b o cap []) (hcap : 24 ≤ cap) (hds : ds.length ≤ 17)
    (hs : ∀ (j y : Nat),(c :: ds)[j]? = some y → w.cell? ⟨bs,os + j,none⟩ = some (u8v y)) (hns : ds.length + 1 ≤ ns) (hnc : ns ≤ cs) (hbs : bs ≠ b) (hx : -99 ≤ x) (hx2 : x ≤ 99) (hlb : bs < w.heap.size) (hcc : cs < 1000000) :
    Calls Tryz.prog 194 #[.slice (some ⟨b,o,none⟩) 0 cap,.bool neg,.slice (some ⟨bs,os,none⟩) ns cs,.int .i64 (x + 1),.int .i64 ((ds.length : Int) + 1),.int .i64 ds.length,.int .u8 101,.bool true] w fun e w' =>
      e = .returned (.slice (some ⟨b,o,none⟩) (eText neg c ds x).length cap) ∧ OutAt w' b o cap (eText neg c ds x) ∧ Chg w w' (fun p _ => p = b) :=by
  obtain ⟨nd,hnd⟩ : ∃ n,ds.length = n :=⟨_,rfl⟩
  rw [hnd] at hds hns ⊢
  have c0 :=hs 0 c rfl
  simp only [Nat.add_zero] at c0
  have K : Chg w w (fun p _ => p = b) :=Chg.refl _ _
  rcases ds with _ | ⟨d,ds⟩
  · subst hnd
    cases neg
    · go_enter Tryz.func194,Tryz.ntmps194
      go_wp2_with (first
        | (at_builtin;refine wp_app1 rfl _ _ rfl rfl rfl rfl h (by simp <;> omega) (by omega) (by omega) ?_;intro W1 h k;have K :=K.trans k fun _ _ _ h => h;have c0 :=k.at c0 hbs)
        | (at_builtin;refine wp_app2 rfl _ _ rfl rfl rfl rfl h (by simp <;> omega) (by omega) (by omega) (by omega) ?_;intro W1 h k;have K :=K.trans k fun _ _ _ h => h;have c0 :=k.at c0 hbs))
      all_goals first | go_ret | refine ⟨_,results_tmp rfl _ _ _,?_⟩
      all_goals refine fin_e h ?_ (by simp <;> omega) K
      all_goals unfold eText
      all_goals (simp <;> (try rw [tdiv10 (by omega),tmod10 (by omega)]) <;> (try unfold wrap64) <;> omega)
    · go_enter Tryz.func194,Tryz.ntmps194
      go_wp2_with (first
        | (at_builtin;refine wp_app1 rfl _ _ rfl rfl rfl rfl h (by simp <;> omega) (by omega) (by omega) ?_;intro W1 h k;have K :=K.trans k fun _ _ _ h => h;have c0 :=k.at c0 hbs)
        | (at_builtin;refine wp_app2 rfl _ _ rfl rfl rfl rfl h (by simp <;> omega) (by omega) (by omega) (by omega) ?_;intro W1 h k;have K :=K.trans k fun _ _ _ h => h;have c0 :=k.at c0 hbs))
      all_goals first | go_ret | refine ⟨_,results_tmp rfl _ _ _,?_⟩
      all_goals refine fin_e h ?_ (by simp <;> omega) K
      all_goals unfold eText
      all_goals (simp <;> (try rw [tdiv10 (by omega),tmod10 (by omega)]) <;> (try unfold wrap64) <;> omega)
  · have hp : 0 < nd :=by rw [← hnd];simp
    have hnd2 : ds.length + 1 = nd :=by rw [← hnd];simp
    cases neg
    · go_enter Tryz.func194,Tryz.ntmps194
      go_wp2_with (first
        | (at_builtin;refine wp_app1 rfl _ _ rfl rfl rfl rfl h (by simp <;> omega) (by omega) (by omega) ?_;intro W1 h k;have K :=K.trans k fun _ _ _ h => h;have c0 :=k.at c0 hbs)
        | (at_builtin;refine wp_app2 rfl _ _ rfl rfl rfl rfl h (by simp <;> omega) (by omega) (by omega) (by omega) ?_;intro W1 h k;have K :=K.trans k fun _ _ _ h => h;have c0 :=k.at c0 hbs)
        | (at_builtin;refine wp_app rfl _ _ rfl rfl (d :: ds) rfl rfl h (by simp <;> omega) hnd (by omega) (fun j y hj => (by rw [Nat.add_assoc,Nat.add_comm 1 j];exact K.at (hs (j + 1) y hj) hbs)) ?_;intro W1 h k;have K :=K.trans k fun _ _ _ h => h;have c0 :=k.at c0 hbs))
      all_goals (refine wp_loop_rounds 1 ?_;rw [rounds_succ])
      all_goals go_wp2_with (first
        | (at_builtin;refine wp_app1 rfl _ _ rfl rfl rfl rfl h (by simp <;> omega) (by omega) (by omega) ?_;intro W1 h k;have K :=K.trans k fun _ _ _ h => h;have c0 :=k.at c0 hbs)
        | (at_builtin;refine wp_app2 rfl _ _ rfl rfl rfl rfl h (by simp <;> omega) (by omega) (by omega) (by omega) ?_;intro W1 h k;have K :=K.trans k fun _ _ _ h => h;have c0 :=k.at c0 hbs)
        | (at_builtin;refine wp_app rfl _ _ rfl rfl (d :: ds) rfl rfl h (by simp <;> omega) hnd (by omega) (fun j y hj => (by rw [Nat.add_assoc,Nat.add_comm 1 j];exact K.at (hs (j + 1) y hj) hbs)) ?_;intro W1 h k;have K :=K.trans k fun _ _ _ h => h;have c0 :=k.at c0 hbs))
      all_goals first | go_ret | refine ⟨_,results_tmp rfl _ _ _,?_⟩
      all_goals refine fin_e h ?_ (by simp <;> omega) K
      all_goals unfold eText
      all_goals (simp <;> (try rw [tdiv10 (by omega),tmod10 (by omega)]) <;> (try unfold wrap64) <;> omega)
    · go_enter Tryz.func194,Tryz.ntmps194
      go_wp2_with (first
        | (at_builtin;refine wp_app1 rfl _ _ rfl rfl rfl rfl h (by simp <;> omega) (by omega) (by omega) ?_;intro W1 h k;have K :=K.trans k fun _ _ _ h => h;have c0 :=k.at c0 hbs)
        | (at_builtin;refine wp_app2 rfl _ _ rfl rfl rfl rfl h (by simp <;> omega) (by omega) (by omega) (by omega) ?_;intro W1 h k;have K :=K.trans k fun _ _ _ h => h;have c0 :=k.at c0 hbs)
        | (at_builtin;refine wp_app rfl _ _ rfl rfl (d :: ds) rfl rfl h (by simp <;> omega) hnd (by omega) (fun j y hj => (by rw [Nat.add_assoc,Nat.add_comm 1 j];exact K.at (hs (j + 1) y hj) hbs)) ?_;intro W1 h k;have K :=K.trans k fun _ _ _ h => h;have c0 :=k.at c0 hbs))
      all_goals (refine wp_loop_rounds 1 ?_;rw [rounds_succ])
      all_goals go_wp2_with (first
        | (at_builtin;refine wp_app1 rfl _ _ rfl rfl rfl rfl h (by simp <;> omega) (by omega) (by omega) ?_;intro W1 h k;have K :=K.trans k fun _ _ _ h => h;have c0 :=k.at c0 hbs)
        | (at_builtin;refine wp_app2 rfl _ _ rfl rfl rfl rfl h (by simp <;> omega) (by omega) (by omega) (by omega) ?_;intro W1 h k;have K :=K.trans k fun _ _ _ h => h;have c0 :=k.at c0 hbs)
        | (at_builtin;refine wp_app rfl _ _ rfl rfl (d :: ds) rfl rfl h (by simp <;> omega) hnd (by omega) (fun j y hj => (by rw [Nat.add_assoc,Nat.add_comm 1 j];exact K.at (hs (j + 1) y hj) hbs)) ?_;intro W1 h k;have K :=K.trans k fun _ _ _ h => h;have c0 :=k.at c0 hbs))
      all_goals first | go_ret | refine ⟨_,results_tmp rfl _ _ _,?_⟩
      all_goals refine fin_e h ?_ (by simp <;> omega) K
      all_goals unfold eText
      all_goals (simp <;> (try rw [tdiv10 (by omega),tmod10 (by omega)]) <;> (try unfold wrap64) <;> omega)
end Go.Proofs.YtfmmdamgcpiciaaGreatDoor
namespace Go.Proofs.YtfmmdamgcpiciaaGreatDoor
open Go Go.RowKit
theorem callFloatBits191 (b : Nat) (w : World) : (callFunc 191 #[.float .f64 b]).run Tryz.prog w = .ok (.value (.int .u64 b)) w :=by
  rw [run_callFunc_extern Tryz.func191 (by kernel_rfl) (by kernel_rfl) (by kernel_rfl) (e :=Extern.MathFloatBits.float64bits) (by kernel_rfl)]
  rfl
structure FlParts (B : Nat) (neg : Bool) (ex fr : Nat) : Prop where
  eq : B = (if neg then 9223372036854775808 else 0) + ex * 4503599627370496 + fr
  ex1 : 1 ≤ ex
  ex2 : ex ≤ 2046
  fr1 : fr < 4503599627370496
theorem and_mask_i64 (x k : Nat) (hx : x < 9223372036854775808) (hk : k ≤ 62) : bits .and .i64 (x : Int) ((2 ^ k - 1 : Nat) : Int) = ((x % 2 ^ k : Nat) : Int) :=by
  have h2 : 2 ^ k ≤ 2 ^ 62 :=Nat.pow_le_pow_right (by decide) hk
  simp only [bits,BitVec.ofInt_natCast,BitVec.toNat_and,BitVec.toNat_ofNat]
  show IntKind.i64.wrap ((x % 2 ^ 64 &&& (2 ^ k - 1) % 2 ^ 64 : Nat) : Int) = _
  have hl : x % 2 ^ k ≤ x :=Nat.mod_le _ _
  rw [Nat.mod_eq_of_lt (by omega : x < 2 ^ 64),Nat.mod_eq_of_lt (by omega : 2 ^ k - 1 < 2 ^ 64),Nat.and_two_pow_sub_one_eq_mod]
  exact wrap_i64_in _ (by omega) (by omega)
theorem fl_facts {B : Nat} {neg : Bool} {ex fr : Nat} (h : FlParts B neg ex fr) : ((B : Int) / 9223372036854775808 = (if neg then 1 else 0)) ∧ (∃ q : Nat,(B : Int) / 4503599627370496 = (q : Int) ∧ IntKind.i64.wrap (q : Int) = (q : Int) ∧ bits .and .i64 (q : Int) 2047 = (ex : Int)) ∧
    bits .and .u64 (B : Int) 4503599627370495 = (fr : Int) ∧ bits .or .u64 (fr : Int) 4503599627370496 = ((4503599627370496 + fr : Nat) : Int) :=by
  have e :=h.eq
  have h1 :=h.ex1
  have h2 :=h.ex2
  have h3 :=h.fr1
  have hB : B < 2 ^ 64 :=by cases neg <;> simp at e <;> omega
  refine ⟨?_,⟨B / 4503599627370496,by omega,wrap_i64_in _ (by omega) (by omega),?_⟩,?_,?_⟩
  · cases neg <;> simp at e ⊢ <;> omega
  · have :=and_mask_i64 (B / 4503599627370496) 11 (by omega) (by decide)
    rw [show (2 ^ 11 - 1 : Nat) = 2047 from rfl,show (2 ^ 11 : Nat) = 2048 from rfl] at this
    refine this.trans ?_
    congr 1
    cases neg <;> simp at e <;> omega
  · have :=and_u64 B (2 ^ 52 - 1) hB (by decide)
    rw [Nat.and_two_pow_sub_one_eq_mod] at this
    refine this.trans ?_
    congr 1
    show B % 4503599627370496 = fr
    cases neg <;> simp at e <;> omega
  · have :=or_u64 fr 4503599627370496 (by omega) (by omega)
    refine this.trans ?_
    congr 1
    have h4 :=Nat.two_pow_add_eq_or_of_lt (i :=52) (b :=fr) (by omega) 1
    rw [Nat.mul_one] at h4
    rw [Nat.or_comm]
    exact h4.symm
theorem OutAt.chg' {w w' : World} {b o cap b' o' n' : Nat} {ys : List Nat} (h : OutAt w b o cap ys) (k : Chg w w' (In b' o' n')) (hne : b ≠ b') : OutAt w' b o cap ys :=⟨fun j x hj => k.at (h.row j x hj) fun e => hne e.1,h.room.chg k,h.le⟩
def zeros32 : Array Value :=#[.int .u8 0,.int .u8 0,.int .u8 0,.int .u8 0,.int .u8 0,.int .u8 0,.int .u8 0,.int .u8 0,.int .u8 0,.int .u8 0,.int .u8 0,.int .u8 0,.int .u8 0,.int .u8 0,.int .u8 0,.int .u8 0,.int .u8 0,.int .u8 0,.int .u8 0,.int .u8 0,.int .u8 0,.int .u8 0,.int .u8 0,.int .u8 0,.int .u8 0,.int .u8 0,.int .u8 0,.int .u8 0,.int .u8 0,.int .u8 0,.int .u8 0,.int .u8 0]
theorem zeros32_at (j : Nat) (h : j < 32) : zeros32[j]? = some (.int .u8 0) :=by
  have e : zeros32 = Array.replicate 32 (.int .u8 0) :=rfl
  rw [e,Array.getElem?_replicate,if_pos h]
theorem ftoa64 (w : World) (b o cap B ex fr i hi lo D n c : Nat) (neg : Bool) (P x : Int) (ds : List Nat) (h : OutAt w b o cap []) (hcap : 24 ≤ cap) (hp : FlParts B neg ex fr) (hx1 : ex ≤ 1800)
    (hw : 8 < w.heap.size) (ht : TabAt w i hi lo) (h10 : TenAt w) (ok : SfOk ((4503599627370496 + fr) * 2048) ((ex : Int) - 1086) hi lo) (hi1 : sfP ((4503599627370496 + fr) * 2048) ((ex : Int) - 1086) + 348 = (i : Int))
    (hD : sfD ((4503599627370496 + fr) * 2048) ((ex : Int) - 1086) hi lo = (D,P)) (hDl : D < W64) (hn : nDig D = n) (hn1 : D < 10 ^ n) (hn2 : n ≤ 18) (hds : (digs D n).take (strip (digs D n)) = c :: ds) (hst : strip (digs D n) ≤ n)
    (hx : (n : Int) + P = x + 1) (hxa : -99 ≤ x) (hxb : x ≤ 99) (hP : -300 ≤ P) (hP2 : P ≤ 300) :
    Calls Tryz.prog 161 #[.slice (some ⟨b,o,none⟩) 0 cap,.float .f64 B,.int .u8 101,.int .i64 (-1)] w fun e w' =>
      e = .returned (.slice (some ⟨b,o,none⟩) (eText neg c ds x).length cap) ∧ OutAt w' b o cap (eText neg c ds x) ∧ Chg w w' (fun p _ => p = b) :=by
  obtain ⟨f1,⟨q,f2,f3,f4⟩,f5,f6⟩ :=fl_facts hp
  have hc :=callFloatBits191 B
  have hfr :=hp.fr1
  have hex1 :=hp.ex1
  have hM : 4503599627370496 + fr < W64 :=by unfold W64;omega
  have hbl : Lib.bitLen (4503599627370496 + fr) = 53 :=by
    have h1 :=bitLen_bounds hM (by omega)
    have h2 : Lib.bitLen (4503599627370496 + fr) - 1 < 53 :=(Nat.pow_lt_pow_iff_right (a :=2) (by decide)).1 (Nat.lt_of_le_of_lt h1.2.1 (by omega))
    have h3 : 52 < Lib.bitLen (4503599627370496 + fr) :=(Nat.pow_lt_pow_iff_right (a :=2) (by decide)).1 (Nat.lt_of_le_of_lt (by omega) h1.2.2)
    omega
  have hl :=len64 (4503599627370496 + fr) hM
  rw [hbl] at hl
  have hsh : IntKind.u64.wrap (((4503599627370496 + fr : Nat) : Int) * 2048) = (((4503599627370496 + fr) * 2048 : Nat) : Int) :=by rw [wrap_u64_in _ (by omega) (by omega)];omega
  have hsf :=fun W (hW : 8 < W.heap.size) (ht : TabAt W i hi lo) => shortFloat W ((4503599627370496 + fr) * 2048) i hi lo ((ex : Int) - 1086) ok hW hi1 ht
  simp only [hD] at hsf
  have hnd :=fun W (h10 : TenAt W) => numDigits W D hDl h10
  rw [hn] at hnd
  generalize (4503599627370496 + fr) * 2048 = m at *
  have hM0 : (((4503599627370496 + fr : Nat) : Int) == 0) = false :=by simp only [beq_eq_false_iff_ne];omega
  have e1 : ((ex : Int) == 2047) = false :=by simp only [beq_eq_false_iff_ne];omega
  have e2 : ((ex : Int) == 0) = false :=by simp only [beq_eq_false_iff_ne];omega
  have e3 : ((if neg then (1 : Int) else 0) != 0) = neg :=by cases neg <;> rfl
  have HT :=Lib.hid (And.intro ht h10)
  have HH :=Lib.hid h
  have hlt :=h.room
  have hb : b < w.heap.size :=by
    obtain ⟨v,hv⟩ :=(h.room 0 (by omega)).1
    exact lt_of_cell hv
  generalize ((4503599627370496 + fr : Nat) : Int) = M at *
  generalize (if neg then (1 : Int) else 0) = sg at *
  generalize (fr : Int) = F at *
  generalize (B : Int) = BI at *
  clear ok hp ht h10 h hlt
  go_enter Tryz.func161,Tryz.ntmps161
  have he : (ex : Int) - 1086 = (ex : Int) + -1023 - 11 - 52 :=by omega
  rw [he] at hsf
  have hzz : ∀ j,j < 32 → (w.alloc (Obj.cells zeros32 135)).cell? ⟨w.heap.size,0 + j,none⟩ = some (.int .u8 0) :=fun j hj => by
    rw [World.cell?_alloc_at _ _ _ _ rfl,Nat.zero_add]
    exact zeros32_at j hj
  have HZ :=Lib.hid hzz
  clear hzz
  obtain ⟨S,hS⟩ : ∃ S,strip (digs D n) = S :=⟨_,rfl⟩
  have hlen :=congrArg List.length hds
  rw [List.length_take,digs_len,hS,List.length_cons] at hlen
  rw [hS] at hst hds
  have hSl : S = ds.length + 1 :=by omega
  have hSb : S ≤ 18 :=by omega
  have hSc : 1 ≤ S :=by omega
  have hset :=fun W hz => setDigits W w.heap.size 0 32 32 D n P hz hn1 hDl (by omega) (by omega) (by omega) (by omega) (by omega) (by omega)
  rw [hS] at hset
  have hfm : ∀ w3,OutAt w3 b o cap [] → Bytes w3 w.heap.size 0 (digs D n) → w.heap.size < w3.heap.size → Calls Tryz.prog 194 #[.slice (some ⟨b,o,none⟩) 0 cap,.bool neg,.slice (some ⟨w.heap.size,0,none⟩) 32 32,.int .i64 (x + 1),.int .i64 S,.int .i64 (max ((S : Int) - 1) 0),.int .u8 101,.bool true] w3 fun e w' =>
      e = .returned (.slice (some ⟨b,o,none⟩) (eText neg c ds x).length cap) ∧ OutAt w' b o cap (eText neg c ds x) ∧ Chg w3 w' (fun p _ => p = b) :=by
    intro w3 q1 q2 q3
    rw [hSl,show max (((ds.length + 1 : Nat) : Int) - 1) 0 = (ds.length : Int) by omega,Int.natCast_add]
    refine fmtE w3 b o cap w.heap.size 0 32 32 c ds neg x q1 hcap (by omega) (fun j y hj => ?_) (by omega) (by omega) (by omega) hxa hxb q3 (by omega)
    have hj2 : j < S :=by
      have :=(List.getElem?_eq_some_iff.1 hj).1
      simp at this;omega
    rw [← hds,List.getElem?_take,if_pos hj2] at hj
    exact (q2 j y hj).1
  have HF :=Lib.hid hfm
  have HE :=Lib.hid hset
  clear hfm hset hS hSl hlen hds hst
  go_wp2_with (first
    | (refine wp_region_lit_segs (id :=14) [[0,1,2,3,4,5,6,7,8]] mixed (by kernel_rfl) ?_;simp only [wpSegsL,gaC,gaN,lZ0,lS0,coS])
    | (refine wp_region_lit_segs (id :=38) [[0,1,2,3,4,5,6,7,8,9,10]] mixed (by kernel_rfl) ?_;simp only [wpSegsL,gaC,gaN,lZ0,lS0,coS])
    | refine ⟨by kernel_rfl,?_⟩
    | (go_at_call 195;(with_reducible refine (hl _).mono ?_);rintro r w1 ⟨rfl,hw1⟩;rw [hw1];clear hw1)
    | (go_at_call 204;(refine (hsf _ (by show 8 < (w.alloc _).heap.size;simp;omega) (HT.out.1.kept (Chg.alloc w (Obj.cells zeros32 135) None2).drew)).mono ?_);rintro r w1 ⟨rfl,k⟩;have K :=Lib.hid (show Kept (w.alloc (Obj.cells zeros32 135)) w1 from k.of_drew);clear k)
    | (go_at_call 198;refine (hnd _ (HT.out.2.kept (kt (Chg.alloc _ _ _) K.out).drew)).mono ?_;rintro r w2 ⟨rfl,k⟩;have K :=Lib.hid (kt K.out k.of_drew);clear k)
    | (go_at_call 197;refine (HE.out _ (fun j hj => ⟨Kept.at K.out (HZ.out j (by omega)),(K.out.frz _ _ (by simp)).trans (NF.made w _ _ _)⟩)).mono ?_;rintro r w3 ⟨rfl,g1,g2⟩;have G :=Lib.hid (And.intro g1 g2);clear g1 g2)
    | (go_at_call 194;refine (HF.out _ ((HH.out.kept (kt (Chg.alloc _ _ _) K.out)).chg' G.out.2 (by omega)) G.out.1 (Nat.lt_of_lt_of_le (by simp) (Nat.le_trans (Chg.size K.out) (Chg.size G.out.2)))).mono ?_;rintro r w4 ⟨rfl,q1,q2⟩;have Q :=Lib.hid (And.intro q1 q2);clear q1 q2))
  first | go_ret | refine ⟨_,results_tmp rfl _ _ _,?_⟩
  refine ⟨rfl,Q.out.1,?_⟩
  exact (((Chg.alloc w (Obj.cells zeros32 135) (fun p _ => p = b)).trans K.out fun _ _ _ h => h.elim).trans G.out.2 fun p _ hp h => by have :=h.1;omega).trans Q.out.2 fun _ _ _ h => h
end Go.Proofs.YtfmmdamgcpiciaaGreatDoor
