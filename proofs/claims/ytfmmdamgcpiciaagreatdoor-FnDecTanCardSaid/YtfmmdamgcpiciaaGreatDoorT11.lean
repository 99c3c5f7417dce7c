/- A part of the proof, joined out of the texts E16, G8, G9, G10, Q2, H26, H25, H28, H27, H23; each theorem bears its own conditions. -/
import Derived.BigRegion
import Derived.Defers
import Derived.Recover
import Derived.Test.YtfmmdamgcpiciaaGreatDoorT08
import Derived.Test.YtfmmdamgcpiciaaGreatDoorT09
import Derived.Test.YtfmmdamgcpiciaaGreatDoorT10
set_option linter.unusedVariables false
set_option linter.unusedSimpArgs false
set_option linter.all false
set_option maxHeartbeats 9000000
set_option exponentiation.threshold 400000
set_option maxRecDepth 1000000
namespace Go.Proofs.YtfmmdamgcpiciaaGreatDoor
open Go Go.RowKit
abbrev sinV (vA v2 v1 b1 b2 b3 b4 bd : Nat) (e : Int) : List (Nat × Value × Value) :=[(vA + 1 + 1 + 1,ptr b4,.int .i32 (-16)),(vA + 1 + 1,ptr b3,.int .i32 (-31)),(vA + 1,ptr b2,.int .i32 (-23)),(vA,ptr b1,.int .i32 (-16)),(v2,.pointer none,.int .i32 0),(v1,ptr bd,.int .i32 e)]
end Go.Proofs.YtfmmdamgcpiciaaGreatDoor
namespace Go.Proofs.YtfmmdamgcpiciaaGreatDoor
open Go Go.RowKit
theorem results_dec_tmp {fn : Func} {t u r : Nat} {tmps : Array Value} {w : World} {x y : Value} (h : fn.results = #[.cell t 55,.tmp u]) (hp : tmps.getD t undef = ptr r) (h0 : w.cell? ⟨r,0,none⟩ = some x) (h1 : w.cell? ⟨r,1,none⟩ = some y) :
    (results fn tmps).run Tryz.prog w = .ok (.tuple #[.agg #[x,y],tmps.getD u undef]) w :=by
  obtain ⟨i0,hi,hz0,hz1,hz2⟩ :=info_parts info55
  have hp' : tmps[t]?.getD undef = ptr r :=by simpa using hp
  simp [results,h,hp',go_sem,hi,hz1,h0,h1]
theorem places (w : World) (e : Int) (h1 : -400 ≤ e) (h2 : e ≤ 400) : Calls Tryz.prog 52 #[.int .i64 e] w fun r w' => r = .returned (.bool true) ∧ w' = w :=by
  go_enter Tryz.func52,Tryz.ntmps52
  go_wp2
  first | go_ret | refine ⟨_,results_tmp rfl _ _ _,?_⟩
  exact ⟨by simp [h1,h2],rfl⟩
theorem made (w : World) (X e : Int) (hX : X.natAbs < 10 ^ 400) (h1 : -400 ≤ e) (h2 : e ≤ 400) : Calls Tryz.prog 29 #[pd (str (txt X)) e] w fun r w' => ∃ b,r = .returned (.tuple #[dv b e,.bool true]) ∧ IntN w w' b X ∧ Kept w w' :=by
  have hw :=fun W => whole W X hX
  have hp :=fun W => places W e h1 h2
  obtain ⟨s,hs⟩ : ∃ s,str (txt X) = .string s :=⟨_,rfl⟩
  rw [hs] at hw ⊢
  have k0 : Kept w (Box (Box23 w (.string s) (.int .i64 e)) (.pointer none) (.int .i32 0)) :=kt (Chg.alloc _ _ _) (boxK _ _ _)
  have S0 :=Slot.made (Box23 w (.string s) (.int .i64 e)) (.pointer none) (.int .i32 0)
  have e1 : (Box23 w (.string s) (.int .i64 e)).heap.size = w.heap.size + 1 :=by simp
  rw [e1] at S0
  have ce : (Box (Box23 w (.string s) (.int .i64 e)) (.pointer none) (.int .i32 0)).cell? ⟨w.heap.size,1,none⟩ = some (.int .i64 e) :=by
    refine Kept.at (boxK _ _ _) ?_
    rw [World.cell?_alloc_at _ _ _ _ rfl];rfl
  go_enter Tryz.func29,Tryz.ntmps29
  go_wp2_with (first
    | (go_at_call 51;refine (hw _).mono ?_;rintro r w1 ⟨b,rfl,hb,k1⟩;have c1 :=Kept.at k1 ce)
    | (go_at_call 52;refine (hp _).mono ?_;rintro r w2 ⟨rfl,hw2⟩;subst hw2)
    | (go_at_call 53;refine (dec_make _ b e).mono ?_;rintro r w3 ⟨rfl,k3⟩;have kk :=kt k1 k3;have S :=S0.kept kk;obtain ⟨⟨u0,s0⟩,⟨u1,s1⟩,sf⟩ :=id S;have f0 :=sf 0;have f1 :=sf 1;have s2 :=cs_ne (u :=ptr b) s1 (b' :=w.heap.size + 1) (o' :=0) (by omega)))
  have hr :=dec_ret (r :=w.heap.size + 1) (by omega) (by simp) k0 (hb.kept k3) kk (ptr b) (.int .i32 e)
  exact bodyPost_ret (v :=.tuple #[dv b e,.bool true]) (results_dec_tmp (t :=2) (u :=3) (r :=w.heap.size + 1) rfl rfl (put2_0 S _ _) (put2_1 S _ _)) rfl ⟨b,rfl,hr⟩
theorem txt_length (X : Int) (k : Nat) (hk : 0 < k) (h : X.natAbs < 10 ^ k) : (txt X).length ≤ k + 1 :=by
  have :=digT_length X.natAbs k hk h
  unfold txt
  split
  · rw [List.length_cons];omega
  · omega
theorem mild (w : World) (hg : Glob w) (X e : Int) (hX : X.natAbs < 10 ^ 20) (h1 : -18 ≤ e) (h2 : e ≤ 0) (hs : X.natAbs ≤ 1000000 * 10 ^ (-e).toNat) : Calls Tryz.prog 30 #[pd (str (txt X)) e,.int .i64 1000000] w fun r w' => r = .returned (.bool true) ∧ Kept w w' :=by
  have hw :=fun W => made W X e (Nat.lt_trans hX (by decide)) (by omega) (by omega)
  have hlen :=txt_length X 20 (by decide) hX
  have hfi :=fun W => dec_fromInt W 1000000 (by decide) (by decide)
  obtain ⟨s,hse⟩ : ∃ s,bs (txt X) = s :=⟨_,rfl⟩
  have hsz : s.size ≤ 21 :=by rw [← hse,bs_size];exact hlen
  have hcmp : ∀ W b1 b2,Glob W → IntAt W b1 X.natAbs → IntAt W b2 1000000 → Calls Tryz.prog 55 #[dv b1 e,dv b2 0] W fun r w' => ∃ z : Int,z ≤ 0 ∧ r = .returned (.int .i64 z) ∧ Kept W w' :=by
    intro W b1 b2 hg' i1 i2
    rcases Int.lt_or_le e 0 with he | he
    · refine (dec_cmp_lt W hg' b1 b2 e 0 X.natAbs 1000000 i1 i2 ?_ (by decide) he (by omega) (by omega) (by decide) (by decide) (by omega)).mono ?_
      · simp only [Int.natAbs_natCast]
        exact Nat.lt_trans hX (by decide)
      · rintro r w' ⟨rfl,k⟩
        refine ⟨_,?_,rfl,k⟩
        unfold cmpZ
        have e2 : (0 - e).toNat = (-e).toNat :=by congr 1;omega
        rw [e2]
        have h3 : ((X.natAbs : Nat) : Int) ≤ ((1000000 * 10 ^ (-e).toNat : Nat) : Int) :=by exact_mod_cast hs
        rw [Int.natCast_mul] at h3
        split
        · decide
        · split
          · omega
          · decide
    · obtain rfl : e = 0 :=by omega
      refine (dec_cmp_eq W b1 b2 0 X.natAbs 1000000 i1 i2).mono ?_
      rintro r w' ⟨rfl,k⟩
      refine ⟨_,?_,rfl,k⟩
      unfold cmpZ
      have h3 : ((X.natAbs : Nat) : Int) ≤ 1000000 :=by have h4 : X.natAbs ≤ 1000000 :=(by simpa using hs);omega
      split
      · decide
      · split
        · omega
        · decide
  rw [str_bs,hse] at hw ⊢
  have ce : (Box23 w (.string s) (.int .i64 e)).cell? ⟨w.heap.size,1,none⟩ = some (.int .i64 e) :=by
    rw [World.cell?_alloc_at _ _ _ _ rfl];rfl
  have cs : (Box23 w (.string s) (.int .i64 e)).cell? ⟨w.heap.size,0,none⟩ = some (.string s) :=by
    rw [World.cell?_alloc_at _ _ _ _ rfl];rfl
  have kA : Kept w (Box23 w (.string s) (.int .i64 e)) :=Chg.alloc _ _ _
  have HG :=Lib.hid hg
  clear hs hX hg hlen hse
  go_enter Tryz.func30,Tryz.ntmps30
  go_wp2_with (first
    | (go_at_call 29;refine (hw _).mono ?_;rintro r w1 ⟨b,rfl,hb,k1⟩;have k2 :=kt k1 (boxK w1 (ptr b) (.int .i32 e));have c0 :=Kept.at k2 cs;have c1 :=Kept.at k2 ce)
    | (go_at_call 54;refine (dec_abs _ b e X (hb.at.kept (boxK _ _ _))).mono ?_;rintro r w3 ⟨b3,rfl,hb3,k3⟩)
    | (go_at_call 56;refine (hfi _).mono ?_;rintro r w4 ⟨b4,rfl,hb4,k4⟩)
    | (go_at_call 55;refine (hcmp _ _ _ (HG.out.kept (kt kA (kt k2 (kt k3 k4)))) (hb3.kept k4) hb4.at).mono ?_;rintro r w5 ⟨z,hz,rfl,k5⟩))
  first | go_ret | refine ⟨_,results_tmp rfl _ _ _,?_⟩
  exact ⟨rfl,kt kA (kt k2 (kt k3 (kt k4 k5)))⟩
end Go.Proofs.YtfmmdamgcpiciaaGreatDoor
namespace Go.Proofs.YtfmmdamgcpiciaaGreatDoor
open Go Go.RowKit
theorem info3 : (Tryz.prog.info? 3).map (fun i => (i.zero,i.size,i.bytes)) = some (some (.int .i64 0),1,8) :=by kernel_rfl
theorem results_pd_int {fn : Func} {t u r q : Nat} {tmps : Array Value} {w : World} {x y z : Value} (h : fn.results = #[.cell t 23,.cell u 3]) (hp : tmps.getD t undef = ptr r) (hq : tmps.getD u undef = ptr q) (h0 : w.cell? ⟨r,0,none⟩ = some x) (h1 : w.cell? ⟨r,1,none⟩ = some y) (h2 : w.cell? ⟨q,0,none⟩ = some z) :
    (results fn tmps).run Tryz.prog w = .ok (.tuple #[.agg #[x,y],z]) w :=by
  obtain ⟨i0,hi,hz0,hz1,hz2⟩ :=info_parts info23
  obtain ⟨i1,hj,hj0,hj1,hj2⟩ :=info_parts info3
  have hp' : tmps[t]?.getD undef = ptr r :=by simpa using hp
  have hq' : tmps[u]?.getD undef = ptr q :=by simpa using hq
  simp [results,h,hp',hq',go_sem,hi,hz1,hj,hj1,h0,h1,h2]
end Go.Proofs.YtfmmdamgcpiciaaGreatDoor
namespace Go.Proofs.YtfmmdamgcpiciaaGreatDoor
open Go Go.RowKit
open Plain
def horI (u : Int) : Nat → Int → List Dc → Int
  | _,a,[] => a
  | n,a,C :: r => horI u (n + 62) (a * u + C.sc (n + 62)) r
theorem hor_sc (U : Dc) (hu : 0 ≤ U.e + (62 : Nat)) : ∀ (l : List Dc) (A : Dc) (n : Nat),0 ≤ A.e + n → (∀ C ∈ l,0 ≤ C.e + n) → (hor U A l).sc (n + 62 * l.length) = horI (U.sc 62) n (A.sc n) l ∧ 0 ≤ (hor U A l).e + ((n + 62 * l.length : Nat) : Int)
  | [],A,n,h,_ => ⟨rfl,h⟩
  | C :: r,A,n,h,hl => by
    have hC :=hl C (List.mem_cons_self ..)
    have e1 : (A.mul U).e = A.e + U.e :=rfl
    have e2 : ((A.mul U).add C).e = min (A.mul U).e C.e :=rfl
    have s1 :=sc_mul A U n 62 h hu
    have s2 :=sc_add (A.mul U) C (n + 62) (by omega) (by omega)
    have ih :=hor_sc U hu r ((A.mul U).add C) (n + 62) (by omega) (fun D hD => by have :=hl D (List.mem_cons_of_mem _ hD);omega)
    rw [s2,s1] at ih
    rw [show n + 62 * (C :: r).length = n + 62 + 62 * r.length by rw [List.length_cons];omega]
    exact ih
theorem x_le (N k : Nat) (hk : k ≤ 18) (hN : N < 10 ^ (k + 1)) : ((N : Int) * ((10 ^ (40 - k) : Nat) : Int)).natAbs ≤ 10 * D40 :=by
  rw [Int.natAbs_mul,Int.natAbs_natCast,Int.natAbs_natCast]
  have h1 :=Nat.mul_le_mul_right (10 ^ (40 - k)) (Nat.le_of_lt hN)
  rw [← Nat.pow_add,show k + 1 + (40 - k) = 41 by omega] at h1
  exact Nat.le_trans h1 (by decide +kernel)
theorem down {m S P Q : Int} (hQ : 0 < Q) (h : ((m * Q * 10 ^ 40 - P * Q * S).natAbs : Int) * 10 ^ 13 < P * Q * 10 ^ 40) : ((m * 10 ^ 40 - S * P).natAbs : Int) * 10 ^ 13 < P * 10 ^ 40 :=by
  have e1 : m * Q * 10 ^ 40 - P * Q * S = Q * (m * 10 ^ 40 - S * P) :=by grind
  rw [e1,Int.natAbs_mul,Int.natCast_mul,Int.natAbs_of_nonneg (Int.le_of_lt hQ)] at h
  have e2 : P * Q * 10 ^ 40 = Q * (P * 10 ^ 40) :=by grind
  rw [e2,Int.mul_assoc] at h
  exact Int.lt_of_mul_lt_mul_left h (Int.le_of_lt hQ)
end Go.Proofs.YtfmmdamgcpiciaaGreatDoor
namespace Go.Proofs.YtfmmdamgcpiciaaGreatDoor
open Go Go.RowKit
theorem zzFits (w : World) (s : ByteArray) (e : Int) (h : s.size ≤ 2147483647) : Calls Tryz.prog 5 #[pd (.string s) e] w fun r w' => r = .returned (.bool true) ∧ Kept w w' :=by
  have kA : Kept w (Box23 w (.string s) (.int .i64 e)) :=Chg.alloc _ _ _
  have c0 : (Box23 w (.string s) (.int .i64 e)).cell? ⟨w.heap.size,0,none⟩ = some (.string s) :=by rw [World.cell?_alloc_at _ _ _ _ rfl];rfl
  obtain ⟨n,hn⟩ : ∃ n : Int,(s.size : Int) = n :=⟨_,rfl⟩
  have h2 : n ≤ 2147483647 :=by omega
  have h0 : 0 ≤ n :=by omega
  go_enter Tryz.func5,Tryz.ntmps5
  go_wp2
  first | go_ret | refine ⟨_,results_tmp rfl _ _ _,?_⟩
  exact ⟨rfl,kA⟩
end Go.Proofs.YtfmmdamgcpiciaaGreatDoor
namespace Go.Proofs.YtfmmdamgcpiciaaGreatDoor
open Go Go.RowKit
theorem sound (w : World) (A e : Int) (hA : A.natAbs < 10 ^ 999) (he1 : -3000 < e) (he2 : e < 3000) : Calls Tryz.prog 12 #[pd (str (txt A)) e] w fun r w' => r = .returned (.bool true) ∧ Kept w w' :=by
  have hp :=fun W => parseWhole W A hA
  have hst :=fun W v (h : WV W v A) => wholeString W v A h (Nat.lt_trans hA (Nat.pow_lt_pow_right (by decide) (by decide)))
  obtain ⟨s,hs⟩ : ∃ s,str (txt A) = .string s :=⟨_,rfl⟩
  rw [hs] at hp hst ⊢
  have kA : Kept w (Box23 w (.string s) (.int .i64 e)) :=Chg.alloc _ _ _
  have ce : ∀ W,Kept (Box23 w (.string s) (.int .i64 e)) W → W.cell? ⟨w.heap.size,1,none⟩ = some (.int .i64 e) ∧ W.cell? ⟨w.heap.size,0,none⟩ = some (.string s) :=fun W k => ⟨Kept.at k (by rw [World.cell?_alloc_at _ _ _ _ rfl];rfl),Kept.at k (by rw [World.cell?_alloc_at _ _ _ _ rfl];rfl)⟩
  obtain ⟨d,hd⟩ : ∃ b,decide (A < 0) = b :=⟨_,rfl⟩
  have Hd :=Lib.hid hd
  have hss : (s.toList == s.toList) = true :=by simp
  clear hA hs hd
  go_enter Tryz.func12,Tryz.ntmps12
  go_wp2_with (first
    | (refine wp_region_lit_segs (id :=2) [[0,1,2,4,5,3],[6,7,8,9,10,11,12,13,14,15,16,17,18]] mixed (by kernel_rfl) ?_;simp only [wpSegsL,gaC,gaN,lZ0,lS0,coS])
    | refine ⟨by kernel_rfl,?_⟩
    | (refine ⟨by kernel_rfl,oldD ky,?_⟩)
    | (refine ⟨oldD ky,?_⟩)
    | (go_at_call 42;(with_reducible refine (hp _).mono ?_);rintro r w1 ⟨⟨v1,rfl,s1,n1,c1,rfl,d1⟩,p1⟩;rw [Hd.out];have kr :=kt p1 (Chg.alloc w1 (.cells #[.bool d,.slice s1 n1 c1] 28) None2);have x0 :=box28_0 w1 (.bool d) (.slice s1 n1 c1);have x1 :=box28_1 w1 (.bool d) (.slice s1 n1 c1);obtain ⟨y1,y0⟩ :=ce _ kr;have wv1 : WV (w1.alloc (.cells #[.bool d,.slice s1 n1 c1] 28)).drew (.agg #[.bool d,.slice s1 n1 c1]) A :=⟨s1,n1,c1,(by rw [Hd.out]),d1.kept (kt (Chg.alloc _ _ _) (Chg.refl _ _).drew)⟩)
    | (go_at_call 33;(with_reducible refine (hst _ _ wv1).mono ?_);rintro r w2 ⟨rfl,p2⟩;have ky :=p2.of_drew;obtain ⟨y1,y0⟩ :=ce _ (kt kr ky)))
  first | go_ret | refine ⟨_,results_tmp rfl _ _ _,?_⟩
  exact ⟨by first | rfl | simp [he1,he2],kt kA (kt kr ky)⟩
end Go.Proofs.YtfmmdamgcpiciaaGreatDoor
namespace Go.Proofs.YtfmmdamgcpiciaaGreatDoor
open Go Go.RowKit
theorem says (w : World) (A : Int) (k : Nat) (v : Value) (M : Int) (D : Nat) (hA : A.natAbs < 10 ^ 999) (hk : k < 3000) (hv : FV w v M D) (hM : Sm M.natAbs) (hD : Sm D) (he : A * D = M * (10 ^ k : Nat)) : Calls Tryz.prog 13 #[pd (str (txt A)) (-(k : Int)),v] w fun r w' => r = .returned (.bool true) ∧ Kept w w' :=by
  have hSmA : Sm A.natAbs :=Nat.lt_trans hA (by
    show 10 ^ 999 < L9 ^ 399999
    have : 10 ^ 999 = L9 ^ 111 :=by decide
    rw [this]
    exact Nat.pow_lt_pow_right (by decide) (by decide))
  have hSmk : Sm (10 ^ k) :=Nat.lt_of_lt_of_le (Nat.pow_lt_pow_right (by decide) hk) (by
    show 10 ^ 3000 ≤ L9 ^ 399999
    have : 10 ^ 2997 = L9 ^ 333 :=by decide +kernel
    have h2 : 10 ^ 3000 ≤ L9 ^ 334 :=by decide +kernel
    exact Nat.le_trans h2 (Nat.pow_le_pow_right (by decide) (by decide)))
  have h12 :=fun W => sound W A (-(k : Int)) hA (by omega) (by omega)
  have h9 :=fun W => decIn W A (-(k : Int)) hA
  have h43 :=fun W v (h : DV W v A (-(k : Int))) => decFrac W v A k h hSmA (by omega)
  have h19 : ∀ W v1 v2,FV W v1 A (10 ^ k) → FV W v2 M D → Calls Tryz.prog 19 #[v1,v2] W fun r w' => r = .returned (.int .i64 0) ∧ Kept W w' :=fun W v1 v2 g1 g2 => by
    have :=fracCmp W v1 v2 A M (10 ^ k) D g1 g2 hSmA hM hSmk hD
    rw [he] at this
    have e0 : cmpZ (M * (10 ^ k : Nat)) (M * (10 ^ k : Nat)) = 0 :=by unfold cmpZ;simp
    rw [e0] at this
    exact this
  obtain ⟨s,hs⟩ : ∃ s,str (txt A) = .string s :=⟨_,rfl⟩
  obtain ⟨E,hE⟩ : ∃ E : Int,-(k : Int) = E :=⟨_,rfl⟩
  rw [hE,hs] at h12 h9
  rw [hE] at h43
  rw [hE,hs]
  obtain ⟨s1,n1,c1,s2,n2,c2,rfl,d1,d2⟩ :=hv
  have HV : ∀ W',Kept w W' → FV W' (.agg #[.bool (decide (M < 0)),.slice s1 n1 c1,.slice s2 n2 c2]) M D :=fun W' k' => ⟨s1,n1,c1,s2,n2,c2,rfl,d1.kept k',d2.kept k'⟩
  obtain ⟨b,hb⟩ : ∃ b,decide (M < 0) = b :=⟨_,rfl⟩
  rw [hb] at HV ⊢
  have kA : Kept w (Box23 w (.string s) (.int .i64 E)) :=Chg.alloc _ _ _
  have kB : Kept (Box23 w (.string s) (.int .i64 E)) ((Box23 w (.string s) (.int .i64 E)).alloc (.cells #[.bool b,.slice s1 n1 c1,.slice s2 n2 c2] 30)) :=Chg.alloc _ _ _
  have a0 :=Kept.at kB (show (Box23 w (.string s) (.int .i64 E)).cell? ⟨w.heap.size,0,none⟩ = some (.string s) by rw [World.cell?_alloc_at _ _ _ _ rfl];rfl)
  have a1 :=Kept.at kB (show (Box23 w (.string s) (.int .i64 E)).cell? ⟨w.heap.size,1,none⟩ = some (.int .i64 E) by rw [World.cell?_alloc_at _ _ _ _ rfl];rfl)
  obtain ⟨r0,r1,r2⟩ :=box3_cells (Box23 w (.string s) (.int .i64 E)) (.bool b) (.slice s1 n1 c1) (.slice s2 n2 c2) 30
  have e1 : (Box23 w (.string s) (.int .i64 E)).heap.size = w.heap.size + 1 :=by simp
  rw [e1] at r0 r1 r2
  have k0 :=kt kA kB
  obtain ⟨W,hW⟩ : ∃ W,((w.alloc (.cells #[.string s,.int .i64 E] 23)).alloc (.cells #[.bool b,.slice s1 n1 c1,.slice s2 n2 c2] 30)) = W :=⟨_,rfl⟩
  simp only [Box23,hW] at r0 r1 r2 a0 a1 k0
  have HW :=Lib.hid hW
  have ce : ∀ W',Kept W W' → W'.cell? ⟨w.heap.size,0,none⟩ = some (.string s) ∧ W'.cell? ⟨w.heap.size,1,none⟩ = some (.int .i64 E) ∧ W'.cell? ⟨w.heap.size + 1,0,none⟩ = some (.bool b) ∧ W'.cell? ⟨w.heap.size + 1,1,none⟩ = some (.slice s1 n1 c1) ∧ W'.cell? ⟨w.heap.size + 1,2,none⟩ = some (.slice s2 n2 c2) :=fun W' k => ⟨Kept.at k a0,Kept.at k a1,Kept.at k r0,Kept.at k r1,Kept.at k r2⟩
  clear hW kA kB e1 hA hk hM hD he hSmA hSmk hs hE hb d1 d2
  have kr : Kept W W.drew :=(Chg.refl _ _).drew
  go_enter Tryz.func13,Tryz.ntmps13
  go_upto_region 1 with fail
  rw [HW.out]
  go_wp2_with (first
    | (refine wp_region_lit_plan (id :=1) (.seg [0,1] (.seg [2] (.two 3 6 (.two 4 6 (.two 5 6 (.seg [6] (.seg [7] (.seg [8,9,10] .fin))) (.seg [5] (.seg [7] (.seg [8,9,10] .fin)))) (.seg [4] (.seg [5] (.seg [7] (.seg [8,9,10] .fin))))) (.seg [3] (.seg [4] (.seg [5] (.seg [7] (.seg [8,9,10] .fin)))))))) mixed (by kernel_rfl) ?_;simp only [wpPlanL,gaC,gaN,lZ0,lS0,coS])
    | refine ⟨by kernel_rfl,?_⟩
    | refine ⟨by kernel_rfl,oldD (by first | assumption | exact Chg.refl _ _ | exact (Chg.refl _ _).drew | exact kt (by first | assumption | exact (Chg.refl _ _).drew | exact Chg.refl _ _) (ziK _) | exact Chg.drew (by assumption)),?_⟩
    | refine ⟨oldD (by first | assumption | exact Chg.refl _ _ | exact (Chg.refl _ _).drew | exact kt (by first | assumption | exact (Chg.refl _ _).drew | exact Chg.refl _ _) (ziK _) | exact Chg.drew (by assumption)),?_⟩
    | (with_reducible refine And.intro ?_ ?_)
    | (go_at_call 12;(with_reducible refine (h12 _).mono ?_);rintro r w1 ⟨rfl,p1⟩;have k1 :=kt kr p1;obtain ⟨b0,b1,b2,b3,b4⟩ :=ce _ k1)
    | (go_at_call 9;(with_reducible refine (h9 _).mono ?_);rintro r w2 ⟨⟨v2,rfl,n2⟩,p2⟩;have k2 :=kt k1 p2;obtain ⟨y0,y1,y2,y3,y4⟩ :=ce _ k2)
    | (go_at_call 43;(with_reducible refine (h43 _ _ n2).mono ?_);rintro r w3 ⟨⟨v3,rfl,n3⟩,p3⟩;have k3 :=kt k2 p3;obtain ⟨x0,x1,x2,x3,x4⟩ :=ce _ k3)
    | (go_at_call 19;(with_reducible refine (h19 _ _ _ n3 (HV _ (kt k0 k3))).mono ?_);rintro r w4 ⟨rfl,p4⟩;have k4 :=kt k3 p4;obtain ⟨z0,z1,z2,z3,z4⟩ :=ce _ k4))
  all_goals (first | go_ret | refine ⟨_,results_tmp rfl _ _ _,?_⟩)
  all_goals exact ⟨by first | rfl | simp,kt k0 k4⟩
end Go.Proofs.YtfmmdamgcpiciaaGreatDoor
namespace Go.Proofs.YtfmmdamgcpiciaaGreatDoor
open Go Go.RowKit
theorem dl_val : ∀ (ds : List Nat),(∀ d ∈ ds,d < 10) → (∀ d,ds.getLast? = some d → d ≠ 0) → dl (val 10 ds) = ds
  | [],_,_ => dl_zero
  | d :: l,h1,h2 => by
    have hd : d < 10 :=h1 d (by simp)
    simp only [val]
    cases l with
    | nil =>
      have : d ≠ 0 :=h2 d rfl
      simp only [val,Nat.mul_zero,Nat.add_zero]
      rw [dl_pos this,show d / 10 = 0 by omega,dl_zero,show d % 10 = d by omega]
    | cons x l =>
      have ih :=dl_val (x :: l) (fun y hy => h1 y (List.mem_cons_of_mem _ hy)) (fun y hy => h2 y (by rw [List.getLast?_cons_cons];exact hy))
      have hv : val 10 (x :: l) ≠ 0 :=fun h => by rw [h,dl_zero] at ih;cases ih
      rw [dl_pos (by omega),show (d + 10 * val 10 (x :: l)) / 10 = val 10 (x :: l) by omega,ih,show (d + 10 * val 10 (x :: l)) % 10 = d by omega]
theorem digT_of {c : Nat} {l : List Nat} (h : ∀ x ∈ c :: l,48 ≤ x ∧ x ≤ 57) (hc : c ≠ 48) : digT (readD (c :: l)) = c :: l ∧ readD (c :: l) ≠ 0 :=by
  obtain ⟨ds,hds⟩ : ∃ ds,((c :: l).map (· - 48)).reverse = ds :=⟨_,rfl⟩
  have h1 : ∀ d ∈ ds,d < 10 :=by
    intro d hd
    rw [← hds,List.mem_reverse,List.mem_map] at hd
    obtain ⟨x,hx,rfl⟩ :=hd
    have :=h x hx
    omega
  have h2 : ∀ d,ds.getLast? = some d → d ≠ 0 :=by
    intro d hd
    rw [← hds,List.getLast?_reverse] at hd
    have e : c - 48 = d :=by simpa using hd
    have :=h c (by simp)
    omega
  have h3 : c :: l = ds.reverse.map (48 + ·) :=by
    rw [← hds,List.reverse_reverse,List.map_map]
    conv => lhs;rw [← List.map_id (c :: l)]
    refine List.map_congr_left fun x hx => ?_
    have :=h x hx
    simp only [id,Function.comp]
    omega
  have h4 : readD (c :: l) = val 10 ds :=by rw [h3];exact readD_rev ds h1
  have h5 :=dl_val ds h1 h2
  have hne : val 10 ds ≠ 0 :=fun e => by
    rw [e,dl_zero] at h5
    rw [← h5] at h3
    cases h3
  refine ⟨?_,by rw [h4];exact hne⟩
  rw [h4]
  unfold digT
  rw [if_neg hne,h5,h3]
def Fit (ys : List Nat) : Prop :=(∀ x ∈ ys,48 ≤ x ∧ x ≤ 57) ∧ ∀ c l,ys = c :: l → c ≠ 48
theorem Fit.snoc {ys : List Nat} {x : Nat} (h : Fit ys) (h1 : 48 ≤ x) (h2 : x ≤ 57) (h3 : 0 < ys.length ∨ x ≠ 48) : Fit (ys ++ [x]) :=by
  refine ⟨fun y hy => ?_,fun c l e => ?_⟩
  · rcases List.mem_append.1 hy with hy | hy
    · exact h.1 y hy
    · simp at hy;omega
  · cases ys with
    | nil =>
      simp at e
      have :=h3.resolve_left (by simp)
      omega
    | cons a r =>
      simp at e
      have :=h.2 a r rfl
      omega
theorem Fit.txt {ys : List Nat} (h : Fit ys) (hne : ys ≠ []) : txt (readD ys) = ys ∧ txt (-(readD ys : Int)) = 45 :: ys :=by
  obtain ⟨c,l,rfl⟩ :=List.exists_cons_of_ne_nil hne
  obtain ⟨h1,h2⟩ :=digT_of h.1 (h.2 c l rfl)
  unfold Go.Proofs.YtfmmdamgcpiciaaGreatDoor.txt
  rw [if_neg (by omega),if_pos (by omega),Int.natAbs_neg,Int.natAbs_natCast,h1]
  exact ⟨rfl,rfl⟩
theorem Fit.lt {ys : List Nat} (h : Fit ys) : readD ys < 10 ^ ys.length :=readD_lt ys h.1
@[go_sem] theorem conv_nil (W : World) : (convert 76 9 (.slice none 0 0)).run Tryz.prog W = .ok (.string { data :=#[] }) W :=by kernel_rfl
theorem bs_cons (c : Nat) (L : List Nat) : (bs [c]) ++ bs L = bs (c :: L) :=by
  apply ByteArray.ext
  simp [bs,ByteArray.append]
theorem decFit (w : World) (s : ByteArray) (e : Int) (hlen : s.size ≤ 2147483647) : Calls Tryz.prog 26 #[pd (.string s) e,.int .i64 20,.int .i64 18] w fun r w' => (∃ Z e' : Int,r = .returned (pd (str (txt Z)) e') ∧ Z.natAbs < 10 ^ 20 ∧ -18 ≤ e' ∧ e' ≤ 18) ∧ Kept w w' :=by
  have k1 : Kept w (Box23 w (.string s) (.int .i64 e)) :=Chg.alloc _ _ _
  have k2 : Kept (Box23 w (.string s) (.int .i64 e)) ((Box23 w (.string s) (.int .i64 e)).alloc (.cells #[.string { data :=#[] },.int .i64 0] 23)) :=Chg.alloc _ _ _
  have a0 :=Kept.at k2 (show (Box23 w (.string s) (.int .i64 e)).cell? ⟨w.heap.size,0,none⟩ = some (.string s) by rw [World.cell?_alloc_at _ _ _ _ rfl];rfl)
  have a1 :=Kept.at k2 (show (Box23 w (.string s) (.int .i64 e)).cell? ⟨w.heap.size,1,none⟩ = some (.int .i64 e) by rw [World.cell?_alloc_at _ _ _ _ rfl];rfl)
  have S0 :=slot23 (Box23 w (.string s) (.int .i64 e)) (.string { data :=#[] }) (.int .i64 0)
  have e1 : (Box23 w (.string s) (.int .i64 e)).heap.size = w.heap.size + 1 :=by simp
  rw [e1] at S0
  have k0 :=kt k1 k2
  obtain ⟨W,hW⟩ : ∃ W,((Box23 w (.string s) (.int .i64 e)).alloc (.cells #[.string { data :=#[] },.int .i64 0] 23)) = W :=⟨_,rfl⟩
  simp only [Box23] at hW
  simp only [Box23,hW] at S0 a0 a1 k0
  have HW :=Lib.hid hW
  clear hW k1 k2 e1
  obtain ⟨m,hm⟩ : ∃ m : Int,Int.tmod e 19 = m :=⟨_,rfl⟩
  have hm0 : m.natAbs < 19 :=by
    rw [← hm,Int.natAbs_tmod]
    exact Nat.mod_lt _ (by decide)
  have hm1 : -18 ≤ m :=by omega
  have hm2 : m ≤ 18 :=by omega
  clear hm0
  obtain ⟨N,hN⟩ : ∃ N,s.size = N :=⟨_,rfl⟩
  rw [hN] at hlen
  go_enter Tryz.func26,Tryz.ntmps26
  go_upto_region 1 with fail
  rw [HW.out]
  go_wp2_with fail
  go_loopw [7,8] (fun t7 t8 wx => ∃ (i n : Nat) (ys : List Nat) (s7 : Option Addr) (c7 : Nat),i ≤ N ∧ n ≤ 20 ∧ ys.length = n ∧ Hid (n = 0 → s7 = none ∧ c7 = 0) ∧ Hid (0 < n → 0 < i) ∧ t7 = .slice s7 n c7 ∧ t8 = .int .i64 i ∧ Hid (Fit ys) ∧ Hid (Sl .u8 W wx s7 c7 ys) ∧ Hid (Kept W wx)) (fun _ t8 _ => N - (intOf t8).toNat)
  case atStart => exact ⟨0,0,[],none,0,Nat.zero_le _,Nat.zero_le _,rfl,Lib.hid (fun _ => ⟨rfl,rfl⟩),Lib.hid (fun h => h),rfl,rfl,Lib.hid ⟨(fun _ h => by cases h),(fun _ _ h => by cases h)⟩,Lib.hid Sl.start,Lib.hid (Chg.refl _ _)⟩
  case round =>
    obtain ⟨i,n,ys,s7,c7,hiN,hn20,hyl,hn0,hni,rfl,rfl,hF,hS,hK⟩ :=hrel
    have b0 :=Kept.at hK.out a0
    by_cases hlt : i < N ∧ n < 20
    · obtain ⟨hi,hn⟩ :=hlt
      have his : i < s.size :=by omega
      have hx256 : (s[i]'his).toNat < 256 :=UInt8.toNat_lt _
      have hidx : ∀ W,(Instr.index 9 (.string s) (.int .i64 (i : Int))).run Tryz.prog W = .ok (.int .u8 ((s[i]'his).toNat : Int)) W :=fun W => str_index s i _ W his (fun _ => rfl)
      obtain ⟨x,hx⟩ : ∃ x,(s[i]'his).toNat = x :=⟨_,rfl⟩
      rw [hx] at hx256 hidx
      obtain ⟨A,eA⟩ : ∃ A : Int,(x : Int) = A :=⟨_,rfl⟩
      rw [eA] at hidx
      have A1 : 0 ≤ A :=by omega
      have A2 : A ≤ 255 :=by omega
      have HA :=Lib.hid eA
      clear hx hx256 eA
      rcases (by omega : A < 48 ∨ 57 < A ∨ (48 ≤ A ∧ A ≤ 57 ∧ 0 < n) ∨ (A = 48 ∧ n = 0) ∨ (48 < A ∧ A ≤ 57 ∧ n = 0)) with h | h | ⟨h1,h2,h3⟩ | ⟨rfl,rfl⟩ | ⟨h1,h2,rfl⟩
      · go_wp2_with fail
        go_roundw
        case rel => exact ⟨i + 1,n,ys,s7,c7,hi,hn20,hyl,hn0,Lib.hid (fun _ => Nat.succ_pos _),rfl,by go_num,hF,hS,hK⟩
        case measure => simp [intOf];omega
      · go_wp2_with fail
        go_roundw
        case rel => exact ⟨i + 1,n,ys,s7,c7,hi,hn20,hyl,hn0,Lib.hid (fun _ => Nat.succ_pos _),rfl,by go_num,hF,hS,hK⟩
        case measure => simp [intOf];omega
      · go_wp2_with (at_builtin;refine wp_gapp1 T76 (w0 :=W) rfl (.tmp 43) (.tmp 45) rfl rfl rfl rfl hS.out hK.out.size hyl (by omega) A1 ?_;intro s4 c4 w4 hS4 hC4 hD4)
        go_roundw
        case rel =>
          refine ⟨i + 1,n + 1,_,s4,c4,hi,hn,by simp [hyl],Lib.hid (fun h => by omega),Lib.hid (fun _ => Nat.succ_pos _),rfl,by go_num,Lib.hid (hF.out.snoc (by omega) (by omega) (.inl (by omega))),Lib.hid hS4,Lib.hid (hK.out.trans hC4 fun b' o hb h => ?_)⟩
          obtain ⟨a,ha,rfl⟩ :=h
          have :=(hS.out.lt ha).1
          omega
        case measure => simp [intOf];omega
      · go_wp2_with fail
        go_roundw
        case rel => exact ⟨i + 1,0,ys,s7,c7,hi,hn20,hyl,hn0,Lib.hid (fun _ => Nat.succ_pos _),rfl,by go_num,hF,hS,hK⟩
        case measure => simp [intOf];omega
      · go_wp2_with (at_builtin;refine wp_gapp1 T76 (w0 :=W) rfl (.tmp 43) (.tmp 45) rfl rfl rfl rfl hS.out hK.out.size hyl (by omega) A1 ?_;intro s4 c4 w4 hS4 hC4 hD4)
        go_roundw
        case rel =>
          refine ⟨i + 1,0 + 1,_,s4,c4,hi,hn,by simp [hyl],Lib.hid (fun h => by omega),Lib.hid (fun _ => Nat.succ_pos _),rfl,by go_num,Lib.hid (hF.out.snoc (by omega) (by omega) (.inr (by omega))),Lib.hid hS4,Lib.hid (hK.out.trans hC4 fun b' o hb h => ?_)⟩
          obtain ⟨a,ha,rfl⟩ :=h
          have :=(hS.out.lt ha).1
          omega
        case measure => simp [intOf];omega
    · obtain ⟨c0,c1⟩ : 0 ≤ (n : Int) ∧ (n : Int) ≤ 20 :=by omega
      rcases Nat.eq_zero_or_pos n with rfl | hp
      · obtain ⟨rfl,rfl⟩ :=hn0.out rfl
        have b1 :=Kept.at hK.out a1
        have S :=S0.kept hK.out
        obtain ⟨⟨u0,s0⟩,⟨u1,s1⟩,sf⟩ :=id S
        obtain rfl : i = N :=by omega
        clear hn0 hni hlt
        have hw19 : IntKind.i64.wrap 19 = 19 :=by decide
        have b2 :=Kept.at (Chg.alloc wr (.cells #[.string { data :=#[] },.int .i64 0] 23) None2) b1
        go_upto_region 8 with fail
        go_region
        have S2 :=S.kept (Chg.alloc wr (.cells #[.string { data :=#[48] },.int .i64 m] 23) None2)
        obtain ⟨⟨v0,r0⟩,⟨v1,r1⟩,rf⟩ :=id S2
        have f0 :=rf 0
        have f1 :=rf 1
        have r2 :=cs_ne (u :=.string { data :=#[48] }) r1 (b' :=w.heap.size + 1) (o' :=0) (by omega)
        go_wp2_with fail
        exact bodyPost_ret (results_23 (r :=w.heap.size + 1) rfl rfl (put2_0 (S2.kept (Chg.refl _ _).drew) _ _) (put2_1 (S2.kept (Chg.refl _ _).drew) _ _)) rfl ⟨⟨0,m,rfl,by decide,hm1,hm2⟩,(kt k0 (kt hK.out (kt (Chg.alloc wr (.cells #[.string { data :=#[48] },.int .i64 m] 23) None2) (Chg.refl _ _).drew))).keptNew (put2_chg _ _ _ _) fun b' _ h => by omega⟩
      · obtain ⟨j,rfl⟩ : ∃ j,n = j + 1 :=⟨n - 1,by omega⟩
        have hN0 : 0 < s.size :=by have :=hni.out (by omega);omega
        obtain ⟨x0,hx0⟩ : ∃ x,(s[0]'hN0).toNat = x :=⟨_,rfl⟩
        have hidx : ∀ W,(Instr.index 9 (.string s) (.int .i64 0)).run Tryz.prog W = .ok (.int .u8 (x0 : Int)) W :=fun W => by
          have :=str_index s 0 x0 W hN0 (fun _ => hx0)
          exact this
        have hs7 : ∃ g,s7 = some ⟨g,0,none⟩ ∧ OutK .u8 wr g 0 c7 ys :=by
          cases s7 with
          | none => have :=(hS.out.nil rfl).1;subst this;simp at hyl
          | some a => obtain ⟨g,rfl,h0,_,h⟩ :=hS.out.own a rfl;exact ⟨g,rfl,h⟩
        obtain ⟨g,rfl,hO⟩ :=hs7
        have hys : ys ≠ [] :=fun h => by subst h;simp at hyl
        obtain ⟨tp,tn⟩ :=hF.out.txt hys
        have hlt20 : readD ys < 10 ^ 20 :=Nat.lt_of_lt_of_le hF.out.lt (Nat.pow_le_pow_right (by decide) (by omega))
        have hstr :=bytes_str wr.drew g (j + 1) c7 ys hyl (fun x hx => by have :=hF.out.1 x hx;omega) (fun q x h => hO.row q x h)
        have hO2 :=hO.kept (Chg.alloc wr (.cells #[.string { data :=#[] },.int .i64 0] 23) None2)
        have hstr2 :=bytes_str (wr.alloc (.cells #[.string { data :=#[] },.int .i64 0] 23)).drew g (j + 1) c7 ys hyl (fun x hx => by have :=hF.out.1 x hx;omega) (fun q x h => hO2.row q x h)
        obtain ⟨T,hT⟩ : ∃ T,bs ys = T :=⟨_,rfl⟩
        rw [str_bs,hT] at hstr hstr2
        have hneg : ({ data :=#[45] } : ByteArray) ++ T = bs (45 :: ys) :=by rw [← hT];exact bs_cons 45 ys
        obtain ⟨T2,hT2⟩ : ∃ T,bs (45 :: ys) = T :=⟨_,rfl⟩
        rw [hT2] at hneg
        have hTz : T.size ≤ 20 :=by rw [← hT,bs_size];omega
        have HH :=Lib.hid (And.intro hT (And.intro hT2 (And.intro tp (And.intro tn hlt20))))
        have b1 :=Kept.at hK.out a1
        have S :=S0.kept hK.out
        obtain ⟨⟨u0,s0⟩,⟨u1,s1⟩,sf⟩ :=id S
        obtain ⟨X0,hX0⟩ : ∃ X : Int,(x0 : Int) = X :=⟨_,rfl⟩
        rw [hX0] at hidx
        obtain ⟨J,hJ⟩ : ∃ X : Int,((j + 1 : Nat) : Int) = X :=⟨_,rfl⟩
        have hJ1 : 1 ≤ J :=by omega
        have hJ2 : J ≤ 20 :=by omega
        clear hT hT2 tp tn hlt20 hO hO2 hS hF hx0 hX0 hn0 hni hyl c0 c1 hn20 hp hys
        have hw19 : IntKind.i64.wrap 19 = 19 :=by decide
        have b2 :=Kept.at (Chg.alloc wr (.cells #[.string { data :=#[] },.int .i64 0] 23) None2) b1
        have b3 :=Kept.at (Chg.alloc wr (.cells #[.string T,.int .i64 m] 23) None2) b0
        have hstr2 : (convert 76 9 (.slice (some ⟨g,0,none⟩) (j + 1) c7)).run Tryz.prog (wr.alloc (.cells #[.string { data :=#[] },.int .i64 0] 23)).drew = .ok (.string T) (wr.alloc (.cells #[.string { data :=#[] },.int .i64 0] 23)).drew :=hstr2
        rcases (by omega : i = N ∨ (i < N ∧ j = 19)) with rfl | ⟨hiN2,rfl⟩
        · clear hlt
          by_cases hx : X0 = 45
          · subst hx
            have S2 :=S.kept (Chg.alloc wr (.cells #[.string T2,.int .i64 m] 23) None2)
            obtain ⟨⟨v0,r0⟩,⟨v1,r1⟩,rf⟩ :=id S2
            have f0 :=rf 0
            have f1 :=rf 1
            have r2 :=cs_ne (u :=.string T2) r1 (b' :=w.heap.size + 1) (o' :=0) (by omega)
            go_upto_region 8 with fail
            go_region
            all_goals go_wp2_with fail
            all_goals exact bodyPost_ret (results_23 (r :=w.heap.size + 1) rfl rfl (put2_0 (S2.kept (Chg.refl _ _).drew) _ _) (put2_1 (S2.kept (Chg.refl _ _).drew) _ _)) rfl ⟨⟨-(readD ys : Int),m,by obtain ⟨_,q2,_,q4,_⟩ :=HH.out;rw [q4,str_bs,q2],by obtain ⟨_,_,_,_,q5⟩ :=HH.out;rw [Int.natAbs_neg,Int.natAbs_natCast];exact q5,hm1,hm2⟩,(kt k0 (kt hK.out (kt (Chg.alloc wr (.cells #[.string T2,.int .i64 m] 23) None2) (Chg.refl _ _).drew))).keptNew (put2_chg _ _ _ _) fun b' _ h => by omega⟩
          · skip
            have S2 :=S.kept (Chg.alloc wr (.cells #[.string T,.int .i64 m] 23) None2)
            obtain ⟨⟨v0,r0⟩,⟨v1,r1⟩,rf⟩ :=id S2
            have f0 :=rf 0
            have f1 :=rf 1
            have r2 :=cs_ne (u :=.string T) r1 (b' :=w.heap.size + 1) (o' :=0) (by omega)
            go_upto_region 8 with fail
            go_region
            all_goals go_wp2_with fail
            all_goals exact bodyPost_ret (results_23 (r :=w.heap.size + 1) rfl rfl (put2_0 (S2.kept (Chg.refl _ _).drew) _ _) (put2_1 (S2.kept (Chg.refl _ _).drew) _ _)) rfl ⟨⟨(readD ys : Int),m,by obtain ⟨q1,_,q3,_,_⟩ :=HH.out;rw [q3,str_bs,q1],by obtain ⟨_,_,_,_,q5⟩ :=HH.out;rw [Int.natAbs_natCast];exact q5,hm1,hm2⟩,(kt k0 (kt hK.out (kt (Chg.alloc wr (.cells #[.string T,.int .i64 m] 23) None2) (Chg.refl _ _).drew))).keptNew (put2_chg _ _ _ _) fun b' _ h => by omega⟩
        · clear hlt
          by_cases hx : X0 = 45
          · subst hx
            have S2 :=S.kept (Chg.alloc wr (.cells #[.string T2,.int .i64 m] 23) None2)
            obtain ⟨⟨v0,r0⟩,⟨v1,r1⟩,rf⟩ :=id S2
            have f0 :=rf 0
            have f1 :=rf 1
            have r2 :=cs_ne (u :=.string T2) r1 (b' :=w.heap.size + 1) (o' :=0) (by omega)
            go_upto_region 8 with fail
            go_region
            all_goals go_wp2_with fail
            all_goals exact bodyPost_ret (results_23 (r :=w.heap.size + 1) rfl rfl (put2_0 (S2.kept (Chg.refl _ _).drew) _ _) (put2_1 (S2.kept (Chg.refl _ _).drew) _ _)) rfl ⟨⟨-(readD ys : Int),m,by obtain ⟨_,q2,_,q4,_⟩ :=HH.out;rw [q4,str_bs,q2],by obtain ⟨_,_,_,_,q5⟩ :=HH.out;rw [Int.natAbs_neg,Int.natAbs_natCast];exact q5,hm1,hm2⟩,(kt k0 (kt hK.out (kt (Chg.alloc wr (.cells #[.string T2,.int .i64 m] 23) None2) (Chg.refl _ _).drew))).keptNew (put2_chg _ _ _ _) fun b' _ h => by omega⟩
          · skip
            have S2 :=S.kept (Chg.alloc wr (.cells #[.string T,.int .i64 m] 23) None2)
            obtain ⟨⟨v0,r0⟩,⟨v1,r1⟩,rf⟩ :=id S2
            have f0 :=rf 0
            have f1 :=rf 1
            have r2 :=cs_ne (u :=.string T) r1 (b' :=w.heap.size + 1) (o' :=0) (by omega)
            go_upto_region 8 with fail
            go_region
            all_goals go_wp2_with fail
            all_goals exact bodyPost_ret (results_23 (r :=w.heap.size + 1) rfl rfl (put2_0 (S2.kept (Chg.refl _ _).drew) _ _) (put2_1 (S2.kept (Chg.refl _ _).drew) _ _)) rfl ⟨⟨(readD ys : Int),m,by obtain ⟨q1,_,q3,_,_⟩ :=HH.out;rw [q3,str_bs,q1],by obtain ⟨_,_,_,_,q5⟩ :=HH.out;rw [Int.natAbs_natCast];exact q5,hm1,hm2⟩,(kt k0 (kt hK.out (kt (Chg.alloc wr (.cells #[.string T,.int .i64 m] 23) None2) (Chg.refl _ _).drew))).keptNew (put2_chg _ _ _ _) fun b' _ h => by omega⟩
end Go.Proofs.YtfmmdamgcpiciaaGreatDoor
namespace Go.Proofs.YtfmmdamgcpiciaaGreatDoor
open Go Go.RowKit
theorem rounds0 (w : World) (neg : Bool) (half : Int) (odd : Bool) : Calls Tryz.prog 76 #[.int .i64 0,.bool neg,.int .i64 half,.bool odd] w fun r w' => r = .returned (.bool false) ∧ w' = w :=by
  go_enter Tryz.func76,Tryz.ntmps76
  go_wp2
  first | go_ret | refine ⟨_,results_tmp rfl _ _ _,?_⟩
  exact ⟨rfl,rfl⟩
def cutq (N : Int) (D p : Nat) : Int :=sgn (decide (N < 0)) (N.natAbs * 10 ^ p / D)
theorem fracRound (w : World) (v : Value) (N : Int) (D p : Nat) (h : FV w v N D) (hD0 : 0 < D) (hp : p ≤ 1000) (hN : N.natAbs < L9 ^ 100000) (hD : D < L9 ^ 100000) : Calls Tryz.prog 36 #[v,.int .i64 (p : Int),.int .i64 0] w fun r w' => (∃ v',r = .returned v' ∧ DV w' v' (cutq N D p) (-(p : Int))) ∧ Kept w w' :=by
  obtain ⟨s,n,c,s2,n2,c2,rfl,d1,d2⟩ :=h
  have l1 :=d1.len_le hN
  have l2 :=d2.len_le hD
  have hpw :=fun W => natPow10 W p (by omega)
  have hmu : ∀ W s3 n3 c3,Kept w W → Dig W s3 n3 c3 (10 ^ p) → Calls Tryz.prog 40 #[.slice s n c,.slice s3 n3 c3] W fun r w' => (∃ v',r = .returned v' ∧ NV w' v' (N.natAbs * 10 ^ p)) ∧ Kept W w' :=fun W s3 n3 c3 k h => natMul W s s3 n n3 c c3 _ _ (d1.kept k) h (by omega) (by
    have :=h.len_le (k :=1000) (Nat.lt_of_le_of_lt (Nat.pow_le_pow_right (by decide) hp) (by decide))
    omega)
  have hdv : ∀ W s3 n3 c3,Kept w W → Dig W s3 n3 c3 (N.natAbs * 10 ^ p) → Calls Tryz.prog 75 #[.slice s3 n3 c3,.slice s2 n2 c2] W fun e w' => (∃ v1 v2,e = .returned (.tuple #[v1,v2]) ∧ NV w' v1 (N.natAbs * 10 ^ p / D) ∧ NV w' v2 (N.natAbs * 10 ^ p % D)) ∧ Kept W w' :=fun W s3 n3 c3 k h => natDiv W s3 s2 n3 n2 c3 c2 _ D h (d2.kept k) hD0 (by
    have e1 : 10 ^ p < L9 ^ 1000 :=Nat.lt_of_le_of_lt (Nat.pow_le_pow_right (by decide) hp) (by decide)
    have :=h.len_le (k :=100000 + 1000) (by rw [Nat.pow_add];exact Nat.mul_lt_mul'' hN e1)
    omega) (by omega)
  obtain ⟨d,hd⟩ : ∃ b,decide (N < 0) = b :=⟨_,rfl⟩
  obtain ⟨P,hP⟩ : ∃ P : Int,(p : Int) = P :=⟨_,rfl⟩
  obtain ⟨Q,hQ⟩ : ∃ Q,N.natAbs * 10 ^ p / D = Q :=⟨_,rfl⟩
  obtain ⟨R,hR⟩ : ∃ R,N.natAbs * 10 ^ p % D = R :=⟨_,rfl⟩
  have hRD : R < D :=by rw [← hR];exact Nat.mod_lt _ hD0
  obtain ⟨Z,hZ⟩ : ∃ Z,cutq N D p = Z :=⟨_,rfl⟩
  have hwo : ∀ W v,NV W v Q → Calls Tryz.prog 35 #[.bool d,v] W fun r w' => (∃ v',r = .returned v' ∧ WV w' v' Z) ∧ Kept W w' :=fun W v h => by
    have :=wholeOf W d v Q h
    rw [← hd,← hQ] at this
    have e : sgn (decide (N < 0)) (N.natAbs * 10 ^ p / D) = Z :=hZ
    rw [e,hd] at this
    exact this
  rw [hP] at hpw
  rw [hQ,hR] at hdv
  rw [hd,hP,hZ]
  have hP0 : 0 ≤ P :=by omega
  have hP1 : P ≤ 1000 :=by omega
  have O :=one3 w (.bool d) (.slice s n c) (.slice s2 n2 c2) (.slice none 0 0) (.int .i64 0) 30 37
  obtain ⟨W,hW⟩ : ∃ W,((w.alloc (.cells #[.bool d,.slice s n c,.slice s2 n2 c2] 30)).alloc (.cells #[.bool false,.slice none 0 0,.int .i64 0] 37)) = W :=⟨_,rfl⟩
  rw [hW] at O
  have HW :=Lib.hid hW
  have HD :=Lib.hid d2
  have HL :=Lib.hid (And.intro l2 hRD)
  clear hW hd hQ hR hZ hP hN hD hD0 hp d1 d2 l1 l2 hRD
  obtain ⟨z,hz⟩ : ∃ b,decide (Z < 0) = b :=⟨_,rfl⟩
  obtain ⟨q0,q1,q2,q3,q4,q5⟩ :=id O
  go_enter Tryz.func36,Tryz.ntmps36
  go_upto_region 1 with fail
  rw [HW.out]
  go_upto_region 6 with (first
    | (refine wp_region_lit_segs (id :=1) [[0,1,2,3,4,5,6]] mixed (by kernel_rfl) ?_;simp only [wpSegsL,gaC,gaN,lZ0,lS0,coS])
    | refine ⟨by kernel_rfl,?_⟩
    | (refine ⟨by kernel_rfl,oldD kr,?_⟩)
    | (refine ⟨oldD kr,?_⟩)
    | (go_at_call 17;(with_reducible refine (hpw _).mono ?_);rintro r w1 ⟨⟨v1,rfl,s3,n3,c3,rfl,d3⟩,p1⟩;have kr : Kept W _ :=kt (Chg.refl _ _).drew p1)
    | (go_at_call 40;(with_reducible refine (hmu _ _ _ _ (kt O.k kr) d3).mono ?_);rintro r w2 ⟨⟨v2,rfl,s4,n4,c4,rfl,d4⟩,p2⟩;replace kr :=kt kr p2)
    | (go_at_call 75;(with_reducible refine (hdv _ _ _ _ (kt O.k kr) d4).mono ?_);rintro r w3 ⟨⟨v3,v4,rfl,⟨sq,nq,cq,rfl,dq⟩,⟨sr,nr,cr,rfl,dr⟩⟩,p3⟩;replace kr :=kt kr p3))
  have k3 :=kr
  have hnr : nr ≤ 100000 :=by
    obtain ⟨l2,hRD⟩ :=HL.out
    rcases Nat.lt_or_ge n2 nr with h | h
    · have :=HD.out.len_ge dr h;omega
    · omega
  have hadd : ∀ W',Kept w3 W' → Calls Tryz.prog 78 #[.slice sr nr cr,.slice sr nr cr] W' fun e w' => (∃ v,e = .returned v ∧ NV w' v (R + R)) ∧ Kept W' w' :=fun W' k => natAdd W' sr sr nr nr cr cr R R (dr.kept k) (dr.kept k) (by omega) (by omega)
  have hdq : NV w3 (.slice sq nq cq) Q :=⟨sq,nq,cq,rfl,dq⟩
  have ky : Kept w3 w3.drew :=(Chg.refl _ _).drew
  have a0 :=Kept.at kr q1
  clear p1 p2 p3 d3 d4 hpw hmu hdv kr
  rcases (by omega : nr = 0 ∨ (0 < nr ∧ nq = 0) ∨ (0 < nr ∧ 0 < nq)) with rfl | ⟨h1,rfl⟩ | ⟨h1,h2⟩
  · replace k3 :=kt k3 ky
    go_wp2_with (first
      | (refine wp_region_lit_segs (id :=6) [[0,1,2,3,4,5,6,7,8,9,11,13,14,15,10],[12],[16,17,18,19],[20,21,22,23,24]] mixed (by kernel_rfl) ?_;simp only [wpSegsL,gaC,gaN,lZ0,lS0,coS])
      | refine ⟨by kernel_rfl,?_⟩
      | (refine ⟨by kernel_rfl,oldD ky,?_⟩)
      | (refine ⟨oldD ky,?_⟩)
      | (go_at_call 78;(with_reducible refine (hadd _ (Chg.refl _ _).drew).mono ?_);rintro r w4 ⟨⟨v4,rfl,s5,n5,c5,rfl,d5⟩,p4⟩;have ky :=p4.of_drew;replace k3 :=kt k3 ky)
      | (go_at_call 77;(with_reducible refine (natCmp _ s5 s2 n5 n2 c5 c2 _ D d5 (HD.out.kept (kt q0 k3))).mono ?_);rintro r w5 ⟨rfl,p5⟩;replace ky :=kt ky p5;replace k3 :=kt k3 p5;have a0 :=Kept.at k3 q1;(try have c6 :=Kept.at ky c6'))
      | (go_at_call 76;(with_reducible refine (rounds0 _ d _ _).mono ?_);rintro r w6 ⟨rfl,hw6⟩;subst hw6)
      | (go_at_call 35;(with_reducible refine (hwo _ _ (hdq.kept ky)).mono ?_);rintro r w7 ⟨⟨v7,rfl,s7,n7,c7,rfl,d7⟩,p7⟩;rw [hz];replace k3 :=kt k3 p7;obtain ⟨⟨u0,x0⟩,⟨u1,x1,t1⟩,⟨u2,x2,t2⟩,f0,f1,f2⟩ :=(O.keep k3).S.use))
    exact ⟨_,results_37 (r :=w.heap.size + 1) rfl rfl (put3_cells (O.keep k3).S _ _ _),⟨s7,n7,c7,by rw [hz],d7.set (O.keep k3).r0 (put3_chg _ _ _ _ _)⟩,(kt O.k k3).keptNew (put3_chg _ _ _ _ _) fun b' _ h => by omega⟩
  · have h1' : (nr : Int) > 0 :=by omega
    go_wp2_with (first
      | (refine wp_region_lit_segs (id :=6) [[0,1,2,3,4,5,6,7,8,9,11,13,14,15,10],[12],[16,17,18,19],[20,21,22,23,24]] mixed (by kernel_rfl) ?_;simp only [wpSegsL,gaC,gaN,lZ0,lS0,coS])
      | refine ⟨by kernel_rfl,?_⟩
      | (refine ⟨by kernel_rfl,oldD ky,?_⟩)
      | (refine ⟨oldD ky,?_⟩)
      | (go_at_call 78;(with_reducible refine (hadd _ (Chg.refl _ _).drew).mono ?_);rintro r w4 ⟨⟨v4,rfl,s5,n5,c5,rfl,d5⟩,p4⟩;have ky :=p4.of_drew;replace k3 :=kt k3 ky)
      | (go_at_call 77;(with_reducible refine (natCmp _ s5 s2 n5 n2 c5 c2 _ D d5 (HD.out.kept (kt q0 k3))).mono ?_);rintro r w5 ⟨rfl,p5⟩;replace ky :=kt ky p5;replace k3 :=kt k3 p5;have a0 :=Kept.at k3 q1;(try have c6 :=Kept.at ky c6'))
      | (go_at_call 76;(with_reducible refine (rounds0 _ d _ _).mono ?_);rintro r w6 ⟨rfl,hw6⟩;subst hw6)
      | (go_at_call 35;(with_reducible refine (hwo _ _ (hdq.kept ky)).mono ?_);rintro r w7 ⟨⟨v7,rfl,s7,n7,c7,rfl,d7⟩,p7⟩;rw [hz];replace k3 :=kt k3 p7;obtain ⟨⟨u0,x0⟩,⟨u1,x1,t1⟩,⟨u2,x2,t2⟩,f0,f1,f2⟩ :=(O.keep k3).S.use))
    exact ⟨_,results_37 (r :=w.heap.size + 1) rfl rfl (put3_cells (O.keep k3).S _ _ _),⟨s7,n7,c7,by rw [hz],d7.set (O.keep k3).r0 (put3_chg _ _ _ _ _)⟩,(kt O.k k3).keptNew (put3_chg _ _ _ _ _) fun b' _ h => by omega⟩
  · have h1' : (nr : Int) > 0 :=by omega
    have h2' : (nq : Int) > 0 :=by omega
    obtain ⟨xs,e1,e2,e3,e4,e5,e6⟩ :=id dq
    obtain ⟨g,rfl,r1⟩ :=e5.row (fun e => by subst e;simp at e1;omega)
    have hqc : 0 < cq :=by omega
    have c6' :=r1 0 xs[0] (List.getElem?_eq_getElem (by omega))
    generalize xs[0] = x at c6'
    simp only [Nat.zero_add] at c6'
    go_wp2_with (first
      | (refine wp_region_lit_segs (id :=6) [[0,1,2,3,4,5,6,7,8,9,11,13,14,15,10],[12],[16,17,18,19],[20,21,22,23,24]] mixed (by kernel_rfl) ?_;simp only [wpSegsL,gaC,gaN,lZ0,lS0,coS])
      | refine ⟨by kernel_rfl,?_⟩
      | (refine ⟨by kernel_rfl,oldD ky,?_⟩)
      | (refine ⟨oldD ky,?_⟩)
      | (go_at_call 78;(with_reducible refine (hadd _ (Chg.refl _ _).drew).mono ?_);rintro r w4 ⟨⟨v4,rfl,s5,n5,c5,rfl,d5⟩,p4⟩;have ky :=p4.of_drew;replace k3 :=kt k3 ky)
      | (go_at_call 77;(with_reducible refine (natCmp _ s5 s2 n5 n2 c5 c2 _ D d5 (HD.out.kept (kt q0 k3))).mono ?_);rintro r w5 ⟨rfl,p5⟩;replace ky :=kt ky p5;replace k3 :=kt k3 p5;have a0 :=Kept.at k3 q1;(try have c6 :=Kept.at ky c6'))
      | (go_at_call 76;(with_reducible refine (rounds0 _ d _ _).mono ?_);rintro r w6 ⟨rfl,hw6⟩;subst hw6)
      | (go_at_call 35;(with_reducible refine (hwo _ _ (hdq.kept ky)).mono ?_);rintro r w7 ⟨⟨v7,rfl,s7,n7,c7,rfl,d7⟩,p7⟩;rw [hz];replace k3 :=kt k3 p7;obtain ⟨⟨u0,x0⟩,⟨u1,x1,t1⟩,⟨u2,x2,t2⟩,f0,f1,f2⟩ :=(O.keep k3).S.use))
    exact ⟨_,results_37 (r :=w.heap.size + 1) rfl rfl (put3_cells (O.keep k3).S _ _ _),⟨s7,n7,c7,by rw [hz],d7.set (O.keep k3).r0 (put3_chg _ _ _ _ _)⟩,(kt O.k k3).keptNew (put3_chg _ _ _ _ _) fun b' _ h => by omega⟩
end Go.Proofs.YtfmmdamgcpiciaaGreatDoor
