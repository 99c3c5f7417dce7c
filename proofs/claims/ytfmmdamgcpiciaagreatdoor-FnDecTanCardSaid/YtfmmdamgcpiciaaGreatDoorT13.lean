/- A part of the proof, joined out of the texts J3, J4, J5, J6, Q4, P3, J7; each theorem bears its own conditions. -/
import Derived.Test.YtfmmdamgcpiciaaGreatDoorT10
import Derived.Test.YtfmmdamgcpiciaaGreatDoorT11
import Derived.Test.YtfmmdamgcpiciaaGreatDoorT12
set_option linter.unusedVariables false
set_option linter.unusedSimpArgs false
set_option linter.all false
set_option maxHeartbeats 9000000
set_option exponentiation.threshold 400000
set_option maxRecDepth 1000000
namespace Go.Proofs.YtfmmdamgcpiciaaGreatDoor
open Go Go.RowKit
def rnd (Z Y : Int) (neg : Bool) : Int :=if 2 * (Z.tmod Y).natAbs < Y.natAbs then Z.tdiv Y else if neg then Z.tdiv Y - 1 else Z.tdiv Y + 1
theorem dec_divRound (w : World) (hg : Glob w) (b1 b2 n : Nat) (e1 e2 X Y : Int) (h1 : IntAt w b1 X) (h2 : IntAt w b2 Y) (hY0 : Y ≠ 0) (hn : (n : Int) = e1 - e2 + 16) (hn4 : n ≤ 420) (hX : X.natAbs < W39) (hXn : (X * ((10 ^ n : Nat) : Int)).natAbs < W39) (hYB : Y.natAbs < W39) (l1 : -1000 ≤ e1) (u1 : e1 ≤ 1000) (l2 : -1000 ≤ e2) (u2 : e2 ≤ 1000) :
    Calls Tryz.prog 105 #[dv b1 e1,dv b2 e2,.int .i32 16] w (NewDec w (rnd (X * ((10 ^ n : Nat) : Int)) Y (decide (Int.sign X * Int.sign Y < 0))) (-16)) :=by
  have P :=box3R w (ptr b1) (.int .i32 e1) (ptr b2) (.int .i32 e2)
  have hW :=box3K w (ptr b1) (.int .i32 e1) (ptr b2) (.int .i32 e2)
  have hS :=box3S w (ptr b1) (.int .i32 e1) (ptr b2) (.int .i32 e2)
  have a0 : (Box3 w (ptr b1) (.int .i32 e1) (ptr b2) (.int .i32 e2)).cell? ⟨w.heap.size,0,none⟩ = some (ptr b1) :=Kept.at (kt (boxK _ _ _) (boxK _ _ _)) (box0 w _ _)
  have a1 : (Box3 w (ptr b1) (.int .i32 e1) (ptr b2) (.int .i32 e2)).cell? ⟨w.heap.size,1,none⟩ = some (.int .i32 e1) :=Kept.at (kt (boxK _ _ _) (boxK _ _ _)) (box1 w _ _)
  have c0 :=Kept.at (boxK (Box (Box w (ptr b1) (.int .i32 e1)) (ptr b2) (.int .i32 e2)) (.pointer none) (.int .i32 0)) (box0 (Box w (ptr b1) (.int .i32 e1)) (ptr b2) (.int .i32 e2))
  have c1 :=Kept.at (boxK (Box (Box w (ptr b1) (.int .i32 e1)) (ptr b2) (.int .i32 e2)) (.pointer none) (.int .i32 0)) (box1 (Box w (ptr b1) (.int .i32 e1)) (ptr b2) (.int .i32 e2))
  have e1' : (Box w (ptr b1) (.int .i32 e1)).heap.size = w.heap.size + 1 :=by simp
  rw [e1'] at c0 c1
  obtain ⟨W,hWe⟩ : ∃ V,Box3 w (ptr b1) (.int .i32 e1) (ptr b2) (.int .i32 e2) = V :=⟨_,rfl⟩
  simp only [Box3] at hWe
  simp only [Box3,hWe] at P hW hS a0 a1 c0 c1
  simp only [Box] at hWe
  have HW :=Lib.hid hWe
  clear hWe e1'
  have ce : ∀ W',Kept W W' → W'.cell? ⟨w.heap.size,0,none⟩ = some (ptr b1) ∧ W'.cell? ⟨w.heap.size,1,none⟩ = some (.int .i32 e1) ∧ W'.cell? ⟨w.heap.size + 1,0,none⟩ = some (ptr b2) ∧ W'.cell? ⟨w.heap.size + 1,1,none⟩ = some (.int .i32 e2) :=fun W' k => ⟨Kept.at k a0,Kept.at k a1,Kept.at k c0,Kept.at k c1⟩
  have kz : Kept W (W.alloc (.cells #[.bool false,.slice none 0 0] 112)) :=Chg.alloc _ _ _
  have hq :=dec_quoRem W _ (hg.kept hW) kz W.heap.size b1 b2 n e1 e2 X Y (h1.kept hW) (h2.kept hW) (Nat.le_refl _) (ZeroInt.made W) hY0 hn hn4 hX hXn l1 u1 l2 u2
  obtain ⟨Q,hQ⟩ : ∃ Q,(X * ((10 ^ n : Nat) : Int)).tdiv Y = Q :=⟨_,rfl⟩
  obtain ⟨R,hR⟩ : ∃ R,(X * ((10 ^ n : Nat) : Int)).tmod Y = R :=⟨_,rfl⟩
  unfold rnd
  rw [hQ,hR] at hq ⊢
  have hRB : R.natAbs < W39 :=by
    rw [← hR,Int.natAbs_tmod]
    exact Nat.lt_trans (Nat.mod_lt _ (by omega)) hYB
  have hQB : Q.natAbs < W39 :=by
    rw [← hQ,Int.natAbs_tdiv]
    exact Nat.lt_of_le_of_lt (Nat.div_le_self _ _) hXn
  have HQB :=Lib.hid hQB
  clear hQB
  obtain ⟨G,hG⟩ : ∃ G,(if 2 * R.natAbs < Y.natAbs then Q else if decide (Int.sign X * Int.sign Y < 0) then Q - 1 else Q + 1) = G :=⟨_,rfl⟩
  rw [hG]
  have HG :=Lib.hid hG
  have HS :=Lib.hid hS
  clear hXn hX hn hQ hR hG hS
  obtain ⟨x0,x1,x2,x3⟩ :=ce _ kz
  go_enter Tryz.func105,Tryz.ntmps105
  go_upto_region 1 with fail
  rw [HW.out]
  go_upto_region 4 with (go_at_call 122;(with_reducible refine hq.mono ?_);rintro r w5 ⟨⟨bq,br,er,rfl,g1,g2,g3⟩,p5⟩)
  obtain ⟨V6,hV6⟩ : ∃ V,(w5.alloc (.cells #[.pointer (some ⟨bq,0,none⟩),.int .i32 (-16)] 55)).alloc (.cells #[.pointer (some ⟨br,0,none⟩),.int .i32 er] 55) = V :=⟨_,rfl⟩
  have kA : Kept w5 (w5.alloc (.cells #[.pointer (some ⟨bq,0,none⟩),.int .i32 (-16)] 55)) :=Chg.alloc _ _ _
  have kB : Kept (w5.alloc (.cells #[.pointer (some ⟨bq,0,none⟩),.int .i32 (-16)] 55)) V6 :=hV6 ▸ Chg.alloc _ _ _
  have i0 :=Kept.at kB (box0 w5 (.pointer (some ⟨bq,0,none⟩)) (.int .i32 (-16)))
  have i1 :=Kept.at kB (box1 w5 (.pointer (some ⟨bq,0,none⟩)) (.int .i32 (-16)))
  have j0 : V6.cell? ⟨w5.heap.size + 1,0,none⟩ = some (ptr br) :=by
    have h :=box0 (w5.alloc (.cells #[.pointer (some ⟨bq,0,none⟩),.int .i32 (-16)] 55)) (ptr br) (.int .i32 er)
    rw [show (w5.alloc (.cells #[.pointer (some ⟨bq,0,none⟩),.int .i32 (-16)] 55)).heap.size = w5.heap.size + 1 by simp] at h
    exact hV6 ▸ h
  have j1 : V6.cell? ⟨w5.heap.size + 1,1,none⟩ = some (.int .i32 er) :=by
    have h :=box1 (w5.alloc (.cells #[.pointer (some ⟨bq,0,none⟩),.int .i32 (-16)] 55)) (ptr br) (.int .i32 er)
    rw [show (w5.alloc (.cells #[.pointer (some ⟨bq,0,none⟩),.int .i32 (-16)] 55)).heap.size = w5.heap.size + 1 by simp] at h
    exact hV6 ▸ h
  have s6 : V6.heap.size = w5.heap.size + 2 :=by rw [← hV6];simp
  rw [hV6]
  have k6 :=kt kA kB
  have Z6 :=ZeroInt.made V6
  clear hV6 kA kB x0 x1 x2 x3 hq
  rw [s6] at Z6
  have S6 :=Lib.hid s6
  have kC : Kept V6 (V6.alloc (.cells #[.bool false,.slice none 0 0] 112)) :=Chg.alloc _ _ _
  obtain ⟨W6,hW6⟩ : ∃ V,V6.alloc (.cells #[.bool false,.slice none 0 0] 112) = V :=⟨_,rfl⟩
  rw [hW6] at Z6 kC ⊢
  have K6 :=kt k6 kC
  have de : ∀ W',Kept V6 W' → W'.cell? ⟨w5.heap.size,0,none⟩ = some (ptr bq) ∧ W'.cell? ⟨w5.heap.size,1,none⟩ = some (.int .i32 (-16)) ∧ W'.cell? ⟨w5.heap.size + 1,0,none⟩ = some (ptr br) ∧ W'.cell? ⟨w5.heap.size + 1,1,none⟩ = some (.int .i32 er) :=fun W' k => ⟨Kept.at k i0,Kept.at k i1,Kept.at k j0,Kept.at k j1⟩
  obtain ⟨x0,x1,x2,x3⟩ :=de _ kC
  have hbr :=g2.at.lt
  have hab : ∀ W',Kept W6 W' → Calls Tryz.prog 87 #[ptr (w5.heap.size + 2),ptr br] W' fun e w' => e = .returned (ptr (w5.heap.size + 2)) ∧ IntN V6 w' (w5.heap.size + 2) R.natAbs ∧ Kept V6 w' :=fun W' k => int_abs V6 W' (kt kC k) (w5.heap.size + 2) br (by omega) (Z6.kept k) R (g2.at.kept (kt K6 k)) (by omega)
  clear hW6 s6
  obtain ⟨z,hz⟩ : ∃ z,cmpI (((R.natAbs : Nat) : Int) * 2).natAbs Y.natAbs = z :=⟨_,rfl⟩
  have hz2 : (2 * R.natAbs < Y.natAbs ∧ z = -1) ∨ (¬ 2 * R.natAbs < Y.natAbs ∧ 0 ≤ z) :=by
    rw [← hz,Int.natAbs_mul,Int.natAbs_natCast]
    unfold cmpI
    simp only [Int.reduceAbs]
    by_cases h : 2 * R.natAbs < Y.natAbs
    · rw [if_pos (by omega)];exact .inl ⟨h,rfl⟩
    · rw [if_neg (by omega)]
      split
      · exact .inr ⟨h,by decide⟩
      · exact .inr ⟨h,by decide⟩
  have hls : ∀ W',IntN V6 W' (w5.heap.size + 2) ((R.natAbs : Nat) : Int) → Kept V6 W' → Calls Tryz.prog 123 #[ptr (w5.heap.size + 2),ptr (w5.heap.size + 2),.int .u64 1] W' fun e w' => e = .returned (ptr (w5.heap.size + 2)) ∧ IntN V6 w' (w5.heap.size + 2) (((R.natAbs : Nat) : Int) * 2) ∧ Kept V6 w' :=fun W' g k => by
    obtain ⟨sz,nz,cz,rz,hz⟩ :=g.recv k
    have hl :=hz.nat.len_lt (k :=39) (by rw [Int.natAbs_natCast];exact hRB)
    refine (int_lsh V6 W' _ sz nz cz _ rz hz (by unfold Big;omega)).mono ?_
    rintro e w' ⟨rfl,q1,q2,-⟩
    exact ⟨rfl,q1,q2⟩
  have hca : ∀ W',IntN V6 W' (w5.heap.size + 2) (((R.natAbs : Nat) : Int) * 2) → Kept V6 W' → Calls Tryz.prog 124 #[ptr (w5.heap.size + 2),ptr W.heap.size] W' fun e w' => e = .returned (.int .i64 z) ∧ Kept W' w' :=fun W' g k => by
    have :=int_cmpAbs W' (w5.heap.size + 2) W.heap.size _ Y g.at (g3.kept (kt k6 k))
    rw [hz] at this
    exact this
  have KW5 : Kept W w5 :=p5
  clear hz hRB hbr i0 i1 j0 j1 hg
  rcases hz2 with ⟨hlt,rfl⟩ | ⟨hge,hz0⟩
  · go_wp2_with (first
      | (go_at_call 88;(with_reducible refine (dec_getValue _ br er).mono ?_);rintro r w7 ⟨rfl,p7⟩)
      | (go_at_call 87;(with_reducible refine (hab _ p7).mono ?_);rintro r w8 ⟨rfl,a8,q8⟩)
      | (go_at_call 123;(with_reducible refine (hls _ a8 q8).mono ?_);rintro r w9 ⟨rfl,a9,q9⟩)
      | (go_at_call 124;(with_reducible refine (hca _ a9 q9).mono ?_);rintro r w10 ⟨rfl,p10⟩;have k10 :=kt KW5 (kt k6 (kt q9 p10));obtain ⟨x0,x1,x2,x3⟩ :=de _ (kt q9 p10);have S :=P.kept k10;obtain ⟨⟨u0,s0⟩,⟨u1',s1⟩,sf⟩ :=id S;have f0 :=sf 0;have f1 :=sf 1;have s2 :=cs_ne (u :=ptr bq) s1 (b' :=w.heap.size + 2) (o' :=0) (by omega)))
    have hGQ : G = Q :=by rw [← HG.out,if_pos hlt]
    rw [hGQ]
    have hd :=dec_ret (w :=w) (W :=W) (r :=w.heap.size + 2) (by omega) (by rw [HS.out];omega) hW (g1.kept (kt k6 (kt q9 p10))) k10 (ptr bq) (.int .i32 (-16))
    exact bodyPost_ret (v :=dv bq (-16)) (results_dec rfl rfl (put2_0 S _ _) (put2_1 S _ _)) rfl ⟨bq,rfl,hd⟩
  · go_upto_region 8 with (first
      | (go_at_call 88;(with_reducible refine (dec_getValue _ br er).mono ?_);rintro r w7 ⟨rfl,p7⟩)
      | (go_at_call 87;(with_reducible refine (hab _ p7).mono ?_);rintro r w8 ⟨rfl,a8,q8⟩)
      | (go_at_call 123;(with_reducible refine (hls _ a8 q8).mono ?_);rintro r w9 ⟨rfl,a9,q9⟩)
      | (go_at_call 124;(with_reducible refine (hca _ a9 q9).mono ?_);rintro r w10 ⟨rfl,p10⟩))
    obtain ⟨sQ,nQ,cQ,hQ5,hQ2,hQ3⟩ :=g1
    have lQ :=lt_of_cell hQ5.neg
    have hsQ : ∀ a,sQ = some a → a.block < w5.heap.size :=fun a ha => by
      obtain ⟨_,_,_,_,_,hok,_⟩ :=hQ5.nat
      rcases hok with ⟨h,_⟩ | ⟨b,o,h,_,_,hlt⟩
      · rw [h] at ha;cases ha
      · rw [h] at ha;cases ha;exact hlt
    have hQn : nQ < Big :=by
      have :=hQ5.nat.len_lt (k :=39) HQB.out
      unfold Big
      omega
    have hsub : ∀ W1 W2 b,Kept V6 W1 → IntN W1 W2 b 1 → Kept W1 W2 → Calls Tryz.prog 102 #[ptr bq,ptr bq,ptr b] W2 fun r w' => r = .returned (ptr bq) ∧ IntN W w' bq (Q - 1) ∧ Kept W w' ∧ w'.cell? ⟨w5.heap.size,0,none⟩ = some (ptr bq) ∧ w'.cell? ⟨w5.heap.size,1,none⟩ = some (.int .i32 (-16)) :=fun W1 W2 b k1 h1' k2 => by
      have kk :=kt k1 k2
      have hR : Recv W W2 bq sQ nQ cQ :=⟨⟨_,(hQ5.kept (kt k6 kk)).neg⟩,(hQ5.kept (kt k6 kk)).abs,(hQ5.kept (kt k6 kk)).nat.ok.1,(hQ5.kept (kt k6 kk)).nat.ok.2.1,(hQ5.kept (kt k6 kk)).nf,(hQ5.kept (kt k6 kk)).sep,hQ2,hQ3,kt KW5 (kt k6 kk)⟩
      obtain ⟨s1,n1,c1,i1,i2,i3⟩ :=h1'
      have l1 :=Chg.size k1
      have hn1 :=i1.nat.len_lt (k :=1) (by decide)
      refine (int_sub W W2 bq bq b sQ sQ s1 nQ cQ nQ cQ n1 c1 Q 1 hR (hQ5.kept (kt k6 kk)) i1 hQn (by unfold Big;omega) (.inl rfl) (.inr fun a b' ha hb' => by have :=i3 a ha;have :=hsQ b' hb';have :=S6.out;omega)).mono ?_
      rintro r w' ⟨rfl,g,kx,cx⟩
      obtain ⟨x0,x1,_,_⟩ :=de _ kk
      have nb : ∀ o,¬ (w5.heap.size = bq ∨ Blk sQ w5.heap.size o) :=fun o h => by
        rcases h with h | ⟨o',h⟩
        · omega
        · have :=hsQ _ h;simp only at this;omega
      exact ⟨rfl,g,kx,cx.at x0 (nb 0),cx.at x1 (nb 1)⟩
    have hadd : ∀ W1 W2 b,Kept V6 W1 → IntN W1 W2 b 1 → Kept W1 W2 → Calls Tryz.prog 101 #[ptr bq,ptr bq,ptr b] W2 fun r w' => r = .returned (ptr bq) ∧ IntN W w' bq (Q + 1) ∧ Kept W w' ∧ w'.cell? ⟨w5.heap.size,0,none⟩ = some (ptr bq) ∧ w'.cell? ⟨w5.heap.size,1,none⟩ = some (.int .i32 (-16)) :=fun W1 W2 b k1 h1' k2 => by
      have kk :=kt k1 k2
      have hR : Recv W W2 bq sQ nQ cQ :=⟨⟨_,(hQ5.kept (kt k6 kk)).neg⟩,(hQ5.kept (kt k6 kk)).abs,(hQ5.kept (kt k6 kk)).nat.ok.1,(hQ5.kept (kt k6 kk)).nat.ok.2.1,(hQ5.kept (kt k6 kk)).nf,(hQ5.kept (kt k6 kk)).sep,hQ2,hQ3,kt KW5 (kt k6 kk)⟩
      obtain ⟨s1,n1,c1,i1,i2,i3⟩ :=h1'
      have l1 :=Chg.size k1
      have hn1 :=i1.nat.len_lt (k :=1) (by decide)
      refine (int_add W W2 bq bq b sQ sQ s1 nQ cQ nQ cQ n1 c1 Q 1 hR (hQ5.kept (kt k6 kk)) i1 hQn (by unfold Big;omega) (.inl rfl) (.inr fun a b' ha hb' => by have :=i3 a ha;have :=hsQ b' hb';have :=S6.out;omega)).mono ?_
      rintro r w' ⟨rfl,g,kx,cx⟩
      obtain ⟨x0,x1,_,_⟩ :=de _ kk
      have nb : ∀ o,¬ (w5.heap.size = bq ∨ Blk sQ w5.heap.size o) :=fun o h => by
        rcases h with h | ⟨o',h⟩
        · omega
        · have :=hsQ _ h;simp only at this;omega
      exact ⟨rfl,g,kx,cx.at x0 (nb 0),cx.at x1 (nb 1)⟩
    have KX :=kt q9 p10
    have kw10 :=kt KW5 (kt k6 KX)
    have hsgX : ∀ W',Kept W W' → Calls Tryz.prog 95 #[ptr b1] W' fun e w' => e = .returned (.int .i64 (Int.sign X)) ∧ w' = W' :=fun W' k => int_sign W' b1 X (h1.kept (kt hW k))
    have hsgY : ∀ W',Kept W W' → Calls Tryz.prog 95 #[ptr b2] W' fun e w' => e = .returned (.int .i64 (Int.sign Y)) ∧ w' = W' :=fun W' k => int_sign W' b2 Y (h2.kept (kt hW k))
    have hsb : ∀ Z : Int,Int.sign Z = -1 ∨ Int.sign Z = 0 ∨ Int.sign Z = 1 :=fun Z => by
      rcases Int.lt_trichotomy Z 0 with h | h | h
      · exact .inl (Int.sign_eq_neg_one_of_neg h)
      · subst h;exact .inr (.inl rfl)
      · exact .inr (.inr (Int.sign_eq_one_of_pos h))
    have hpp : ∃ p,Int.sign X * Int.sign Y = p ∧ -1 ≤ p ∧ p ≤ 1 :=by
      refine ⟨_,rfl,?_⟩
      rcases hsb X with h | h | h <;> rcases hsb Y with h' | h' | h' <;> rw [h,h'] <;> decide
    obtain ⟨p,hp,hp1,hp2⟩ :=hpp
    rw [hp] at HG
    obtain ⟨sx,hsx⟩ : ∃ z,Int.sign X = z :=⟨_,rfl⟩
    obtain ⟨sy,hsy⟩ : ∃ z,Int.sign Y = z :=⟨_,rfl⟩
    rw [hsx,hsy] at hp
    rw [hsx] at hsgX
    rw [hsy] at hsgY
    obtain ⟨x0,x1,x2,x3⟩ :=ce _ kw10
    obtain ⟨y0,y1,_,_⟩ :=de _ KX
    have hGB : G = if decide (p < 0) then Q - 1 else Q + 1 :=by rw [← HG.out,if_neg hge]
    clear hsb hsx hsy HG hls hca hab a8 a9 q8 p7
    rcases Int.lt_or_le p 0 with hp0 | hp0
    · rw [decide_eq_true hp0,if_pos rfl] at hGB
      have HGB :=Lib.hid hGB
      clear hGB
      go_wp2_with (first
        | (refine wp_region_lit_segs (id :=8) [[0,3,1],[2],[4,5,6,7]] mixed (by kernel_rfl) ?_;simp only [wpSegsL,gaC,gaN,lZ0,lS0,coS])
        | (refine wp_region_lit_segs (id :=9) [[0,1,2,3,4],[5]] mixed (by kernel_rfl) ?_;simp only [wpSegsL,gaC,gaN,lZ0,lS0,coS])
        | refine ⟨by kernel_rfl,?_⟩
        | (refine ⟨by kernel_rfl,oldD (by first | exact kd.of_drew | exact kr),?_⟩)
        | (refine ⟨oldD (by first | exact kd.of_drew | exact kr),?_⟩)
        | (go_at_call 88;(with_reducible refine (dec_getValue _ b1 e1).mono ?_);rintro r wa ⟨rfl,pa⟩;have kr :=pa.of_drew)
        | (go_at_call 95;(with_reducible refine (hsgX _ (kt kw10 kr)).mono ?_);rintro r wb ⟨rfl,hwb⟩;rw [hwb];clear hwb wb)
        | (go_at_call 88;(with_reducible refine (dec_getValue _ b2 e2).mono ?_);rintro r wc ⟨rfl,pc⟩;replace kr :=kt kr pc;obtain ⟨y0,y1,_,_⟩ :=de _ (kt KX kr))
        | (go_at_call 95;(with_reducible refine (hsgY _ (kt kw10 kr)).mono ?_);rintro r wb ⟨rfl,hwb⟩;rw [hwb];clear hwb wb)
        | (go_at_call 125;(with_reducible refine (oneInt _).mono ?_);rintro r wd ⟨bo,rfl,n1,kd⟩;obtain ⟨y0,y1,_,_⟩ :=de _ (kt KX (kt kr kd.of_drew)))
        | (go_at_call 102;(with_reducible refine (hsub _ _ _ (kt KX kr).drew n1 kd).mono ?_);rintro r we ⟨rfl,G1,KE,v0,v1⟩;have S :=P.kept KE;obtain ⟨⟨u0,s0⟩,⟨u1',s1⟩,sf⟩ :=id S;have f0 :=sf 0;have f1 :=sf 1;have s2 :=cs_ne (u :=ptr bq) s1 (b' :=w.heap.size + 2) (o' :=0) (by omega)))
      rw [HGB.out]
      have hd :=dec_ret (w :=w) (W :=W) (r :=w.heap.size + 2) (by omega) (by rw [HS.out];omega) hW G1 KE (ptr bq) (.int .i32 (-16))
      exact ⟨dv bq (-16),results_dec rfl rfl (put2_0 S _ _) (put2_1 S _ _),bq,rfl,hd⟩
    · rw [decide_eq_false (by omega),if_neg (by simp)] at hGB
      have HGB :=Lib.hid hGB
      clear hGB
      go_wp2_with (first
        | (refine wp_region_lit_segs (id :=8) [[0,3,1],[2],[4,5,6,7]] mixed (by kernel_rfl) ?_;simp only [wpSegsL,gaC,gaN,lZ0,lS0,coS])
        | (refine wp_region_lit_segs (id :=10) [[0,1,2,3,4],[5]] mixed (by kernel_rfl) ?_;simp only [wpSegsL,gaC,gaN,lZ0,lS0,coS])
        | refine ⟨by kernel_rfl,?_⟩
        | (refine ⟨by kernel_rfl,oldD (by first | exact kd.of_drew | exact kr),?_⟩)
        | (refine ⟨oldD (by first | exact kd.of_drew | exact kr),?_⟩)
        | (go_at_call 88;(with_reducible refine (dec_getValue _ b1 e1).mono ?_);rintro r wa ⟨rfl,pa⟩;have kr :=pa.of_drew)
        | (go_at_call 95;(with_reducible refine (hsgX _ (kt kw10 kr)).mono ?_);rintro r wb ⟨rfl,hwb⟩;rw [hwb];clear hwb wb)
        | (go_at_call 88;(with_reducible refine (dec_getValue _ b2 e2).mono ?_);rintro r wc ⟨rfl,pc⟩;replace kr :=kt kr pc;obtain ⟨y0,y1,_,_⟩ :=de _ (kt KX kr))
        | (go_at_call 95;(with_reducible refine (hsgY _ (kt kw10 kr)).mono ?_);rintro r wb ⟨rfl,hwb⟩;rw [hwb];clear hwb wb)
        | (go_at_call 125;(with_reducible refine (oneInt _).mono ?_);rintro r wd ⟨bo,rfl,n1,kd⟩;obtain ⟨y0,y1,_,_⟩ :=de _ (kt KX (kt kr kd.of_drew)))
        | (go_at_call 101;(with_reducible refine (hadd _ _ _ (kt KX kr).drew n1 kd).mono ?_);rintro r we ⟨rfl,G1,KE,v0,v1⟩;have S :=P.kept KE;obtain ⟨⟨u0,s0⟩,⟨u1',s1⟩,sf⟩ :=id S;have f0 :=sf 0;have f1 :=sf 1;have s2 :=cs_ne (u :=ptr bq) s1 (b' :=w.heap.size + 2) (o' :=0) (by omega)))
      rw [HGB.out]
      have hd :=dec_ret (w :=w) (W :=W) (r :=w.heap.size + 2) (by omega) (by rw [HS.out];omega) hW G1 KE (ptr bq) (.int .i32 (-16))
      exact ⟨dv bq (-16),results_dec rfl rfl (put2_0 S _ _) (put2_1 S _ _),bq,rfl,hd⟩
end Go.Proofs.YtfmmdamgcpiciaaGreatDoor
namespace Go.Proofs.YtfmmdamgcpiciaaGreatDoor
open Go Go.RowKit
theorem dec_div (w : World) (hg : Glob w) (hd : w.cell? ⟨0,0,none⟩ = some (.int .i64 16)) (b1 b2 n : Nat) (e1 e2 X Y : Int) (h1 : IntAt w b1 X) (h2 : IntAt w b2 Y) (hY0 : Y ≠ 0) (hn : (n : Int) = e1 - e2 + 16) (hn4 : n ≤ 420) (hX : X.natAbs < W39) (hXn : (X * ((10 ^ n : Nat) : Int)).natAbs < W39) (hYB : Y.natAbs < W39) (l1 : -1000 ≤ e1) (u1 : e1 ≤ 1000) (l2 : -1000 ≤ e2) (u2 : e2 ≤ 1000) :
    Calls Tryz.prog 84 #[dv b1 e1,dv b2 e2] w (NewDec w (rnd (X * ((10 ^ n : Nat) : Int)) Y (decide (Int.sign X * Int.sign Y < 0))) (-16)) :=by
  have hW :=box3K w (ptr b1) (.int .i32 e1) (ptr b2) (.int .i32 e2)
  have hS :=box3S w (ptr b1) (.int .i32 e1) (ptr b2) (.int .i32 e2)
  have hR :=box3R w (ptr b1) (.int .i32 e1) (ptr b2) (.int .i32 e2)
  have hq :=dec_divRound _ (hg.kept hW) b1 b2 n e1 e2 X Y (h1.kept hW) (h2.kept hW) hY0 hn hn4 hX hXn hYB l1 u1 l2 u2
  have hd0 :=Kept.at hW hd
  obtain ⟨G,hG⟩ : ∃ G,rnd (X * ((10 ^ n : Nat) : Int)) Y (decide (Int.sign X * Int.sign Y < 0)) = G :=⟨_,rfl⟩
  rw [hG] at hq ⊢
  have HS :=Lib.hid (And.intro hS (And.intro hW hR))
  clear hS hW hR hX hXn hYB hG hn
  go_enter Tryz.func84,Tryz.ntmps84
  go_wp2_with (go_at_call 105;(with_reducible refine hq.mono ?_);rintro r w1 ⟨b,rfl,k1,k2⟩;have S :=HS.out.2.2.kept k2;obtain ⟨⟨u0,s0⟩,⟨u1',s1⟩,sf⟩ :=id S;have f0 :=sf 0;have f1 :=sf 1;have s2 :=cs_ne (u :=ptr b) s1 (b' :=w.heap.size + 2) (o' :=0) (by omega))
  have hd' :=dec_ret (w :=w) (r :=w.heap.size + 2) (by omega) (by rw [HS.out.1];omega) HS.out.2.1 k1 k2 (ptr b) (.int .i32 (-16))
  first
    | exact bodyPost_ret (v :=dv b (-16)) (results_dec rfl rfl (put2_0 S _ _) (put2_1 S _ _)) rfl ⟨b,rfl,hd'⟩
    | exact ⟨dv b (-16),results_dec rfl rfl (put2_0 S _ _) (put2_1 S _ _),b,rfl,hd'⟩
theorem dec_gt (w : World) (hg : Glob w) (b1 b2 : Nat) (e1 e2 X Y : Int) (h1 : IntAt w b1 X) (h2 : IntAt w b2 Y) (hX : X.natAbs < W39) (hY : Y.natAbs < W39) (hlt : e1 < e2) (l1 : -1000 ≤ e1) (u1 : e1 ≤ 1000) (l2 : -1000 ≤ e2) (u2 : e2 ≤ 1000) (hd : e2 - e1 ≤ 420) :
    Calls Tryz.prog 81 #[dv b1 e1,dv b2 e2] w fun r w' => r = .returned (.bool (decide (Y * ((10 ^ (e2 - e1).toNat : Nat) : Int) < X))) ∧ Kept w w' :=by
  have kA :=kt (boxK w (ptr b1) (.int .i32 e1)) (boxK (Box w (ptr b1) (.int .i32 e1)) (ptr b2) (.int .i32 e2))
  have hc :=dec_cmp_lt _ (hg.kept kA) b1 b2 e1 e2 X Y (h1.kept kA) (h2.kept kA) hX hY hlt (by omega) (by omega) (by omega) (by omega) hd
  obtain ⟨Z,hZ⟩ : ∃ Z,Y * ((10 ^ (e2 - e1).toNat : Nat) : Int) = Z :=⟨_,rfl⟩
  rw [hZ] at hc ⊢
  obtain ⟨c,hc'⟩ : ∃ c,cmpZ X Z = c :=⟨_,rfl⟩
  rw [hc'] at hc
  have hcc : (c == 1) = decide (Z < X) :=by
    rw [← hc',Bool.eq_iff_iff]
    unfold cmpZ
    simp only [beq_iff_eq,decide_eq_true_eq]
    constructor
    · intro h
      split at h
      · omega
      · split at h <;> omega
    · intro h
      rw [if_neg (by omega)]
      split <;> omega
  have HC :=Lib.hid hcc
  have KA :=Lib.hid kA
  clear hZ hc' hcc kA hX hY hd hlt h1 h2 hg
  go_enter Tryz.func81,Tryz.ntmps81
  go_wp2_with (go_at_call 55;(with_reducible refine hc.mono ?_);rintro r w1 ⟨rfl,p1⟩)
  first | go_ret | refine ⟨_,results_tmp rfl _ _ _,?_⟩
  exact ⟨by first | exact congrArg _ (congrArg _ HC.out) | (simp;rw [← HC.out]) | rw [← HC.out],kt KA.out p1⟩
end Go.Proofs.YtfmmdamgcpiciaaGreatDoor
namespace Go.Proofs.YtfmmdamgcpiciaaGreatDoor
open Go Go.RowKit
theorem info102 : (Tryz.prog.info? 102).map (fun i => (i.zero,i.size,i.bytes)) = some (some (.agg #[.pointer none,.int .i32 0,.pointer none,.int .i32 0,.pointer none,.int .i32 0]),6,48) :=by kernel_rfl
theorem results_arr102 {fn : Func} {t r : Nat} {tmps : Array Value} {w : World} {x0 x1 x2 x3 x4 x5 : Value} (h : fn.results = #[.cell t 102]) (hp : tmps.getD t undef = ptr r) (h0 : w.cell? ⟨r,0,none⟩ = some x0) (h1 : w.cell? ⟨r,1,none⟩ = some x1) (h2 : w.cell? ⟨r,2,none⟩ = some x2) (h3 : w.cell? ⟨r,3,none⟩ = some x3) (h4 : w.cell? ⟨r,4,none⟩ = some x4) (h5 : w.cell? ⟨r,5,none⟩ = some x5) :
    (results fn tmps).run Tryz.prog w = .ok (.agg #[x0,x1,x2,x3,x4,x5]) w :=by
  obtain ⟨i0,hi,hz0,hz1,hz2⟩ :=info_parts info102
  have hp' : tmps[t]?.getD undef = ptr r :=by simpa using hp
  simp [results,h,hp',go_sem,hi,hz1,h0,h1,h2,h3,h4,h5]
theorem dec_arr82 (w : World) (hg : GlobF w) : Calls Tryz.prog 82 #[] w fun r w' => ∃ b0 b1 b2 : Nat,r = .returned (.agg #[ptr b0,.int .i32 (-12),ptr b1,.int .i32 (-10),ptr b2,.int .i32 (-9)]) ∧ IntN w w' b0 (-13093693918138379) ∧ IntN w w' b1 (11535166483858742) ∧ IntN w w' b2 (-17956525197648488) ∧ Kept w w' :=by
  have K : Kept w (w.alloc (Obj.cells #[.pointer none,.int .i32 0,.pointer none,.int .i32 0,.pointer none,.int .i32 0] 102)) :=Chg.alloc _ _ _
  have K0 : Kept (w.alloc (Obj.cells #[.pointer none,.int .i32 0,.pointer none,.int .i32 0,.pointer none,.int .i32 0] 102)) (w.alloc (Obj.cells #[.pointer none,.int .i32 0,.pointer none,.int .i32 0,.pointer none,.int .i32 0] 102)) :=Chg.refl _ _
  have hf0 :=fun W (hW : Kept w W) => fromFC fc_tanP0 _ _ fc_tanP0_ok 13891795985540005688 rfl W (hg.kept hW)
  have hf1 :=fun W (hW : Kept w W) => fromFC fc_tanP1 _ _ fc_tanP1_ok 4697705128000265693 rfl W (hg.kept hW)
  have hf2 :=fun W (hW : Kept w W) => fromFC fc_tanP2 _ _ fc_tanP2_ok 13938957415113920886 rfl W (hg.kept hW)
  have CW : (w.alloc (Obj.cells #[.pointer none,.int .i32 0,.pointer none,.int .i32 0,.pointer none,.int .i32 0] 102)).cell? ⟨w.heap.size,0,none⟩ = some (.pointer none) ∧ (w.alloc (Obj.cells #[.pointer none,.int .i32 0,.pointer none,.int .i32 0,.pointer none,.int .i32 0] 102)).cell? ⟨w.heap.size,1,none⟩ = some (.int .i32 0) ∧ (w.alloc (Obj.cells #[.pointer none,.int .i32 0,.pointer none,.int .i32 0,.pointer none,.int .i32 0] 102)).cell? ⟨w.heap.size,2,none⟩ = some (.pointer none) ∧ (w.alloc (Obj.cells #[.pointer none,.int .i32 0,.pointer none,.int .i32 0,.pointer none,.int .i32 0] 102)).cell? ⟨w.heap.size,3,none⟩ = some (.int .i32 0) ∧ (w.alloc (Obj.cells #[.pointer none,.int .i32 0,.pointer none,.int .i32 0,.pointer none,.int .i32 0] 102)).cell? ⟨w.heap.size,4,none⟩ = some (.pointer none) ∧ (w.alloc (Obj.cells #[.pointer none,.int .i32 0,.pointer none,.int .i32 0,.pointer none,.int .i32 0] 102)).cell? ⟨w.heap.size,5,none⟩ = some (.int .i32 0) :=by
    refine ⟨?_,?_,?_,?_,?_,?_⟩ <;> (rw [World.cell?_alloc_at _ _ _ _ rfl];rfl)
  have HL : w.heap.size < (w.alloc (Obj.cells #[.pointer none,.int .i32 0,.pointer none,.int .i32 0,.pointer none,.int .i32 0] 102)).heap.size :=by simp
  go_enter Tryz.func82,Tryz.ntmps82
  go_wp2_with (first
    | (go_at_call 69;(with_reducible refine (hf0 _ K).mono ?_);rintro r w1 ⟨b0,rfl,k1,k2⟩;have N0 :=k1.older (Chg.size K0);have K :=kt K k2;have K0 :=kt K0 k2;clear k1 k2)
    | (go_at_call 69;(with_reducible refine (hf1 _ K).mono ?_);rintro r w2 ⟨b1,rfl,k1,k2⟩;have N1 :=k1.older (Chg.size K0);have K :=kt K k2;have K0 :=kt K0 k2;have N0 :=N0.kept k2;clear k1 k2)
    | (go_at_call 69;(with_reducible refine (hf2 _ K).mono ?_);rintro r w3 ⟨b2,rfl,k1,k2⟩;have N2 :=k1.older (Chg.size K0);have K :=kt K k2;have K0 :=kt K0 k2;have N0 :=N0.kept k2;have N1 :=N1.kept k2;have s0 :=Kept.at K0 CW.1;have f0 :=(K0.frz _ 0 HL).trans (NF.made w _ _ 0);have s1 :=Kept.at K0 CW.2.1;have f1 :=(K0.frz _ 1 HL).trans (NF.made w _ _ 1);have s2 :=Kept.at K0 CW.2.2.1;have f2 :=(K0.frz _ 2 HL).trans (NF.made w _ _ 2);have s3 :=Kept.at K0 CW.2.2.2.1;have f3 :=(K0.frz _ 3 HL).trans (NF.made w _ _ 3);have s4 :=Kept.at K0 CW.2.2.2.2.1;have f4 :=(K0.frz _ 4 HL).trans (NF.made w _ _ 4);have s5 :=Kept.at K0 CW.2.2.2.2.2;have f5 :=(K0.frz _ 5 HL).trans (NF.made w _ _ 5);clear k1 k2))
  have kc0 : Chg w3 w3 (fun b _ => b = w.heap.size) :=Chg.refl _ _
  have kc1 :=kc0.trans (Chg.setCell _ w.heap.size 0 (ptr b0) (fun b _ => b = w.heap.size) fun _ => rfl) fun _ _ _ h => h
  have kc2 :=kc1.trans (Chg.setCell _ w.heap.size 1 (.int .i32 (-12)) (fun b _ => b = w.heap.size) fun _ => rfl) fun _ _ _ h => h
  have kc3 :=kc2.trans (Chg.setCell _ w.heap.size 2 (ptr b1) (fun b _ => b = w.heap.size) fun _ => rfl) fun _ _ _ h => h
  have kc4 :=kc3.trans (Chg.setCell _ w.heap.size 3 (.int .i32 (-10)) (fun b _ => b = w.heap.size) fun _ => rfl) fun _ _ _ h => h
  have kc5 :=kc4.trans (Chg.setCell _ w.heap.size 4 (ptr b2) (fun b _ => b = w.heap.size) fun _ => rfl) fun _ _ _ h => h
  have kc6 :=kc5.trans (Chg.setCell _ w.heap.size 5 (.int .i32 (-9)) (fun b _ => b = w.heap.size) fun _ => rfl) fun _ _ _ h => h
  have t0 : ((((((w3.setCell ⟨w.heap.size,0,none⟩ (ptr b0)).setCell ⟨w.heap.size,1,none⟩ (.int .i32 (-12))).setCell ⟨w.heap.size,2,none⟩ (ptr b1)).setCell ⟨w.heap.size,3,none⟩ (.int .i32 (-10))).setCell ⟨w.heap.size,4,none⟩ (ptr b2)).setCell ⟨w.heap.size,5,none⟩ (.int .i32 (-9))).cell? ⟨w.heap.size,0,none⟩ = some (ptr b0) :=cs_ne (cs_ne (cs_ne (cs_ne (cs_ne (cell_setCell_eq (s0)) (by omega)) (by omega)) (by omega)) (by omega)) (by omega)
  have t1 : ((((((w3.setCell ⟨w.heap.size,0,none⟩ (ptr b0)).setCell ⟨w.heap.size,1,none⟩ (.int .i32 (-12))).setCell ⟨w.heap.size,2,none⟩ (ptr b1)).setCell ⟨w.heap.size,3,none⟩ (.int .i32 (-10))).setCell ⟨w.heap.size,4,none⟩ (ptr b2)).setCell ⟨w.heap.size,5,none⟩ (.int .i32 (-9))).cell? ⟨w.heap.size,1,none⟩ = some (.int .i32 (-12)) :=cs_ne (cs_ne (cs_ne (cs_ne (cell_setCell_eq (cs_ne (s1) (by omega))) (by omega)) (by omega)) (by omega)) (by omega)
  have t2 : ((((((w3.setCell ⟨w.heap.size,0,none⟩ (ptr b0)).setCell ⟨w.heap.size,1,none⟩ (.int .i32 (-12))).setCell ⟨w.heap.size,2,none⟩ (ptr b1)).setCell ⟨w.heap.size,3,none⟩ (.int .i32 (-10))).setCell ⟨w.heap.size,4,none⟩ (ptr b2)).setCell ⟨w.heap.size,5,none⟩ (.int .i32 (-9))).cell? ⟨w.heap.size,2,none⟩ = some (ptr b1) :=cs_ne (cs_ne (cs_ne (cell_setCell_eq (cs_ne (cs_ne (s2) (by omega)) (by omega))) (by omega)) (by omega)) (by omega)
  have t3 : ((((((w3.setCell ⟨w.heap.size,0,none⟩ (ptr b0)).setCell ⟨w.heap.size,1,none⟩ (.int .i32 (-12))).setCell ⟨w.heap.size,2,none⟩ (ptr b1)).setCell ⟨w.heap.size,3,none⟩ (.int .i32 (-10))).setCell ⟨w.heap.size,4,none⟩ (ptr b2)).setCell ⟨w.heap.size,5,none⟩ (.int .i32 (-9))).cell? ⟨w.heap.size,3,none⟩ = some (.int .i32 (-10)) :=cs_ne (cs_ne (cell_setCell_eq (cs_ne (cs_ne (cs_ne (s3) (by omega)) (by omega)) (by omega))) (by omega)) (by omega)
  have t4 : ((((((w3.setCell ⟨w.heap.size,0,none⟩ (ptr b0)).setCell ⟨w.heap.size,1,none⟩ (.int .i32 (-12))).setCell ⟨w.heap.size,2,none⟩ (ptr b1)).setCell ⟨w.heap.size,3,none⟩ (.int .i32 (-10))).setCell ⟨w.heap.size,4,none⟩ (ptr b2)).setCell ⟨w.heap.size,5,none⟩ (.int .i32 (-9))).cell? ⟨w.heap.size,4,none⟩ = some (ptr b2) :=cs_ne (cell_setCell_eq (cs_ne (cs_ne (cs_ne (cs_ne (s4) (by omega)) (by omega)) (by omega)) (by omega))) (by omega)
  have t5 : ((((((w3.setCell ⟨w.heap.size,0,none⟩ (ptr b0)).setCell ⟨w.heap.size,1,none⟩ (.int .i32 (-12))).setCell ⟨w.heap.size,2,none⟩ (ptr b1)).setCell ⟨w.heap.size,3,none⟩ (.int .i32 (-10))).setCell ⟨w.heap.size,4,none⟩ (ptr b2)).setCell ⟨w.heap.size,5,none⟩ (.int .i32 (-9))).cell? ⟨w.heap.size,5,none⟩ = some (.int .i32 (-9)) :=cell_setCell_eq (cs_ne (cs_ne (cs_ne (cs_ne (cs_ne (s5) (by omega)) (by omega)) (by omega)) (by omega)) (by omega))
  exact bodyPost_ret (v :=.agg #[ptr b0,.int .i32 (-12),ptr b1,.int .i32 (-10),ptr b2,.int .i32 (-9)]) (results_arr102 rfl rfl t0 t1 t2 t3 t4 t5) rfl ⟨b0,b1,b2,rfl,(N0.chg kc6 (fun b _ e => by rw [e];exact HL)).older (Nat.le_of_lt HL),(N1.chg kc6 (fun b _ e => by rw [e];exact HL)).older (Nat.le_of_lt HL),(N2.chg kc6 (fun b _ e => by rw [e];exact HL)).older (Nat.le_of_lt HL),K.keptNew kc6 fun b _ e => by omega⟩
theorem info104 : (Tryz.prog.info? 104).map (fun i => (i.zero,i.size,i.bytes)) = some (some (.agg #[.pointer none,.int .i32 0,.pointer none,.int .i32 0,.pointer none,.int .i32 0,.pointer none,.int .i32 0,.pointer none,.int .i32 0]),10,80) :=by kernel_rfl
theorem results_arr104 {fn : Func} {t r : Nat} {tmps : Array Value} {w : World} {x0 x1 x2 x3 x4 x5 x6 x7 x8 x9 : Value} (h : fn.results = #[.cell t 104]) (hp : tmps.getD t undef = ptr r) (h0 : w.cell? ⟨r,0,none⟩ = some x0) (h1 : w.cell? ⟨r,1,none⟩ = some x1) (h2 : w.cell? ⟨r,2,none⟩ = some x2) (h3 : w.cell? ⟨r,3,none⟩ = some x3) (h4 : w.cell? ⟨r,4,none⟩ = some x4) (h5 : w.cell? ⟨r,5,none⟩ = some x5) (h6 : w.cell? ⟨r,6,none⟩ = some x6) (h7 : w.cell? ⟨r,7,none⟩ = some x7) (h8 : w.cell? ⟨r,8,none⟩ = some x8) (h9 : w.cell? ⟨r,9,none⟩ = some x9) :
    (results fn tmps).run Tryz.prog w = .ok (.agg #[x0,x1,x2,x3,x4,x5,x6,x7,x8,x9]) w :=by
  obtain ⟨i0,hi,hz0,hz1,hz2⟩ :=info_parts info104
  have hp' : tmps[t]?.getD undef = ptr r :=by simpa using hp
  simp [results,h,hp',go_sem,hi,hz1,h0,h1,h2,h3,h4,h5,h6,h7,h8,h9]
theorem dec_arr83 (w : World) (hg : GlobF w) : Calls Tryz.prog 83 #[] w fun r w' => ∃ b0 b1 b2 b3 b4 : Nat,r = .returned (.agg #[ptr b0,.int .i32 (0),ptr b1,.int .i32 (-12),ptr b2,.int .i32 (-10),ptr b3,.int .i32 (-8),ptr b4,.int .i32 (-9)]) ∧ IntN w w' b0 (1) ∧ IntN w w' b1 (13681296347069296) ∧ IntN w w' b2 (-13208923444021097) ∧ IntN w w' b3 (2500838018233579) ∧ IntN w w' b4 (-53869575592945464) ∧ Kept w w' :=by
  have K : Kept w (w.alloc (Obj.cells #[.pointer none,.int .i32 0,.pointer none,.int .i32 0,.pointer none,.int .i32 0,.pointer none,.int .i32 0,.pointer none,.int .i32 0] 104)) :=Chg.alloc _ _ _
  have K0 : Kept (w.alloc (Obj.cells #[.pointer none,.int .i32 0,.pointer none,.int .i32 0,.pointer none,.int .i32 0,.pointer none,.int .i32 0,.pointer none,.int .i32 0] 104)) (w.alloc (Obj.cells #[.pointer none,.int .i32 0,.pointer none,.int .i32 0,.pointer none,.int .i32 0,.pointer none,.int .i32 0,.pointer none,.int .i32 0] 104)) :=Chg.refl _ _
  have hf0 :=fun W (hW : Kept w W) => fromFC fc_tanQ0 _ _ fc_tanQ0_ok 4607182418800017408 rfl W (hg.kept hW)
  have hf1 :=fun W (hW : Kept w W) => fromFC fc_tanQ1 _ _ fc_tanQ1_ok 4668746986536789362 rfl W (hg.kept hW)
  have hf2 :=fun W (hW : Kept w W) => fromFC fc_tanQ2 _ _ fc_tanQ2_ok 13921796037995576470 rfl W (hg.kept hW)
  have hf3 :=fun W (hW : Kept w W) => fromFC fc_tanQ3 _ _ fc_tanQ3_ok 4717478346167605487 rfl W (hg.kept hW)
  have hf4 :=fun W (hW : Kept w W) => fromFC fc_tanQ4 _ _ fc_tanQ4_ok 13945871098756094513 rfl W (hg.kept hW)
  have CW : (w.alloc (Obj.cells #[.pointer none,.int .i32 0,.pointer none,.int .i32 0,.pointer none,.int .i32 0,.pointer none,.int .i32 0,.pointer none,.int .i32 0] 104)).cell? ⟨w.heap.size,0,none⟩ = some (.pointer none) ∧ (w.alloc (Obj.cells #[.pointer none,.int .i32 0,.pointer none,.int .i32 0,.pointer none,.int .i32 0,.pointer none,.int .i32 0,.pointer none,.int .i32 0] 104)).cell? ⟨w.heap.size,1,none⟩ = some (.int .i32 0) ∧ (w.alloc (Obj.cells #[.pointer none,.int .i32 0,.pointer none,.int .i32 0,.pointer none,.int .i32 0,.pointer none,.int .i32 0,.pointer none,.int .i32 0] 104)).cell? ⟨w.heap.size,2,none⟩ = some (.pointer none) ∧ (w.alloc (Obj.cells #[.pointer none,.int .i32 0,.pointer none,.int .i32 0,.pointer none,.int .i32 0,.pointer none,.int .i32 0,.pointer none,.int .i32 0] 104)).cell? ⟨w.heap.size,3,none⟩ = some (.int .i32 0) ∧ (w.alloc (Obj.cells #[.pointer none,.int .i32 0,.pointer none,.int .i32 0,.pointer none,.int .i32 0,.pointer none,.int .i32 0,.pointer none,.int .i32 0] 104)).cell? ⟨w.heap.size,4,none⟩ = some (.pointer none) ∧ (w.alloc (Obj.cells #[.pointer none,.int .i32 0,.pointer none,.int .i32 0,.pointer none,.int .i32 0,.pointer none,.int .i32 0,.pointer none,.int .i32 0] 104)).cell? ⟨w.heap.size,5,none⟩ = some (.int .i32 0) ∧ (w.alloc (Obj.cells #[.pointer none,.int .i32 0,.pointer none,.int .i32 0,.pointer none,.int .i32 0,.pointer none,.int .i32 0,.pointer none,.int .i32 0] 104)).cell? ⟨w.heap.size,6,none⟩ = some (.pointer none) ∧ (w.alloc (Obj.cells #[.pointer none,.int .i32 0,.pointer none,.int .i32 0,.pointer none,.int .i32 0,.pointer none,.int .i32 0,.pointer none,.int .i32 0] 104)).cell? ⟨w.heap.size,7,none⟩ = some (.int .i32 0) ∧ (w.alloc (Obj.cells #[.pointer none,.int .i32 0,.pointer none,.int .i32 0,.pointer none,.int .i32 0,.pointer none,.int .i32 0,.pointer none,.int .i32 0] 104)).cell? ⟨w.heap.size,8,none⟩ = some (.pointer none) ∧ (w.alloc (Obj.cells #[.pointer none,.int .i32 0,.pointer none,.int .i32 0,.pointer none,.int .i32 0,.pointer none,.int .i32 0,.pointer none,.int .i32 0] 104)).cell? ⟨w.heap.size,9,none⟩ = some (.int .i32 0) :=by
    refine ⟨?_,?_,?_,?_,?_,?_,?_,?_,?_,?_⟩ <;> (rw [World.cell?_alloc_at _ _ _ _ rfl];rfl)
  have HL : w.heap.size < (w.alloc (Obj.cells #[.pointer none,.int .i32 0,.pointer none,.int .i32 0,.pointer none,.int .i32 0,.pointer none,.int .i32 0,.pointer none,.int .i32 0] 104)).heap.size :=by simp
  go_enter Tryz.func83,Tryz.ntmps83
  go_wp2_with (first
    | (go_at_call 69;(with_reducible refine (hf0 _ K).mono ?_);rintro r w1 ⟨b0,rfl,k1,k2⟩;have N0 :=k1.older (Chg.size K0);have K :=kt K k2;have K0 :=kt K0 k2;clear k1 k2)
    | (go_at_call 69;(with_reducible refine (hf1 _ K).mono ?_);rintro r w2 ⟨b1,rfl,k1,k2⟩;have N1 :=k1.older (Chg.size K0);have K :=kt K k2;have K0 :=kt K0 k2;have N0 :=N0.kept k2;clear k1 k2)
    | (go_at_call 69;(with_reducible refine (hf2 _ K).mono ?_);rintro r w3 ⟨b2,rfl,k1,k2⟩;have N2 :=k1.older (Chg.size K0);have K :=kt K k2;have K0 :=kt K0 k2;have N0 :=N0.kept k2;have N1 :=N1.kept k2;clear k1 k2)
    | (go_at_call 69;(with_reducible refine (hf3 _ K).mono ?_);rintro r w4 ⟨b3,rfl,k1,k2⟩;have N3 :=k1.older (Chg.size K0);have K :=kt K k2;have K0 :=kt K0 k2;have N0 :=N0.kept k2;have N1 :=N1.kept k2;have N2 :=N2.kept k2;clear k1 k2)
    | (go_at_call 69;(with_reducible refine (hf4 _ K).mono ?_);rintro r w5 ⟨b4,rfl,k1,k2⟩;have N4 :=k1.older (Chg.size K0);have K :=kt K k2;have K0 :=kt K0 k2;have N0 :=N0.kept k2;have N1 :=N1.kept k2;have N2 :=N2.kept k2;have N3 :=N3.kept k2;have s0 :=Kept.at K0 CW.1;have f0 :=(K0.frz _ 0 HL).trans (NF.made w _ _ 0);have s1 :=Kept.at K0 CW.2.1;have f1 :=(K0.frz _ 1 HL).trans (NF.made w _ _ 1);have s2 :=Kept.at K0 CW.2.2.1;have f2 :=(K0.frz _ 2 HL).trans (NF.made w _ _ 2);have s3 :=Kept.at K0 CW.2.2.2.1;have f3 :=(K0.frz _ 3 HL).trans (NF.made w _ _ 3);have s4 :=Kept.at K0 CW.2.2.2.2.1;have f4 :=(K0.frz _ 4 HL).trans (NF.made w _ _ 4);have s5 :=Kept.at K0 CW.2.2.2.2.2.1;have f5 :=(K0.frz _ 5 HL).trans (NF.made w _ _ 5);have s6 :=Kept.at K0 CW.2.2.2.2.2.2.1;have f6 :=(K0.frz _ 6 HL).trans (NF.made w _ _ 6);have s7 :=Kept.at K0 CW.2.2.2.2.2.2.2.1;have f7 :=(K0.frz _ 7 HL).trans (NF.made w _ _ 7);have s8 :=Kept.at K0 CW.2.2.2.2.2.2.2.2.1;have f8 :=(K0.frz _ 8 HL).trans (NF.made w _ _ 8);have s9 :=Kept.at K0 CW.2.2.2.2.2.2.2.2.2;have f9 :=(K0.frz _ 9 HL).trans (NF.made w _ _ 9);clear k1 k2))
  have kc0 : Chg w5 w5 (fun b _ => b = w.heap.size) :=Chg.refl _ _
  have kc1 :=kc0.trans (Chg.setCell _ w.heap.size 0 (ptr b0) (fun b _ => b = w.heap.size) fun _ => rfl) fun _ _ _ h => h
  have kc2 :=kc1.trans (Chg.setCell _ w.heap.size 1 (.int .i32 (0)) (fun b _ => b = w.heap.size) fun _ => rfl) fun _ _ _ h => h
  have kc3 :=kc2.trans (Chg.setCell _ w.heap.size 2 (ptr b1) (fun b _ => b = w.heap.size) fun _ => rfl) fun _ _ _ h => h
  have kc4 :=kc3.trans (Chg.setCell _ w.heap.size 3 (.int .i32 (-12)) (fun b _ => b = w.heap.size) fun _ => rfl) fun _ _ _ h => h
  have kc5 :=kc4.trans (Chg.setCell _ w.heap.size 4 (ptr b2) (fun b _ => b = w.heap.size) fun _ => rfl) fun _ _ _ h => h
  have kc6 :=kc5.trans (Chg.setCell _ w.heap.size 5 (.int .i32 (-10)) (fun b _ => b = w.heap.size) fun _ => rfl) fun _ _ _ h => h
  have kc7 :=kc6.trans (Chg.setCell _ w.heap.size 6 (ptr b3) (fun b _ => b = w.heap.size) fun _ => rfl) fun _ _ _ h => h
  have kc8 :=kc7.trans (Chg.setCell _ w.heap.size 7 (.int .i32 (-8)) (fun b _ => b = w.heap.size) fun _ => rfl) fun _ _ _ h => h
  have kc9 :=kc8.trans (Chg.setCell _ w.heap.size 8 (ptr b4) (fun b _ => b = w.heap.size) fun _ => rfl) fun _ _ _ h => h
  have kc10 :=kc9.trans (Chg.setCell _ w.heap.size 9 (.int .i32 (-9)) (fun b _ => b = w.heap.size) fun _ => rfl) fun _ _ _ h => h
  have t0 : ((((((((((w5.setCell ⟨w.heap.size,0,none⟩ (ptr b0)).setCell ⟨w.heap.size,1,none⟩ (.int .i32 (0))).setCell ⟨w.heap.size,2,none⟩ (ptr b1)).setCell ⟨w.heap.size,3,none⟩ (.int .i32 (-12))).setCell ⟨w.heap.size,4,none⟩ (ptr b2)).setCell ⟨w.heap.size,5,none⟩ (.int .i32 (-10))).setCell ⟨w.heap.size,6,none⟩ (ptr b3)).setCell ⟨w.heap.size,7,none⟩ (.int .i32 (-8))).setCell ⟨w.heap.size,8,none⟩ (ptr b4)).setCell ⟨w.heap.size,9,none⟩ (.int .i32 (-9))).cell? ⟨w.heap.size,0,none⟩ = some (ptr b0) :=cs_ne (cs_ne (cs_ne (cs_ne (cs_ne (cs_ne (cs_ne (cs_ne (cs_ne (cell_setCell_eq (s0)) (by omega)) (by omega)) (by omega)) (by omega)) (by omega)) (by omega)) (by omega)) (by omega)) (by omega)
  have t1 : ((((((((((w5.setCell ⟨w.heap.size,0,none⟩ (ptr b0)).setCell ⟨w.heap.size,1,none⟩ (.int .i32 (0))).setCell ⟨w.heap.size,2,none⟩ (ptr b1)).setCell ⟨w.heap.size,3,none⟩ (.int .i32 (-12))).setCell ⟨w.heap.size,4,none⟩ (ptr b2)).setCell ⟨w.heap.size,5,none⟩ (.int .i32 (-10))).setCell ⟨w.heap.size,6,none⟩ (ptr b3)).setCell ⟨w.heap.size,7,none⟩ (.int .i32 (-8))).setCell ⟨w.heap.size,8,none⟩ (ptr b4)).setCell ⟨w.heap.size,9,none⟩ (.int .i32 (-9))).cell? ⟨w.heap.size,1,none⟩ = some (.int .i32 (0)) :=cs_ne (cs_ne (cs_ne (cs_ne (cs_ne (cs_ne (cs_ne (cs_ne (cell_setCell_eq (cs_ne (s1) (by omega))) (by omega)) (by omega)) (by omega)) (by omega)) (by omega)) (by omega)) (by omega)) (by omega)
  have t2 : ((((((((((w5.setCell ⟨w.heap.size,0,none⟩ (ptr b0)).setCell ⟨w.heap.size,1,none⟩ (.int .i32 (0))).setCell ⟨w.heap.size,2,none⟩ (ptr b1)).setCell ⟨w.heap.size,3,none⟩ (.int .i32 (-12))).setCell ⟨w.heap.size,4,none⟩ (ptr b2)).setCell ⟨w.heap.size,5,none⟩ (.int .i32 (-10))).setCell ⟨w.heap.size,6,none⟩ (ptr b3)).setCell ⟨w.heap.size,7,none⟩ (.int .i32 (-8))).setCell ⟨w.heap.size,8,none⟩ (ptr b4)).setCell ⟨w.heap.size,9,none⟩ (.int .i32 (-9))).cell? ⟨w.heap.size,2,none⟩ = some (ptr b1) :=cs_ne (cs_ne (cs_ne (cs_ne (cs_ne (cs_ne (cs_ne (cell_setCell_eq (cs_ne (cs_ne (s2) (by omega)) (by omega))) (by omega)) (by omega)) (by omega)) (by omega)) (by omega)) (by omega)) (by omega)
  have t3 : ((((((((((w5.setCell ⟨w.heap.size,0,none⟩ (ptr b0)).setCell ⟨w.heap.size,1,none⟩ (.int .i32 (0))).setCell ⟨w.heap.size,2,none⟩ (ptr b1)).setCell ⟨w.heap.size,3,none⟩ (.int .i32 (-12))).setCell ⟨w.heap.size,4,none⟩ (ptr b2)).setCell ⟨w.heap.size,5,none⟩ (.int .i32 (-10))).setCell ⟨w.heap.size,6,none⟩ (ptr b3)).setCell ⟨w.heap.size,7,none⟩ (.int .i32 (-8))).setCell ⟨w.heap.size,8,none⟩ (ptr b4)).setCell ⟨w.heap.size,9,none⟩ (.int .i32 (-9))).cell? ⟨w.heap.size,3,none⟩ = some (.int .i32 (-12)) :=cs_ne (cs_ne (cs_ne (cs_ne (cs_ne (cs_ne (cell_setCell_eq (cs_ne (cs_ne (cs_ne (s3) (by omega)) (by omega)) (by omega))) (by omega)) (by omega)) (by omega)) (by omega)) (by omega)) (by omega)
  have t4 : ((((((((((w5.setCell ⟨w.heap.size,0,none⟩ (ptr b0)).setCell ⟨w.heap.size,1,none⟩ (.int .i32 (0))).setCell ⟨w.heap.size,2,none⟩ (ptr b1)).setCell ⟨w.heap.size,3,none⟩ (.int .i32 (-12))).setCell ⟨w.heap.size,4,none⟩ (ptr b2)).setCell ⟨w.heap.size,5,none⟩ (.int .i32 (-10))).setCell ⟨w.heap.size,6,none⟩ (ptr b3)).setCell ⟨w.heap.size,7,none⟩ (.int .i32 (-8))).setCell ⟨w.heap.size,8,none⟩ (ptr b4)).setCell ⟨w.heap.size,9,none⟩ (.int .i32 (-9))).cell? ⟨w.heap.size,4,none⟩ = some (ptr b2) :=cs_ne (cs_ne (cs_ne (cs_ne (cs_ne (cell_setCell_eq (cs_ne (cs_ne (cs_ne (cs_ne (s4) (by omega)) (by omega)) (by omega)) (by omega))) (by omega)) (by omega)) (by omega)) (by omega)) (by omega)
  have t5 : ((((((((((w5.setCell ⟨w.heap.size,0,none⟩ (ptr b0)).setCell ⟨w.heap.size,1,none⟩ (.int .i32 (0))).setCell ⟨w.heap.size,2,none⟩ (ptr b1)).setCell ⟨w.heap.size,3,none⟩ (.int .i32 (-12))).setCell ⟨w.heap.size,4,none⟩ (ptr b2)).setCell ⟨w.heap.size,5,none⟩ (.int .i32 (-10))).setCell ⟨w.heap.size,6,none⟩ (ptr b3)).setCell ⟨w.heap.size,7,none⟩ (.int .i32 (-8))).setCell ⟨w.heap.size,8,none⟩ (ptr b4)).setCell ⟨w.heap.size,9,none⟩ (.int .i32 (-9))).cell? ⟨w.heap.size,5,none⟩ = some (.int .i32 (-10)) :=cs_ne (cs_ne (cs_ne (cs_ne (cell_setCell_eq (cs_ne (cs_ne (cs_ne (cs_ne (cs_ne (s5) (by omega)) (by omega)) (by omega)) (by omega)) (by omega))) (by omega)) (by omega)) (by omega)) (by omega)
  have t6 : ((((((((((w5.setCell ⟨w.heap.size,0,none⟩ (ptr b0)).setCell ⟨w.heap.size,1,none⟩ (.int .i32 (0))).setCell ⟨w.heap.size,2,none⟩ (ptr b1)).setCell ⟨w.heap.size,3,none⟩ (.int .i32 (-12))).setCell ⟨w.heap.size,4,none⟩ (ptr b2)).setCell ⟨w.heap.size,5,none⟩ (.int .i32 (-10))).setCell ⟨w.heap.size,6,none⟩ (ptr b3)).setCell ⟨w.heap.size,7,none⟩ (.int .i32 (-8))).setCell ⟨w.heap.size,8,none⟩ (ptr b4)).setCell ⟨w.heap.size,9,none⟩ (.int .i32 (-9))).cell? ⟨w.heap.size,6,none⟩ = some (ptr b3) :=cs_ne (cs_ne (cs_ne (cell_setCell_eq (cs_ne (cs_ne (cs_ne (cs_ne (cs_ne (cs_ne (s6) (by omega)) (by omega)) (by omega)) (by omega)) (by omega)) (by omega))) (by omega)) (by omega)) (by omega)
  have t7 : ((((((((((w5.setCell ⟨w.heap.size,0,none⟩ (ptr b0)).setCell ⟨w.heap.size,1,none⟩ (.int .i32 (0))).setCell ⟨w.heap.size,2,none⟩ (ptr b1)).setCell ⟨w.heap.size,3,none⟩ (.int .i32 (-12))).setCell ⟨w.heap.size,4,none⟩ (ptr b2)).setCell ⟨w.heap.size,5,none⟩ (.int .i32 (-10))).setCell ⟨w.heap.size,6,none⟩ (ptr b3)).setCell ⟨w.heap.size,7,none⟩ (.int .i32 (-8))).setCell ⟨w.heap.size,8,none⟩ (ptr b4)).setCell ⟨w.heap.size,9,none⟩ (.int .i32 (-9))).cell? ⟨w.heap.size,7,none⟩ = some (.int .i32 (-8)) :=cs_ne (cs_ne (cell_setCell_eq (cs_ne (cs_ne (cs_ne (cs_ne (cs_ne (cs_ne (cs_ne (s7) (by omega)) (by omega)) (by omega)) (by omega)) (by omega)) (by omega)) (by omega))) (by omega)) (by omega)
  have t8 : ((((((((((w5.setCell ⟨w.heap.size,0,none⟩ (ptr b0)).setCell ⟨w.heap.size,1,none⟩ (.int .i32 (0))).setCell ⟨w.heap.size,2,none⟩ (ptr b1)).setCell ⟨w.heap.size,3,none⟩ (.int .i32 (-12))).setCell ⟨w.heap.size,4,none⟩ (ptr b2)).setCell ⟨w.heap.size,5,none⟩ (.int .i32 (-10))).setCell ⟨w.heap.size,6,none⟩ (ptr b3)).setCell ⟨w.heap.size,7,none⟩ (.int .i32 (-8))).setCell ⟨w.heap.size,8,none⟩ (ptr b4)).setCell ⟨w.heap.size,9,none⟩ (.int .i32 (-9))).cell? ⟨w.heap.size,8,none⟩ = some (ptr b4) :=cs_ne (cell_setCell_eq (cs_ne (cs_ne (cs_ne (cs_ne (cs_ne (cs_ne (cs_ne (cs_ne (s8) (by omega)) (by omega)) (by omega)) (by omega)) (by omega)) (by omega)) (by omega)) (by omega))) (by omega)
  have t9 : ((((((((((w5.setCell ⟨w.heap.size,0,none⟩ (ptr b0)).setCell ⟨w.heap.size,1,none⟩ (.int .i32 (0))).setCell ⟨w.heap.size,2,none⟩ (ptr b1)).setCell ⟨w.heap.size,3,none⟩ (.int .i32 (-12))).setCell ⟨w.heap.size,4,none⟩ (ptr b2)).setCell ⟨w.heap.size,5,none⟩ (.int .i32 (-10))).setCell ⟨w.heap.size,6,none⟩ (ptr b3)).setCell ⟨w.heap.size,7,none⟩ (.int .i32 (-8))).setCell ⟨w.heap.size,8,none⟩ (ptr b4)).setCell ⟨w.heap.size,9,none⟩ (.int .i32 (-9))).cell? ⟨w.heap.size,9,none⟩ = some (.int .i32 (-9)) :=cell_setCell_eq (cs_ne (cs_ne (cs_ne (cs_ne (cs_ne (cs_ne (cs_ne (cs_ne (cs_ne (s9) (by omega)) (by omega)) (by omega)) (by omega)) (by omega)) (by omega)) (by omega)) (by omega)) (by omega))
  exact bodyPost_ret (v :=.agg #[ptr b0,.int .i32 (0),ptr b1,.int .i32 (-12),ptr b2,.int .i32 (-10),ptr b3,.int .i32 (-8),ptr b4,.int .i32 (-9)]) (results_arr104 rfl rfl t0 t1 t2 t3 t4 t5 t6 t7 t8 t9) rfl ⟨b0,b1,b2,b3,b4,rfl,(N0.chg kc10 (fun b _ e => by rw [e];exact HL)).older (Nat.le_of_lt HL),(N1.chg kc10 (fun b _ e => by rw [e];exact HL)).older (Nat.le_of_lt HL),(N2.chg kc10 (fun b _ e => by rw [e];exact HL)).older (Nat.le_of_lt HL),(N3.chg kc10 (fun b _ e => by rw [e];exact HL)).older (Nat.le_of_lt HL),(N4.chg kc10 (fun b _ e => by rw [e];exact HL)).older (Nat.le_of_lt HL),K.keptNew kc10 fun b _ e => by omega⟩
end Go.Proofs.YtfmmdamgcpiciaaGreatDoor
namespace Go.Proofs.YtfmmdamgcpiciaaGreatDoor
open Go Go.RowKit
def Dc.div (a b : Dc) : Dc :=⟨rnd (a.m * ((10 ^ (a.e - b.e + 16).toNat : Nat) : Int)) b.m (decide (Int.sign a.m * Int.sign b.m < 0)),-16⟩
def tP (i : Nat) : Dc :=match i with | 0 => ⟨-13093693918138379,-12⟩ | 1 => ⟨11535166483858742,-10⟩ | _ => ⟨-17956525197648488,-9⟩
def tQ (i : Nat) : Dc :=match i with | 1 => ⟨13681296347069296,-12⟩ | 2 => ⟨-13208923444021097,-10⟩ | 3 => ⟨2500838018233579,-8⟩ | _ => ⟨-53869575592945464,-9⟩
def tanW (U : Dc) : Dc :=U.mul (((((tP 0).mul U).add (tP 1)).mul U).add (tP 2))
def tanX (U : Dc) : Dc :=((((((U.add (tQ 1)).mul U).add (tQ 2)).mul U).add (tQ 3)).mul U).add (tQ 4)
def tanG (U : Dc) : Bool :=decide (1 * ((10 ^ (-14 - U.e).toNat : Nat) : Int) < U.m)
def tanY (Z : Dc) : Dc :=if tanG (Z.mul Z) then Z.add (Z.mul ((tanW (Z.mul Z)).div (tanX (Z.mul Z)))) else Z
def tanOf (X : Int) (k : Nat) : Dc :=
  let j :=X.natAbs * 12732395447351625 / 10 ^ (k + 16)
  let jj :=j + j % 2
  let Y :=tanY (zD ⟨X.natAbs,-(k : Int)⟩ (yD j))
  let R :=if jj % 4 = 2 then (⟨-1,0⟩ : Dc).div Y else Y
  if decide (X < 0) then R.neg else R
end Go.Proofs.YtfmmdamgcpiciaaGreatDoor
namespace Go.Proofs.YtfmmdamgcpiciaaGreatDoor
open Go Go.RowKit
open Plain
theorem ring_X (z q1 q2 q3 q4 : Int) : (((z * z + q1) * (z * z) + q2) * (z * z) + q3) * (z * z) + q4 = ev [q4,0,q3,0,q2,0,q1,0,1] z :=by
  simp only [ev]
  grind
theorem ring_W (z p0 p1 p2 : Int) : (z * z) * ((p0 * (z * z) + p1) * (z * z) + p2) = ev [0,0,p2,0,p1,0,p0] z :=by
  simp only [ev]
  grind
theorem tQ_ge : ∀ C ∈ [tQ 2,tQ 3,tQ 4],0 ≤ C.e + (62 : Nat) :=by
  simp only [List.forall_mem_cons,List.not_mem_nil,false_imp_iff,implies_true,and_true,tQ]
  decide
theorem tP_ge : ∀ C ∈ [tP 1,tP 2],0 ≤ C.e + (62 : Nat) :=by
  simp only [List.forall_mem_cons,List.not_mem_nil,false_imp_iff,implies_true,and_true,tP]
  decide
def polW : List Int :=[0,0,-17956525197648488 * 10 ^ 177,0,11535166483858742 * 10 ^ 114,0,-13093693918138379 * 10 ^ 50]
theorem polX_eq : polX = [(tQ 4).sc 248,0,(tQ 3).sc 186,0,(tQ 2).sc 124,0,(tQ 1).sc 62,0,1] :=by decide +kernel
theorem polW_eq : polW = [0,0,(tP 2).sc 186,0,(tP 1).sc 124,0,(tP 0).sc 62] :=by decide +kernel
theorem polN_eq : polN = 0 :: padd polX polW :=by decide +kernel
theorem tanX_sc (Z : Dc) (hz : 0 ≤ Z.e + (31 : Nat)) (hz0 : Z.e ≤ 0) : (tanX (Z.mul Z)).sc 248 = ev polX (Z.sc 31) ∧ 0 ≤ (tanX (Z.mul Z)).e + ((248 : Nat) : Int) :=by
  have u1 :=sc_mul Z Z 31 31 hz hz
  have ue : (Z.mul Z).e = Z.e + Z.e :=rfl
  have q1 : (tQ 1).e = -12 :=rfl
  have a1 :=sc_add (Z.mul Z) (tQ 1) 62 (by omega) (by omega)
  have ae : ((Z.mul Z).add (tQ 1)).e = min (Z.mul Z).e (tQ 1).e :=rfl
  have hh :=hor_sc (Z.mul Z) (by omega) [tQ 2,tQ 3,tQ 4] ((Z.mul Z).add (tQ 1)) 62 (by omega) tQ_ge
  rw [show 62 + 62 * [tQ 2,tQ 3,tQ 4].length = 248 from rfl,show hor (Z.mul Z) ((Z.mul Z).add (tQ 1)) [tQ 2,tQ 3,tQ 4] = tanX (Z.mul Z) from rfl,a1,u1] at hh
  refine ⟨?_,hh.2⟩
  rw [hh.1,polX_eq,← ring_X]
  simp only [horI]
theorem tanW_sc (Z : Dc) (hz : 0 ≤ Z.e + (31 : Nat)) (hz0 : Z.e ≤ 0) : (tanW (Z.mul Z)).sc 248 = ev polW (Z.sc 31) ∧ 0 ≤ (tanW (Z.mul Z)).e + ((248 : Nat) : Int) :=by
  have u1 :=sc_mul Z Z 31 31 hz hz
  have ue : (Z.mul Z).e = Z.e + Z.e :=rfl
  have hh :=hor_sc (Z.mul Z) (by omega) [tP 1,tP 2] (tP 0) 62 (by decide) tP_ge
  rw [show 62 + 62 * [tP 1,tP 2].length = 186 from rfl] at hh
  have m1 :=sc_mul (Z.mul Z) (hor (Z.mul Z) (tP 0) [tP 1,tP 2]) 62 186 (by omega) hh.2
  have me : ((Z.mul Z).mul (hor (Z.mul Z) (tP 0) [tP 1,tP 2])).e = (Z.mul Z).e + (hor (Z.mul Z) (tP 0) [tP 1,tP 2]).e :=rfl
  rw [show (Z.mul Z).mul (hor (Z.mul Z) (tP 0) [tP 1,tP 2]) = tanW (Z.mul Z) from rfl] at m1 me
  refine ⟨?_,by omega⟩
  rw [show (248 : Nat) = 62 + 186 from rfl,m1,hh.1,u1,polW_eq,← ring_W]
  simp only [horI]
theorem tanX_e (Z : Dc) (l : -31 ≤ Z.e) (u : Z.e ≤ -30) : (tanX (Z.mul Z)).e = 8 * Z.e :=by
  have ue : (Z.mul Z).e = Z.e + Z.e :=rfl
  show min (min (min (min (Z.mul Z).e (-12) + (Z.mul Z).e) (-10) + (Z.mul Z).e) (-8) + (Z.mul Z).e) (-9) = _
  omega
theorem tanW_e (Z : Dc) (l : -31 ≤ Z.e) (u : Z.e ≤ -30) : (tanW (Z.mul Z)).e = 6 * Z.e - 12 :=by
  have ue : (Z.mul Z).e = Z.e + Z.e :=rfl
  show (Z.mul Z).e + min (min (-12 + (Z.mul Z).e) (-10) + (Z.mul Z).e) (-9) = _
  omega
theorem polX_low : pabs R31 (0 :: polX.tail) + 3 * 10 ^ 255 ≤ (-53869575592945464 * 10 ^ 239 : Int).natAbs :=by decide +kernel
theorem polX_high : pabs R31 polX ≤ 10 ^ 256 :=by decide +kernel
theorem polN_high : pabs R31 polN ≤ 10 ^ 287 :=by decide +kernel
theorem head_low {q z : Int} {l : List Int} {R a : Nat} (hz : z.natAbs ≤ R) (h : pabs R (0 :: l) + a ≤ q.natAbs) : a ≤ (ev (q :: l) z).natAbs :=by
  have h1 :=ev_le R z hz (0 :: l)
  simp only [ev] at h1 ⊢
  omega
theorem X_low {z : Int} (hz : z.natAbs ≤ R31) : 3 * 10 ^ 255 ≤ (ev polX z).natAbs :=head_low hz polX_low
theorem X_high {z : Int} (hz : z.natAbs ≤ R31) : (ev polX z).natAbs ≤ 10 ^ 256 :=Nat.le_trans (ev_le R31 z hz _) polX_high
theorem N_high {z : Int} (hz : z.natAbs ≤ R31) : (ev polN z).natAbs ≤ 10 ^ 287 :=Nat.le_trans (ev_le R31 z hz _) polN_high
theorem polN_low : pabs R31 (0 :: (padd polX polW).tail) + 10 ^ 255 ≤ (-53869575592945464 * 10 ^ 239 : Int).natAbs :=by decide +kernel
theorem padd_head : padd polX polW = (-53869575592945464 * 10 ^ 239) :: (padd polX polW).tail :=by decide +kernel
theorem XW_low {z : Int} (hz : z.natAbs ≤ R31) : 10 ^ 255 ≤ (ev polX z + ev polW z).natAbs :=by
  rw [← ev_padd,padd_head]
  exact head_low hz polN_low
theorem N_XW (z : Int) : ev polN z = z * (ev polX z + ev polW z) :=by
  rw [polN_eq,← ev_padd]
  simp only [ev,Int.zero_add]
theorem sc_ne {A : Dc} {n : Nat} (h : A.sc n ≠ 0) : A.m ≠ 0 :=by
  intro h0
  apply h
  unfold Dc.sc
  rw [h0,Int.zero_mul]
theorem tanX_ne (Z : Dc) (l : -31 ≤ Z.e) (u : Z.e ≤ -30) (hz : (Z.sc 31).natAbs ≤ R31) : (tanX (Z.mul Z)).m ≠ 0 :=by
  have h :=X_low hz
  rw [← (tanX_sc Z (by omega) (by omega)).1] at h
  refine sc_ne (n :=248) fun h0 => ?_
  rw [h0] at h
  exact absurd h (by decide +kernel)
theorem rnd_near (Z Y : Int) (neg : Bool) (hY : Y ≠ 0) (hn : neg = decide (Int.sign Z * Int.sign Y < 0)) : 2 * (rnd Z Y neg * Y - Z).natAbs ≤ Y.natAbs :=by
  have h1 : Z.tmod Y + Y * Z.tdiv Y = Z :=Int.tmod_add_mul_tdiv Z Y
  have h2 : (Z.tmod Y).natAbs < Y.natAbs :=by rw [Int.natAbs_tmod];exact Nat.mod_lt _ (by omega)
  unfold rnd
  by_cases h : 2 * (Z.tmod Y).natAbs < Y.natAbs
  · rw [if_pos h,show Z.tdiv Y * Y - Z = -Z.tmod Y by grind,Int.natAbs_neg]
    omega
  · rw [if_neg h]
    have hs : 0 ≤ Z → 0 ≤ Z.tmod Y :=fun h => Int.tmod_nonneg Y h
    have hs2 : Z ≤ 0 → Z.tmod Y ≤ 0 :=fun h => by
      have :=Int.tmod_nonneg Y (show 0 ≤ -Z by omega)
      rw [Int.neg_tmod] at this
      omega
    have hZ : Z ≠ 0 :=by
      rintro rfl
      rw [Int.zero_tmod] at h
      simp at h
      omega
    by_cases hn' : neg = true
    · rw [if_pos hn',show (Z.tdiv Y - 1) * Y - Z = -(Z.tmod Y + Y) by grind,Int.natAbs_neg]
      rw [hn'] at hn
      have hlt :=of_decide_eq_true hn.symm
      rcases Int.lt_or_gt_of_ne hY with y | y <;> rcases Int.lt_or_gt_of_ne hZ with x | x
      · rw [Int.sign_eq_neg_one_of_neg y,Int.sign_eq_neg_one_of_neg x] at hlt;omega
      · omega
      · omega
      · rw [Int.sign_eq_one_of_pos y,Int.sign_eq_one_of_pos x] at hlt;omega
    · rw [if_neg hn',show (Z.tdiv Y + 1) * Y - Z = -(Z.tmod Y - Y) by grind,Int.natAbs_neg]
      have hlt : ¬ (Int.sign Z * Int.sign Y < 0) :=fun h => hn' (by rw [hn];exact decide_eq_true h)
      rcases Int.lt_or_gt_of_ne hY with y | y <;> rcases Int.lt_or_gt_of_ne hZ with x | x
      · omega
      · rw [Int.sign_eq_neg_one_of_neg y,Int.sign_eq_one_of_pos x] at hlt;omega
      · rw [Int.sign_eq_one_of_pos y,Int.sign_eq_neg_one_of_neg x] at hlt;omega
      · omega
theorem sign_mul_ten (a : Int) (n : Nat) : Int.sign (a * ((10 ^ n : Nat) : Int)) = Int.sign a :=by
  rw [Int.sign_mul,Int.sign_eq_one_of_pos (Int.natCast_pos.2 (Nat.pow_pos (by decide))),Int.mul_one]
theorem div_sc (W X : Dc) (n : Nat) (hX : X.m ≠ 0) (h0 : 0 ≤ W.e - X.e + 16) (h1 : 0 ≤ X.e + n) (h2 : 0 ≤ W.e + n) : 2 * ((W.div X).m * X.sc n - 10 ^ 16 * W.sc n).natAbs ≤ (X.sc n).natAbs :=by
  have h :=rnd_near (W.m * ((10 ^ (W.e - X.e + 16).toNat : Nat) : Int)) X.m _ hX (by rw [sign_mul_ten])
  have h3 :=Nat.mul_le_mul_right (10 ^ (X.e + n).toNat) h
  have e1 : (W.div X).m * X.sc n - 10 ^ 16 * W.sc n = (rnd (W.m * ((10 ^ (W.e - X.e + 16).toNat : Nat) : Int)) X.m (decide (Int.sign W.m * Int.sign X.m < 0)) * X.m - W.m * ((10 ^ (W.e - X.e + 16).toNat : Nat) : Int)) * ((10 ^ (X.e + n).toNat : Nat) : Int) :=by
    have e2 : (10 : Int) ^ 16 * W.sc n = W.m * ((10 ^ (W.e - X.e + 16).toNat : Nat) : Int) * ((10 ^ (X.e + n).toNat : Nat) : Int) :=by
      rw [Int.mul_assoc,ten_add]
      unfold Dc.sc
      rw [show (10 : Int) ^ 16 = ((10 ^ 16 : Nat) : Int) by decide,Int.mul_left_comm,ten_add,show 16 + (W.e + (n : Int)).toNat = (W.e - X.e + 16).toNat + (X.e + (n : Int)).toNat by omega]
    rw [e2]
    unfold Dc.sc Dc.div
    simp only
    grind
  rw [e1,Int.natAbs_mul,Int.natAbs_natCast]
  unfold Dc.sc
  rw [Int.natAbs_mul,Int.natAbs_natCast]
  refine Nat.le_trans (Nat.le_of_eq (by grind)) h3
theorem tanY_sc (Z : Dc) (l : -31 ≤ Z.e) (u : Z.e ≤ -30) (hz : (Z.sc 31).natAbs ≤ R31) (hG : tanG (Z.mul Z) = true) :
    ∃ r : Int,(tanY Z).sc 47 * ev polX (Z.sc 31) = 10 ^ 16 * ev polN (Z.sc 31) + Z.sc 31 * r ∧ 2 * r.natAbs ≤ (ev polX (Z.sc 31)).natAbs ∧ (tanY Z).e = Z.e - 16 :=by
  obtain ⟨x1,x2⟩ :=tanX_sc Z (by omega) (by omega)
  obtain ⟨w1,w2⟩ :=tanW_sc Z (by omega) (by omega)
  have xe :=tanX_e Z l u
  have we :=tanW_e Z l u
  have hd :=div_sc (tanW (Z.mul Z)) (tanX (Z.mul Z)) 248 (tanX_ne Z l u hz) (by omega) x2 w2
  rw [x1,w1] at hd
  refine ⟨_,?_,hd,?_⟩
  · have d1 : ((tanW (Z.mul Z)).div (tanX (Z.mul Z))).e = -16 :=rfl
    have m1 :=sc_mul Z ((tanW (Z.mul Z)).div (tanX (Z.mul Z))) 31 16 (by omega) (by omega)
    have me : (Z.mul ((tanW (Z.mul Z)).div (tanX (Z.mul Z)))).e = Z.e + ((tanW (Z.mul Z)).div (tanX (Z.mul Z))).e :=rfl
    have a1 :=sc_add Z (Z.mul ((tanW (Z.mul Z)).div (tanX (Z.mul Z)))) 47 (by omega) (by omega)
    have zu :=sc_up Z 31 47 (by omega) (by decide)
    have ds : ((tanW (Z.mul Z)).div (tanX (Z.mul Z))).sc 16 = ((tanW (Z.mul Z)).div (tanX (Z.mul Z))).m :=by
      unfold Dc.sc
      rw [d1]
      simp
    rw [ds,show (31 + 16 : Nat) = 47 from rfl] at m1
    unfold tanY
    rw [if_pos hG,a1,m1,zu,N_XW,show ((10 ^ (47 - 31) : Nat) : Int) = 10 ^ 16 by decide]
    grind
  · unfold tanY
    rw [if_pos hG]
    have d1 : (Z.mul ((tanW (Z.mul Z)).div (tanX (Z.mul Z)))).e = Z.e + -16 :=rfl
    show min Z.e (Z.mul ((tanW (Z.mul Z)).div (tanX (Z.mul Z)))).e = _
    omega
theorem tanY_sc0 (Z : Dc) (l : -31 ≤ Z.e) (u : Z.e ≤ -30) (hG : tanG (Z.mul Z) = false) : (tanY Z).sc 47 = 10 ^ 16 * Z.sc 31 ∧ (Z.sc 31).natAbs ≤ 10 ^ 24 ∧ tanY Z = Z :=by
  have e0 : tanY Z = Z :=by unfold tanY;rw [hG];rfl
  refine ⟨?_,?_,e0⟩
  · rw [e0,sc_up Z 31 47 (by omega) (by decide),Int.mul_comm]
    rfl
  · have u1 :=sc_mul Z Z 31 31 (by omega) (by omega)
    have ue : (Z.mul Z).e = Z.e + Z.e :=rfl
    unfold tanG at hG
    have h :=Int.not_lt.1 (of_decide_eq_false hG)
    have h2 :=Int.mul_le_mul_of_nonneg_right h (Int.natCast_nonneg (10 ^ ((Z.mul Z).e + ((31 + 31 : Nat) : Int)).toNat))
    rw [show (Z.mul Z).m * ((10 ^ ((Z.mul Z).e + ((31 + 31 : Nat) : Int)).toNat : Nat) : Int) = (Z.mul Z).sc (31 + 31) from rfl,u1,Int.one_mul,ten_add] at h2
    have h3 : Z.sc 31 * Z.sc 31 ≤ 10 ^ 48 :=by
      rw [show (-14 - (Z.mul Z).e).toNat + ((Z.mul Z).e + ((31 + 31 : Nat) : Int)).toNat = 48 by omega] at h2
      refine Int.le_trans h2 (by decide +kernel)
    have h4 : (Z.sc 31).natAbs * (Z.sc 31).natAbs ≤ 10 ^ 48 :=by
      rw [← Int.natAbs_mul]
      have h5 : (0 : Int) ≤ Z.sc 31 * Z.sc 31 :=by
        rcases Int.le_total 0 (Z.sc 31) with a | a
        · exact Int.mul_nonneg a a
        · exact Int.mul_nonneg_of_nonpos_of_nonpos a a
      omega
    refine Nat.le_of_not_lt fun hlt => ?_
    have h6 :=Nat.mul_lt_mul'' hlt hlt
    rw [← Nat.pow_add] at h6
    exact absurd (Nat.lt_of_lt_of_le h6 h4) (Nat.lt_irrefl _)
end Go.Proofs.YtfmmdamgcpiciaaGreatDoor
namespace Go.Proofs.YtfmmdamgcpiciaaGreatDoor
open Go Go.RowKit
theorem hstepT {A U C M B : Dc} (n : Nat) (hA : Bd A n) (hU : Bd U 62) (hC : Bd C 17) (x1 : -62 ≤ U.e) (x2 : U.e ≤ -60) (y1 : -340 ≤ A.e) (y2 : A.e ≤ 0) (z1 : -27 ≤ C.e) (z2 : C.e ≤ 0) (hn : n ≤ 300) (hs : C.e - A.e - U.e + 17 < n + 64) (hM : A.mul U = M) (hB : M.add C = B) :
    mulF A U M ∧ addF M C B ∧ Bd B (n + 64) ∧ B.e = min (A.e + U.e) C.e :=by
  have hMb : Bd M (n + 62) :=hM ▸ hA.mul hU
  have hMe : M.e = A.e + U.e :=by rw [← hM];rfl
  have hBe : B.e = min M.e C.e :=by rw [← hB];rfl
  refine ⟨fun W ba bb hg h1 h2 => ?_,fun W ba bb hg h1 h2 => ?_,?_,by omega⟩
  · have :=dec_mulD W hg ba bb A U n 62 h1 h2 hA hU (by omega) (by omega) (by omega) (by omega) (by omega) (by omega) (by omega)
    rw [hM] at this;exact this
  · have :=dec_addD W hg ba bb M C (n + 62) 17 h1 h2 hMb hC (by omega) (by omega) (by omega) (by omega) (by omega) (by omega) (by omega) (by omega) (by omega) (by omega)
    rw [hB] at this;exact this
  · rw [← hB]
    exact hMb.add hC (s :=1) (t :=n + 46) (by omega) (by omega) (by omega) (by omega)
theorem tP_bd : Bd (tP 0) 18 ∧ Bd (tP 1) 17 ∧ Bd (tP 2) 17 :=by unfold Bd tP;decide +kernel
theorem tQ_bd : Bd (tQ 1) 17 ∧ Bd (tQ 2) 17 ∧ Bd (tQ 3) 17 ∧ Bd (tQ 4) 17 :=by unfold Bd tQ;decide +kernel
theorem rnd_bd (Z Y : Int) (neg : Bool) {n : Nat} (h : Z.natAbs ≤ 10 ^ n) : (rnd Z Y neg).natAbs ≤ 10 ^ (n + 1) :=by
  have h1 : (Z.tdiv Y).natAbs ≤ Z.natAbs :=by rw [Int.natAbs_tdiv];exact Nat.div_le_self _ _
  have h2 : 10 ^ (n + 1) = 10 * 10 ^ n :=by rw [Nat.pow_succ,Nat.mul_comm]
  have h3 : 0 < 10 ^ n :=Nat.pow_pos (by decide)
  unfold rnd
  split
  · omega
  · split <;> omega
theorem Bd.div {A B : Dc} {k n : Nat} (h : Bd A k) (hn : (A.e - B.e + 16).toNat ≤ n) : Bd (A.div B) (k + n + 1) :=by
  unfold Bd Dc.div at *
  refine rnd_bd _ _ _ ?_
  rw [Int.natAbs_mul,Int.natAbs_natCast,Nat.pow_add]
  exact Nat.mul_le_mul h (Nat.pow_le_pow_right (by decide) hn)
abbrev divF (A B R : Dc) : Prop :=∀ W ba bb,Glob W → W.cell? ⟨0,0,none⟩ = some (.int .i64 16) → IntAt W ba A.m → IntAt W bb B.m → Calls Tryz.prog 84 #[dv ba A.e,dv bb B.e] W (NewDec W R.m R.e)
theorem dec_divD {A B : Dc} (k l n : Nat) (hA : Bd A k) (hB : Bd B l) (h0 : B.m ≠ 0) (hn : (n : Int) = A.e - B.e + 16) (hn4 : n ≤ 420) (hk : k + n ≤ 740) (hl : l ≤ 740) (x1 : -1000 ≤ A.e) (x2 : A.e ≤ 1000) (x3 : -1000 ≤ B.e) (x4 : B.e ≤ 1000) : divF A B (A.div B) :=fun W ba bb hg hd h1 h2 => by
  have :=dec_div W hg hd ba bb n A.e B.e A.m B.m h1 h2 h0 hn hn4 (lt39 hA (by omega)) (lt39 (n :=(A.m * ((10 ^ n : Nat) : Int)).natAbs) (k :=k + n) (by
    unfold Bd at hA
    rw [Int.natAbs_mul,Int.natAbs_natCast,Nat.pow_add]
    exact Nat.mul_le_mul_right _ hA) hk) (lt39 hB hl) x1 x2 x3 x4
  rw [show n = (A.e - B.e + 16).toNat by omega] at this
  exact this
theorem tan_steps (Z U : Dc) (hU : Z.mul Z = U) (hZ : Bd Z 31) (z1 : -31 ≤ Z.e) (z2 : Z.e ≤ -30) (hz : (Z.sc 31).natAbs ≤ Plain.R31) (hG : tanG U = true) :
    ∃ M1 A1 M2 A2 W X1 N2 X2 N3 X3 N4 X D V : Dc,mulF (tP 0) U M1 ∧ addF M1 (tP 1) A1 ∧ mulF A1 U M2 ∧ addF M2 (tP 2) A2 ∧ mulF U A2 W ∧ addF U (tQ 1) X1 ∧ mulF X1 U N2 ∧ addF N2 (tQ 2) X2 ∧ mulF X2 U N3 ∧ addF N3 (tQ 3) X3 ∧ mulF X3 U N4 ∧ addF N4 (tQ 4) X ∧ divF W X D ∧ mulF Z D V ∧ addF Z V (tanY Z) ∧ Bd (tanY Z) 330 ∧ (tanY Z).e = Z.e - 16 :=by
  have hUb : Bd U 62 :=hU ▸ hZ.mul hZ
  have hUe : U.e = Z.e + Z.e :=by rw [← hU];rfl
  obtain ⟨bp0,bp1,bp2⟩ :=tP_bd
  obtain ⟨bq1,bq2,bq3,bq4⟩ :=tQ_bd
  have p0 : (tP 0).e = -12 :=rfl
  have p1 : (tP 1).e = -10 :=rfl
  have p2 : (tP 2).e = -9 :=rfl
  have q1 : (tQ 1).e = -12 :=rfl
  have q2 : (tQ 2).e = -10 :=rfl
  have q3 : (tQ 3).e = -8 :=rfl
  have q4 : (tQ 4).e = -9 :=rfl
  have hxe :=tanX_e Z z1 z2
  have hwe :=tanW_e Z z1 z2
  have hne :=tanX_ne Z z1 z2 hz
  rw [hU] at hxe hwe hne
  have hW : tanW U = U.mul (((((tP 0).mul U).add (tP 1)).mul U).add (tP 2)) :=rfl
  have hX : tanX U = ((((((U.add (tQ 1)).mul U).add (tQ 2)).mul U).add (tQ 3)).mul U).add (tQ 4) :=rfl
  have hY : tanY Z = Z.add (Z.mul ((tanW U).div (tanX U))) :=by unfold tanY;rw [hU,if_pos hG]
  obtain ⟨M1,hM1⟩ : ∃ S,(tP 0).mul U = S :=⟨_,rfl⟩
  obtain ⟨A1,hA1⟩ : ∃ S,M1.add (tP 1) = S :=⟨_,rfl⟩
  obtain ⟨M2,hM2⟩ : ∃ S,A1.mul U = S :=⟨_,rfl⟩
  obtain ⟨A2,hA2⟩ : ∃ S,M2.add (tP 2) = S :=⟨_,rfl⟩
  obtain ⟨X1,hX1⟩ : ∃ S,U.add (tQ 1) = S :=⟨_,rfl⟩
  obtain ⟨N2,hN2⟩ : ∃ S,X1.mul U = S :=⟨_,rfl⟩
  obtain ⟨X2,hX2⟩ : ∃ S,N2.add (tQ 2) = S :=⟨_,rfl⟩
  obtain ⟨N3,hN3⟩ : ∃ S,X2.mul U = S :=⟨_,rfl⟩
  obtain ⟨X3,hX3⟩ : ∃ S,N3.add (tQ 3) = S :=⟨_,rfl⟩
  obtain ⟨N4,hN4⟩ : ∃ S,X3.mul U = S :=⟨_,rfl⟩
  rw [hM1,hA1,hM2,hA2] at hW
  rw [hX1,hN2,hX2,hN3,hX3,hN4] at hX
  obtain ⟨W,hWW⟩ : ∃ S,tanW U = S :=⟨_,rfl⟩
  obtain ⟨X,hXX⟩ : ∃ S,tanX U = S :=⟨_,rfl⟩
  rw [hWW] at hW hwe
  rw [hXX] at hX hxe hne
  rw [hWW,hXX] at hY
  obtain ⟨D,hD⟩ : ∃ S,W.div X = S :=⟨_,rfl⟩
  rw [hD] at hY
  obtain ⟨V,hV⟩ : ∃ S,Z.mul D = S :=⟨_,rfl⟩
  rw [hV] at hY
  obtain ⟨a1,a2,a3,a4⟩ :=hstepT 18 bp0 hUb bp1 (by omega) (by omega) (by omega) (by omega) (by omega) (by omega) (by omega) (by omega) hM1 hA1
  obtain ⟨b1,b2,b3,b4⟩ :=hstepT 82 a3 hUb bp2 (by omega) (by omega) (by omega) (by omega) (by omega) (by omega) (by omega) (by omega) hM2 hA2
  have hX1b : Bd X1 68 :=by
    rw [← hX1]
    exact hUb.add bq1 (s :=1) (t :=50) (by omega) (by omega) (by omega) (by omega)
  have hX1e : X1.e = U.e :=by rw [← hX1];show min U.e (tQ 1).e = _;omega
  obtain ⟨c1,c2,c3,c4⟩ :=hstepT 68 hX1b hUb bq2 (by omega) (by omega) (by omega) (by omega) (by omega) (by omega) (by omega) (by omega) hN2 hX2
  obtain ⟨d1,d2,d3,d4⟩ :=hstepT 132 c3 hUb bq3 (by omega) (by omega) (by omega) (by omega) (by omega) (by omega) (by omega) (by omega) hN3 hX3
  obtain ⟨e1,e2,e3,e4⟩ :=hstepT 196 d3 hUb bq4 (by omega) (by omega) (by omega) (by omega) (by omega) (by omega) (by omega) (by omega) hN4 hX.symm
  have hWb : Bd W 208 :=hW ▸ hUb.mul b3
  have hDe : D.e = -16 :=by rw [← hD];rfl
  have hDb : Bd D 280 :=by
    rw [← hD]
    exact (hWb.div (n :=70) (by omega)).le (by decide)
  have hVb : Bd V 311 :=hV ▸ hZ.mul hDb
  have hVe : V.e = Z.e + D.e :=by rw [← hV];rfl
  obtain ⟨n,hn⟩ : ∃ n : Nat,(n : Int) = W.e - X.e + 16 :=⟨(W.e - X.e + 16).toNat,by omega⟩
  refine ⟨M1,A1,M2,A2,W,X1,N2,X2,N3,X3,N4,X,D,V,a1,a2,b1,b2,fun W' ba bb hg h1 h2 => ?_,fun W' ba bb hg h1 h2 => ?_,c1,c2,d1,d2,e1,e2,?_,fun W' ba bb hg h1 h2 => ?_,fun W' ba bb hg h1 h2 => ?_,?_,?_⟩
  · have :=dec_mulD W' hg ba bb U A2 62 146 h1 h2 hUb b3 (by omega) (by omega) (by omega) (by omega) (by omega) (by omega) (by omega)
    rw [← hW] at this;exact this
  · have :=dec_addD W' hg ba bb U (tQ 1) 62 17 h1 h2 hUb bq1 (by omega) (by omega) (by omega) (by omega) (by omega) (by omega) (by omega) (by omega) (by omega) (by omega)
    rw [hX1] at this;exact this
  · rw [← hD]
    exact dec_divD 208 260 n hWb e3 hne hn (by omega) (by omega) (by omega) (by omega) (by omega) (by omega) (by omega)
  · have :=dec_mulD W' hg ba bb Z D 31 280 h1 h2 hZ hDb (by omega) (by omega) (by omega) (by omega) (by omega) (by omega) (by omega)
    rw [hV] at this;exact this
  · have :=dec_addD W' hg ba bb Z V 31 311 h1 h2 hZ hVb (by omega) (by omega) (by omega) (by omega) (by omega) (by omega) (by omega) (by omega) (by omega) (by omega)
    rw [← hY] at this;exact this
  · rw [hY]
    exact (hZ.add hVb (s :=20) (t :=1) (n :=330) (by omega) (by omega) (by omega) (by omega))
  · rw [hY]
    show min Z.e V.e = _
    omega
theorem tanY_bd (Z : Dc) (hZ : Bd Z 31) (z1 : -31 ≤ Z.e) (z2 : Z.e ≤ -30) (hz : (Z.sc 31).natAbs ≤ Plain.R31) : Bd (tanY Z) 330 ∧ -47 ≤ (tanY Z).e ∧ (tanY Z).e ≤ -30 :=by
  cases hG : tanG (Z.mul Z)
  · rw [(tanY_sc0 Z z1 z2 hG).2.2]
    exact ⟨hZ.le (by decide),by omega,z2⟩
  · obtain ⟨M1,A1,M2,A2,W,X1,N2,X2,N3,X3,N4,X,D,V,-,-,-,-,-,-,-,-,-,-,-,-,-,-,-,h1,h2⟩ :=tan_steps Z _ rfl hZ z1 z2 hz hG
    exact ⟨h1,by omega,by omega⟩
theorem tanY_ne (Z : Dc) (z1 : -31 ≤ Z.e) (z2 : Z.e ≤ -30) (hz : (Z.sc 31).natAbs ≤ Plain.R31) (h0 : Z.sc 31 ≠ 0) : (tanY Z).m ≠ 0 :=by
  cases hG : tanG (Z.mul Z)
  · rw [(tanY_sc0 Z z1 z2 hG).2.2]
    exact sc_ne h0
  · obtain ⟨r,h1,h2,-⟩ :=tanY_sc Z z1 z2 hz hG
    intro hm
    have hs : (tanY Z).sc 47 = 0 :=by unfold Dc.sc;rw [hm,Int.zero_mul]
    rw [hs,Int.zero_mul,N_XW] at h1
    have e1 : Z.sc 31 * (10 ^ 16 * (Plain.ev Plain.polX (Z.sc 31) + Plain.ev polW (Z.sc 31)) + r) = 0 :=by grind
    rcases Int.mul_eq_zero.1 e1 with h | h
    · exact h0 h
    · have h3 :=XW_low hz
      have h4 :=X_high hz
      have h5 : (10 ^ 16 * (Plain.ev Plain.polX (Z.sc 31) + Plain.ev polW (Z.sc 31))).natAbs = r.natAbs :=by
        rw [show 10 ^ 16 * (Plain.ev Plain.polX (Z.sc 31) + Plain.ev polW (Z.sc 31)) = -r by omega,Int.natAbs_neg]
      rw [Int.natAbs_mul] at h5
      have h6 :=Nat.mul_le_mul_left (10 ^ 16 : Int).natAbs h3
      rw [h5] at h6
      have h7 : 2 * ((10 ^ 16 : Int).natAbs * 10 ^ 255) ≤ 10 ^ 256 :=Nat.le_trans (Nat.le_trans (Nat.mul_le_mul_left 2 h6) h2) h4
      exact absurd h7 (by decide +kernel)
theorem z_ne {N k j : Nat} (hk : k ≤ 18) (hN : N < 10 ^ (k + 1)) (hj : N * 12732395447351625 / 10 ^ (k + 16) = j) (h4 : (j + j % 2) % 4 = 2) : (zD ⟨N,-(k : Int)⟩ (yD j)).sc 31 ≠ 0 :=by
  have hj12 :=small_angle hN hj
  intro h0
  have h :=(zD_bound hk hN hj).2.1
  rw [h0] at h
  have hS : (⟨(N : Int),-(k : Int)⟩ : Dc).sc 31 = 10 ^ 13 * ((N : Int) * ((10 ^ (18 - k) : Nat) : Int)) :=by
    unfold Dc.sc
    simp only
    rw [show (-(k : Int) + (31 : Nat)).toNat = 13 + (18 - k) by omega,← ten_add,Int.mul_left_comm]
    rfl
  rw [hS] at h
  have hd : (10 ^ 13 : Int) ∣ ((j + j % 2 : Nat) : Int) * p4 :=⟨(N : Int) * ((10 ^ (18 - k) : Nat) : Int),by omega⟩
  have h' : j = 1 ∨ j = 2 ∨ j = 5 ∨ j = 6 ∨ j = 9 ∨ j = 10 :=by omega
  rcases h' with rfl | rfl | rfl | rfl | rfl | rfl <;> exact absurd (Int.emod_eq_zero_of_dvd hd) (by decide +kernel)
theorem index102 (a : Array Value) (i : Nat) (hi : i < 3) (w : World) : (Instr.index 102 (.agg a) (.int .i64 (i : Int))).run Tryz.prog w = .ok (.agg (a.extract (i * 2) (i * 2 + 2))) w :=by
  have h : Tryz.prog.underlying 102 = some (.array 3 55) :=by kernel_rfl
  have hn : (0 ≤ (i : Int) ∧ (i : Int) < ((3 : Nat) : Int)) :=by omega
  have hs : (Tryz.prog.types[55]?.getD default).size = 2 :=by kernel_rfl
  simp [Instr.index,run_underlying h,asIntOf,hn,go_sem]
  omega
@[go_sem] theorem index102_0 (a0 a1 a2 a3 a4 a5 : Value) (w : World) : (Instr.index 102 (.agg #[a0,a1,a2,a3,a4,a5]) (.int .i64 0)).run Tryz.prog w = .ok (.agg #[a0,a1]) w :=index102 #[a0,a1,a2,a3,a4,a5] 0 (by decide) w
@[go_sem] theorem index102_1 (a0 a1 a2 a3 a4 a5 : Value) (w : World) : (Instr.index 102 (.agg #[a0,a1,a2,a3,a4,a5]) (.int .i64 1)).run Tryz.prog w = .ok (.agg #[a2,a3]) w :=index102 #[a0,a1,a2,a3,a4,a5] 1 (by decide) w
@[go_sem] theorem index102_2 (a0 a1 a2 a3 a4 a5 : Value) (w : World) : (Instr.index 102 (.agg #[a0,a1,a2,a3,a4,a5]) (.int .i64 2)).run Tryz.prog w = .ok (.agg #[a4,a5]) w :=index102 #[a0,a1,a2,a3,a4,a5] 2 (by decide) w
theorem index104 (a : Array Value) (i : Nat) (hi : i < 5) (w : World) : (Instr.index 104 (.agg a) (.int .i64 (i : Int))).run Tryz.prog w = .ok (.agg (a.extract (i * 2) (i * 2 + 2))) w :=by
  have h : Tryz.prog.underlying 104 = some (.array 5 55) :=by kernel_rfl
  have hn : (0 ≤ (i : Int) ∧ (i : Int) < ((5 : Nat) : Int)) :=by omega
  have hs : (Tryz.prog.types[55]?.getD default).size = 2 :=by kernel_rfl
  simp [Instr.index,run_underlying h,asIntOf,hn,go_sem]
  omega
@[go_sem] theorem index104_1 (a0 a1 a2 a3 a4 a5 a6 a7 a8 a9 : Value) (w : World) : (Instr.index 104 (.agg #[a0,a1,a2,a3,a4,a5,a6,a7,a8,a9]) (.int .i64 1)).run Tryz.prog w = .ok (.agg #[a2,a3]) w :=index104 #[a0,a1,a2,a3,a4,a5,a6,a7,a8,a9] 1 (by decide) w
@[go_sem] theorem index104_2 (a0 a1 a2 a3 a4 a5 a6 a7 a8 a9 : Value) (w : World) : (Instr.index 104 (.agg #[a0,a1,a2,a3,a4,a5,a6,a7,a8,a9]) (.int .i64 2)).run Tryz.prog w = .ok (.agg #[a4,a5]) w :=index104 #[a0,a1,a2,a3,a4,a5,a6,a7,a8,a9] 2 (by decide) w
@[go_sem] theorem index104_3 (a0 a1 a2 a3 a4 a5 a6 a7 a8 a9 : Value) (w : World) : (Instr.index 104 (.agg #[a0,a1,a2,a3,a4,a5,a6,a7,a8,a9]) (.int .i64 3)).run Tryz.prog w = .ok (.agg #[a6,a7]) w :=index104 #[a0,a1,a2,a3,a4,a5,a6,a7,a8,a9] 3 (by decide) w
@[go_sem] theorem index104_4 (a0 a1 a2 a3 a4 a5 a6 a7 a8 a9 : Value) (w : World) : (Instr.index 104 (.agg #[a0,a1,a2,a3,a4,a5,a6,a7,a8,a9]) (.int .i64 4)).run Tryz.prog w = .ok (.agg #[a8,a9]) w :=index104 #[a0,a1,a2,a3,a4,a5,a6,a7,a8,a9] 4 (by decide) w
end Go.Proofs.YtfmmdamgcpiciaaGreatDoor
namespace Go.Proofs.YtfmmdamgcpiciaaGreatDoor
open Go Go.RowKit
def NI (w0 w : World) (b : Nat) : Prop :=w0.heap.size ≤ b ∧ ∃ s n c,w.cell? ⟨b,1,none⟩ = some (.slice s n c) ∧ ∀ a,s = some a → w0.heap.size ≤ a.block
theorem NI.of {w0 w1 w : World} {b : Nat} {X : Int} (h : IntN w1 w b X) (k : w0.heap.size ≤ w1.heap.size) : NI w0 w b :=by
  obtain ⟨s,n,c,h,h2,h3⟩ :=h.older k
  exact ⟨h2,s,n,c,h.abs,h3⟩
theorem NI.kept {w0 w w' : World} {b : Nat} (h : NI w0 w b) (k : Kept w w') : NI w0 w' b :=by
  obtain ⟨h1,s,n,c,h2,h3⟩ :=h
  exact ⟨h1,s,n,c,Kept.at k h2,h3⟩
theorem NI.put {w0 w : World} {L V1 V2} {v b : Nat} {x y : Value} {X : Int} (h : NI w0 w b) (F : Fm w0 w L (V1 ++ (v,x,y) :: V2)) (hm : (b,X) ∈ L) (x' y' : Value) : NI w0 (put2 w v x' y') b :=by
  obtain ⟨h1,s,n,c,h2,h3⟩ :=h
  obtain ⟨_,_,_,_,hne⟩ :=F.ints _ hm
  have hb : b ≠ v :=(hne (v,x,y) (by simp)).1
  exact ⟨h1,s,n,c,cs_ne (cs_ne h2 (by omega)) (by omega),h3⟩
theorem NI.int {w0 w : World} {b : Nat} {X : Int} (h : NI w0 w b) (hi : IntAt w b X) : IntN w0 w b X :=by
  obtain ⟨h1,s,n,c,h2,h3⟩ :=h
  obtain ⟨s',n',c',hi⟩ :=hi
  have he :=hi.abs.symm.trans h2
  injection he with he
  injection he with e1 e2 e3
  subst e1
  exact ⟨_,n',c',hi,h1,h3⟩
theorem tan0 (w : World) (hg : Glob w) (hF : GlobF w) (hd : w.cell? ⟨0,0,none⟩ = some (.int .i64 16)) (b k : Nat) (X e : Int) (hX : IntAt w b X) (h0 : X ≠ 0) (hk : k ≤ 18) (hek : e = -(k : Int)) (hN : X.natAbs < 10 ^ (k + 1)) : Calls Tryz.prog 47 #[dv b e] w (NewDec w (tanOf X k).m (tanOf X k).e) :=by
  have F :=(Fm.start hg hF).old hX
  have he : -18 ≤ e :=by omega
  have he2 : e ≤ 0 :=by omega
  have HE :=Lib.hid hek
  clear hek
  have hz : ∀ W,IntAt W b X → Calls Tryz.prog 64 #[dv b e] W fun r w' => r = .returned (.bool false) ∧ Kept W w' :=fun W hW => by
    have :=dec_isZero W b e X hW
    rw [decide_eq_false h0] at this;exact this
  have hn :=fun W (hW : IntAt W b X) => dec_isNegative W b e X hW
  go_enter Tryz.func47,Tryz.ntmps47
  go_upto_if 22 with (first
    | (go_at_call 60;(refine (dec_pi4A _ ((hF.kept (boxK w _ _)).kept (boxK _ _ _))).mono ?_);rintro r w1 ⟨b1,rfl,n1,k1⟩;have F :=((F.box (ptr b) (.int .i32 e)).box (.pointer none) (.int .i32 0)).new n1 k1)
    | (go_at_call 61;(refine (dec_pi4B _ F.globF).mono ?_);rintro r w2 ⟨b2,rfl,n2,k2⟩;replace F :=F.new n2 k2)
    | (go_at_call 62;(refine (dec_pi4C _ F.globF).mono ?_);rintro r w3 ⟨b3,rfl,n3,k3⟩;replace F :=F.new n3 k3)
    | (go_at_call 63;(refine (dec_m4PI _ F.globF).mono ?_);rintro r w4 ⟨b4,rfl,n4,k4⟩;replace F :=((((F.new n4 k4).box (ptr b1) (.int .i32 (-16))).box (ptr b2) (.int .i32 (-23))).box (ptr b3) (.int .i32 (-31))).box (ptr b4) (.int .i32 (-16));simp only [Box,World.size_alloc] at F;obtain ⟨c0,c1,_,_⟩ :=F.at 5 rfl)
    | (go_at_call 64;(refine (hz _ (F.iat 4 rfl)).mono ?_);rintro r w6 ⟨rfl,k6⟩;replace F :=F.go k6;obtain ⟨c0,c1,_,_⟩ :=F.at 5 rfl)
    | (go_at_call 65;(refine (hn _ (F.iat 4 rfl)).mono ?_);rintro r w7 ⟨rfl,k7⟩;replace F :=F.go k7))
  obtain ⟨vA,hvA⟩ : ∃ v,w4.heap.size = v :=⟨_,rfl⟩
  rw [hvA] at F ⊢
  obtain ⟨sg,hsg⟩ : ∃ s,decide (X < 0) = s :=⟨_,rfl⟩
  rw [hsg]
  obtain ⟨N,hNX⟩ : ∃ N,X.natAbs = N :=⟨_,rfl⟩
  rw [hNX] at hN
  clear n1 n2 n3 n4 k1 k2 k3 k4 k6 k7 hz hn hvA c0 c1
  go_cut [7] from 23 to 109 (fun t7 wx => ∃ bd,t7 = .bool sg ∧ Fm w wx [(bd,(N : Int)),(b4,12732395447351625),(b3,26951514290790595),(b2,3774894707930798),(b1,7853981256484985)] (sinV vA (w.heap.size + 1) w.heap.size b1 b2 b3 b4 bd e))
  case first =>
    obtain ⟨c0,c1,f0,f1⟩ :=F.at 5 rfl
    cases sg
    · go_wp2_with fail
      go_meet
      refine ⟨b,rfl,F.sub fun p hp => ?_⟩
      have hm : (N : Int) = X :=by simp only [decide_eq_false_iff_not] at hsg;omega
      rw [hm] at hp
      simp only [List.mem_cons,List.not_mem_nil,or_false] at hp ⊢
      rcases hp with h | h | h | h | h <;> simp [h]
    · have hm : (N : Int) = -X :=by simp only [decide_eq_true_eq] at hsg;omega
      have hg' :=dec_neg _ b e X (F.iat 4 rfl)
      go_wp2_with (go_at_call 66;refine hg'.mono ?_;rintro r w8 ⟨b5,rfl,n5,k5⟩;replace F :=F.new n5 k5;obtain ⟨c0,c1,f0,f1⟩ :=F.at 5 rfl;have c2 :=cs_ne (u :=ptr b5) c1 (b' :=w.heap.size) (o' :=0) (by omega))
      go_meet
      refine ⟨b5,rfl,?_⟩
      have F2 :=Fm.put (V1 :=[(vA + 1 + 1 + 1,ptr b4,.int .i32 (-16)),(vA + 1 + 1,ptr b3,.int .i32 (-31)),(vA + 1,ptr b2,.int .i32 (-23)),(vA,ptr b1,.int .i32 (-16)),(w.heap.size + 1,.pointer none,.int .i32 0)]) (V2 :=[]) F (ptr b5) (.int .i32 e)
      refine F2.sub fun p hp => ?_
      rw [hm] at hp
      simp only [List.mem_cons,List.not_mem_nil,or_false] at hp ⊢
      rcases hp with h | h | h | h | h <;> simp [h]
  case rest =>
    obtain ⟨bd,rfl,F⟩ :=hcut
    obtain ⟨j,hj⟩ : ∃ j,N * 12732395447351625 / 10 ^ (k + 16) = j :=⟨_,rfl⟩
    have hj12 : j ≤ 12 :=small_angle hN hj
    have hmul :=fun W hg (h1 : IntAt W bd (N : Int)) (h2 : IntAt W b4 12732395447351625) => dec_mulD W hg bd b4 ⟨N,e⟩ pM 19 17 h1 h2 (bd_nat hN hk) (by unfold Bd;decide) (by omega) (by omega) (by omega) (by simp only;omega) (by simp only;omega) (by decide) (by decide)
    have hip :=fun W b5 hg (h : IntAt W b5 ((N * 12732395447351625 : Nat) : Int)) => dec_intPart W hg b5 (N * 12732395447351625) (k + 16) h (small39 hN hk) (by omega) (by rw [hj];omega)
    have hee : -((k + 16 : Nat) : Int) = e + -16 :=by have :=HE.out;omega
    rw [hj,hee] at hip
    have hfs :=fun W hg => fromSmall j hj12 W hg
    obtain ⟨c0,c1,f0,f1⟩ :=F.at 5 rfl
    obtain ⟨m0,m1,_,_⟩ :=F.at 0 rfl
    go_upto_if 34 with (first
      | (go_at_call 67;refine (hmul _ F.glob (F.iat 0 rfl) (F.iat 1 rfl)).mono ?_;rintro r w8 ⟨b5,rfl,n5,k5⟩;replace F :=F.new n5 k5)
      | (go_at_call 68;refine (hip _ _ F.glob (F.iat 0 rfl)).mono ?_;rintro r w9 ⟨rfl,k6⟩;replace F :=F.go k6)
      | (go_at_call 69;refine (hfs _ F.globF).mono ?_;rintro r w10 ⟨by',rfl,n7,k7⟩;replace F :=F.new n7 k7))
    replace F :=(F.sub (L' :=[(by',yM j),(bd,(N : Int)),(b4,12732395447351625),(b3,26951514290790595),(b2,3774894707930798),(b1,7853981256484985)]) (fun p hp => by
      simp only [List.mem_cons,List.not_mem_nil,or_false] at hp ⊢
      rcases hp with h | h | h | h | h | h <;> simp [h])).box (ptr by') (.int .i32 (yE j))
    obtain ⟨v9,hv9⟩ : ∃ v,w10.heap.size = v :=⟨_,rfl⟩
    rw [hv9] at F ⊢
    have hyE : 0 ≤ yE j ∧ yE j ≤ 1 :=by unfold yE;split <;> omega
    rw [and1i j (by omega)]
    obtain ⟨ob,hob⟩ : ∃ ob,(((j % 2 : Nat) : Int) == 1) = ob :=⟨_,rfl⟩
    rw [hob]
    have HJ :=Lib.hid hj
    clear n5 n7 k5 k6 k7 hmul hip hfs c0 c1 f0 f1 m0 m1 hv9 hj
    go_cut [8] from 35 to 109 (fun t8 wx => ∃ by2,t8 = .int .i64 (j + j % 2 : Nat) ∧ Fm w wx [(by2,(yD j).m),(bd,(N : Int)),(b4,12732395447351625),(b3,26951514290790595),(b2,3774894707930798),(b1,7853981256484985)] ((v9,ptr by2,.int .i32 (yD j).e) :: sinV vA (w.heap.size + 1) w.heap.size b1 b2 b3 b4 bd e))
    case first =>
      obtain ⟨c0,c1,f0,f1⟩ :=F.at 0 rfl
      cases ob
      · have hy : yD j = ⟨yM j,yE j⟩ :=by unfold yD;rw [if_neg (by intro h;rw [h] at hob;cases hob)]
        have HJ2 : Hid (j % 2 = 0) :=Lib.hid (by simp at hob;omega)
        go_wp2_with fail
        go_meet
        rw [hy,HJ2.out]
        exact ⟨by',rfl,F⟩
      · have HJ2 : Hid (j % 2 = 1) :=Lib.hid (by simp at hob;omega)
        have hy : yD j = (⟨yM j,yE j⟩ : Dc).add ⟨1,0⟩ :=by unfold yD;rw [if_pos HJ2.out]
        clear hob
        have hadd :=fun W hg b6 (h1 : IntAt W by' (yM j)) (h2 : IntAt W b6 1) => dec_addD W hg by' b6 ⟨yM j,yE j⟩ ⟨1,0⟩ 2 1 h1 h2 (bd_y hj12) (by unfold Bd;decide) (by omega) (by omega) (by simp only;omega) (by simp only;omega) (by decide) (by decide) (by simp only;omega) (by simp only;omega) (by simp only;omega) (by simp only;omega)
        go_wp2_with (first
          | (refine wp_region_lit_segs (id :=12) [[0,1],[2,3]] mixed (by kernel_rfl) ?_;simp only [wpSegsL,gaC,gaN,lZ0,lS0,coS])
          | refine ⟨by kernel_rfl,?_⟩
          | refine ⟨by kernel_rfl,oldD (by first | assumption | exact Chg.refl _ _ | exact (Chg.refl _ _).drew | exact kt (by first | assumption | exact (Chg.refl _ _).drew | exact Chg.refl _ _) (ziK _) | exact Chg.drew (by assumption)),?_⟩
          | refine ⟨oldD (by first | assumption | exact Chg.refl _ _ | exact (Chg.refl _ _).drew | exact kt (by first | assumption | exact (Chg.refl _ _).drew | exact Chg.refl _ _) (ziK _) | exact Chg.drew (by assumption)),?_⟩
          | (with_reducible refine And.intro ?_ ?_)
          | (go_at_call 71;refine (dec_new _ 1 0 (by decide) (by decide)).mono ?_;rintro r w11 ⟨b6,rfl,n6,k6⟩;have kr :=k6.of_drew;replace F :=(F.go (Chg.refl _ _).drew).new n6 k6;obtain ⟨c0,c1,f0,f1⟩ :=F.at 0 rfl)
          | (go_at_call 70;refine (hadd _ F.glob b6 (F.iat 1 rfl) (F.iat 0 rfl)).mono ?_;rintro r w12 ⟨b7,rfl,n7,k7⟩;replace kr :=kt kr k7;replace F :=F.new n7 k7;obtain ⟨c0,c1,f0,f1⟩ :=F.at 0 rfl;have c2 :=cs_ne (u :=ptr b7) c1 (b' :=v9) (o' :=0) (by omega)))
        go_meet
        rw [hy,HJ2.out]
        refine ⟨b7,by first | rfl | (congr 1;omega),?_⟩
        have F2 :=Fm.put (V1 :=[]) (V2 :=sinV vA (w.heap.size + 1) w.heap.size b1 b2 b3 b4 bd e) F (ptr b7) (.int .i32 ((⟨yM j,yE j⟩ : Dc).add ⟨1,0⟩).e)
        first | exact F2.sub fun p hp => (by simp only [List.mem_cons,List.not_mem_nil,or_false] at hp ⊢;rcases hp with h | h | h | h | h | h <;> simp [h]) | (refine (F2.go (Chg.refl _ _).drew).sub fun p hp => ?_;simp only [List.mem_cons,List.not_mem_nil,or_false] at hp ⊢;rcases hp with h | h | h | h | h | h <;> simp [h])
    case rest =>
      obtain ⟨by2,rfl,F⟩ :=hcut
      obtain ⟨y1,y2,y3,y4⟩ :=yD_facts hj12
      have hzb :=(zD_bound hk hN HJ.out).2.2
      rw [← HE.out] at hzb
      have HZR :=Lib.hid (zD_bound hk hN HJ.out).1
      obtain ⟨jj,hjj⟩ : ∃ jj,j + j % 2 = jj :=⟨_,rfl⟩
      have hjj12 : jj ≤ 12 :=by omega
      rw [hjj]
      obtain ⟨Y,hY⟩ : ∃ Y,yD j = Y :=⟨_,rfl⟩
      rw [hY] at F y1 y2 y3 y4 hzb
      have HJJ :=Lib.hid (And.intro hjj (And.intro hY y4))
      clear hjj hY y4 hob hyE
      obtain ⟨hz1,hz2⟩ :=hzb
      have q1e : (Y.mul pA).e = Y.e + -16 :=rfl
      have q2e : (Y.mul pB).e = Y.e + -23 :=rfl
      have q3e : (Y.mul pC).e = Y.e + -31 :=rfl
      have s1e : ((⟨N,e⟩ : Dc).sub (Y.mul pA)).e = min e (Y.mul pA).e :=rfl
      have s2e : (((⟨N,e⟩ : Dc).sub (Y.mul pA)).sub (Y.mul pB)).e = min ((⟨N,e⟩ : Dc).sub (Y.mul pA)).e (Y.mul pB).e :=rfl
      have q1b : Bd (Y.mul pA) 18 :=y1.mul (by unfold Bd;decide : Bd pA 16)
      have q2b : Bd (Y.mul pB) 18 :=y1.mul (by unfold Bd;decide : Bd pB 16)
      have q3b : Bd (Y.mul pC) 19 :=y1.mul (by unfold Bd;decide : Bd pC 17)
      have hD19 : Bd ⟨N,e⟩ 19 :=bd_nat hN hk
      have s1b : Bd ((⟨N,e⟩ : Dc).sub (Y.mul pA)) 40 :=hD19.sub q1b (s :=18) (t :=3) (by simp only;omega) (by simp only;omega) (by omega) (by omega)
      have s2b : Bd (((⟨N,e⟩ : Dc).sub (Y.mul pA)).sub (Y.mul pB)) 50 :=s1b.sub q2b (s :=8) (t :=0) (by omega) (by omega) (by omega) (by omega)
      have hq1 : ∀ W,Glob W → IntAt W by2 Y.m → IntAt W b1 7853981256484985 → Calls Tryz.prog 67 #[dv by2 Y.e,dv b1 (-16)] W (NewDec W (Y.mul pA).m (Y.mul pA).e) :=fun W hg h1 h2 => dec_mulD W hg by2 b1 Y pA 2 16 h1 h2 y1 (by unfold Bd;decide) (by omega) (by omega) (by omega) (by omega) (by omega) (by decide) (by decide)
      have hq2 : ∀ W,Glob W → IntAt W by2 Y.m → IntAt W b2 3774894707930798 → Calls Tryz.prog 67 #[dv by2 Y.e,dv b2 (-23)] W (NewDec W (Y.mul pB).m (Y.mul pB).e) :=fun W hg h1 h2 => dec_mulD W hg by2 b2 Y pB 2 16 h1 h2 y1 (by unfold Bd;decide) (by omega) (by omega) (by omega) (by omega) (by omega) (by decide) (by decide)
      have hq3 : ∀ W,Glob W → IntAt W by2 Y.m → IntAt W b3 26951514290790595 → Calls Tryz.prog 67 #[dv by2 Y.e,dv b3 (-31)] W (NewDec W (Y.mul pC).m (Y.mul pC).e) :=fun W hg h1 h2 => dec_mulD W hg by2 b3 Y pC 2 17 h1 h2 y1 (by unfold Bd;decide) (by omega) (by omega) (by omega) (by omega) (by omega) (by decide) (by decide)
      have hs1 : ∀ W bq,Glob W → IntAt W bd (N : Int) → IntAt W bq (Y.mul pA).m → Calls Tryz.prog 72 #[dv bd e,dv bq (Y.mul pA).e] W (NewDec W ((⟨N,e⟩ : Dc).sub (Y.mul pA)).m ((⟨N,e⟩ : Dc).sub (Y.mul pA)).e) :=fun W bq hg h1 h2 => dec_subD W hg bd bq ⟨N,e⟩ (Y.mul pA) 19 18 h1 h2 hD19 q1b (by omega) (by omega) (by simp only;omega) (by simp only;omega) (by omega) (by omega) (by simp only;omega) (by simp only;omega) (by simp only;omega) (by simp only;omega)
      obtain ⟨Q1,hQ1⟩ : ∃ S,Y.mul pA = S :=⟨_,rfl⟩
      obtain ⟨Q2,hQ2⟩ : ∃ S,Y.mul pB = S :=⟨_,rfl⟩
      obtain ⟨Q3,hQ3⟩ : ∃ S,Y.mul pC = S :=⟨_,rfl⟩
      obtain ⟨S1,hS1⟩ : ∃ S,(⟨N,e⟩ : Dc).sub Q1 = S :=⟨_,rfl⟩
      obtain ⟨S2,hS2⟩ : ∃ S,S1.sub Q2 = S :=⟨_,rfl⟩
      obtain ⟨Z,hZ⟩ : ∃ S,S2.sub Q3 = S :=⟨_,rfl⟩
      rw [hQ1] at hq1 hs1 q1e q1b s1e s1b s2e s2b
      rw [hQ2] at hq2 q2e q2b s2e s2b
      rw [hQ3] at hq3 q3e q3b
      rw [hS1] at hs1 s1e s1b s2e s2b
      rw [hS2] at s2e s2b
      have hs2 : ∀ W bp bq,Glob W → IntAt W bp S1.m → IntAt W bq Q2.m → Calls Tryz.prog 72 #[dv bp S1.e,dv bq Q2.e] W (NewDec W S2.m S2.e) :=fun W bp bq hg h1 h2 => by
        have :=dec_subD W hg bp bq S1 Q2 40 18 h1 h2 s1b q2b (by omega) (by omega) (by omega) (by omega) (by omega) (by omega) (by omega) (by omega) (by omega) (by omega)
        rw [hS2] at this;exact this
      have hs3 : ∀ W bp bq,Glob W → IntAt W bp S2.m → IntAt W bq Q3.m → Calls Tryz.prog 72 #[dv bp S2.e,dv bq Q3.e] W (NewDec W Z.m Z.e) :=fun W bp bq hg h1 h2 => by
        have :=dec_subD W hg bp bq S2 Q3 50 19 h1 h2 s2b q3b (by omega) (by omega) (by omega) (by omega) (by omega) (by omega) (by omega) (by omega) (by omega) (by omega)
        rw [hZ] at this;exact this
      obtain ⟨y0,y1',_,_⟩ :=F.at 0 rfl
      obtain ⟨d0,d1,_,_⟩ :=F.at 6 rfl
      obtain ⟨a0,a1,_,_⟩ :=F.at 4 rfl
      obtain ⟨bb0,bb1,_,_⟩ :=F.at 3 rfl
      obtain ⟨cc0,cc1,_,_⟩ :=F.at 2 rfl
      have hZz : zD ⟨N,e⟩ Y = Z :=by rw [← hZ,← hS2,← hS1,← hQ1,← hQ2,← hQ3];rfl
      rw [hZz] at hz1 hz2
      have HZ :=Lib.hid hZz
      clear q1e q2e q3e s1e s2e q1b q2b q3b s1b s2b hD19 hS1 hS2 hZ hZz hQ1 hQ2 hQ3
      go_upto_region 13 with fail
      go_cut [10] from 41 to 109 (fun t10 wx => ∃ vz bz,t10 = ptr vz ∧ NI w wx bz ∧ Fm w wx [(bz,Z.m),(by2,Y.m),(bd,(N : Int))] ((vz,ptr bz,.int .i32 Z.e) :: (v9,ptr by2,.int .i32 Y.e) :: sinV vA (w.heap.size + 1) w.heap.size b1 b2 b3 b4 bd e))
      case first =>
        go_wp2_with (first
          | (refine wp_region_lit_plan (id :=13) (.seg [0,1,2,5,6,9,10] (.two 3 13 (.two 4 13 (.two 7 13 (.two 8 13 (.two 11 13 (.two 12 13 (.seg [13] (.seg [14] .fin)) (.seg [12] (.seg [14] .fin))) (.seg [11] (.seg [12] (.seg [14] .fin)))) (.seg [8] (.seg [11] (.seg [12] (.seg [14] .fin))))) (.seg [7] (.seg [8] (.seg [11] (.seg [12] (.seg [14] .fin)))))) (.seg [4] (.seg [7] (.seg [8] (.seg [11] (.seg [12] (.seg [14] .fin))))))) (.seg [3] (.seg [4] (.seg [7] (.seg [8] (.seg [11] (.seg [12] (.seg [14] .fin))))))))) mixed (by kernel_rfl) ?_;simp only [wpPlanL,gaC,gaN,lZ0,lS0,coS];have kr : Kept wc wc.drew :=(Chg.refl _ _).drew;replace F :=F.go kr)
          | (refine ⟨by kernel_rfl,oldD kr,?_⟩)
          | (refine ⟨by kernel_rfl,oldD (kt kr (Chg.alloc _ _ _)),?_⟩;replace kr :=kt kr (boxK _ (.pointer none) (.int .i32 0));replace F :=F.box (.pointer none) (.int .i32 0);(try replace NZ :=NZ.kept (boxK _ (.pointer none) (.int .i32 0)));(try simp only [World.size_drew] at F);obtain ⟨z0,z1,zf0,zf1⟩ :=F.at 0 rfl)
          | (refine ⟨oldD kr,?_⟩)
          | (refine ⟨oldD (kt kr (Chg.alloc _ _ _)),?_⟩;replace kr :=kt kr (boxK _ (.pointer none) (.int .i32 0));replace F :=F.box (.pointer none) (.int .i32 0);(try replace NZ :=NZ.kept (boxK _ (.pointer none) (.int .i32 0)));(try simp only [World.size_drew] at F);obtain ⟨z0,z1,zf0,zf1⟩ :=F.at 0 rfl)
          | refine ⟨by kernel_rfl,?_⟩
          | (with_reducible refine And.intro ?_ ?_)
          | (go_at_call 67;(with_reducible refine (hq1 _ F.glob (F.int (by simp)) (F.int (by simp))).mono ?_);rintro r w20 ⟨bq1,rfl,n,k⟩;replace kr :=kt kr k;replace F :=F.new n k;clear n k)
          | (go_at_call 67;rw [show (wc.alloc (.cells #[.pointer none,.int .i32 0] 55)).drew = Box wc.drew (.pointer none) (.int .i32 0) from rfl];(with_reducible refine (hq1 _ F.glob (F.int (by simp)) (F.int (by simp))).mono ?_);rintro r w20 ⟨bq1,rfl,n,k⟩;replace kr :=kt kr k;replace F :=F.new n k;clear n k)
          | (go_at_call 67;(with_reducible refine (hq2 _ F.glob (F.int (by simp)) (F.int (by simp))).mono ?_);rintro r w22 ⟨bq2,rfl,n,k⟩;replace kr :=kt kr k;replace F :=F.new n k;clear n k)
          | (go_at_call 67;(with_reducible refine (hq3 _ F.glob (F.int (by simp)) (F.int (by simp))).mono ?_);rintro r w24 ⟨bq3,rfl,n,k⟩;replace kr :=kt kr k;replace F :=F.new n k;clear n k)
          | (go_at_call 72;(with_reducible refine (hs1 _ _ F.glob (F.int (by simp)) (F.int (by simp))).mono ?_);rintro r w21 ⟨bs1,rfl,n,k⟩;replace kr :=kt kr k;replace F :=F.new n k;clear n k)
          | (go_at_call 72;(with_reducible refine (hs2 _ _ _ F.glob (F.int (by simp)) (F.int (by simp))).mono ?_);rintro r w23 ⟨bs2,rfl,n,k⟩;replace kr :=kt kr k;replace F :=F.new n k;clear n k)
          | (go_at_call 72;(with_reducible refine (hs3 _ _ _ F.glob (F.int (by simp)) (F.int (by simp))).mono ?_);rintro r w25 ⟨bz,rfl,n,k⟩;have NZ :=NI.of n (Chg.size F.kept);replace kr :=kt kr k;replace F :=F.new n k;clear n k;obtain ⟨z0,z1,zf0,zf1⟩ :=F.at 0 rfl))
        all_goals
          go_meet
          have N2 :=NZ.put (V1 :=[]) F (X :=Z.m) (by simp) (ptr bz) (.int .i32 (Y.e - 31))
          (try rw [put2_box] at N2)
          refine ⟨_,bz,rfl,N2,?_⟩
          rw [hz1]
          have F2 :=Fm.put (V1 :=[]) (V2 :=(v9,ptr by2,.int .i32 Y.e) :: sinV vA (w.heap.size + 1) w.heap.size b1 b2 b3 b4 bd e) F (ptr bz) (.int .i32 (Y.e - 31))
          (try rw [put2_box] at F2)
          refine F2.sub fun p hp => ?_
          simp only [List.mem_cons,List.not_mem_nil,or_false] at hp ⊢
          rcases hp with h | h | h <;> simp [h]
      case rest =>
        obtain ⟨vz,bz,rfl,NZ,F⟩ :=hcut
        have hZe : -31 ≤ Z.e ∧ Z.e ≤ -30 :=by omega
        have hzz : ∀ W,Glob W → IntAt W bz Z.m → Calls Tryz.prog 67 #[dv bz Z.e,dv bz Z.e] W (NewDec W (Z.mul Z).m (Z.mul Z).e) :=fun W hg h1 => dec_mulD W hg bz bz Z Z 31 31 h1 h1 hz2 hz2 (by omega) (by omega) (by omega) (by omega) (by omega) (by omega) (by omega)
        have hUb : Bd (Z.mul Z) 62 :=hz2.mul hz2
        have hUe : (Z.mul Z).e = Z.e + Z.e :=rfl
        obtain ⟨U,hU⟩ : ∃ S,Z.mul Z = S :=⟨_,rfl⟩
        rw [hU] at hzz hUb hUe
        have HU :=Lib.hid (And.intro hU hUe)
        have HZe :=Lib.hid (And.intro hZe hz1)
        clear hU hUe hZe hz1 y0 y1' d0 d1 a0 a1 bb0 bb1 cc0 cc1 hq1 hq2 hq3 hs1 hs2 hs3
        obtain ⟨z0,z1,_,_⟩ :=F.at 0 rfl
        go_upto_region 15 with (go_at_call 67;(with_reducible refine (hzz _ F.glob (F.iat 0 rfl)).mono ?_);rintro r w30 ⟨bU,rfl,n30,k30⟩;replace F :=(F.new n30 k30).box (ptr bU) (.int .i32 U.e);replace NZ :=(NZ.kept k30).kept (boxK _ (ptr bU) (.int .i32 U.e)))
        obtain ⟨vU,hvU⟩ : ∃ v,w30.heap.size = v :=⟨_,rfl⟩
        rw [hvU] at F ⊢
        clear n30 k30 hvU hzz z0 z1
        obtain ⟨g,hg⟩ : ∃ g,tanG U = g :=⟨_,rfl⟩
        have hgt : ∀ W b',Glob W → IntAt W bU U.m → IntAt W b' 1 → Calls Tryz.prog 81 #[dv bU U.e,dv b' (-14)] W fun r w' => r = .returned (.bool g) ∧ Kept W w' :=fun W b' hg' h1 h2 => by
          have hUe :=HU.out.2
          have hZe :=HZe.out.1
          have :=dec_gt W hg' bU b' U.e (-14) U.m 1 h1 h2 (lt39 hUb (by decide)) (lt39 (n :=(1 : Int).natAbs) (k :=1) (by decide) (by decide)) (by omega) (by omega) (by omega) (by omega) (by omega) (by omega)
          rw [show decide (1 * ((10 ^ (-14 - U.e).toNat : Nat) : Int) < U.m) = g from hg] at this
          exact this
        go_cut [58] from 56 to 109 (fun t58 wx => t58 = .bool g ∧ NI w wx bz ∧ Fm w wx [(bU,U.m),(bz,Z.m)] ((vU,ptr bU,.int .i32 U.e) :: (vz,ptr bz,.int .i32 Z.e) :: (v9,ptr by2,.int .i32 Y.e) :: sinV vA (w.heap.size + 1) w.heap.size b1 b2 b3 b4 bd e))
        case first =>
          obtain ⟨u0,u1,uf0,uf1⟩ :=F.at 0 rfl
          go_wp2_with (first
            | (refine wp_region_lit_segs (id :=15) [[0,1],[2]] mixed (by kernel_rfl) ?_;simp only [wpSegsL,gaC,gaN,lZ0,lS0,coS])
            | refine ⟨by kernel_rfl,?_⟩
            | refine ⟨by kernel_rfl,oldD (by first | assumption | exact Chg.refl _ _ | exact (Chg.refl _ _).drew | exact kt (by first | assumption | exact (Chg.refl _ _).drew | exact Chg.refl _ _) (ziK _) | exact Chg.drew (by assumption)),?_⟩
            | refine ⟨oldD (by first | assumption | exact Chg.refl _ _ | exact (Chg.refl _ _).drew | exact kt (by first | assumption | exact (Chg.refl _ _).drew | exact Chg.refl _ _) (ziK _) | exact Chg.drew (by assumption)),?_⟩
            | (with_reducible refine And.intro ?_ ?_)
            | (go_at_call 71;(with_reducible refine (dec_new _ 1 (-14) (by decide) (by decide)).mono ?_);rintro r w40 ⟨b1n,rfl,n,k⟩;have kr :=k.of_drew;replace F :=(F.go (Chg.refl _ _).drew).new n k;replace NZ :=NZ.kept kr;clear n k)
            | (go_at_call 81;(with_reducible refine (hgt _ _ F.glob (F.int (by simp)) (F.int (by simp))).mono ?_);rintro r w41 ⟨rfl,k⟩;replace kr :=kt kr k;replace F :=F.go k;replace NZ :=NZ.kept k;clear k))
          go_meet
          refine ⟨rfl,NZ,F.sub fun p hp => ?_⟩
          simp only [List.mem_cons,List.not_mem_nil,or_false] at hp ⊢
          rcases hp with h | h <;> simp [h]
        case rest =>
          obtain ⟨rfl,NZ,F⟩ :=hcut
          obtain ⟨Yt,hYt⟩ : ∃ S,tanY Z = S :=⟨_,rfl⟩
          have hzR : (Z.sc 31).natAbs ≤ Plain.R31 :=by
            have h :=HZR.out
            have hz :=HZ.out
            obtain ⟨-,hY,-⟩ :=HJJ.out
            rw [HE.out] at hz
            rw [hY,hz] at h
            exact h
          obtain ⟨hZe1,hZe2⟩ :=HZe.out.1
          obtain ⟨hyb,hye1,hye2⟩ :=tanY_bd Z hz2 hZe1 hZe2 hzR
          rw [hYt] at hyb hye1 hye2
          have HYB :=Lib.hid (And.intro hyb (And.intro hye1 hye2))
          clear hyb hye1 hye2
          go_upto_if 58 with fail
          go_cut [12,13] from 59 to 109 (fun t12 t13 wx => ∃ by3,NI w wx by3 ∧ Fm w wx [(by3,Yt.m)] [(v9,ptr by3,.int .i32 Yt.e),(w.heap.size + 1,.pointer none,.int .i32 0)])
          case first =>
            obtain ⟨u0,u1,uf0,uf1⟩ :=F.at 0 rfl
            obtain ⟨z0,z1,zf0,zf1⟩ :=F.at 1 rfl
            obtain ⟨y0,y1,yf0,yf1⟩ :=F.at 2 rfl
            cases g
            · have e0 : Yt = Z :=by
                have hU :=HU.out.1
                rw [← hYt]
                exact (tanY_sc0 Z hZe1 hZe2 (by rw [hU];exact hg)).2.2
              have y2 :=cs_ne (u :=ptr bz) y1 (b' :=v9) (o' :=0) (by omega)
              go_wp2_with fail
              go_meet
              have N2 :=NZ.put (V1 :=[(vU,ptr bU,.int .i32 U.e),(vz,ptr bz,.int .i32 Z.e)]) F (X :=Z.m) (by simp) (ptr bz) (.int .i32 Z.e)
              have F2 :=Fm.put (V1 :=[(vU,ptr bU,.int .i32 U.e),(vz,ptr bz,.int .i32 Z.e)]) (V2 :=sinV vA (w.heap.size + 1) w.heap.size b1 b2 b3 b4 bd e) F (ptr bz) (.int .i32 Z.e)
              rw [e0]
              refine ⟨bz,N2,(F2.sub fun p hp => ?_).subV ?_⟩
              · simp only [List.mem_cons,List.not_mem_nil,or_false] at hp ⊢
                simp [hp]
              · simp [sinV]
            · obtain ⟨M1,A1,M2,A2,Wt,X1,N2,X2,N3,X3,N4,Xt,D,V,m1,a1,m2,a2,m3,x1,n2,x2,n3,x3,n4,x4,hdv,hv,hr,-,-⟩ :=tan_steps Z U HU.out.1 hz2 hZe1 hZe2 hzR hg
              rw [hYt] at hr
              simp only [tP] at m1 a1 a2
              simp only [tQ] at x1 x2 x3 x4
              clear hgt hg hzR hZe1 hZe2 hz2 hUb
              go_upto_region 16 with fail
              go_cut [12] from 59 to 109 (fun t12 wx => ∃ vw bw,t12 = ptr vw ∧ Fm w wx [(bw,Wt.m),(bU,U.m),(bz,Z.m)] ((vw,ptr bw,.int .i32 Wt.e) :: (vU,ptr bU,.int .i32 U.e) :: (vz,ptr bz,.int .i32 Z.e) :: (v9,ptr by2,.int .i32 Y.e) :: sinV vA (w.heap.size + 1) w.heap.size b1 b2 b3 b4 bd e))
              case first =>
                go_wp2_with (first
                  | (refine wp_region_lit_plan (id :=16) (.seg [0,3,8] (.two 1 14 (.seg [2] (.two 4 14 (.two 5 14 (.seg [6] (.two 7 14 (.two 9 14 (.two 10 14 (.seg [11] (.two 12 14 (.two 13 14 (.seg [14] (.seg [15] .fin)) (.seg [13] (.seg [15] .fin))) (.seg [12] (.seg [13] (.seg [15] .fin))))) (.seg [10] (.seg [11,12] (.seg [13] (.seg [15] .fin))))) (.seg [9] (.seg [10] (.seg [11,12] (.seg [13] (.seg [15] .fin)))))) (.seg [7] (.seg [9] (.seg [10] (.seg [11,12] (.seg [13] (.seg [15] .fin)))))))) (.seg [5] (.seg [6,7] (.seg [9] (.seg [10] (.seg [11,12] (.seg [13] (.seg [15] .fin)))))))) (.seg [4] (.seg [5] (.seg [6,7] (.seg [9] (.seg [10] (.seg [11,12] (.seg [13] (.seg [15] .fin)))))))))) (.seg [1] (.seg [2,4] (.seg [5] (.seg [6,7] (.seg [9] (.seg [10] (.seg [11,12] (.seg [13] (.seg [15] .fin))))))))))) mixed (by kernel_rfl) ?_;simp only [wpPlanL,gaC,gaN,lZ0,lS0,coS];have kr : Kept wc wc.drew :=(Chg.refl _ _).drew;replace F :=F.go kr)
                  | (refine ⟨by kernel_rfl,oldD kr,?_⟩)
                  | (refine ⟨by kernel_rfl,oldD (kt kr (Chg.alloc _ _ _)),?_⟩;replace kr :=kt kr (boxK _ (.pointer none) (.int .i32 0));replace F :=F.box (.pointer none) (.int .i32 0);(try simp only [World.size_drew] at F);obtain ⟨q0,q1,qf0,qf1⟩ :=F.at 0 rfl)
                  | (refine ⟨oldD kr,?_⟩)
                  | (refine ⟨oldD (kt kr (Chg.alloc _ _ _)),?_⟩;replace kr :=kt kr (boxK _ (.pointer none) (.int .i32 0));replace F :=F.box (.pointer none) (.int .i32 0);(try simp only [World.size_drew] at F);obtain ⟨q0,q1,qf0,qf1⟩ :=F.at 0 rfl)
                  | refine ⟨by kernel_rfl,?_⟩
                  | (with_reducible refine And.intro ?_ ?_)
                  | (go_at_call 82;have _ :=bc1;(with_reducible refine (dec_arr82 _ F.globF).mono ?_);rintro r wc2 ⟨bx0,bx1,bc2,rfl,n0,n1,n2,k⟩;replace kr :=kt kr k;replace F :=F.new n2 k;clear n0 n1 n2 k)
                  | (go_at_call 82;have _ :=bc0;(with_reducible refine (dec_arr82 _ F.globF).mono ?_);rintro r wc1 ⟨bx0,bc1,bx2,rfl,n0,n1,n2,k⟩;replace kr :=kt kr k;replace F :=F.new n1 k;clear n0 n1 n2 k)
                  | (go_at_call 82;(with_reducible refine (dec_arr82 _ F.globF).mono ?_);rintro r wc0 ⟨bc0,bx1,bx2,rfl,n0,n1,n2,k⟩;replace kr :=kt kr k;replace F :=F.new n0 k;clear n0 n1 n2 k)
                  | (go_at_call 82;have _ :=bc1;rw [show (wc.alloc (.cells #[.pointer none,.int .i32 0] 55)).drew = Box wc.drew (.pointer none) (.int .i32 0) from rfl];(with_reducible refine (dec_arr82 _ F.globF).mono ?_);rintro r wc2 ⟨bx0,bx1,bc2,rfl,n0,n1,n2,k⟩;replace kr :=kt kr k;replace F :=F.new n2 k;clear n0 n1 n2 k)
                  | (go_at_call 82;have _ :=bc0;rw [show (wc.alloc (.cells #[.pointer none,.int .i32 0] 55)).drew = Box wc.drew (.pointer none) (.int .i32 0) from rfl];(with_reducible refine (dec_arr82 _ F.globF).mono ?_);rintro r wc1 ⟨bx0,bc1,bx2,rfl,n0,n1,n2,k⟩;replace kr :=kt kr k;replace F :=F.new n1 k;clear n0 n1 n2 k)
                  | (go_at_call 82;rw [show (wc.alloc (.cells #[.pointer none,.int .i32 0] 55)).drew = Box wc.drew (.pointer none) (.int .i32 0) from rfl];(with_reducible refine (dec_arr82 _ F.globF).mono ?_);rintro r wc0 ⟨bc0,bx1,bx2,rfl,n0,n1,n2,k⟩;replace kr :=kt kr k;replace F :=F.new n0 k;clear n0 n1 n2 k)
                  | (go_at_call 67;(with_reducible refine (m1 _ _ _ F.glob (F.int (by simp)) (F.int (by simp))).mono ?_);rintro r wm1 ⟨bm1,rfl,n,k⟩;replace kr :=kt kr k;replace F :=F.new n k;clear n k)
                  | (go_at_call 67;(with_reducible refine (m2 _ _ _ F.glob (F.int (by simp)) (F.int (by simp))).mono ?_);rintro r wm2 ⟨bm2,rfl,n,k⟩;replace kr :=kt kr k;replace F :=F.new n k;clear n k)
                  | (go_at_call 67;(with_reducible refine (m3 _ _ _ F.glob (F.int (by simp)) (F.int (by simp))).mono ?_);rintro r wm3 ⟨bw,rfl,n,k⟩;replace kr :=kt kr k;replace F :=F.new n k;clear n k;try obtain ⟨q0,q1,qf0,qf1⟩ :=F.at 0 rfl)
                  | (go_at_call 70;(with_reducible refine (a1 _ _ _ F.glob (F.int (by simp)) (F.int (by simp))).mono ?_);rintro r wa1 ⟨ba1,rfl,n,k⟩;replace kr :=kt kr k;replace F :=F.new n k;clear n k)
                  | (go_at_call 70;(with_reducible refine (a2 _ _ _ F.glob (F.int (by simp)) (F.int (by simp))).mono ?_);rintro r wa2 ⟨ba2,rfl,n,k⟩;replace kr :=kt kr k;replace F :=F.new n k;clear n k))
                all_goals
                  go_meet
                  refine ⟨_,bw,rfl,?_⟩
                  have F2 :=Fm.put (V1 :=[]) (V2 :=(vU,ptr bU,.int .i32 U.e) :: (vz,ptr bz,.int .i32 Z.e) :: (v9,ptr by2,.int .i32 Y.e) :: sinV vA (w.heap.size + 1) w.heap.size b1 b2 b3 b4 bd e) F (ptr bw) (.int .i32 Wt.e)
                  (try rw [put2_box] at F2)
                  refine F2.sub fun p hp => ?_
                  simp only [List.mem_cons,List.not_mem_nil,or_false] at hp ⊢
                  rcases hp with h | h | h <;> simp [h]
              case rest =>
                obtain ⟨vw,bw,rfl,F⟩ :=hcut
                obtain ⟨w0,w1,wf0,wf1⟩ :=F.at 0 rfl
                obtain ⟨u0,u1,uf0,uf1⟩ :=F.at 1 rfl
                obtain ⟨z0,z1,zf0,zf1⟩ :=F.at 2 rfl
                obtain ⟨y0,y1,yf0,yf1⟩ :=F.at 3 rfl
                clear m1 a1 m2 a2 m3
                go_upto_region 17 with fail
                go_cut [13] from 73 to 109 (fun t13 wx => ∃ vx bx,t13 = ptr vx ∧ Fm w wx [(bx,Xt.m),(bw,Wt.m),(bz,Z.m)] ((vx,ptr bx,.int .i32 Xt.e) :: (vw,ptr bw,.int .i32 Wt.e) :: (vU,ptr bU,.int .i32 U.e) :: (vz,ptr bz,.int .i32 Z.e) :: (v9,ptr by2,.int .i32 Y.e) :: sinV vA (w.heap.size + 1) w.heap.size b1 b2 b3 b4 bd e))
                case first =>
                  go_wp2_with (first
                    | (refine wp_region_lit_plan (id :=17) (.seg [0,4,9,14] (.two 1 19 (.seg [2] (.two 3 19 (.two 5 19 (.two 6 19 (.seg [7] (.two 8 19 (.two 10 19 (.two 11 19 (.seg [12] (.two 13 19 (.two 15 19 (.two 16 19 (.seg [17] (.two 18 19 (.seg [19] (.seg [20] .fin)) (.seg [18] (.seg [20] .fin)))) (.seg [16] (.seg [17,18] (.seg [20] .fin)))) (.seg [15] (.seg [16] (.seg [17,18] (.seg [20] .fin))))) (.seg [13] (.seg [15] (.seg [16] (.seg [17,18] (.seg [20] .fin))))))) (.seg [11] (.seg [12,13] (.seg [15] (.seg [16] (.seg [17,18] (.seg [20] .fin))))))) (.seg [10] (.seg [11] (.seg [12,13] (.seg [15] (.seg [16] (.seg [17,18] (.seg [20] .fin)))))))) (.seg [8] (.seg [10] (.seg [11] (.seg [12,13] (.seg [15] (.seg [16] (.seg [17,18] (.seg [20] .fin)))))))))) (.seg [6] (.seg [7,8] (.seg [10] (.seg [11] (.seg [12,13] (.seg [15] (.seg [16] (.seg [17,18] (.seg [20] .fin)))))))))) (.seg [5] (.seg [6] (.seg [7,8] (.seg [10] (.seg [11] (.seg [12,13] (.seg [15] (.seg [16] (.seg [17,18] (.seg [20] .fin))))))))))) (.seg [3] (.seg [5] (.seg [6] (.seg [7,8] (.seg [10] (.seg [11] (.seg [12,13] (.seg [15] (.seg [16] (.seg [17,18] (.seg [20] .fin))))))))))))) (.seg [1] (.seg [2,3] (.seg [5] (.seg [6] (.seg [7,8] (.seg [10] (.seg [11] (.seg [12,13] (.seg [15] (.seg [16] (.seg [17,18] (.seg [20] .fin)))))))))))))) mixed (by kernel_rfl) ?_;simp only [wpPlanL,gaC,gaN,lZ0,lS0,coS];have kr : Kept wc wc.drew :=(Chg.refl _ _).drew;replace F :=F.go kr)
                    | (refine ⟨by kernel_rfl,oldD kr,?_⟩)
                    | (refine ⟨by kernel_rfl,oldD (kt kr (Chg.alloc _ _ _)),?_⟩;replace kr :=kt kr (boxK _ (.pointer none) (.int .i32 0));replace F :=F.box (.pointer none) (.int .i32 0);(try simp only [World.size_drew] at F);obtain ⟨q0,q1,qf0,qf1⟩ :=F.at 0 rfl)
                    | (refine ⟨oldD kr,?_⟩)
                    | (refine ⟨oldD (kt kr (Chg.alloc _ _ _)),?_⟩;replace kr :=kt kr (boxK _ (.pointer none) (.int .i32 0));replace F :=F.box (.pointer none) (.int .i32 0);(try simp only [World.size_drew] at F);obtain ⟨q0,q1,qf0,qf1⟩ :=F.at 0 rfl)
                    | refine ⟨by kernel_rfl,?_⟩
                    | (with_reducible refine And.intro ?_ ?_)
                    | (go_at_call 83;have _ :=bc3;(with_reducible refine (dec_arr83 _ F.globF).mono ?_);rintro r wc4 ⟨bx0,bx1,bx2,bx3,bc4,rfl,n0,n1,n2,n3,n4,k⟩;replace kr :=kt kr k;replace F :=F.new n4 k;clear n0 n1 n2 n3 n4 k)
                    | (go_at_call 83;have _ :=bc2;(with_reducible refine (dec_arr83 _ F.globF).mono ?_);rintro r wc3 ⟨bx0,bx1,bx2,bc3,bx4,rfl,n0,n1,n2,n3,n4,k⟩;replace kr :=kt kr k;replace F :=F.new n3 k;clear n0 n1 n2 n3 n4 k)
                    | (go_at_call 83;have _ :=bc1;(with_reducible refine (dec_arr83 _ F.globF).mono ?_);rintro r wc2 ⟨bx0,bx1,bc2,bx3,bx4,rfl,n0,n1,n2,n3,n4,k⟩;replace kr :=kt kr k;replace F :=F.new n2 k;clear n0 n1 n2 n3 n4 k)
                    | (go_at_call 83;(with_reducible refine (dec_arr83 _ F.globF).mono ?_);rintro r wc1 ⟨bx0,bc1,bx2,bx3,bx4,rfl,n0,n1,n2,n3,n4,k⟩;replace kr :=kt kr k;replace F :=F.new n1 k;clear n0 n1 n2 n3 n4 k)
                    | (go_at_call 83;have _ :=bc3;rw [show (wc.alloc (.cells #[.pointer none,.int .i32 0] 55)).drew = Box wc.drew (.pointer none) (.int .i32 0) from rfl];(with_reducible refine (dec_arr83 _ F.globF).mono ?_);rintro r wc4 ⟨bx0,bx1,bx2,bx3,bc4,rfl,n0,n1,n2,n3,n4,k⟩;replace kr :=kt kr k;replace F :=F.new n4 k;clear n0 n1 n2 n3 n4 k)
                    | (go_at_call 83;have _ :=bc2;rw [show (wc.alloc (.cells #[.pointer none,.int .i32 0] 55)).drew = Box wc.drew (.pointer none) (.int .i32 0) from rfl];(with_reducible refine (dec_arr83 _ F.globF).mono ?_);rintro r wc3 ⟨bx0,bx1,bx2,bc3,bx4,rfl,n0,n1,n2,n3,n4,k⟩;replace kr :=kt kr k;replace F :=F.new n3 k;clear n0 n1 n2 n3 n4 k)
                    | (go_at_call 83;have _ :=bc1;rw [show (wc.alloc (.cells #[.pointer none,.int .i32 0] 55)).drew = Box wc.drew (.pointer none) (.int .i32 0) from rfl];(with_reducible refine (dec_arr83 _ F.globF).mono ?_);rintro r wc2 ⟨bx0,bx1,bc2,bx3,bx4,rfl,n0,n1,n2,n3,n4,k⟩;replace kr :=kt kr k;replace F :=F.new n2 k;clear n0 n1 n2 n3 n4 k)
                    | (go_at_call 83;rw [show (wc.alloc (.cells #[.pointer none,.int .i32 0] 55)).drew = Box wc.drew (.pointer none) (.int .i32 0) from rfl];(with_reducible refine (dec_arr83 _ F.globF).mono ?_);rintro r wc1 ⟨bx0,bc1,bx2,bx3,bx4,rfl,n0,n1,n2,n3,n4,k⟩;replace kr :=kt kr k;replace F :=F.new n1 k;clear n0 n1 n2 n3 n4 k)
                    | (go_at_call 70;(with_reducible refine (x1 _ _ _ F.glob (F.int (by simp)) (F.int (by simp))).mono ?_);rintro r wa1 ⟨ba1,rfl,n,k⟩;replace kr :=kt kr k;replace F :=F.new n k;clear n k)
                    | (go_at_call 67;(with_reducible refine (n2 _ _ _ F.glob (F.int (by simp)) (F.int (by simp))).mono ?_);rintro r wm2 ⟨bm2,rfl,n,k⟩;replace kr :=kt kr k;replace F :=F.new n k;clear n k)
                    | (go_at_call 70;(with_reducible refine (x2 _ _ _ F.glob (F.int (by simp)) (F.int (by simp))).mono ?_);rintro r wa2 ⟨ba2,rfl,n,k⟩;replace kr :=kt kr k;replace F :=F.new n k;clear n k)
                    | (go_at_call 67;(with_reducible refine (n3 _ _ _ F.glob (F.int (by simp)) (F.int (by simp))).mono ?_);rintro r wm3 ⟨bm3,rfl,n,k⟩;replace kr :=kt kr k;replace F :=F.new n k;clear n k)
                    | (go_at_call 70;(with_reducible refine (x3 _ _ _ F.glob (F.int (by simp)) (F.int (by simp))).mono ?_);rintro r wa3 ⟨ba3,rfl,n,k⟩;replace kr :=kt kr k;replace F :=F.new n k;clear n k)
                    | (go_at_call 67;(with_reducible refine (n4 _ _ _ F.glob (F.int (by simp)) (F.int (by simp))).mono ?_);rintro r wm4 ⟨bm4,rfl,n,k⟩;replace kr :=kt kr k;replace F :=F.new n k;clear n k)
                    | (go_at_call 70;(with_reducible refine (x4 _ _ _ F.glob (F.int (by simp)) (F.int (by simp))).mono ?_);rintro r wa4 ⟨bx,rfl,n,k⟩;replace kr :=kt kr k;replace F :=F.new n k;clear n k;try obtain ⟨q0,q1,qf0,qf1⟩ :=F.at 0 rfl))
                  all_goals
                    go_meet
                    refine ⟨_,bx,rfl,?_⟩
                    have F2 :=Fm.put (V1 :=[]) (V2 :=(vw,ptr bw,.int .i32 Wt.e) :: (vU,ptr bU,.int .i32 U.e) :: (vz,ptr bz,.int .i32 Z.e) :: (v9,ptr by2,.int .i32 Y.e) :: sinV vA (w.heap.size + 1) w.heap.size b1 b2 b3 b4 bd e) F (ptr bx) (.int .i32 Xt.e)
                    (try rw [put2_box] at F2)
                    refine F2.sub fun p hp => ?_
                    simp only [List.mem_cons,List.not_mem_nil,or_false] at hp ⊢
                    rcases hp with h | h | h <;> simp [h]
                case rest =>
                  obtain ⟨vx,bx,rfl,F⟩ :=hcut
                  obtain ⟨x0',x1',xf0,xf1⟩ :=F.at 0 rfl
                  obtain ⟨w0,w1,wf0,wf1⟩ :=F.at 1 rfl
                  obtain ⟨z0,z1,zf0,zf1⟩ :=F.at 3 rfl
                  obtain ⟨y0,y1,yf0,yf1⟩ :=F.at 4 rfl
                  clear u0 u1 uf0 uf1 x1 n2 x2 n3 x3 n4 x4
                  go_wp2_with (first
                    | (refine wp_region_lit_segs (id :=18) [[0,1,2,3,4],[5],[6,7]] mixed (by kernel_rfl) ?_;simp only [wpSegsL,gaC,gaN,lZ0,lS0,coS];have kr : Kept wc wc.drew :=(Chg.refl _ _).drew;replace F :=F.go kr)
                    | refine ⟨by kernel_rfl,?_⟩
                    | (refine ⟨by kernel_rfl,oldD kr,?_⟩)
                    | (refine ⟨oldD kr,?_⟩)
                    | (with_reducible refine And.intro ?_ ?_)
                    | (go_at_call 84;(with_reducible refine (hdv _ _ _ F.glob (Kept.at F.kept hd) (F.int (by simp)) (F.int (by simp))).mono ?_);rintro r wd1 ⟨bD,rfl,n,k⟩;replace kr :=kt kr k;replace F :=F.new n k;clear n k)
                    | (go_at_call 67;(with_reducible refine (hv _ _ _ F.glob (F.int (by simp)) (F.int (by simp))).mono ?_);rintro r wd2 ⟨bV,rfl,n,k⟩;replace kr :=kt kr k;replace F :=F.new n k;clear n k)
                    | (go_at_call 70;(with_reducible refine (hr _ _ _ F.glob (F.int (by simp)) (F.int (by simp))).mono ?_);rintro r wd3 ⟨by3,rfl,n,k⟩;have NY :=NI.of n (Chg.size F.kept);replace kr :=kt kr k;replace F :=F.new n k;clear n k;obtain ⟨y0,y1,yf0,yf1⟩ :=F.at 4 rfl;have y2 :=cs_ne (u :=ptr by3) y1 (b' :=v9) (o' :=0) (by omega)))
                  go_meet
                  have N2 :=NY.put (V1 :=[(vx,ptr bx,.int .i32 Xt.e),(vw,ptr bw,.int .i32 Wt.e),(vU,ptr bU,.int .i32 U.e),(vz,ptr bz,.int .i32 Z.e)]) F (X :=Yt.m) (by simp) (ptr by3) (.int .i32 Yt.e)
                  have F2 :=Fm.put (V1 :=[(vx,ptr bx,.int .i32 Xt.e),(vw,ptr bw,.int .i32 Wt.e),(vU,ptr bU,.int .i32 U.e),(vz,ptr bz,.int .i32 Z.e)]) (V2 :=sinV vA (w.heap.size + 1) w.heap.size b1 b2 b3 b4 bd e) F (ptr by3) (.int .i32 Yt.e)
                  refine ⟨by3,N2,(F2.sub fun p hp => ?_).subV ?_⟩
                  · simp only [List.mem_cons,List.not_mem_nil,or_false] at hp ⊢
                    simp [hp]
                  · exact .cons _ (.cons _ (.cons _ (.cons _ (.cons₂ _ (.cons _ (.cons _ (.cons _ (.cons _ (.cons₂ _ (List.nil_sublist _))))))))))
          case rest =>
            obtain ⟨by3,NY,F⟩ :=hcut
            obtain ⟨hyb,hye1,hye2⟩ :=HYB.out
            have heven : jj = 2 * (jj / 2) :=by
              obtain ⟨h,-,-⟩ :=HJJ.out
              omega
            obtain ⟨g2,hg2⟩ : ∃ g,decide (jj % 4 = 2) = g :=⟨_,rfl⟩
            have h20 : (bits .and .i64 (jj : Int) 2 == 2) = g2 :=by
              have h : ∀ i : Fin 7,(bits .and .i64 ((2 * i.val : Nat) : Int) 2 == 2) = decide ((2 * i.val) % 4 = 2) :=by decide +kernel
              have h2 :=h ⟨jj / 2,by omega⟩
              rw [← heven] at h2
              rw [← hg2]
              exact h2
            clear heven
            go_upto_if 102 with fail
            obtain ⟨R,hR⟩ : ∃ R,(if jj % 4 = 2 then (⟨-1,0⟩ : Dc).div Yt else Yt) = R :=⟨_,rfl⟩
            try rw [h20]
            clear h20
            go_cut [9] from 103 to 109 (fun t9 wx => t9 = ptr v9 ∧ ∃ by4,NI w wx by4 ∧ Fm w wx [(by4,R.m)] [(v9,ptr by4,.int .i32 R.e),(w.heap.size + 1,.pointer none,.int .i32 0)])
            case first =>
              obtain ⟨y0,y1,yf0,yf1⟩ :=F.at 0 rfl
              cases g2
              · have e0 : R = Yt :=by rw [← hR,if_neg (of_decide_eq_false hg2)]
                have E0 :=Lib.hid e0
                clear e0 hR hg2
                go_wp2_with fail
                go_meet
                rw [E0.out]
                exact ⟨rfl,by3,NY,F⟩
              · have hq : jj % 4 = 2 :=of_decide_eq_true hg2
                rw [if_pos hq] at hR
                have hne : Yt.m ≠ 0 :=by
                  obtain ⟨hjj,hY,-⟩ :=HJJ.out
                  have hz :=HZ.out
                  have h :=z_ne hk hN HJ.out (by rw [hjj];exact hq)
                  rw [HE.out] at hz
                  rw [hY,hz] at h
                  have h2 :=tanY_ne Z hZe1 hZe2 hzR h
                  rw [hYt] at h2
                  exact h2
                obtain ⟨nn,hnn⟩ : ∃ n : Nat,(n : Int) = 0 - Yt.e + 16 :=⟨(16 - Yt.e).toNat,by omega⟩
                have hdv :=dec_divD (A :=⟨-1,0⟩) (B :=Yt) 1 330 nn (by unfold Bd;decide) hyb hne hnn (by omega) (by omega) (by decide) (by decide) (by decide) (by omega) (by omega)
                rw [hR] at hdv
                dsimp only [divF] at hdv
                clear hR hg2 hq hne hnn hyb hye1 hye2 hYt hgt hg
                go_wp2_with (first
                  | (refine wp_region_lit_segs (id :=21) [[1,0],[2,3]] mixed (by kernel_rfl) ?_;simp only [wpSegsL,gaC,gaN,lZ0,lS0,coS];have kr : Kept wc wc.drew :=(Chg.refl _ _).drew;replace F :=F.go kr)
                  | refine ⟨by kernel_rfl,?_⟩
                  | (refine ⟨by kernel_rfl,oldD kr,?_⟩)
                  | (refine ⟨oldD kr,?_⟩)
                  | (with_reducible refine And.intro ?_ ?_)
                  | (go_at_call 71;(with_reducible refine (dec_new _ (-1) 0 (by decide) (by decide)).mono ?_);rintro r w60 ⟨b1n,rfl,n,k⟩;replace kr :=kt kr k;replace F :=F.new n k;clear n k)
                  | (go_at_call 84;(with_reducible refine (hdv _ _ _ F.glob (Kept.at F.kept hd) (F.int (by simp)) (F.int (by simp))).mono ?_);rintro r w61 ⟨by4,rfl,n,k⟩;have NR :=NI.of n (Chg.size F.kept);replace kr :=kt kr k;replace F :=F.new n k;clear n k;obtain ⟨y0,y1,yf0,yf1⟩ :=F.at 0 rfl;have y2 :=cs_ne (u :=ptr by4) y1 (b' :=v9) (o' :=0) (by omega)))
                go_meet
                have N2 :=NR.put (V1 :=[]) F (X :=R.m) (by simp) (ptr by4) (.int .i32 R.e)
                have F2 :=Fm.put (V1 :=[]) (V2 :=[(w.heap.size + 1,.pointer none,.int .i32 0)]) F (ptr by4) (.int .i32 R.e)
                refine ⟨rfl,by4,N2,F2.sub fun p hp => ?_⟩
                simp only [List.mem_cons,List.not_mem_nil,or_false] at hp ⊢
                simp [hp]
            case rest =>
              obtain ⟨rfl,by4,NR,F⟩ :=hcut
              have hT : tanOf X k = if sg then R.neg else R :=by
                obtain ⟨hjj,hY,_⟩ :=HJJ.out
                unfold tanOf
                simp only
                rw [hNX,HJ.out,hjj,hY,← HE.out,HZ.out,hYt,hR,hsg]
              have HR :=Lib.hid hT
              clear hT hsg hR hg2 hyb hye1 hye2 hYt hgt hg NY
              obtain ⟨y0,y1,yf0,yf1⟩ :=F.at 0 rfl
              obtain ⟨r0,r1,rf0,rf1⟩ :=F.at 1 rfl
              cases sg
              · go_wp2_with fail
                have e7 : tanOf X k = R :=HR.out
                rw [e7]
                have S : Slot wc (w.heap.size + 1) :=⟨⟨_,r0⟩,⟨_,r1⟩,F.nf (x :=.pointer none) (y :=.int .i32 0) (by simp)⟩
                have F2 :=Fm.put (V1 :=[(v9,ptr by4,.int .i32 R.e)]) (V2 :=[]) F (ptr by4) (.int .i32 R.e)
                have N2 :=NR.put (V1 :=[(v9,ptr by4,.int .i32 R.e)]) F (X :=R.m) (by simp) (ptr by4) (.int .i32 R.e)
                exact bodyPost_ret (v :=dv by4 R.e) (results_dec rfl rfl (put2_0 S _ _) (put2_1 S _ _)) rfl ⟨by4,rfl,N2.int (F2.iat 0 rfl),F2.kept⟩
              · have hng :=dec_neg _ by4 R.e R.m (F.iat 0 rfl)
                go_wp2_with (go_at_call 66;(with_reducible refine hng.mono ?_);rintro r w50 ⟨b9,rfl,n9,k9⟩;have NS :=NI.of n9 (Chg.size F.kept);replace F :=F.new n9 k9;obtain ⟨y0,y1,yf0,yf1⟩ :=F.at 0 rfl;obtain ⟨r0,r1,rf0,rf1⟩ :=F.at 1 rfl;have y2 :=cs_ne (u :=ptr b9) y1 (b' :=v9) (o' :=0) (by omega);have hd9 : v9 ≠ w.heap.size + 1 :=(List.pairwise_cons.1 F.dist).1 _ (List.mem_singleton.2 rfl);have r0 :=cs_ne (u :=.int .i32 R.e) (cs_ne (u :=ptr b9) r0 (b' :=v9) (o' :=0) (by omega)) (b' :=v9) (o' :=1) (by omega);have r1 :=cs_ne (u :=.int .i32 R.e) (cs_ne (u :=ptr b9) r1 (b' :=v9) (o' :=0) (by omega)) (b' :=v9) (o' :=1) (by omega);have r2 :=cs_ne (u :=ptr b9) r1 (b' :=w.heap.size + 1) (o' :=0) (by omega))
                have e7 : tanOf X k = R.neg :=HR.out
                rw [e7]
                have F2 :=Fm.put (V1 :=[]) (V2 :=[(w.heap.size + 1,.pointer none,.int .i32 0)]) F (ptr b9) (.int .i32 R.e)
                have N2 :=NS.put (V1 :=[]) F (X :=-R.m) (by simp) (ptr b9) (.int .i32 R.e)
                have S : Slot (put2 w50 v9 (ptr b9) (.int .i32 R.e)) (w.heap.size + 1) :=⟨⟨_,(F2.at 1 rfl).1⟩,⟨_,(F2.at 1 rfl).2.1⟩,F2.nf (x :=.pointer none) (y :=.int .i32 0) (by simp)⟩
                have F3 :=Fm.put (V1 :=[(v9,ptr b9,.int .i32 R.e)]) (V2 :=[]) F2 (ptr b9) (.int .i32 R.e)
                have N3 :=N2.put (V1 :=[(v9,ptr b9,.int .i32 R.e)]) F2 (X :=-R.m) (by simp) (ptr b9) (.int .i32 R.e)
                exact bodyPost_ret (v :=dv b9 R.e) (results_dec rfl rfl (put2_0 S _ _) (put2_1 S _ _)) rfl ⟨b9,rfl,N3.int (F3.iat 0 rfl),F3.kept⟩
end Go.Proofs.YtfmmdamgcpiciaaGreatDoor
