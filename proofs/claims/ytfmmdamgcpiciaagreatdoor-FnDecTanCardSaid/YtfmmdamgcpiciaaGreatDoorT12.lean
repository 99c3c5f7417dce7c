/- A part of the proof, joined out of the texts H29, H30, H32, H31, K2, Q3, Q6, J1, J2; each theorem bears its own conditions. -/
import Derived.BigRegion
import Derived.Deep.CutRange
import Derived.Test.YtfmmdamgcpiciaaGreatDoorT08
import Derived.Test.YtfmmdamgcpiciaaGreatDoorT09
import Derived.Test.YtfmmdamgcpiciaaGreatDoorT11
set_option linter.unusedVariables false
set_option linter.unusedSimpArgs false
set_option linter.all false
set_option maxHeartbeats 9000000
set_option exponentiation.threshold 400000
set_option maxRecDepth 1000000
namespace Go.Proofs.YtfmmdamgcpiciaaGreatDoor
open Go Go.RowKit
structure VC (w : World) (p : Nat) (b : Bool) (s : Option Addr) (n c : Nat) (A : Int) : Prop where
  c0 : w.cell? ⟨p,0,none⟩ = some (.bool b)
  c1 : w.cell? ⟨p,1,none⟩ = some (.slice s n c)
  wv : Hid (WV w (.agg #[.bool b,.slice s n c]) A)
  nf : NF w p
def V28 (w : World) (p : Nat) (A : Int) : Prop :=∃ b s n c,VC w p b s n c A
theorem VC.kept {w w' : World} {p : Nat} {b : Bool} {s : Option Addr} {n c : Nat} {A : Int} (h : VC w p b s n c A) (k : Kept w w') : VC w' p b s n c A :=
  ⟨Kept.at k h.c0,Kept.at k h.c1,Lib.hid (h.wv.out.kept k),h.nf.chg (lt_of_cell h.c0) k⟩
theorem VC.other {w : World} {p q : Nat} {b : Bool} {s : Option Addr} {n c : Nat} {A : Int} {b' : Bool} {s' : Option Addr} {n' c' : Nat} {B : Int} {x y : Value} (h : VC w p b s n c A) (hq : VC w q b' s' n' c' B) (hne : p ≠ q) : VC (put2 w q x y) p b s n c A :=by
  have hc :=put2_chg w q x y
  exact ⟨hc.at h.c0 (fun e => hne e),hc.at h.c1 (fun e => hne e),Lib.hid (h.wv.out.set hq.c0 hc),h.nf.chg (lt_of_cell h.c0) hc⟩
theorem VC.put {w : World} {q : Nat} {b : Bool} {s : Option Addr} {n c : Nat} {A : Int} {b' : Bool} {s' : Option Addr} {n' c' : Nat} {B : Int} (hq : VC w q b' s' n' c' B) (h : Hid (WV w (.agg #[.bool b,.slice s n c]) A)) : VC (put2 w q (.bool b) (.slice s n c)) q b s n c A :=by
  have S : Slot w q :=⟨⟨_,hq.c0⟩,⟨_,hq.c1⟩,hq.nf⟩
  have hc :=put2_chg w q (.bool b) (.slice s n c)
  exact ⟨put2_0 S _ _,put2_1 S _ _,Lib.hid (h.out.set hq.c0 hc),hq.nf.chg (lt_of_cell hq.c0) hc⟩
theorem VC.new {w : World} {b : Bool} {s : Option Addr} {n c : Nat} {A : Int} (h : Hid (WV w (.agg #[.bool b,.slice s n c]) A)) : VC (w.alloc (.cells #[.bool b,.slice s n c] 28)) w.heap.size b s n c A :=
  ⟨box28_0 _ _ _,box28_1 _ _ _,Lib.hid (h.out.kept (Chg.alloc _ _ _)),(slot28 w _ _).nf⟩
abbrev RW (W : World) (A : Int) : Ending → World → Prop :=fun r w' => (∃ b s n c,r = .returned (.agg #[.bool b,.slice s n c]) ∧ Hid (WV w' (.agg #[.bool b,.slice s n c]) A)) ∧ Kept W w'
theorem toRW {f : FuncId} {args : Array Value} {W : World} {A : Int} (h : Calls Tryz.prog f args W fun r w' => (∃ v,r = .returned v ∧ WV w' v A) ∧ Kept W w') : Calls Tryz.prog f args W (RW W A) :=
  h.mono (by
    rintro r w' ⟨⟨v,rfl,s,n,c,rfl,d⟩,k⟩
    exact ⟨⟨_,s,n,c,rfl,Lib.hid ⟨s,n,c,rfl,d⟩⟩,k⟩)
abbrev RD (W : World) (A e : Int) : Ending → World → Prop :=fun r w' => (∃ b s n c,r = .returned (.agg #[.bool b,.slice s n c,.int .i64 e]) ∧ Hid (WV w' (.agg #[.bool b,.slice s n c]) A)) ∧ Kept W w'
theorem toRD {f : FuncId} {args : Array Value} {W : World} {A e : Int} (h : Calls Tryz.prog f args W fun r w' => (∃ v,r = .returned v ∧ DV w' v A e) ∧ Kept W w') : Calls Tryz.prog f args W (RD W A e) :=
  h.mono (by
    rintro r w' ⟨⟨v,rfl,s,n,c,rfl,d⟩,k⟩
    exact ⟨⟨_,s,n,c,rfl,Lib.hid ⟨s,n,c,rfl,d⟩⟩,k⟩)
theorem modify_same {α : Type} (a : Array α) (b : Nat) (f : α → α) (h : ∀ o,a[b]? = some o → f o = o) : a.modify b f = a :=by
  apply Array.ext_getElem?
  intro i
  rw [Array.getElem?_modify]
  split
  · rename_i hi
    subst hi
    cases hb : a[b]? with
    | none => rfl
    | some o => rw [Option.map_some,h o hb]
  · rfl
theorem setCell_same {w : World} {b o : Nat} {v : Value} (h : w.cell? ⟨b,o,none⟩ = some v) : w.setCell ⟨b,o,none⟩ v = w :=by
  unfold World.setCell
  rw [modify_same]
  intro ob hb
  unfold World.cell? at h
  rw [hb] at h
  cases ob with
  | cells c t f =>
    simp at h
    simp only [Option.isSome_none,Bool.false_eq_true,if_false]
    congr 1
    apply Array.ext_getElem?
    intro j
    rw [Array.getElem?_setIfInBounds]
    split
    · rename_i hj
      subst hj
      split
      · exact h.symm
      · rename_i hlt
        rw [Array.getElem?_eq_none (by omega)] at h
        cases h
    · rfl
  | _ => rfl
theorem results_2828 {fn : Func} {t u r q : Nat} {tmps : Array Value} {w : World} {x y x' y' : Value} (h : fn.results = #[.cell t 28,.cell u 28]) (hp : tmps.getD t undef = ptr r) (hq : tmps.getD u undef = ptr q) (h0 : w.cell? ⟨r,0,none⟩ = some x) (h1 : w.cell? ⟨r,1,none⟩ = some y) (h2 : w.cell? ⟨q,0,none⟩ = some x') (h3 : w.cell? ⟨q,1,none⟩ = some y') :
    (results fn tmps).run Tryz.prog w = .ok (.tuple #[.agg #[x,y],.agg #[x',y']]) w :=by
  obtain ⟨i0,hi,hz0,hz1,hz2⟩ :=info_parts info28
  have hp' : tmps[t]?.getD undef = ptr r :=by simpa using hp
  have hq' : tmps[u]?.getD undef = ptr q :=by simpa using hq
  simp [results,h,hp',hq',go_sem,hi,hz1,h0,h1,h2,h3]
theorem cutq_exact (N : Int) (k p : Nat) (h : k ≤ p) : cutq N (10 ^ k) p = N * (10 ^ (p - k) : Nat) :=by
  unfold cutq
  have e : N.natAbs * 10 ^ p / 10 ^ k = N.natAbs * 10 ^ (p - k) :=by
    rw [show p = (p - k) + k by omega,Nat.pow_add,← Nat.mul_assoc,Nat.mul_div_cancel _ (Nat.pow_pos (by decide)),Nat.add_sub_cancel]
  rw [e]
  unfold sgn
  by_cases hn : N < 0
  · rw [if_pos (decide_eq_true hn),Int.natCast_mul,← Int.neg_mul]
    congr 1
    omega
  · rw [if_neg (by simpa using hn),Int.natCast_mul]
    congr 1
    omega
theorem cutq_tdiv (N : Int) (D : Nat) (hD : 0 < D) : cutq N D 0 = N.tdiv (D : Int) :=by
  unfold cutq
  rw [Nat.pow_zero,Nat.mul_one]
  unfold sgn
  by_cases hn : N < 0
  · obtain ⟨m,rfl⟩ : ∃ m : Nat,N = -(m : Int) :=⟨N.natAbs,by omega⟩
    rw [if_pos (decide_eq_true hn),Int.neg_tdiv,Int.natAbs_neg,Int.natAbs_natCast,Int.ofNat_tdiv]
  · obtain ⟨m,rfl⟩ : ∃ m : Nat,N = (m : Int) :=⟨N.natAbs,by omega⟩
    rw [if_neg (by simpa using hn),Int.natAbs_natCast,Int.ofNat_tdiv]
theorem Sm.of (X n : Nat) (h : X < 10 ^ n) (hn : n ≤ 3000) : X < L9 ^ 100000 ∧ Sm X :=by
  have h1 : X < 10 ^ 3000 :=Nat.lt_of_lt_of_le h (Nat.pow_le_pow_right (by decide) hn)
  have h2 : 10 ^ 3000 ≤ L9 ^ 334 :=by decide +kernel
  have h3 : X < L9 ^ 334 :=Nat.lt_of_lt_of_le h1 h2
  exact ⟨Nat.lt_of_lt_of_le h3 (Nat.pow_le_pow_right (by decide) (by decide)),Nat.lt_of_lt_of_le h3 (Nat.pow_le_pow_right (by decide) (by decide))⟩
theorem FV.of {w : World} {b : Bool} {s : Option Addr} {n c : Nat} {A : Int} (h : Hid (WV w (.agg #[.bool b,.slice s n c]) A)) {s2 : Option Addr} {n2 c2 X : Nat} (hd : Dig w s2 n2 c2 X) : FV w (.agg #[.bool b,.slice s n c,.slice s2 n2 c2]) A X :=by
  obtain ⟨e,hd1⟩ :=h.out.nv
  exact ⟨s,n,c,s2,n2,c2,by rw [e],hd1,hd⟩
abbrev sumSC (sg : Nat → Int) (x : Int) (n : Nat) : Int :=Plain.sumTo (fun i => sg i * Plain.part Plain.D40 x i) n
def sumC (x : Int) : Int :=sumSC Plain.sgC x 82
theorem sums_sm {x : Int} (hx : x.natAbs ≤ 10 * Plain.D40) {n : Nat} (hn : n ≤ 82) {sg : Nat → Int} (hs : ∀ n,(sg n).natAbs ≤ 1) : (sumSC sg x n).natAbs < 10 ^ 130 :=by
  have :=Plain.sum_le hs hx n hn
  refine Nat.lt_of_le_of_lt this ?_
  have h2 : n * 10 ^ 122 ≤ 82 * 10 ^ 122 :=Nat.mul_le_mul_right _ hn
  exact Nat.lt_of_le_of_lt h2 (by decide)
theorem step_1 (x : Int) (n : Nat) (h : n % 4 = 0) : sumSC Plain.sgC x (n + 1) = sumSC Plain.sgC x n + Plain.part Plain.D40 x n ∧ sumSC Plain.sgS x (n + 1) = sumSC Plain.sgS x n :=by
  simp only [sumSC,Plain.sumTo]
  have e1 : Plain.sgC n = 1 :=by simp [Plain.sgC,h]
  have e2 : Plain.sgS n = 0 :=by simp [Plain.sgS,h]
  rw [e1,e2]
  omega
theorem step_2 (x : Int) (n : Nat) (h : n % 4 = 1) : sumSC Plain.sgC x (n + 1) = sumSC Plain.sgC x n ∧ sumSC Plain.sgS x (n + 1) = sumSC Plain.sgS x n + Plain.part Plain.D40 x n :=by
  simp only [sumSC,Plain.sumTo]
  have e1 : Plain.sgC n = 0 :=by simp [Plain.sgC,h]
  have e2 : Plain.sgS n = 1 :=by simp [Plain.sgS,h]
  rw [e1,e2]
  omega
theorem step_3 (x : Int) (n : Nat) (h : n % 4 = 2) : sumSC Plain.sgC x (n + 1) = sumSC Plain.sgC x n + -Plain.part Plain.D40 x n ∧ sumSC Plain.sgS x (n + 1) = sumSC Plain.sgS x n :=by
  simp only [sumSC,Plain.sumTo]
  have e1 : Plain.sgC n = -1 :=by simp [Plain.sgC,h]
  have e2 : Plain.sgS n = 0 :=by simp [Plain.sgS,h]
  rw [e1,e2]
  omega
theorem step_0 (x : Int) (n : Nat) (h : n % 4 = 3) : sumSC Plain.sgC x (n + 1) = sumSC Plain.sgC x n ∧ sumSC Plain.sgS x (n + 1) = sumSC Plain.sgS x n + -Plain.part Plain.D40 x n :=by
  simp only [sumSC,Plain.sumTo]
  have e1 : Plain.sgC n = 0 :=by simp [Plain.sgC,h]
  have e2 : Plain.sgS n = -1 :=by simp [Plain.sgS,h]
  rw [e1,e2]
  omega
theorem part_next (x : Int) (n : Nat) : cutq (Plain.part Plain.D40 x n * x) (Plain.D40 * (n + 1)) 0 = Plain.part Plain.D40 x (n + 1) :=by
  rw [cutq_tdiv _ _ (Nat.mul_pos (by decide) (Nat.succ_pos n))]
  rfl
@[go_sem] theorem field37_0 (a b c : Value) (w : World) : (Instr.field 37 (.agg #[a,b,c]) 0).run Tryz.prog w = .ok (.agg #[a,b]) w :=by kernel_rfl
theorem cmpZ_zero (A : Int) : cmpZ A 0 = 0 ↔ A = 0 :=by
  unfold cmpZ
  constructor
  · intro h
    split at h
    · omega
    · split at h <;> omega
  · rintro rfl
    simp
theorem x_small {N : Int} {k : Nat} (hk : k ≤ 18) (hN : N.natAbs < 10 ^ (k + 1)) : (N * ((10 ^ (40 - k) : Nat) : Int)).natAbs ≤ 10 * Plain.D40 :=by
  rw [Int.natAbs_mul,Int.natAbs_natCast]
  have h1 :=Nat.mul_le_mul_right (10 ^ (40 - k)) (Nat.le_of_lt hN)
  rw [← Nat.pow_add,show k + 1 + (40 - k) = 41 by omega] at h1
  exact Nat.le_trans h1 (by decide +kernel)
theorem part_lt {x : Int} (hx : x.natAbs ≤ 10 * Plain.D40) {n : Nat} (h : Plain.part Plain.D40 x n ≠ 0) : n < 82 :=by
  refine Nat.lt_of_not_le fun hn => h ?_
  have :=Plain.part_zero (Plain.part82 hx) (n - 82)
  rw [Nat.add_sub_cancel' hn] at this
  exact this
theorem sinCos (w : World) (v : Value) (N : Int) (k : Nat) (hv : FV w v N (10 ^ k)) (hk : k ≤ 18) (hN : N.natAbs < 10 ^ (k + 1)) : Calls Tryz.prog 11 #[v,.int .i64 40] w fun r w' => (∃ v1 v2,r = .returned (.tuple #[v1,v2]) ∧ WV w' v1 (Plain.sumS (N * ((10 ^ (40 - k) : Nat) : Int))) ∧ WV w' v2 (sumC (N * ((10 ^ (40 - k) : Nat) : Int)))) ∧ Kept w w' :=by
  have hx :=x_small hk hN
  have h36 : ∀ W',Kept w W' → Calls Tryz.prog 36 #[v,.int .i64 40,.int .i64 0] W' (RD W' (N * ((10 ^ (40 - k) : Nat) : Int)) (-40)) :=fun W' k' => toRD (by
    have :=fracRound W' v N (10 ^ k) 40 (hv.kept k') (Nat.pow_pos (by decide)) (by decide) (Sm.of _ _ hN (by omega)).1 (Sm.of _ (k + 1) (Nat.pow_lt_pow_right (by decide) (by omega)) (by omega)).1
    rw [cutq_exact N k 40 (by omega)] at this
    exact this)
  have h17 : ∀ W',Calls Tryz.prog 17 #[.int .i64 40] W' fun e w' => (∃ v,e = .returned v ∧ NV w' v (10 ^ 40)) ∧ Kept W' w' :=fun W' => natPow10 W' 40 (by decide)
  generalize N * ((10 ^ (40 - k) : Nat) : Int) = x at *
  obtain ⟨q,hq⟩ : ∃ q,10 ^ 40 = q :=⟨_,rfl⟩
  rw [hq] at h17
  have HQ :=Lib.hid hq
  have HX :=Lib.hid hx
  obtain ⟨s1,n1,c1,s2,n2,c2,rfl,d1,d2⟩ :=hv
  obtain ⟨bN,hbN⟩ : ∃ b,decide (N < 0) = b :=⟨_,rfl⟩
  rw [hbN] at h36 ⊢
  clear hbN d1 d2 hq hx hN hk
  have kA : Kept w (w.alloc (.cells #[.bool bN,.slice s1 n1 c1,.slice s2 n2 c2] 30)) :=Chg.alloc _ _ _
  have kB : Kept (w.alloc (.cells #[.bool bN,.slice s1 n1 c1,.slice s2 n2 c2] 30)) ((w.alloc (.cells #[.bool bN,.slice s1 n1 c1,.slice s2 n2 c2] 30)).alloc (.cells #[.bool false,.slice none 0 0] 28)) :=Chg.alloc _ _ _
  have kC : Kept ((w.alloc (.cells #[.bool bN,.slice s1 n1 c1,.slice s2 n2 c2] 30)).alloc (.cells #[.bool false,.slice none 0 0] 28)) (((w.alloc (.cells #[.bool bN,.slice s1 n1 c1,.slice s2 n2 c2] 30)).alloc (.cells #[.bool false,.slice none 0 0] 28)).alloc (.cells #[.bool false,.slice none 0 0] 28)) :=Chg.alloc _ _ _
  have z0 : ∀ W',Hid (WV W' (.agg #[.bool false,.slice none 0 0]) 0) :=fun W' => Lib.hid (by obtain ⟨s,n,c,e,h⟩ :=NV.nil W';cases e;exact ⟨none,0,0,rfl,h⟩)
  obtain ⟨q0,q1,q2⟩ :=box3_cells w (.bool bN) (.slice s1 n1 c1) (.slice s2 n2 c2) 30
  have q0 :=Kept.at (kt kB kC) q0
  have q1 :=Kept.at (kt kB kC) q1
  have q2 :=Kept.at (kt kB kC) q2
  have v4 :=(VC.new (z0 (w.alloc (.cells #[.bool bN,.slice s1 n1 c1,.slice s2 n2 c2] 30)))).kept kC
  have v5 :=VC.new (z0 ((w.alloc (.cells #[.bool bN,.slice s1 n1 c1,.slice s2 n2 c2] 30)).alloc (.cells #[.bool false,.slice none 0 0] 28)))
  have e1 : (w.alloc (.cells #[.bool bN,.slice s1 n1 c1,.slice s2 n2 c2] 30)).heap.size = w.heap.size + 1 :=by simp
  have e2 : ((w.alloc (.cells #[.bool bN,.slice s1 n1 c1,.slice s2 n2 c2] 30)).alloc (.cells #[.bool false,.slice none 0 0] 28)).heap.size = w.heap.size + 2 :=by simp
  have e3 : (((w.alloc (.cells #[.bool bN,.slice s1 n1 c1,.slice s2 n2 c2] 30)).alloc (.cells #[.bool false,.slice none 0 0] 28)).alloc (.cells #[.bool false,.slice none 0 0] 28)).heap.size = w.heap.size + 3 :=by simp
  rw [e1] at v4
  rw [e2] at v5
  have k0 :=kt kA (kt kB kC)
  obtain ⟨W,hW⟩ : ∃ W,(((w.alloc (.cells #[.bool bN,.slice s1 n1 c1,.slice s2 n2 c2] 30)).alloc (.cells #[.bool false,.slice none 0 0] 28)).alloc (.cells #[.bool false,.slice none 0 0] 28)) = W :=⟨_,rfl⟩
  rw [hW] at q0 q1 q2 v4 v5 e3 k0
  have HW :=Lib.hid hW
  clear hW kA kB kC e1 e2
  go_enter Tryz.func11,Tryz.ntmps11
  go_upto_region 1 with fail
  rw [HW.out]
  go_wp2_with (first
    | (go_at_call 36;(with_reducible refine (h36 _ k0).mono ?_);rintro r w1 ⟨⟨b6,s6,n6,c6,rfl,g6⟩,p1⟩)
    | (go_at_call 17;(with_reducible refine (h17 _).mono ?_);rintro r w2 ⟨⟨v2,rfl,s7,n7,c7,rfl,d7⟩,p2⟩))
  have kD : Kept w1 (w1.alloc (.cells #[.bool b6,.slice s6 n6 c6] 28)) :=Chg.alloc _ _ _
  have kE : Kept w2 (w2.alloc (.cells #[.bool false,.slice s7 n7 c7] 28)) :=Chg.alloc _ _ _
  have h6 : w.heap.size + 3 ≤ w1.heap.size :=by have :=Chg.size p1;omega
  have h7 : w1.heap.size < w2.heap.size :=by
    have :=Chg.size p2
    simp only [World.size_alloc] at this
    omega
  have v6 :=(VC.new g6).kept (kt p2 kE)
  have v7 :=VC.new (Lib.hid (WV.nat d7))
  have v4 :=v4.kept (kt p1 (kt kD (kt p2 kE)))
  have v5 :=v5.kept (kt p1 (kt kD (kt p2 kE)))
  have kF :=kt k0 (kt p1 (kt kD (kt p2 kE)))
  rw [← HQ.out] at v7
  have HZ :=Lib.hid (And.intro v4 (And.intro v5 (And.intro v6 (And.intro v7 kF))))
  clear v4 v5 v6 v7 kF kD kE g6 d7 p1 p2 q0 q1 q2 e3 k0 z0 h36
  go_loopw [8] (fun t8 wx => ∃ (n : Nat) (T : Int),t8 = .int .i64 T ∧ Hid (T = (n : Int) + 1) ∧ 1 ≤ T ∧ T ≤ 83 ∧ Hid (V28 wx w2.heap.size (Plain.part Plain.D40 x n)) ∧ Hid (V28 wx w1.heap.size x) ∧ Hid (V28 wx (w.heap.size + 2) (sumSC Plain.sgC x n)) ∧ Hid (V28 wx (w.heap.size + 1) (sumSC Plain.sgS x n)) ∧ Hid (Kept w wx)) (fun t8 _ => 84 - (intOf t8).toNat)
  case atStart =>
    obtain ⟨v4,v5,v6,v7,kF⟩ :=HZ.out
    exact ⟨0,1,rfl,Lib.hid rfl,by decide,by decide,Lib.hid ⟨_,_,_,_,v7⟩,Lib.hid ⟨_,_,_,_,v6⟩,Lib.hid ⟨_,_,_,_,v5⟩,Lib.hid ⟨_,_,_,_,v4⟩,Lib.hid kF⟩
  case round =>
    clear HZ
    obtain ⟨n,T,rfl,hT,hT1,hT2,hP,hX,hC,hS,hK⟩ :=hrel
    have hn82 : n ≤ 82 :=by have :=hT.out;omega
    obtain ⟨P,eP⟩ : ∃ P,Plain.part Plain.D40 x n = P :=⟨_,rfl⟩
    obtain ⟨C,eC⟩ : ∃ P,sumSC Plain.sgC x n = P :=⟨_,rfl⟩
    obtain ⟨S,eS⟩ : ∃ P,sumSC Plain.sgS x n = P :=⟨_,rfl⟩
    rw [eP] at hP
    rw [eC] at hC
    rw [eS] at hS
    have EP :=Lib.hid eP
    have EC :=Lib.hid eC
    have ES :=Lib.hid eS
    have hBP : Hid (P.natAbs < 10 ^ 130) :=Lib.hid (by
      have :=Plain.part_le HX.out hn82
      rw [eP] at this
      exact Nat.lt_of_le_of_lt this (by decide +kernel))
    have hBC : Hid (C.natAbs < 10 ^ 130) :=Lib.hid (eC ▸ sums_sm HX.out hn82 Plain.sgC_le)
    have hBS : Hid (S.natAbs < 10 ^ 130) :=Lib.hid (eS ▸ sums_sm HX.out hn82 Plain.sgS_le)
    have hBX : Hid (x.natAbs < 10 ^ 130) :=Lib.hid (Nat.lt_of_le_of_lt HX.out (by decide +kernel))
    clear eP eC eS
    obtain ⟨bP,sP,nP,cP,vP⟩ :=hP.out
    obtain ⟨bX,sX,nX,cX,vX⟩ :=hX.out
    obtain ⟨bC,sC,nC,cC,vC⟩ :=hC.out
    obtain ⟨bS,sS,nS,cS,vS⟩ :=hS.out
    clear hP hX hC hS
    have ce : ∀ W',Kept wr W' → W'.cell? ⟨w2.heap.size,0,none⟩ = some (.bool bP) ∧ W'.cell? ⟨w2.heap.size,1,none⟩ = some (.slice sP nP cP) ∧ W'.cell? ⟨w1.heap.size,0,none⟩ = some (.bool bX) ∧ W'.cell? ⟨w1.heap.size,1,none⟩ = some (.slice sX nX cX) ∧ W'.cell? ⟨w.heap.size + 2,0,none⟩ = some (.bool bC) ∧ W'.cell? ⟨w.heap.size + 2,1,none⟩ = some (.slice sC nC cC) ∧ W'.cell? ⟨w.heap.size + 1,0,none⟩ = some (.bool bS) ∧ W'.cell? ⟨w.heap.size + 1,1,none⟩ = some (.slice sS nS cS) :=fun W' k => ⟨Kept.at k vP.c0,Kept.at k vP.c1,Kept.at k vX.c0,Kept.at k vX.c1,Kept.at k vC.c0,Kept.at k vC.c1,Kept.at k vS.c0,Kept.at k vS.c1⟩
    obtain ⟨a0,a1,a2,a3,a4,a5,a6,a7⟩ :=ce _ (Chg.refl _ _)
    obtain ⟨g,hg⟩ : ∃ g,cmpZ P 0 = g :=⟨_,rfl⟩
    have h37 : ∀ W',Kept wr W' → Calls Tryz.prog 37 #[.agg #[.bool bP,.slice sP nP cP]] W' fun r w' => r = .returned (.int .i64 g) ∧ Kept W' w' :=fun W' k => by
      have :=wholeSign W' _ P (vP.wv.out.kept k)
      rw [hg] at this;exact this
    by_cases hg0 : g = 0
    · have hP0 : P = 0 :=(cmpZ_zero P).1 (hg.trans hg0)
      have HP0 :=Lib.hid hP0
      subst hg0
      clear hP0 hg
      go_wp2_with (first
        | (refine wp_region_lit_segs (id :=15) [[0,1,2],[3]] mixed (by kernel_rfl) ?_;simp only [wpSegsL,gaC,gaN,lZ0,lS0,coS])
        | refine ⟨by kernel_rfl,?_⟩
        | refine ⟨by kernel_rfl,oldD (by first | assumption | exact Chg.refl _ _ | exact (Chg.refl _ _).drew | exact kt (by first | assumption | exact (Chg.refl _ _).drew | exact Chg.refl _ _) (ziK _) | exact Chg.drew (by assumption)),?_⟩
        | refine ⟨oldD (by first | assumption | exact Chg.refl _ _ | exact (Chg.refl _ _).drew | exact kt (by first | assumption | exact (Chg.refl _ _).drew | exact Chg.refl _ _) (ziK _) | exact Chg.drew (by assumption)),?_⟩
        | (with_reducible refine And.intro ?_ ?_)
        | (go_at_call 37;(with_reducible refine (h37 _ (Chg.refl _ _)).mono ?_);rintro r w4 ⟨rfl,p4⟩;obtain ⟨y0,y1,y2,y3,y4,y5,y6,y7⟩ :=ce _ p4;have i0 :=setCell_same (w :=w4.drew) y4;have i1 :=setCell_same (w :=w4.drew) y5;have i2 :=setCell_same (w :=w4.drew) y6;have i3 :=setCell_same (w :=w4.drew) y7;have f0 :=(vC.kept p4).nf 0;have f1 :=(vC.kept p4).nf 1;have f2 :=(vS.kept p4).nf 0;have f3 :=(vS.kept p4).nf 1)
        | (refine ⟨by kernel_rfl,oldD (Chg.refl _ _).drew,?_⟩)
        | (refine ⟨oldD (Chg.refl _ _).drew,?_⟩))
      have uS :=(vS.kept p4).wv.out
      have uC :=(vC.kept p4).wv.out
      have hend : Plain.part Plain.D40 x n = 0 :=EP.out.trans HP0.out
      have t1 :=Plain.sum_end (sg :=Plain.sgS) HX.out hend
      have t2 :=Plain.sum_end (sg :=Plain.sgC) HX.out hend
      rw [show Plain.sumTo (fun i => Plain.sgS i * Plain.part Plain.D40 x i) n = S from ES.out] at t1
      rw [show Plain.sumTo (fun i => Plain.sgC i * Plain.part Plain.D40 x i) n = C from EC.out] at t2
      rw [t1] at uS
      rw [t2] at uC
      exact ⟨_,results_2828 (r :=w.heap.size + 1) (q :=w.heap.size + 2) rfl rfl rfl y6 y7 y4 y5,⟨_,_,rfl,uS.kept (Chg.refl _ _).drew,uC.kept (Chg.refl _ _).drew⟩,(kt hK.out p4).drew⟩
    have hP0 : P ≠ 0 :=fun h => hg0 (hg.symm.trans ((cmpZ_zero P).2 h))
    have hn82 : n < 82 :=part_lt HX.out (by rw [EP.out];exact hP0)
    have hT3 : T ≤ 82 :=by have :=hT.out;omega
    clear hg hP0
    obtain ⟨PX,ePX⟩ : ∃ Z,P * x = Z :=⟨_,rfl⟩
    have hmul : ∀ W' v1 v2,WV W' v1 P → WV W' v2 x → Calls Tryz.prog 39 #[v1,v2] W' fun r w' => (∃ v',r = .returned v' ∧ WV w' v' PX) ∧ Kept W' w' :=fun W' v1 v2 g1 g2 => by
      have :=wholeMul W' v1 v2 P x g1 g2 (Sm.of _ 130 hBP.out (by decide)).2 (Sm.of _ 130 hBX.out (by decide)).2
      rw [ePX] at this;exact this
    have hmul :=hmul
    obtain ⟨P1,eP1⟩ : ∃ Z,Plain.part Plain.D40 x (n + 1) = Z :=⟨_,rfl⟩
    have hqn : cutq PX (q * (n + 1)) 0 = P1 :=by
      rw [← eP1,← part_next,EP.out,ePX,← HQ.out]
    have hBPX : PX.natAbs < 10 ^ 260 :=by
      rw [← ePX,Int.natAbs_mul,show 260 = 130 + 130 from rfl,Nat.pow_add]
      exact Nat.mul_lt_mul'' hBP.out hBX.out
    have h41 : ∀ W',Calls Tryz.prog 41 #[.int .u64 T] W' fun r w' => (∃ v,r = .returned v ∧ NV w' v (n + 1)) ∧ Kept W' w' :=fun W' => by
      have :=natFrom W' (n + 1) (by omega)
      rw [show ((n + 1 : Nat) : Int) = T by have :=hT.out;omega] at this
      exact this
    have h40 : ∀ W' s m c s' m' c',Hid (Dig W' s m c q) → Hid (Dig W' s' m' c' (n + 1)) → Calls Tryz.prog 40 #[.slice s m c,.slice s' m' c'] W' fun r w' => (∃ v,r = .returned v ∧ NV w' v (q * (n + 1))) ∧ Kept W' w' :=fun W' s m c s' m' c' g1 g2 => by
      have l1 :=g1.out.sm (Sm.of _ 41 (by rw [← HQ.out];decide +kernel) (by decide)).2
      have l2 :=g2.out.sm (Sm.of _ 41 (Nat.lt_of_le_of_lt (show n + 1 ≤ 82 by omega) (by decide +kernel)) (by decide)).2
      exact natMul W' s s' m m' c c' q (n + 1) g1.out g2.out (by omega) (by omega)
    have h36b : ∀ W' b s m c s' m' c',Hid (WV W' (.agg #[.bool b,.slice s m c]) PX) → Hid (Dig W' s' m' c' (q * (n + 1))) → Calls Tryz.prog 36 #[.agg #[.bool b,.slice s m c,.slice s' m' c'],.int .i64 0,.int .i64 0] W' (RD W' P1 0) :=fun W' b s m c s' m' c' g1 g2 => toRD (by
      have hq0 : 0 < q * (n + 1) :=Nat.mul_pos (by rw [← HQ.out];exact Nat.pow_pos (by decide)) (by omega)
      have hq1 : q * (n + 1) < 10 ^ 43 :=by
        have h1 : q * (n + 1) ≤ q * 82 :=Nat.mul_le_mul_left _ (by omega)
        refine Nat.lt_of_le_of_lt h1 ?_
        rw [← HQ.out];decide +kernel
      have :=fracRound W' _ PX (q * (n + 1)) 0 (FV.of g1 g2.out) hq0 (by decide) (Sm.of _ 260 hBPX (by decide)).1 (Sm.of _ 43 hq1 (by decide)).1
      rw [hqn] at this
      exact this)
    have h10 : ∀ W',Kept wr W' → Calls Tryz.prog 10 #[.agg #[.bool bP,.slice sP nP cP]] W' (RW W' (-P)) :=fun W' k => toRW (wholeMinus W' _ P (vP.wv.out.kept k))
    have EN :=Lib.hid eP1
    have HM :=Lib.hid hmul
    obtain ⟨D,eD⟩ : ∃ D,q * (n + 1) = D :=⟨_,rfl⟩
    rw [eD] at h40 h36b
    clear ePX eP1 hqn hBPX hmul eD
    have hmul :=HM.out
    rcases (by omega : T % 4 = 1 ∨ T % 4 = 2 ∨ T % 4 = 3 ∨ T % 4 = 0) with h | h | h | h
    · have e1 : T % 4 = 1 :=h
      have e2 : T.tmod 4 = 1 :=by rw [Int.tmod_eq_emod_of_nonneg (by omega)];exact h
      have hn4 : n % 4 = 0 :=by have :=hT.out;omega
      obtain ⟨tC,tS⟩ :=step_1 x n hn4
      obtain ⟨C1,eN⟩ : ∃ Z,C + P = Z :=⟨_,rfl⟩
      have h38 : ∀ W' b s m c,Kept wr W' → Hid (WV W' (.agg #[.bool b,.slice s m c]) (P)) → Calls Tryz.prog 38 #[.agg #[.bool bC,.slice sC nC cC],.agg #[.bool b,.slice s m c]] W' (RW W' C1) :=fun W' b s m c k h => toRW (by
        have :=wholeAdd W' _ _ _ _ (vC.wv.out.kept k) h.out (Sm.of _ 130 hBC.out (by decide)).2 (Sm.of _ 130 (by exact hBP.out) (by decide)).2
        rw [eN] at this;exact this)
      have HN :=Lib.hid (And.intro eN (And.intro tC tS))
      clear eN tC tS
      go_upto_region 14 with (first
        | (go_at_call 37;(with_reducible refine (h37 _ (Chg.refl _ _)).mono ?_);rintro r w4 ⟨rfl,p4⟩;obtain ⟨y0,y1,y2,y3,y4,y5,y6,y7⟩ :=ce _ p4)
        | (go_at_call 38;(with_reducible refine (h38 _ _ _ _ _ p4 (Lib.hid (vP.wv.out.kept p4))).mono ?_);rintro r w6 ⟨⟨b8,s8,n8,c8,rfl,g8⟩,p6⟩;have kr :=kt p4 p6;obtain ⟨z0,z1,z2,z3,z4,z5,z6,z7⟩ :=ce _ kr;have f0 :=(vC.kept kr).nf 0;have f1 :=(vC.kept kr).nf 1;have zz :=cs_ne (u :=.bool b8) (vC.kept kr).c1 (b' :=w.heap.size + 2) (o' :=0) (by omega)))
      obtain ⟨W9,hW9⟩ : ∃ W,(w6.setCell ⟨w.heap.size + 2,0,none⟩ (.bool b8)).setCell ⟨w.heap.size + 2,1,none⟩ (.slice s8 n8 c8) = W :=⟨_,rfl⟩
      have k9 : Kept w W9 :=hW9 ▸ (kt hK.out kr).keptNew (put2_chg w6 (w.heap.size + 2) _ _) fun b' _ hb => by omega
      have uP : VC W9 (w2.heap.size) bP sP nP cP P :=hW9 ▸ (vP.kept kr).other (x :=.bool b8) (y :=.slice s8 n8 c8) (vC.kept kr) (by omega)
      have uX : VC W9 (w1.heap.size) bX sX nX cX x :=hW9 ▸ (vX.kept kr).other (x :=.bool b8) (y :=.slice s8 n8 c8) (vC.kept kr) (by omega)
      have uC : VC W9 (w.heap.size + 2) b8 s8 n8 c8 C1 :=hW9 ▸ (vC.kept kr).put g8
      have uS : VC W9 (w.heap.size + 1) bS sS nS cS S :=hW9 ▸ (vS.kept kr).other (x :=.bool b8) (y :=.slice s8 n8 c8) (vC.kept kr) (by omega)
      rw [hW9]
      clear hW9
      obtain ⟨u0,u1,uw,uf⟩ :=id uP
      obtain ⟨x0,x1,xw,xf⟩ :=id uX
      have h39 : ∀ W',Kept W9 W' → Calls Tryz.prog 39 #[.agg #[.bool bP,.slice sP nP cP],.agg #[.bool bX,.slice sX nX cX]] W' (RW W' PX) :=fun W' k => toRW (hmul W' _ _ (uw.out.kept k) (xw.out.kept k))
      clear ce
      go_wp2_with (first
        | (go_at_call 39;(with_reducible refine (h39 _ (Chg.refl _ _)).mono ?_);rintro r wa ⟨⟨ba,sa,na,ca,rfl,ga⟩,pa⟩)
        | (go_at_call 17;(with_reducible refine (h17 _).mono ?_);rintro r wb ⟨⟨vb,rfl,sb,nb,cb,rfl,db⟩,pb⟩)
        | (go_at_call 41;(with_reducible refine (h41 _).mono ?_);rintro r wc ⟨⟨vc,rfl,sc,nc,cc,rfl,dc⟩,pc⟩)
        | (go_at_call 40;(with_reducible refine (h40 _ _ _ _ _ _ _ (Lib.hid (db.kept pc)) (Lib.hid dc)).mono ?_);rintro r wd ⟨⟨vd,rfl,sd,nd,cd,rfl,dd⟩,pe⟩)
        | (go_at_call 36;(with_reducible refine (h36b _ _ _ _ _ _ _ _ (Lib.hid (ga.out.kept (kt pb (kt pc pe)))) (Lib.hid dd)).mono ?_);rintro r we ⟨⟨be,se,ne,cf,rfl,ge⟩,pf⟩;have kz :=kt pa (kt pb (kt pc (kt pe pf)));have i0 :=Kept.at kz u0;have i1 :=Kept.at kz u1;have f2 :=(uP.kept kz).nf 0;have f3 :=(uP.kept kz).nf 1;have i2 :=cs_ne (u :=.bool be) i1 (b' :=w2.heap.size) (o' :=0) (by omega)))
      go_roundw
      case rel =>
        obtain ⟨eN,tC,tS⟩ :=HN.out
        refine ⟨n + 1,T + 1,by first | rfl | go_num,Lib.hid (by have :=hT.out;omega),by omega,by omega,Lib.hid ⟨be,se,ne,cf,?_⟩,Lib.hid ⟨bX,sX,nX,cX,(uX.kept kz).other (uP.kept kz) (by omega)⟩,Lib.hid ⟨b8,s8,n8,c8,?_⟩,Lib.hid ⟨bS,sS,nS,cS,?_⟩,Lib.hid ((kt k9 kz).keptNew (put2_chg we w2.heap.size _ _) fun b' _ hb => by omega)⟩
        · rw [EN.out]
          exact (uP.kept kz).put ge
        · rw [tC,EC.out,EP.out,eN]
          exact (uC.kept kz).other (uP.kept kz) (by omega)
        · rw [tS,ES.out]
          exact (uS.kept kz).other (uP.kept kz) (by omega)
      case measure => simp [intOf];omega
    · have e1 : T % 4 = 2 :=h
      have e2 : T.tmod 4 = 2 :=by rw [Int.tmod_eq_emod_of_nonneg (by omega)];exact h
      have hn4 : n % 4 = 1 :=by have :=hT.out;omega
      obtain ⟨tC,tS⟩ :=step_2 x n hn4
      obtain ⟨S1,eN⟩ : ∃ Z,S + P = Z :=⟨_,rfl⟩
      have h38 : ∀ W' b s m c,Kept wr W' → Hid (WV W' (.agg #[.bool b,.slice s m c]) (P)) → Calls Tryz.prog 38 #[.agg #[.bool bS,.slice sS nS cS],.agg #[.bool b,.slice s m c]] W' (RW W' S1) :=fun W' b s m c k h => toRW (by
        have :=wholeAdd W' _ _ _ _ (vS.wv.out.kept k) h.out (Sm.of _ 130 hBS.out (by decide)).2 (Sm.of _ 130 (by exact hBP.out) (by decide)).2
        rw [eN] at this;exact this)
      have HN :=Lib.hid (And.intro eN (And.intro tC tS))
      clear eN tC tS
      go_upto_region 14 with (first
        | (go_at_call 37;(with_reducible refine (h37 _ (Chg.refl _ _)).mono ?_);rintro r w4 ⟨rfl,p4⟩;obtain ⟨y0,y1,y2,y3,y4,y5,y6,y7⟩ :=ce _ p4)
        | (go_at_call 38;(with_reducible refine (h38 _ _ _ _ _ p4 (Lib.hid (vP.wv.out.kept p4))).mono ?_);rintro r w6 ⟨⟨b8,s8,n8,c8,rfl,g8⟩,p6⟩;have kr :=kt p4 p6;obtain ⟨z0,z1,z2,z3,z4,z5,z6,z7⟩ :=ce _ kr;have f0 :=(vS.kept kr).nf 0;have f1 :=(vS.kept kr).nf 1;have zz :=cs_ne (u :=.bool b8) (vS.kept kr).c1 (b' :=w.heap.size + 1) (o' :=0) (by omega)))
      obtain ⟨W9,hW9⟩ : ∃ W,(w6.setCell ⟨w.heap.size + 1,0,none⟩ (.bool b8)).setCell ⟨w.heap.size + 1,1,none⟩ (.slice s8 n8 c8) = W :=⟨_,rfl⟩
      have k9 : Kept w W9 :=hW9 ▸ (kt hK.out kr).keptNew (put2_chg w6 (w.heap.size + 1) _ _) fun b' _ hb => by omega
      have uP : VC W9 (w2.heap.size) bP sP nP cP P :=hW9 ▸ (vP.kept kr).other (x :=.bool b8) (y :=.slice s8 n8 c8) (vS.kept kr) (by omega)
      have uX : VC W9 (w1.heap.size) bX sX nX cX x :=hW9 ▸ (vX.kept kr).other (x :=.bool b8) (y :=.slice s8 n8 c8) (vS.kept kr) (by omega)
      have uC : VC W9 (w.heap.size + 2) bC sC nC cC C :=hW9 ▸ (vC.kept kr).other (x :=.bool b8) (y :=.slice s8 n8 c8) (vS.kept kr) (by omega)
      have uS : VC W9 (w.heap.size + 1) b8 s8 n8 c8 S1 :=hW9 ▸ (vS.kept kr).put g8
      rw [hW9]
      clear hW9
      obtain ⟨u0,u1,uw,uf⟩ :=id uP
      obtain ⟨x0,x1,xw,xf⟩ :=id uX
      have h39 : ∀ W',Kept W9 W' → Calls Tryz.prog 39 #[.agg #[.bool bP,.slice sP nP cP],.agg #[.bool bX,.slice sX nX cX]] W' (RW W' PX) :=fun W' k => toRW (hmul W' _ _ (uw.out.kept k) (xw.out.kept k))
      clear ce
      go_wp2_with (first
        | (go_at_call 39;(with_reducible refine (h39 _ (Chg.refl _ _)).mono ?_);rintro r wa ⟨⟨ba,sa,na,ca,rfl,ga⟩,pa⟩)
        | (go_at_call 17;(with_reducible refine (h17 _).mono ?_);rintro r wb ⟨⟨vb,rfl,sb,nb,cb,rfl,db⟩,pb⟩)
        | (go_at_call 41;(with_reducible refine (h41 _).mono ?_);rintro r wc ⟨⟨vc,rfl,sc,nc,cc,rfl,dc⟩,pc⟩)
        | (go_at_call 40;(with_reducible refine (h40 _ _ _ _ _ _ _ (Lib.hid (db.kept pc)) (Lib.hid dc)).mono ?_);rintro r wd ⟨⟨vd,rfl,sd,nd,cd,rfl,dd⟩,pe⟩)
        | (go_at_call 36;(with_reducible refine (h36b _ _ _ _ _ _ _ _ (Lib.hid (ga.out.kept (kt pb (kt pc pe)))) (Lib.hid dd)).mono ?_);rintro r we ⟨⟨be,se,ne,cf,rfl,ge⟩,pf⟩;have kz :=kt pa (kt pb (kt pc (kt pe pf)));have i0 :=Kept.at kz u0;have i1 :=Kept.at kz u1;have f2 :=(uP.kept kz).nf 0;have f3 :=(uP.kept kz).nf 1;have i2 :=cs_ne (u :=.bool be) i1 (b' :=w2.heap.size) (o' :=0) (by omega)))
      go_roundw
      case rel =>
        obtain ⟨eN,tC,tS⟩ :=HN.out
        refine ⟨n + 1,T + 1,by first | rfl | go_num,Lib.hid (by have :=hT.out;omega),by omega,by omega,Lib.hid ⟨be,se,ne,cf,?_⟩,Lib.hid ⟨bX,sX,nX,cX,(uX.kept kz).other (uP.kept kz) (by omega)⟩,Lib.hid ⟨bC,sC,nC,cC,?_⟩,Lib.hid ⟨b8,s8,n8,c8,?_⟩,Lib.hid ((kt k9 kz).keptNew (put2_chg we w2.heap.size _ _) fun b' _ hb => by omega)⟩
        · rw [EN.out]
          exact (uP.kept kz).put ge
        · rw [tC,EC.out]
          exact (uC.kept kz).other (uP.kept kz) (by omega)
        · rw [tS,ES.out,EP.out,eN]
          exact (uS.kept kz).other (uP.kept kz) (by omega)
      case measure => simp [intOf];omega
    · have e1 : T % 4 = 3 :=h
      have e2 : T.tmod 4 = 3 :=by rw [Int.tmod_eq_emod_of_nonneg (by omega)];exact h
      have hn4 : n % 4 = 2 :=by have :=hT.out;omega
      obtain ⟨tC,tS⟩ :=step_3 x n hn4
      obtain ⟨C1,eN⟩ : ∃ Z,C + -P = Z :=⟨_,rfl⟩
      have h38 : ∀ W' b s m c,Kept wr W' → Hid (WV W' (.agg #[.bool b,.slice s m c]) (-P)) → Calls Tryz.prog 38 #[.agg #[.bool bC,.slice sC nC cC],.agg #[.bool b,.slice s m c]] W' (RW W' C1) :=fun W' b s m c k h => toRW (by
        have :=wholeAdd W' _ _ _ _ (vC.wv.out.kept k) h.out (Sm.of _ 130 hBC.out (by decide)).2 (Sm.of _ 130 (by rw [Int.natAbs_neg];exact hBP.out) (by decide)).2
        rw [eN] at this;exact this)
      have HN :=Lib.hid (And.intro eN (And.intro tC tS))
      clear eN tC tS
      go_upto_region 14 with (first
        | (refine wp_region_lit_segs (id :=13) [[0,1,2],[3,4]] mixed (by kernel_rfl) ?_;simp only [wpSegsL,gaC,gaN,lZ0,lS0,coS])
        | refine ⟨by kernel_rfl,?_⟩
        | (refine ⟨by kernel_rfl,Chg.old p5,?_⟩)
        | (refine ⟨Chg.old p5,?_⟩)
        | (go_at_call 37;(with_reducible refine (h37 _ (Chg.refl _ _)).mono ?_);rintro r w4 ⟨rfl,p4⟩;obtain ⟨y0,y1,y2,y3,y4,y5,y6,y7⟩ :=ce _ p4)
        | (go_at_call 10;(with_reducible refine (h10 _ (kt p4 (Chg.refl _ _).drew)).mono ?_);rintro r w5 ⟨⟨b5,s5,n5,c5,rfl,g5⟩,p5⟩;have kr :=kt p4 p5.of_drew)
        | (go_at_call 38;(with_reducible refine (h38 _ _ _ _ _ kr g5).mono ?_);rintro r w6 ⟨⟨b8,s8,n8,c8,rfl,g8⟩,p6⟩;replace kr :=kt kr p6;obtain ⟨z0,z1,z2,z3,z4,z5,z6,z7⟩ :=ce _ kr;have f0 :=(vC.kept kr).nf 0;have f1 :=(vC.kept kr).nf 1;have zz :=cs_ne (u :=.bool b8) (vC.kept kr).c1 (b' :=w.heap.size + 2) (o' :=0) (by omega)))
      obtain ⟨W9,hW9⟩ : ∃ W,(w6.setCell ⟨w.heap.size + 2,0,none⟩ (.bool b8)).setCell ⟨w.heap.size + 2,1,none⟩ (.slice s8 n8 c8) = W :=⟨_,rfl⟩
      have k9 : Kept w W9 :=hW9 ▸ (kt hK.out kr).keptNew (put2_chg w6 (w.heap.size + 2) _ _) fun b' _ hb => by omega
      have uP : VC W9 (w2.heap.size) bP sP nP cP P :=hW9 ▸ (vP.kept kr).other (x :=.bool b8) (y :=.slice s8 n8 c8) (vC.kept kr) (by omega)
      have uX : VC W9 (w1.heap.size) bX sX nX cX x :=hW9 ▸ (vX.kept kr).other (x :=.bool b8) (y :=.slice s8 n8 c8) (vC.kept kr) (by omega)
      have uC : VC W9 (w.heap.size + 2) b8 s8 n8 c8 C1 :=hW9 ▸ (vC.kept kr).put g8
      have uS : VC W9 (w.heap.size + 1) bS sS nS cS S :=hW9 ▸ (vS.kept kr).other (x :=.bool b8) (y :=.slice s8 n8 c8) (vC.kept kr) (by omega)
      rw [hW9]
      clear hW9
      obtain ⟨u0,u1,uw,uf⟩ :=id uP
      obtain ⟨x0,x1,xw,xf⟩ :=id uX
      have h39 : ∀ W',Kept W9 W' → Calls Tryz.prog 39 #[.agg #[.bool bP,.slice sP nP cP],.agg #[.bool bX,.slice sX nX cX]] W' (RW W' PX) :=fun W' k => toRW (hmul W' _ _ (uw.out.kept k) (xw.out.kept k))
      clear ce
      go_wp2_with (first
        | (go_at_call 39;(with_reducible refine (h39 _ (Chg.refl _ _)).mono ?_);rintro r wa ⟨⟨ba,sa,na,ca,rfl,ga⟩,pa⟩)
        | (go_at_call 17;(with_reducible refine (h17 _).mono ?_);rintro r wb ⟨⟨vb,rfl,sb,nb,cb,rfl,db⟩,pb⟩)
        | (go_at_call 41;(with_reducible refine (h41 _).mono ?_);rintro r wc ⟨⟨vc,rfl,sc,nc,cc,rfl,dc⟩,pc⟩)
        | (go_at_call 40;(with_reducible refine (h40 _ _ _ _ _ _ _ (Lib.hid (db.kept pc)) (Lib.hid dc)).mono ?_);rintro r wd ⟨⟨vd,rfl,sd,nd,cd,rfl,dd⟩,pe⟩)
        | (go_at_call 36;(with_reducible refine (h36b _ _ _ _ _ _ _ _ (Lib.hid (ga.out.kept (kt pb (kt pc pe)))) (Lib.hid dd)).mono ?_);rintro r we ⟨⟨be,se,ne,cf,rfl,ge⟩,pf⟩;have kz :=kt pa (kt pb (kt pc (kt pe pf)));have i0 :=Kept.at kz u0;have i1 :=Kept.at kz u1;have f2 :=(uP.kept kz).nf 0;have f3 :=(uP.kept kz).nf 1;have i2 :=cs_ne (u :=.bool be) i1 (b' :=w2.heap.size) (o' :=0) (by omega)))
      go_roundw
      case rel =>
        obtain ⟨eN,tC,tS⟩ :=HN.out
        refine ⟨n + 1,T + 1,by first | rfl | go_num,Lib.hid (by have :=hT.out;omega),by omega,by omega,Lib.hid ⟨be,se,ne,cf,?_⟩,Lib.hid ⟨bX,sX,nX,cX,(uX.kept kz).other (uP.kept kz) (by omega)⟩,Lib.hid ⟨b8,s8,n8,c8,?_⟩,Lib.hid ⟨bS,sS,nS,cS,?_⟩,Lib.hid ((kt k9 kz).keptNew (put2_chg we w2.heap.size _ _) fun b' _ hb => by omega)⟩
        · rw [EN.out]
          exact (uP.kept kz).put ge
        · rw [tC,EC.out,EP.out,eN]
          exact (uC.kept kz).other (uP.kept kz) (by omega)
        · rw [tS,ES.out]
          exact (uS.kept kz).other (uP.kept kz) (by omega)
      case measure => simp [intOf];omega
    · have e1 : T % 4 = 0 :=h
      have e2 : T.tmod 4 = 0 :=by rw [Int.tmod_eq_emod_of_nonneg (by omega)];exact h
      have hn4 : n % 4 = 3 :=by have :=hT.out;omega
      obtain ⟨tC,tS⟩ :=step_0 x n hn4
      obtain ⟨S1,eN⟩ : ∃ Z,S + -P = Z :=⟨_,rfl⟩
      have h38 : ∀ W' b s m c,Kept wr W' → Hid (WV W' (.agg #[.bool b,.slice s m c]) (-P)) → Calls Tryz.prog 38 #[.agg #[.bool bS,.slice sS nS cS],.agg #[.bool b,.slice s m c]] W' (RW W' S1) :=fun W' b s m c k h => toRW (by
        have :=wholeAdd W' _ _ _ _ (vS.wv.out.kept k) h.out (Sm.of _ 130 hBS.out (by decide)).2 (Sm.of _ 130 (by rw [Int.natAbs_neg];exact hBP.out) (by decide)).2
        rw [eN] at this;exact this)
      have HN :=Lib.hid (And.intro eN (And.intro tC tS))
      clear eN tC tS
      go_upto_region 14 with (first
        | (refine wp_region_lit_segs (id :=7) [[0,1,2],[3,4]] mixed (by kernel_rfl) ?_;simp only [wpSegsL,gaC,gaN,lZ0,lS0,coS])
        | refine ⟨by kernel_rfl,?_⟩
        | (refine ⟨by kernel_rfl,Chg.old p5,?_⟩)
        | (refine ⟨Chg.old p5,?_⟩)
        | (go_at_call 37;(with_reducible refine (h37 _ (Chg.refl _ _)).mono ?_);rintro r w4 ⟨rfl,p4⟩;obtain ⟨y0,y1,y2,y3,y4,y5,y6,y7⟩ :=ce _ p4)
        | (go_at_call 10;(with_reducible refine (h10 _ (kt p4 (Chg.refl _ _).drew)).mono ?_);rintro r w5 ⟨⟨b5,s5,n5,c5,rfl,g5⟩,p5⟩;have kr :=kt p4 p5.of_drew)
        | (go_at_call 38;(with_reducible refine (h38 _ _ _ _ _ kr g5).mono ?_);rintro r w6 ⟨⟨b8,s8,n8,c8,rfl,g8⟩,p6⟩;replace kr :=kt kr p6;obtain ⟨z0,z1,z2,z3,z4,z5,z6,z7⟩ :=ce _ kr;have f0 :=(vS.kept kr).nf 0;have f1 :=(vS.kept kr).nf 1;have zz :=cs_ne (u :=.bool b8) (vS.kept kr).c1 (b' :=w.heap.size + 1) (o' :=0) (by omega)))
      obtain ⟨W9,hW9⟩ : ∃ W,(w6.setCell ⟨w.heap.size + 1,0,none⟩ (.bool b8)).setCell ⟨w.heap.size + 1,1,none⟩ (.slice s8 n8 c8) = W :=⟨_,rfl⟩
      have k9 : Kept w W9 :=hW9 ▸ (kt hK.out kr).keptNew (put2_chg w6 (w.heap.size + 1) _ _) fun b' _ hb => by omega
      have uP : VC W9 (w2.heap.size) bP sP nP cP P :=hW9 ▸ (vP.kept kr).other (x :=.bool b8) (y :=.slice s8 n8 c8) (vS.kept kr) (by omega)
      have uX : VC W9 (w1.heap.size) bX sX nX cX x :=hW9 ▸ (vX.kept kr).other (x :=.bool b8) (y :=.slice s8 n8 c8) (vS.kept kr) (by omega)
      have uC : VC W9 (w.heap.size + 2) bC sC nC cC C :=hW9 ▸ (vC.kept kr).other (x :=.bool b8) (y :=.slice s8 n8 c8) (vS.kept kr) (by omega)
      have uS : VC W9 (w.heap.size + 1) b8 s8 n8 c8 S1 :=hW9 ▸ (vS.kept kr).put g8
      rw [hW9]
      clear hW9
      obtain ⟨u0,u1,uw,uf⟩ :=id uP
      obtain ⟨x0,x1,xw,xf⟩ :=id uX
      have h39 : ∀ W',Kept W9 W' → Calls Tryz.prog 39 #[.agg #[.bool bP,.slice sP nP cP],.agg #[.bool bX,.slice sX nX cX]] W' (RW W' PX) :=fun W' k => toRW (hmul W' _ _ (uw.out.kept k) (xw.out.kept k))
      clear ce
      go_wp2_with (first
        | (go_at_call 39;(with_reducible refine (h39 _ (Chg.refl _ _)).mono ?_);rintro r wa ⟨⟨ba,sa,na,ca,rfl,ga⟩,pa⟩)
        | (go_at_call 17;(with_reducible refine (h17 _).mono ?_);rintro r wb ⟨⟨vb,rfl,sb,nb,cb,rfl,db⟩,pb⟩)
        | (go_at_call 41;(with_reducible refine (h41 _).mono ?_);rintro r wc ⟨⟨vc,rfl,sc,nc,cc,rfl,dc⟩,pc⟩)
        | (go_at_call 40;(with_reducible refine (h40 _ _ _ _ _ _ _ (Lib.hid (db.kept pc)) (Lib.hid dc)).mono ?_);rintro r wd ⟨⟨vd,rfl,sd,nd,cd,rfl,dd⟩,pe⟩)
        | (go_at_call 36;(with_reducible refine (h36b _ _ _ _ _ _ _ _ (Lib.hid (ga.out.kept (kt pb (kt pc pe)))) (Lib.hid dd)).mono ?_);rintro r we ⟨⟨be,se,ne,cf,rfl,ge⟩,pf⟩;have kz :=kt pa (kt pb (kt pc (kt pe pf)));have i0 :=Kept.at kz u0;have i1 :=Kept.at kz u1;have f2 :=(uP.kept kz).nf 0;have f3 :=(uP.kept kz).nf 1;have i2 :=cs_ne (u :=.bool be) i1 (b' :=w2.heap.size) (o' :=0) (by omega)))
      go_roundw
      case rel =>
        obtain ⟨eN,tC,tS⟩ :=HN.out
        refine ⟨n + 1,T + 1,by first | rfl | go_num,Lib.hid (by have :=hT.out;omega),by omega,by omega,Lib.hid ⟨be,se,ne,cf,?_⟩,Lib.hid ⟨bX,sX,nX,cX,(uX.kept kz).other (uP.kept kz) (by omega)⟩,Lib.hid ⟨bC,sC,nC,cC,?_⟩,Lib.hid ⟨b8,s8,n8,c8,?_⟩,Lib.hid ((kt k9 kz).keptNew (put2_chg we w2.heap.size _ _) fun b' _ hb => by omega)⟩
        · rw [EN.out]
          exact (uP.kept kz).put ge
        · rw [tC,EC.out]
          exact (uC.kept kz).other (uP.kept kz) (by omega)
        · rw [tS,ES.out,EP.out,eN]
          exact (uS.kept kz).other (uP.kept kz) (by omega)
      case measure => simp [intOf];omega
end Go.Proofs.YtfmmdamgcpiciaaGreatDoor
namespace Go.Proofs.YtfmmdamgcpiciaaGreatDoor
open Go Go.RowKit
theorem bs_drop (L : List Nat) (c : Nat) : (bs L).extract c (bs L).size = bs (L.drop c) :=by
  rw [bs_size]
  apply ByteArray.ext
  simp [bs,ByteArray.extract,ByteArray.copySlice]
  rw [List.take_of_length_le (by simp)]
theorem readD_zero (L : List Nat) : readD (48 :: L) = readD L :=by simp [readD]
theorem decSmall (w : World) (Z : Int) (k : Nat) (hZ : Z.natAbs < 10 ^ 20) (hk : k ≤ 18) : Calls Tryz.prog 27 #[pd (str (txt Z)) (-(k : Int)),.int .i64 1] w fun r w' => (∃ Y : Int,r = .returned (pd (str (txt Y)) (-(k : Int))) ∧ Y.natAbs < 10 ^ (k + 1)) ∧ Kept w w' :=by
  obtain ⟨D,hD⟩ : ∃ D,digT Z.natAbs = D :=⟨_,rfl⟩
  have hDl : D.length ≤ 20 :=hD ▸ digT_length _ 20 (by decide) hZ
  have hDne : 0 < D.length :=List.length_pos_iff.2 (hD ▸ digT_ne _)
  have hDr : ∀ c ∈ D,48 ≤ c ∧ c ≤ 57 :=hD ▸ digT_range _
  obtain ⟨c,hc⟩ : ∃ c,D.length - (k + 1) = c :=⟨_,rfl⟩
  have hlen : (D.drop c).length ≤ k + 1 :=by rw [List.length_drop];omega
  have hYr : ∀ x ∈ 48 :: D.drop c,48 ≤ x ∧ x ≤ 57 :=by
    intro x hx
    rcases List.mem_cons.1 hx with rfl | hx
    · decide
    · exact hDr x (List.mem_of_mem_drop hx)
  obtain ⟨M,hM⟩ : ∃ M,readD (48 :: D.drop c) = M :=⟨_,rfl⟩
  have hM1 : M < 10 ^ (k + 1) :=by
    rw [← hM,readD_zero]
    exact Nat.lt_of_lt_of_le (readD_lt _ fun x hx => hYr x (List.mem_cons_of_mem _ hx)) (Nat.pow_le_pow_right (by decide) hlen)
  have h50 : ∀ W,Calls Tryz.prog 50 #[.string (bs (48 :: D.drop c))] W fun r w' => (∃ v,r = .returned (.tuple #[v,.bool true]) ∧ NV w' v M) ∧ Kept W w' :=fun W => by
    have :=natOf W (48 :: D.drop c) hYr (by simp) (by simp only [List.length_cons];omega)
    rw [hM] at this;exact this
  have h34 :=fun W => toRW (wholeIn W Z (Nat.lt_trans hZ (by decide)))
  have h49 : ∀ W b s n c,Hid (WV W (.agg #[.bool b,.slice s n c]) Z) → Calls Tryz.prog 49 #[.slice s n c] W fun r w' => r = .returned (.string (bs D)) ∧ Kept W w' :=fun W b s n c h => by
    have :=natString W s n c Z.natAbs (h.out.nv).2 (Nat.lt_trans hZ (by decide))
    rw [hD] at this;exact this
  obtain ⟨Y,hY⟩ : ∃ Y,sgn (decide (Z < 0)) M = Y :=⟨_,rfl⟩
  have hYa : Y.natAbs < 10 ^ (k + 1) :=by rw [← hY,sgn_abs];exact hM1
  have h35 : ∀ W s n c,Dig W s n c M → Calls Tryz.prog 35 #[.bool (decide (Z < 0)),.slice s n c] W (RW W Y) :=fun W s n c h => toRW (by
    have :=wholeOf W (decide (Z < 0)) _ M ⟨s,n,c,rfl,h⟩
    rw [hY] at this;exact this)
  obtain ⟨E,hE⟩ : ∃ E : Int,-(k : Int) = E :=⟨_,rfl⟩
  have h8 : ∀ W b s n c,Hid (WV W (.agg #[.bool b,.slice s n c]) Y) → Calls Tryz.prog 8 #[.agg #[.bool b,.slice s n c,.int .i64 E]] W fun r w' => r = .returned (pd (str (txt Y)) E) ∧ Kept W w' :=fun W b s n c h => by
    obtain ⟨rfl,hd⟩ :=h.out.nv
    exact decOut W _ Y E ⟨s,n,c,rfl,hd⟩ (Nat.lt_of_lt_of_le hYa (Nat.pow_le_pow_right (by decide) (by omega)))
  rw [hE]
  obtain ⟨sD,hsD⟩ : ∃ s,bs D = s :=⟨_,rfl⟩
  obtain ⟨t,ht⟩ : ∃ s,bs (D.drop c) = s :=⟨_,rfl⟩
  obtain ⟨u,hu⟩ : ∃ s,bs (48 :: D.drop c) = s :=⟨_,rfl⟩
  have hap : ({ data :=#[48] } : ByteArray) ++ t = u :=by rw [← ht,← hu];exact bs_cons 48 _
  have htz : t.size ≤ 20 :=by rw [← ht,bs_size,List.length_drop];omega
  have hex : sD.extract c sD.size = t :=by rw [← hsD,← ht];exact bs_drop D c
  have h0 : c = 0 → sD = t :=by rintro rfl;rw [← hsD,← ht];rfl
  obtain ⟨LI,hLI⟩ : ∃ n : Int,(sD.size : Int) = n :=⟨_,rfl⟩
  have hsz : sD.size = D.length :=by rw [← hsD,bs_size]
  have hL1 : 0 < LI :=by omega
  have hL2 : LI ≤ 20 :=by omega
  have hcc : 0 < c → LI + E - 1 = (c : Int) :=by intro h;omega
  have hc0 : c = 0 → LI + E - 1 ≤ 0 :=by intro h;omega
  have hcl : (c : Int) ≤ LI :=by omega
  have hcn : c ≤ sD.size :=by omega
  have hE1 : -18 ≤ E :=by omega
  have hE2 : E ≤ 0 :=by omega
  rw [hsD] at h49
  rw [hu] at h50
  obtain ⟨sY,hsY⟩ : ∃ s,str (txt Y) = .string s :=⟨_,rfl⟩
  rw [hsY] at h8
  have HY :=Lib.hid (And.intro hsY hYa)
  obtain ⟨sZ,hsZ⟩ : ∃ s,str (txt Z) = .string s :=⟨_,rfl⟩
  rw [hsZ] at h34 ⊢
  have k1 : Kept w (Box23 w (.string sZ) (.int .i64 E)) :=Chg.alloc _ _ _
  have k2 : Kept (Box23 w (.string sZ) (.int .i64 E)) (Box23 (Box23 w (.string sZ) (.int .i64 E)) (.string { data :=#[] }) (.int .i64 0)) :=Chg.alloc _ _ _
  have a0 :=Kept.at k2 (show (Box23 w (.string sZ) (.int .i64 E)).cell? ⟨w.heap.size,0,none⟩ = some (.string sZ) by rw [World.cell?_alloc_at _ _ _ _ rfl];rfl)
  have a1 :=Kept.at k2 (show (Box23 w (.string sZ) (.int .i64 E)).cell? ⟨w.heap.size,1,none⟩ = some (.int .i64 E) by rw [World.cell?_alloc_at _ _ _ _ rfl];rfl)
  have S0 :=slot23 (Box23 w (.string sZ) (.int .i64 E)) (.string { data :=#[] }) (.int .i64 0)
  have e1 : (Box23 w (.string sZ) (.int .i64 E)).heap.size = w.heap.size + 1 :=by simp
  rw [e1] at S0
  have k0 :=kt k1 k2
  obtain ⟨W,hW⟩ : ∃ W,Box23 (Box23 w (.string sZ) (.int .i64 E)) (.string { data :=#[] }) (.int .i64 0) = W :=⟨_,rfl⟩
  rw [hW] at S0 a0 a1 k0
  simp only [Box23] at hW
  have HW :=Lib.hid hW
  obtain ⟨d,hd⟩ : ∃ b,decide (Z < 0) = b :=⟨_,rfl⟩
  have HD :=Lib.hid hd
  rw [hd] at h35
  have HB : ∀ {W : World} {b : Bool} {s : Option Addr} {n c : Nat},Hid (WV W (.agg #[.bool b,.slice s n c]) Z) → b = d :=fun h => (h.out.nv).1.trans hd
  have HC :=Lib.hid (And.intro h0 (And.intro hcc hc0))
  clear hW k1 k2 e1 hZ hD hDl hDne hDr hc hlen hYr hM hM1 hY hYa hE hsD ht hu hsz hsY hsZ hd h0 hcc hc0 hk
  rcases Nat.eq_zero_or_pos c with hc | hc
  · have e2 :=HC.out.2.2 hc
    obtain rfl :=HC.out.1 hc
    clear hcl hcn hex HC hc
    go_enter Tryz.func27,Tryz.ntmps27
    go_upto_region 1 with fail
    rw [HW.out]
    go_wp2_with (first
      | (refine wp_region_lit_segs (id :=7) [[0,1,2,4,5,3],[6,7,8]] mixed (by kernel_rfl) ?_;simp only [wpSegsL,gaC,gaN,lZ0,lS0,coS])
      | refine ⟨by kernel_rfl,?_⟩
      | refine ⟨by kernel_rfl,oldD (by first | assumption | exact Chg.refl _ _ | exact (Chg.refl _ _).drew | exact kt (by first | assumption | exact (Chg.refl _ _).drew | exact Chg.refl _ _) (ziK _) | exact Chg.drew (by assumption)),?_⟩
      | refine ⟨oldD (by first | assumption | exact Chg.refl _ _ | exact (Chg.refl _ _).drew | exact kt (by first | assumption | exact (Chg.refl _ _).drew | exact Chg.refl _ _) (ziK _) | exact Chg.drew (by assumption)),?_⟩
      | (with_reducible refine And.intro ?_ ?_)
      | (go_at_call 34;(with_reducible refine (h34 _).mono ?_);rintro r w1 ⟨⟨b1,s1,n1,c1,rfl,g1⟩,p1⟩;obtain rfl :=HB g1;have p2 :=kt p1 (Chg.alloc w1 (.cells #[.bool b1,.slice s1 n1 c1] 28) None2);have y0 :=box28_0 w1 (.bool b1) (.slice s1 n1 c1);have y1 :=box28_1 w1 (.bool b1) (.slice s1 n1 c1);have g2 :=Lib.hid (g1.out.kept (Chg.alloc w1 (.cells #[.bool b1,.slice s1 n1 c1] 28) None2)))
      | (go_at_call 49;(with_reducible refine (h49 _ _ _ _ _ g2).mono ?_);rintro r w3 ⟨rfl,p3⟩;have z0 :=Kept.at p3 y0;have z1 :=Kept.at (kt p2 p3) a1)
      | (go_at_call 50;(with_reducible refine (h50 _).mono ?_);rintro r w4 ⟨⟨v4,rfl,s4,n4,c4,rfl,d4⟩,p4⟩;have x0 :=Kept.at p4 z0;have x1 :=Kept.at p4 z1;have K4 :=kt p2 (kt p3 p4))
      | (go_at_call 35;(with_reducible refine (h35 _ _ _ _ (d4.kept (Chg.refl _ _).drew)).mono ?_);rintro r w5 ⟨⟨b5,s5,n5,c5,rfl,g5⟩,p5⟩;have kr :=p5.of_drew)
      | (go_at_call 8;(with_reducible refine (h8 _ _ _ _ _ g5).mono ?_);rintro r w6 ⟨rfl,p6⟩;replace kr :=kt kr p6;have S :=S0.kept (kt K4 kr);obtain ⟨⟨u0,i0⟩,⟨u1,i1⟩,sf⟩ :=id S;have f0 :=sf 0;have f1 :=sf 1;have i2 :=cs_ne (u :=.string sY) i1 (b' :=w.heap.size + 1) (o' :=0) (by omega)))
    exact ⟨_,results_23 (r :=w.heap.size + 1) rfl rfl (put2_0 S _ _) (put2_1 S _ _),⟨Y,by rw [HY.out.1],HY.out.2⟩,(kt k0 (kt K4 kr)).keptNew (put2_chg _ _ _ _) fun b' _ h => by omega⟩
  · have e2 :=HC.out.2.1 hc
    have hmin : min (c : Int) LI = (c : Int) :=by omega
    have hc0 : (0 : Int) < (c : Int) :=by omega
    skip
    clear HC
    go_enter Tryz.func27,Tryz.ntmps27
    go_upto_region 1 with fail
    rw [HW.out]
    go_wp2_with (first
      | (refine wp_region_lit_segs (id :=7) [[0,1,2,4,5,3],[6,7,8]] mixed (by kernel_rfl) ?_;simp only [wpSegsL,gaC,gaN,lZ0,lS0,coS])
      | refine ⟨by kernel_rfl,?_⟩
      | refine ⟨by kernel_rfl,oldD (by first | assumption | exact Chg.refl _ _ | exact (Chg.refl _ _).drew | exact kt (by first | assumption | exact (Chg.refl _ _).drew | exact Chg.refl _ _) (ziK _) | exact Chg.drew (by assumption)),?_⟩
      | refine ⟨oldD (by first | assumption | exact Chg.refl _ _ | exact (Chg.refl _ _).drew | exact kt (by first | assumption | exact (Chg.refl _ _).drew | exact Chg.refl _ _) (ziK _) | exact Chg.drew (by assumption)),?_⟩
      | (with_reducible refine And.intro ?_ ?_)
      | (go_at_call 34;(with_reducible refine (h34 _).mono ?_);rintro r w1 ⟨⟨b1,s1,n1,c1,rfl,g1⟩,p1⟩;obtain rfl :=HB g1;have p2 :=kt p1 (Chg.alloc w1 (.cells #[.bool b1,.slice s1 n1 c1] 28) None2);have y0 :=box28_0 w1 (.bool b1) (.slice s1 n1 c1);have y1 :=box28_1 w1 (.bool b1) (.slice s1 n1 c1);have g2 :=Lib.hid (g1.out.kept (Chg.alloc w1 (.cells #[.bool b1,.slice s1 n1 c1] 28) None2)))
      | (go_at_call 49;(with_reducible refine (h49 _ _ _ _ _ g2).mono ?_);rintro r w3 ⟨rfl,p3⟩;have z0 :=Kept.at p3 y0;have z1 :=Kept.at (kt p2 p3) a1)
      | (go_at_call 50;(with_reducible refine (h50 _).mono ?_);rintro r w4 ⟨⟨v4,rfl,s4,n4,c4,rfl,d4⟩,p4⟩;have x0 :=Kept.at p4 z0;have x1 :=Kept.at p4 z1;have K4 :=kt p2 (kt p3 p4))
      | (go_at_call 35;(with_reducible refine (h35 _ _ _ _ (d4.kept (Chg.refl _ _).drew)).mono ?_);rintro r w5 ⟨⟨b5,s5,n5,c5,rfl,g5⟩,p5⟩;have kr :=p5.of_drew)
      | (go_at_call 8;(with_reducible refine (h8 _ _ _ _ _ g5).mono ?_);rintro r w6 ⟨rfl,p6⟩;replace kr :=kt kr p6;have S :=S0.kept (kt K4 kr);obtain ⟨⟨u0,i0⟩,⟨u1,i1⟩,sf⟩ :=id S;have f0 :=sf 0;have f1 :=sf 1;have i2 :=cs_ne (u :=.string sY) i1 (b' :=w.heap.size + 1) (o' :=0) (by omega)))
    all_goals first
      | exact ⟨_,results_23 (r :=w.heap.size + 1) rfl rfl (put2_0 S _ _) (put2_1 S _ _),⟨Y,by rw [HY.out.1],HY.out.2⟩,(kt k0 (kt K4 kr)).keptNew (put2_chg _ _ _ _) fun b' _ h => by omega⟩
      | omega
end Go.Proofs.YtfmmdamgcpiciaaGreatDoor
namespace Go.Proofs.YtfmmdamgcpiciaaGreatDoor
open Go Go.RowKit
theorem Dig.setN {w w' : World} {s : Option Addr} {n c X r : Nat} {u : Value} (h : Dig w s n c X) (hr : w.cell? ⟨r,0,none⟩ = some u) (hu : ∀ k z,u ≠ .int k z) (kc : Chg w w' fun p _ => p = r) : Dig w' s n c X :=by
  obtain ⟨xs,h1,h2,h3,h4,h5,h6⟩ :=h
  refine ⟨xs,h1,h2,h3,h4,?_,h6⟩
  rcases h5 with h | ⟨g,rfl,h⟩
  · exact .inl h
  · rcases Nat.eq_zero_or_pos xs.length with h0 | h0
    · exact .inl (List.eq_nil_of_length_eq_zero h0)
    · refine .inr ⟨g,rfl,h.chg kc fun j _ e => ?_⟩
      have :=h 0 xs[0] (List.getElem?_eq_getElem h0)
      rw [e,Nat.zero_add,hr] at this
      exact hu _ _ (Option.some.inj this)
theorem Slot.chg {w w' : World} {M : Nat → Nat → Prop} {b : Nat} (h : Slot w b) (hc : Chg w w' M) (hM : ∀ o,¬ M b o) : Slot w' b :=by
  obtain ⟨⟨u,h0⟩,⟨v,h1⟩,hf⟩ :=h
  exact ⟨⟨u,hc.at h0 (hM 0)⟩,⟨v,hc.at h1 (hM 1)⟩,hf.chg (lt_of_cell h0) hc⟩
theorem Slot3.chg {w w' : World} {M : Nat → Nat → Prop} {b : Nat} (h : Slot3 w b) (hc : Chg w w' M) (hM : ∀ o,¬ M b o) : Slot3 w' b :=by
  obtain ⟨⟨u,h0⟩,⟨v,h1⟩,⟨t,h2⟩,hf⟩ :=h
  exact ⟨⟨u,hc.at h0 (hM 0)⟩,⟨v,hc.at h1 (hM 1)⟩,⟨t,hc.at h2 (hM 2)⟩,hf.chg (lt_of_cell h0) hc⟩
structure PC (w : World) (p : Nat) (x y : Value) : Prop where
  c0 : w.cell? ⟨p,0,none⟩ = some x
  c1 : w.cell? ⟨p,1,none⟩ = some y
  nf : NF w p
theorem PC.slot {w : World} {p : Nat} {x y : Value} (h : PC w p x y) : Slot w p :=⟨⟨x,h.c0⟩,⟨y,h.c1⟩,h.nf⟩
theorem PC.kept {w w' : World} {p : Nat} {x y : Value} (h : PC w p x y) (k : Kept w w') : PC w' p x y :=⟨Kept.at k h.c0,Kept.at k h.c1,h.nf.chg (lt_of_cell h.c0) k⟩
theorem PC.chg {w w' : World} {M : Nat → Nat → Prop} {p : Nat} {x y : Value} (h : PC w p x y) (k : Chg w w' M) (hM : ∀ o,¬ M p o) : PC w' p x y :=⟨k.at h.c0 (hM 0),k.at h.c1 (hM 1),h.nf.chg (lt_of_cell h.c0) k⟩
theorem PC.put {w : World} {p : Nat} (S : Slot w p) (x y : Value) : PC (put2 w p x y) p x y :=⟨put2_0 S x y,put2_1 S x y,by obtain ⟨⟨u,h0⟩,_,hf⟩ :=id S;exact hf.chg (lt_of_cell h0) (put2_chg w p x y)⟩
theorem results_23_30 {fn : Func} {t u r q : Nat} {tmps : Array Value} {w : World} {x y a b c : Value} (h : fn.results = #[.cell t 23,.cell u 30]) (hp : tmps.getD t undef = ptr r) (hq : tmps.getD u undef = ptr q) (h0 : w.cell? ⟨r,0,none⟩ = some x) (h1 : w.cell? ⟨r,1,none⟩ = some y) (hc : w.cell? ⟨q,0,none⟩ = some a ∧ w.cell? ⟨q,1,none⟩ = some b ∧ w.cell? ⟨q,2,none⟩ = some c) :
    (results fn tmps).run Tryz.prog w = .ok (.tuple #[.agg #[x,y],.agg #[a,b,c]]) w :=by
  obtain ⟨h2,h3,h4⟩ :=hc
  obtain ⟨i0,hi,hz0,hz1,hz2⟩ :=info_parts info23
  obtain ⟨i1,hi',hz0',hz1',hz2'⟩ :=info_parts info30
  have hp' : tmps[t]?.getD undef = ptr r :=by simpa using hp
  have hq' : tmps[u]?.getD undef = ptr q :=by simpa using hq
  simp [results,h,hp',hq',go_sem,hi,hz1,hi',hz1',h0,h1,h2,h3,h4]
theorem arAngle (w : World) (s : ByteArray) (e : Int) (hlen : s.size ≤ 2147483647) : Calls Tryz.prog 6 #[pd (.string s) e] w fun r w' => (∃ (Y : Int) (k : Nat),k ≤ 18 ∧ Y.natAbs < 10 ^ (k + 1) ∧ ∃ fv,r = .returned (.tuple #[pd (str (txt Y)) (-(k : Int)),fv]) ∧ FV w' fv Y (10 ^ k)) ∧ Kept w w' :=by
  have h26 :=fun W => decFit W s e hlen
  have k1 : Kept w (w.alloc (.cells #[.string s,.int .i64 e] 23)) :=Chg.alloc _ _ _
  have k2 : Kept (w.alloc (.cells #[.string s,.int .i64 e] 23)) ((w.alloc (.cells #[.string s,.int .i64 e] 23)).alloc (.cells #[.string { data :=#[] },.int .i64 0] 23)) :=Chg.alloc _ _ _
  have k3 : Kept ((w.alloc (.cells #[.string s,.int .i64 e] 23)).alloc (.cells #[.string { data :=#[] },.int .i64 0] 23)) (((w.alloc (.cells #[.string s,.int .i64 e] 23)).alloc (.cells #[.string { data :=#[] },.int .i64 0] 23)).alloc (.cells #[.bool false,.slice none 0 0,.slice none 0 0] 30)) :=Chg.alloc _ _ _
  have a0 : (w.alloc (.cells #[.string s,.int .i64 e] 23)).cell? ⟨w.heap.size,0,none⟩ = some (.string s) :=by rw [World.cell?_alloc_at _ _ _ _ rfl];rfl
  have a1 : (w.alloc (.cells #[.string s,.int .i64 e] 23)).cell? ⟨w.heap.size,1,none⟩ = some (.int .i64 e) :=by rw [World.cell?_alloc_at _ _ _ _ rfl];rfl
  have P1 : PC (((w.alloc (.cells #[.string s,.int .i64 e] 23)).alloc (.cells #[.string { data :=#[] },.int .i64 0] 23)).alloc (.cells #[.bool false,.slice none 0 0,.slice none 0 0] 30)) w.heap.size (.string s) (.int .i64 e) :=PC.kept ⟨a0,a1,NF.made w _ _⟩ (kt k2 k3)
  have S2 :=(slot23 (w.alloc (.cells #[.string s,.int .i64 e] 23)) (.string { data :=#[] }) (.int .i64 0)).kept k3
  have S3 :=slot3_made ((w.alloc (.cells #[.string s,.int .i64 e] 23)).alloc (.cells #[.string { data :=#[] },.int .i64 0] 23)) (.bool false) (.slice none 0 0) (.slice none 0 0) 30
  have rb :=(box3_cells ((w.alloc (.cells #[.string s,.int .i64 e] 23)).alloc (.cells #[.string { data :=#[] },.int .i64 0] 23)) (.bool false) (.slice none 0 0) (.slice none 0 0) 30).1
  have rs :=Kept.at k3 (show ((w.alloc (.cells #[.string s,.int .i64 e] 23)).alloc (.cells #[.string { data :=#[] },.int .i64 0] 23)).cell? ⟨(w.alloc (.cells #[.string s,.int .i64 e] 23)).heap.size,0,none⟩ = some (.string { data :=#[] }) by rw [World.cell?_alloc_at _ _ _ _ rfl];rfl)
  have e1 : (w.alloc (.cells #[.string s,.int .i64 e] 23)).heap.size = w.heap.size + 1 :=by simp
  have e2 : ((w.alloc (.cells #[.string s,.int .i64 e] 23)).alloc (.cells #[.string { data :=#[] },.int .i64 0] 23)).heap.size = w.heap.size + 2 :=by simp
  rw [e1] at S2 rs
  rw [e2] at S3 rb
  have k0 :=kt k1 (kt k2 k3)
  obtain ⟨W,hW⟩ : ∃ W,(((w.alloc (.cells #[.string s,.int .i64 e] 23)).alloc (.cells #[.string { data :=#[] },.int .i64 0] 23)).alloc (.cells #[.bool false,.slice none 0 0,.slice none 0 0] 30)) = W :=⟨_,rfl⟩
  rw [hW] at P1 S2 S3 rb rs k0
  have HW :=Lib.hid hW
  clear hW k1 k2 k3 a0 a1 e1 e2 hlen
  obtain ⟨b0,b1,bf⟩ :=id P1
  go_enter Tryz.func6,Tryz.ntmps6
  go_upto_region 1 with fail
  rw [HW.out]
  go_upto_region 2 with (go_at_call 26;(with_reducible refine (h26 _).mono ?_);rintro r w1 ⟨⟨Z,E0,rfl,hZ,hE1,hE2⟩,p1⟩;obtain ⟨sZ,hsZ⟩ : ∃ s,str (txt Z) = .string s :=⟨_,rfl⟩;rw [hsZ];have P2 :=P1.kept p1;obtain ⟨u0,u1,uf⟩ :=id P2;have f0 :=uf 0;have f1 :=uf 1;have u2 :=cs_ne (u :=.string sZ) u1 (b' :=w.heap.size) (o' :=0) (by omega))
  obtain ⟨W2,hW2⟩ : ∃ W,(w1.setCell ⟨w.heap.size,0,none⟩ (.string sZ)).setCell ⟨w.heap.size,1,none⟩ (.int .i64 E0) = W :=⟨_,rfl⟩
  have P3 : PC W2 w.heap.size (.string sZ) (.int .i64 E0) :=hW2 ▸ PC.put P2.slot _ _
  have S4 : Slot W2 (w.heap.size + 1) :=hW2 ▸ (S2.kept p1).chg (put2_chg w1 w.heap.size _ _) fun o => by omega
  have S5 : Slot3 W2 (w.heap.size + 2) :=hW2 ▸ (S3.kept p1).chg (put2_chg w1 w.heap.size _ _) fun o => by omega
  have rb2 : W2.cell? ⟨w.heap.size + 2,0,none⟩ = some (.bool false) :=hW2 ▸ (put2_chg w1 w.heap.size _ _).at (Kept.at p1 rb) (by omega)
  have rs2 : W2.cell? ⟨w.heap.size + 1,0,none⟩ = some (.string { data :=#[] }) :=hW2 ▸ (put2_chg w1 w.heap.size _ _).at (Kept.at p1 rs) (by omega)
  have K2 : Kept w W2 :=hW2 ▸ (kt k0 p1).keptNew (put2_chg w1 w.heap.size _ _) fun b' _ h => by omega
  rw [hW2]
  clear hW2 P2 u0 u1 u2 uf f0 f1 b0 b1 bf P1 S2 S3 rb rs p1 k0 HW
  obtain ⟨b0,b1,bf⟩ :=id P3
  by_cases hpos : 0 < E0
  · obtain ⟨E,hE⟩ : ∃ E : Int,-E0 = E :=⟨_,rfl⟩
    obtain ⟨k,hk⟩ : ∃ k : Nat,(E : Int) = -(k : Int) :=⟨(E : Int).natAbs,by omega⟩
    have hk18 : k ≤ 18 :=by omega
    have h27 : ∀ W,Calls Tryz.prog 27 #[pd (.string sZ) (E),.int .i64 1] W fun r w' => (∃ Y : Int,r = .returned (pd (str (txt Y)) (E)) ∧ Y.natAbs < 10 ^ (k + 1)) ∧ Kept W w' :=fun W => by
      have :=decSmall W Z k hZ hk18
      rw [hsZ,← hk] at this
      exact this
    have HK :=Lib.hid hk
    clear hk
    have c2 :=Chg.setCell W2 w.heap.size 1 (.int .i64 E) (fun b _ => b = w.heap.size) fun _ => rfl
    have f1 :=bf 1
    go_upto_region 4 with fail
    obtain ⟨W3,hW3⟩ : ∃ W,W2.setCell ⟨w.heap.size,1,none⟩ (.int .i64 E) = W :=⟨_,rfl⟩
    rw [hW3] at c2 ⊢
    have P3 : PC W3 w.heap.size (.string sZ) (.int .i64 E) :=⟨hW3 ▸ cs_ne b0 (by omega),hW3 ▸ cell_setCell_eq b1,P3.nf.chg (lt_of_cell b0) c2⟩
    have S4 :=S4.chg c2 fun o => by omega
    have S5 :=S5.chg c2 fun o => by omega
    have rb2 :=c2.at rb2 (by omega)
    have rs2 :=c2.at rs2 (by omega)
    have K2 :=K2.keptNew c2 fun b' _ h => by omega
    clear hW3 c2 f1 b0 b1 bf
    obtain ⟨b0,b1,bf⟩ :=id P3
    go_upto_region 5 with (go_at_call 27;(with_reducible refine (h27 _).mono ?_);rintro r w3 ⟨⟨Y,rfl,hY⟩,p3⟩;obtain ⟨sY,hsY⟩ : ∃ s,str (txt Y) = .string s :=⟨_,rfl⟩;rw [hsY];have P4 :=P3.kept p3;obtain ⟨u0,u1,uf⟩ :=id P4;have f0 :=uf 0;have f1 :=uf 1;have u2 :=cs_ne (u :=.string sY) u1 (b' :=w.heap.size) (o' :=0) (by omega))
    obtain ⟨W4,hW4⟩ : ∃ W,(w3.setCell ⟨w.heap.size,0,none⟩ (.string sY)).setCell ⟨w.heap.size,1,none⟩ (.int .i64 (E)) = W :=⟨_,rfl⟩
    have P5 : PC W4 w.heap.size (.string sY) (.int .i64 (E)) :=hW4 ▸ PC.put P4.slot _ _
    have S6 : Slot W4 (w.heap.size + 1) :=hW4 ▸ (S4.kept p3).chg (put2_chg w3 w.heap.size _ _) fun o => by omega
    have S7 : Slot3 W4 (w.heap.size + 2) :=hW4 ▸ (S5.kept p3).chg (put2_chg w3 w.heap.size _ _) fun o => by omega
    have rb3 : W4.cell? ⟨w.heap.size + 2,0,none⟩ = some (.bool false) :=hW4 ▸ (put2_chg w3 w.heap.size _ _).at (Kept.at p3 rb2) (by omega)
    have rs3 : W4.cell? ⟨w.heap.size + 1,0,none⟩ = some (.string { data :=#[] }) :=hW4 ▸ (put2_chg w3 w.heap.size _ _).at (Kept.at p3 rs2) (by omega)
    have K4 : Kept w W4 :=hW4 ▸ (kt K2 p3).keptNew (put2_chg w3 w.heap.size _ _) fun b' _ h => by omega
    rw [hW4]
    clear hW4 P4 u0 u1 u2 uf f0 f1 b0 b1 bf P3 S4 S5 rb2 rs2 p3 K2 h26 h27
    have h14 : ∀ W,Calls Tryz.prog 14 #[pd (.string sY) (E)] W fun r w' => (∃ v',r = .returned v' ∧ FV w' v' Y (10 ^ k)) ∧ Kept W w' :=fun W => by
      have :=fracOf W Y k (Nat.lt_of_lt_of_le hY (Nat.pow_le_pow_right (by decide) (by omega))) (by omega)
      rw [hsY,← HK.out] at this
      exact this
    obtain ⟨d,hd⟩ : ∃ b,decide (Y < 0) = b :=⟨_,rfl⟩
    have HY :=Lib.hid (And.intro hY (And.intro hsY (And.intro HK.out hk18)))
    clear hY hsY hk18 hZ hsZ HK
    obtain ⟨b0,b1,bf⟩ :=id P5
    go_wp2_with (first
      | (refine wp_region_lit_segs (id :=5) [[0,1,2],[3,4]] mixed (by kernel_rfl) ?_;simp only [wpSegsL,gaC,gaN,lZ0,lS0,coS])
      | refine ⟨by kernel_rfl,?_⟩
      | (refine ⟨by kernel_rfl,Chg.old p5,?_⟩)
      | (refine ⟨Chg.old p5,?_⟩)
      | (go_at_call 14;(with_reducible refine (h14 _).mono ?_);rintro r w5 ⟨⟨v5,rfl,s5,n5,c5,s6,n6,c6,rfl,d5,d6⟩,p5⟩;rw [hd];have T6 :=S6.kept p5.of_drew;obtain ⟨⟨i0,j0⟩,⟨i1,j1⟩,jf⟩ :=id T6;have f0 :=jf 0;have f1 :=jf 1;have j2 :=cs_ne (u :=.string sY) j1 (b' :=w.heap.size + 1) (o' :=0) (by omega);have T7 :=(S7.kept p5.of_drew).chg (put2_chg w5 (w.heap.size + 1) (.string sY) (.int .i64 (E))) (fun o => by omega);obtain ⟨⟨m0,x0⟩,⟨m1,x1,t1⟩,⟨m2,x2,t2⟩,g0,g1,g2⟩ :=T7.use))
    have c1 :=put2_chg w5 (w.heap.size + 1) (.string sY) (.int .i64 (E))
    have c2 :=put3_chg (put2 w5 (w.heap.size + 1) (.string sY) (.int .i64 (E))) (w.heap.size + 2) (.bool d) (.slice s5 n5 c5) (.slice s6 n6 c6)
    have rs4 :=Kept.at p5.of_drew rs3
    have rb4 :=c1.at (Kept.at p5.of_drew rb3) (by omega)
    have Q :=PC.put T6 (.string sY) (.int .i64 (E))
    have Q2 :=Q.chg c2 fun o => by omega
    have D5 :=(d5.setN rs4 (fun _ _ h => by cases h) c1).set rb4 c2
    have D6 :=(d6.setN rs4 (fun _ _ h => by cases h) c1).set rb4 c2
    have KE :=((kt K4 p5.of_drew).keptNew c1 fun b' _ h => by omega).keptNew c2 fun b' _ h => by omega
    obtain ⟨hY,hsY,hk,hk18⟩ :=HY.out
    refine ⟨_,results_23_30 (r :=w.heap.size + 1) (q :=w.heap.size + 2) rfl rfl rfl Q2.c0 Q2.c1 (put3_cells T7 _ _ _),?_,KE⟩
    exact ⟨Y,k,hk18,hY,.agg #[.bool d,.slice s5 n5 c5,.slice s6 n6 c6],by rw [hsY,← hk],s5,n5,c5,s6,n6,c6,by rw [hd],D5,D6⟩
  · skip
    obtain ⟨k,hk⟩ : ∃ k : Nat,(E0 : Int) = -(k : Int) :=⟨(E0 : Int).natAbs,by omega⟩
    have hk18 : k ≤ 18 :=by omega
    have h27 : ∀ W,Calls Tryz.prog 27 #[pd (.string sZ) (E0),.int .i64 1] W fun r w' => (∃ Y : Int,r = .returned (pd (str (txt Y)) (E0)) ∧ Y.natAbs < 10 ^ (k + 1)) ∧ Kept W w' :=fun W => by
      have :=decSmall W Z k hZ hk18
      rw [hsZ,← hk] at this
      exact this
    have HK :=Lib.hid hk
    clear hk
    obtain ⟨b0,b1,bf⟩ :=id P3
    go_upto_region 5 with (go_at_call 27;(with_reducible refine (h27 _).mono ?_);rintro r w3 ⟨⟨Y,rfl,hY⟩,p3⟩;obtain ⟨sY,hsY⟩ : ∃ s,str (txt Y) = .string s :=⟨_,rfl⟩;rw [hsY];have P4 :=P3.kept p3;obtain ⟨u0,u1,uf⟩ :=id P4;have f0 :=uf 0;have f1 :=uf 1;have u2 :=cs_ne (u :=.string sY) u1 (b' :=w.heap.size) (o' :=0) (by omega))
    obtain ⟨W4,hW4⟩ : ∃ W,(w3.setCell ⟨w.heap.size,0,none⟩ (.string sY)).setCell ⟨w.heap.size,1,none⟩ (.int .i64 (E0)) = W :=⟨_,rfl⟩
    have P5 : PC W4 w.heap.size (.string sY) (.int .i64 (E0)) :=hW4 ▸ PC.put P4.slot _ _
    have S6 : Slot W4 (w.heap.size + 1) :=hW4 ▸ (S4.kept p3).chg (put2_chg w3 w.heap.size _ _) fun o => by omega
    have S7 : Slot3 W4 (w.heap.size + 2) :=hW4 ▸ (S5.kept p3).chg (put2_chg w3 w.heap.size _ _) fun o => by omega
    have rb3 : W4.cell? ⟨w.heap.size + 2,0,none⟩ = some (.bool false) :=hW4 ▸ (put2_chg w3 w.heap.size _ _).at (Kept.at p3 rb2) (by omega)
    have rs3 : W4.cell? ⟨w.heap.size + 1,0,none⟩ = some (.string { data :=#[] }) :=hW4 ▸ (put2_chg w3 w.heap.size _ _).at (Kept.at p3 rs2) (by omega)
    have K4 : Kept w W4 :=hW4 ▸ (kt K2 p3).keptNew (put2_chg w3 w.heap.size _ _) fun b' _ h => by omega
    rw [hW4]
    clear hW4 P4 u0 u1 u2 uf f0 f1 b0 b1 bf P3 S4 S5 rb2 rs2 p3 K2 h26 h27
    have h14 : ∀ W,Calls Tryz.prog 14 #[pd (.string sY) (E0)] W fun r w' => (∃ v',r = .returned v' ∧ FV w' v' Y (10 ^ k)) ∧ Kept W w' :=fun W => by
      have :=fracOf W Y k (Nat.lt_of_lt_of_le hY (Nat.pow_le_pow_right (by decide) (by omega))) (by omega)
      rw [hsY,← HK.out] at this
      exact this
    obtain ⟨d,hd⟩ : ∃ b,decide (Y < 0) = b :=⟨_,rfl⟩
    have HY :=Lib.hid (And.intro hY (And.intro hsY (And.intro HK.out hk18)))
    clear hY hsY hk18 hZ hsZ HK
    obtain ⟨b0,b1,bf⟩ :=id P5
    go_wp2_with (first
      | (refine wp_region_lit_segs (id :=5) [[0,1,2],[3,4]] mixed (by kernel_rfl) ?_;simp only [wpSegsL,gaC,gaN,lZ0,lS0,coS])
      | refine ⟨by kernel_rfl,?_⟩
      | (refine ⟨by kernel_rfl,Chg.old p5,?_⟩)
      | (refine ⟨Chg.old p5,?_⟩)
      | (go_at_call 14;(with_reducible refine (h14 _).mono ?_);rintro r w5 ⟨⟨v5,rfl,s5,n5,c5,s6,n6,c6,rfl,d5,d6⟩,p5⟩;rw [hd];have T6 :=S6.kept p5.of_drew;obtain ⟨⟨i0,j0⟩,⟨i1,j1⟩,jf⟩ :=id T6;have f0 :=jf 0;have f1 :=jf 1;have j2 :=cs_ne (u :=.string sY) j1 (b' :=w.heap.size + 1) (o' :=0) (by omega);have T7 :=(S7.kept p5.of_drew).chg (put2_chg w5 (w.heap.size + 1) (.string sY) (.int .i64 (E0))) (fun o => by omega);obtain ⟨⟨m0,x0⟩,⟨m1,x1,t1⟩,⟨m2,x2,t2⟩,g0,g1,g2⟩ :=T7.use))
    have c1 :=put2_chg w5 (w.heap.size + 1) (.string sY) (.int .i64 (E0))
    have c2 :=put3_chg (put2 w5 (w.heap.size + 1) (.string sY) (.int .i64 (E0))) (w.heap.size + 2) (.bool d) (.slice s5 n5 c5) (.slice s6 n6 c6)
    have rs4 :=Kept.at p5.of_drew rs3
    have rb4 :=c1.at (Kept.at p5.of_drew rb3) (by omega)
    have Q :=PC.put T6 (.string sY) (.int .i64 (E0))
    have Q2 :=Q.chg c2 fun o => by omega
    have D5 :=(d5.setN rs4 (fun _ _ h => by cases h) c1).set rb4 c2
    have D6 :=(d6.setN rs4 (fun _ _ h => by cases h) c1).set rb4 c2
    have KE :=((kt K4 p5.of_drew).keptNew c1 fun b' _ h => by omega).keptNew c2 fun b' _ h => by omega
    obtain ⟨hY,hsY,hk,hk18⟩ :=HY.out
    refine ⟨_,results_23_30 (r :=w.heap.size + 1) (q :=w.heap.size + 2) rfl rfl rfl Q2.c0 Q2.c1 (put3_cells T7 _ _ _),?_,KE⟩
    exact ⟨Y,k,hk18,hY,.agg #[.bool d,.slice s5 n5 c5,.slice s6 n6 c6],by rw [hsY,← hk],s5,n5,c5,s6,n6,c6,by rw [hd],D5,D6⟩
end Go.Proofs.YtfmmdamgcpiciaaGreatDoor
namespace Go.Proofs.YtfmmdamgcpiciaaGreatDoor
open Go Go.RowKit
theorem zzFits_big (w : World) (s : ByteArray) (e : Int) (h : 2147483647 < s.size) : Calls Tryz.prog 5 #[pd (.string s) e] w fun r w' => r = .returned (.bool false) ∧ Kept w w' :=by
  have kA : Kept w (Box23 w (.string s) (.int .i64 e)) :=Chg.alloc _ _ _
  have c0 : (Box23 w (.string s) (.int .i64 e)).cell? ⟨w.heap.size,0,none⟩ = some (.string s) :=by rw [World.cell?_alloc_at _ _ _ _ rfl];rfl
  obtain ⟨n,hn⟩ : ∃ n : Int,(s.size : Int) = n :=⟨_,rfl⟩
  have h2 : 2147483647 < n :=by omega
  go_enter Tryz.func5,Tryz.ntmps5
  go_wp2
  first | go_ret | refine ⟨_,results_tmp rfl _ _ _,?_⟩
  exact ⟨rfl,kA⟩
abbrev RF (W : World) (N : Int) (D : Nat) : Ending → World → Prop :=fun r w' => (∃ b s n c s2 n2 c2,r = .returned (.agg #[.bool b,.slice s n c,.slice s2 n2 c2]) ∧ Hid (FV w' (.agg #[.bool b,.slice s n c,.slice s2 n2 c2]) N D)) ∧ Kept W w'
theorem toRF {f : FuncId} {args : Array Value} {W : World} {N : Int} {D : Nat} (h : Calls Tryz.prog f args W fun r w' => (∃ v,r = .returned v ∧ FV w' v N D) ∧ Kept W w') : Calls Tryz.prog f args W (RF W N D) :=
  h.mono (by
    rintro r w' ⟨⟨v,rfl,s,n,c,s2,n2,c2,rfl,d⟩,k⟩
    exact ⟨⟨_,s,n,c,s2,n2,c2,rfl,Lib.hid ⟨s,n,c,s2,n2,c2,rfl,d⟩⟩,k⟩)
theorem PC.made (w : World) (x y : Value) : PC (w.alloc (.cells #[x,y] 23)) w.heap.size x y :=⟨by rw [World.cell?_alloc_at _ _ _ _ rfl];rfl,by rw [World.cell?_alloc_at _ _ _ _ rfl];rfl,NF.made w _ _⟩
theorem PC.madeK {w w' : World} {x y : Value} (k : Kept (w.alloc (.cells #[x,y] 23)) w') : PC w' w.heap.size x y :=(PC.made w x y).kept k
theorem PC.madeD {w w' : World} {x y : Value} (k : Kept (w.alloc (.cells #[x,y] 23)).drew w') : PC w' w.heap.size x y :=(PC.made w x y).kept k.of_drew
theorem PC.step {w : World} {p : Nat} {x y : Value} (h : PC w p x y) (u : Value) : (w.setCell ⟨p,0,none⟩ u).cell? ⟨p,1,none⟩ = some y :=cs_ne h.c1 (by omega)
def PN (W w : World) (p : Nat) (x y : Value) : Prop :=PC w p x y ∧ W.heap.size ≤ p
theorem PN.made {W v w : World} {x y : Value} (kr : Kept W v) (p : Kept (v.alloc (.cells #[x,y] 23)) w) : PN W w v.heap.size x y :=⟨PC.madeK p,Chg.size kr⟩
theorem PN.madeD {W w : World} {x y : Value} (p : Kept (W.alloc (.cells #[x,y] 23)).drew w) : PN W w W.heap.size x y :=⟨PC.madeD p,Nat.le_refl _⟩
theorem PN.kept {W v w : World} {b : Nat} {x y : Value} (h : PN W v b x y) (k : Kept v w) : PN W w b x y :=⟨h.1.kept k,h.2⟩
theorem PN.put {W w : World} {b : Nat} {x y : Value} (h : PN W w b x y) (kr : Kept W w) (x' y' : Value) : PC (put2 w b x' y') b x' y' ∧ Kept W (put2 w b x' y') :=⟨PC.put h.1.slot x' y',kr.keptNew (put2_chg w b x' y') fun b' _ hb => by have :=h.2;omega⟩
end Go.Proofs.YtfmmdamgcpiciaaGreatDoor
namespace Go.Proofs.YtfmmdamgcpiciaaGreatDoor
open Go Go.RowKit
structure Four3 (w W : World) (x y z x' y' z' a b c a' b' c' : Value) : Prop where
  k : Kept w W
  s : W.heap.size = w.heap.size + 4
  a0 : W.cell? ⟨w.heap.size,0,none⟩ = some x
  a1 : W.cell? ⟨w.heap.size,1,none⟩ = some y
  a2 : W.cell? ⟨w.heap.size,2,none⟩ = some z
  b0 : W.cell? ⟨w.heap.size + 1,0,none⟩ = some x'
  b1 : W.cell? ⟨w.heap.size + 1,1,none⟩ = some y'
  b2 : W.cell? ⟨w.heap.size + 1,2,none⟩ = some z'
  c0 : W.cell? ⟨w.heap.size + 2,0,none⟩ = some a
  c1 : W.cell? ⟨w.heap.size + 2,1,none⟩ = some b
  c2 : W.cell? ⟨w.heap.size + 2,2,none⟩ = some c
  d0 : W.cell? ⟨w.heap.size + 3,0,none⟩ = some a'
  d1 : W.cell? ⟨w.heap.size + 3,1,none⟩ = some b'
  d2 : W.cell? ⟨w.heap.size + 3,2,none⟩ = some c'
theorem four3 (w : World) (x y z x' y' z' a b c a' b' c' : Value) : Four3 w ((((w.alloc (.cells #[x,y,z] 30)).alloc (.cells #[x',y',z'] 30)).alloc (.cells #[a,b,c] 30)).alloc (.cells #[a',b',c'] 30)) x y z x' y' z' a b c a' b' c' :=by
  obtain ⟨k,a0,a1,a2,b0,b1,b2⟩ :=two3 w x y z x' y' z'
  obtain ⟨k',c0,c1,c2,d0,d1,d2⟩ :=two3 ((w.alloc (.cells #[x,y,z] 30)).alloc (.cells #[x',y',z'] 30)) a b c a' b' c'
  have e2 : ((w.alloc (.cells #[x,y,z] 30)).alloc (.cells #[x',y',z'] 30)).heap.size = w.heap.size + 2 :=by simp
  rw [e2] at c0 c1 c2 d0 d1 d2
  exact ⟨kt k k',by simp,Kept.at k' a0,Kept.at k' a1,Kept.at k' a2,Kept.at k' b0,Kept.at k' b1,Kept.at k' b2,c0,c1,c2,d0,d1,d2⟩
theorem Four3.kept {w W W' : World} {x y z x' y' z' a b c a' b' c' : Value} (h : Four3 w W x y z x' y' z' a b c a' b' c') (k : Kept W W') : Kept w W' ∧ W'.cell? ⟨w.heap.size,0,none⟩ = some x ∧ W'.cell? ⟨w.heap.size,1,none⟩ = some y ∧ W'.cell? ⟨w.heap.size,2,none⟩ = some z ∧ W'.cell? ⟨w.heap.size + 1,0,none⟩ = some x' ∧ W'.cell? ⟨w.heap.size + 1,1,none⟩ = some y' ∧ W'.cell? ⟨w.heap.size + 1,2,none⟩ = some z' ∧ W'.cell? ⟨w.heap.size + 1 + 1,0,none⟩ = some a ∧ W'.cell? ⟨w.heap.size + 1 + 1,1,none⟩ = some b ∧ W'.cell? ⟨w.heap.size + 1 + 1,2,none⟩ = some c ∧ W'.cell? ⟨w.heap.size + 1 + 1 + 1,0,none⟩ = some a' ∧ W'.cell? ⟨w.heap.size + 1 + 1 + 1,1,none⟩ = some b' ∧ W'.cell? ⟨w.heap.size + 1 + 1 + 1,2,none⟩ = some c' :=
  ⟨kt h.k k,Kept.at k h.a0,Kept.at k h.a1,Kept.at k h.a2,Kept.at k h.b0,Kept.at k h.b1,Kept.at k h.b2,Kept.at k h.c0,Kept.at k h.c1,Kept.at k h.c2,Kept.at k h.d0,Kept.at k h.d1,Kept.at k h.d2⟩
theorem box3At {w w' : World} {x y z : Value} (k : Kept (w.alloc (.cells #[x,y,z] 30)) w') : w'.cell? ⟨w.heap.size,0,none⟩ = some x ∧ w'.cell? ⟨w.heap.size,1,none⟩ = some y ∧ w'.cell? ⟨w.heap.size,2,none⟩ = some z :=by
  obtain ⟨a0,a1,a2⟩ :=box3_cells w x y z 30
  exact ⟨Kept.at k a0,Kept.at k a1,Kept.at k a2⟩
structure PN3 (W w : World) (p : Nat) (x y z : Value) : Prop where
  c0 : w.cell? ⟨p,0,none⟩ = some x
  c1 : w.cell? ⟨p,1,none⟩ = some y
  c2 : w.cell? ⟨p,2,none⟩ = some z
  nf : NF w p
  ge : W.heap.size ≤ p
theorem PN3.kept {W v w : World} {p : Nat} {x y z : Value} (h : PN3 W v p x y z) (k : Kept v w) : PN3 W w p x y z :=⟨Kept.at k h.c0,Kept.at k h.c1,Kept.at k h.c2,h.nf.chg (lt_of_cell h.c0) k,h.ge⟩
theorem PN3.new {W v : World} {x y z : Value} (k : Kept W v) : PN3 W (v.alloc (.cells #[x,y,z] 30)) v.heap.size x y z :=
  ⟨(box3_cells v x y z 30).1,(box3_cells v x y z 30).2.1,(box3_cells v x y z 30).2.2,NF.made v _ _,Chg.size k⟩
theorem PN3.made {W v w : World} {x y z : Value} (k : Kept W v) (p : Kept (v.alloc (.cells #[x,y,z] 30)) w) : PN3 W w v.heap.size x y z :=(PN3.new k).kept p
theorem PN3.madeD {W w : World} {x y z : Value} (p : Kept (W.alloc (.cells #[x,y,z] 30)).drew w) : PN3 W w W.heap.size x y z :=(PN3.new (Chg.refl _ _)).kept p.of_drew
theorem PN3.slot {W w : World} {p : Nat} {x y z : Value} (h : PN3 W w p x y z) : Slot3 w p :=⟨⟨_,h.c0⟩,⟨_,h.c1⟩,⟨_,h.c2⟩,h.nf⟩
theorem PN3.put {W w : World} {p : Nat} {x y z : Value} (h : PN3 W w p x y z) (k : Kept W w) (x' y' z' : Value) : PN3 W (put3 w p x' y' z') p x' y' z' ∧ Kept W (put3 w p x' y' z') :=
  ⟨⟨(put3_cells h.slot x' y' z').1,(put3_cells h.slot x' y' z').2.1,(put3_cells h.slot x' y' z').2.2,h.nf.chg (lt_of_cell h.c0) (put3_chg _ _ _ _ _),h.ge⟩,k.keptNew (put3_chg _ _ _ _ _) fun b' _ hb => by have :=h.ge;omega⟩
theorem FV.over {W w : World} {p : Nat} {b : Bool} {y z : Value} {v : Value} {N : Int} {D : Nat} (hf : FV w v N D) (h : PN3 W w p (.bool b) y z) (x' y' z' : Value) : FV (put3 w p x' y' z') v N D :=by
  obtain ⟨s,n,c,s2,n2,c2,rfl,d1,d2⟩ :=hf
  exact ⟨s,n,c,s2,n2,c2,rfl,d1.set h.c0 (put3_chg _ _ _ _ _),d2.set h.c0 (put3_chg _ _ _ _ _)⟩
theorem sinCosNear (w : World) (b1 b2 b3 b4 : Bool) (s1 t1 s2 t2 s3 t3 s4 t4 : Option Addr) (n1 c1 m1 d1 n2 c2 m2 d2 n3 c3 m3 d3 n4 c4 m4 d4 : Nat) (Y m N : Int) (k P D : Nat)
    (f1 : FV w (.agg #[.bool b1,.slice s1 n1 c1,.slice t1 m1 d1]) Y (10 ^ k)) (f2 : FV w (.agg #[.bool b2,.slice s2 n2 c2,.slice t2 m2 d2]) m P) (f3 : FV w (.agg #[.bool b3,.slice s3 n3 c3,.slice t3 m3 d3]) 1 1) (f4 : FV w (.agg #[.bool b4,.slice s4 n4 c4,.slice t4 m4 d4]) N D)
    (hk : k ≤ 18) (hY : Y.natAbs < 10 ^ (k + 1)) (hm : m.natAbs < 10 ^ 500) (hP : P < 10 ^ 500) (hN : N.natAbs < 10 ^ 2000) (hD : D < 10 ^ 2000)
    (hlaw : cmpZ (((sumC (Y * ((10 ^ (40 - k) : Nat) : Int)) * m * ((10 ^ 40 * 1 : Nat) : Int) - Plain.sumS (Y * ((10 ^ (40 - k) : Nat) : Int)) * 1 * ((10 ^ 40 * P : Nat) : Int)).natAbs : Int) * (D : Int)) (N * ((10 ^ 40 * P * (10 ^ 40 * 1) : Nat) : Int)) ≤ 0) :
    Calls Tryz.prog 22 #[.agg #[.bool b1,.slice s1 n1 c1,.slice t1 m1 d1],.agg #[.bool b2,.slice s2 n2 c2,.slice t2 m2 d2],.agg #[.bool b3,.slice s3 n3 c3,.slice t3 m3 d3],.agg #[.bool b4,.slice s4 n4 c4,.slice t4 m4 d4]] w fun r w' => r = .returned (.bool true) ∧ Kept w w' :=by
  have h11 :=fun W' (k' : Kept w W') => sinCos W' _ Y k (f1.kept k') hk hY
  have hxs : (Y * ((10 ^ (40 - k) : Nat) : Int)).natAbs ≤ 10 * Plain.D40 :=x_small hk hY
  obtain ⟨x,hx⟩ : ∃ x,Y * ((10 ^ (40 - k) : Nat) : Int) = x :=⟨_,rfl⟩
  rw [hx] at h11 hlaw hxs
  have hS130 : (Plain.sumS x).natAbs < 10 ^ 130 :=sums_sm hxs (Nat.le_refl _) Plain.sgS_le
  have hC130 : (sumC x).natAbs < 10 ^ 130 :=sums_sm hxs (Nat.le_refl _) Plain.sgC_le
  obtain ⟨S,hS⟩ : ∃ S,Plain.sumS x = S :=⟨_,rfl⟩
  obtain ⟨C,hC⟩ : ∃ S,sumC x = S :=⟨_,rfl⟩
  rw [hS] at h11 hlaw hS130
  rw [hC] at h11 hlaw hC130
  obtain ⟨Q,hQ⟩ : ∃ q,10 ^ 40 = q :=⟨_,rfl⟩
  rw [hQ] at hlaw
  have hQ41 : Q < 10 ^ 41 :=by rw [← hQ];decide +kernel
  have h17 : ∀ W',Calls Tryz.prog 17 #[.int .i64 40] W' fun e w' => (∃ v,e = .returned v ∧ NV w' v Q) ∧ Kept W' w' :=fun W' => by
    have :=natPow10 W' 40 (by decide)
    rw [hQ] at this;exact this
  have mulB : ∀ {a b : Nat} {p q : Nat},a < 10 ^ p → b < 10 ^ q → a * b < 10 ^ (p + q) :=fun h h' => by rw [Nat.pow_add];exact Nat.mul_lt_mul'' h h'
  have q1 : (C * m).natAbs < 10 ^ 630 :=by rw [Int.natAbs_mul];exact mulB hC130 hm
  have q2 : Q * P < 10 ^ 541 :=mulB hQ41 hP
  have q3 : (S * 1).natAbs < 10 ^ 130 :=by rw [Int.mul_one];exact hS130
  have q4 : Q * 1 < 10 ^ 41 :=by rw [Nat.mul_one];exact hQ41
  have q5 : (C * m * ((Q * 1 : Nat) : Int)).natAbs < 10 ^ 671 :=by rw [Int.natAbs_mul,Int.natAbs_natCast];exact mulB q1 q4
  have q6 : (S * 1 * ((Q * P : Nat) : Int)).natAbs < 10 ^ 671 :=by rw [Int.natAbs_mul,Int.natAbs_natCast];exact mulB q3 q2
  have q7 : (C * m * ((Q * 1 : Nat) : Int) - S * 1 * ((Q * P : Nat) : Int)).natAbs < 10 ^ 672 :=by
    have h2 : (10 : Nat) ^ 672 = 10 * 10 ^ 671 :=by rw [Nat.pow_succ,Nat.mul_comm]
    omega
  have q8 : Q * P * (Q * 1) < 10 ^ 582 :=mulB q2 q4
  have sm : ∀ {a : Nat} (p : Nat),a < 10 ^ p → p ≤ 3000 → Sm a :=fun p h h' => (Sm.of _ p h h').2
  have hA : ∀ W' b s n c s' n' c',Hid (WV W' (.agg #[.bool b,.slice s n c]) C) → Hid (Dig W' s' n' c' Q) → Kept w W' → Calls Tryz.prog 25 #[.agg #[.bool b,.slice s n c,.slice s' n' c'],.agg #[.bool b2,.slice s2 n2 c2,.slice t2 m2 d2]] W' (RF W' (C * m) (Q * P)) :=fun W' b s n c s' n' c' g1 g2 k' => toRF (fracMul W' _ _ C m Q P (FV.of g1 g2.out) (f2.kept k') (sm 130 hC130 (by decide)) (sm 500 hm (by decide)) (sm 41 hQ41 (by decide)) (sm 500 hP (by decide)))
  have hB : ∀ W' b s n c s' n' c',Hid (WV W' (.agg #[.bool b,.slice s n c]) S) → Hid (Dig W' s' n' c' Q) → Kept w W' → Calls Tryz.prog 25 #[.agg #[.bool b,.slice s n c,.slice s' n' c'],.agg #[.bool b3,.slice s3 n3 c3,.slice t3 m3 d3]] W' (RF W' (S * 1) (Q * 1)) :=fun W' b s n c s' n' c' g1 g2 k' => toRF (fracMul W' _ _ S 1 Q 1 (FV.of g1 g2.out) (f3.kept k') (sm 130 hS130 (by decide)) (Nat.one_lt_pow (by decide) (by decide)) (sm 41 hQ41 (by decide)) (Nat.one_lt_pow (by decide) (by decide)))
  obtain ⟨N1,hN1⟩ : ∃ N,C * m = N :=⟨_,rfl⟩
  obtain ⟨N2,hN2⟩ : ∃ N,S * 1 = N :=⟨_,rfl⟩
  obtain ⟨D1,hD1⟩ : ∃ N,Q * P = N :=⟨_,rfl⟩
  obtain ⟨D2,hD2⟩ : ∃ N,Q * 1 = N :=⟨_,rfl⟩
  rw [hN1,hD1] at hA
  rw [hN2,hD2] at hB
  rw [hN1,hN2,hD1,hD2] at hlaw q7
  rw [hN1,hD2] at q5
  rw [hN2,hD1] at q6
  rw [hD1,hD2] at q8
  rw [hN1] at q1
  rw [hN2] at q3
  rw [hD1] at q2
  rw [hD2] at q4
  have hE : ∀ W' b s n c s' n' c' b' u v v' x' y y',Hid (FV W' (.agg #[.bool b,.slice s n c,.slice s' n' c']) N1 D1) → Hid (FV W' (.agg #[.bool b',.slice u v v',.slice x' y y']) N2 D2) → Calls Tryz.prog 16 #[.agg #[.bool b,.slice s n c,.slice s' n' c'],.agg #[.bool b',.slice u v v',.slice x' y y']] W' (RF W' (N1 * (D2 : Int) - N2 * (D1 : Int)) (D1 * D2)) :=fun W' b s n c s' n' c' b' u v v' x' y y' g1 g2 => toRF (fracSub W' _ _ N1 N2 D1 D2 g1.out g2.out (sm 630 q1 (by decide)) (sm 130 q3 (by decide)) (sm 541 q2 (by decide)) (sm 41 q4 (by decide)) (sm 671 q5 (by decide)) (sm 671 q6 (by decide)))
  obtain ⟨N3,hN3⟩ : ∃ N,N1 * (D2 : Int) - N2 * (D1 : Int) = N :=⟨_,rfl⟩
  obtain ⟨D3,hD3⟩ : ∃ N,D1 * D2 = N :=⟨_,rfl⟩
  rw [hN3,hD3] at hE hlaw
  rw [hN3] at q7
  rw [hD3] at q8
  obtain ⟨N4,hN4⟩ : ∃ N : Int,(N3.natAbs : Int) = N :=⟨_,rfl⟩
  have hF : ∀ W' b s n c s2 n2 c2,Hid (FV W' (.agg #[.bool b,.slice s n c,.slice s2 n2 c2]) N3 D3) → Calls Tryz.prog 18 #[.agg #[.bool b,.slice s n c,.slice s2 n2 c2]] W' (RF W' N4 D3) :=fun W' b s n c s2 n2 c2 h => toRF (by
    have :=fracAbs W' _ N3 D3 h.out
    rw [hN4] at this;exact this)
  rw [hN4] at hlaw
  obtain ⟨z,hz⟩ : ∃ z,cmpZ (N4 * (D : Int)) (N * (D3 : Int)) = z :=⟨_,rfl⟩
  rw [hz] at hlaw
  have hH : ∀ W' b s n c s' n' c',Kept w W' → Hid (FV W' (.agg #[.bool b,.slice s n c,.slice s' n' c']) N4 D3) → Calls Tryz.prog 19 #[.agg #[.bool b,.slice s n c,.slice s' n' c'],.agg #[.bool b4,.slice s4 n4 c4,.slice t4 m4 d4]] W' fun r w' => r = .returned (.int .i64 z) ∧ Kept W' w' :=fun W' b s n c s' n' c' k' g1 => by
    have :=fracCmp W' _ _ N4 N D3 D g1.out (f4.kept k') (by rw [← hN4,Int.natAbs_natCast];exact sm 672 q7 (by decide)) (sm 2000 hN (by decide)) (sm 582 q8 (by decide)) (sm 2000 hD (by decide))
    rw [hz] at this
    exact this
  have h11b : ∀ W',Kept w W' → Calls Tryz.prog 11 #[.agg #[.bool b1,.slice s1 n1 c1,.slice t1 m1 d1],.int .i64 40] W' fun r w' => (∃ b s n c b' s' n' c',r = .returned (.tuple #[.agg #[.bool b,.slice s n c],.agg #[.bool b',.slice s' n' c']]) ∧ Hid (WV w' (.agg #[.bool b,.slice s n c]) S) ∧ Hid (WV w' (.agg #[.bool b',.slice s' n' c']) C)) ∧ Kept W' w' :=fun W' k' => (h11 W' k').mono (by
    rintro r w' ⟨⟨v1,v2,rfl,⟨s,n,c,rfl,g1⟩,⟨s',n',c',rfl,g2⟩⟩,kk⟩
    exact ⟨⟨_,s,n,c,_,s',n',c',rfl,Lib.hid ⟨s,n,c,rfl,g1⟩,Lib.hid ⟨s',n',c',rfl,g2⟩⟩,kk⟩)
  have FF :=four3 w (.bool b1) (.slice s1 n1 c1) (.slice t1 m1 d1) (.bool b2) (.slice s2 n2 c2) (.slice t2 m2 d2) (.bool b3) (.slice s3 n3 c3) (.slice t3 m3 d3) (.bool b4) (.slice s4 n4 c4) (.slice t4 m4 d4)
  obtain ⟨W,hW⟩ : ∃ W,((((w.alloc (.cells #[.bool b1,.slice s1 n1 c1,.slice t1 m1 d1] 30)).alloc (.cells #[.bool b2,.slice s2 n2 c2,.slice t2 m2 d2] 30)).alloc (.cells #[.bool b3,.slice s3 n3 c3,.slice t3 m3 d3] 30)).alloc (.cells #[.bool b4,.slice s4 n4 c4,.slice t4 m4 d4] 30)) = W :=⟨_,rfl⟩
  rw [hW] at FF
  have HW :=Lib.hid hW
  clear hW f1 f2 f3 f4 hk hY hm hP hN hD q1 q2 q3 q4 q5 q6 q7 q8 hN1 hN2 hN3 hN4 hD1 hD2 hD3 hQ hQ41 hx hxs hS130 hC130 hS hC h11 hz mulB sm
  obtain ⟨K0,a0,a1,a2,a3,a4,a5,a6,a7,a8,a9,a10,a11⟩ :=FF.kept (Chg.refl _ _)
  go_enter Tryz.func22,Tryz.ntmps22
  go_upto_region 1 with fail
  rw [HW.out]
  go_upto_region 2 with (go_at_call 11;(with_reducible refine (h11b _ K0).mono ?_);rintro r w7 ⟨⟨b7,s7,n7,c7,b8,s8,n8,c8,rfl,g7,g8⟩,p7⟩)
  obtain ⟨W8,hW8⟩ : ∃ W,(w7.alloc (.cells #[.bool b7,.slice s7 n7 c7] 28)).alloc (.cells #[.bool b8,.slice s8 n8 c8] 28) = W :=⟨_,rfl⟩
  have kA : Kept w7 (w7.alloc (.cells #[.bool b7,.slice s7 n7 c7] 28)) :=Chg.alloc _ _ _
  have kB : Kept (w7.alloc (.cells #[.bool b7,.slice s7 n7 c7] 28)) W8 :=hW8 ▸ Chg.alloc _ _ _
  have S0 :=Kept.at kB (box28_0 w7 (.bool b7) (.slice s7 n7 c7))
  have S1 :=Kept.at kB (box28_1 w7 (.bool b7) (.slice s7 n7 c7))
  have e7 : (w7.alloc (.cells #[.bool b7,.slice s7 n7 c7] 28)).heap.size = w7.heap.size + 1 :=by simp
  have C0 : W8.cell? ⟨w7.heap.size + 1,0,none⟩ = some (.bool b8) :=by
    have h :=box28_0 (w7.alloc (.cells #[.bool b7,.slice s7 n7 c7] 28)) (.bool b8) (.slice s8 n8 c8)
    rw [e7] at h
    exact hW8 ▸ h
  have C1 : W8.cell? ⟨w7.heap.size + 1,1,none⟩ = some (.slice s8 n8 c8) :=by
    have h :=box28_1 (w7.alloc (.cells #[.bool b7,.slice s7 n7 c7] 28)) (.bool b8) (.slice s8 n8 c8)
    rw [e7] at h
    exact hW8 ▸ h
  have GS :=Lib.hid (g7.out.kept (kt kA kB))
  have GC :=Lib.hid (g8.out.kept (kt kA kB))
  have FF8 : Kept W W8 :=kt p7 (kt kA kB)
  rw [hW8]
  clear hW8 kA kB g7 g8 p7 e7 a0 a1 a2 a3 a4 a5 a6 a7 a8 a9 a10 a11
  obtain ⟨K8,a0,a1,a2,a3,a4,a5,a6,a7,a8,a9,a10,a11⟩ :=FF.kept FF8
  go_cut [11] from 18 to 22 (fun t11 wx => ∃ bx ex sx nx cx sdx ndx cdx,t11 = ptr bx ∧ Hid (PN3 W8 wx bx (.bool ex) (.slice sx nx cx) (.slice sdx ndx cdx)) ∧ Hid (FV wx (.agg #[.bool ex,.slice sx nx cx,.slice sdx ndx cdx]) N1 D1) ∧ Hid (Kept W8 wx))
  case first =>
    go_wp2_with (first
      | (refine wp_region_lit_plan (id :=2) (.seg [0,3] (.two 1 5 (.seg [2] (.two 4 5 (.seg [5] (.seg [6] .fin)) (.seg [4] (.seg [6] .fin)))) (.seg [1] (.seg [2,4] (.seg [6] .fin))))) mixed (by kernel_rfl) ?_;simp only [wpPlanL,gaC,gaN,lZ0,lS0,coS])
      | refine ⟨by kernel_rfl,?_⟩
      | (refine ⟨by kernel_rfl,oldD (by first | exact (PN3.put PA kr _ _ _).2 | exact kr | exact kt kr (Chg.alloc _ _ _) | exact (Chg.refl _ _).drew | exact (Chg.alloc _ _ _).drew | exact Chg.refl _ _ | exact Chg.alloc _ _ _),?_⟩)
      | (refine ⟨oldD (by first | exact (PN3.put PA kr _ _ _).2 | exact kr | exact kt kr (Chg.alloc _ _ _) | exact (Chg.refl _ _).drew | exact (Chg.alloc _ _ _).drew | exact Chg.refl _ _ | exact Chg.alloc _ _ _),?_⟩)
      | (with_reducible refine And.intro ?_ ?_)
      | (go_at_call 17;(with_reducible refine (h17 _).mono ?_);rintro r wa ⟨⟨va,rfl,sa,na,ca,rfl,da⟩,pa⟩;have kr : Kept W8 wa :=(by first | exact pa.of_drew | exact kt (Chg.alloc _ _ _) pa.of_drew);(first | have PA :=PN3.madeD pa | skip))
      | (go_at_call 25;(with_reducible refine (hA _ _ _ _ _ _ _ _ (by first | exact Lib.hid (GC.out.kept kr) | exact Lib.hid (GC.out.kept (kt kr (Chg.alloc _ _ _)))) (by first | exact Lib.hid da | exact Lib.hid (da.kept (Chg.alloc _ _ _))) (by first | exact kt K8 kr | exact kt K8 (kt kr (Chg.alloc _ _ _)))).mono ?_);rintro r wb ⟨⟨bb,sb,nb,cb,sb2,nb2,cb2,rfl,gb⟩,pb⟩;(first | have PA :=PN3.made kr pb | have PA :=PN3.kept PA pb | skip);replace kr : Kept W8 wb :=(by first | exact kt kr pb | exact kt kr (kt (Chg.alloc _ _ _) pb));(first | (obtain ⟨⟨u0,x0⟩,⟨u1,x1,t1⟩,⟨u2,x2,t2⟩,f0,f1,f2⟩ :=PA.slot.use) | skip)))
    all_goals go_meet
    all_goals first
      | exact ⟨_,_,_,_,_,_,_,_,rfl,Lib.hid (PN3.new kr),Lib.hid (gb.out.kept (Chg.alloc _ _ _)),Lib.hid (kt kr (Chg.alloc _ _ _))⟩
      | exact ⟨_,_,_,_,_,_,_,_,rfl,Lib.hid (PN3.put PA kr _ _ _).1,Lib.hid (gb.out.over PA _ _ _),Lib.hid (PN3.put PA kr _ _ _).2⟩
  case rest =>
    obtain ⟨bx,ex,sx,nx,cx,sdx,ndx,cdx,rfl,hPX,hFX,hKX⟩ :=hcut
    have KX :=hKX.out
    clear a0 a1 a2 a3 a4 a5 a6 a7 a8 a9 a10 a11
    obtain ⟨K9,a0,a1,a2,a3,a4,a5,a6,a7,a8,a9,a10,a11⟩ :=FF.kept (kt FF8 KX)
    replace S0 :=Kept.at KX S0
    replace S1 :=Kept.at KX S1
    replace GS :=Lib.hid (GS.out.kept KX)
    clear hKX GC C0 C1
    go_upto_region 3 with fail
    go_cut [12] from 23 to 27 (fun t12 wx => ∃ bw ew sw nw cw sdw ndw cdw,t12 = ptr bw ∧ Hid (PN3 wc wx bw (.bool ew) (.slice sw nw cw) (.slice sdw ndw cdw)) ∧ Hid (FV wx (.agg #[.bool ew,.slice sw nw cw,.slice sdw ndw cdw]) N2 D2) ∧ Hid (Kept wc wx))
    case first =>
      go_wp2_with (first
        | (refine wp_region_lit_plan (id :=3) (.seg [0,3] (.two 1 5 (.seg [2] (.two 4 5 (.seg [5] (.seg [6] .fin)) (.seg [4] (.seg [6] .fin)))) (.seg [1] (.seg [2,4] (.seg [6] .fin))))) mixed (by kernel_rfl) ?_;simp only [wpPlanL,gaC,gaN,lZ0,lS0,coS])
        | refine ⟨by kernel_rfl,?_⟩
        | (refine ⟨by kernel_rfl,oldD (by first | exact (PN3.put PA kr _ _ _).2 | exact kr | exact kt kr (Chg.alloc _ _ _) | exact (Chg.refl _ _).drew | exact (Chg.alloc _ _ _).drew | exact Chg.refl _ _ | exact Chg.alloc _ _ _),?_⟩)
        | (refine ⟨oldD (by first | exact (PN3.put PA kr _ _ _).2 | exact kr | exact kt kr (Chg.alloc _ _ _) | exact (Chg.refl _ _).drew | exact (Chg.alloc _ _ _).drew | exact Chg.refl _ _ | exact Chg.alloc _ _ _),?_⟩)
        | (with_reducible refine And.intro ?_ ?_)
        | (go_at_call 17;(with_reducible refine (h17 _).mono ?_);rintro r wa ⟨⟨va,rfl,sa,na,ca,rfl,da⟩,pa⟩;have kr : Kept wc wa :=(by first | exact pa.of_drew | exact kt (Chg.alloc _ _ _) pa.of_drew);(first | have PA :=PN3.madeD pa | skip))
        | (go_at_call 25;(with_reducible refine (hB _ _ _ _ _ _ _ _ (by first | exact Lib.hid (GS.out.kept kr) | exact Lib.hid (GS.out.kept (kt kr (Chg.alloc _ _ _)))) (by first | exact Lib.hid da | exact Lib.hid (da.kept (Chg.alloc _ _ _))) (by first | exact kt K9 kr | exact kt K9 (kt kr (Chg.alloc _ _ _)))).mono ?_);rintro r wb ⟨⟨bb,sb,nb,cb,sb2,nb2,cb2,rfl,gb⟩,pb⟩;(first | have PA :=PN3.made kr pb | have PA :=PN3.kept PA pb | skip);replace kr : Kept wc wb :=(by first | exact kt kr pb | exact kt kr (kt (Chg.alloc _ _ _) pb));(first | (obtain ⟨⟨u0,x0⟩,⟨u1,x1,t1⟩,⟨u2,x2,t2⟩,f0,f1,f2⟩ :=PA.slot.use) | skip)))
      all_goals go_meet
      all_goals first
        | exact ⟨_,_,_,_,_,_,_,_,rfl,Lib.hid (PN3.new kr),Lib.hid (gb.out.kept (Chg.alloc _ _ _)),Lib.hid (kt kr (Chg.alloc _ _ _))⟩
        | exact ⟨_,_,_,_,_,_,_,_,rfl,Lib.hid (PN3.put PA kr _ _ _).1,Lib.hid (gb.out.over PA _ _ _),Lib.hid (PN3.put PA kr _ _ _).2⟩
    case rest =>
      obtain ⟨bw,ew,sw,nw,cw,sdw,ndw,cdw,rfl,hPY,hFY,hKY⟩ :=hcut
      have KY :=hKY.out
      clear a0 a1 a2 a3 a4 a5 a6 a7 a8 a9 a10 a11
      obtain ⟨K11,a0,a1,a2,a3,a4,a5,a6,a7,a8,a9,a10,a11⟩ :=FF.kept (kt FF8 (kt KX KY))
      obtain ⟨x0,x1,x2,xf,-⟩ :=hPX.out.kept KY
      obtain ⟨y0,y1,y2,yf,-⟩ :=hPY.out
      have GX :=Lib.hid (hFX.out.kept KY)
      have GY :=hFY
      clear hPX hPY hFX hFY hKY
      go_wp2_with (first
        | (refine wp_region_lit_segs (id :=4) [[0,1,4,2],[3],[5,6,7]] mixed (by kernel_rfl) ?_;simp only [wpSegsL,gaC,gaN,lZ0,lS0,coS])
        | refine ⟨by kernel_rfl,?_⟩
        | (refine ⟨by kernel_rfl,oldD (by first | exact kr | exact (Chg.refl _ _).drew | exact Chg.refl _ _),?_⟩)
        | (refine ⟨oldD (by first | exact kr | exact (Chg.refl _ _).drew | exact Chg.refl _ _),?_⟩)
        | (with_reducible refine And.intro ?_ ?_)
        | (go_at_call 16;(with_reducible refine (hE _ _ _ _ _ _ _ _ _ _ _ _ _ _ _ (by first | exact GX | exact Lib.hid (GX.out.kept (Chg.refl _ _).drew)) (by first | exact GY | exact Lib.hid (GY.out.kept (Chg.refl _ _).drew))).mono ?_);rintro r wa ⟨⟨ba,sa,na,ca,sa2,na2,ca2,rfl,ga⟩,pa⟩;have kr : Kept wc wa :=(by first | exact pa | exact pa.of_drew))
        | (go_at_call 18;(with_reducible refine (hF _ _ _ _ _ _ _ _ ga).mono ?_);rintro r wb ⟨⟨bb,sb,nb,cb,sb2,nb2,cb2,rfl,gb⟩,pb⟩;replace kr :=kt kr pb)
        | (go_at_call 19;(with_reducible refine (hH _ _ _ _ _ _ _ _ (kt K11 kr) gb).mono ?_);rintro r wd ⟨rfl,pd⟩;replace kr :=kt kr pd))
      exact ⟨_,results_tmp rfl _ _ _,by first | rfl | simp [hlaw],kt K11 kr⟩
end Go.Proofs.YtfmmdamgcpiciaaGreatDoor
namespace Go.Proofs.YtfmmdamgcpiciaaGreatDoor.Plain
def serC (c : Int) : List Int :=pshift c (pdil 1000000000 (ser D40 sgC 82 0))
def sumK (x : Int) : Int :=sumTo (fun n => sgC n * part D40 x n) 82
def polX : List Int :=[-53869575592945464 * 10 ^ 239,0,2500838018233579 * 10 ^ 178,0,-13208923444021097 * 10 ^ 114,0,13681296347069296 * 10 ^ 50,0,1]
def polN : List Int :=[0,-53869575592945464 * 10 ^ 239,0,2500838018233579 * 10 ^ 178 + -17956525197648488 * 10 ^ 177,0,-13208923444021097 * 10 ^ 114 + 11535166483858742 * 10 ^ 114,0,13681296347069296 * 10 ^ 50 + -13093693918138379 * 10 ^ 50,0,1]
def tCos : List Int :=[10 ^ 760,0,-5 * 10 ^ 697,0,416666666666666666666667 * 10 ^ 611,0,-138888888888888888888889 * 10 ^ 548,0,248015873015873015873016 * 10 ^ 484,0,-275573192239858906525573 * 10 ^ 420,0,208767569878680989792101 * 10 ^ 356,0,-114707455977297247138517 * 10 ^ 292,0,477947733238738529743821 * 10 ^ 227,0,-156192069685862264622164 * 10 ^ 163,0,411031762331216485847799 * 10 ^ 98,0,-88967913924505732867489 * 10 ^ 34,0]
def tSin : List Int :=[0,10 ^ 729,0,-166666666666666666666667 * 10 ^ 643,0,833333333333333333333333 * 10 ^ 579,0,-198412698412698412698413 * 10 ^ 516,0,275573192239858906525573 * 10 ^ 452,0,-250521083854417187750521 * 10 ^ 388,0,160590438368216145993924 * 10 ^ 324,0,-764716373181981647590113 * 10 ^ 259,0,281145725434552076319895 * 10 ^ 195,0,-822063524662432971695598 * 10 ^ 130,0,195729410633912612308476 * 10 ^ 66,0,-386817017063068403771691 * 10 ^ 1]
def okA (jj : Nat) : Bool :=
  decide (pabs R31 (padd (psmul (10 ^ 760) (if jj % 4 = 0 then serC ((jj : Int) * c31) else serS ((jj : Int) * c31))) (psmul (-(F82 * sgJ jj)) tCos)) ≤ F82 * 10 ^ 745) &&
  decide (pabs R31 (padd (psmul (10 ^ 760) (if jj % 4 = 0 then serS ((jj : Int) * c31) else psmul (-1) (serC ((jj : Int) * c31)))) (psmul (-(F82 * sgJ jj)) tSin)) ≤ F82 * 10 ^ 745)
def okP (R : Nat) (N X : List Int) : Bool :=decide (pabs R (padd (pmul N tCos) (psmul (-(10 ^ 31)) (pmul X tSin))) ≤ 10 ^ 760 * (6 * 10 ^ 272))
def pol0 : List Int :=[10 ^ 256]
def pol1 : List Int :=[0,10 ^ 256]
theorem okP_quot : okP R31 polN polX = true :=by decide +kernel
theorem okP_angle : okP (10 ^ 24) pol1 pol0 = true :=by decide +kernel
theorem okA_0 : okA 0 = true :=by decide +kernel
theorem okA_2 : okA 2 = true :=by decide +kernel
theorem okA_4 : okA 4 = true :=by decide +kernel
theorem okA_6 : okA 6 = true :=by decide +kernel
theorem okA_8 : okA 8 = true :=by decide +kernel
theorem okA_10 : okA 10 = true :=by decide +kernel
theorem okA_12 : okA 12 = true :=by decide +kernel
theorem okA_all {j : Nat} (hj : j ≤ 12) : okA (j + j % 2) = true :=by
  have h : j = 0 ∨ j = 1 ∨ j = 2 ∨ j = 3 ∨ j = 4 ∨ j = 5 ∨ j = 6 ∨ j = 7 ∨ j = 8 ∨ j = 9 ∨ j = 10 ∨ j = 11 ∨ j = 12 :=by omega
  rcases h with rfl | rfl | rfl | rfl | rfl | rfl | rfl | rfl | rfl | rfl | rfl | rfl | rfl
  · exact okA_0
  · exact okA_2
  · exact okA_2
  · exact okA_4
  · exact okA_4
  · exact okA_6
  · exact okA_6
  · exact okA_8
  · exact okA_8
  · exact okA_10
  · exact okA_10
  · exact okA_12
  · exact okA_12
end Go.Proofs.YtfmmdamgcpiciaaGreatDoor.Plain
namespace Go.Proofs.YtfmmdamgcpiciaaGreatDoor.Plain
theorem abs_sum (a b c d : Int) : (a + b + c + d).natAbs ≤ a.natAbs + b.natAbs + c.natAbs + d.natAbs :=by omega
theorem tan_mix {F X N z y r Ec Es C S e : Int} {A16 A31 A40 A47 : Int} {B x n Z k u : Nat}
    (g1 : A16 * A40 * A31 = A47 * A40)
    (hy : y * X = A16 * N + z * r) (hr : 2 * r.natAbs ≤ X.natAbs) (hz : z.natAbs ≤ Z) (hN : N.natAbs ≤ n) (hX : X.natAbs ≤ x)
    (hG : (N * Ec + (-1 * A31) * (X * Es)).natAbs ≤ F.natAbs * B)
    (hC : (F * C - A40 * Ec).natAbs ≤ e.natAbs * F.natAbs) (hS : (F * S - A40 * Es).natAbs ≤ e.natAbs * F.natAbs) (hk : C.natAbs ≤ k) (hF : 0 < F)
    (hu : 2 * ((A16.natAbs * n + A47.natAbs * x) * e.natAbs + (A16 * A40).natAbs * B) ≤ u) : 2 * (X.natAbs * (y * C - A47 * S).natAbs) ≤ u + X.natAbs * (Z * k) :=by
  have id : F * (X * (y * C - A47 * S)) = A16 * N * (F * C - A40 * Ec) + A16 * A40 * (N * Ec + (-1 * A31) * (X * Es)) + -(A47 * X * (F * S - A40 * Es)) + F * (z * r * C) :=by
    have e1 : F * (X * (y * C - A47 * S)) = F * ((y * X) * C) - F * (A47 * X * S) :=by grind
    have e2 : A16 * A40 * (N * Ec + (-1 * A31) * (X * Es)) = A16 * A40 * (N * Ec) - (A16 * A40 * A31) * (X * Es) :=by grind
    rw [e1,e2,hy,g1]
    grind
  have fp : 0 < F.natAbs :=by omega
  have h1 : (A16 * N * (F * C - A40 * Ec)).natAbs ≤ F.natAbs * (A16.natAbs * n * e.natAbs) :=by
    rw [Int.natAbs_mul,Int.natAbs_mul]
    refine Nat.le_trans (Nat.mul_le_mul (Nat.mul_le_mul_left _ hN) hC) (Nat.le_of_eq (by grind))
  have h2 : (A16 * A40 * (N * Ec + (-1 * A31) * (X * Es))).natAbs ≤ F.natAbs * ((A16 * A40).natAbs * B) :=by
    rw [Int.natAbs_mul]
    refine Nat.le_trans (Nat.mul_le_mul_left _ hG) (Nat.le_of_eq (by grind))
  have h3 : (-(A47 * X * (F * S - A40 * Es))).natAbs ≤ F.natAbs * (A47.natAbs * x * e.natAbs) :=by
    rw [Int.natAbs_neg,Int.natAbs_mul,Int.natAbs_mul]
    refine Nat.le_trans (Nat.mul_le_mul (Nat.mul_le_mul_left _ hX) hS) (Nat.le_of_eq (by grind))
  have h4 : 2 * (F * (z * r * C)).natAbs ≤ F.natAbs * (X.natAbs * (Z * k)) :=by
    rw [Int.natAbs_mul,Int.natAbs_mul,Int.natAbs_mul]
    have a1 :=Nat.mul_le_mul (Nat.mul_le_mul hz hr) hk
    have a2 :=Nat.mul_le_mul_left F.natAbs a1
    refine Nat.le_trans (Nat.le_of_eq (by grind)) (Nat.le_trans a2 (Nat.le_of_eq (by grind)))
  have h5 :=abs_sum (A16 * N * (F * C - A40 * Ec)) (A16 * A40 * (N * Ec + (-1 * A31) * (X * Es))) (-(A47 * X * (F * S - A40 * Es))) (F * (z * r * C))
  rw [← id,Int.natAbs_mul F,Int.natAbs_mul X] at h5
  have h6 : F.natAbs * (2 * (X.natAbs * (y * C - A47 * S).natAbs)) ≤ F.natAbs * (2 * ((A16.natAbs * n + A47.natAbs * x) * e.natAbs + (A16 * A40).natAbs * B) + X.natAbs * (Z * k)) :=by
    have e3 : F.natAbs * (2 * ((A16.natAbs * n + A47.natAbs * x) * e.natAbs + (A16 * A40).natAbs * B) + X.natAbs * (Z * k)) = 2 * (F.natAbs * (A16.natAbs * n * e.natAbs)) + 2 * (F.natAbs * ((A16 * A40).natAbs * B)) + 2 * (F.natAbs * (A47.natAbs * x * e.natAbs)) + F.natAbs * (X.natAbs * (Z * k)) :=by grind
    have e4 : F.natAbs * (2 * (X.natAbs * (y * C - A47 * S).natAbs)) = 2 * (F.natAbs * (X.natAbs * (y * C - A47 * S).natAbs)) :=by grind
    rw [e3,e4]
    omega
  have h7 :=Nat.le_of_mul_le_mul_left h6 fp
  omega
theorem ser_near {sg : Nat → Int} (hs : ∀ n,(sg n).natAbs ≤ 1) {c z x : Int} (hx : x = 1000000000 * (z + c)) (hx2 : x.natAbs ≤ 10 * D40) : ((F82 : Int) * sumTo (fun n => sg n * part D40 x n) 82 - 10 ^ 40 * ev (pshift c (pdil 1000000000 (ser D40 sg 82 0))) z).natAbs ≤ ((1000000000 : Int)).natAbs * (F82 : Int).natAbs :=by
  have h1 :=series_near D40 (by decide) x hx2 sg hs 82
  rw [ev_pshift,ev_pdil,← hx]
  have he :=eb82
  rw [show fact 82 * D40 ^ 82 = F82 from rfl] at h1
  have e1 : ((D40 : Nat) : Int) = 10 ^ 40 :=by decide
  rw [e1] at h1
  refine Nat.le_trans h1 ?_
  rw [Int.natAbs_natCast]
  exact Nat.mul_le_mul_right _ he
theorem ser_le {F C E A e : Int} {k b : Nat} (h : (F * C - A * E).natAbs ≤ e.natAbs * F.natAbs) (hE : E.natAbs ≤ b * F.natAbs) (hF : 0 < F) (hk : A.natAbs * b + e.natAbs ≤ k) : C.natAbs ≤ k :=by
  have h1 : (A * E).natAbs ≤ A.natAbs * b * F.natAbs :=by
    rw [Int.natAbs_mul,Nat.mul_assoc]
    exact Nat.mul_le_mul_left _ hE
  have h2 : F.natAbs * C.natAbs ≤ F.natAbs * (A.natAbs * b + e.natAbs) :=by
    rw [← Int.natAbs_mul,Nat.mul_add,Nat.mul_comm F.natAbs (A.natAbs * b),Nat.mul_comm F.natAbs e.natAbs]
    omega
  exact Nat.le_trans (Nat.le_of_mul_le_mul_left h2 (by omega)) hk
theorem mix_end {D X u v w : Nat} (h : 2 * (X * D) ≤ u + X * v) (hX : 0 < X) (hu : u ≤ X * w) (hv : v ≤ w) : D ≤ w :=by
  have h1 : X * v ≤ X * w :=Nat.mul_le_mul_left _ hv
  have h2 : X * (2 * D) ≤ X * (2 * w) :=by
    have e1 : X * (2 * D) = 2 * (X * D) :=by grind
    have e2 : X * (2 * w) = X * w + X * w :=by grind
    omega
  have :=Nat.le_of_mul_le_mul_left h2 hX
  omega
theorem const_u : 2 * (((10 ^ 16 : Int).natAbs * 10 ^ 287 + (10 ^ 47 : Int).natAbs * 10 ^ 256) * (1000000000 : Int).natAbs + (10 ^ 16 * 10 ^ 40 : Int).natAbs * 10 ^ 273) ≤ 3 * 10 ^ 255 * 10 ^ 74 :=by decide +kernel
theorem const_k : (10 ^ 40 : Int).natAbs * 2 + (1000000000 : Int).natAbs ≤ 3 * 10 ^ 40 :=by decide +kernel
theorem const_v : R31 * (3 * 10 ^ 40) ≤ 10 ^ 74 :=by decide +kernel
theorem tan_way {X N z y r Ec Es C S : Int} {R : Nat} (hR : R ≤ R31) (hz : z.natAbs ≤ R)
    (hG : (N * Ec + (-1 * 10 ^ 31) * (X * Es)).natAbs ≤ F82 * 10 ^ 273) (hC : ((F82 : Int) * C - 10 ^ 40 * Ec).natAbs ≤ ((1000000000 : Int)).natAbs * (F82 : Int).natAbs) (hS : ((F82 : Int) * S - 10 ^ 40 * Es).natAbs ≤ ((1000000000 : Int)).natAbs * (F82 : Int).natAbs) (hE : Ec.natAbs ≤ 2 * F82)
    (hX1 : 3 * 10 ^ 255 ≤ X.natAbs) (hX2 : X.natAbs ≤ 10 ^ 256) (hN : N.natAbs ≤ 10 ^ 287) (hy : y * X = 10 ^ 16 * N + z * r) (hr : 2 * r.natAbs ≤ X.natAbs) : (y * C - 10 ^ 47 * S).natAbs ≤ 10 ^ 74 :=by
  have hF : 0 < (F82 : Int) :=Int.natCast_pos.2 F82_pos
  have hk :=ser_le (k :=3 * 10 ^ 40) (b :=2) hC (by rw [Int.natAbs_natCast];exact hE) hF const_k
  have h :=tan_mix (A16 :=10 ^ 16) (A31 :=10 ^ 31) (A40 :=10 ^ 40) (A47 :=10 ^ 47) (e :=1000000000) (u :=3 * 10 ^ 255 * 10 ^ 74) (by decide +kernel) hy hr (Nat.le_trans hz hR) hN hX2 (B :=10 ^ 273) (by rw [Int.natAbs_natCast];exact hG) hC hS hk hF const_u
  exact mix_end h (Nat.lt_of_lt_of_le (by decide +kernel) hX1) (Nat.mul_le_mul_right _ hX1) const_v
theorem prod_mix {N X A B c s F g K T : Int} {e n x b d : Nat} (hA : (K * A + -(F * g) * c).natAbs ≤ F.natAbs * e) (hB : (K * B + -(F * g) * s).natAbs ≤ F.natAbs * e) (hg : g.natAbs ≤ 1) (hP : (N * c + -T * (X * s)).natAbs ≤ K.natAbs * b) (hN : N.natAbs ≤ n) (hX : (T * X).natAbs ≤ x) (hK : 0 < K) (hd : n * e + x * e + K.natAbs * b ≤ K.natAbs * d) : (N * A + -1 * T * (X * B)).natAbs ≤ F.natAbs * d :=by
  have id : K * (N * A + -1 * T * (X * B)) = N * (K * A + -(F * g) * c) + F * g * (N * c + -T * (X * s)) + -(T * X * (K * B + -(F * g) * s)) + 0 :=by grind
  have h1 : (N * (K * A + -(F * g) * c)).natAbs ≤ F.natAbs * (n * e) :=by
    rw [Int.natAbs_mul]
    exact Nat.le_trans (Nat.mul_le_mul hN hA) (Nat.le_of_eq (by grind))
  have h2 : (F * g * (N * c + -T * (X * s))).natAbs ≤ F.natAbs * (K.natAbs * b) :=by
    rw [Int.natAbs_mul,Int.natAbs_mul]
    exact Nat.le_trans (Nat.mul_le_mul (Nat.mul_le_mul_left _ hg) hP) (Nat.le_of_eq (by grind))
  have h3 : (-(T * X * (K * B + -(F * g) * s))).natAbs ≤ F.natAbs * (x * e) :=by
    rw [Int.natAbs_neg,Int.natAbs_mul]
    exact Nat.le_trans (Nat.mul_le_mul hX hB) (Nat.le_of_eq (by grind))
  have h4 :=abs_sum (N * (K * A + -(F * g) * c)) (F * g * (N * c + -T * (X * s))) (-(T * X * (K * B + -(F * g) * s))) 0
  rw [← id,Int.natAbs_mul,Int.natAbs_zero] at h4
  have h5 : K.natAbs * (N * A + -1 * T * (X * B)).natAbs ≤ K.natAbs * (F.natAbs * d) :=by
    have h6 :=Nat.mul_le_mul_left F.natAbs hd
    have e1 : F.natAbs * (n * e + x * e + K.natAbs * b) = F.natAbs * (n * e) + F.natAbs * (x * e) + F.natAbs * (K.natAbs * b) :=by grind
    have e2 : K.natAbs * (F.natAbs * d) = F.natAbs * (K.natAbs * d) :=by grind
    rw [e2]
    omega
  exact Nat.le_of_mul_le_mul_left h5 (by omega)
theorem k760 : (10 ^ 760 : Int).natAbs = 10 ^ 760 :=by decide +kernel
theorem one_bd {A c F g K : Int} {e k : Nat} (hA : (K * A + -(F * g) * c).natAbs ≤ F.natAbs * e) (hg : g.natAbs ≤ 1) (hc : c.natAbs ≤ k) (hK : 0 < K) (hd : e + k ≤ K.natAbs * 2) : A.natAbs ≤ 2 * F.natAbs :=by
  have h1 : (F * g * c).natAbs ≤ F.natAbs * k :=by
    rw [Int.natAbs_mul,Int.natAbs_mul]
    exact Nat.le_trans (Nat.mul_le_mul (Nat.mul_le_mul_left _ hg) hc) (Nat.le_of_eq (by grind))
  have e1 : K * A = (K * A + -(F * g) * c) + F * g * c :=by grind
  have h2 : (K * A).natAbs ≤ F.natAbs * e + F.natAbs * k :=by rw [e1];omega
  rw [Int.natAbs_mul] at h2
  have h3 :=Nat.mul_le_mul_left F.natAbs hd
  have h4 : K.natAbs * A.natAbs ≤ K.natAbs * (2 * F.natAbs) :=by
    have e2 : K.natAbs * (2 * F.natAbs) = F.natAbs * (K.natAbs * 2) :=by grind
    have e3 : F.natAbs * (e + k) = F.natAbs * e + F.natAbs * k :=by grind
    rw [e2]
    omega
  exact Nat.le_of_mul_le_mul_left h4 (by omega)
theorem tCos_le : pabs R31 tCos ≤ 10 ^ 760 + 10 ^ 759 * 9 :=by decide +kernel
theorem tSin_le : pabs R31 tSin ≤ 10 ^ 760 + 10 ^ 759 * 9 :=by decide +kernel
theorem const_b : 10 ^ 745 + (10 ^ 760 + 10 ^ 759 * 9) ≤ (10 ^ 760 : Int).natAbs * 2 :=by decide +kernel
theorem ten760 : (0 : Int) < 10 ^ 760 :=by decide +kernel
theorem sgJ_le (jj : Nat) : (sgJ jj).natAbs ≤ 1 :=by unfold sgJ;split <;> decide
theorem const_d : 10 ^ 287 * 10 ^ 745 + 10 ^ 287 * 10 ^ 745 + (10 ^ 760 : Int).natAbs * (6 * 10 ^ 272) ≤ (10 ^ 760 : Int).natAbs * 10 ^ 273 :=by decide +kernel
theorem tan_near {X N z x y r : Int} {R jj : Nat} {Np Xp : List Int} (hR : R ≤ R31) (hz : z.natAbs ≤ R) (hok : okP R Np Xp = true) (hA : okA jj = true) (hx : x = 1000000000 * (z + (jj : Int) * c31)) (hx2 : x.natAbs ≤ 10 * D40) (eX : ev Xp z = X) (eN : ev Np z = N)
    (hX1 : 3 * 10 ^ 255 ≤ X.natAbs) (hX2 : X.natAbs ≤ 10 ^ 256) (hN : N.natAbs ≤ 10 ^ 287) (hy : y * X = 10 ^ 16 * N + z * r) (hr : 2 * r.natAbs ≤ X.natAbs) : (y * (if jj % 4 = 0 then sumK x else sumS x) - 10 ^ 47 * (if jj % 4 = 0 then sumS x else -sumK x)).natAbs ≤ 10 ^ 74 :=by
  have c1 :=ser_near sgC_le hx hx2
  have s1 :=ser_near sgS_le hx hx2
  rw [show sumTo (fun n => sgC n * part D40 x n) 82 = sumK x from rfl,show pshift ((jj : Int) * c31) (pdil 1000000000 (ser D40 sgC 82 0)) = serC ((jj : Int) * c31) from rfl] at c1
  rw [show sumTo (fun n => sgS n * part D40 x n) 82 = sumS x from rfl,show pshift ((jj : Int) * c31) (pdil 1000000000 (ser D40 sgS 82 0)) = serS ((jj : Int) * c31) from rfl] at s1
  unfold okP at hok
  have g :=Nat.le_trans (ev_le R z hz _) (of_decide_eq_true hok)
  rw [ev_padd,ev_pmul,ev_psmul,ev_pmul,eX,eN,← k760] at g
  unfold okA at hA
  rw [Bool.and_eq_true] at hA
  have a1 :=Nat.le_trans (ev_le R31 z (Nat.le_trans hz hR) _) (of_decide_eq_true hA.1)
  have a2 :=Nat.le_trans (ev_le R31 z (Nat.le_trans hz hR) _) (of_decide_eq_true hA.2)
  rw [ev_padd,ev_psmul,ev_psmul] at a1 a2
  have tc :=Nat.le_trans (ev_le R31 z (Nat.le_trans hz hR) tCos) tCos_le
  have hTX : ((10 : Int) ^ 31 * X).natAbs ≤ 10 ^ 287 :=by
    rw [Int.natAbs_mul]
    exact Nat.le_trans (Nat.mul_le_mul_left _ hX2) (by decide +kernel)
  by_cases h : jj % 4 = 0
  · rw [if_pos h] at a1 a2 ⊢
    rw [if_pos h]
    have hG :=prod_mix (F :=(F82 : Int)) (e :=10 ^ 745) (d :=10 ^ 273) (T :=10 ^ 31) (K :=10 ^ 760) (by rw [Int.natAbs_natCast];exact a1) (by rw [Int.natAbs_natCast];exact a2) (sgJ_le jj) (b :=6 * 10 ^ 272) g hN hTX ten760 const_d
    rw [Int.natAbs_natCast] at hG
    have b1 :=one_bd (F :=(F82 : Int)) (e :=10 ^ 745) (K :=10 ^ 760) (by rw [Int.natAbs_natCast];exact a1) (sgJ_le jj) tc ten760 const_b
    rw [Int.natAbs_natCast] at b1
    exact tan_way hR hz hG c1 s1 b1 hX1 hX2 hN hy hr
  · rw [if_neg h] at a1 a2 ⊢
    rw [if_neg h]
    rw [ev_psmul,Int.neg_one_mul] at a2
    have hG :=prod_mix (F :=(F82 : Int)) (e :=10 ^ 745) (d :=10 ^ 273) (T :=10 ^ 31) (K :=10 ^ 760) (by rw [Int.natAbs_natCast];exact a1) (by rw [Int.natAbs_natCast];exact a2) (sgJ_le jj) (b :=6 * 10 ^ 272) g hN hTX ten760 const_d
    rw [Int.natAbs_natCast] at hG
    have b2 :=one_bd (F :=(F82 : Int)) (e :=10 ^ 745) (K :=10 ^ 760) (by rw [Int.natAbs_natCast];exact a1) (sgJ_le jj) tc ten760 const_b
    rw [Int.natAbs_natCast] at b2
    refine tan_way hR hz hG s1 ?_ b2 hX1 hX2 hN hy hr
    rw [show (F82 : Int) * -sumK x - 10 ^ 40 * -ev (serC ((jj : Int) * c31)) z = -((F82 : Int) * sumK x - 10 ^ 40 * ev (serC ((jj : Int) * c31)) z) by grind,Int.natAbs_neg]
    exact c1
theorem sumK_le {z x : Int} {jj : Nat} (hz : z.natAbs ≤ R31) (hA : okA jj = true) (hx : x = 1000000000 * (z + (jj : Int) * c31)) (hx2 : x.natAbs ≤ 10 * D40) : (sumK x).natAbs ≤ 3 * 10 ^ 40 :=by
  have c1 :=ser_near sgC_le hx hx2
  rw [show sumTo (fun n => sgC n * part D40 x n) 82 = sumK x from rfl,show pshift ((jj : Int) * c31) (pdil 1000000000 (ser D40 sgC 82 0)) = serC ((jj : Int) * c31) from rfl] at c1
  unfold okA at hA
  rw [Bool.and_eq_true] at hA
  have a1 :=Nat.le_trans (ev_le R31 z hz _) (of_decide_eq_true hA.1)
  have a2 :=Nat.le_trans (ev_le R31 z hz _) (of_decide_eq_true hA.2)
  rw [ev_padd,ev_psmul,ev_psmul] at a1 a2
  have tc :=Nat.le_trans (ev_le R31 z hz tCos) tCos_le
  have ts :=Nat.le_trans (ev_le R31 z hz tSin) tSin_le
  have hE : (ev (serC ((jj : Int) * c31)) z).natAbs ≤ 2 * (F82 : Int).natAbs :=by
    by_cases h : jj % 4 = 0
    · rw [if_pos h] at a1
      exact one_bd (F :=(F82 : Int)) (e :=10 ^ 745) (K :=10 ^ 760) (by rw [Int.natAbs_natCast];exact a1) (sgJ_le jj) tc ten760 const_b
    · rw [if_neg h,ev_psmul,Int.neg_one_mul] at a2
      have :=one_bd (F :=(F82 : Int)) (e :=10 ^ 745) (K :=10 ^ 760) (by rw [Int.natAbs_natCast];exact a2) (sgJ_le jj) ts ten760 const_b
      rw [Int.natAbs_neg] at this
      exact this
  exact ser_le (b :=2) c1 hE (Int.natCast_pos.2 F82_pos) const_k
end Go.Proofs.YtfmmdamgcpiciaaGreatDoor.Plain
namespace Go.Proofs.YtfmmdamgcpiciaaGreatDoor
open Go Go.RowKit
@[go_sem] theorem clear_none (a : Addr) (c : Nat) (w : World) : (Builtin.clear_ #[110] 0 #[.slice (some a) 0 c]).run Tryz.prog w = .ok (.tuple #[]) w :=by kernel_rfl
theorem nat_lsh_pos (w : World) (s : Option Addr) (n c X : Nat) (hx : NatAt w s (n + 1) c X) (hn : n + 1 < Big) :
    Calls Tryz.prog 140 #[.slice s (n + 1) c,.slice s (n + 1) c,.int .u64 1] w (GotNat w s c (X * 2)) :=by
  obtain ⟨bx,ox,xs,hs,hrx,hlx,hltx,-,hX,hwx,nfx,hx1,hx2,hbx⟩ :=hx.open
  have hc : SlOk w s c :=by obtain ⟨_,_,_,_,_,h,_⟩ :=hx;exact h
  have hm :=nat_make w s (n + 1) c (n + 1 + 1) hc (by omega) (by unfold Big at *;omega)
  subst hs hX
  clear hx
  unfold Big at hn hx2
  go_enter Tryz.func140,Tryz.ntmps140
  go_wp2_with (first
    | (go_at_call 134;refine hm.mono ?_;rintro e w1 ⟨s',c',rfl,h1,h2,h3,h4,h5⟩;obtain ⟨b,o,rfl,hw,hf,hb⟩ :=h3.pos (by omega))
    | (go_at_call 167;refine lshVU _ _ _ _ _ ?_;refine (lshVU_g w1 b o bx ox (n + 1) _ _ 1 63 xs (by omega) (by unfold Big;omega) (by omega) (by omega) (by omega) (hrx.keep h5) hlx hltx (fun j hj => hw j (by omega)) (Sep.cases (.inl rfl) h4 hbx)).mono ?_;
       rintro e w2 ⟨zs,cc,rfl,g1,g2,g3,g4,g5,g6⟩;refine ⟨_,rfl,?_⟩;obtain ⟨⟨u,hu⟩,hz⟩ :=(hw.chg g6) (n + 1) (by omega);
       have hrow : Row .u64 (w2.setCell ⟨b,o + (n + 1),none⟩ (.int .u64 cc)) b o (zs ++ [cc]) :=(by rw [← g1];exact g2.store cc ⟨u,by rw [g1];exact hu⟩))
    | (go_at_call 106;refine (nat_norm _ _ (n + 1 + 1) c' (zs ++ [cc]) (.inr ⟨b,o,rfl,hrow⟩) (by simp [g1]) (by omega) h1).mono ?_;rintro e w3 ⟨rfl,hw3⟩;rw [hw3]))
  first | go_ret | refine ⟨_,results_tmp rfl _ _ _,?_⟩
  have hsc :=Chg.setCell w2 b (o + (n + 1)) (.int .u64 cc) (In b o (n + 1 + 1)) (fun _ => ⟨rfl,by omega,by omega⟩)
  refine ⟨_,_,c',rfl,trim_nat (by simp [g1];omega) (by unfold Big at *;omega) (by simp [g1];unfold Big;omega) ((h3.chg g6).chg hsc) (.inr ⟨b,o,rfl,hrow⟩) (g3.snoc (Nat.lt_of_lt_of_le g5 (by decide))) (by rw [val_snoc,g1];exact g4),h4,?_⟩
  exact (((h5.any (Blk _)).fr h4 rfl g6 fun _ _ h => h.1)).fr h4 rfl hsc fun _ _ h => h.1
theorem nat_lsh (w : World) (s : Option Addr) (n c X : Nat) (hx : NatAt w s n c X) (hn : n < Big) :
    Calls Tryz.prog 140 #[.slice s n c,.slice s n c,.int .u64 1] w (GotNat w s c (X * 2)) :=by
  cases n with
  | succ n => exact nat_lsh_pos w s n c X hx hn
  | zero =>
    have h0 :=hx.zero
    subst h0
    have hc : SlOk w s c :=by obtain ⟨_,_,_,_,_,h,_⟩ :=hx;exact h
    have HX :=Lib.hid hx
    clear hx
    rcases hc with ⟨rfl,rfl⟩ | ⟨b,o,rfl,hw,hf,hb⟩
    · go_enter Tryz.func140,Tryz.ntmps140
      go_wp2_with fail
      first | go_ret | refine ⟨_,results_tmp rfl _ _ _,?_⟩
      exact ⟨_,0,0,rfl,HX.out,.inl ⟨rfl,rfl⟩,Chg.refl _ _⟩
    · go_enter Tryz.func140,Tryz.ntmps140
      go_wp2_with fail
      first | go_ret | refine ⟨_,results_tmp rfl _ _ _,?_⟩
      exact ⟨_,0,c,rfl,HX.out,.inl ⟨rfl,rfl⟩,Chg.refl _ _⟩
theorem int_lsh (w0 w : World) (bz : Nat) (s : Option Addr) (n c : Nat) (X : Int) (hz : Recv w0 w bz s n c) (hx : IntA w bz s n c X) (hn : n < Big) :
    Calls Tryz.prog 123 #[ptr bz,ptr bz,.int .u64 1] w fun e w' => e = .returned (ptr bz) ∧ RDone w0 w w' bz s (X * 2) :=by
  have hl :=fun W (k : Chg w W (fun _ _ => False)) => nat_lsh W s n c X.natAbs (hx.nat.chg k fun _ _ _ _ h => h) hn
  obtain ⟨x0,x1,x2,x3,x4⟩ :=id hx
  go_enter Tryz.func123,Tryz.ntmps123
  go_wp2_with (first
    | (refine wp_region_lit_segs (id :=1) [[0,1,2,3,4,5,6,7,8,9,10,11,12,13]] mixed (by kernel_rfl) ?_;simp only [wpSegsL,gaC,gaN,lZ0,lS0,coS])
    | refine ⟨by kernel_rfl,?_⟩
    | (go_at_call 140;refine (hl _ (Chg.refl _ _).drew).mono ?_;rintro e w2 ⟨s',n',c',rfl,k1,k2,k3⟩;have k3 :=k3.of_drew;obtain ⟨⟨u',z0'⟩,z1',zf'⟩ :=hz.after k3;have f0' :=zf' 0;have f1' :=zf' 1;have k2 : Fr w s c s' c' :=(by exact k2);have y0 :=k3.at x0 (fun ⟨o',h⟩ => x4 _ h rfl);have y1 :=cs_ne (u :=.slice s' n' c') y0 (b' :=bz) (o' :=1) (by omega)))
  exact ⟨_,results_tmp rfl _ _ _,rfl,recv_done _ (by rw [Bool.eq_iff_iff];simp;omega) hz (by rw [Int.natAbs_mul];exact k1) k2 k3⟩
end Go.Proofs.YtfmmdamgcpiciaaGreatDoor
namespace Go.Proofs.YtfmmdamgcpiciaaGreatDoor
open Go Go.RowKit
structure Four (w W : World) (x y x' y' : Value) : Prop where
  k : Kept w W
  sz : W.heap.size = w.heap.size + 4
  a0 : W.cell? ⟨w.heap.size,0,none⟩ = some x
  a1 : W.cell? ⟨w.heap.size,1,none⟩ = some y
  b0 : W.cell? ⟨w.heap.size + 1,0,none⟩ = some x'
  b1 : W.cell? ⟨w.heap.size + 1,1,none⟩ = some y'
  S2 : Slot W (w.heap.size + 2)
  S3 : Slot W (w.heap.size + 3)
theorem four (w : World) (x y x' y' : Value) : Four w (Box (Box (Box (Box w x y) x' y') (.pointer none) (.int .i32 0)) (.pointer none) (.int .i32 0)) x y x' y' :=by
  have e1 : (Box w x y).heap.size = w.heap.size + 1 :=by simp
  have e2 : (Box (Box w x y) x' y').heap.size = w.heap.size + 2 :=by simp
  have e3 : (Box (Box (Box w x y) x' y') (.pointer none) (.int .i32 0)).heap.size = w.heap.size + 3 :=by simp
  have k1 :=boxK w x y
  have k2 :=boxK (Box w x y) x' y'
  have k3 :=boxK (Box (Box w x y) x' y') (.pointer none) (.int .i32 0)
  have k4 :=boxK (Box (Box (Box w x y) x' y') (.pointer none) (.int .i32 0)) (.pointer none) (.int .i32 0)
  have c0 :=box0 (Box w x y) x' y'
  have c1 :=box1 (Box w x y) x' y'
  have S2 :=(Slot.made (Box (Box w x y) x' y') (.pointer none) (.int .i32 0)).kept k4
  have S3 :=Slot.made (Box (Box (Box w x y) x' y') (.pointer none) (.int .i32 0)) (.pointer none) (.int .i32 0)
  rw [e1] at c0 c1
  rw [e2] at S2
  rw [e3] at S3
  exact ⟨kt k1 (kt k2 (kt k3 k4)),by simp,Kept.at (kt k2 (kt k3 k4)) (box0 w x y),Kept.at (kt k2 (kt k3 k4)) (box1 w x y),Kept.at (kt k3 k4) c0,Kept.at (kt k3 k4) c1,S2,S3⟩
theorem IntN.low {w0 w w' : World} {b : Nat} {X : Int} {M : Nat → Nat → Prop} (h : IntN w0 w b X) (hc : Chg w w' M) (hM : ∀ b o,M b o → b < w0.heap.size) : IntN w0 w' b X :=by
  obtain ⟨s,n,c,hA,hA2,hA3⟩ :=h
  exact ⟨s,n,c,hA.chg hc (fun o e => by have :=hM _ _ e;omega) (fun b o h o' e => by have :=hA3 _ h;have :=hM _ _ e;simp only at *;omega),hA2,hA3⟩
theorem results_5555 {fn : Func} {t u r q : Nat} {tmps : Array Value} {w : World} {x y x' y' : Value} (h : fn.results = #[.cell t 55,.cell u 55]) (hp : tmps.getD t undef = ptr r) (hq : tmps.getD u undef = ptr q) (h0 : w.cell? ⟨r,0,none⟩ = some x) (h1 : w.cell? ⟨r,1,none⟩ = some y) (h2 : w.cell? ⟨q,0,none⟩ = some x') (h3 : w.cell? ⟨q,1,none⟩ = some y') :
    (results fn tmps).run Tryz.prog w = .ok (.tuple #[.agg #[x,y],.agg #[x',y']]) w :=by
  obtain ⟨i0,hi,hz0,hz1,hz2⟩ :=info_parts info55
  have hp' : tmps[t]?.getD undef = ptr r :=by simpa using hp
  have hq' : tmps[u]?.getD undef = ptr q :=by simpa using hq
  simp [results,h,hp',hq',go_sem,hi,hz1,h0,h1,h2,h3]
theorem dec_quoRem (w0 w : World) (hg0 : Glob w0) (hk : Kept w0 w) (bb b1 b2 n : Nat) (e1 e2 X Y : Int) (h10 : IntAt w0 b1 X) (h20 : IntAt w0 b2 Y) (hb : w0.heap.size ≤ bb) (hz : ZeroInt w bb) (hY0 : Y ≠ 0) (hn : (n : Int) = e1 - e2 + 16) (hn4 : n ≤ 420) (hX : X.natAbs < W39) (hXn : (X * ((10 ^ n : Nat) : Int)).natAbs < W39) (l1 : -1000 ≤ e1) (u1 : e1 ≤ 1000) (l2 : -1000 ≤ e2) (u2 : e2 ≤ 1000) :
    Calls Tryz.prog 122 #[dv b1 e1,dv b2 e2,.int .i32 16,ptr bb] w fun r w' => (∃ bq br e,r = .returned (.tuple #[dv bq (-16),dv br e]) ∧ IntN w0 w' bq ((X * ((10 ^ n : Nat) : Int)).tdiv Y) ∧ IntN w0 w' br ((X * ((10 ^ n : Nat) : Int)).tmod Y) ∧ IntAt w' bb Y) ∧ Kept w0 w' :=by
  have T :=four w (ptr b1) (.int .i32 e1) (ptr b2) (.int .i32 e2)
  obtain ⟨W,hW⟩ : ∃ W,Box (Box (Box (Box w (ptr b1) (.int .i32 e1)) (ptr b2) (.int .i32 e2)) (.pointer none) (.int .i32 0)) (.pointer none) (.int .i32 0) = W :=⟨_,rfl⟩
  rw [hW] at T
  simp only [Box] at hW
  have HW :=Lib.hid hW
  have lb1 :=h10.lt
  have lb2 :=h20.lt
  have hk1 :=Chg.size hk
  have hg :=hg0.kept hk
  have h1 :=h10.kept hk
  have h2 :=h20.kept hk
  have lbb :=lt_of_cell hz.neg
  have hsg : (Int.sign Y == 0) = false :=by simp [hY0]
  have hN1 : e1 - e2 + 16 = (n : Int) :=hn.symm
  have hN2 : e1 - e2 - -16 = (n : Int) :=by omega
  have nn : (n : Int) ≤ 420 :=by omega
  have HX :=Lib.hid (And.intro hX hXn)
  obtain ⟨Q,hQ⟩ : ∃ Q,(X * ((10 ^ n : Nat) : Int)).tdiv Y = Q :=⟨_,rfl⟩
  obtain ⟨R,hR⟩ : ∃ R,(X * ((10 ^ n : Nat) : Int)).tmod Y = R :=⟨_,rfl⟩
  rw [hQ,hR]
  have HQ :=Lib.hid (And.intro hQ hR)
  clear hQ hR
  clear hW hX hXn hn
  obtain ⟨K,sz,a0,a1,c0,c1,S2,S3⟩ :=T
  have ce : ∀ W',Kept W W' → W'.cell? ⟨w.heap.size,0,none⟩ = some (ptr b1) ∧ W'.cell? ⟨w.heap.size,1,none⟩ = some (.int .i32 e1) ∧ W'.cell? ⟨w.heap.size + 1,0,none⟩ = some (ptr b2) ∧ W'.cell? ⟨w.heap.size + 1,1,none⟩ = some (.int .i32 e2) :=fun W' k => ⟨Kept.at k a0,Kept.at k a1,Kept.at k c0,Kept.at k c1⟩
  go_enter Tryz.func122,Tryz.ntmps122
  go_upto_region 1 with fail
  rw [HW.out]
  go_upto_region 10 with (first
    | (go_at_call 88;(with_reducible refine (dec_getValue _ _ _).mono ?_);rintro r w1 ⟨rfl,p1⟩;obtain ⟨x0,x1,x2,x3⟩ :=ce _ p1)
    | (go_at_call 95;(with_reducible refine (int_sign _ b2 Y (h2.kept (kt K p1))).mono ?_);rintro r w2 ⟨rfl,hw2⟩;rw [hw2];clear hw2))
  have Z9 :=ZeroInt.made w1
  have K9 : Kept W (w1.alloc (.cells #[.bool false,.slice none 0 0] 112)) :=kt p1 (Chg.alloc _ _ _)
  have hb9 : W.heap.size ≤ w1.heap.size :=Chg.size p1
  obtain ⟨W9,hW9⟩ : ∃ V,w1.alloc (.cells #[.bool false,.slice none 0 0] 112) = V :=⟨_,rfl⟩
  obtain ⟨ba,hba⟩ : ∃ b,w1.heap.size = b :=⟨_,rfl⟩
  rw [hW9,hba] at Z9
  rw [hW9] at K9
  rw [hba] at hb9
  simp only [hW9,hba]
  clear hW9 hba p1 x0 x1 x2 x3 a0 a1 c0 c1 HW w2
  obtain ⟨x0,x1,x2,x3⟩ :=ce _ K9
  have hm : ∀ W1 W2 b,Kept W9 W1 → IntN W1 W2 b ((10 ^ n : Nat) : Int) → Kept W1 W2 → Calls Tryz.prog 91 #[ptr ba,ptr b1,ptr b] W2 fun e w' => e = .returned (ptr ba) ∧ IntN W w' ba (X * ((10 ^ n : Nat) : Int)) ∧ Kept W w' :=by
    intro W1 W2 b k1 h3 k2
    have kk :=kt K9 (kt k1 k2)
    have hlt :=h3.ge
    have l9 : ba < W9.heap.size :=lt_of_cell Z9.neg
    have l91 :=Chg.size k1
    exact int_Mul W W2 (hg.kept (kt K kk)) kk ba b1 b hb9 (Z9.kept (kt k1 k2)) X _ (h1.kept (kt K kk)) h3.at (by omega) (by omega) (by omega) HX.out.1 (by
      rw [Int.natAbs_natCast]
      exact Nat.lt_of_le_of_lt (Nat.pow_le_pow_right (by decide) hn4) (by decide +kernel))
  obtain ⟨sY,nY,cY,hY0'⟩ :=h20
  have hY :=hY0'.kept hk
  have hsB : ∀ a,sY = some a → a.block < w0.heap.size :=fun a ha => by
    obtain ⟨_,_,_,_,_,hok,_⟩ :=hY0'.nat
    rcases hok with ⟨h,_⟩ | ⟨b,o,h,_,_,hlt⟩
    · rw [h] at ha;cases ha
    · rw [h] at ha;cases ha;exact hlt
  have yce : ∀ W',Kept W W' → W'.cell? ⟨b2,0,none⟩ = some (.bool (decide (Y < 0))) ∧ W'.cell? ⟨b2,1,none⟩ = some (.slice sY nY cY) :=fun W' k => ⟨Kept.at (kt K k) hY.neg,Kept.at (kt K k) hY.abs⟩
  have zce : ∀ W',Kept W W' → W'.cell? ⟨bb,0,none⟩ = some (.bool false) ∧ W'.cell? ⟨bb,1,none⟩ = some (.slice none 0 0) ∧ W'.frozen? ⟨bb,0,none⟩ = false ∧ W'.frozen? ⟨bb,1,none⟩ = false :=fun W' k => by
    obtain ⟨q0,q1,q2⟩ :=hz.kept (kt K k)
    exact ⟨q0,q1,q2 0,q2 1⟩
  obtain ⟨dY,hdY⟩ : ∃ b,decide (Y < 0) = b :=⟨_,rfl⟩
  rw [hdY] at yce
  go_upto_region 18 with (first
    | (go_at_call 88;(with_reducible refine (dec_getValue _ b1 e1).mono ?_);rintro r w3 ⟨rfl,p3⟩)
    | (go_at_call 92;(with_reducible refine (pow10 _ (hg.kept (kt K (kt K9 p3))) n hn4).mono ?_);rintro r w4 ⟨b4,rfl,p4,p5⟩)
    | (go_at_call 91;(with_reducible refine (hm _ _ _ p3 p4 p5).mono ?_);rintro r w5 ⟨rfl,g5,q5⟩;obtain ⟨x0,x1,x2,x3⟩ :=ce _ q5)
    | (go_at_call 88;(with_reducible refine (dec_getValue _ b2 e2).mono ?_);rintro r w6 ⟨rfl,p6⟩;have q6 :=kt q5 p6;obtain ⟨x0,x1,x2,x3⟩ :=ce _ q6;obtain ⟨y0,y1⟩ :=yce _ q6;obtain ⟨z0,z1,f0,f1⟩ :=zce _ q6;have z2 :=cs_ne (u :=.bool dY) z1 (b' :=bb) (o' :=0) (by omega)))
  have q1 :=put2_chg w6 bb (.bool dY) (.slice sY nY cY)
  obtain ⟨W7,hW7⟩ : ∃ V,(w6.setCell ⟨bb,0,none⟩ (.bool dY)).setCell ⟨bb,1,none⟩ (.slice sY nY cY) = V :=⟨_,rfl⟩
  have q1 : Chg w6 W7 (fun b _ => b = bb) :=hW7 ▸ q1
  have SB : Slot w6 bb :=⟨⟨_,z0⟩,⟨_,z1⟩,(hz.kept (kt K q6)).nf⟩
  have B7 : IntA W7 bb sY nY cY Y :=⟨by rw [hdY];exact hW7 ▸ put2_0 SB _ _,hW7 ▸ put2_1 SB _ _,(hY.nat.kept (kt K q6)).chg q1 (fun b o h o' e => by have :=hsB _ h;simp only at this;omega),(hz.kept (kt K q6)).nf.chg (lt_of_cell z0) q1,fun a ha => by have :=hsB a ha;omega⟩
  have A7 : IntN W W7 ba (X * ((10 ^ n : Nat) : Int)) :=by
    obtain ⟨sA,nA,cA,hA,hA2,hA3⟩ :=g5.kept p6
    exact ⟨sA,nA,cA,hA.chg q1 (fun o e => by omega) (fun b o h o' e => by have :=hA3 _ h;simp only at this;omega),hA2,hA3⟩
  have K7 : Kept w0 W7 :=(kt hk (kt K q6)).keptNew q1 fun b' _ h => by omega
  have T2 :=(S2.kept q6).chg q1 fun o => by omega
  have T3 :=(S3.kept q6).chg q1 fun o => by omega
  have hs7 : w.heap.size + 4 ≤ W7.heap.size :=by have :=Chg.size q1;have :=Chg.size q6;omega
  rw [hW7]
  clear hW7 q1 SB x0 x1 x2 x3 y0 y1 z0 z1 z2 f0 f1 g5 p3 p4 p5 p6 q5 q6 hm yce zce ce S2 S3 K9 Z9
  have Z1 : ZeroInt ((W7.alloc (.cells #[.bool false,.slice none 0 0] 112)).alloc (.cells #[.bool false,.slice none 0 0] 112)) W7.heap.size :=(ZeroInt.made W7).kept (Chg.alloc _ _ _)
  have Z2 :=ZeroInt.made (W7.alloc (.cells #[.bool false,.slice none 0 0] 112))
  have e7 : (W7.alloc (.cells #[.bool false,.slice none 0 0] 112)).heap.size = W7.heap.size + 1 :=by simp
  rw [e7] at Z2
  have K8 : Kept W7 ((W7.alloc (.cells #[.bool false,.slice none 0 0] 112)).alloc (.cells #[.bool false,.slice none 0 0] 112)) :=kt (Chg.alloc _ _ _) (Chg.alloc _ _ _)
  have lA :=A7.at.lt
  have lB :=lt_of_cell B7.neg
  have hq :=int_quoRem W7 _ (hg0.kept (kt K7 K8)) K8 W7.heap.size ba bb (W7.heap.size + 1) (by omega) (by omega) (by omega) Z1 Z2 _ Y (A7.at.kept K8) (IntAt.kept ⟨_,_,_,B7⟩ K8) (by omega) (by omega) (by omega) (by omega) hY0 HX.out.2
  rw [HQ.out.1,HQ.out.2] at hq
  have KA : Kept W7 (W7.alloc (.cells #[.bool false,.slice none 0 0] 112)) :=Chg.alloc _ _ _
  go_upto_region 22 with (go_at_call 139;(with_reducible refine hq.mono ?_);rintro r w8 ⟨rfl,u1,u2,u3⟩)
  have k8a : Kept w8 (w8.alloc (.cells #[ptr W7.heap.size,.int .i32 (-16)] 55)) :=Chg.alloc _ _ _
  have e8 : (w8.alloc (.cells #[ptr W7.heap.size,.int .i32 (-16)] 55)).heap.size = w8.heap.size + 1 :=by simp
  obtain ⟨W9,hW9⟩ : ∃ V,(w8.alloc (.cells #[ptr W7.heap.size,.int .i32 (-16)] 55)).alloc (.cells #[ptr (W7.heap.size + 1),.int .i32 (-16 + e2)] 55) = V :=⟨_,rfl⟩
  have k8b : Kept (w8.alloc (.cells #[ptr W7.heap.size,.int .i32 (-16)] 55)) W9 :=hW9 ▸ Chg.alloc _ _ _
  have i0 :=Kept.at k8b (box0 w8 (ptr W7.heap.size) (.int .i32 (-16)))
  have i1 :=Kept.at k8b (box1 w8 (ptr W7.heap.size) (.int .i32 (-16)))
  have j0 :=box0 (w8.alloc (.cells #[ptr W7.heap.size,.int .i32 (-16)] 55)) (ptr (W7.heap.size + 1)) (.int .i32 (-16 + e2))
  have j1 :=box1 (w8.alloc (.cells #[ptr W7.heap.size,.int .i32 (-16)] 55)) (ptr (W7.heap.size + 1)) (.int .i32 (-16 + e2))
  rw [e8] at j0 j1
  rw [show Box (w8.alloc (.cells #[ptr W7.heap.size,.int .i32 (-16)] 55)) (ptr (W7.heap.size + 1)) (.int .i32 (-16 + e2)) = W9 from hW9] at j0 j1
  have k9 :=kt u3 (kt k8a k8b)
  have T2 :=T2.kept k9
  have T3 :=T3.kept k9
  have l8 :=Chg.size u3
  have l9 : (W7.alloc (.cells #[.bool false,.slice none 0 0] 112)).heap.size = W7.heap.size + 1 :=by simp
  rw [show (w8.alloc (.cells #[.pointer (some ⟨W7.heap.size,0,none⟩),.int .i32 (-16)] 55)).alloc (.cells #[.pointer (some ⟨W7.heap.size + 1,0,none⟩),.int .i32 (-16 + e2)] 55) = W9 from hW9]
  clear hW9 k8a e8 hq
  obtain ⟨⟨v0,s0⟩,⟨v1,s1⟩,sf⟩ :=id T2
  obtain ⟨⟨v2,s2⟩,⟨v3,s3⟩,sg⟩ :=id T3
  have f0 :=sf 0
  have f1 :=sf 1
  have g0 :=sg 0
  have g1 :=sg 1
  have t2 :=cs_ne (u :=ptr W7.heap.size) s1 (b' :=w.heap.size + 2) (o' :=0) (by omega)
  have t3 :=cs_ne (u :=ptr (W7.heap.size + 1)) s3 (b' :=w.heap.size + 3) (o' :=0) (by omega)
  have c1 :=put2_chg W9 (w.heap.size + 2) (ptr W7.heap.size) (.int .i32 (-16))
  have j2 :=c1.at j0 (by omega)
  have j3 :=c1.at j1 (by omega)
  have s4 :=c1.at s2 (by omega)
  have s5 :=c1.at s3 (by omega)
  have t4 :=cs_ne (u :=ptr (W7.heap.size + 1)) s5 (b' :=w.heap.size + 3) (o' :=0) (by omega)
  go_region
  go_wp2_with fail
  have c2 :=put2_chg (put2 W9 (w.heap.size + 2) (ptr W7.heap.size) (.int .i32 (-16))) (w.heap.size + 3) (ptr (W7.heap.size + 1)) (.int .i32 (-16 + e2))
  have T3' :=T3.chg c1 fun o => by omega
  have L7 : w0.heap.size ≤ W7.heap.size :=Chg.size K7
  have I1 :=((((u1.kept (kt (Chg.alloc _ _ _) k8b)).low c1 fun b o e => by omega).low c2 fun b o e => by omega).older L7)
  have I2 :=((((u2.kept (kt (Chg.alloc _ _ _) k8b)).low c1 fun b o e => by omega).low c2 fun b o e => by omega).older L7)
  have B9 :=((B7.kept k9).chg c1 (fun o => by omega) (fun b o h o' e => by have :=hsB _ h;simp only at this;omega)).chg c2 (fun o => by omega) (fun b o h o' e => by have :=hsB _ h;simp only at this;omega)
  have KE :=((kt K7 k9).keptNew c1 fun b' _ h => by omega).keptNew c2 fun b' _ h => by omega
  exact bodyPost_ret (v :=.tuple #[dv W7.heap.size (-16),dv (W7.heap.size + 1) (-16 + e2)]) (results_5555 (t :=8) (u :=9) (r :=w.heap.size + 2) (q :=w.heap.size + 3) rfl rfl rfl (c2.at (put2_0 T2 _ _) (by omega)) (c2.at (put2_1 T2 _ _) (by omega)) (put2_0 T3' _ _) (put2_1 T3' _ _)) rfl ⟨⟨_,_,_,rfl,I1.kept (Chg.refl _ _).drew,I2.kept (Chg.refl _ _).drew,IntAt.kept ⟨_,_,_,B9⟩ (Chg.refl _ _).drew⟩,KE.drew⟩
end Go.Proofs.YtfmmdamgcpiciaaGreatDoor
