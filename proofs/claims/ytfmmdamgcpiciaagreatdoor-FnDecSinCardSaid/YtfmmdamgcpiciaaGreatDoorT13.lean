/- A part of the proof, joined out of the texts H29, H30, H32, H31; each theorem bears its own conditions. -/
import Derived.Deep.CutRange
import Derived.Test.YtfmmdamgcpiciaaGreatDoorT01
import Derived.Test.YtfmmdamgcpiciaaGreatDoorT11
import Derived.Test.YtfmmdamgcpiciaaGreatDoorT12
set_option linter.unusedVariables false
set_option linter.unusedSimpArgs false
set_option linter.all false
set_option maxHeartbeats 9000000
set_option exponentiation.threshold 400000
set_option maxRecDepth 1000000
namespace Go.Proofs.YtfmmdamgcpiciaaGreatDoor
open Go Go.RowKit
structure VC (w : World) (p : Nat) (b : Bool) (s : Option Addr) (n c : Nat) (A : Int) : Prop where
  c0 : w.cell? ⟨p,0,none⟩ = some (.bool b)
  c1 : w.cell? ⟨p,1,none⟩ = some (.slice s n c)
  wv : Hid (WV w (.agg #[.bool b,.slice s n c]) A)
  nf : NF w p
def V28 (w : World) (p : Nat) (A : Int) : Prop :=∃ b s n c,VC w p b s n c A
theorem VC.kept {w w' : World} {p : Nat} {b : Bool} {s : Option Addr} {n c : Nat} {A : Int} (h : VC w p b s n c A) (k : Kept w w') : VC w' p b s n c A :=
  ⟨Kept.at k h.c0,Kept.at k h.c1,Lib.hid (h.wv.out.kept k),h.nf.chg (lt_of_cell h.c0) k⟩
theorem VC.other {w : World} {p q : Nat} {b : Bool} {s : Option Addr} {n c : Nat} {A : Int} {b' : Bool} {s' : Option Addr} {n' c' : Nat} {B : Int} {x y : Value} (h : VC w p b s n c A) (hq : VC w q b' s' n' c' B) (hne : p ≠ q) : VC (put2 w q x y) p b s n c A :=by
  have hc :=put2_chg w q x y
  exact ⟨hc.at h.c0 (fun e => hne e),hc.at h.c1 (fun e => hne e),Lib.hid (h.wv.out.set hq.c0 hc),h.nf.chg (lt_of_cell h.c0) hc⟩
theorem VC.put {w : World} {q : Nat} {b : Bool} {s : Option Addr} {n c : Nat} {A : Int} {b' : Bool} {s' : Option Addr} {n' c' : Nat} {B : Int} (hq : VC w q b' s' n' c' B) (h : Hid (WV w (.agg #[.bool b,.slice s n c]) A)) : VC (put2 w q (.bool b) (.slice s n c)) q b s n c A :=by
  have S : Slot w q :=⟨⟨_,hq.c0⟩,⟨_,hq.c1⟩,hq.nf⟩
  have hc :=put2_chg w q (.bool b) (.slice s n c)
  exact ⟨put2_0 S _ _,put2_1 S _ _,Lib.hid (h.out.set hq.c0 hc),hq.nf.chg (lt_of_cell hq.c0) hc⟩
theorem VC.new {w : World} {b : Bool} {s : Option Addr} {n c : Nat} {A : Int} (h : Hid (WV w (.agg #[.bool b,.slice s n c]) A)) : VC (w.alloc (.cells #[.bool b,.slice s n c] 28)) w.heap.size b s n c A :=
  ⟨box28_0 _ _ _,box28_1 _ _ _,Lib.hid (h.out.kept (Chg.alloc _ _ _)),(slot28 w _ _).nf⟩
abbrev RW (W : World) (A : Int) : Ending → World → Prop :=fun r w' => (∃ b s n c,r = .returned (.agg #[.bool b,.slice s n c]) ∧ Hid (WV w' (.agg #[.bool b,.slice s n c]) A)) ∧ Kept W w'
theorem toRW {f : FuncId} {args : Array Value} {W : World} {A : Int} (h : Calls Tryz.prog f args W fun r w' => (∃ v,r = .returned v ∧ WV w' v A) ∧ Kept W w') : Calls Tryz.prog f args W (RW W A) :=
  h.mono (by
    rintro r w' ⟨⟨v,rfl,s,n,c,rfl,d⟩,k⟩
    exact ⟨⟨_,s,n,c,rfl,Lib.hid ⟨s,n,c,rfl,d⟩⟩,k⟩)
abbrev RD (W : World) (A e : Int) : Ending → World → Prop :=fun r w' => (∃ b s n c,r = .returned (.agg #[.bool b,.slice s n c,.int .i64 e]) ∧ Hid (WV w' (.agg #[.bool b,.slice s n c]) A)) ∧ Kept W w'
theorem toRD {f : FuncId} {args : Array Value} {W : World} {A e : Int} (h : Calls Tryz.prog f args W fun r w' => (∃ v,r = .returned v ∧ DV w' v A e) ∧ Kept W w') : Calls Tryz.prog f args W (RD W A e) :=
  h.mono (by
    rintro r w' ⟨⟨v,rfl,s,n,c,rfl,d⟩,k⟩
    exact ⟨⟨_,s,n,c,rfl,Lib.hid ⟨s,n,c,rfl,d⟩⟩,k⟩)
theorem modify_same {α : Type} (a : Array α) (b : Nat) (f : α → α) (h : ∀ o,a[b]? = some o → f o = o) : a.modify b f = a :=by
  apply Array.ext_getElem?
  intro i
  rw [Array.getElem?_modify]
  split
  · rename_i hi
    subst hi
    cases hb : a[b]? with
    | none => rfl
    | some o => rw [Option.map_some,h o hb]
  · rfl
theorem setCell_same {w : World} {b o : Nat} {v : Value} (h : w.cell? ⟨b,o,none⟩ = some v) : w.setCell ⟨b,o,none⟩ v = w :=by
  unfold World.setCell
  rw [modify_same]
  intro ob hb
  unfold World.cell? at h
  rw [hb] at h
  cases ob with
  | cells c t f =>
    simp at h
    simp only [Option.isSome_none,Bool.false_eq_true,if_false]
    congr 1
    apply Array.ext_getElem?
    intro j
    rw [Array.getElem?_setIfInBounds]
    split
    · rename_i hj
      subst hj
      split
      · exact h.symm
      · rename_i hlt
        rw [Array.getElem?_eq_none (by omega)] at h
        cases h
    · rfl
  | _ => rfl
theorem results_2828 {fn : Func} {t u r q : Nat} {tmps : Array Value} {w : World} {x y x' y' : Value} (h : fn.results = #[.cell t 28,.cell u 28]) (hp : tmps.getD t undef = ptr r) (hq : tmps.getD u undef = ptr q) (h0 : w.cell? ⟨r,0,none⟩ = some x) (h1 : w.cell? ⟨r,1,none⟩ = some y) (h2 : w.cell? ⟨q,0,none⟩ = some x') (h3 : w.cell? ⟨q,1,none⟩ = some y') :
    (results fn tmps).run Tryz.prog w = .ok (.tuple #[.agg #[x,y],.agg #[x',y']]) w :=by
  obtain ⟨i0,hi,hz0,hz1,hz2⟩ :=info_parts info28
  have hp' : tmps[t]?.getD undef = ptr r :=by simpa using hp
  have hq' : tmps[u]?.getD undef = ptr q :=by simpa using hq
  simp [results,h,hp',hq',go_sem,hi,hz1,h0,h1,h2,h3]
theorem cutq_exact (N : Int) (k p : Nat) (h : k ≤ p) : cutq N (10 ^ k) p = N * (10 ^ (p - k) : Nat) :=by
  unfold cutq
  have e : N.natAbs * 10 ^ p / 10 ^ k = N.natAbs * 10 ^ (p - k) :=by
    rw [show p = (p - k) + k by omega,Nat.pow_add,← Nat.mul_assoc,Nat.mul_div_cancel _ (Nat.pow_pos (by decide)),Nat.add_sub_cancel]
  rw [e]
  unfold sgn
  by_cases hn : N < 0
  · rw [if_pos (decide_eq_true hn),Int.natCast_mul,← Int.neg_mul]
    congr 1
    omega
  · rw [if_neg (by simpa using hn),Int.natCast_mul]
    congr 1
    omega
theorem cutq_tdiv (N : Int) (D : Nat) (hD : 0 < D) : cutq N D 0 = N.tdiv (D : Int) :=by
  unfold cutq
  rw [Nat.pow_zero,Nat.mul_one]
  unfold sgn
  by_cases hn : N < 0
  · obtain ⟨m,rfl⟩ : ∃ m : Nat,N = -(m : Int) :=⟨N.natAbs,by omega⟩
    rw [if_pos (decide_eq_true hn),Int.neg_tdiv,Int.natAbs_neg,Int.natAbs_natCast,Int.ofNat_tdiv]
  · obtain ⟨m,rfl⟩ : ∃ m : Nat,N = (m : Int) :=⟨N.natAbs,by omega⟩
    rw [if_neg (by simpa using hn),Int.natAbs_natCast,Int.ofNat_tdiv]
theorem Sm.of (X n : Nat) (h : X < 10 ^ n) (hn : n ≤ 3000) : X < L9 ^ 100000 ∧ Sm X :=by
  have h1 : X < 10 ^ 3000 :=Nat.lt_of_lt_of_le h (Nat.pow_le_pow_right (by decide) hn)
  have h2 : 10 ^ 3000 ≤ L9 ^ 334 :=by decide +kernel
  have h3 : X < L9 ^ 334 :=Nat.lt_of_lt_of_le h1 h2
  exact ⟨Nat.lt_of_lt_of_le h3 (Nat.pow_le_pow_right (by decide) (by decide)),Nat.lt_of_lt_of_le h3 (Nat.pow_le_pow_right (by decide) (by decide))⟩
theorem FV.of {w : World} {b : Bool} {s : Option Addr} {n c : Nat} {A : Int} (h : Hid (WV w (.agg #[.bool b,.slice s n c]) A)) {s2 : Option Addr} {n2 c2 X : Nat} (hd : Dig w s2 n2 c2 X) : FV w (.agg #[.bool b,.slice s n c,.slice s2 n2 c2]) A X :=by
  obtain ⟨e,hd1⟩ :=h.out.nv
  exact ⟨s,n,c,s2,n2,c2,by rw [e],hd1,hd⟩
abbrev sumSC (sg : Nat → Int) (x : Int) (n : Nat) : Int :=Plain.sumTo (fun i => sg i * Plain.part Plain.D40 x i) n
def sumC (x : Int) : Int :=sumSC Plain.sgC x 82
theorem sums_sm {x : Int} (hx : x.natAbs ≤ 10 * Plain.D40) {n : Nat} (hn : n ≤ 82) {sg : Nat → Int} (hs : ∀ n,(sg n).natAbs ≤ 1) : (sumSC sg x n).natAbs < 10 ^ 130 :=by
  have :=Plain.sum_le hs hx n hn
  refine Nat.lt_of_le_of_lt this ?_
  have h2 : n * 10 ^ 122 ≤ 82 * 10 ^ 122 :=Nat.mul_le_mul_right _ hn
  exact Nat.lt_of_le_of_lt h2 (by decide)
theorem step_1 (x : Int) (n : Nat) (h : n % 4 = 0) : sumSC Plain.sgC x (n + 1) = sumSC Plain.sgC x n + Plain.part Plain.D40 x n ∧ sumSC Plain.sgS x (n + 1) = sumSC Plain.sgS x n :=by
  simp only [sumSC,Plain.sumTo]
  have e1 : Plain.sgC n = 1 :=by simp [Plain.sgC,h]
  have e2 : Plain.sgS n = 0 :=by simp [Plain.sgS,h]
  rw [e1,e2]
  omega
theorem step_2 (x : Int) (n : Nat) (h : n % 4 = 1) : sumSC Plain.sgC x (n + 1) = sumSC Plain.sgC x n ∧ sumSC Plain.sgS x (n + 1) = sumSC Plain.sgS x n + Plain.part Plain.D40 x n :=by
  simp only [sumSC,Plain.sumTo]
  have e1 : Plain.sgC n = 0 :=by simp [Plain.sgC,h]
  have e2 : Plain.sgS n = 1 :=by simp [Plain.sgS,h]
  rw [e1,e2]
  omega
theorem step_3 (x : Int) (n : Nat) (h : n % 4 = 2) : sumSC Plain.sgC x (n + 1) = sumSC Plain.sgC x n + -Plain.part Plain.D40 x n ∧ sumSC Plain.sgS x (n + 1) = sumSC Plain.sgS x n :=by
  simp only [sumSC,Plain.sumTo]
  have e1 : Plain.sgC n = -1 :=by simp [Plain.sgC,h]
  have e2 : Plain.sgS n = 0 :=by simp [Plain.sgS,h]
  rw [e1,e2]
  omega
theorem step_0 (x : Int) (n : Nat) (h : n % 4 = 3) : sumSC Plain.sgC x (n + 1) = sumSC Plain.sgC x n ∧ sumSC Plain.sgS x (n + 1) = sumSC Plain.sgS x n + -Plain.part Plain.D40 x n :=by
  simp only [sumSC,Plain.sumTo]
  have e1 : Plain.sgC n = 0 :=by simp [Plain.sgC,h]
  have e2 : Plain.sgS n = -1 :=by simp [Plain.sgS,h]
  rw [e1,e2]
  omega
theorem part_next (x : Int) (n : Nat) : cutq (Plain.part Plain.D40 x n * x) (Plain.D40 * (n + 1)) 0 = Plain.part Plain.D40 x (n + 1) :=by
  rw [cutq_tdiv _ _ (Nat.mul_pos (by decide) (Nat.succ_pos n))]
  rfl
@[go_sem] theorem field37_0 (a b c : Value) (w : World) : (Instr.field 37 (.agg #[a,b,c]) 0).run Tryz.prog w = .ok (.agg #[a,b]) w :=by kernel_rfl
theorem cmpZ_zero (A : Int) : cmpZ A 0 = 0 ↔ A = 0 :=by
  unfold cmpZ
  constructor
  · intro h
    split at h
    · omega
    · split at h <;> omega
  · rintro rfl
    simp
theorem x_small {N : Int} {k : Nat} (hk : k ≤ 18) (hN : N.natAbs < 10 ^ (k + 1)) : (N * ((10 ^ (40 - k) : Nat) : Int)).natAbs ≤ 10 * Plain.D40 :=by
  rw [Int.natAbs_mul,Int.natAbs_natCast]
  have h1 :=Nat.mul_le_mul_right (10 ^ (40 - k)) (Nat.le_of_lt hN)
  rw [← Nat.pow_add,show k + 1 + (40 - k) = 41 by omega] at h1
  exact Nat.le_trans h1 (by decide +kernel)
theorem part_lt {x : Int} (hx : x.natAbs ≤ 10 * Plain.D40) {n : Nat} (h : Plain.part Plain.D40 x n ≠ 0) : n < 82 :=by
  refine Nat.lt_of_not_le fun hn => h ?_
  have :=Plain.part_zero (Plain.part82 hx) (n - 82)
  rw [Nat.add_sub_cancel' hn] at this
  exact this
theorem sinCos (w : World) (v : Value) (N : Int) (k : Nat) (hv : FV w v N (10 ^ k)) (hk : k ≤ 18) (hN : N.natAbs < 10 ^ (k + 1)) : Calls Tryz.prog 11 #[v,.int .i64 40] w fun r w' => (∃ v1 v2,r = .returned (.tuple #[v1,v2]) ∧ WV w' v1 (Plain.sumS (N * ((10 ^ (40 - k) : Nat) : Int))) ∧ WV w' v2 (sumC (N * ((10 ^ (40 - k) : Nat) : Int)))) ∧ Kept w w' :=by
  have hx :=x_small hk hN
  have h36 : ∀ W',Kept w W' → Calls Tryz.prog 36 #[v,.int .i64 40,.int .i64 0] W' (RD W' (N * ((10 ^ (40 - k) : Nat) : Int)) (-40)) :=fun W' k' => toRD (by
    have :=fracRound W' v N (10 ^ k) 40 (hv.kept k') (Nat.pow_pos (by decide)) (by decide) (Sm.of _ _ hN (by omega)).1 (Sm.of _ (k + 1) (Nat.pow_lt_pow_right (by decide) (by omega)) (by omega)).1
    rw [cutq_exact N k 40 (by omega)] at this
    exact this)
  have h17 : ∀ W',Calls Tryz.prog 17 #[.int .i64 40] W' fun e w' => (∃ v,e = .returned v ∧ NV w' v (10 ^ 40)) ∧ Kept W' w' :=fun W' => natPow10 W' 40 (by decide)
  generalize N * ((10 ^ (40 - k) : Nat) : Int) = x at *
  obtain ⟨q,hq⟩ : ∃ q,10 ^ 40 = q :=⟨_,rfl⟩
  rw [hq] at h17
  have HQ :=Lib.hid hq
  have HX :=Lib.hid hx
  obtain ⟨s1,n1,c1,s2,n2,c2,rfl,d1,d2⟩ :=hv
  obtain ⟨bN,hbN⟩ : ∃ b,decide (N < 0) = b :=⟨_,rfl⟩
  rw [hbN] at h36 ⊢
  clear hbN d1 d2 hq hx hN hk
  have kA : Kept w (w.alloc (.cells #[.bool bN,.slice s1 n1 c1,.slice s2 n2 c2] 30)) :=Chg.alloc _ _ _
  have kB : Kept (w.alloc (.cells #[.bool bN,.slice s1 n1 c1,.slice s2 n2 c2] 30)) ((w.alloc (.cells #[.bool bN,.slice s1 n1 c1,.slice s2 n2 c2] 30)).alloc (.cells #[.bool false,.slice none 0 0] 28)) :=Chg.alloc _ _ _
  have kC : Kept ((w.alloc (.cells #[.bool bN,.slice s1 n1 c1,.slice s2 n2 c2] 30)).alloc (.cells #[.bool false,.slice none 0 0] 28)) (((w.alloc (.cells #[.bool bN,.slice s1 n1 c1,.slice s2 n2 c2] 30)).alloc (.cells #[.bool false,.slice none 0 0] 28)).alloc (.cells #[.bool false,.slice none 0 0] 28)) :=Chg.alloc _ _ _
  have z0 : ∀ W',Hid (WV W' (.agg #[.bool false,.slice none 0 0]) 0) :=fun W' => Lib.hid (by obtain ⟨s,n,c,e,h⟩ :=NV.nil W';cases e;exact ⟨none,0,0,rfl,h⟩)
  obtain ⟨q0,q1,q2⟩ :=box3_cells w (.bool bN) (.slice s1 n1 c1) (.slice s2 n2 c2) 30
  have q0 :=Kept.at (kt kB kC) q0
  have q1 :=Kept.at (kt kB kC) q1
  have q2 :=Kept.at (kt kB kC) q2
  have v4 :=(VC.new (z0 (w.alloc (.cells #[.bool bN,.slice s1 n1 c1,.slice s2 n2 c2] 30)))).kept kC
  have v5 :=VC.new (z0 ((w.alloc (.cells #[.bool bN,.slice s1 n1 c1,.slice s2 n2 c2] 30)).alloc (.cells #[.bool false,.slice none 0 0] 28)))
  have e1 : (w.alloc (.cells #[.bool bN,.slice s1 n1 c1,.slice s2 n2 c2] 30)).heap.size = w.heap.size + 1 :=by simp
  have e2 : ((w.alloc (.cells #[.bool bN,.slice s1 n1 c1,.slice s2 n2 c2] 30)).alloc (.cells #[.bool false,.slice none 0 0] 28)).heap.size = w.heap.size + 2 :=by simp
  have e3 : (((w.alloc (.cells #[.bool bN,.slice s1 n1 c1,.slice s2 n2 c2] 30)).alloc (.cells #[.bool false,.slice none 0 0] 28)).alloc (.cells #[.bool false,.slice none 0 0] 28)).heap.size = w.heap.size + 3 :=by simp
  rw [e1] at v4
  rw [e2] at v5
  have k0 :=kt kA (kt kB kC)
  obtain ⟨W,hW⟩ : ∃ W,(((w.alloc (.cells #[.bool bN,.slice s1 n1 c1,.slice s2 n2 c2] 30)).alloc (.cells #[.bool false,.slice none 0 0] 28)).alloc (.cells #[.bool false,.slice none 0 0] 28)) = W :=⟨_,rfl⟩
  rw [hW] at q0 q1 q2 v4 v5 e3 k0
  have HW :=Lib.hid hW
  clear hW kA kB kC e1 e2
  go_enter Tryz.func11,Tryz.ntmps11
  go_upto_region 1 with fail
  rw [HW.out]
  go_wp2_with (first
    | (go_at_call 36;(with_reducible refine (h36 _ k0).mono ?_);rintro r w1 ⟨⟨b6,s6,n6,c6,rfl,g6⟩,p1⟩)
    | (go_at_call 17;(with_reducible refine (h17 _).mono ?_);rintro r w2 ⟨⟨v2,rfl,s7,n7,c7,rfl,d7⟩,p2⟩))
  have kD : Kept w1 (w1.alloc (.cells #[.bool b6,.slice s6 n6 c6] 28)) :=Chg.alloc _ _ _
  have kE : Kept w2 (w2.alloc (.cells #[.bool false,.slice s7 n7 c7] 28)) :=Chg.alloc _ _ _
  have h6 : w.heap.size + 3 ≤ w1.heap.size :=by have :=Chg.size p1;omega
  have h7 : w1.heap.size < w2.heap.size :=by
    have :=Chg.size p2
    simp only [World.size_alloc] at this
    omega
  have v6 :=(VC.new g6).kept (kt p2 kE)
  have v7 :=VC.new (Lib.hid (WV.nat d7))
  have v4 :=v4.kept (kt p1 (kt kD (kt p2 kE)))
  have v5 :=v5.kept (kt p1 (kt kD (kt p2 kE)))
  have kF :=kt k0 (kt p1 (kt kD (kt p2 kE)))
  rw [← HQ.out] at v7
  have HZ :=Lib.hid (And.intro v4 (And.intro v5 (And.intro v6 (And.intro v7 kF))))
  clear v4 v5 v6 v7 kF kD kE g6 d7 p1 p2 q0 q1 q2 e3 k0 z0 h36
  go_loopw [8] (fun t8 wx => ∃ (n : Nat) (T : Int),t8 = .int .i64 T ∧ Hid (T = (n : Int) + 1) ∧ 1 ≤ T ∧ T ≤ 83 ∧ Hid (V28 wx w2.heap.size (Plain.part Plain.D40 x n)) ∧ Hid (V28 wx w1.heap.size x) ∧ Hid (V28 wx (w.heap.size + 2) (sumSC Plain.sgC x n)) ∧ Hid (V28 wx (w.heap.size + 1) (sumSC Plain.sgS x n)) ∧ Hid (Kept w wx)) (fun t8 _ => 84 - (intOf t8).toNat)
  case atStart =>
    obtain ⟨v4,v5,v6,v7,kF⟩ :=HZ.out
    exact ⟨0,1,rfl,Lib.hid rfl,by decide,by decide,Lib.hid ⟨_,_,_,_,v7⟩,Lib.hid ⟨_,_,_,_,v6⟩,Lib.hid ⟨_,_,_,_,v5⟩,Lib.hid ⟨_,_,_,_,v4⟩,Lib.hid kF⟩
  case round =>
    clear HZ
    obtain ⟨n,T,rfl,hT,hT1,hT2,hP,hX,hC,hS,hK⟩ :=hrel
    have hn82 : n ≤ 82 :=by have :=hT.out;omega
    obtain ⟨P,eP⟩ : ∃ P,Plain.part Plain.D40 x n = P :=⟨_,rfl⟩
    obtain ⟨C,eC⟩ : ∃ P,sumSC Plain.sgC x n = P :=⟨_,rfl⟩
    obtain ⟨S,eS⟩ : ∃ P,sumSC Plain.sgS x n = P :=⟨_,rfl⟩
    rw [eP] at hP
    rw [eC] at hC
    rw [eS] at hS
    have EP :=Lib.hid eP
    have EC :=Lib.hid eC
    have ES :=Lib.hid eS
    have hBP : Hid (P.natAbs < 10 ^ 130) :=Lib.hid (by
      have :=Plain.part_le HX.out hn82
      rw [eP] at this
      exact Nat.lt_of_le_of_lt this (by decide +kernel))
    have hBC : Hid (C.natAbs < 10 ^ 130) :=Lib.hid (eC ▸ sums_sm HX.out hn82 Plain.sgC_le)
    have hBS : Hid (S.natAbs < 10 ^ 130) :=Lib.hid (eS ▸ sums_sm HX.out hn82 Plain.sgS_le)
    have hBX : Hid (x.natAbs < 10 ^ 130) :=Lib.hid (Nat.lt_of_le_of_lt HX.out (by decide +kernel))
    clear eP eC eS
    obtain ⟨bP,sP,nP,cP,vP⟩ :=hP.out
    obtain ⟨bX,sX,nX,cX,vX⟩ :=hX.out
    obtain ⟨bC,sC,nC,cC,vC⟩ :=hC.out
    obtain ⟨bS,sS,nS,cS,vS⟩ :=hS.out
    clear hP hX hC hS
    have ce : ∀ W',Kept wr W' → W'.cell? ⟨w2.heap.size,0,none⟩ = some (.bool bP) ∧ W'.cell? ⟨w2.heap.size,1,none⟩ = some (.slice sP nP cP) ∧ W'.cell? ⟨w1.heap.size,0,none⟩ = some (.bool bX) ∧ W'.cell? ⟨w1.heap.size,1,none⟩ = some (.slice sX nX cX) ∧ W'.cell? ⟨w.heap.size + 2,0,none⟩ = some (.bool bC) ∧ W'.cell? ⟨w.heap.size + 2,1,none⟩ = some (.slice sC nC cC) ∧ W'.cell? ⟨w.heap.size + 1,0,none⟩ = some (.bool bS) ∧ W'.cell? ⟨w.heap.size + 1,1,none⟩ = some (.slice sS nS cS) :=fun W' k => ⟨Kept.at k vP.c0,Kept.at k vP.c1,Kept.at k vX.c0,Kept.at k vX.c1,Kept.at k vC.c0,Kept.at k vC.c1,Kept.at k vS.c0,Kept.at k vS.c1⟩
    obtain ⟨a0,a1,a2,a3,a4,a5,a6,a7⟩ :=ce _ (Chg.refl _ _)
    obtain ⟨g,hg⟩ : ∃ g,cmpZ P 0 = g :=⟨_,rfl⟩
    have h37 : ∀ W',Kept wr W' → Calls Tryz.prog 37 #[.agg #[.bool bP,.slice sP nP cP]] W' fun r w' => r = .returned (.int .i64 g) ∧ Kept W' w' :=fun W' k => by
      have :=wholeSign W' _ P (vP.wv.out.kept k)
      rw [hg] at this;exact this
    by_cases hg0 : g = 0
    · have hP0 : P = 0 :=(cmpZ_zero P).1 (hg.trans hg0)
      have HP0 :=Lib.hid hP0
      subst hg0
      clear hP0 hg
      go_wp2_with (first
        | (refine wp_region_lit_segs (id :=15) [[0,1,2],[3]] mixed (by kernel_rfl) ?_;simp only [wpSegsL,gaC,gaN,lZ0,lS0,coS])
        | refine ⟨by kernel_rfl,?_⟩
        | refine ⟨by kernel_rfl,oldD (by first | assumption | exact Chg.refl _ _ | exact (Chg.refl _ _).drew | exact kt (by first | assumption | exact (Chg.refl _ _).drew | exact Chg.refl _ _) (ziK _) | exact Chg.drew (by assumption)),?_⟩
        | refine ⟨oldD (by first | assumption | exact Chg.refl _ _ | exact (Chg.refl _ _).drew | exact kt (by first | assumption | exact (Chg.refl _ _).drew | exact Chg.refl _ _) (ziK _) | exact Chg.drew (by assumption)),?_⟩
        | (with_reducible refine And.intro ?_ ?_)
        | (go_at_call 37;(with_reducible refine (h37 _ (Chg.refl _ _)).mono ?_);rintro r w4 ⟨rfl,p4⟩;obtain ⟨y0,y1,y2,y3,y4,y5,y6,y7⟩ :=ce _ p4;have i0 :=setCell_same (w :=w4.drew) y4;have i1 :=setCell_same (w :=w4.drew) y5;have i2 :=setCell_same (w :=w4.drew) y6;have i3 :=setCell_same (w :=w4.drew) y7;have f0 :=(vC.kept p4).nf 0;have f1 :=(vC.kept p4).nf 1;have f2 :=(vS.kept p4).nf 0;have f3 :=(vS.kept p4).nf 1)
        | (refine ⟨by kernel_rfl,oldD (Chg.refl _ _).drew,?_⟩)
        | (refine ⟨oldD (Chg.refl _ _).drew,?_⟩))
      have uS :=(vS.kept p4).wv.out
      have uC :=(vC.kept p4).wv.out
      have hend : Plain.part Plain.D40 x n = 0 :=EP.out.trans HP0.out
      have t1 :=Plain.sum_end (sg :=Plain.sgS) HX.out hend
      have t2 :=Plain.sum_end (sg :=Plain.sgC) HX.out hend
      rw [show Plain.sumTo (fun i => Plain.sgS i * Plain.part Plain.D40 x i) n = S from ES.out] at t1
      rw [show Plain.sumTo (fun i => Plain.sgC i * Plain.part Plain.D40 x i) n = C from EC.out] at t2
      rw [t1] at uS
      rw [t2] at uC
      exact ⟨_,results_2828 (r :=w.heap.size + 1) (q :=w.heap.size + 2) rfl rfl rfl y6 y7 y4 y5,⟨_,_,rfl,uS.kept (Chg.refl _ _).drew,uC.kept (Chg.refl _ _).drew⟩,(kt hK.out p4).drew⟩
    have hP0 : P ≠ 0 :=fun h => hg0 (hg.symm.trans ((cmpZ_zero P).2 h))
    have hn82 : n < 82 :=part_lt HX.out (by rw [EP.out];exact hP0)
    have hT3 : T ≤ 82 :=by have :=hT.out;omega
    clear hg hP0
    obtain ⟨PX,ePX⟩ : ∃ Z,P * x = Z :=⟨_,rfl⟩
    have hmul : ∀ W' v1 v2,WV W' v1 P → WV W' v2 x → Calls Tryz.prog 39 #[v1,v2] W' fun r w' => (∃ v',r = .returned v' ∧ WV w' v' PX) ∧ Kept W' w' :=fun W' v1 v2 g1 g2 => by
      have :=wholeMul W' v1 v2 P x g1 g2 (Sm.of _ 130 hBP.out (by decide)).2 (Sm.of _ 130 hBX.out (by decide)).2
      rw [ePX] at this;exact this
    have hmul :=hmul
    obtain ⟨P1,eP1⟩ : ∃ Z,Plain.part Plain.D40 x (n + 1) = Z :=⟨_,rfl⟩
    have hqn : cutq PX (q * (n + 1)) 0 = P1 :=by
      rw [← eP1,← part_next,EP.out,ePX,← HQ.out]
    have hBPX : PX.natAbs < 10 ^ 260 :=by
      rw [← ePX,Int.natAbs_mul,show 260 = 130 + 130 from rfl,Nat.pow_add]
      exact Nat.mul_lt_mul'' hBP.out hBX.out
    have h41 : ∀ W',Calls Tryz.prog 41 #[.int .u64 T] W' fun r w' => (∃ v,r = .returned v ∧ NV w' v (n + 1)) ∧ Kept W' w' :=fun W' => by
      have :=natFrom W' (n + 1) (by omega)
      rw [show ((n + 1 : Nat) : Int) = T by have :=hT.out;omega] at this
      exact this
    have h40 : ∀ W' s m c s' m' c',Hid (Dig W' s m c q) → Hid (Dig W' s' m' c' (n + 1)) → Calls Tryz.prog 40 #[.slice s m c,.slice s' m' c'] W' fun r w' => (∃ v,r = .returned v ∧ NV w' v (q * (n + 1))) ∧ Kept W' w' :=fun W' s m c s' m' c' g1 g2 => by
      have l1 :=g1.out.sm (Sm.of _ 41 (by rw [← HQ.out];decide +kernel) (by decide)).2
      have l2 :=g2.out.sm (Sm.of _ 41 (Nat.lt_of_le_of_lt (show n + 1 ≤ 82 by omega) (by decide +kernel)) (by decide)).2
      exact natMul W' s s' m m' c c' q (n + 1) g1.out g2.out (by omega) (by omega)
    have h36b : ∀ W' b s m c s' m' c',Hid (WV W' (.agg #[.bool b,.slice s m c]) PX) → Hid (Dig W' s' m' c' (q * (n + 1))) → Calls Tryz.prog 36 #[.agg #[.bool b,.slice s m c,.slice s' m' c'],.int .i64 0,.int .i64 0] W' (RD W' P1 0) :=fun W' b s m c s' m' c' g1 g2 => toRD (by
      have hq0 : 0 < q * (n + 1) :=Nat.mul_pos (by rw [← HQ.out];exact Nat.pow_pos (by decide)) (by omega)
      have hq1 : q * (n + 1) < 10 ^ 43 :=by
        have h1 : q * (n + 1) ≤ q * 82 :=Nat.mul_le_mul_left _ (by omega)
        refine Nat.lt_of_le_of_lt h1 ?_
        rw [← HQ.out];decide +kernel
      have :=fracRound W' _ PX (q * (n + 1)) 0 (FV.of g1 g2.out) hq0 (by decide) (Sm.of _ 260 hBPX (by decide)).1 (Sm.of _ 43 hq1 (by decide)).1
      rw [hqn] at this
      exact this)
    have h10 : ∀ W',Kept wr W' → Calls Tryz.prog 10 #[.agg #[.bool bP,.slice sP nP cP]] W' (RW W' (-P)) :=fun W' k => toRW (wholeMinus W' _ P (vP.wv.out.kept k))
    have EN :=Lib.hid eP1
    have HM :=Lib.hid hmul
    obtain ⟨D,eD⟩ : ∃ D,q * (n + 1) = D :=⟨_,rfl⟩
    rw [eD] at h40 h36b
    clear ePX eP1 hqn hBPX hmul eD
    have hmul :=HM.out
    rcases (by omega : T % 4 = 1 ∨ T % 4 = 2 ∨ T % 4 = 3 ∨ T % 4 = 0) with h | h | h | h
    · have e1 : T % 4 = 1 :=h
      have e2 : T.tmod 4 = 1 :=by rw [Int.tmod_eq_emod_of_nonneg (by omega)];exact h
      have hn4 : n % 4 = 0 :=by have :=hT.out;omega
      obtain ⟨tC,tS⟩ :=step_1 x n hn4
      obtain ⟨C1,eN⟩ : ∃ Z,C + P = Z :=⟨_,rfl⟩
      have h38 : ∀ W' b s m c,Kept wr W' → Hid (WV W' (.agg #[.bool b,.slice s m c]) (P)) → Calls Tryz.prog 38 #[.agg #[.bool bC,.slice sC nC cC],.agg #[.bool b,.slice s m c]] W' (RW W' C1) :=fun W' b s m c k h => toRW (by
        have :=wholeAdd W' _ _ _ _ (vC.wv.out.kept k) h.out (Sm.of _ 130 hBC.out (by decide)).2 (Sm.of _ 130 (by exact hBP.out) (by decide)).2
        rw [eN] at this;exact this)
      have HN :=Lib.hid (And.intro eN (And.intro tC tS))
      clear eN tC tS
      go_upto_region 14 with (first
        | (go_at_call 37;(with_reducible refine (h37 _ (Chg.refl _ _)).mono ?_);rintro r w4 ⟨rfl,p4⟩;obtain ⟨y0,y1,y2,y3,y4,y5,y6,y7⟩ :=ce _ p4)
        | (go_at_call 38;(with_reducible refine (h38 _ _ _ _ _ p4 (Lib.hid (vP.wv.out.kept p4))).mono ?_);rintro r w6 ⟨⟨b8,s8,n8,c8,rfl,g8⟩,p6⟩;have kr :=kt p4 p6;obtain ⟨z0,z1,z2,z3,z4,z5,z6,z7⟩ :=ce _ kr;have f0 :=(vC.kept kr).nf 0;have f1 :=(vC.kept kr).nf 1;have zz :=cs_ne (u :=.bool b8) (vC.kept kr).c1 (b' :=w.heap.size + 2) (o' :=0) (by omega)))
      obtain ⟨W9,hW9⟩ : ∃ W,(w6.setCell ⟨w.heap.size + 2,0,none⟩ (.bool b8)).setCell ⟨w.heap.size + 2,1,none⟩ (.slice s8 n8 c8) = W :=⟨_,rfl⟩
      have k9 : Kept w W9 :=hW9 ▸ (kt hK.out kr).keptNew (put2_chg w6 (w.heap.size + 2) _ _) fun b' _ hb => by omega
      have uP : VC W9 (w2.heap.size) bP sP nP cP P :=hW9 ▸ (vP.kept kr).other (x :=.bool b8) (y :=.slice s8 n8 c8) (vC.kept kr) (by omega)
      have uX : VC W9 (w1.heap.size) bX sX nX cX x :=hW9 ▸ (vX.kept kr).other (x :=.bool b8) (y :=.slice s8 n8 c8) (vC.kept kr) (by omega)
      have uC : VC W9 (w.heap.size + 2) b8 s8 n8 c8 C1 :=hW9 ▸ (vC.kept kr).put g8
      have uS : VC W9 (w.heap.size + 1) bS sS nS cS S :=hW9 ▸ (vS.kept kr).other (x :=.bool b8) (y :=.slice s8 n8 c8) (vC.kept kr) (by omega)
      rw [hW9]
      clear hW9
      obtain ⟨u0,u1,uw,uf⟩ :=id uP
      obtain ⟨x0,x1,xw,xf⟩ :=id uX
      have h39 : ∀ W',Kept W9 W' → Calls Tryz.prog 39 #[.agg #[.bool bP,.slice sP nP cP],.agg #[.bool bX,.slice sX nX cX]] W' (RW W' PX) :=fun W' k => toRW (hmul W' _ _ (uw.out.kept k) (xw.out.kept k))
      clear ce
      go_wp2_with (first
        | (go_at_call 39;(with_reducible refine (h39 _ (Chg.refl _ _)).mono ?_);rintro r wa ⟨⟨ba,sa,na,ca,rfl,ga⟩,pa⟩)
        | (go_at_call 17;(with_reducible refine (h17 _).mono ?_);rintro r wb ⟨⟨vb,rfl,sb,nb,cb,rfl,db⟩,pb⟩)
        | (go_at_call 41;(with_reducible refine (h41 _).mono ?_);rintro r wc ⟨⟨vc,rfl,sc,nc,cc,rfl,dc⟩,pc⟩)
        | (go_at_call 40;(with_reducible refine (h40 _ _ _ _ _ _ _ (Lib.hid (db.kept pc)) (Lib.hid dc)).mono ?_);rintro r wd ⟨⟨vd,rfl,sd,nd,cd,rfl,dd⟩,pe⟩)
        | (go_at_call 36;(with_reducible refine (h36b _ _ _ _ _ _ _ _ (Lib.hid (ga.out.kept (kt pb (kt pc pe)))) (Lib.hid dd)).mono ?_);rintro r we ⟨⟨be,se,ne,cf,rfl,ge⟩,pf⟩;have kz :=kt pa (kt pb (kt pc (kt pe pf)));have i0 :=Kept.at kz u0;have i1 :=Kept.at kz u1;have f2 :=(uP.kept kz).nf 0;have f3 :=(uP.kept kz).nf 1;have i2 :=cs_ne (u :=.bool be) i1 (b' :=w2.heap.size) (o' :=0) (by omega)))
      go_roundw
      case rel =>
        obtain ⟨eN,tC,tS⟩ :=HN.out
        refine ⟨n + 1,T + 1,by first | rfl | go_num,Lib.hid (by have :=hT.out;omega),by omega,by omega,Lib.hid ⟨be,se,ne,cf,?_⟩,Lib.hid ⟨bX,sX,nX,cX,(uX.kept kz).other (uP.kept kz) (by omega)⟩,Lib.hid ⟨b8,s8,n8,c8,?_⟩,Lib.hid ⟨bS,sS,nS,cS,?_⟩,Lib.hid ((kt k9 kz).keptNew (put2_chg we w2.heap.size _ _) fun b' _ hb => by omega)⟩
        · rw [EN.out]
          exact (uP.kept kz).put ge
        · rw [tC,EC.out,EP.out,eN]
          exact (uC.kept kz).other (uP.kept kz) (by omega)
        · rw [tS,ES.out]
          exact (uS.kept kz).other (uP.kept kz) (by omega)
      case measure => simp [intOf];omega
    · have e1 : T % 4 = 2 :=h
      have e2 : T.tmod 4 = 2 :=by rw [Int.tmod_eq_emod_of_nonneg (by omega)];exact h
      have hn4 : n % 4 = 1 :=by have :=hT.out;omega
      obtain ⟨tC,tS⟩ :=step_2 x n hn4
      obtain ⟨S1,eN⟩ : ∃ Z,S + P = Z :=⟨_,rfl⟩
      have h38 : ∀ W' b s m c,Kept wr W' → Hid (WV W' (.agg #[.bool b,.slice s m c]) (P)) → Calls Tryz.prog 38 #[.agg #[.bool bS,.slice sS nS cS],.agg #[.bool b,.slice s m c]] W' (RW W' S1) :=fun W' b s m c k h => toRW (by
        have :=wholeAdd W' _ _ _ _ (vS.wv.out.kept k) h.out (Sm.of _ 130 hBS.out (by decide)).2 (Sm.of _ 130 (by exact hBP.out) (by decide)).2
        rw [eN] at this;exact this)
      have HN :=Lib.hid (And.intro eN (And.intro tC tS))
      clear eN tC tS
      go_upto_region 14 with (first
        | (go_at_call 37;(with_reducible refine (h37 _ (Chg.refl _ _)).mono ?_);rintro r w4 ⟨rfl,p4⟩;obtain ⟨y0,y1,y2,y3,y4,y5,y6,y7⟩ :=ce _ p4)
        | (go_at_call 38;(with_reducible refine (h38 _ _ _ _ _ p4 (Lib.hid (vP.wv.out.kept p4))).mono ?_);rintro r w6 ⟨⟨b8,s8,n8,c8,rfl,g8⟩,p6⟩;have kr :=kt p4 p6;obtain ⟨z0,z1,z2,z3,z4,z5,z6,z7⟩ :=ce _ kr;have f0 :=(vS.kept kr).nf 0;have f1 :=(vS.kept kr).nf 1;have zz :=cs_ne (u :=.bool b8) (vS.kept kr).c1 (b' :=w.heap.size + 1) (o' :=0) (by omega)))
      obtain ⟨W9,hW9⟩ : ∃ W,(w6.setCell ⟨w.heap.size + 1,0,none⟩ (.bool b8)).setCell ⟨w.heap.size + 1,1,none⟩ (.slice s8 n8 c8) = W :=⟨_,rfl⟩
      have k9 : Kept w W9 :=hW9 ▸ (kt hK.out kr).keptNew (put2_chg w6 (w.heap.size + 1) _ _) fun b' _ hb => by omega
      have uP : VC W9 (w2.heap.size) bP sP nP cP P :=hW9 ▸ (vP.kept kr).other (x :=.bool b8) (y :=.slice s8 n8 c8) (vS.kept kr) (by omega)
      have uX : VC W9 (w1.heap.size) bX sX nX cX x :=hW9 ▸ (vX.kept kr).other (x :=.bool b8) (y :=.slice s8 n8 c8) (vS.kept kr) (by omega)
      have uC : VC W9 (w.heap.size + 2) bC sC nC cC C :=hW9 ▸ (vC.kept kr).other (x :=.bool b8) (y :=.slice s8 n8 c8) (vS.kept kr) (by omega)
      have uS : VC W9 (w.heap.size + 1) b8 s8 n8 c8 S1 :=hW9 ▸ (vS.kept kr).put g8
      rw [hW9]
      clear hW9
      obtain ⟨u0,u1,uw,uf⟩ :=id uP
      obtain ⟨x0,x1,xw,xf⟩ :=id uX
      have h39 : ∀ W',Kept W9 W' → Calls Tryz.prog 39 #[.agg #[.bool bP,.slice sP nP cP],.agg #[.bool bX,.slice sX nX cX]] W' (RW W' PX) :=fun W' k => toRW (hmul W' _ _ (uw.out.kept k) (xw.out.kept k))
      clear ce
      go_wp2_with (first
        | (go_at_call 39;(with_reducible refine (h39 _ (Chg.refl _ _)).mono ?_);rintro r wa ⟨⟨ba,sa,na,ca,rfl,ga⟩,pa⟩)
        | (go_at_call 17;(with_reducible refine (h17 _).mono ?_);rintro r wb ⟨⟨vb,rfl,sb,nb,cb,rfl,db⟩,pb⟩)
        | (go_at_call 41;(with_reducible refine (h41 _).mono ?_);rintro r wc ⟨⟨vc,rfl,sc,nc,cc,rfl,dc⟩,pc⟩)
        | (go_at_call 40;(with_reducible refine (h40 _ _ _ _ _ _ _ (Lib.hid (db.kept pc)) (Lib.hid dc)).mono ?_);rintro r wd ⟨⟨vd,rfl,sd,nd,cd,rfl,dd⟩,pe⟩)
        | (go_at_call 36;(with_reducible refine (h36b _ _ _ _ _ _ _ _ (Lib.hid (ga.out.kept (kt pb (kt pc pe)))) (Lib.hid dd)).mono ?_);rintro r we ⟨⟨be,se,ne,cf,rfl,ge⟩,pf⟩;have kz :=kt pa (kt pb (kt pc (kt pe pf)));have i0 :=Kept.at kz u0;have i1 :=Kept.at kz u1;have f2 :=(uP.kept kz).nf 0;have f3 :=(uP.kept kz).nf 1;have i2 :=cs_ne (u :=.bool be) i1 (b' :=w2.heap.size) (o' :=0) (by omega)))
      go_roundw
      case rel =>
        obtain ⟨eN,tC,tS⟩ :=HN.out
        refine ⟨n + 1,T + 1,by first | rfl | go_num,Lib.hid (by have :=hT.out;omega),by omega,by omega,Lib.hid ⟨be,se,ne,cf,?_⟩,Lib.hid ⟨bX,sX,nX,cX,(uX.kept kz).other (uP.kept kz) (by omega)⟩,Lib.hid ⟨bC,sC,nC,cC,?_⟩,Lib.hid ⟨b8,s8,n8,c8,?_⟩,Lib.hid ((kt k9 kz).keptNew (put2_chg we w2.heap.size _ _) fun b' _ hb => by omega)⟩
        · rw [EN.out]
          exact (uP.kept kz).put ge
        · rw [tC,EC.out]
          exact (uC.kept kz).other (uP.kept kz) (by omega)
        · rw [tS,ES.out,EP.out,eN]
          exact (uS.kept kz).other (uP.kept kz) (by omega)
      case measure => simp [intOf];omega
    · have e1 : T % 4 = 3 :=h
      have e2 : T.tmod 4 = 3 :=by rw [Int.tmod_eq_emod_of_nonneg (by omega)];exact h
      have hn4 : n % 4 = 2 :=by have :=hT.out;omega
      obtain ⟨tC,tS⟩ :=step_3 x n hn4
      obtain ⟨C1,eN⟩ : ∃ Z,C + -P = Z :=⟨_,rfl⟩
      have h38 : ∀ W' b s m c,Kept wr W' → Hid (WV W' (.agg #[.bool b,.slice s m c]) (-P)) → Calls Tryz.prog 38 #[.agg #[.bool bC,.slice sC nC cC],.agg #[.bool b,.slice s m c]] W' (RW W' C1) :=fun W' b s m c k h => toRW (by
        have :=wholeAdd W' _ _ _ _ (vC.wv.out.kept k) h.out (Sm.of _ 130 hBC.out (by decide)).2 (Sm.of _ 130 (by rw [Int.natAbs_neg];exact hBP.out) (by decide)).2
        rw [eN] at this;exact this)
      have HN :=Lib.hid (And.intro eN (And.intro tC tS))
      clear eN tC tS
      go_upto_region 14 with (first
        | (refine wp_region_lit_segs (id :=13) [[0,1,2],[3,4]] mixed (by kernel_rfl) ?_;simp only [wpSegsL,gaC,gaN,lZ0,lS0,coS])
        | refine ⟨by kernel_rfl,?_⟩
        | (refine ⟨by kernel_rfl,Chg.old p5,?_⟩)
        | (refine ⟨Chg.old p5,?_⟩)
        | (go_at_call 37;(with_reducible refine (h37 _ (Chg.refl _ _)).mono ?_);rintro r w4 ⟨rfl,p4⟩;obtain ⟨y0,y1,y2,y3,y4,y5,y6,y7⟩ :=ce _ p4)
        | (go_at_call 10;(with_reducible refine (h10 _ (kt p4 (Chg.refl _ _).drew)).mono ?_);rintro r w5 ⟨⟨b5,s5,n5,c5,rfl,g5⟩,p5⟩;have kr :=kt p4 p5.of_drew)
        | (go_at_call 38;(with_reducible refine (h38 _ _ _ _ _ kr g5).mono ?_);rintro r w6 ⟨⟨b8,s8,n8,c8,rfl,g8⟩,p6⟩;replace kr :=kt kr p6;obtain ⟨z0,z1,z2,z3,z4,z5,z6,z7⟩ :=ce _ kr;have f0 :=(vC.kept kr).nf 0;have f1 :=(vC.kept kr).nf 1;have zz :=cs_ne (u :=.bool b8) (vC.kept kr).c1 (b' :=w.heap.size + 2) (o' :=0) (by omega)))
      obtain ⟨W9,hW9⟩ : ∃ W,(w6.setCell ⟨w.heap.size + 2,0,none⟩ (.bool b8)).setCell ⟨w.heap.size + 2,1,none⟩ (.slice s8 n8 c8) = W :=⟨_,rfl⟩
      have k9 : Kept w W9 :=hW9 ▸ (kt hK.out kr).keptNew (put2_chg w6 (w.heap.size + 2) _ _) fun b' _ hb => by omega
      have uP : VC W9 (w2.heap.size) bP sP nP cP P :=hW9 ▸ (vP.kept kr).other (x :=.bool b8) (y :=.slice s8 n8 c8) (vC.kept kr) (by omega)
      have uX : VC W9 (w1.heap.size) bX sX nX cX x :=hW9 ▸ (vX.kept kr).other (x :=.bool b8) (y :=.slice s8 n8 c8) (vC.kept kr) (by omega)
      have uC : VC W9 (w.heap.size + 2) b8 s8 n8 c8 C1 :=hW9 ▸ (vC.kept kr).put g8
      have uS : VC W9 (w.heap.size + 1) bS sS nS cS S :=hW9 ▸ (vS.kept kr).other (x :=.bool b8) (y :=.slice s8 n8 c8) (vC.kept kr) (by omega)
      rw [hW9]
      clear hW9
      obtain ⟨u0,u1,uw,uf⟩ :=id uP
      obtain ⟨x0,x1,xw,xf⟩ :=id uX
      have h39 : ∀ W',Kept W9 W' → Calls Tryz.prog 39 #[.agg #[.bool bP,.slice sP nP cP],.agg #[.bool bX,.slice sX nX cX]] W' (RW W' PX) :=fun W' k => toRW (hmul W' _ _ (uw.out.kept k) (xw.out.kept k))
      clear ce
      go_wp2_with (first
        | (go_at_call 39;(with_reducible refine (h39 _ (Chg.refl _ _)).mono ?_);rintro r wa ⟨⟨ba,sa,na,ca,rfl,ga⟩,pa⟩)
        | (go_at_call 17;(with_reducible refine (h17 _).mono ?_);rintro r wb ⟨⟨vb,rfl,sb,nb,cb,rfl,db⟩,pb⟩)
        | (go_at_call 41;(with_reducible refine (h41 _).mono ?_);rintro r wc ⟨⟨vc,rfl,sc,nc,cc,rfl,dc⟩,pc⟩)
        | (go_at_call 40;(with_reducible refine (h40 _ _ _ _ _ _ _ (Lib.hid (db.kept pc)) (Lib.hid dc)).mono ?_);rintro r wd ⟨⟨vd,rfl,sd,nd,cd,rfl,dd⟩,pe⟩)
        | (go_at_call 36;(with_reducible refine (h36b _ _ _ _ _ _ _ _ (Lib.hid (ga.out.kept (kt pb (kt pc pe)))) (Lib.hid dd)).mono ?_);rintro r we ⟨⟨be,se,ne,cf,rfl,ge⟩,pf⟩;have kz :=kt pa (kt pb (kt pc (kt pe pf)));have i0 :=Kept.at kz u0;have i1 :=Kept.at kz u1;have f2 :=(uP.kept kz).nf 0;have f3 :=(uP.kept kz).nf 1;have i2 :=cs_ne (u :=.bool be) i1 (b' :=w2.heap.size) (o' :=0) (by omega)))
      go_roundw
      case rel =>
        obtain ⟨eN,tC,tS⟩ :=HN.out
        refine ⟨n + 1,T + 1,by first | rfl | go_num,Lib.hid (by have :=hT.out;omega),by omega,by omega,Lib.hid ⟨be,se,ne,cf,?_⟩,Lib.hid ⟨bX,sX,nX,cX,(uX.kept kz).other (uP.kept kz) (by omega)⟩,Lib.hid ⟨b8,s8,n8,c8,?_⟩,Lib.hid ⟨bS,sS,nS,cS,?_⟩,Lib.hid ((kt k9 kz).keptNew (put2_chg we w2.heap.size _ _) fun b' _ hb => by omega)⟩
        · rw [EN.out]
          exact (uP.kept kz).put ge
        · rw [tC,EC.out,EP.out,eN]
          exact (uC.kept kz).other (uP.kept kz) (by omega)
        · rw [tS,ES.out]
          exact (uS.kept kz).other (uP.kept kz) (by omega)
      case measure => simp [intOf];omega
    · have e1 : T % 4 = 0 :=h
      have e2 : T.tmod 4 = 0 :=by rw [Int.tmod_eq_emod_of_nonneg (by omega)];exact h
      have hn4 : n % 4 = 3 :=by have :=hT.out;omega
      obtain ⟨tC,tS⟩ :=step_0 x n hn4
      obtain ⟨S1,eN⟩ : ∃ Z,S + -P = Z :=⟨_,rfl⟩
      have h38 : ∀ W' b s m c,Kept wr W' → Hid (WV W' (.agg #[.bool b,.slice s m c]) (-P)) → Calls Tryz.prog 38 #[.agg #[.bool bS,.slice sS nS cS],.agg #[.bool b,.slice s m c]] W' (RW W' S1) :=fun W' b s m c k h => toRW (by
        have :=wholeAdd W' _ _ _ _ (vS.wv.out.kept k) h.out (Sm.of _ 130 hBS.out (by decide)).2 (Sm.of _ 130 (by rw [Int.natAbs_neg];exact hBP.out) (by decide)).2
        rw [eN] at this;exact this)
      have HN :=Lib.hid (And.intro eN (And.intro tC tS))
      clear eN tC tS
      go_upto_region 14 with (first
        | (refine wp_region_lit_segs (id :=7) [[0,1,2],[3,4]] mixed (by kernel_rfl) ?_;simp only [wpSegsL,gaC,gaN,lZ0,lS0,coS])
        | refine ⟨by kernel_rfl,?_⟩
        | (refine ⟨by kernel_rfl,Chg.old p5,?_⟩)
        | (refine ⟨Chg.old p5,?_⟩)
        | (go_at_call 37;(with_reducible refine (h37 _ (Chg.refl _ _)).mono ?_);rintro r w4 ⟨rfl,p4⟩;obtain ⟨y0,y1,y2,y3,y4,y5,y6,y7⟩ :=ce _ p4)
        | (go_at_call 10;(with_reducible refine (h10 _ (kt p4 (Chg.refl _ _).drew)).mono ?_);rintro r w5 ⟨⟨b5,s5,n5,c5,rfl,g5⟩,p5⟩;have kr :=kt p4 p5.of_drew)
        | (go_at_call 38;(with_reducible refine (h38 _ _ _ _ _ kr g5).mono ?_);rintro r w6 ⟨⟨b8,s8,n8,c8,rfl,g8⟩,p6⟩;replace kr :=kt kr p6;obtain ⟨z0,z1,z2,z3,z4,z5,z6,z7⟩ :=ce _ kr;have f0 :=(vS.kept kr).nf 0;have f1 :=(vS.kept kr).nf 1;have zz :=cs_ne (u :=.bool b8) (vS.kept kr).c1 (b' :=w.heap.size + 1) (o' :=0) (by omega)))
      obtain ⟨W9,hW9⟩ : ∃ W,(w6.setCell ⟨w.heap.size + 1,0,none⟩ (.bool b8)).setCell ⟨w.heap.size + 1,1,none⟩ (.slice s8 n8 c8) = W :=⟨_,rfl⟩
      have k9 : Kept w W9 :=hW9 ▸ (kt hK.out kr).keptNew (put2_chg w6 (w.heap.size + 1) _ _) fun b' _ hb => by omega
      have uP : VC W9 (w2.heap.size) bP sP nP cP P :=hW9 ▸ (vP.kept kr).other (x :=.bool b8) (y :=.slice s8 n8 c8) (vS.kept kr) (by omega)
      have uX : VC W9 (w1.heap.size) bX sX nX cX x :=hW9 ▸ (vX.kept kr).other (x :=.bool b8) (y :=.slice s8 n8 c8) (vS.kept kr) (by omega)
      have uC : VC W9 (w.heap.size + 2) bC sC nC cC C :=hW9 ▸ (vC.kept kr).other (x :=.bool b8) (y :=.slice s8 n8 c8) (vS.kept kr) (by omega)
      have uS : VC W9 (w.heap.size + 1) b8 s8 n8 c8 S1 :=hW9 ▸ (vS.kept kr).put g8
      rw [hW9]
      clear hW9
      obtain ⟨u0,u1,uw,uf⟩ :=id uP
      obtain ⟨x0,x1,xw,xf⟩ :=id uX
      have h39 : ∀ W',Kept W9 W' → Calls Tryz.prog 39 #[.agg #[.bool bP,.slice sP nP cP],.agg #[.bool bX,.slice sX nX cX]] W' (RW W' PX) :=fun W' k => toRW (hmul W' _ _ (uw.out.kept k) (xw.out.kept k))
      clear ce
      go_wp2_with (first
        | (go_at_call 39;(with_reducible refine (h39 _ (Chg.refl _ _)).mono ?_);rintro r wa ⟨⟨ba,sa,na,ca,rfl,ga⟩,pa⟩)
        | (go_at_call 17;(with_reducible refine (h17 _).mono ?_);rintro r wb ⟨⟨vb,rfl,sb,nb,cb,rfl,db⟩,pb⟩)
        | (go_at_call 41;(with_reducible refine (h41 _).mono ?_);rintro r wc ⟨⟨vc,rfl,sc,nc,cc,rfl,dc⟩,pc⟩)
        | (go_at_call 40;(with_reducible refine (h40 _ _ _ _ _ _ _ (Lib.hid (db.kept pc)) (Lib.hid dc)).mono ?_);rintro r wd ⟨⟨vd,rfl,sd,nd,cd,rfl,dd⟩,pe⟩)
        | (go_at_call 36;(with_reducible refine (h36b _ _ _ _ _ _ _ _ (Lib.hid (ga.out.kept (kt pb (kt pc pe)))) (Lib.hid dd)).mono ?_);rintro r we ⟨⟨be,se,ne,cf,rfl,ge⟩,pf⟩;have kz :=kt pa (kt pb (kt pc (kt pe pf)));have i0 :=Kept.at kz u0;have i1 :=Kept.at kz u1;have f2 :=(uP.kept kz).nf 0;have f3 :=(uP.kept kz).nf 1;have i2 :=cs_ne (u :=.bool be) i1 (b' :=w2.heap.size) (o' :=0) (by omega)))
      go_roundw
      case rel =>
        obtain ⟨eN,tC,tS⟩ :=HN.out
        refine ⟨n + 1,T + 1,by first | rfl | go_num,Lib.hid (by have :=hT.out;omega),by omega,by omega,Lib.hid ⟨be,se,ne,cf,?_⟩,Lib.hid ⟨bX,sX,nX,cX,(uX.kept kz).other (uP.kept kz) (by omega)⟩,Lib.hid ⟨bC,sC,nC,cC,?_⟩,Lib.hid ⟨b8,s8,n8,c8,?_⟩,Lib.hid ((kt k9 kz).keptNew (put2_chg we w2.heap.size _ _) fun b' _ hb => by omega)⟩
        · rw [EN.out]
          exact (uP.kept kz).put ge
        · rw [tC,EC.out]
          exact (uC.kept kz).other (uP.kept kz) (by omega)
        · rw [tS,ES.out,EP.out,eN]
          exact (uS.kept kz).other (uP.kept kz) (by omega)
      case measure => simp [intOf];omega
end Go.Proofs.YtfmmdamgcpiciaaGreatDoor
namespace Go.Proofs.YtfmmdamgcpiciaaGreatDoor
open Go Go.RowKit
theorem bs_drop (L : List Nat) (c : Nat) : (bs L).extract c (bs L).size = bs (L.drop c) :=by
  rw [bs_size]
  apply ByteArray.ext
  simp [bs,ByteArray.extract,ByteArray.copySlice]
  rw [List.take_of_length_le (by simp)]
theorem readD_zero (L : List Nat) : readD (48 :: L) = readD L :=by simp [readD]
theorem decSmall (w : World) (Z : Int) (k : Nat) (hZ : Z.natAbs < 10 ^ 20) (hk : k ≤ 18) : Calls Tryz.prog 27 #[pd (str (txt Z)) (-(k : Int)),.int .i64 1] w fun r w' => (∃ Y : Int,r = .returned (pd (str (txt Y)) (-(k : Int))) ∧ Y.natAbs < 10 ^ (k + 1)) ∧ Kept w w' :=by
  obtain ⟨D,hD⟩ : ∃ D,digT Z.natAbs = D :=⟨_,rfl⟩
  have hDl : D.length ≤ 20 :=hD ▸ digT_length _ 20 (by decide) hZ
  have hDne : 0 < D.length :=List.length_pos_iff.2 (hD ▸ digT_ne _)
  have hDr : ∀ c ∈ D,48 ≤ c ∧ c ≤ 57 :=hD ▸ digT_range _
  obtain ⟨c,hc⟩ : ∃ c,D.length - (k + 1) = c :=⟨_,rfl⟩
  have hlen : (D.drop c).length ≤ k + 1 :=by rw [List.length_drop];omega
  have hYr : ∀ x ∈ 48 :: D.drop c,48 ≤ x ∧ x ≤ 57 :=by
    intro x hx
    rcases List.mem_cons.1 hx with rfl | hx
    · decide
    · exact hDr x (List.mem_of_mem_drop hx)
  obtain ⟨M,hM⟩ : ∃ M,readD (48 :: D.drop c) = M :=⟨_,rfl⟩
  have hM1 : M < 10 ^ (k + 1) :=by
    rw [← hM,readD_zero]
    exact Nat.lt_of_lt_of_le (readD_lt _ fun x hx => hYr x (List.mem_cons_of_mem _ hx)) (Nat.pow_le_pow_right (by decide) hlen)
  have h50 : ∀ W,Calls Tryz.prog 50 #[.string (bs (48 :: D.drop c))] W fun r w' => (∃ v,r = .returned (.tuple #[v,.bool true]) ∧ NV w' v M) ∧ Kept W w' :=fun W => by
    have :=natOf W (48 :: D.drop c) hYr (by simp) (by simp only [List.length_cons];omega)
    rw [hM] at this;exact this
  have h34 :=fun W => toRW (wholeIn W Z (Nat.lt_trans hZ (by decide)))
  have h49 : ∀ W b s n c,Hid (WV W (.agg #[.bool b,.slice s n c]) Z) → Calls Tryz.prog 49 #[.slice s n c] W fun r w' => r = .returned (.string (bs D)) ∧ Kept W w' :=fun W b s n c h => by
    have :=natString W s n c Z.natAbs (h.out.nv).2 (Nat.lt_trans hZ (by decide))
    rw [hD] at this;exact this
  obtain ⟨Y,hY⟩ : ∃ Y,sgn (decide (Z < 0)) M = Y :=⟨_,rfl⟩
  have hYa : Y.natAbs < 10 ^ (k + 1) :=by rw [← hY,sgn_abs];exact hM1
  have h35 : ∀ W s n c,Dig W s n c M → Calls Tryz.prog 35 #[.bool (decide (Z < 0)),.slice s n c] W (RW W Y) :=fun W s n c h => toRW (by
    have :=wholeOf W (decide (Z < 0)) _ M ⟨s,n,c,rfl,h⟩
    rw [hY] at this;exact this)
  obtain ⟨E,hE⟩ : ∃ E : Int,-(k : Int) = E :=⟨_,rfl⟩
  have h8 : ∀ W b s n c,Hid (WV W (.agg #[.bool b,.slice s n c]) Y) → Calls Tryz.prog 8 #[.agg #[.bool b,.slice s n c,.int .i64 E]] W fun r w' => r = .returned (pd (str (txt Y)) E) ∧ Kept W w' :=fun W b s n c h => by
    obtain ⟨rfl,hd⟩ :=h.out.nv
    exact decOut W _ Y E ⟨s,n,c,rfl,hd⟩ (Nat.lt_of_lt_of_le hYa (Nat.pow_le_pow_right (by decide) (by omega)))
  rw [hE]
  obtain ⟨sD,hsD⟩ : ∃ s,bs D = s :=⟨_,rfl⟩
  obtain ⟨t,ht⟩ : ∃ s,bs (D.drop c) = s :=⟨_,rfl⟩
  obtain ⟨u,hu⟩ : ∃ s,bs (48 :: D.drop c) = s :=⟨_,rfl⟩
  have hap : ({ data :=#[48] } : ByteArray) ++ t = u :=by rw [← ht,← hu];exact bs_cons 48 _
  have htz : t.size ≤ 20 :=by rw [← ht,bs_size,List.length_drop];omega
  have hex : sD.extract c sD.size = t :=by rw [← hsD,← ht];exact bs_drop D c
  have h0 : c = 0 → sD = t :=by rintro rfl;rw [← hsD,← ht];rfl
  obtain ⟨LI,hLI⟩ : ∃ n : Int,(sD.size : Int) = n :=⟨_,rfl⟩
  have hsz : sD.size = D.length :=by rw [← hsD,bs_size]
  have hL1 : 0 < LI :=by omega
  have hL2 : LI ≤ 20 :=by omega
  have hcc : 0 < c → LI + E - 1 = (c : Int) :=by intro h;omega
  have hc0 : c = 0 → LI + E - 1 ≤ 0 :=by intro h;omega
  have hcl : (c : Int) ≤ LI :=by omega
  have hcn : c ≤ sD.size :=by omega
  have hE1 : -18 ≤ E :=by omega
  have hE2 : E ≤ 0 :=by omega
  rw [hsD] at h49
  rw [hu] at h50
  obtain ⟨sY,hsY⟩ : ∃ s,str (txt Y) = .string s :=⟨_,rfl⟩
  rw [hsY] at h8
  have HY :=Lib.hid (And.intro hsY hYa)
  obtain ⟨sZ,hsZ⟩ : ∃ s,str (txt Z) = .string s :=⟨_,rfl⟩
  rw [hsZ] at h34 ⊢
  have k1 : Kept w (Box23 w (.string sZ) (.int .i64 E)) :=Chg.alloc _ _ _
  have k2 : Kept (Box23 w (.string sZ) (.int .i64 E)) (Box23 (Box23 w (.string sZ) (.int .i64 E)) (.string { data :=#[] }) (.int .i64 0)) :=Chg.alloc _ _ _
  have a0 :=Kept.at k2 (show (Box23 w (.string sZ) (.int .i64 E)).cell? ⟨w.heap.size,0,none⟩ = some (.string sZ) by rw [World.cell?_alloc_at _ _ _ _ rfl];rfl)
  have a1 :=Kept.at k2 (show (Box23 w (.string sZ) (.int .i64 E)).cell? ⟨w.heap.size,1,none⟩ = some (.int .i64 E) by rw [World.cell?_alloc_at _ _ _ _ rfl];rfl)
  have S0 :=slot23 (Box23 w (.string sZ) (.int .i64 E)) (.string { data :=#[] }) (.int .i64 0)
  have e1 : (Box23 w (.string sZ) (.int .i64 E)).heap.size = w.heap.size + 1 :=by simp
  rw [e1] at S0
  have k0 :=kt k1 k2
  obtain ⟨W,hW⟩ : ∃ W,Box23 (Box23 w (.string sZ) (.int .i64 E)) (.string { data :=#[] }) (.int .i64 0) = W :=⟨_,rfl⟩
  rw [hW] at S0 a0 a1 k0
  simp only [Box23] at hW
  have HW :=Lib.hid hW
  obtain ⟨d,hd⟩ : ∃ b,decide (Z < 0) = b :=⟨_,rfl⟩
  have HD :=Lib.hid hd
  rw [hd] at h35
  have HB : ∀ {W : World} {b : Bool} {s : Option Addr} {n c : Nat},Hid (WV W (.agg #[.bool b,.slice s n c]) Z) → b = d :=fun h => (h.out.nv).1.trans hd
  have HC :=Lib.hid (And.intro h0 (And.intro hcc hc0))
  clear hW k1 k2 e1 hZ hD hDl hDne hDr hc hlen hYr hM hM1 hY hYa hE hsD ht hu hsz hsY hsZ hd h0 hcc hc0 hk
  rcases Nat.eq_zero_or_pos c with hc | hc
  · have e2 :=HC.out.2.2 hc
    obtain rfl :=HC.out.1 hc
    clear hcl hcn hex HC hc
    go_enter Tryz.func27,Tryz.ntmps27
    go_upto_region 1 with fail
    rw [HW.out]
    go_wp2_with (first
      | (refine wp_region_lit_segs (id :=7) [[0,1,2,4,5,3],[6,7,8]] mixed (by kernel_rfl) ?_;simp only [wpSegsL,gaC,gaN,lZ0,lS0,coS])
      | refine ⟨by kernel_rfl,?_⟩
      | refine ⟨by kernel_rfl,oldD (by first | assumption | exact Chg.refl _ _ | exact (Chg.refl _ _).drew | exact kt (by first | assumption | exact (Chg.refl _ _).drew | exact Chg.refl _ _) (ziK _) | exact Chg.drew (by assumption)),?_⟩
      | refine ⟨oldD (by first | assumption | exact Chg.refl _ _ | exact (Chg.refl _ _).drew | exact kt (by first | assumption | exact (Chg.refl _ _).drew | exact Chg.refl _ _) (ziK _) | exact Chg.drew (by assumption)),?_⟩
      | (with_reducible refine And.intro ?_ ?_)
      | (go_at_call 34;(with_reducible refine (h34 _).mono ?_);rintro r w1 ⟨⟨b1,s1,n1,c1,rfl,g1⟩,p1⟩;obtain rfl :=HB g1;have p2 :=kt p1 (Chg.alloc w1 (.cells #[.bool b1,.slice s1 n1 c1] 28) None2);have y0 :=box28_0 w1 (.bool b1) (.slice s1 n1 c1);have y1 :=box28_1 w1 (.bool b1) (.slice s1 n1 c1);have g2 :=Lib.hid (g1.out.kept (Chg.alloc w1 (.cells #[.bool b1,.slice s1 n1 c1] 28) None2)))
      | (go_at_call 49;(with_reducible refine (h49 _ _ _ _ _ g2).mono ?_);rintro r w3 ⟨rfl,p3⟩;have z0 :=Kept.at p3 y0;have z1 :=Kept.at (kt p2 p3) a1)
      | (go_at_call 50;(with_reducible refine (h50 _).mono ?_);rintro r w4 ⟨⟨v4,rfl,s4,n4,c4,rfl,d4⟩,p4⟩;have x0 :=Kept.at p4 z0;have x1 :=Kept.at p4 z1;have K4 :=kt p2 (kt p3 p4))
      | (go_at_call 35;(with_reducible refine (h35 _ _ _ _ (d4.kept (Chg.refl _ _).drew)).mono ?_);rintro r w5 ⟨⟨b5,s5,n5,c5,rfl,g5⟩,p5⟩;have kr :=p5.of_drew)
      | (go_at_call 8;(with_reducible refine (h8 _ _ _ _ _ g5).mono ?_);rintro r w6 ⟨rfl,p6⟩;replace kr :=kt kr p6;have S :=S0.kept (kt K4 kr);obtain ⟨⟨u0,i0⟩,⟨u1,i1⟩,sf⟩ :=id S;have f0 :=sf 0;have f1 :=sf 1;have i2 :=cs_ne (u :=.string sY) i1 (b' :=w.heap.size + 1) (o' :=0) (by omega)))
    exact ⟨_,results_23 (r :=w.heap.size + 1) rfl rfl (put2_0 S _ _) (put2_1 S _ _),⟨Y,by rw [HY.out.1],HY.out.2⟩,(kt k0 (kt K4 kr)).keptNew (put2_chg _ _ _ _) fun b' _ h => by omega⟩
  · have e2 :=HC.out.2.1 hc
    have hmin : min (c : Int) LI = (c : Int) :=by omega
    have hc0 : (0 : Int) < (c : Int) :=by omega
    skip
    clear HC
    go_enter Tryz.func27,Tryz.ntmps27
    go_upto_region 1 with fail
    rw [HW.out]
    go_wp2_with (first
      | (refine wp_region_lit_segs (id :=7) [[0,1,2,4,5,3],[6,7,8]] mixed (by kernel_rfl) ?_;simp only [wpSegsL,gaC,gaN,lZ0,lS0,coS])
      | refine ⟨by kernel_rfl,?_⟩
      | refine ⟨by kernel_rfl,oldD (by first | assumption | exact Chg.refl _ _ | exact (Chg.refl _ _).drew | exact kt (by first | assumption | exact (Chg.refl _ _).drew | exact Chg.refl _ _) (ziK _) | exact Chg.drew (by assumption)),?_⟩
      | refine ⟨oldD (by first | assumption | exact Chg.refl _ _ | exact (Chg.refl _ _).drew | exact kt (by first | assumption | exact (Chg.refl _ _).drew | exact Chg.refl _ _) (ziK _) | exact Chg.drew (by assumption)),?_⟩
      | (with_reducible refine And.intro ?_ ?_)
      | (go_at_call 34;(with_reducible refine (h34 _).mono ?_);rintro r w1 ⟨⟨b1,s1,n1,c1,rfl,g1⟩,p1⟩;obtain rfl :=HB g1;have p2 :=kt p1 (Chg.alloc w1 (.cells #[.bool b1,.slice s1 n1 c1] 28) None2);have y0 :=box28_0 w1 (.bool b1) (.slice s1 n1 c1);have y1 :=box28_1 w1 (.bool b1) (.slice s1 n1 c1);have g2 :=Lib.hid (g1.out.kept (Chg.alloc w1 (.cells #[.bool b1,.slice s1 n1 c1] 28) None2)))
      | (go_at_call 49;(with_reducible refine (h49 _ _ _ _ _ g2).mono ?_);rintro r w3 ⟨rfl,p3⟩;have z0 :=Kept.at p3 y0;have z1 :=Kept.at (kt p2 p3) a1)
      | (go_at_call 50;(with_reducible refine (h50 _).mono ?_);rintro r w4 ⟨⟨v4,rfl,s4,n4,c4,rfl,d4⟩,p4⟩;have x0 :=Kept.at p4 z0;have x1 :=Kept.at p4 z1;have K4 :=kt p2 (kt p3 p4))
      | (go_at_call 35;(with_reducible refine (h35 _ _ _ _ (d4.kept (Chg.refl _ _).drew)).mono ?_);rintro r w5 ⟨⟨b5,s5,n5,c5,rfl,g5⟩,p5⟩;have kr :=p5.of_drew)
      | (go_at_call 8;(with_reducible refine (h8 _ _ _ _ _ g5).mono ?_);rintro r w6 ⟨rfl,p6⟩;replace kr :=kt kr p6;have S :=S0.kept (kt K4 kr);obtain ⟨⟨u0,i0⟩,⟨u1,i1⟩,sf⟩ :=id S;have f0 :=sf 0;have f1 :=sf 1;have i2 :=cs_ne (u :=.string sY) i1 (b' :=w.heap.size + 1) (o' :=0) (by omega)))
    all_goals first
      | exact ⟨_,results_23 (r :=w.heap.size + 1) rfl rfl (put2_0 S _ _) (put2_1 S _ _),⟨Y,by rw [HY.out.1],HY.out.2⟩,(kt k0 (kt K4 kr)).keptNew (put2_chg _ _ _ _) fun b' _ h => by omega⟩
      | omega
end Go.Proofs.YtfmmdamgcpiciaaGreatDoor
namespace Go.Proofs.YtfmmdamgcpiciaaGreatDoor
open Go Go.RowKit
theorem Dig.setN {w w' : World} {s : Option Addr} {n c X r : Nat} {u : Value} (h : Dig w s n c X) (hr : w.cell? ⟨r,0,none⟩ = some u) (hu : ∀ k z,u ≠ .int k z) (kc : Chg w w' fun p _ => p = r) : Dig w' s n c X :=by
  obtain ⟨xs,h1,h2,h3,h4,h5,h6⟩ :=h
  refine ⟨xs,h1,h2,h3,h4,?_,h6⟩
  rcases h5 with h | ⟨g,rfl,h⟩
  · exact .inl h
  · rcases Nat.eq_zero_or_pos xs.length with h0 | h0
    · exact .inl (List.eq_nil_of_length_eq_zero h0)
    · refine .inr ⟨g,rfl,h.chg kc fun j _ e => ?_⟩
      have :=h 0 xs[0] (List.getElem?_eq_getElem h0)
      rw [e,Nat.zero_add,hr] at this
      exact hu _ _ (Option.some.inj this)
theorem Slot.chg {w w' : World} {M : Nat → Nat → Prop} {b : Nat} (h : Slot w b) (hc : Chg w w' M) (hM : ∀ o,¬ M b o) : Slot w' b :=by
  obtain ⟨⟨u,h0⟩,⟨v,h1⟩,hf⟩ :=h
  exact ⟨⟨u,hc.at h0 (hM 0)⟩,⟨v,hc.at h1 (hM 1)⟩,hf.chg (lt_of_cell h0) hc⟩
theorem Slot3.chg {w w' : World} {M : Nat → Nat → Prop} {b : Nat} (h : Slot3 w b) (hc : Chg w w' M) (hM : ∀ o,¬ M b o) : Slot3 w' b :=by
  obtain ⟨⟨u,h0⟩,⟨v,h1⟩,⟨t,h2⟩,hf⟩ :=h
  exact ⟨⟨u,hc.at h0 (hM 0)⟩,⟨v,hc.at h1 (hM 1)⟩,⟨t,hc.at h2 (hM 2)⟩,hf.chg (lt_of_cell h0) hc⟩
structure PC (w : World) (p : Nat) (x y : Value) : Prop where
  c0 : w.cell? ⟨p,0,none⟩ = some x
  c1 : w.cell? ⟨p,1,none⟩ = some y
  nf : NF w p
theorem PC.slot {w : World} {p : Nat} {x y : Value} (h : PC w p x y) : Slot w p :=⟨⟨x,h.c0⟩,⟨y,h.c1⟩,h.nf⟩
theorem PC.kept {w w' : World} {p : Nat} {x y : Value} (h : PC w p x y) (k : Kept w w') : PC w' p x y :=⟨Kept.at k h.c0,Kept.at k h.c1,h.nf.chg (lt_of_cell h.c0) k⟩
theorem PC.chg {w w' : World} {M : Nat → Nat → Prop} {p : Nat} {x y : Value} (h : PC w p x y) (k : Chg w w' M) (hM : ∀ o,¬ M p o) : PC w' p x y :=⟨k.at h.c0 (hM 0),k.at h.c1 (hM 1),h.nf.chg (lt_of_cell h.c0) k⟩
theorem PC.put {w : World} {p : Nat} (S : Slot w p) (x y : Value) : PC (put2 w p x y) p x y :=⟨put2_0 S x y,put2_1 S x y,by obtain ⟨⟨u,h0⟩,_,hf⟩ :=id S;exact hf.chg (lt_of_cell h0) (put2_chg w p x y)⟩
theorem results_23_30 {fn : Func} {t u r q : Nat} {tmps : Array Value} {w : World} {x y a b c : Value} (h : fn.results = #[.cell t 23,.cell u 30]) (hp : tmps.getD t undef = ptr r) (hq : tmps.getD u undef = ptr q) (h0 : w.cell? ⟨r,0,none⟩ = some x) (h1 : w.cell? ⟨r,1,none⟩ = some y) (hc : w.cell? ⟨q,0,none⟩ = some a ∧ w.cell? ⟨q,1,none⟩ = some b ∧ w.cell? ⟨q,2,none⟩ = some c) :
    (results fn tmps).run Tryz.prog w = .ok (.tuple #[.agg #[x,y],.agg #[a,b,c]]) w :=by
  obtain ⟨h2,h3,h4⟩ :=hc
  obtain ⟨i0,hi,hz0,hz1,hz2⟩ :=info_parts info23
  obtain ⟨i1,hi',hz0',hz1',hz2'⟩ :=info_parts info30
  have hp' : tmps[t]?.getD undef = ptr r :=by simpa using hp
  have hq' : tmps[u]?.getD undef = ptr q :=by simpa using hq
  simp [results,h,hp',hq',go_sem,hi,hz1,hi',hz1',h0,h1,h2,h3,h4]
theorem arAngle (w : World) (s : ByteArray) (e : Int) (hlen : s.size ≤ 2147483647) : Calls Tryz.prog 6 #[pd (.string s) e] w fun r w' => (∃ (Y : Int) (k : Nat),k ≤ 18 ∧ Y.natAbs < 10 ^ (k + 1) ∧ ∃ fv,r = .returned (.tuple #[pd (str (txt Y)) (-(k : Int)),fv]) ∧ FV w' fv Y (10 ^ k)) ∧ Kept w w' :=by
  have h26 :=fun W => decFit W s e hlen
  have k1 : Kept w (w.alloc (.cells #[.string s,.int .i64 e] 23)) :=Chg.alloc _ _ _
  have k2 : Kept (w.alloc (.cells #[.string s,.int .i64 e] 23)) ((w.alloc (.cells #[.string s,.int .i64 e] 23)).alloc (.cells #[.string { data :=#[] },.int .i64 0] 23)) :=Chg.alloc _ _ _
  have k3 : Kept ((w.alloc (.cells #[.string s,.int .i64 e] 23)).alloc (.cells #[.string { data :=#[] },.int .i64 0] 23)) (((w.alloc (.cells #[.string s,.int .i64 e] 23)).alloc (.cells #[.string { data :=#[] },.int .i64 0] 23)).alloc (.cells #[.bool false,.slice none 0 0,.slice none 0 0] 30)) :=Chg.alloc _ _ _
  have a0 : (w.alloc (.cells #[.string s,.int .i64 e] 23)).cell? ⟨w.heap.size,0,none⟩ = some (.string s) :=by rw [World.cell?_alloc_at _ _ _ _ rfl];rfl
  have a1 : (w.alloc (.cells #[.string s,.int .i64 e] 23)).cell? ⟨w.heap.size,1,none⟩ = some (.int .i64 e) :=by rw [World.cell?_alloc_at _ _ _ _ rfl];rfl
  have P1 : PC (((w.alloc (.cells #[.string s,.int .i64 e] 23)).alloc (.cells #[.string { data :=#[] },.int .i64 0] 23)).alloc (.cells #[.bool false,.slice none 0 0,.slice none 0 0] 30)) w.heap.size (.string s) (.int .i64 e) :=PC.kept ⟨a0,a1,NF.made w _ _⟩ (kt k2 k3)
  have S2 :=(slot23 (w.alloc (.cells #[.string s,.int .i64 e] 23)) (.string { data :=#[] }) (.int .i64 0)).kept k3
  have S3 :=slot3_made ((w.alloc (.cells #[.string s,.int .i64 e] 23)).alloc (.cells #[.string { data :=#[] },.int .i64 0] 23)) (.bool false) (.slice none 0 0) (.slice none 0 0) 30
  have rb :=(box3_cells ((w.alloc (.cells #[.string s,.int .i64 e] 23)).alloc (.cells #[.string { data :=#[] },.int .i64 0] 23)) (.bool false) (.slice none 0 0) (.slice none 0 0) 30).1
  have rs :=Kept.at k3 (show ((w.alloc (.cells #[.string s,.int .i64 e] 23)).alloc (.cells #[.string { data :=#[] },.int .i64 0] 23)).cell? ⟨(w.alloc (.cells #[.string s,.int .i64 e] 23)).heap.size,0,none⟩ = some (.string { data :=#[] }) by rw [World.cell?_alloc_at _ _ _ _ rfl];rfl)
  have e1 : (w.alloc (.cells #[.string s,.int .i64 e] 23)).heap.size = w.heap.size + 1 :=by simp
  have e2 : ((w.alloc (.cells #[.string s,.int .i64 e] 23)).alloc (.cells #[.string { data :=#[] },.int .i64 0] 23)).heap.size = w.heap.size + 2 :=by simp
  rw [e1] at S2 rs
  rw [e2] at S3 rb
  have k0 :=kt k1 (kt k2 k3)
  obtain ⟨W,hW⟩ : ∃ W,(((w.alloc (.cells #[.string s,.int .i64 e] 23)).alloc (.cells #[.string { data :=#[] },.int .i64 0] 23)).alloc (.cells #[.bool false,.slice none 0 0,.slice none 0 0] 30)) = W :=⟨_,rfl⟩
  rw [hW] at P1 S2 S3 rb rs k0
  have HW :=Lib.hid hW
  clear hW k1 k2 k3 a0 a1 e1 e2 hlen
  obtain ⟨b0,b1,bf⟩ :=id P1
  go_enter Tryz.func6,Tryz.ntmps6
  go_upto_region 1 with fail
  rw [HW.out]
  go_upto_region 2 with (go_at_call 26;(with_reducible refine (h26 _).mono ?_);rintro r w1 ⟨⟨Z,E0,rfl,hZ,hE1,hE2⟩,p1⟩;obtain ⟨sZ,hsZ⟩ : ∃ s,str (txt Z) = .string s :=⟨_,rfl⟩;rw [hsZ];have P2 :=P1.kept p1;obtain ⟨u0,u1,uf⟩ :=id P2;have f0 :=uf 0;have f1 :=uf 1;have u2 :=cs_ne (u :=.string sZ) u1 (b' :=w.heap.size) (o' :=0) (by omega))
  obtain ⟨W2,hW2⟩ : ∃ W,(w1.setCell ⟨w.heap.size,0,none⟩ (.string sZ)).setCell ⟨w.heap.size,1,none⟩ (.int .i64 E0) = W :=⟨_,rfl⟩
  have P3 : PC W2 w.heap.size (.string sZ) (.int .i64 E0) :=hW2 ▸ PC.put P2.slot _ _
  have S4 : Slot W2 (w.heap.size + 1) :=hW2 ▸ (S2.kept p1).chg (put2_chg w1 w.heap.size _ _) fun o => by omega
  have S5 : Slot3 W2 (w.heap.size + 2) :=hW2 ▸ (S3.kept p1).chg (put2_chg w1 w.heap.size _ _) fun o => by omega
  have rb2 : W2.cell? ⟨w.heap.size + 2,0,none⟩ = some (.bool false) :=hW2 ▸ (put2_chg w1 w.heap.size _ _).at (Kept.at p1 rb) (by omega)
  have rs2 : W2.cell? ⟨w.heap.size + 1,0,none⟩ = some (.string { data :=#[] }) :=hW2 ▸ (put2_chg w1 w.heap.size _ _).at (Kept.at p1 rs) (by omega)
  have K2 : Kept w W2 :=hW2 ▸ (kt k0 p1).keptNew (put2_chg w1 w.heap.size _ _) fun b' _ h => by omega
  rw [hW2]
  clear hW2 P2 u0 u1 u2 uf f0 f1 b0 b1 bf P1 S2 S3 rb rs p1 k0 HW
  obtain ⟨b0,b1,bf⟩ :=id P3
  by_cases hpos : 0 < E0
  · obtain ⟨E,hE⟩ : ∃ E : Int,-E0 = E :=⟨_,rfl⟩
    obtain ⟨k,hk⟩ : ∃ k : Nat,(E : Int) = -(k : Int) :=⟨(E : Int).natAbs,by omega⟩
    have hk18 : k ≤ 18 :=by omega
    have h27 : ∀ W,Calls Tryz.prog 27 #[pd (.string sZ) (E),.int .i64 1] W fun r w' => (∃ Y : Int,r = .returned (pd (str (txt Y)) (E)) ∧ Y.natAbs < 10 ^ (k + 1)) ∧ Kept W w' :=fun W => by
      have :=decSmall W Z k hZ hk18
      rw [hsZ,← hk] at this
      exact this
    have HK :=Lib.hid hk
    clear hk
    have c2 :=Chg.setCell W2 w.heap.size 1 (.int .i64 E) (fun b _ => b = w.heap.size) fun _ => rfl
    have f1 :=bf 1
    go_upto_region 4 with fail
    obtain ⟨W3,hW3⟩ : ∃ W,W2.setCell ⟨w.heap.size,1,none⟩ (.int .i64 E) = W :=⟨_,rfl⟩
    rw [hW3] at c2 ⊢
    have P3 : PC W3 w.heap.size (.string sZ) (.int .i64 E) :=⟨hW3 ▸ cs_ne b0 (by omega),hW3 ▸ cell_setCell_eq b1,P3.nf.chg (lt_of_cell b0) c2⟩
    have S4 :=S4.chg c2 fun o => by omega
    have S5 :=S5.chg c2 fun o => by omega
    have rb2 :=c2.at rb2 (by omega)
    have rs2 :=c2.at rs2 (by omega)
    have K2 :=K2.keptNew c2 fun b' _ h => by omega
    clear hW3 c2 f1 b0 b1 bf
    obtain ⟨b0,b1,bf⟩ :=id P3
    go_upto_region 5 with (go_at_call 27;(with_reducible refine (h27 _).mono ?_);rintro r w3 ⟨⟨Y,rfl,hY⟩,p3⟩;obtain ⟨sY,hsY⟩ : ∃ s,str (txt Y) = .string s :=⟨_,rfl⟩;rw [hsY];have P4 :=P3.kept p3;obtain ⟨u0,u1,uf⟩ :=id P4;have f0 :=uf 0;have f1 :=uf 1;have u2 :=cs_ne (u :=.string sY) u1 (b' :=w.heap.size) (o' :=0) (by omega))
    obtain ⟨W4,hW4⟩ : ∃ W,(w3.setCell ⟨w.heap.size,0,none⟩ (.string sY)).setCell ⟨w.heap.size,1,none⟩ (.int .i64 (E)) = W :=⟨_,rfl⟩
    have P5 : PC W4 w.heap.size (.string sY) (.int .i64 (E)) :=hW4 ▸ PC.put P4.slot _ _
    have S6 : Slot W4 (w.heap.size + 1) :=hW4 ▸ (S4.kept p3).chg (put2_chg w3 w.heap.size _ _) fun o => by omega
    have S7 : Slot3 W4 (w.heap.size + 2) :=hW4 ▸ (S5.kept p3).chg (put2_chg w3 w.heap.size _ _) fun o => by omega
    have rb3 : W4.cell? ⟨w.heap.size + 2,0,none⟩ = some (.bool false) :=hW4 ▸ (put2_chg w3 w.heap.size _ _).at (Kept.at p3 rb2) (by omega)
    have rs3 : W4.cell? ⟨w.heap.size + 1,0,none⟩ = some (.string { data :=#[] }) :=hW4 ▸ (put2_chg w3 w.heap.size _ _).at (Kept.at p3 rs2) (by omega)
    have K4 : Kept w W4 :=hW4 ▸ (kt K2 p3).keptNew (put2_chg w3 w.heap.size _ _) fun b' _ h => by omega
    rw [hW4]
    clear hW4 P4 u0 u1 u2 uf f0 f1 b0 b1 bf P3 S4 S5 rb2 rs2 p3 K2 h26 h27
    have h14 : ∀ W,Calls Tryz.prog 14 #[pd (.string sY) (E)] W fun r w' => (∃ v',r = .returned v' ∧ FV w' v' Y (10 ^ k)) ∧ Kept W w' :=fun W => by
      have :=fracOf W Y k (Nat.lt_of_lt_of_le hY (Nat.pow_le_pow_right (by decide) (by omega))) (by omega)
      rw [hsY,← HK.out] at this
      exact this
    obtain ⟨d,hd⟩ : ∃ b,decide (Y < 0) = b :=⟨_,rfl⟩
    have HY :=Lib.hid (And.intro hY (And.intro hsY (And.intro HK.out hk18)))
    clear hY hsY hk18 hZ hsZ HK
    obtain ⟨b0,b1,bf⟩ :=id P5
    go_wp2_with (first
      | (refine wp_region_lit_segs (id :=5) [[0,1,2],[3,4]] mixed (by kernel_rfl) ?_;simp only [wpSegsL,gaC,gaN,lZ0,lS0,coS])
      | refine ⟨by kernel_rfl,?_⟩
      | (refine ⟨by kernel_rfl,Chg.old p5,?_⟩)
      | (refine ⟨Chg.old p5,?_⟩)
      | (go_at_call 14;(with_reducible refine (h14 _).mono ?_);rintro r w5 ⟨⟨v5,rfl,s5,n5,c5,s6,n6,c6,rfl,d5,d6⟩,p5⟩;rw [hd];have T6 :=S6.kept p5.of_drew;obtain ⟨⟨i0,j0⟩,⟨i1,j1⟩,jf⟩ :=id T6;have f0 :=jf 0;have f1 :=jf 1;have j2 :=cs_ne (u :=.string sY) j1 (b' :=w.heap.size + 1) (o' :=0) (by omega);have T7 :=(S7.kept p5.of_drew).chg (put2_chg w5 (w.heap.size + 1) (.string sY) (.int .i64 (E))) (fun o => by omega);obtain ⟨⟨m0,x0⟩,⟨m1,x1,t1⟩,⟨m2,x2,t2⟩,g0,g1,g2⟩ :=T7.use))
    have c1 :=put2_chg w5 (w.heap.size + 1) (.string sY) (.int .i64 (E))
    have c2 :=put3_chg (put2 w5 (w.heap.size + 1) (.string sY) (.int .i64 (E))) (w.heap.size + 2) (.bool d) (.slice s5 n5 c5) (.slice s6 n6 c6)
    have rs4 :=Kept.at p5.of_drew rs3
    have rb4 :=c1.at (Kept.at p5.of_drew rb3) (by omega)
    have Q :=PC.put T6 (.string sY) (.int .i64 (E))
    have Q2 :=Q.chg c2 fun o => by omega
    have D5 :=(d5.setN rs4 (fun _ _ h => by cases h) c1).set rb4 c2
    have D6 :=(d6.setN rs4 (fun _ _ h => by cases h) c1).set rb4 c2
    have KE :=((kt K4 p5.of_drew).keptNew c1 fun b' _ h => by omega).keptNew c2 fun b' _ h => by omega
    obtain ⟨hY,hsY,hk,hk18⟩ :=HY.out
    refine ⟨_,results_23_30 (r :=w.heap.size + 1) (q :=w.heap.size + 2) rfl rfl rfl Q2.c0 Q2.c1 (put3_cells T7 _ _ _),?_,KE⟩
    exact ⟨Y,k,hk18,hY,.agg #[.bool d,.slice s5 n5 c5,.slice s6 n6 c6],by rw [hsY,← hk],s5,n5,c5,s6,n6,c6,by rw [hd],D5,D6⟩
  · skip
    obtain ⟨k,hk⟩ : ∃ k : Nat,(E0 : Int) = -(k : Int) :=⟨(E0 : Int).natAbs,by omega⟩
    have hk18 : k ≤ 18 :=by omega
    have h27 : ∀ W,Calls Tryz.prog 27 #[pd (.string sZ) (E0),.int .i64 1] W fun r w' => (∃ Y : Int,r = .returned (pd (str (txt Y)) (E0)) ∧ Y.natAbs < 10 ^ (k + 1)) ∧ Kept W w' :=fun W => by
      have :=decSmall W Z k hZ hk18
      rw [hsZ,← hk] at this
      exact this
    have HK :=Lib.hid hk
    clear hk
    obtain ⟨b0,b1,bf⟩ :=id P3
    go_upto_region 5 with (go_at_call 27;(with_reducible refine (h27 _).mono ?_);rintro r w3 ⟨⟨Y,rfl,hY⟩,p3⟩;obtain ⟨sY,hsY⟩ : ∃ s,str (txt Y) = .string s :=⟨_,rfl⟩;rw [hsY];have P4 :=P3.kept p3;obtain ⟨u0,u1,uf⟩ :=id P4;have f0 :=uf 0;have f1 :=uf 1;have u2 :=cs_ne (u :=.string sY) u1 (b' :=w.heap.size) (o' :=0) (by omega))
    obtain ⟨W4,hW4⟩ : ∃ W,(w3.setCell ⟨w.heap.size,0,none⟩ (.string sY)).setCell ⟨w.heap.size,1,none⟩ (.int .i64 (E0)) = W :=⟨_,rfl⟩
    have P5 : PC W4 w.heap.size (.string sY) (.int .i64 (E0)) :=hW4 ▸ PC.put P4.slot _ _
    have S6 : Slot W4 (w.heap.size + 1) :=hW4 ▸ (S4.kept p3).chg (put2_chg w3 w.heap.size _ _) fun o => by omega
    have S7 : Slot3 W4 (w.heap.size + 2) :=hW4 ▸ (S5.kept p3).chg (put2_chg w3 w.heap.size _ _) fun o => by omega
    have rb3 : W4.cell? ⟨w.heap.size + 2,0,none⟩ = some (.bool false) :=hW4 ▸ (put2_chg w3 w.heap.size _ _).at (Kept.at p3 rb2) (by omega)
    have rs3 : W4.cell? ⟨w.heap.size + 1,0,none⟩ = some (.string { data :=#[] }) :=hW4 ▸ (put2_chg w3 w.heap.size _ _).at (Kept.at p3 rs2) (by omega)
    have K4 : Kept w W4 :=hW4 ▸ (kt K2 p3).keptNew (put2_chg w3 w.heap.size _ _) fun b' _ h => by omega
    rw [hW4]
    clear hW4 P4 u0 u1 u2 uf f0 f1 b0 b1 bf P3 S4 S5 rb2 rs2 p3 K2 h26 h27
    have h14 : ∀ W,Calls Tryz.prog 14 #[pd (.string sY) (E0)] W fun r w' => (∃ v',r = .returned v' ∧ FV w' v' Y (10 ^ k)) ∧ Kept W w' :=fun W => by
      have :=fracOf W Y k (Nat.lt_of_lt_of_le hY (Nat.pow_le_pow_right (by decide) (by omega))) (by omega)
      rw [hsY,← HK.out] at this
      exact this
    obtain ⟨d,hd⟩ : ∃ b,decide (Y < 0) = b :=⟨_,rfl⟩
    have HY :=Lib.hid (And.intro hY (And.intro hsY (And.intro HK.out hk18)))
    clear hY hsY hk18 hZ hsZ HK
    obtain ⟨b0,b1,bf⟩ :=id P5
    go_wp2_with (first
      | (refine wp_region_lit_segs (id :=5) [[0,1,2],[3,4]] mixed (by kernel_rfl) ?_;simp only [wpSegsL,gaC,gaN,lZ0,lS0,coS])
      | refine ⟨by kernel_rfl,?_⟩
      | (refine ⟨by kernel_rfl,Chg.old p5,?_⟩)
      | (refine ⟨Chg.old p5,?_⟩)
      | (go_at_call 14;(with_reducible refine (h14 _).mono ?_);rintro r w5 ⟨⟨v5,rfl,s5,n5,c5,s6,n6,c6,rfl,d5,d6⟩,p5⟩;rw [hd];have T6 :=S6.kept p5.of_drew;obtain ⟨⟨i0,j0⟩,⟨i1,j1⟩,jf⟩ :=id T6;have f0 :=jf 0;have f1 :=jf 1;have j2 :=cs_ne (u :=.string sY) j1 (b' :=w.heap.size + 1) (o' :=0) (by omega);have T7 :=(S7.kept p5.of_drew).chg (put2_chg w5 (w.heap.size + 1) (.string sY) (.int .i64 (E0))) (fun o => by omega);obtain ⟨⟨m0,x0⟩,⟨m1,x1,t1⟩,⟨m2,x2,t2⟩,g0,g1,g2⟩ :=T7.use))
    have c1 :=put2_chg w5 (w.heap.size + 1) (.string sY) (.int .i64 (E0))
    have c2 :=put3_chg (put2 w5 (w.heap.size + 1) (.string sY) (.int .i64 (E0))) (w.heap.size + 2) (.bool d) (.slice s5 n5 c5) (.slice s6 n6 c6)
    have rs4 :=Kept.at p5.of_drew rs3
    have rb4 :=c1.at (Kept.at p5.of_drew rb3) (by omega)
    have Q :=PC.put T6 (.string sY) (.int .i64 (E0))
    have Q2 :=Q.chg c2 fun o => by omega
    have D5 :=(d5.setN rs4 (fun _ _ h => by cases h) c1).set rb4 c2
    have D6 :=(d6.setN rs4 (fun _ _ h => by cases h) c1).set rb4 c2
    have KE :=((kt K4 p5.of_drew).keptNew c1 fun b' _ h => by omega).keptNew c2 fun b' _ h => by omega
    obtain ⟨hY,hsY,hk,hk18⟩ :=HY.out
    refine ⟨_,results_23_30 (r :=w.heap.size + 1) (q :=w.heap.size + 2) rfl rfl rfl Q2.c0 Q2.c1 (put3_cells T7 _ _ _),?_,KE⟩
    exact ⟨Y,k,hk18,hY,.agg #[.bool d,.slice s5 n5 c5,.slice s6 n6 c6],by rw [hsY,← hk],s5,n5,c5,s6,n6,c6,by rw [hd],D5,D6⟩
end Go.Proofs.YtfmmdamgcpiciaaGreatDoor
namespace Go.Proofs.YtfmmdamgcpiciaaGreatDoor
open Go Go.RowKit
theorem zzFits_big (w : World) (s : ByteArray) (e : Int) (h : 2147483647 < s.size) : Calls Tryz.prog 5 #[pd (.string s) e] w fun r w' => r = .returned (.bool false) ∧ Kept w w' :=by
  have kA : Kept w (Box23 w (.string s) (.int .i64 e)) :=Chg.alloc _ _ _
  have c0 : (Box23 w (.string s) (.int .i64 e)).cell? ⟨w.heap.size,0,none⟩ = some (.string s) :=by rw [World.cell?_alloc_at _ _ _ _ rfl];rfl
  obtain ⟨n,hn⟩ : ∃ n : Int,(s.size : Int) = n :=⟨_,rfl⟩
  have h2 : 2147483647 < n :=by omega
  go_enter Tryz.func5,Tryz.ntmps5
  go_wp2
  first | go_ret | refine ⟨_,results_tmp rfl _ _ _,?_⟩
  exact ⟨rfl,kA⟩
abbrev RF (W : World) (N : Int) (D : Nat) : Ending → World → Prop :=fun r w' => (∃ b s n c s2 n2 c2,r = .returned (.agg #[.bool b,.slice s n c,.slice s2 n2 c2]) ∧ Hid (FV w' (.agg #[.bool b,.slice s n c,.slice s2 n2 c2]) N D)) ∧ Kept W w'
theorem toRF {f : FuncId} {args : Array Value} {W : World} {N : Int} {D : Nat} (h : Calls Tryz.prog f args W fun r w' => (∃ v,r = .returned v ∧ FV w' v N D) ∧ Kept W w') : Calls Tryz.prog f args W (RF W N D) :=
  h.mono (by
    rintro r w' ⟨⟨v,rfl,s,n,c,s2,n2,c2,rfl,d⟩,k⟩
    exact ⟨⟨_,s,n,c,s2,n2,c2,rfl,Lib.hid ⟨s,n,c,s2,n2,c2,rfl,d⟩⟩,k⟩)
theorem PC.made (w : World) (x y : Value) : PC (w.alloc (.cells #[x,y] 23)) w.heap.size x y :=⟨by rw [World.cell?_alloc_at _ _ _ _ rfl];rfl,by rw [World.cell?_alloc_at _ _ _ _ rfl];rfl,NF.made w _ _⟩
theorem PC.madeK {w w' : World} {x y : Value} (k : Kept (w.alloc (.cells #[x,y] 23)) w') : PC w' w.heap.size x y :=(PC.made w x y).kept k
theorem PC.madeD {w w' : World} {x y : Value} (k : Kept (w.alloc (.cells #[x,y] 23)).drew w') : PC w' w.heap.size x y :=(PC.made w x y).kept k.of_drew
theorem PC.step {w : World} {p : Nat} {x y : Value} (h : PC w p x y) (u : Value) : (w.setCell ⟨p,0,none⟩ u).cell? ⟨p,1,none⟩ = some y :=cs_ne h.c1 (by omega)
def PN (W w : World) (p : Nat) (x y : Value) : Prop :=PC w p x y ∧ W.heap.size ≤ p
theorem PN.made {W v w : World} {x y : Value} (kr : Kept W v) (p : Kept (v.alloc (.cells #[x,y] 23)) w) : PN W w v.heap.size x y :=⟨PC.madeK p,Chg.size kr⟩
theorem PN.madeD {W w : World} {x y : Value} (p : Kept (W.alloc (.cells #[x,y] 23)).drew w) : PN W w W.heap.size x y :=⟨PC.madeD p,Nat.le_refl _⟩
theorem PN.kept {W v w : World} {b : Nat} {x y : Value} (h : PN W v b x y) (k : Kept v w) : PN W w b x y :=⟨h.1.kept k,h.2⟩
theorem PN.put {W w : World} {b : Nat} {x y : Value} (h : PN W w b x y) (kr : Kept W w) (x' y' : Value) : PC (put2 w b x' y') b x' y' ∧ Kept W (put2 w b x' y') :=⟨PC.put h.1.slot x' y',kr.keptNew (put2_chg w b x' y') fun b' _ hb => by have :=h.2;omega⟩
theorem near_cmp {m S : Int} {P : Nat} (h : ((m * 10 ^ 40 - S * (P : Int)).natAbs : Int) * 10 ^ 13 < (P : Int) * 10 ^ 40) : cmpZ (((m * ((10 ^ 40 : Nat) : Int) - S * (P : Int)).natAbs : Int) * ((10 ^ 13 : Nat) : Int)) (1 * ((P * 10 ^ 40 : Nat) : Int)) = -1 :=by
  have e1 : ((10 ^ 40 : Nat) : Int) = 10 ^ 40 :=by decide
  have e2 : ((10 ^ 13 : Nat) : Int) = 10 ^ 13 :=by decide
  rw [Int.natCast_mul,e1,e2,Int.one_mul]
  unfold cmpZ
  rw [if_pos h]
theorem fnDecSin_small (w : World) (hg : Glob w) (hF : GlobF w) (s : ByteArray) (e : Int) (hlen : s.size ≤ 2147483647) : Calls Tryz.prog 3 #[pd (.string s) e] w fun r w' => r = .returned (.bool true) ∧ Kept w w' :=by
  have h5 :=fun W => zzFits W s e hlen
  have h6 :=fun W => arAngle W s e hlen
  have k0 : Kept w (w.alloc (.cells #[.string s,.int .i64 e] 23)) :=Chg.alloc _ _ _
  have P1 :=PC.made w (.string s) (.int .i64 e)
  obtain ⟨W,hW⟩ : ∃ W,w.alloc (.cells #[.string s,.int .i64 e] 23) = W :=⟨_,rfl⟩
  rw [hW] at P1 k0
  have HW :=Lib.hid hW
  have HG :=Lib.hid (And.intro hg hF)
  clear hW hg hF hlen
  obtain ⟨b0,b1,bf⟩ :=id P1
  go_enter Tryz.func3,Tryz.ntmps3
  go_upto_region 1 with fail
  rw [HW.out]
  go_upto_region 4 with (first
    | (go_at_call 5;(with_reducible refine (h5 _).mono ?_);rintro r w1 ⟨rfl,p1⟩;obtain ⟨u0,u1,uf⟩ :=P1.kept p1)
    | (go_at_call 6;(with_reducible refine (h6 _).mono ?_);rintro r w2 ⟨⟨Y,k,hk,hY,fv,rfl,s1,n1,c1,s2,n2,c2,rfl,d1,d2⟩,p2⟩;obtain ⟨d,hd⟩ : ∃ b,decide (Y < 0) = b :=⟨_,rfl⟩;rw [hd];obtain ⟨sY,hsY⟩ : ∃ s,str (txt Y) = .string s :=⟨_,rfl⟩;rw [hsY];obtain ⟨E,hE⟩ : ∃ E : Int,-(k : Int) = E :=⟨_,rfl⟩;rw [hE];have P2 :=P1.kept (kt p1 p2);obtain ⟨v0,v1,vf⟩ :=id P2;have f0 :=vf 0;have f1 :=vf 1;have v2 :=cs_ne (u :=.string sY) v1 (b' :=w.heap.size) (o' :=0) (by omega);have hb : w.heap.size < w2.heap.size :=lt_of_cell v0;have P3 :=P2.kept (Chg.alloc w2 (.cells #[.bool false,.slice none 0 0,.slice none 0 0] 30) None2);obtain ⟨x0,x1,xf⟩ :=id P3;have g0 :=xf 0;have g1 :=xf 1;have x2 :=cs_ne (u :=.string sY) x1 (b' :=w.heap.size) (o' :=0) (by omega)))
  obtain ⟨W4,hW4⟩ : ∃ W,((w2.setCell ⟨w.heap.size,0,none⟩ (.string sY)).setCell ⟨w.heap.size,1,none⟩ (.int .i64 E)).alloc (.cells #[.bool d,.slice s1 n1 c1,.slice s2 n2 c2] 30) = W :=⟨_,rfl⟩
  have q1 :=put2_chg w2 w.heap.size (.string sY) (.int .i64 E)
  have q2 : Kept (put2 w2 w.heap.size (.string sY) (.int .i64 E)) W4 :=hW4 ▸ Chg.alloc _ _ _
  have P4 : PC W4 w.heap.size (.string sY) (.int .i64 E) :=(PC.put P2.slot _ _).kept q2
  have eS : (put2 w2 w.heap.size (.string sY) (.int .i64 E)).heap.size = w2.heap.size :=by simp
  have C4 :=box3_cells (put2 w2 w.heap.size (.string sY) (.int .i64 E)) (.bool d) (.slice s1 n1 c1) (.slice s2 n2 c2) 30
  rw [hW4,eS] at C4
  have D1 :=(d1.setN v0 (fun _ _ h => by cases h) q1).kept q2
  have D2 :=(d2.setN v0 (fun _ _ h => by cases h) q1).kept q2
  have K4 : Kept w W4 :=kt ((kt k0 (kt p1 p2)).keptNew q1 fun b' _ h => by omega) q2
  have F4 : FV W4 (.agg #[.bool d,.slice s1 n1 c1,.slice s2 n2 c2]) Y (10 ^ k) :=⟨s1,n1,c1,s2,n2,c2,by rw [hd],D1,D2⟩
  rw [hW4]
  clear hW4 q1 q2 eS D1 D2 d1 d2 v0 v1 v2 vf f0 f1 x0 x1 x2 xf g0 g1 P2 P3 p1 p2 u0 u1 uf b0 b1 bf P1 HW k0 h5 h6
  obtain ⟨hg,hF⟩ :=HG.out
  have hkE : E = -(k : Int) :=hE.symm
  obtain ⟨m,hm⟩ : ∃ m,(sinR Y k).m = m :=⟨_,rfl⟩
  obtain ⟨kO,hkO⟩ : ∃ q : Nat,(-(sinR Y k).e).toNat = q :=⟨_,rfl⟩
  obtain ⟨z1,z2,z3⟩ :=sinR_bd Y k hk hY
  have z4 :=(sinOf_bd Y k hk hY)
  have hmz : m.natAbs < 10 ^ 500 + 1 :=by
    rw [← hm]
    unfold sinR
    split
    · simp only [Int.natAbs_zero];exact Nat.succ_pos _
    · exact Nat.lt_succ_of_le z4.1
  have hm999 : m.natAbs < 10 ^ 999 :=Nat.lt_of_lt_of_le hmz (by decide +kernel)
  obtain ⟨eO,heO⟩ : ∃ e : Int,(sinR Y k).e = e :=⟨_,rfl⟩
  have heO2 : eO = -(kO : Int) :=by rw [← heO,← hkO];omega
  have hkO2 : kO ≤ 465 :=by rw [← hkO];omega
  have h7 : ∀ W',Kept W4 W' → Calls Tryz.prog 7 #[pd (str (txt Y)) E] W' fun r w' => r = .returned (.tuple #[pd (str (txt m)) eO,.int .i64 0]) ∧ Kept W' w' :=fun W' k' => by
    have :=impl_sin W' (hg.kept (kt K4 k')) (hF.kept (kt K4 k')) k Y E hk hkE hY
    rw [hm,heO] at this
    exact this
  have h7b : ∀ W',Kept W4 W' → Calls Tryz.prog 7 #[pd (str (txt (-Y))) E] W' fun r w' => r = .returned (.tuple #[pd (str (txt (-m))) eO,.int .i64 0]) ∧ Kept W' w' :=fun W' k' => by
    have :=impl_sin W' (hg.kept (kt K4 k')) (hF.kept (kt K4 k')) k (-Y) E hk hkE (by rw [Int.natAbs_neg];exact hY)
    rw [sinR_neg,show (sinR Y k).neg.m = -(sinR Y k).m from rfl,show (sinR Y k).neg.e = (sinR Y k).e from rfl,hm,heO] at this
    exact this
  have hY999 : Y.natAbs < 10 ^ 999 :=Nat.lt_of_lt_of_le hY (Nat.pow_le_pow_right (by decide) (by omega))
  have h9 :=fun W' => toRD (decIn W' Y E hY999)
  have h10 : ∀ W' b s n c,Hid (WV W' (.agg #[.bool b,.slice s n c]) Y) → Calls Tryz.prog 10 #[.agg #[.bool b,.slice s n c]] W' (RW W' (-Y)) :=fun W' b s n c h => toRW (wholeMinus W' _ Y h.out)
  have h8 : ∀ W' b s n c,Hid (WV W' (.agg #[.bool b,.slice s n c]) (-Y)) → Calls Tryz.prog 8 #[.agg #[.bool b,.slice s n c,.int .i64 E]] W' fun r w' => r = .returned (pd (str (txt (-Y))) E) ∧ Kept W' w' :=fun W' b s n c h => by
    obtain ⟨rfl,hd⟩ :=h.out.nv
    exact decOut W' _ (-Y) E ⟨s,n,c,rfl,hd⟩ (by rw [Int.natAbs_neg];exact Nat.lt_of_lt_of_le hY999 (Nat.pow_le_pow_right (by decide) (by decide)))
  have hlaw :=sinR_law Y k hk hY
  rw [hm,hkO] at hlaw
  have h11 :=fun W' (k' : Kept W4 W') => sinCos W' _ Y k (F4.kept k') hk hY
  obtain ⟨x,hx⟩ : ∃ x,Y * ((10 ^ (40 - k) : Nat) : Int) = x :=⟨_,rfl⟩
  rw [hx] at h11 hlaw
  obtain ⟨sN,hsN⟩ : ∃ s,str (txt (-Y)) = .string s :=⟨_,rfl⟩
  obtain ⟨sO,hsO⟩ : ∃ s,str (txt m) = .string s :=⟨_,rfl⟩
  obtain ⟨sB,hsB⟩ : ∃ s,str (txt (-m)) = .string s :=⟨_,rfl⟩
  have h12 : ∀ W',Calls Tryz.prog 12 #[pd (.string sO) eO] W' fun r w' => r = .returned (.bool true) ∧ Kept W' w' :=fun W' => by
    have :=sound W' m eO hm999 (by omega) (by omega)
    rw [hsO] at this;exact this
  have h14 : ∀ W',Calls Tryz.prog 14 #[pd (.string sO) eO] W' (RF W' m (10 ^ kO)) :=fun W' => toRF (by
    have :=fracOf W' m kO hm999 (by omega)
    rw [hsO,← heO2] at this;exact this)
  obtain ⟨PO,hPO⟩ : ∃ q,10 ^ kO = q :=⟨_,rfl⟩
  rw [hPO] at h14
  have hPO2 : PO < 10 ^ 466 :=by rw [← hPO];exact Nat.pow_lt_pow_right (by decide) (by omega)
  obtain ⟨Q,hQ⟩ : ∃ q,10 ^ 40 = q :=⟨_,rfl⟩
  obtain ⟨Q3,hQ3⟩ : ∃ q,10 ^ 13 = q :=⟨_,rfl⟩
  have hxs : x.natAbs ≤ 10 * Plain.D40 :=by rw [← hx];exact x_small hk hY
  have hS130 : (Plain.sumS x).natAbs < 10 ^ 130 :=sums_sm hxs (Nat.le_refl _) Plain.sgS_le
  obtain ⟨S,hS⟩ : ∃ S,Plain.sumS x = S :=⟨_,rfl⟩
  rw [hS] at h11 hlaw hS130
  obtain ⟨C,hC⟩ : ∃ S,sumC x = S :=⟨_,rfl⟩
  rw [hC] at h11
  have hsm :=(Sm.of m.natAbs 999 hm999 (by decide)).2
  have hsP :=(Sm.of PO 466 hPO2 (by decide)).2
  have hsS :=(Sm.of S.natAbs 130 hS130 (by decide)).2
  have hsQ : Sm Q :=(Sm.of Q 41 (by rw [← hQ];decide +kernel) (by decide)).2
  have hsQ3 : Sm Q3 :=(Sm.of Q3 14 (by rw [← hQ3];decide +kernel) (by decide)).2
  have hQ41 : Q < 10 ^ 41 :=by rw [← hQ];decide +kernel
  have hX1 : (m * (Q : Int)).natAbs < 10 ^ 1040 :=by
    rw [Int.natAbs_mul,Int.natAbs_natCast,show 1040 = 999 + 41 from rfl,Nat.pow_add]
    exact Nat.mul_lt_mul'' hm999 hQ41
  have hX2 : (S * (PO : Int)).natAbs < 10 ^ 596 :=by
    rw [Int.natAbs_mul,Int.natAbs_natCast,show 596 = 130 + 466 from rfl,Nat.pow_add]
    exact Nat.mul_lt_mul'' hS130 hPO2
  have hN2 : (m * (Q : Int) - S * (PO : Int)).natAbs < 10 ^ 1041 :=by
    have h1 : (10 : Nat) ^ 596 ≤ 10 ^ 1040 :=Nat.pow_le_pow_right (by decide) (by decide)
    have h2 : (10 : Nat) ^ 1041 = 10 * 10 ^ 1040 :=by rw [Nat.pow_succ,Nat.mul_comm]
    omega
  have hD2 : PO * Q < 10 ^ 507 :=by
    rw [show 507 = 466 + 41 from rfl,Nat.pow_add]
    exact Nat.mul_lt_mul'' hPO2 hQ41
  have h15 : ∀ W' b s n c s2 n2 c2,Hid (FV W' (.agg #[.bool b,.slice s n c,.slice s2 n2 c2]) m PO) → Calls Tryz.prog 15 #[.agg #[.bool b,.slice s n c,.slice s2 n2 c2]] W' (RF W' (-m) PO) :=fun W' b s n c s2 n2 c2 h => toRF (fracMinus W' _ m PO h.out)
  have h13 : ∀ W' b s n c s2 n2 c2,Hid (FV W' (.agg #[.bool b,.slice s n c,.slice s2 n2 c2]) (-m) PO) → Calls Tryz.prog 13 #[pd (.string sB) eO,.agg #[.bool b,.slice s n c,.slice s2 n2 c2]] W' fun r w' => r = .returned (.bool true) ∧ Kept W' w' :=fun W' b s n c s2 n2 c2 h => by
    have :=says W' (-m) kO _ (-m) PO (by rw [Int.natAbs_neg];exact hm999) (by omega) h.out (by rw [Int.natAbs_neg];exact hsm) hsP (by rw [hPO])
    rw [hsB,← heO2] at this
    exact this
  have h17 : ∀ W',Calls Tryz.prog 17 #[.int .i64 40] W' fun e w' => (∃ v,e = .returned v ∧ NV w' v Q) ∧ Kept W' w' :=fun W' => by
    have :=natPow10 W' 40 (by decide)
    rw [hQ] at this;exact this
  have h20 : ∀ W',Calls Tryz.prog 20 #[.int .i64 13] W' (RF W' 1 Q3) :=fun W' => toRF (by
    have :=arTiny13 W'
    rw [hQ3] at this;exact this)
  have hcmp :=near_cmp (m :=m) (S :=S) (P :=PO) (by rw [← hPO];exact hlaw)
  rw [hQ,hQ3] at hcmp
  obtain ⟨N2,hN2e⟩ : ∃ N,m * (Q : Int) - S * (PO : Int) = N :=⟨_,rfl⟩
  obtain ⟨D2,hD2e⟩ : ∃ D,PO * Q = D :=⟨_,rfl⟩
  rw [hN2e,hD2e] at hcmp
  rw [hN2e] at hN2
  rw [hD2e] at hD2
  have h16 : ∀ W' b s n c s2 n2 c2 b' s' n' c' s3 n3 c3,Hid (FV W' (.agg #[.bool b,.slice s n c,.slice s2 n2 c2]) m PO) → Hid (WV W' (.agg #[.bool b',.slice s' n' c']) S) → Hid (Dig W' s3 n3 c3 Q) → Calls Tryz.prog 16 #[.agg #[.bool b,.slice s n c,.slice s2 n2 c2],.agg #[.bool b',.slice s' n' c',.slice s3 n3 c3]] W' (RF W' N2 D2) :=fun W' b s n c s2 n2 c2 b' s' n' c' s3 n3 c3 g1 g2 g3 => toRF (by
    have :=fracSub W' _ _ m S PO Q g1.out (FV.of g2 g3.out) hsm hsS hsP hsQ (Sm.of _ 1040 hX1 (by decide)).2 (Sm.of _ 596 hX2 (by decide)).2
    rw [hN2e,hD2e] at this
    exact this)
  obtain ⟨N3,hN3⟩ : ∃ N : Int,(N2.natAbs : Int) = N :=⟨_,rfl⟩
  have h18 : ∀ W' b s n c s2 n2 c2,Hid (FV W' (.agg #[.bool b,.slice s n c,.slice s2 n2 c2]) N2 D2) → Calls Tryz.prog 18 #[.agg #[.bool b,.slice s n c,.slice s2 n2 c2]] W' (RF W' N3 D2) :=fun W' b s n c s2 n2 c2 h => toRF (by
    have :=fracAbs W' _ N2 D2 h.out
    rw [hN3] at this;exact this)
  have h19 : ∀ W' b s n c s2 n2 c2 b' s' n' c' s3 n3 c3,Hid (FV W' (.agg #[.bool b,.slice s n c,.slice s2 n2 c2]) N3 D2) → Hid (FV W' (.agg #[.bool b',.slice s' n' c',.slice s3 n3 c3]) 1 Q3) → Calls Tryz.prog 19 #[.agg #[.bool b,.slice s n c,.slice s2 n2 c2],.agg #[.bool b',.slice s' n' c',.slice s3 n3 c3]] W' fun r w' => r = .returned (.int .i64 (-1)) ∧ Kept W' w' :=fun W' b s n c s2 n2 c2 b' s' n' c' s3 n3 c3 g1 g2 => by
    have :=fracCmp W' _ _ N3 1 D2 Q3 g1.out g2.out (by rw [← hN3,Int.natAbs_natCast];exact (Sm.of _ 1041 hN2 (by decide)).2) (Nat.one_lt_pow (by decide) (by decide)) (Sm.of _ 507 hD2 (by decide)).2 hsQ3
    rw [← hN3,hcmp] at this
    exact this
  have h11b : ∀ W',Kept W4 W' → Calls Tryz.prog 11 #[.agg #[.bool d,.slice s1 n1 c1,.slice s2 n2 c2],.int .i64 40] W' fun r w' => (∃ b s n c b' s' n' c',r = .returned (.tuple #[.agg #[.bool b,.slice s n c],.agg #[.bool b',.slice s' n' c']]) ∧ Hid (WV w' (.agg #[.bool b,.slice s n c]) S)) ∧ Kept W' w' :=fun W' k' => (h11 W' k').mono (by
    rintro r w' ⟨⟨v1,v2,rfl,⟨s,n,c,rfl,g1⟩,⟨s',n',c',rfl,g2⟩⟩,kk⟩
    exact ⟨⟨_,s,n,c,_,s',n',c',rfl,Lib.hid ⟨s,n,c,rfl,g1⟩⟩,kk⟩)
  rw [hsO] at h7
  rw [hsB] at h7b
  rw [hsN] at h7b h8
  rw [hsY] at h7
  have h9 : ∀ W',Calls Tryz.prog 9 #[pd (.string sY) E] W' (RD W' Y E) :=fun W' => by
    have :=h9 W'
    rw [hsY] at this;exact this
  have ce : ∀ W',Kept W4 W' → W'.cell? ⟨w.heap.size,0,none⟩ = some (.string sY) ∧ W'.cell? ⟨w.heap.size,1,none⟩ = some (.int .i64 E) ∧ W'.cell? ⟨w2.heap.size,0,none⟩ = some (.bool d) ∧ W'.cell? ⟨w2.heap.size,1,none⟩ = some (.slice s1 n1 c1) ∧ W'.cell? ⟨w2.heap.size,2,none⟩ = some (.slice s2 n2 c2) :=fun W' k => ⟨Kept.at k P4.c0,Kept.at k P4.c1,Kept.at k C4.1,Kept.at k C4.2.1,Kept.at k C4.2.2⟩
  clear hsm hsP hsS hsQ hsQ3 hQ41 hX1 hX2 hN2 hD2 hcmp hN2e hD2e hN3 hPO hPO2 hQ hQ3 hxs hS130 hS hC h11 hx hlaw hY999 hkE hkO2 heO2 heO hm999 hmz hm z1 z2 z3 z4 hkO hg hF HG hk hY hd hsY hsN hsO hsB F4 hE
  obtain ⟨b0,b1,b2,b3,b4⟩ :=ce _ (Chg.refl _ _)
  go_upto_region 5 with (go_at_call 7;(with_reducible refine (h7 _ (Chg.refl _ _)).mono ?_);rintro r w5 ⟨rfl,p5⟩)
  obtain ⟨W5,hW5⟩ : ∃ W,w5.alloc (.cells #[.string sO,.int .i64 eO] 23) = W :=⟨_,rfl⟩
  have P5 : PC W5 w5.heap.size (.string sO) (.int .i64 eO) :=hW5 ▸ PC.made w5 _ _
  have K5 : Kept W4 W5 :=hW5 ▸ kt p5 (Chg.alloc _ _ _)
  rw [hW5]
  clear hW5 p5 b0 b1 b2 b3 b4 h7
  obtain ⟨b0,b1,b2,b3,b4⟩ :=ce _ K5
  go_cut [6,7] from 23 to 34 (fun t6 t7 wx => ∃ b6,t6 = ptr b6 ∧ t7 = .int .i64 0 ∧ Hid (PC wx b6 (.string sB) (.int .i64 eO)) ∧ Hid (Kept W5 wx))
  case first =>
    go_wp2_with (first
      | (refine wp_region_lit_plan (id :=5) (.seg [0,4,5] (.two 1 12 (.seg [2] (.two 3 12 (.seg [6] (.two 7 12 (.two 8 12 (.seg [9,10,11,12] (.seg [13] (.seg [14] .fin))) (.seg [8] (.seg [9,10,11,13] (.seg [14] .fin)))) (.seg [7] (.seg [8] (.seg [9,10,11,13] (.seg [14] .fin)))))) (.seg [3] (.seg [6,7] (.seg [8] (.seg [9,10,11,13] (.seg [14] .fin))))))) (.seg [1] (.seg [2,3] (.seg [6,7] (.seg [8] (.seg [9,10,11,13] (.seg [14] .fin)))))))) mixed (by kernel_rfl) ?_;simp only [wpPlanL,gaC,gaN,lZ0,lS0,coS])
      | refine ⟨by kernel_rfl,?_⟩
      | (refine ⟨by kernel_rfl,oldD (by first | exact (PN.put PA kr _ _).2 | exact kr | exact kt kr (Chg.alloc _ _ _) | exact (Chg.refl _ _).drew | exact (Chg.alloc _ _ _).drew | exact Chg.refl _ _ | exact Chg.alloc _ _ _),?_⟩)
      | (refine ⟨oldD (by first | exact (PN.put PA kr _ _).2 | exact kr | exact kt kr (Chg.alloc _ _ _) | exact (Chg.refl _ _).drew | exact (Chg.alloc _ _ _).drew | exact Chg.refl _ _ | exact Chg.alloc _ _ _),?_⟩)
      | (with_reducible refine And.intro ?_ ?_)
      | (go_at_call 9;(with_reducible refine (h9 _).mono ?_);rintro r wa ⟨⟨ba,sa,na,ca,rfl,ga⟩,pa⟩;have kr : Kept W5 wa :=(by first | exact pa.of_drew | exact kt (Chg.alloc _ _ _) pa.of_drew);(first | have PA :=PN.madeD pa | skip))
      | (go_at_call 10;(with_reducible refine (h10 _ _ _ _ _ (by first | exact ga | exact Lib.hid (ga.out.kept (Chg.alloc _ _ _)))).mono ?_);rintro r wb ⟨⟨bb,sb,nb,cb,rfl,gb⟩,pb⟩;(first | have PA :=PN.made kr pb | have PA :=PN.kept PA pb | skip);replace kr : Kept W5 wb :=(by first | exact kt kr pb | exact kt kr (kt (Chg.alloc _ _ _) pb)))
      | (go_at_call 8;(with_reducible refine (h8 _ _ _ _ _ (by first | exact gb | exact Lib.hid (gb.out.kept (Chg.alloc _ _ _)))).mono ?_);rintro r wc ⟨rfl,pc⟩;(first | have PA :=PN.made kr pc | have PA :=PN.kept PA pc | skip);replace kr : Kept W5 wc :=(by first | exact kt kr pc | exact kt kr (kt (Chg.alloc _ _ _) pc)))
      | (go_at_call 7;(with_reducible refine (h7b _ (kt K5 (by first | exact kr | exact kt kr (Chg.alloc _ _ _)))).mono ?_);rintro r we ⟨rfl,pe⟩;(first | have PA :=PN.made kr pe | have PA :=PN.kept PA pe | skip);replace kr : Kept W5 we :=(by first | exact kt kr pe | exact kt kr (kt (Chg.alloc _ _ _) pe));(first | (have y0 :=PA.1.c0;have y1 :=PA.1.c1;have g0 :=PA.1.nf 0;have g1 :=PA.1.nf 1;have y2 :=PA.1.step (.string sB)) | skip)))
    all_goals go_meet
    all_goals first
      | exact ⟨_,rfl,rfl,Lib.hid (PC.made we _ _),Lib.hid (kt kr (Chg.alloc _ _ _))⟩
      | exact ⟨_,rfl,rfl,Lib.hid (PN.put PA kr _ _).1,Lib.hid (PN.put PA kr _ _).2⟩
  case rest =>
    obtain ⟨b6,rfl,rfl,hP6,hK6⟩ :=hcut
    have K6 :=hK6.out
    have P6 :=hP6.out
    have P5 :=P5.kept K6
    obtain ⟨b0,b1,b2,b3,b4⟩ :=ce _ (kt K5 K6)
    clear hP6 hK6
    go_upto_region 7 with (go_at_call 11;(with_reducible refine (h11b _ (kt K5 K6)).mono ?_);rintro r w7 ⟨⟨b7,s7,n7,c7,b8,s8,n8,c8,rfl,g7⟩,p7⟩)
    obtain ⟨W8,hW8⟩ : ∃ W,(w7.alloc (.cells #[.bool b7,.slice s7 n7 c7] 28)).alloc (.cells #[.bool b8,.slice s8 n8 c8] 28) = W :=⟨_,rfl⟩
    have kA : Kept w7 (w7.alloc (.cells #[.bool b7,.slice s7 n7 c7] 28)) :=Chg.alloc _ _ _
    have kB : Kept (w7.alloc (.cells #[.bool b7,.slice s7 n7 c7] 28)) W8 :=hW8 ▸ Chg.alloc _ _ _
    have S0 :=Kept.at kB (box28_0 w7 (.bool b7) (.slice s7 n7 c7))
    have S1 :=Kept.at kB (box28_1 w7 (.bool b7) (.slice s7 n7 c7))
    have GS :=Lib.hid (g7.out.kept (kt kA kB))
    have KF :=kt K4 (kt K5 (kt K6 (kt p7 (kt kA kB))))
    have P5 :=P5.kept (kt p7 (kt kA kB))
    have P6 :=P6.kept (kt p7 (kt kA kB))
    rw [hW8]
    clear hW8 kA kB g7 p7 b0 b1 b2 b3 b4 h9 h10 h8 h7b h11b K4 K5 K6 ce
    obtain ⟨i0,i1,i2⟩ :=id P5
    obtain ⟨j0,j1,j2⟩ :=id P6
    go_cut [58] from 40 to 58 (fun t58 wx => t58 = .bool false ∧ Hid (Kept W8 wx))
    case first =>
      go_wp2_with (first
        | (refine wp_region_lit_plan (id :=7) (.seg [0,1,2,3,4,5,6,7,8] (.seg [9,10,11] (.two 12 13 (.seg [13] (.seg [14] (.seg [15] (.seg [16] (.seg [17,18] .fin))))) (.two 12 14 (.seg [14] (.seg [15] (.seg [16] (.seg [17,18] .fin)))) (.two 12 15 (.seg [15] (.seg [16] (.seg [17,18] .fin))) (.seg [12] (.seg [16] (.seg [17,18] .fin)))))))) mixed (by kernel_rfl) ?_;simp only [wpPlanL,gaC,gaN,lZ0,lS0,coS])
        | refine ⟨by kernel_rfl,?_⟩
        | (refine ⟨by kernel_rfl,oldD (by first | exact kr | exact (Chg.refl _ _).drew | exact Chg.refl _ _),?_⟩)
        | (refine ⟨oldD (by first | exact kr | exact (Chg.refl _ _).drew | exact Chg.refl _ _),?_⟩)
        | (with_reducible refine And.intro ?_ ?_)
        | (go_at_call 12;(with_reducible refine (h12 _).mono ?_);rintro r wa ⟨rfl,pa⟩;have kr : Kept W8 wa :=pa.of_drew;obtain ⟨x0,x1,xf⟩ :=P5.kept kr;obtain ⟨y0,y1,yf⟩ :=P6.kept kr)
        | (go_at_call 14;(with_reducible refine (h14 _).mono ?_);rintro r wb ⟨⟨bb,sb,nb,cb,sb2,nb2,cb2,rfl,gb⟩,pb⟩;replace kr :=kt kr pb;obtain ⟨x0,x1,xf⟩ :=P5.kept kr;obtain ⟨y0,y1,yf⟩ :=P6.kept kr)
        | (go_at_call 15;(with_reducible refine (h15 _ _ _ _ _ _ _ _ gb).mono ?_);rintro r wd ⟨⟨bd,sd,nd,cd,sd2,nd2,cd2,rfl,gd⟩,pd2⟩;replace kr :=kt kr pd2;obtain ⟨x0,x1,xf⟩ :=P5.kept kr;obtain ⟨y0,y1,yf⟩ :=P6.kept kr)
        | (go_at_call 13;(with_reducible refine (h13 _ _ _ _ _ _ _ _ gd).mono ?_);rintro r we ⟨rfl,pe⟩;replace kr :=kt kr pe))
      all_goals go_meet
      all_goals exact ⟨rfl,Lib.hid kr⟩
    case rest =>
      obtain ⟨rfl,hK9⟩ :=hcut
      have K9 :=hK9.out
      have P5 :=P5.kept K9
      obtain ⟨x0,x1,xf⟩ :=id P5
      have z0 :=Kept.at K9 S0
      have z1 :=Kept.at K9 S1
      clear hK9 i0 i1 i2 j0 j1 j2
      go_wp2_with (first
        | (refine wp_region_lit_segs (id :=9) [[0,2,1],[3],[4,5,6,7,8,9,10]] mixed (by kernel_rfl) ?_;simp only [wpSegsL,gaC,gaN,lZ0,lS0,coS])
        | refine ⟨by kernel_rfl,?_⟩
        | (refine ⟨by kernel_rfl,oldD (by first | exact kr | exact (Chg.refl _ _).drew | exact Chg.refl _ _),?_⟩)
        | (refine ⟨oldD (by first | exact kr | exact (Chg.refl _ _).drew | exact Chg.refl _ _),?_⟩)
        | (go_at_call 14;(with_reducible refine (h14 _).mono ?_);rintro r wa ⟨⟨ba,sa,na,ca,sa2,na2,ca2,rfl,ga⟩,pa⟩;have kr :=pa.of_drew)
        | (go_at_call 17;(with_reducible refine (h17 _).mono ?_);rintro r wb ⟨⟨vb,rfl,sb,nb,cb,rfl,db⟩,pb⟩;replace kr :=kt kr pb)
        | (go_at_call 16;(with_reducible refine (h16 _ _ _ _ _ _ _ _ _ _ _ _ _ _ _ (Lib.hid (ga.out.kept pb)) (Lib.hid (GS.out.kept (kt K9 kr))) (Lib.hid db)).mono ?_);rintro r wd ⟨⟨bd,sd,nd,cd,sd2,nd2,cd2,rfl,gd⟩,pd2⟩;replace kr :=kt kr pd2)
        | (go_at_call 18;(with_reducible refine (h18 _ _ _ _ _ _ _ _ gd).mono ?_);rintro r we ⟨⟨be,se,ne,cf,se2,ne2,cf2,rfl,ge⟩,pe⟩;replace kr :=kt kr pe)
        | (go_at_call 20;(with_reducible refine (h20 _).mono ?_);rintro r wf ⟨⟨bf,sf,nf,cg,sf2,nf2,cg2,rfl,gf⟩,pf⟩;replace kr :=kt kr pf)
        | (go_at_call 19;(with_reducible refine (h19 _ _ _ _ _ _ _ _ _ _ _ _ _ _ _ (Lib.hid (ge.out.kept pf)) gf).mono ?_);rintro r wg ⟨rfl,pg⟩;replace kr :=kt kr pg))
      exact ⟨_,results_tmp rfl _ _ _,by first | rfl | simp,kt KF (kt K9 kr)⟩
theorem fnDecSin (w : World) (hg : Glob w) (hF : GlobF w) (s : ByteArray) (e : Int) : Calls Tryz.prog 3 #[pd (.string s) e] w fun r w' => r = .returned (.bool true) ∧ Kept w w' :=by
  rcases Nat.lt_or_ge 2147483647 s.size with h | h
  · have h5 :=fun W => zzFits_big W s e h
    have k0 : Kept w (w.alloc (.cells #[.string s,.int .i64 e] 23)) :=Chg.alloc _ _ _
    obtain ⟨b0,b1,bf⟩ :=PC.made w (.string s) (.int .i64 e)
    clear h
    go_enter Tryz.func3,Tryz.ntmps3
    go_wp2_with (go_at_call 5;(with_reducible refine (h5 _).mono ?_);rintro r w1 ⟨rfl,p1⟩)
    first | go_ret | refine ⟨_,results_tmp rfl _ _ _,?_⟩
    exact ⟨by first | rfl | simp,kt k0 p1⟩
  · exact fnDecSin_small w hg hF s e h
end Go.Proofs.YtfmmdamgcpiciaaGreatDoor
