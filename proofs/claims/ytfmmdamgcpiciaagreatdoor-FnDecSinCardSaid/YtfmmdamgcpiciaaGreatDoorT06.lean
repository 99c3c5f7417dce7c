/- A part of the proof, joined out of the texts D19, F0, F1, A20, A21, A22; each theorem bears its own conditions. -/
import Derived.WalkLawsBesides
import Derived.Test.YtfmmdamgcpiciaaGreatDoorT01
import Derived.Test.YtfmmdamgcpiciaaGreatDoorT03
import Derived.Test.YtfmmdamgcpiciaaGreatDoorT05
set_option linter.unusedVariables false
set_option linter.unusedSimpArgs false
set_option linter.all false
set_option maxHeartbeats 9000000
set_option exponentiation.threshold 400000
set_option maxRecDepth 1000000
namespace Go.Proofs.YtfmmdamgcpiciaaGreatDoor
open Go Go.RowKit
abbrev fl (n : Int) : Nat :=floatOfInt .f64 n
def readsAs (n : Int) : Bool :=match Ieee.double.read (fl n) with
  | .number s m i => i ≤ 0 && (s == decide (n < 0)) && m == n.natAbs * 2 ^ (-i).toNat && (n == 0 && i == -1074 || n != 0 && -52 ≤ i && i ≤ -42)
  | _ => false
theorem readsAs_all : ∀ k : Fin 1023,readsAs ((k.val : Int) - 511) = true :=by decide +kernel
theorem reads (n : Int) (h1 : -512 < n) (h2 : n < 512) : ∃ i : Int,Ieee.double.read (fl n) = .number (decide (n < 0)) (n.natAbs * 2 ^ (-i).toNat) i ∧ i ≤ 0 ∧ (n = 0 ∧ i = -1074 ∨ n ≠ 0 ∧ -52 ≤ i ∧ i ≤ -42) :=by
  have h :=readsAs_all ⟨(n + 511).toNat,by omega⟩
  have e : (((n + 511).toNat : Nat) : Int) - 511 = n :=by omega
  simp only [e] at h
  unfold readsAs at h
  split at h
  · rename_i s m i hr
    simp only [Bool.and_eq_true,Bool.or_eq_true,beq_iff_eq,bne_iff_ne,decide_eq_true_eq] at h
    obtain ⟨⟨⟨h3,h4⟩,h5⟩,h6⟩ :=h
    refine ⟨i,by rw [hr,h4,h5],h3,?_⟩
    rcases h6 with ⟨h6,h7⟩ | ⟨⟨h6,h7⟩,h8⟩
    · exact .inl ⟨h6,h7⟩
    · exact .inr ⟨h6,h7,h8⟩
  · cases h
theorem writes_all : ∀ d : Fin 1024,∀ k : Fin 11,∀ s : Bool,Ieee.double.nearest s (d.val * 2 ^ (k.val + 42)) (-((k.val + 42 : Nat) : Int)) = Ieee.double.nearest s d.val 0 :=by decide +kernel
theorem writes_far : ∀ d : Fin 1024,∀ s : Bool,Ieee.double.nearest s (d.val * 2 ^ 1074) (-1074) = Ieee.double.nearest s d.val 0 :=by decide +kernel
theorem writes (d : Nat) (hd : d < 1024) (s : Bool) (i : Int) (hi : i = -1074 ∨ -52 ≤ i ∧ i ≤ -42) : Ieee.double.nearest s (d * 2 ^ (-i).toNat) i = Ieee.double.nearest s d 0 :=by
  rcases hi with rfl | ⟨h1,h2⟩
  · exact writes_far ⟨d,hd⟩ s
  · have h :=writes_all ⟨d,hd⟩ ⟨(-i).toNat - 42,by omega⟩ s
    have e1 : (-i).toNat - 42 + 42 = (-i).toNat :=by omega
    simp only [e1] at h
    rw [show (-(((-i).toNat : Nat) : Int)) = i by omega] at h
    exact h
theorem signed_scale (n i j : Int) (hi : i ≤ 0) (hj : j ≤ i) : Ieee.signed (decide (n < 0)) (n.natAbs * 2 ^ (-i).toNat) (i - j).toNat = n * 2 ^ (-j).toNat :=by
  have e : 2 ^ (-j).toNat = 2 ^ (-i).toNat * 2 ^ (i - j).toNat :=by rw [← Nat.pow_add];congr 1;omega
  have e' : (2 : Int) ^ (-j).toNat = 2 ^ (-i).toNat * 2 ^ (i - j).toNat :=by exact_mod_cast e
  unfold Ieee.signed
  rw [Nat.shiftLeft_eq,Nat.mul_assoc,← e]
  by_cases h : n < 0
  · simp only [h,decide_true,if_true]
    push_cast
    rw [show ((n.natAbs : Nat) : Int) = -n by omega,Int.neg_mul,Int.neg_neg]
  · simp only [h,decide_false,Bool.false_eq_true,if_false]
    push_cast
    rw [show ((n.natAbs : Nat) : Int) = n by omega]
theorem opp_number (s : Bool) (m : Nat) (i : Int) : (Ieee.Datum.number s m i).opposite = .number (!s) m i :=rfl
theorem signed_neg (s : Bool) (m u : Nat) : Ieee.signed (!s) m u = -Ieee.signed s m u :=by
  unfold Ieee.signed
  cases s <;> simp
theorem fl_sub (a b : Int) (h1 : -512 < a) (h2 : a < 512) (h3 : -512 < b) (h4 : b < 512) (hne : a ≠ b) : floatBits .sub .f64 (fl a) (fl b) = some (fl (a - b)) :=by
  obtain ⟨i,ha,hi,hi2⟩ :=reads a h1 h2
  obtain ⟨j,hb,hj,hj2⟩ :=reads b h3 h4
  show Ieee.double.sub (fl a) (fl b) = _
  unfold Ieee.Format.sub
  rw [ha,hb,opp_number]
  simp only [Ieee.Datum.sum,Option.map_some]
  have ea : Ieee.signed (decide (a < 0)) (a.natAbs * 2 ^ (-i).toNat) (i - min i j).toNat = a * 2 ^ (-(min i j)).toNat :=signed_scale a i (min i j) hi (by omega)
  have eb : Ieee.signed (!decide (b < 0)) (b.natAbs * 2 ^ (-j).toNat) (j - min i j).toNat = -(b * 2 ^ (-(min i j)).toNat) :=by
    rw [signed_neg,signed_scale b j (min i j) hj (by omega)]
  rw [ea,eb]
  have hpos : (0 : Int) < 2 ^ (-(min i j)).toNat :=Int.pow_pos (by decide)
  have et : a * 2 ^ (-(min i j)).toNat + -(b * 2 ^ (-(min i j)).toNat) = (a - b) * 2 ^ (-(min i j)).toNat :=by rw [Int.sub_mul];omega
  rw [et]
  have hne0 : (a - b) * 2 ^ (-(min i j)).toNat ≠ 0 :=Int.mul_ne_zero (by omega) (by omega)
  have hneg : ((a - b) * 2 ^ (-(min i j)).toNat < 0) ↔ (a - b < 0) :=by
    constructor
    · intro h
      rcases Int.lt_or_le (a - b) 0 with h' | h'
      · exact h'
      · exact absurd h (Int.not_lt.2 (Int.mul_nonneg h' (Int.le_of_lt hpos)))
    · intro h
      exact Int.mul_neg_of_neg_of_pos h hpos
  have hab : ((a - b) * 2 ^ (-(min i j)).toNat).natAbs = (a - b).natAbs * 2 ^ (-(min i j)).toNat :=by
    rw [Int.natAbs_mul,Int.natAbs_pow];rfl
  rw [if_neg hne0,hab]
  show some (Ieee.double.nearest _ _ _) = _
  rw [writes (a - b).natAbs (by omega) _ (min i j) (by omega)]
  rw [decide_eq_decide.2 hneg]
  rfl
theorem fl_word : ∀ k : Fin 1024,fl (-(k.val : Int)) = (if k.val = 0 then 0 else 2 ^ 63) + fl (k.val : Int) ∧ fl (k.val : Int) < 2 ^ 63 :=by decide +kernel
theorem fl_int : ∀ k : Fin 1024,floatToIntVal .f64 (fl (k.val : Int)) .i64 = some (k.val : Int) :=by decide +kernel
end Go.Proofs.YtfmmdamgcpiciaaGreatDoor
namespace Go.Proofs.YtfmmdamgcpiciaaGreatDoor
open Go Go.RowKit
theorem callFloatBits (b : Nat) (w : World) : (callFunc 131 #[.float .f64 b]).run Tryz.prog w = .ok (.value (.int .u64 b)) w :=by
  rw [run_callFunc_extern Tryz.func131 (by kernel_rfl) (by kernel_rfl) (by kernel_rfl) (e :=Extern.MathFloatBits.float64bits) (by kernel_rfl)]
  rfl
theorem callFloatFrom (b : Nat) (w : World) : (callFunc 130 #[.int .u64 b]).run Tryz.prog w = .ok (.value (.float .f64 b)) w :=by
  rw [run_callFunc_extern Tryz.func130 (by kernel_rfl) (by kernel_rfl) (by kernel_rfl) (e :=Extern.MathFloatBits.float64frombits) (by kernel_rfl)]
  rfl
theorem andNot_top (b : Nat) (hb : b < 2 ^ 63) (s : Bool) : bits .andNot .u64 (((if s then 2 ^ 63 else 0) + b : Nat) : Int) 9223372036854775808 = (b : Int) :=by
  have hlt : (if s then 2 ^ 63 else 0) + b < 2 ^ 64 :=by cases s <;> simp <;> omega
  have e : ((2 ^ 63 : Nat) : Int) = 9223372036854775808 :=by decide
  rw [← e]
  have hm : ((if s then 2 ^ 63 else 0) + b) % 2 ^ 63 = b :=by cases s <;> simp <;> omega
  have hn : 2 ^ 64 - 1 - 2 ^ 63 % 2 ^ 64 = 2 ^ 63 - 1 :=by decide
  simp only [bits,BitVec.ofInt_natCast,BitVec.toNat_and,BitVec.toNat_not,BitVec.toNat_ofNat]
  show IntKind.u64.wrap ((((if s then 2 ^ 63 else 0) + b) % 2 ^ 64 &&& (2 ^ 64 - 1 - 2 ^ 63 % 2 ^ 64) : Nat) : Int) = b
  rw [Nat.mod_eq_of_lt hlt,hn,Nat.and_two_pow_sub_one_eq_mod,hm,wrap_u64]
  omega
theorem fl_abs (n : Int) (h1 : -1024 < n) (h2 : n < 1024) : bits .andNot .u64 (fl n : Nat) 9223372036854775808 = ((fl n.natAbs : Nat) : Int) :=by
  have h :=fl_word ⟨n.natAbs,by omega⟩
  simp only at h
  rcases Int.lt_or_le n 0 with hn | hn
  · have e : -((n.natAbs : Nat) : Int) = n :=by omega
    rw [e] at h
    have h0 : n.natAbs ≠ 0 :=by omega
    rw [if_neg h0] at h
    rw [h.1]
    have :=andNot_top (fl n.natAbs) h.2 true
    simpa using this
  · have e : ((n.natAbs : Nat) : Int) = n :=by omega
    have :=andNot_top (fl n.natAbs) h.2 false
    rw [e] at this ⊢
    simpa using this
theorem mathAbs (n : Int) (h1 : -1024 < n) (h2 : n < 1024) (w : World) : Calls Tryz.prog 115 #[.float .f64 (fl n)] w fun e w' => e = .returned (.float .f64 (fl n.natAbs)) ∧ w' = w :=by
  have ha :=fl_abs n h1 h2
  have hb :=callFloatBits (fl n)
  have hc :=callFloatFrom (fl n.natAbs)
  generalize fl n = x at *
  generalize fl n.natAbs = y at *
  go_enter Tryz.func115,Tryz.ntmps115
  go_wp2
  first | go_ret | refine ⟨_,results_tmp rfl _ _ _,?_⟩
  exact ⟨rfl,rfl⟩
end Go.Proofs.YtfmmdamgcpiciaaGreatDoor
namespace Go.Proofs.YtfmmdamgcpiciaaGreatDoor
open Go Go.RowKit
abbrev dv (b : Nat) (e : Int) : Value :=.agg #[ptr b,.int .i32 e]
def NewDec (w : World) (X : Int) (x : Int) (e : Ending) (w' : World) : Prop :=∃ b,e = .returned (dv b x) ∧ IntN w w' b X ∧ Kept w w'
abbrev Box (w : World) (x y : Value) : World :=w.alloc (.cells #[x,y] 55)
theorem box0 (w : World) (x y : Value) : (Box w x y).cell? ⟨w.heap.size,0,none⟩ = some x :=by rw [World.cell?_alloc_at _ _ _ _ rfl];rfl
theorem box1 (w : World) (x y : Value) : (Box w x y).cell? ⟨w.heap.size,1,none⟩ = some y :=by rw [World.cell?_alloc_at _ _ _ _ rfl];rfl
theorem boxK (w : World) (x y : Value) : Kept w (Box w x y) :=Chg.alloc _ _ _
theorem boxS (w : World) (x y : Value) : (Box w x y).heap.size = w.heap.size + 1 :=by simp
structure Slot (w : World) (b : Nat) : Prop where
  c0 : ∃ u,w.cell? ⟨b,0,none⟩ = some u
  c1 : ∃ u,w.cell? ⟨b,1,none⟩ = some u
  nf : NF w b
theorem Slot.made (w : World) (x y : Value) : Slot (Box w x y) w.heap.size :=⟨⟨_,box0 w x y⟩,⟨_,box1 w x y⟩,NF.made w _ _⟩
theorem Slot.kept {w w' : World} {b : Nat} (h : Slot w b) (hk : Kept w w') : Slot w' b :=by
  obtain ⟨⟨u,hu⟩,⟨v,hv⟩,hf⟩ :=h
  exact ⟨⟨u,Kept.at hk hu⟩,⟨v,Kept.at hk hv⟩,hf.chg (lt_of_cell hu) hk⟩
theorem IntN.chg {w0 w w' : World} {M : Nat → Nat → Prop} {b : Nat} {X : Int} (h : IntN w0 w b X) (hc : Chg w w' M) (hm : ∀ b o,M b o → b < w0.heap.size) : IntN w0 w' b X :=by
  obtain ⟨s,n,c,h1,h2,h3⟩ :=h
  refine ⟨s,n,c,h1.chg hc (fun o hM => ?_) (fun b' o hs o' hM => ?_),h2,h3⟩
  · have :=hm _ _ hM;omega
  · have :=hm _ _ hM
    have :=h3 _ hs
    simp only at this
    omega
abbrev put2 (w : World) (r : Nat) (x y : Value) : World :=(w.setCell ⟨r,0,none⟩ x).setCell ⟨r,1,none⟩ y
theorem put2_chg (w : World) (r : Nat) (x y : Value) : Chg w (put2 w r x y) fun b _ => b = r :=
  (Chg.setCell w r 0 x (fun b _ => b = r) fun _ => rfl).trans (Chg.setCell _ r 1 y (fun b _ => b = r) fun _ => rfl) fun _ _ _ h => h
theorem put2_0 {w : World} {r : Nat} (h : Slot w r) (x y : Value) : (put2 w r x y).cell? ⟨r,0,none⟩ = some x :=by
  obtain ⟨u,hu⟩ :=h.c0
  exact (cell_setCell_ne (by omega)).trans (cell_setCell_eq hu)
theorem put2_1 {w : World} {r : Nat} (h : Slot w r) (x y : Value) : (put2 w r x y).cell? ⟨r,1,none⟩ = some y :=by
  obtain ⟨u,hu⟩ :=h.c1
  exact cell_setCell_eq ((cell_setCell_ne (by omega)).trans hu)
theorem dec_ret {w W w1 : World} {r b : Nat} {X : Int} (hr : w.heap.size ≤ r) (hr2 : r < W.heap.size) (hk : Kept w W) (k1 : IntN W w1 b X) (k2 : Kept W w1) (x y : Value) : IntN w (put2 w1 r x y) b X ∧ Kept w (put2 w1 r x y) :=
  ⟨(k1.chg (put2_chg w1 r x y) fun b' _ h => by omega).older (Chg.size hk),(hk.trans k2 fun _ _ _ h => h).keptNew (put2_chg w1 r x y) fun b' _ h => by omega⟩
theorem info55 : (Tryz.prog.info? 55).map (fun i => (i.zero,i.size,i.bytes)) = some (some (.agg #[.pointer none,.int .i32 0]),2,16) :=by kernel_rfl
theorem results_dec {fn : Func} {t r : Nat} {tmps : Array Value} {w : World} {x y : Value} (h : fn.results = #[.cell t 55]) (hp : tmps.getD t undef = ptr r) (h0 : w.cell? ⟨r,0,none⟩ = some x) (h1 : w.cell? ⟨r,1,none⟩ = some y) :
    (results fn tmps).run Tryz.prog w = .ok (.agg #[x,y]) w :=by
  obtain ⟨i0,hi,hz0,hz1,hz2⟩ :=info_parts info55
  have hp' : tmps[t]?.getD undef = ptr r :=by simpa using hp
  simp [results,h,hp',go_sem,hi,hz1,h0,h1]
theorem dec_getValue (w : World) (b : Nat) (e : Int) : Calls Tryz.prog 88 #[dv b e] w fun r w' => r = .returned (ptr b) ∧ Kept w w' :=by
  go_enter Tryz.func88,Tryz.ntmps88
  go_wp2
  first | go_ret | refine ⟨_,results_tmp rfl _ _ _,?_⟩
  exact ⟨rfl,Chg.alloc _ _ _⟩
theorem dec_sign (w : World) (b : Nat) (e X : Int) (h : IntAt w b X) : Calls Tryz.prog 90 #[dv b e] w fun r w' => r = .returned (.int .i64 (Int.sign X)) ∧ Kept w w' :=by
  go_enter Tryz.func90,Tryz.ntmps90
  go_wp2_with (first
    | (go_at_call 88;refine (dec_getValue _ b e).mono ?_;rintro r w1 ⟨rfl,k⟩;have k :=(Chg.alloc _ _ _).trans k fun _ _ _ h => h;have K :=Lib.hid k)
    | (go_at_call 95;refine (int_sign _ b X (h.kept K.out)).mono ?_;rintro r w2 ⟨rfl,hw⟩;rw [hw]))
  first | go_ret | refine ⟨_,results_tmp rfl _ _ _,?_⟩
  exact ⟨rfl,K.out⟩
theorem dec_new (w : World) (x e : Int) (h1 : -9223372036854775808 ≤ x) (h2 : x ≤ 9223372036854775807) : Calls Tryz.prog 71 #[.int .i64 x,.int .i32 e] w (NewDec w x e) :=by
  have hn :=fun W => int_new W x h1 h2
  go_enter Tryz.func71,Tryz.ntmps71
  go_wp2_with (first
    | (go_at_call 93;refine (hn _).mono ?_;rintro r w1 ⟨b,rfl,k1,k2⟩;have S :=(Slot.made w (.pointer none) (.int .i32 0)).kept k2;obtain ⟨⟨u0,s0⟩,⟨u1,s1⟩,sf⟩ :=id S;have f0 :=sf 0;have f1 :=sf 1;have s2 :=cs_ne (u :=ptr b) s1 (b' :=w.heap.size) (o' :=0) (by omega)))
  exact bodyPost_ret (v :=dv b e) (results_dec rfl rfl (put2_0 S _ _) (put2_1 S _ _)) rfl ⟨b,rfl,dec_ret (Nat.le_refl _) (by simp) (boxK _ _ _) k1 k2 _ _⟩
end Go.Proofs.YtfmmdamgcpiciaaGreatDoor
namespace Go.Proofs.YtfmmdamgcpiciaaGreatDoor
open Go Go.RowKit
abbrev Zi (w : World) : World :=w.alloc (.cells #[.bool false,.slice none 0 0] 112)
abbrev Box3 (w : World) (a0 a1 b0 b1 : Value) : World :=Box (Box (Box w a0 a1) b0 b1) (.pointer none) (.int .i32 0)
theorem box3K (w : World) (a0 a1 b0 b1 : Value) : Kept w (Box3 w a0 a1 b0 b1) :=((boxK _ _ _).trans (boxK _ _ _) fun _ _ _ h => h).trans (boxK _ _ _) fun _ _ _ h => h
theorem box3S (w : World) (a0 a1 b0 b1 : Value) : (Box3 w a0 a1 b0 b1).heap.size = w.heap.size + 3 :=by simp
theorem box3R (w : World) (a0 a1 b0 b1 : Value) : Slot (Box3 w a0 a1 b0 b1) (w.heap.size + 2) :=by
  have h :=Slot.made (Box (Box w a0 a1) b0 b1) (.pointer none) (.int .i32 0)
  have e : (Box (Box w a0 a1) b0 b1).heap.size = w.heap.size + 2 :=by simp
  rw [e] at h
  exact h
theorem ziK (w : World) : Kept w (Zi w) :=Chg.alloc _ _ _
theorem kt {a b c : World} (h : Kept a b) (k : Kept b c) : Kept a c :=h.trans k fun _ _ _ h => h
theorem oldD {w w' : World} (h : Kept w w') : Old w.drew w' :=by
  have h2 : Kept w.drew w' :=⟨h.os,h.tape,h.output,h.size,h.cell,h.frz,h.dom,h.block⟩
  exact h2.old
theorem dec_mul (w : World) (hg : Glob w) (b1 b2 : Nat) (e1 e2 X Y : Int) (h1 : IntAt w b1 X) (h2 : IntAt w b2 Y) (h11 : b1 = b2 → X.natAbs < W64 ^ 11) (hX : X.natAbs < W39) (hY : Y.natAbs < W39)
    (l1 : -1000000 ≤ e1) (u1 : e1 ≤ 1000000) (l2 : -1000000 ≤ e2) (u2 : e2 ≤ 1000000) :
    Calls Tryz.prog 67 #[dv b1 e1,dv b2 e2] w (NewDec w (X * Y) (e1 + e2)) :=by
  have hlt1 :=h1.lt
  have hlt2 :=h2.lt
  have hW :=box3K w (ptr b1) (.int .i32 e1) (ptr b2) (.int .i32 e2)
  have hS :=box3S w (ptr b1) (.int .i32 e1) (ptr b2) (.int .i32 e2)
  have hR :=box3R w (ptr b1) (.int .i32 e1) (ptr b2) (.int .i32 e2)
  have hm : ∀ w4 bz,Kept (Box3 w (ptr b1) (.int .i32 e1) (ptr b2) (.int .i32 e2)) w4 → w.heap.size + 3 ≤ bz → ZeroInt w4 bz → Calls Tryz.prog 91 #[ptr bz,ptr b1,ptr b2] w4 fun e w' => e = .returned (ptr bz) ∧ IntN (Box3 w (ptr b1) (.int .i32 e1) (ptr b2) (.int .i32 e2)) w' bz (X * Y) ∧ Kept (Box3 w (ptr b1) (.int .i32 e1) (ptr b2) (.int .i32 e2)) w' :=by
    intro w4 bz q1 q2 q3
    have kw :=kt hW q1
    exact int_Mul _ w4 (hg.kept kw) q1 bz b1 b2 (by rw [hS];exact q2) q3 X Y (h1.kept kw) (h2.kept kw) (by omega) (by omega) h11 hX hY
  have HM :=Lib.hid hm
  have HS :=Lib.hid (And.intro hS (And.intro hW hR))
  clear hm hS hW hR
  go_enter Tryz.func67,Tryz.ntmps67
  go_wp2_with (first
    | (refine wp_region_lit_plan (id :=4) (.seg [1,3] (.two 0 2 (.seg [2] (.seg [4] (.seg [5] (.seg [6] .fin)))) (.two 0 4 (.seg [4] (.seg [5] (.seg [6] .fin))) (.seg [0] (.seg [5] (.seg [6] .fin)))))) mixed (by kernel_rfl) ?_;simp only [wpPlanL,gaC,gaN,lZ0,lS0,coS])
    | refine ⟨by kernel_rfl,?_⟩
    | refine ⟨by kernel_rfl,oldD (by first | assumption | exact Chg.refl _ _ | exact (Chg.refl _ _).drew | exact kt (by first | assumption | exact (Chg.refl _ _).drew | exact Chg.refl _ _) (ziK _) | exact Chg.drew (by assumption)),?_⟩
    | refine ⟨oldD (by first | assumption | exact Chg.refl _ _ | exact (Chg.refl _ _).drew | exact kt (by first | assumption | exact (Chg.refl _ _).drew | exact Chg.refl _ _) (ziK _) | exact Chg.drew (by assumption)),?_⟩
    | (with_reducible refine And.intro ?_ ?_)
    | (go_at_call 88;refine (dec_getValue _ _ _).mono ?_;rintro r w1 ⟨rfl,k⟩;have K : Kept (Box3 w (ptr b1) (.int .i32 e1) (ptr b2) (.int .i32 e2)) w1 :=kt (by first | assumption | exact Chg.refl _ _ | exact (Chg.refl _ _).drew | exact kt (by first | assumption | exact (Chg.refl _ _).drew | exact Chg.refl _ _) (ziK _) | exact Chg.drew (by assumption)) k;have G : w.heap.size + 3 ≤ w1.heap.size :=(by have q :=Chg.size K;rw [HS.out.1] at q;exact q);first | have Z :=(ZeroInt.made _).kept k | have Z :=(ZeroInt.made _).kept k.of_drew | have Z :=Z.kept k | skip;clear k)
    | (go_at_call 91;refine (HM.out _ _ (by first | assumption | exact Chg.refl _ _ | exact (Chg.refl _ _).drew | exact kt (by first | assumption | exact (Chg.refl _ _).drew | exact Chg.refl _ _) (ziK _) | exact Chg.drew (by assumption)) (by omega) (by first | exact Z | exact ZeroInt.made _ | simpa using Z)).mono ?_;rintro r w5 ⟨rfl,k1,k2⟩;have S :=HS.out.2.2.kept k2;obtain ⟨⟨u0,s0⟩,⟨u1,s1⟩,sf⟩ :=id S;have f0 :=sf 0;have f1 :=sf 1))
  all_goals
    refine ⟨dv _ (e1 + e2),results_dec rfl rfl (put2_0 S _ _) (put2_1 S _ _),_,rfl,dec_ret (by omega) ?_ HS.out.2.1 k1 k2 _ _⟩
    rw [HS.out.1]
    omega
end Go.Proofs.YtfmmdamgcpiciaaGreatDoor
namespace Go.Proofs.YtfmmdamgcpiciaaGreatDoor
open Go Go.RowKit
abbrev Box2 (w : World) (a0 a1 : Value) : World :=Box (Box w a0 a1) (.pointer none) (.int .i32 0)
theorem box2K (w : World) (a0 a1 : Value) : Kept w (Box2 w a0 a1) :=(boxK _ _ _).trans (boxK _ _ _) fun _ _ _ h => h
theorem box2S (w : World) (a0 a1 : Value) : (Box2 w a0 a1).heap.size = w.heap.size + 2 :=by simp
theorem box2R (w : World) (a0 a1 : Value) : Slot (Box2 w a0 a1) (w.heap.size + 1) :=by
  have h :=Slot.made (Box w a0 a1) (.pointer none) (.int .i32 0)
  rw [boxS] at h
  exact h
theorem dec_rescale (w : World) (hg : Glob w) (b : Nat) (e x X : Int) (h : IntAt w b X) (hX : X.natAbs < W39) (hlt : x < e) (l1 : -512 < x) (u1 : e < 512) (hd : e - x ≤ 420) :
    Calls Tryz.prog 99 #[dv b e,.int .i32 x] w (NewDec w (X * (10 ^ (e - x).toNat : Nat)) x) :=by
  have hltb :=h.lt
  have hsub : ∀ W,(binOp .sub 92 (.float .f64 (fl x)) (.float .f64 (fl e))).run Tryz.prog W = .ok (.float .f64 (fl (x - e))) W :=fun W => run_float_arith W .sub 92 .f64 _ _ _ (fl_sub x e (by omega) (by omega) (by omega) (by omega) (by omega))
  have hab :=mathAbs (x - e) (by omega) (by omega)
  have hcv : ∀ W,(convert 92 2 (.float .f64 (fl ((x - e).natAbs : Nat)))).run Tryz.prog W = .ok (.int .i64 ((x - e).natAbs : Nat)) W :=fun W =>
    run_convert_float_int W 92 2 .f64 .i64 _ _ (by kernel_rfl) Tryz.underlying2 (fl_int ⟨(x - e).natAbs,by omega⟩)
  have hn : (x - e).natAbs = (e - x).toNat :=by omega
  rw [hn] at hab hcv
  have hnl : (e - x).toNat ≤ 420 :=by omega
  clear hn
  generalize (e - x).toNat = n at *
  have hne : (e == x) = false :=by simp;omega
  have hW :=box2K w (ptr b) (.int .i32 e)
  have hS :=box2S w (ptr b) (.int .i32 e)
  have hR :=box2R w (ptr b) (.int .i32 e)
  have hZ : ZeroInt (Zi (Box2 w (ptr b) (.int .i32 e))) (w.heap.size + 2) :=by rw [← hS];exact ZeroInt.made _
  have hp :=fun W (hW2 : Kept w W) => pow10 W (hg.kept hW2) n hnl
  have hm : ∀ w4 b2,Kept (Zi (Box2 w (ptr b) (.int .i32 e))) w4 → w.heap.size + 2 < b2 → IntAt w4 b2 (10 ^ n : Nat) → Calls Tryz.prog 91 #[ptr (w.heap.size + 2),ptr b,ptr b2] w4 fun r w' => r = .returned (ptr (w.heap.size + 2)) ∧ IntN (Box2 w (ptr b) (.int .i32 e)) w' (w.heap.size + 2) (X * (10 ^ n : Nat)) ∧ Kept (Box2 w (ptr b) (.int .i32 e)) w' :=by
    intro w4 b2 q1 q2 q3
    have kz :=kt (ziK (Box2 w (ptr b) (.int .i32 e))) q1
    have kw :=kt hW kz
    exact int_Mul _ w4 (hg.kept kw) kz _ b b2 (by rw [hS];omega) (hZ.kept q1) X _ (h.kept kw) q3 (by omega) (by omega) (fun e => by omega) hX (by
      have :=pow10_lt2 hnl
      rw [Int.natAbs_natCast]
      exact Nat.lt_of_lt_of_le this (Nat.pow_le_pow_right (by decide) (by decide)))
  have HM :=Lib.hid hm
  have HS :=Lib.hid (And.intro hS (And.intro hW hR))
  clear hm hS hW hR hZ
  go_enter Tryz.func99,Tryz.ntmps99
  go_wp2_with (first
    | (go_at_call 115;refine (hab _).mono ?_;rintro r w1 ⟨rfl,hw⟩;rw [hw])
    | (go_at_call 88;refine (dec_getValue _ _ _).mono ?_;rintro r w1 ⟨rfl,k⟩;have K : Kept (Zi (Box2 w (ptr b) (.int .i32 e))) w1 :=k;have G : w.heap.size + 3 ≤ w1.heap.size :=(by have q :=Chg.size K;simp at q;omega))
    | (go_at_call 92;refine (hp _ (kt HS.out.2.1 (kt (ziK _) K))).mono ?_;rintro r w2 ⟨b2,rfl,q1,q2⟩)
    | (go_at_call 91;refine (HM.out w2 b2 (kt K q2) (by have :=q1.ge;omega) q1.at).mono ?_;rintro r w5 ⟨rfl,k1,k2⟩;have S :=HS.out.2.2.kept k2;obtain ⟨⟨u0,s0⟩,⟨u1,s1⟩,sf⟩ :=id S;have f0 :=sf 0;have f1 :=sf 1))
  first
    | refine ⟨dv _ x,results_dec rfl rfl (put2_0 S _ _) (put2_1 S _ _),_,rfl,dec_ret (by omega) ?_ HS.out.2.1 k1 k2 _ _⟩
    | refine bodyPost_ret (v :=dv _ x) (results_dec rfl rfl (put2_0 S _ _) (put2_1 S _ _)) rfl ⟨_,rfl,dec_ret (by omega) ?_ HS.out.2.1 k1 k2 _ _⟩
  rw [HS.out.1]
  omega
end Go.Proofs.YtfmmdamgcpiciaaGreatDoor
