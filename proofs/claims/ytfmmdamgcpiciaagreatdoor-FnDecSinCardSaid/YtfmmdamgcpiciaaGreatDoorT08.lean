/- A part of the proof, joined out of the texts E7, E8, E9, E10, E11, E12, E13, E14, E15, P1; each theorem bears its own conditions. -/
import GoSem.PinnedTables
import Derived.Test.YtfmmdamgcpiciaaGreatDoorT07
set_option linter.unusedVariables false
set_option linter.unusedSimpArgs false
set_option linter.all false
set_option maxHeartbeats 9000000
set_option maxRecDepth 1000000
namespace Go.Proofs.YtfmmdamgcpiciaaGreatDoor
open Go Go.RowKit
theorem callFloatBits191 (b : Nat) (w : World) : (callFunc 191 #[.float .f64 b]).run Tryz.prog w = .ok (.value (.int .u64 b)) w :=by
  rw [run_callFunc_extern Tryz.func191 (by kernel_rfl) (by kernel_rfl) (by kernel_rfl) (e :=Extern.MathFloatBits.float64bits) (by kernel_rfl)]
  rfl
structure FlParts (B : Nat) (neg : Bool) (ex fr : Nat) : Prop where
  eq : B = (if neg then 9223372036854775808 else 0) + ex * 4503599627370496 + fr
  ex1 : 1 ≤ ex
  ex2 : ex ≤ 2046
  fr1 : fr < 4503599627370496
theorem and_mask_i64 (x k : Nat) (hx : x < 9223372036854775808) (hk : k ≤ 62) : bits .and .i64 (x : Int) ((2 ^ k - 1 : Nat) : Int) = ((x % 2 ^ k : Nat) : Int) :=by
  have h2 : 2 ^ k ≤ 2 ^ 62 :=Nat.pow_le_pow_right (by decide) hk
  simp only [bits,BitVec.ofInt_natCast,BitVec.toNat_and,BitVec.toNat_ofNat]
  show IntKind.i64.wrap ((x % 2 ^ 64 &&& (2 ^ k - 1) % 2 ^ 64 : Nat) : Int) = _
  have hl : x % 2 ^ k ≤ x :=Nat.mod_le _ _
  rw [Nat.mod_eq_of_lt (by omega : x < 2 ^ 64),Nat.mod_eq_of_lt (by omega : 2 ^ k - 1 < 2 ^ 64),Nat.and_two_pow_sub_one_eq_mod]
  exact wrap_i64_in _ (by omega) (by omega)
theorem fl_facts {B : Nat} {neg : Bool} {ex fr : Nat} (h : FlParts B neg ex fr) : ((B : Int) / 9223372036854775808 = (if neg then 1 else 0)) ∧ (∃ q : Nat,(B : Int) / 4503599627370496 = (q : Int) ∧ IntKind.i64.wrap (q : Int) = (q : Int) ∧ bits .and .i64 (q : Int) 2047 = (ex : Int)) ∧
    bits .and .u64 (B : Int) 4503599627370495 = (fr : Int) ∧ bits .or .u64 (fr : Int) 4503599627370496 = ((4503599627370496 + fr : Nat) : Int) :=by
  have e :=h.eq
  have h1 :=h.ex1
  have h2 :=h.ex2
  have h3 :=h.fr1
  have hB : B < 2 ^ 64 :=by cases neg <;> simp at e <;> omega
  refine ⟨?_,⟨B / 4503599627370496,by omega,wrap_i64_in _ (by omega) (by omega),?_⟩,?_,?_⟩
  · cases neg <;> simp at e ⊢ <;> omega
  · have :=and_mask_i64 (B / 4503599627370496) 11 (by omega) (by decide)
    rw [show (2 ^ 11 - 1 : Nat) = 2047 from rfl,show (2 ^ 11 : Nat) = 2048 from rfl] at this
    refine this.trans ?_
    congr 1
    cases neg <;> simp at e <;> omega
  · have :=and_u64 B (2 ^ 52 - 1) hB (by decide)
    rw [Nat.and_two_pow_sub_one_eq_mod] at this
    refine this.trans ?_
    congr 1
    show B % 4503599627370496 = fr
    cases neg <;> simp at e <;> omega
  · have :=or_u64 fr 4503599627370496 (by omega) (by omega)
    refine this.trans ?_
    congr 1
    have h4 :=Nat.two_pow_add_eq_or_of_lt (i :=52) (b :=fr) (by omega) 1
    rw [Nat.mul_one] at h4
    rw [Nat.or_comm]
    exact h4.symm
theorem OutAt.chg' {w w' : World} {b o cap b' o' n' : Nat} {ys : List Nat} (h : OutAt w b o cap ys) (k : Chg w w' (In b' o' n')) (hne : b ≠ b') : OutAt w' b o cap ys :=⟨fun j x hj => k.at (h.row j x hj) fun e => hne e.1,h.room.chg k,h.le⟩
def zeros32 : Array Value :=#[.int .u8 0,.int .u8 0,.int .u8 0,.int .u8 0,.int .u8 0,.int .u8 0,.int .u8 0,.int .u8 0,.int .u8 0,.int .u8 0,.int .u8 0,.int .u8 0,.int .u8 0,.int .u8 0,.int .u8 0,.int .u8 0,.int .u8 0,.int .u8 0,.int .u8 0,.int .u8 0,.int .u8 0,.int .u8 0,.int .u8 0,.int .u8 0,.int .u8 0,.int .u8 0,.int .u8 0,.int .u8 0,.int .u8 0,.int .u8 0,.int .u8 0,.int .u8 0]
theorem zeros32_at (j : Nat) (h : j < 32) : zeros32[j]? = some (.int .u8 0) :=by
  have e : zeros32 = Array.replicate 32 (.int .u8 0) :=rfl
  rw [e,Array.getElem?_replicate,if_pos h]
theorem ftoa64 (w : World) (b o cap B ex fr i hi lo D n c : Nat) (neg : Bool) (P x : Int) (ds : List Nat) (h : OutAt w b o cap []) (hcap : 24 ≤ cap) (hp : FlParts B neg ex fr) (hx1 : ex ≤ 1800)
    (hw : 8 < w.heap.size) (ht : TabAt w i hi lo) (h10 : TenAt w) (ok : SfOk ((4503599627370496 + fr) * 2048) ((ex : Int) - 1086) hi lo) (hi1 : sfP ((4503599627370496 + fr) * 2048) ((ex : Int) - 1086) + 348 = (i : Int))
    (hD : sfD ((4503599627370496 + fr) * 2048) ((ex : Int) - 1086) hi lo = (D,P)) (hDl : D < W64) (hn : nDig D = n) (hn1 : D < 10 ^ n) (hn2 : n ≤ 18) (hds : (digs D n).take (strip (digs D n)) = c :: ds) (hst : strip (digs D n) ≤ n)
    (hx : (n : Int) + P = x + 1) (hxa : -99 ≤ x) (hxb : x ≤ 99) (hP : -300 ≤ P) (hP2 : P ≤ 300) :
    Calls Tryz.prog 161 #[.slice (some ⟨b,o,none⟩) 0 cap,.float .f64 B,.int .u8 101,.int .i64 (-1)] w fun e w' =>
      e = .returned (.slice (some ⟨b,o,none⟩) (eText neg c ds x).length cap) ∧ OutAt w' b o cap (eText neg c ds x) ∧ Chg w w' (fun p _ => p = b) :=by
  obtain ⟨f1,⟨q,f2,f3,f4⟩,f5,f6⟩ :=fl_facts hp
  have hc :=callFloatBits191 B
  have hfr :=hp.fr1
  have hex1 :=hp.ex1
  have hM : 4503599627370496 + fr < W64 :=by unfold W64;omega
  have hbl : Lib.bitLen (4503599627370496 + fr) = 53 :=by
    have h1 :=bitLen_bounds hM (by omega)
    have h2 : Lib.bitLen (4503599627370496 + fr) - 1 < 53 :=(Nat.pow_lt_pow_iff_right (a :=2) (by decide)).1 (Nat.lt_of_le_of_lt h1.2.1 (by omega))
    have h3 : 52 < Lib.bitLen (4503599627370496 + fr) :=(Nat.pow_lt_pow_iff_right (a :=2) (by decide)).1 (Nat.lt_of_le_of_lt (by omega) h1.2.2)
    omega
  have hl :=len64 (4503599627370496 + fr) hM
  rw [hbl] at hl
  have hsh : IntKind.u64.wrap (((4503599627370496 + fr : Nat) : Int) * 2048) = (((4503599627370496 + fr) * 2048 : Nat) : Int) :=by rw [wrap_u64_in _ (by omega) (by omega)];omega
  have hsf :=fun W (hW : 8 < W.heap.size) (ht : TabAt W i hi lo) => shortFloat W ((4503599627370496 + fr) * 2048) i hi lo ((ex : Int) - 1086) ok hW hi1 ht
  simp only [hD] at hsf
  have hnd :=fun W (h10 : TenAt W) => numDigits W D hDl h10
  rw [hn] at hnd
  generalize (4503599627370496 + fr) * 2048 = m at *
  have hM0 : (((4503599627370496 + fr : Nat) : Int) == 0) = false :=by simp only [beq_eq_false_iff_ne];omega
  have e1 : ((ex : Int) == 2047) = false :=by simp only [beq_eq_false_iff_ne];omega
  have e2 : ((ex : Int) == 0) = false :=by simp only [beq_eq_false_iff_ne];omega
  have e3 : ((if neg then (1 : Int) else 0) != 0) = neg :=by cases neg <;> rfl
  have HT :=Lib.hid (And.intro ht h10)
  have HH :=Lib.hid h
  have hlt :=h.room
  have hb : b < w.heap.size :=by
    obtain ⟨v,hv⟩ :=(h.room 0 (by omega)).1
    exact lt_of_cell hv
  generalize ((4503599627370496 + fr : Nat) : Int) = M at *
  generalize (if neg then (1 : Int) else 0) = sg at *
  generalize (fr : Int) = F at *
  generalize (B : Int) = BI at *
  clear ok hp ht h10 h hlt
  go_enter Tryz.func161,Tryz.ntmps161
  have he : (ex : Int) - 1086 = (ex : Int) + -1023 - 11 - 52 :=by omega
  rw [he] at hsf
  have hzz : ∀ j,j < 32 → (w.alloc (Obj.cells zeros32 135)).cell? ⟨w.heap.size,0 + j,none⟩ = some (.int .u8 0) :=fun j hj => by
    rw [World.cell?_alloc_at _ _ _ _ rfl,Nat.zero_add]
    exact zeros32_at j hj
  have HZ :=Lib.hid hzz
  clear hzz
  obtain ⟨S,hS⟩ : ∃ S,strip (digs D n) = S :=⟨_,rfl⟩
  have hlen :=congrArg List.length hds
  rw [List.length_take,digs_len,hS,List.length_cons] at hlen
  rw [hS] at hst hds
  have hSl : S = ds.length + 1 :=by omega
  have hSb : S ≤ 18 :=by omega
  have hSc : 1 ≤ S :=by omega
  have hset :=fun W hz => setDigits W w.heap.size 0 32 32 D n P hz hn1 hDl (by omega) (by omega) (by omega) (by omega) (by omega) (by omega)
  rw [hS] at hset
  have hfm : ∀ w3,OutAt w3 b o cap [] → Bytes w3 w.heap.size 0 (digs D n) → w.heap.size < w3.heap.size → Calls Tryz.prog 194 #[.slice (some ⟨b,o,none⟩) 0 cap,.bool neg,.slice (some ⟨w.heap.size,0,none⟩) 32 32,.int .i64 (x + 1),.int .i64 S,.int .i64 (max ((S : Int) - 1) 0),.int .u8 101,.bool true] w3 fun e w' =>
      e = .returned (.slice (some ⟨b,o,none⟩) (eText neg c ds x).length cap) ∧ OutAt w' b o cap (eText neg c ds x) ∧ Chg w3 w' (fun p _ => p = b) :=by
    intro w3 q1 q2 q3
    rw [hSl,show max (((ds.length + 1 : Nat) : Int) - 1) 0 = (ds.length : Int) by omega,Int.natCast_add]
    refine fmtE w3 b o cap w.heap.size 0 32 32 c ds neg x q1 hcap (by omega) (fun j y hj => ?_) (by omega) (by omega) (by omega) hxa hxb q3 (by omega)
    have hj2 : j < S :=by
      have :=(List.getElem?_eq_some_iff.1 hj).1
      simp at this;omega
    rw [← hds,List.getElem?_take,if_pos hj2] at hj
    exact (q2 j y hj).1
  have HF :=Lib.hid hfm
  have HE :=Lib.hid hset
  clear hfm hset hS hSl hlen hds hst
  go_wp2_with (first
    | (refine wp_region_lit_segs (id :=14) [[0,1,2,3,4,5,6,7,8]] mixed (by kernel_rfl) ?_;simp only [wpSegsL,gaC,gaN,lZ0,lS0,coS])
    | (refine wp_region_lit_segs (id :=38) [[0,1,2,3,4,5,6,7,8,9,10]] mixed (by kernel_rfl) ?_;simp only [wpSegsL,gaC,gaN,lZ0,lS0,coS])
    | refine ⟨by kernel_rfl,?_⟩
    | (go_at_call 195;(with_reducible refine (hl _).mono ?_);rintro r w1 ⟨rfl,hw1⟩;rw [hw1];clear hw1)
    | (go_at_call 204;(refine (hsf _ (by show 8 < (w.alloc _).heap.size;simp;omega) (HT.out.1.kept (Chg.alloc w (Obj.cells zeros32 135) None2).drew)).mono ?_);rintro r w1 ⟨rfl,k⟩;have K :=Lib.hid (show Kept (w.alloc (Obj.cells zeros32 135)) w1 from k.of_drew);clear k)
    | (go_at_call 198;refine (hnd _ (HT.out.2.kept (kt (Chg.alloc _ _ _) K.out).drew)).mono ?_;rintro r w2 ⟨rfl,k⟩;have K :=Lib.hid (kt K.out k.of_drew);clear k)
    | (go_at_call 197;refine (HE.out _ (fun j hj => ⟨Kept.at K.out (HZ.out j (by omega)),(K.out.frz _ _ (by simp)).trans (NF.made w _ _ _)⟩)).mono ?_;rintro r w3 ⟨rfl,g1,g2⟩;have G :=Lib.hid (And.intro g1 g2);clear g1 g2)
    | (go_at_call 194;refine (HF.out _ ((HH.out.kept (kt (Chg.alloc _ _ _) K.out)).chg' G.out.2 (by omega)) G.out.1 (Nat.lt_of_lt_of_le (by simp) (Nat.le_trans (Chg.size K.out) (Chg.size G.out.2)))).mono ?_;rintro r w4 ⟨rfl,q1,q2⟩;have Q :=Lib.hid (And.intro q1 q2);clear q1 q2))
  first | go_ret | refine ⟨_,results_tmp rfl _ _ _,?_⟩
  refine ⟨rfl,Q.out.1,?_⟩
  exact (((Chg.alloc w (Obj.cells zeros32 135) (fun p _ => p = b)).trans K.out fun _ _ _ h => h.elim).trans G.out.2 fun p _ hp h => by have :=h.1;omega).trans Q.out.2 fun _ _ _ h => h
end Go.Proofs.YtfmmdamgcpiciaaGreatDoor
namespace Go.Proofs.YtfmmdamgcpiciaaGreatDoor
open Go Go.RowKit
theorem mathAbsB (b b' : Nat) (h : bits .andNot .u64 (b : Int) 9223372036854775808 = (b' : Int)) (w : World) : Calls Tryz.prog 115 #[.float .f64 b] w fun e w' => e = .returned (.float .f64 b') ∧ w' = w :=by
  have hb :=callFloatBits b
  have hc :=callFloatFrom b'
  go_enter Tryz.func115,Tryz.ntmps115
  go_wp2
  first | go_ret | refine ⟨_,results_tmp rfl _ _ _,?_⟩
  exact ⟨rfl,rfl⟩
theorem isNaN (b : Nat) (h : (FloatKind.f64.format.order b b != some Ordering.eq) = false) (w : World) : Calls Tryz.prog 117 #[.float .f64 b] w fun e w' => e = .returned (.bool false) ∧ w' = w :=by
  go_enter Tryz.func117,Tryz.ntmps117
  go_wp2
  first | go_ret | refine ⟨_,results_tmp rfl _ _ _,?_⟩
  exact ⟨rfl,rfl⟩
theorem isInf (b b' : Nat) (ha : bits .andNot .u64 (b : Int) 9223372036854775808 = (b' : Int)) (h : (FloatKind.f64.format.order b' 9218868437227405311 == some Ordering.gt) = false) (w : World) : Calls Tryz.prog 118 #[.float .f64 b,.int .i64 0] w fun e w' => e = .returned (.bool false) ∧ w' = w :=by
  have hm :=mathAbsB b b' ha
  go_enter Tryz.func118,Tryz.ntmps118
  go_wp2_with (go_at_call 115;refine (hm _).mono ?_;rintro e w1 ⟨rfl,hw⟩;rw [hw];clear hw)
  first | go_ret | refine ⟨_,results_tmp rfl _ _ _,?_⟩
  exact ⟨rfl,rfl⟩
theorem appendFloat (w : World) (R : Ending → World → Prop) (s f : Value) (h : Calls Tryz.prog 161 #[s,f,.int .u8 101,.int .i64 (-1)] w fun e w' => ∃ v,e = .returned v ∧ R e w') : Calls Tryz.prog 119 #[s,f,.int .u8 101,.int .i64 (-1),.int .i64 64] w R :=by
  have h1 : Calls Tryz.prog 133 #[s,f,.int .u8 101,.int .i64 (-1),.int .i64 64] w fun e w' => ∃ v,e = .returned v ∧ R e w' :=by
    go_enter Tryz.func133,Tryz.ntmps133
    go_wp2_with (go_at_call 161;refine h.mono ?_;rintro e w' ⟨v,rfl,hR⟩)
    first | go_ret | refine ⟨_,results_tmp rfl _ _ _,?_⟩
    first | exact hR | exact ⟨v,rfl,hR⟩
  go_enter Tryz.func119,Tryz.ntmps119
  go_wp2_with (go_at_call 133;refine h1.mono ?_;rintro e w' ⟨v,rfl,hR⟩)
  exact hR
end Go.Proofs.YtfmmdamgcpiciaaGreatDoor
namespace Go.Proofs.YtfmmdamgcpiciaaGreatDoor
open Go Go.RowKit
def mval (xs : List Nat) : Nat :=xs.foldl (fun m y => if y = 46 then m else m * 10 + (y - 48)) 0
def mcnt (xs : List Nat) : Nat :=xs.foldl (fun m y => if y = 46 then m else m + 1) 0
theorem mval_snoc (xs : List Nat) (y : Nat) : mval (xs ++ [y]) = if y = 46 then mval xs else mval xs * 10 + (y - 48) :=by simp [mval,List.foldl_append]
theorem mcnt_snoc (xs : List Nat) (y : Nat) : mcnt (xs ++ [y]) = if y = 46 then mcnt xs else mcnt xs + 1 :=by simp [mcnt,List.foldl_append]
def Digit (y : Nat) : Prop :=48 ≤ y ∧ y ≤ 57
theorem mval_go (xs : List Nat) : ∀ m k : Nat,m < 10 ^ k → (∀ y ∈ xs,Digit y ∨ y = 46) → xs.foldl (fun m y => if y = 46 then m else m * 10 + (y - 48)) m < 10 ^ xs.foldl (fun m y => if y = 46 then m else m + 1) k :=by
  induction xs with
  | nil => intro m k h _;exact h
  | cons y xs ih =>
    intro m k h hy
    simp only [List.foldl_cons]
    have hy0 :=hy y (by simp)
    refine ih _ _ ?_ fun z hz => hy z (by simp [hz])
    by_cases h46 : y = 46
    · rw [if_pos h46,if_pos h46];exact h
    · rw [if_neg h46,if_neg h46,Nat.pow_succ]
      rcases hy0 with ⟨h1,h2⟩ | h1
      · omega
      · exact absurd h1 h46
theorem mval_lt {xs : List Nat} (h : ∀ y ∈ xs,Digit y ∨ y = 46) : mval xs < 10 ^ mcnt xs :=mval_go xs 0 0 (by decide) h
theorem mval_drop46 (c : Nat) (ds : List Nat) (hc : c ≠ 46) : mval ([c] ++ (if ds = [] then [] else [46] ++ ds)) = mval (c :: ds) ∧ mcnt ([c] ++ (if ds = [] then [] else [46] ++ ds)) = mcnt (c :: ds) :=by
  by_cases h : ds = []
  · subst h;simp
  · rw [if_neg h];simp [mval,mcnt,hc]
theorem mcnt_digits {xs : List Nat} (h : ∀ y ∈ xs,Digit y) : mcnt xs = xs.length :=by
  suffices ∀ k,xs.foldl (fun m y => if y = 46 then m else m + 1) k = k + xs.length by have :=this 0;unfold mcnt;omega
  induction xs with
  | nil => intro k;rfl
  | cons y xs ih =>
    intro k
    have hy :=h y (by simp)
    unfold Digit at hy
    simp only [List.foldl_cons,List.length_cons]
    rw [if_neg (by omega),ih (fun z hz => h z (by simp [hz]))]
    omega
def Reads (w : World) (b o : Nat) (ys : List Nat) : Prop :=∀ (j y : Nat),ys[j]? = some y → w.cell? ⟨b,o + j,none⟩ = some (u8v y)
theorem mcnt_take (xs : List Nat) (k : Nat) : mcnt (xs.take k) ≤ mcnt xs :=by
  have h :=List.take_append_drop k xs
  have : mcnt xs = mcnt (xs.take k ++ xs.drop k) :=by rw [h]
  rw [this]
  unfold mcnt
  rw [List.foldl_append]
  generalize List.foldl (fun m y => if y = 46 then m else m + 1) 0 (xs.take k) = m
  generalize xs.drop k = zs
  induction zs generalizing m with
  | nil => exact Nat.le_refl _
  | cons z zs ih =>
    simp only [List.foldl_cons]
    refine Nat.le_trans ?_ (ih _)
    split <;> omega
theorem out_made (w : World) : OutAt (w.alloc (Obj.cells zeros32 135)) w.heap.size 0 32 [] :=⟨fun j x h => by simp at h,fun j hj => ⟨⟨_,by rw [World.cell?_alloc_at _ _ _ _ rfl,Nat.zero_add];exact zeros32_at j hj⟩,NF.made w _ _ _⟩,by simp⟩
theorem newFromFloat (w : World) (B B' c : Nat) (neg : Bool) (x M : Int) (ds : List Nat) (f1 : (FloatKind.f64.format.order B B != some Ordering.eq) = false) (f2 : bits .andNot .u64 (B : Int) 9223372036854775808 = (B' : Int)) (f3 : (FloatKind.f64.format.order B' 9218868437227405311 == some Ordering.gt) = false)
    (hf : ∀ W b,w.heap.size ≤ b → Kept w W → OutAt W b 0 32 [] → Calls Tryz.prog 161 #[.slice (some ⟨b,0,none⟩) 0 32,.float .f64 B,.int .u8 101,.int .i64 (-1)] W fun e w' =>
      e = .returned (.slice (some ⟨b,0,none⟩) (eText neg c ds x).length 32) ∧ OutAt w' b 0 32 (eText neg c ds x) ∧ Chg W w' (fun p _ => p = b))
    (hc : Digit c) (hds : ∀ y ∈ ds,Digit y) (hdl : ds.length ≤ 16) (hxa : -99 ≤ x) (hxb : x ≤ 99) (hM : M = if neg then -(mval (c :: ds) : Int) else (mval (c :: ds) : Int)) :
    Calls Tryz.prog 100 #[.float .f64 B,.int .i64 64] w (NewDec w M (x - ds.length)) :=by
  have h1 :=isNaN B f1
  have h2 :=isInf B B' f2 f3
  -- the text's parts
  obtain ⟨D,hD⟩ : ∃ D,[c] ++ (if ds = [] then [] else [46] ++ ds) = D :=⟨_,rfl⟩
  obtain ⟨hmv,hmc⟩ :=mval_drop46 c ds (by unfold Digit at hc;omega)
  rw [hD] at hmv hmc
  have hDd : ∀ y ∈ D,Digit y ∨ y = 46 :=by
    rw [← hD]
    intro y hy
    simp only [List.mem_append,List.mem_singleton] at hy
    rcases hy with rfl | hy
    · exact .inl hc
    · split at hy
      · cases hy
      · rcases List.mem_append.1 hy with h | h
        · exact .inr (by simpa using h)
        · exact .inl (hds y h)
  have hDl : D.length ≤ 18 :=by rw [← hD];simp;split <;> simp <;> omega
  have hml :=mval_lt hDd
  have hmd : mcnt D = ds.length + 1 :=by
    rw [hmc,mcnt_digits (fun y hy => by rcases List.mem_cons.1 hy with rfl | hy;exact hc;exact hds y hy)];rfl
  obtain ⟨sg,hsg⟩ : ∃ s,(if x < 0 then 45 else 43) = s :=⟨_,rfl⟩
  have hE : ∀ n : Bool,eText n c ds x = (if n then [45] else []) ++ (D ++ (101 :: [sg,48 + x.natAbs / 10,48 + x.natAbs % 10])) :=by
    intro n
    unfold eText
    rw [← hD,← hsg]
    simp
  rw [hE] at hf
  have HD :=Lib.hid (And.intro hE (And.intro hD (And.intro hmv (And.intro hmc (And.intro hDd (And.intro hml (And.intro hmd (And.intro hsg (And.intro hc (And.intro hds hM))))))))))
  clear hE hD hmv hmc hDd hml hmd hsg hds hM f1 f2 f3
  have hO : OutAt ((w.alloc (Obj.cells #[.pointer none,.int .i32 0] 55)).alloc (Obj.cells zeros32 135)) (w.heap.size + 1) 0 32 [] :=by
    have :=out_made (w.alloc (Obj.cells #[.pointer none,.int .i32 0] 55))
    have e : (w.alloc (Obj.cells #[.pointer none,.int .i32 0] 55)).heap.size = w.heap.size + 1 :=by simp
    rw [e] at this
    exact this
  cases neg
  · have hc45 : ((c : Int) == 45) = false :=by unfold Digit at hc;simp only [beq_eq_false_iff_ne];omega
    go_enter Tryz.func100,Tryz.ntmps100
    go_upto_block 0 with (first
      | (go_at_call 117;refine (h1 _).mono ?_;rintro e w1 ⟨rfl,hw⟩;rw [hw];clear hw)
      | (go_at_call 118;refine (h2 _).mono ?_;rintro e w1 ⟨rfl,hw⟩;rw [hw];clear hw)
      | (go_at_call 119;refine appendFloat _ _ _ _ ?_;refine (hf _ (w.heap.size + 1) (by omega) (kt (Chg.alloc _ _ _) (Chg.alloc _ _ _)) hO).mono ?_;rintro e w1 ⟨rfl,q1,q2⟩;refine ⟨_,rfl,?_⟩;have c0 :=q1.row 0 c (by rw [← HD.out.2.1];rfl)))
    have q0 :=q2
    have q2 :=(kt (Chg.alloc w (Obj.cells #[.pointer none,.int .i32 0] 55) None2) (Chg.alloc _ (Obj.cells zeros32 135) None2)).keptNew q2 fun p _ h => by omega
    have S : Slot w1 w.heap.size :=(Slot.made w (.pointer none) (.int .i32 0)).kept ((Chg.alloc _ (Obj.cells zeros32 135) None2).keptNew q0 fun p _ h => by simp;omega)
    have rd : Reads w1 (w.heap.size + 1) 0 (D ++ (101 :: [sg,48 + x.natAbs / 10,48 + x.natAbs % 10])) :=q1.row
    obtain ⟨hE,hD,hmv,hmc,hDd,hml,hmd,hsg,hc,hds,hM⟩ :=HD.out
    obtain ⟨I,hI⟩ : ∃ I,D.length = I :=⟨_,rfl⟩
    have hIg : D.length = I :=hI
    rw [hI]
    rw [hI] at hDl
    have r101 :=rd I 101 (by rw [List.getElem?_append_right (by omega),hI,Nat.sub_self];rfl)
    have rsg :=rd (I + 1) sg (by rw [List.getElem?_append_right (by omega),hI,Nat.add_sub_cancel_left];rfl)
    have re1 :=rd (I + 2) (48 + x.natAbs / 10) (by rw [List.getElem?_append_right (by omega),hI,Nat.add_sub_cancel_left];rfl)
    have re0 :=rd (I + 3) (48 + x.natAbs % 10) (by rw [List.getElem?_append_right (by omega),hI,Nat.add_sub_cancel_left];rfl)
    simp only [Nat.zero_add] at r101 rsg re1 re0
    have hrow : ∀ k,k < I → ∃ y,D[k]? = some y ∧ w1.cell? ⟨w.heap.size + 1,k,none⟩ = some (u8v y) ∧ (Digit y ∨ y = 46) :=by
      intro k hk
      obtain ⟨y,g⟩ : ∃ y,D[k]? = some y :=⟨_,List.getElem?_eq_getElem (by omega)⟩
      have g2 :=rd k y (by rw [List.getElem?_append_left (by omega)];exact g)
      rw [Nat.zero_add] at g2
      exact ⟨y,g,g2,hDd _ (List.mem_of_getElem? g)⟩
    have hbd : ∀ k,mval (D.take k) < 1000000000000000000 ∧ mcnt (D.take k) ≤ 18 :=by
      intro k
      have a1 :=mval_lt (xs :=D.take k) fun y hy => hDd y (List.mem_of_mem_take hy)
      have a2 :=mcnt_take D k
      have a3 : 10 ^ mcnt (D.take k) ≤ 10 ^ 18 :=Nat.pow_le_pow_right (by decide) (by omega)
      exact ⟨by omega,by omega⟩
    have HR :=Lib.hid hrow
    have HB :=Lib.hid hbd
    have HI :=Lib.hid hIg
    have HK :=Lib.hid (And.intro q2 S)
    clear q1 q2 rd hE hD hmv hmc hDd hml hmd hsg hc hds hM hI hIg hrow hbd S hf hO h1 h2
    go_wp2_with fail
    go_loop [8] (fun t => ∃ k : Nat,k ≤ I ∧ t = .int .i64 k) (fun t => I + 1 - (intOf t).toNat)
    case atStart => exact ⟨0,Nat.zero_le _,rfl⟩
    case round =>
      obtain ⟨k,hk,rfl⟩ :=hrel
      by_cases hkI : k < I
      · obtain ⟨y,_,cy,hy⟩ :=HR.out k hkI
        have hy1 : ((y : Int) != 101) = true :=by unfold Digit at hy;simp only [bne_iff_ne,ne_eq];omega
        go_wp2_with fail
        go_round
        case rel => exact ⟨k + 1,by omega,by first | rfl | (congr 1;omega)⟩
        case measure => simp [intOf];omega
      · obtain rfl : k = I :=by omega
        go_wp2_with (first
          | (refine wp_region_lit_segs (id :=11) [[0,1,2,3,4,5,6,7,8]] mixed (by kernel_rfl) ?_;simp only [wpSegsL,gaC,gaN,lZ0,lS0,coS])
          | refine ⟨by kernel_rfl,?_⟩)
        go_loop [11,12,53] (fun t11 t12 t53 => ∃ j : Nat,j ≤ k ∧ t53 = .int .i64 j ∧ t11 = .int .i64 (mval (D.take j) : Nat) ∧ t12 = .int .i64 (mcnt (D.take j) : Nat)) (fun _ _ t => k - (intOf t).toNat)
        case atStart => exact ⟨0,Nat.zero_le _,rfl,rfl,rfl⟩
        case round =>
          obtain ⟨j,hj,rfl,rfl,rfl⟩ :=hrel
          by_cases hjk : j < k
          · obtain ⟨y,gy,cy,hy⟩ :=HR.out j hjk
            have hb1 :=HB.out j
            have hb2 :=HB.out (j + 1)
            rw [take_succ gy,mval_snoc,mcnt_snoc] at hb2
            have hm1 : mval (D.take (j + 1)) = if y = 46 then mval (D.take j) else mval (D.take j) * 10 + (y - 48) :=by rw [take_succ gy,mval_snoc]
            have hm2 : mcnt (D.take (j + 1)) = if y = 46 then mcnt (D.take j) else mcnt (D.take j) + 1 :=by rw [take_succ gy,mcnt_snoc]
            have HM :=Lib.hid (And.intro hm1 hm2)
            clear hm1 hm2 gy
            generalize mval (D.take j) = mv at *
            generalize mcnt (D.take j) = mc at *
            by_cases h46 : y = 46
            · subst h46
              go_wp2_with fail
              go_round
              case rel => exact ⟨j + 1,by omega,by first | rfl | (congr 1;omega),by rw [HM.out.1];rfl,by rw [HM.out.2];rfl⟩
              case measure => simp [intOf];omega
            · rw [if_neg h46,if_neg h46] at hb2
              have hyd : 48 ≤ y ∧ y ≤ 57 :=hy.resolve_right h46
              have hy1 : ((y : Int) == 46) = false :=by simp only [beq_eq_false_iff_ne];omega
              clear hy
              go_wp2_with fail
              go_round
              case rel => exact ⟨j + 1,by omega,by first | rfl | (congr 1;omega),by rw [HM.out.1,if_neg h46];congr 1;omega,by rw [HM.out.2,if_neg h46];congr 1⟩
              case measure => simp [intOf];omega
          · obtain rfl : j = k :=by omega
            have hb1 :=HB.out j
            obtain ⟨hE,hD,hmv,hmc,hDd,hml,hmd,hsg,hc,hds,hM⟩ :=HD.out
            have htk : D.take j = D :=List.take_of_length_le (by rw [HI.out];exact Nat.le_refl _)
            rw [htk] at hb1 ⊢
            rw [hmd] at hb1 ⊢
            have hMv : M =  (mval D : Int) :=by rw [hM,hmv];rfl
            clear hE hD hmv hmc hDd hml hmd hc hds hM htk
            generalize mval D = mv at *
            have hmv1 :=hb1.1
            obtain ⟨na,hna⟩ : ∃ a,x.natAbs / 10 = a :=⟨_,rfl⟩
            obtain ⟨nb,hnb⟩ : ∃ a,x.natAbs % 10 = a :=⟨_,rfl⟩
            have hnab : x.natAbs = na * 10 + nb :=by omega
            have hna9 : na ≤ 9 :=by omega
            have hnb9 : nb ≤ 9 :=by omega
            rw [hna] at re1
            rw [hnb] at re0
            have re1 : w1.cell? ⟨w.heap.size + 1,j + 1 + 1,none⟩ = some (u8v (48 + na)) :=re1
            have re0 : w1.cell? ⟨w.heap.size + 1,j + 1 + 1 + 1,none⟩ = some (u8v (48 + nb)) :=re0
            have hn :=fun W => int_new W M (by rw [hMv];omega) (by rw [hMv];omega)
            rw [hMv] at hn
            have HM :=Lib.hid hMv
            clear hMv
            clear hna hnb hb1
            by_cases hx0 : x < 0
            · obtain rfl : sg = 45 :=by rw [← hsg,if_pos hx0]
              have hxe : x = -((na * 10 + nb : Nat) : Int) :=by omega
              have HX :=Lib.hid hxe
              clear hsg hnab hxe
              go_wp2_with fail
              go_loop [16,84] (fun t16 t84 => (t84 = .int .i64 0 ∧ t16 = .int .i64 0) ∨ (t84 = .int .i64 1 ∧ t16 = .int .i64 na) ∨ (t84 = .int .i64 2 ∧ t16 = .int .i64 ((na : Int) * 10 + nb))) (fun _ t => 2 - (intOf t).toNat)
              case atStart => exact .inl ⟨rfl,rfl⟩
              case round =>
                rcases hrel with ⟨rfl,rfl⟩ | ⟨rfl,rfl⟩ | ⟨rfl,rfl⟩
                · go_wp2_with fail
                  go_round
                  case rel => exact .inr (.inl ⟨rfl,by congr 1;omega⟩)
                  case measure => simp [intOf]
                · go_wp2_with fail
                  go_round
                  case rel => exact .inr (.inr ⟨rfl,by congr 1;omega⟩)
                  case measure => simp [intOf]
                · go_wp2_with (first
                    | (go_at_call 93;refine (hn _).mono ?_;rintro r w2 ⟨b2,rfl,k1,k2⟩;have S :=HK.out.2.kept (kt ((Chg.refl _ _).drew) k2);obtain ⟨⟨u0,s0⟩,⟨u1,s1⟩,sf⟩ :=id S;have f0 :=sf 0;have f1 :=sf 1;have s2 :=cs_ne (u :=ptr b2) s1 (b' :=w.heap.size) (o' :=0) (by omega)))
                  have hxx : (-((na : Int) * 10 + nb) - ((ds.length : Int) + 1) + 1) = x - (ds.length : Int) :=by have :=HX.out;omega
                  rw [hxx]
                  refine bodyPost_ret (v :=dv b2 (x - (ds.length : Int))) (results_dec rfl rfl (put2_0 S _ _) (put2_1 S _ _)) rfl ⟨b2,rfl,?_⟩
                  rw [HM.out]
                  exact dec_ret (W :=w1.drew) (Nat.le_refl _) (show w.heap.size < w1.drew.heap.size from lt_of_cell (w :=w1) (HK.out.2.c0.choose_spec)) HK.out.1.drew k1 k2 _ _
            · obtain rfl : sg = 43 :=by rw [← hsg,if_neg hx0]
              have hxe : x = ((na * 10 + nb : Nat) : Int) :=by omega
              have HX :=Lib.hid hxe
              clear hsg hnab hxe
              go_wp2_with fail
              go_loop [16,84] (fun t16 t84 => (t84 = .int .i64 0 ∧ t16 = .int .i64 0) ∨ (t84 = .int .i64 1 ∧ t16 = .int .i64 na) ∨ (t84 = .int .i64 2 ∧ t16 = .int .i64 ((na : Int) * 10 + nb))) (fun _ t => 2 - (intOf t).toNat)
              case atStart => exact .inl ⟨rfl,rfl⟩
              case round =>
                rcases hrel with ⟨rfl,rfl⟩ | ⟨rfl,rfl⟩ | ⟨rfl,rfl⟩
                · go_wp2_with fail
                  go_round
                  case rel => exact .inr (.inl ⟨rfl,by congr 1;omega⟩)
                  case measure => simp [intOf]
                · go_wp2_with fail
                  go_round
                  case rel => exact .inr (.inr ⟨rfl,by congr 1;omega⟩)
                  case measure => simp [intOf]
                · go_wp2_with (first
                    | (go_at_call 93;refine (hn _).mono ?_;rintro r w2 ⟨b2,rfl,k1,k2⟩;have S :=HK.out.2.kept (kt ((Chg.refl _ _).drew) k2);obtain ⟨⟨u0,s0⟩,⟨u1,s1⟩,sf⟩ :=id S;have f0 :=sf 0;have f1 :=sf 1;have s2 :=cs_ne (u :=ptr b2) s1 (b' :=w.heap.size) (o' :=0) (by omega)))
                  have hxx : ((na : Int) * 10 + nb - ((ds.length : Int) + 1) + 1) = x - (ds.length : Int) :=by have :=HX.out;omega
                  rw [hxx]
                  refine bodyPost_ret (v :=dv b2 (x - (ds.length : Int))) (results_dec rfl rfl (put2_0 S _ _) (put2_1 S _ _)) rfl ⟨b2,rfl,?_⟩
                  rw [HM.out]
                  exact dec_ret (W :=w1.drew) (Nat.le_refl _) (show w.heap.size < w1.drew.heap.size from lt_of_cell (w :=w1) (HK.out.2.c0.choose_spec)) HK.out.1.drew k1 k2 _ _
  · have hc45 : ((c : Int) == 45) = false :=by unfold Digit at hc;simp only [beq_eq_false_iff_ne];omega
    go_enter Tryz.func100,Tryz.ntmps100
    go_upto_block 0 with (first
      | (go_at_call 117;refine (h1 _).mono ?_;rintro e w1 ⟨rfl,hw⟩;rw [hw];clear hw)
      | (go_at_call 118;refine (h2 _).mono ?_;rintro e w1 ⟨rfl,hw⟩;rw [hw];clear hw)
      | (go_at_call 119;refine appendFloat _ _ _ _ ?_;refine (hf _ (w.heap.size + 1) (by omega) (kt (Chg.alloc _ _ _) (Chg.alloc _ _ _)) hO).mono ?_;rintro e w1 ⟨rfl,q1,q2⟩;refine ⟨_,rfl,?_⟩;have c0 :=q1.row 0 45 (rfl)))
    have q0 :=q2
    have q2 :=(kt (Chg.alloc w (Obj.cells #[.pointer none,.int .i32 0] 55) None2) (Chg.alloc _ (Obj.cells zeros32 135) None2)).keptNew q2 fun p _ h => by omega
    have S : Slot w1 w.heap.size :=(Slot.made w (.pointer none) (.int .i32 0)).kept ((Chg.alloc _ (Obj.cells zeros32 135) None2).keptNew q0 fun p _ h => by simp;omega)
    have rd : Reads w1 (w.heap.size + 1) 1 (D ++ (101 :: [sg,48 + x.natAbs / 10,48 + x.natAbs % 10])) :=fun j y hj => by
      have :=q1.row (j + 1) y hj
      rwa [show 0 + (j + 1) = 1 + j by omega] at this
    obtain ⟨hE,hD,hmv,hmc,hDd,hml,hmd,hsg,hc,hds,hM⟩ :=HD.out
    obtain ⟨I,hI⟩ : ∃ I,D.length = I :=⟨_,rfl⟩
    have hIg : D.length = I :=hI
    rw [hI]
    rw [hI] at hDl
    have r101 :=rd I 101 (by rw [List.getElem?_append_right (by omega),hI,Nat.sub_self];rfl)
    have rsg :=rd (I + 1) sg (by rw [List.getElem?_append_right (by omega),hI,Nat.add_sub_cancel_left];rfl)
    have re1 :=rd (I + 2) (48 + x.natAbs / 10) (by rw [List.getElem?_append_right (by omega),hI,Nat.add_sub_cancel_left];rfl)
    have re0 :=rd (I + 3) (48 + x.natAbs % 10) (by rw [List.getElem?_append_right (by omega),hI,Nat.add_sub_cancel_left];rfl)
    have hrow : ∀ k,k < I → ∃ y,D[k]? = some y ∧ w1.cell? ⟨w.heap.size + 1,1 + k,none⟩ = some (u8v y) ∧ (Digit y ∨ y = 46) :=by
      intro k hk
      obtain ⟨y,g⟩ : ∃ y,D[k]? = some y :=⟨_,List.getElem?_eq_getElem (by omega)⟩
      have g2 :=rd k y (by rw [List.getElem?_append_left (by omega)];exact g)
      exact ⟨y,g,g2,hDd _ (List.mem_of_getElem? g)⟩
    have hbd : ∀ k,mval (D.take k) < 1000000000000000000 ∧ mcnt (D.take k) ≤ 18 :=by
      intro k
      have a1 :=mval_lt (xs :=D.take k) fun y hy => hDd y (List.mem_of_mem_take hy)
      have a2 :=mcnt_take D k
      have a3 : 10 ^ mcnt (D.take k) ≤ 10 ^ 18 :=Nat.pow_le_pow_right (by decide) (by omega)
      exact ⟨by omega,by omega⟩
    have HR :=Lib.hid hrow
    have HB :=Lib.hid hbd
    have HI :=Lib.hid hIg
    have HK :=Lib.hid (And.intro q2 S)
    clear q1 q2 rd hE hD hmv hmc hDd hml hmd hsg hc hds hM hI hIg hrow hbd S hf hO h1 h2
    go_wp2_with fail
    go_loop [8] (fun t => ∃ k : Nat,k ≤ I ∧ t = .int .i64 k) (fun t => I + 1 - (intOf t).toNat)
    case atStart => exact ⟨0,Nat.zero_le _,rfl⟩
    case round =>
      obtain ⟨k,hk,rfl⟩ :=hrel
      by_cases hkI : k < I
      · obtain ⟨y,_,cy,hy⟩ :=HR.out k hkI
        have hy1 : ((y : Int) != 101) = true :=by unfold Digit at hy;simp only [bne_iff_ne,ne_eq];omega
        go_wp2_with fail
        go_round
        case rel => exact ⟨k + 1,by omega,by first | rfl | (congr 1;omega)⟩
        case measure => simp [intOf];omega
      · obtain rfl : k = I :=by omega
        go_wp2_with (first
          | (refine wp_region_lit_segs (id :=11) [[0,1,2,3,4,5,6,7,8]] mixed (by kernel_rfl) ?_;simp only [wpSegsL,gaC,gaN,lZ0,lS0,coS])
          | refine ⟨by kernel_rfl,?_⟩)
        go_loop [11,12,53] (fun t11 t12 t53 => ∃ j : Nat,j ≤ k ∧ t53 = .int .i64 j ∧ t11 = .int .i64 (mval (D.take j) : Nat) ∧ t12 = .int .i64 (mcnt (D.take j) : Nat)) (fun _ _ t => k - (intOf t).toNat)
        case atStart => exact ⟨0,Nat.zero_le _,rfl,rfl,rfl⟩
        case round =>
          obtain ⟨j,hj,rfl,rfl,rfl⟩ :=hrel
          by_cases hjk : j < k
          · obtain ⟨y,gy,cy,hy⟩ :=HR.out j hjk
            have hb1 :=HB.out j
            have hb2 :=HB.out (j + 1)
            rw [take_succ gy,mval_snoc,mcnt_snoc] at hb2
            have hm1 : mval (D.take (j + 1)) = if y = 46 then mval (D.take j) else mval (D.take j) * 10 + (y - 48) :=by rw [take_succ gy,mval_snoc]
            have hm2 : mcnt (D.take (j + 1)) = if y = 46 then mcnt (D.take j) else mcnt (D.take j) + 1 :=by rw [take_succ gy,mcnt_snoc]
            have HM :=Lib.hid (And.intro hm1 hm2)
            clear hm1 hm2 gy
            generalize mval (D.take j) = mv at *
            generalize mcnt (D.take j) = mc at *
            by_cases h46 : y = 46
            · subst h46
              go_wp2_with fail
              go_round
              case rel => exact ⟨j + 1,by omega,by first | rfl | (congr 1;omega),by rw [HM.out.1];rfl,by rw [HM.out.2];rfl⟩
              case measure => simp [intOf];omega
            · rw [if_neg h46,if_neg h46] at hb2
              have hyd : 48 ≤ y ∧ y ≤ 57 :=hy.resolve_right h46
              have hy1 : ((y : Int) == 46) = false :=by simp only [beq_eq_false_iff_ne];omega
              clear hy
              go_wp2_with fail
              go_round
              case rel => exact ⟨j + 1,by omega,by first | rfl | (congr 1;omega),by rw [HM.out.1,if_neg h46];congr 1;omega,by rw [HM.out.2,if_neg h46];congr 1⟩
              case measure => simp [intOf];omega
          · obtain rfl : j = k :=by omega
            have hb1 :=HB.out j
            obtain ⟨hE,hD,hmv,hmc,hDd,hml,hmd,hsg,hc,hds,hM⟩ :=HD.out
            have htk : D.take j = D :=List.take_of_length_le (by rw [HI.out];exact Nat.le_refl _)
            rw [htk] at hb1 ⊢
            rw [hmd] at hb1 ⊢
            have hMv : M = - (mval D : Int) :=by rw [hM,hmv];rfl
            clear hE hD hmv hmc hDd hml hmd hc hds hM htk
            generalize mval D = mv at *
            have hmv1 :=hb1.1
            obtain ⟨na,hna⟩ : ∃ a,x.natAbs / 10 = a :=⟨_,rfl⟩
            obtain ⟨nb,hnb⟩ : ∃ a,x.natAbs % 10 = a :=⟨_,rfl⟩
            have hnab : x.natAbs = na * 10 + nb :=by omega
            have hna9 : na ≤ 9 :=by omega
            have hnb9 : nb ≤ 9 :=by omega
            rw [hna] at re1
            rw [hnb] at re0
            have re1 : w1.cell? ⟨w.heap.size + 1,1 + (j + 1) + 1,none⟩ = some (u8v (48 + na)) :=by rw [show 1 + (j + 1) + 1 = 1 + (j + 2) by omega];exact re1
            have re0 : w1.cell? ⟨w.heap.size + 1,1 + (j + 1) + 1 + 1,none⟩ = some (u8v (48 + nb)) :=by rw [show 1 + (j + 1) + 1 + 1 = 1 + (j + 3) by omega];exact re0
            have hn :=fun W => int_new W M (by rw [hMv];omega) (by rw [hMv];omega)
            rw [hMv] at hn
            have HM :=Lib.hid hMv
            clear hMv
            clear hna hnb hb1
            by_cases hx0 : x < 0
            · obtain rfl : sg = 45 :=by rw [← hsg,if_pos hx0]
              have hxe : x = -((na * 10 + nb : Nat) : Int) :=by omega
              have HX :=Lib.hid hxe
              clear hsg hnab hxe
              go_wp2_with fail
              go_loop [16,84] (fun t16 t84 => (t84 = .int .i64 0 ∧ t16 = .int .i64 0) ∨ (t84 = .int .i64 1 ∧ t16 = .int .i64 na) ∨ (t84 = .int .i64 2 ∧ t16 = .int .i64 ((na : Int) * 10 + nb))) (fun _ t => 2 - (intOf t).toNat)
              case atStart => exact .inl ⟨rfl,rfl⟩
              case round =>
                rcases hrel with ⟨rfl,rfl⟩ | ⟨rfl,rfl⟩ | ⟨rfl,rfl⟩
                · go_wp2_with fail
                  go_round
                  case rel => exact .inr (.inl ⟨rfl,by congr 1;omega⟩)
                  case measure => simp [intOf]
                · go_wp2_with fail
                  go_round
                  case rel => exact .inr (.inr ⟨rfl,by congr 1;omega⟩)
                  case measure => simp [intOf]
                · go_wp2_with (first
                    | (go_at_call 93;refine (hn _).mono ?_;rintro r w2 ⟨b2,rfl,k1,k2⟩;have S :=HK.out.2.kept (kt ((Chg.refl _ _).drew) k2);obtain ⟨⟨u0,s0⟩,⟨u1,s1⟩,sf⟩ :=id S;have f0 :=sf 0;have f1 :=sf 1;have s2 :=cs_ne (u :=ptr b2) s1 (b' :=w.heap.size) (o' :=0) (by omega)))
                  have hxx : (-((na : Int) * 10 + nb) - ((ds.length : Int) + 1) + 1) = x - (ds.length : Int) :=by have :=HX.out;omega
                  rw [hxx]
                  refine bodyPost_ret (v :=dv b2 (x - (ds.length : Int))) (results_dec rfl rfl (put2_0 S _ _) (put2_1 S _ _)) rfl ⟨b2,rfl,?_⟩
                  rw [HM.out]
                  exact dec_ret (W :=w1.drew) (Nat.le_refl _) (show w.heap.size < w1.drew.heap.size from lt_of_cell (w :=w1) (HK.out.2.c0.choose_spec)) HK.out.1.drew k1 k2 _ _
            · obtain rfl : sg = 43 :=by rw [← hsg,if_neg hx0]
              have hxe : x = ((na * 10 + nb : Nat) : Int) :=by omega
              have HX :=Lib.hid hxe
              clear hsg hnab hxe
              go_wp2_with fail
              go_loop [16,84] (fun t16 t84 => (t84 = .int .i64 0 ∧ t16 = .int .i64 0) ∨ (t84 = .int .i64 1 ∧ t16 = .int .i64 na) ∨ (t84 = .int .i64 2 ∧ t16 = .int .i64 ((na : Int) * 10 + nb))) (fun _ t => 2 - (intOf t).toNat)
              case atStart => exact .inl ⟨rfl,rfl⟩
              case round =>
                rcases hrel with ⟨rfl,rfl⟩ | ⟨rfl,rfl⟩ | ⟨rfl,rfl⟩
                · go_wp2_with fail
                  go_round
                  case rel => exact .inr (.inl ⟨rfl,by congr 1;omega⟩)
                  case measure => simp [intOf]
                · go_wp2_with fail
                  go_round
                  case rel => exact .inr (.inr ⟨rfl,by congr 1;omega⟩)
                  case measure => simp [intOf]
                · go_wp2_with (first
                    | (go_at_call 93;refine (hn _).mono ?_;rintro r w2 ⟨b2,rfl,k1,k2⟩;have S :=HK.out.2.kept (kt ((Chg.refl _ _).drew) k2);obtain ⟨⟨u0,s0⟩,⟨u1,s1⟩,sf⟩ :=id S;have f0 :=sf 0;have f1 :=sf 1;have s2 :=cs_ne (u :=ptr b2) s1 (b' :=w.heap.size) (o' :=0) (by omega)))
                  have hxx : ((na : Int) * 10 + nb - ((ds.length : Int) + 1) + 1) = x - (ds.length : Int) :=by have :=HX.out;omega
                  rw [hxx]
                  refine bodyPost_ret (v :=dv b2 (x - (ds.length : Int))) (results_dec rfl rfl (put2_0 S _ _) (put2_1 S _ _)) rfl ⟨b2,rfl,?_⟩
                  rw [HM.out]
                  exact dec_ret (W :=w1.drew) (Nat.le_refl _) (show w.heap.size < w1.drew.heap.size from lt_of_cell (w :=w1) (HK.out.2.c0.choose_spec)) HK.out.1.drew k1 k2 _ _
end Go.Proofs.YtfmmdamgcpiciaaGreatDoor
namespace Go.Proofs.YtfmmdamgcpiciaaGreatDoor
open Go Go.RowKit
structure GlobF (w : World) : Prop where
  tab : ∀ i hi lo : Nat,Go.Pinned.pow10Rows[i]? = some (hi,lo) → TabAt w i hi lo
  ten : TenAt w
  big : 8 < w.heap.size
theorem GlobF.kept {w w' : World} (h : GlobF w) (k : Kept w w') : GlobF w' :=⟨fun i hi lo e => (h.tab i hi lo e).kept k,h.ten.kept k,Nat.lt_of_lt_of_le h.big (Chg.size k)⟩
structure FC where
  B : Nat
  B' : Nat
  neg : Bool
  ex : Nat
  fr : Nat
  i : Nat
  hi : Nat
  lo : Nat
  D : Nat
  P : Int
  n : Nat
  c : Nat
  ds : List Nat
  x : Int
def FC.ok (k : FC) : Bool :=
  let m :=(4503599627370496 + k.fr) * 2048
  let e :=(k.ex : Int) - 1086
  let s :=(sfS m e).toNat
  decide (k.B = (if k.neg then 9223372036854775808 else 0) + k.ex * 4503599627370496 + k.fr) && decide (1 ≤ k.ex) && decide (k.ex ≤ 1800) && decide (k.fr < 4503599627370496) &&
  decide (-1085 < e) && decide (e ≤ 1000) && decide (0 ≤ sfS m e) && decide (sfS m e < 64) && decide (k.hi < W64) && decide (k.lo < W64) &&
  decide (usc (sfMin m) k.hi k.lo s < 4000000000000000000) && decide (usc (m + 1024) k.hi k.lo s < 4000000000000000000) && decide (usc m k.hi k.lo s < 4000000000000000000) && decide (1 ≤ usc (m + 1024) k.hi k.lo s) &&
  decide (-348 ≤ sfP m e) && decide (sfP m e < 348) && decide (sfP m e + 348 = (k.i : Int)) && decide (sfD m e k.hi k.lo = (k.D,k.P)) && decide (k.D < W64) && decide (nDig k.D = k.n) && decide (k.D < 10 ^ k.n) && decide (k.n ≤ 18) &&
  decide ((digs k.D k.n).take (strip (digs k.D k.n)) = k.c :: k.ds) && decide (strip (digs k.D k.n) ≤ k.n) && decide ((k.n : Int) + k.P = k.x + 1) && decide (-99 ≤ k.x) && decide (k.x ≤ 99) && decide (-300 ≤ k.P) && decide (k.P ≤ 300) &&
  (k.c :: k.ds).all (fun y => decide (48 ≤ y) && decide (y ≤ 57)) && decide (k.ds.length ≤ 16) &&
  ((FloatKind.f64.format.order k.B k.B != some Ordering.eq) == false) && decide (bits .andNot .u64 (k.B : Int) 9223372036854775808 = (k.B' : Int)) && ((FloatKind.f64.format.order k.B' 9218868437227405311 == some Ordering.gt) == false) &&
  ((FloatKind.f64.format.order k.B 0 == some Ordering.eq) == false) && decide (Go.Pinned.pow10Rows[k.i]? = some (k.hi,k.lo))
def FC.M (k : FC) : Int :=if k.neg then -(mval (k.c :: k.ds) : Int) else (mval (k.c :: k.ds) : Int)
def FC.E (k : FC) : Int :=k.x - k.ds.length
theorem fromFloat (k : FC) (hk : k.ok = true) (w : World) (hg : GlobF w) : Calls Tryz.prog 69 #[.float .f64 k.B] w (NewDec w k.M k.E) :=by
  unfold FC.ok at hk
  simp only [Bool.and_eq_true,decide_eq_true_eq,beq_iff_eq,List.all_eq_true] at hk
  obtain ⟨⟨⟨⟨⟨⟨⟨⟨⟨⟨⟨⟨⟨⟨⟨⟨⟨⟨⟨⟨⟨⟨⟨⟨⟨⟨⟨⟨⟨⟨⟨⟨⟨⟨⟨a1,a2⟩,a3⟩,a4⟩,a5⟩,a6⟩,a7⟩,a8⟩,a9⟩,a10⟩,a11⟩,a12⟩,a13⟩,a14⟩,a15⟩,a16⟩,a17⟩,a18⟩,a19⟩,a20⟩,a21⟩,a22⟩,a23⟩,a24⟩,a25⟩,a26⟩,a27⟩,a28⟩,a29⟩,a30⟩,a31⟩,a32⟩,a33⟩,a34⟩,a35⟩,a36⟩ :=hk
  have hok : SfOk ((4503599627370496 + k.fr) * 2048) ((k.ex : Int) - 1086) k.hi k.lo :=⟨by omega,by omega,a5,a6,a7,a8,a9,a10,a11,a12,a13,a14,a15,a16⟩
  have hff :=fun W b (h1 : w.heap.size ≤ b) (h2 : Kept w W) (h3 : OutAt W b 0 32 []) => ftoa64 W b 0 32 k.B k.ex k.fr k.i k.hi k.lo k.D k.n k.c k.neg k.P k.x k.ds h3 (by omega) ⟨a1,a2,by omega,a4⟩ a3 (Nat.lt_of_lt_of_le hg.big (Chg.size h2)) ((hg.tab k.i k.hi k.lo a36).kept h2) (hg.ten.kept h2) hok a17 a18 a19 a20 a21 a22 a23 a24 a25 a26 a27 a28 a29
  have hdg : ∀ y ∈ k.c :: k.ds,Digit y :=a30
  have hnf :=fun W (hW : Kept w W) => newFromFloat W k.B k.B' k.c k.neg k.x k.M k.ds a32 a33 a34 (fun W2 b h1 h2 h3 => hff W2 b (Nat.le_trans (Chg.size hW) h1) (kt hW h2) h3) (hdg _ (by simp)) (fun y hy => hdg y (by simp [hy])) a31 a26 a27 rfl
  have hE : k.x - (k.ds.length : Int) = k.E :=rfl
  rw [hE] at hnf
  clear hff hok a1 a2 a3 a4 a5 a6 a7 a8 a9 a10 a11 a12 a13 a14 a15 a16 a17 a18 a19 a20 a21 a22 a23 a24 a25 a26 a27 a28 a29 a30 a31 a32 a33 a34 a36 hdg hE
  generalize k.M = M at *
  generalize k.E = E at *
  generalize k.B = B at *
  have kA : Kept w (w.alloc (Obj.cells #[.pointer none,.int .i32 0] 55)) :=Chg.alloc _ _ _
  go_enter Tryz.func69,Tryz.ntmps69
  go_wp2_with (go_at_call 100;refine (hnf _ kA).mono ?_;rintro r w2 ⟨b2,rfl,k1,k2⟩;have S :=(Slot.made w (.pointer none) (.int .i32 0)).kept k2;obtain ⟨⟨u0,s0⟩,⟨u1,s1⟩,sf⟩ :=id S;have f0 :=sf 0;have f1 :=sf 1;have s2 :=cs_ne (u :=ptr b2) s1 (b' :=w.heap.size) (o' :=0) (by omega))
  exact bodyPost_ret (v :=dv b2 E) (results_dec rfl rfl (put2_0 S _ _) (put2_1 S _ _)) rfl ⟨b2,rfl,dec_ret (Nat.le_refl _) (by simp) kA k1 k2 _ _⟩
end Go.Proofs.YtfmmdamgcpiciaaGreatDoor
namespace Go.Proofs.YtfmmdamgcpiciaaGreatDoor
open Go Go.RowKit
def fc_pi4A : FC :=⟨4605249456957292544,4605249456957292544,false,1022,2570637784645632,364,10240000000000000000,0,7853981256484985,-16,16,55,[56,53,51,57,56,49,50,53,54,52,56,52,57,56,53],-1⟩
theorem fc_pi4A_ok : fc_pi4A.ok = true ∧ fc_pi4A.M = 7853981256484985 ∧ fc_pi4A.E = -16 :=by decide +kernel
def fc_pi4B : FC :=⟨4495793288086814720,4495793288086814720,false,998,1200859971059712,372,15258789062500000000,0,3774894707930798,-23,16,51,[55,55,52,56,57,52,55,48,55,57,51,48,55,57,56],-8⟩
theorem fc_pi4B_ok : fc_pi4B.ok = true ∧ fc_pi4B.M = 3774894707930798 ∧ fc_pi4B.E = -23 :=by decide +kernel
def fc_pi4C : FC :=⟨4388835458085048688,4388835458085048688,false,974,2329421026185584,379,18189894035458564759,12898309332789100544,26951514290790595,-31,17,50,[54,57,53,49,53,49,52,50,57,48,55,57,48,53,57,53],-15⟩
theorem fc_pi4C_ok : fc_pi4C.ok = true ∧ fc_pi4C.M = 26951514290790595 ∧ fc_pi4C.E = -31 :=by decide +kernel
def fc_m4PI : FC :=⟨4608412980311869570,4608412980311869570,false,1023,1230561511852162,364,10240000000000000000,0,12732395447351625,-16,17,49,[50,55,51,50,51,57,53,52,52,55,51,53,49,54,50,53],0⟩
theorem fc_m4PI_ok : fc_m4PI.ok = true ∧ fc_m4PI.M = 12732395447351625 ∧ fc_m4PI.E = -16 :=by decide +kernel
def fc_sin0 : FC :=⟨4460209587652500685,4460209587652500685,false,990,1645956555709645,374,11920928955078125000,0,15896230157654656,-26,17,49,[53,56,57,54,50,51,48,49,53,55,54,53,52,54,53,54],-10⟩
theorem fc_sin0_ok : fc_sin0.ok = true ∧ fc_sin0.M = 15896230157654656 ∧ fc_sin0.E = -26 :=by decide +kernel
def fc_sin1 : FC :=⟨13716528389658582877,4493156352803807069,true,997,3067524315422557,372,15258789062500000000,0,25050747762857807,-24,17,50,[53,48,53,48,55,52,55,55,54,50,56,53,55,56,48,55],-8⟩
theorem fc_sin1_ok : fc_sin1.ok = true ∧ fc_sin1.M = -25050747762857807 ∧ fc_sin1.E = -24 :=by decide +kernel
def fc_sin2 : FC :=⟨4523617212962785441,4523617212962785441,false,1004,2003187082807457,370,9765625000000000000,0,27557313621385722,-22,17,50,[55,53,53,55,51,49,51,54,50,49,51,56,53,55,50,50],-6⟩
theorem fc_sin2_ok : fc_sin2.ok = true ∧ fc_sin2.M = 27557313621385722 ∧ fc_sin2.E = -22 :=by decide +kernel
def fc_sin3 : FC :=⟨13774824197404483331,4551452160549707523,true,1010,2816536905506563,368,12500000000000000000,0,1984126982958954,-19,16,49,[57,56,52,49,50,54,57,56,50,57,53,56,57,53,52],-4⟩
theorem fc_sin3_ok : fc_sin3.ok = true ∧ fc_sin3.M = -1984126982958954 ∧ fc_sin3.E = -19 :=by decide +kernel
def fc_sin4 : FC :=⟨4575957461383575504,4575957461383575504,false,1016,300239975151568,366,16000000000000000000,0,8333333333322118,-18,16,56,[51,51,51,51,51,51,51,51,51,51,50,50,49,49,56],-3⟩
theorem fc_sin4_ok : fc_sin4.ok = true ∧ fc_sin4.M = 8333333333322118 ∧ fc_sin4.E = -18 :=by decide +kernel
def fc_sin5 : FC :=⟨13818544856648471880,4595172819793696072,true,1020,1501199875790152,365,12800000000000000000,0,1666666666666663,-16,16,49,[54,54,54,54,54,54,54,54,54,54,54,54,54,54,51],-1⟩
theorem fc_sin5_ok : fc_sin5.ok = true ∧ fc_sin5.M = -1666666666666663 ∧ fc_sin5.E = -16 :=by decide +kernel
def fc_cos0 : FC :=⟨13666448263388469915,4443076226533694107,true,986,2526993946385051,375,14901161193847656250,0,11358536521387682,-27,17,49,[49,51,53,56,53,51,54,53,50,49,51,56,55,54,56,50],-11⟩
theorem fc_cos0_ok : fc_cos0.ok = true ∧ fc_cos0.M = -11358536521387682 ∧ fc_cos0.E = -27 :=by decide +kernel
def fc_cos1 : FC :=⟨4477121864728985349,4477121864728985349,false,994,543835122712325,373,9536743164062500000,0,2087570084197473,-24,16,50,[48,56,55,53,55,48,48,56,52,49,57,55,52,55,51],-9⟩
theorem fc_cos1_ok : fc_cos1.ok = true ∧ fc_cos1.M = 2087570084197473 ∧ fc_cos1.E = -24 :=by decide +kernel
def fc_cos2 : FC :=⟨13732177093698800582,4508805056844024774,true,1001,701829846158278,371,12207031250000000000,0,2755731417929674,-22,16,50,[55,53,53,55,51,49,52,49,55,57,50,57,54,55,52],-7⟩
theorem fc_cos2_ok : fc_cos2.ok = true ∧ fc_cos2.M = -2755731417929674 ∧ fc_cos2.E = -22 :=by decide +kernel
def fc_cos3 : FC :=⟨4537941361668146421,4537941361668146421,false,1007,2816536906056949,369,15625000000000000000,0,24801587288851704,-21,17,50,[52,56,48,49,53,56,55,50,56,56,56,53,49,55,48,52],-5⟩
theorem fc_cos3_ok : fc_cos3.ok = true ∧ fc_cos3.M = 24801587288851704 ∧ fc_cos3.E = -21 :=by decide +kernel
def fc_cos4 : FC :=⟨13787419979223748497,4564047942368972689,true,1013,1901519842660241,367,10000000000000000000,0,13888888888873056,-19,17,49,[51,56,56,56,56,56,56,56,56,56,56,55,51,48,53,54],-3⟩
theorem fc_cos4_ok : fc_cos4.ok = true ∧ fc_cos4.M = -13888888888873056 ∧ fc_cos4.E = -19 :=by decide +kernel
def fc_cos5 : FC :=⟨4586165620538955083,4586165620538955083,false,1018,1501199875790155,366,16000000000000000000,0,41666666666666595,-18,17,52,[49,54,54,54,54,54,54,54,54,54,54,54,54,53,57,53],-2⟩
theorem fc_cos5_ok : fc_cos5.ok = true ∧ fc_cos5.M = 41666666666666595 ∧ fc_cos5.E = -18 :=by decide +kernel
def fc_int1 : FC :=⟨4607182418800017408,4607182418800017408,false,1023,0,364,10240000000000000000,0,1000000000000000,-15,16,49,[],0⟩
theorem fc_int1_ok : fc_int1.ok = true ∧ fc_int1.M = 1 ∧ fc_int1.E = 0 :=by decide +kernel
def fc_int2 : FC :=⟨4611686018427387904,4611686018427387904,false,1024,0,364,10240000000000000000,0,2000000000000000,-15,16,50,[],0⟩
theorem fc_int2_ok : fc_int2.ok = true ∧ fc_int2.M = 2 ∧ fc_int2.E = 0 :=by decide +kernel
def fc_int3 : FC :=⟨4613937818241073152,4613937818241073152,false,1024,2251799813685248,364,10240000000000000000,0,3000000000000000,-15,16,51,[],0⟩
theorem fc_int3_ok : fc_int3.ok = true ∧ fc_int3.M = 3 ∧ fc_int3.E = 0 :=by decide +kernel
def fc_int4 : FC :=⟨4616189618054758400,4616189618054758400,false,1025,0,364,10240000000000000000,0,4000000000000000,-15,16,52,[],0⟩
theorem fc_int4_ok : fc_int4.ok = true ∧ fc_int4.M = 4 ∧ fc_int4.E = 0 :=by decide +kernel
def fc_int5 : FC :=⟨4617315517961601024,4617315517961601024,false,1025,1125899906842624,364,10240000000000000000,0,5000000000000000,-15,16,53,[],0⟩
theorem fc_int5_ok : fc_int5.ok = true ∧ fc_int5.M = 5 ∧ fc_int5.E = 0 :=by decide +kernel
def fc_int6 : FC :=⟨4618441417868443648,4618441417868443648,false,1025,2251799813685248,364,10240000000000000000,0,6000000000000000,-15,16,54,[],0⟩
theorem fc_int6_ok : fc_int6.ok = true ∧ fc_int6.M = 6 ∧ fc_int6.E = 0 :=by decide +kernel
def fc_int7 : FC :=⟨4619567317775286272,4619567317775286272,false,1025,3377699720527872,364,10240000000000000000,0,7000000000000000,-15,16,55,[],0⟩
theorem fc_int7_ok : fc_int7.ok = true ∧ fc_int7.M = 7 ∧ fc_int7.E = 0 :=by decide +kernel
def fc_int8 : FC :=⟨4620693217682128896,4620693217682128896,false,1026,0,363,16384000000000000000,0,800000000000000,-14,15,56,[],0⟩
theorem fc_int8_ok : fc_int8.ok = true ∧ fc_int8.M = 8 ∧ fc_int8.E = 0 :=by decide +kernel
def fc_int9 : FC :=⟨4621256167635550208,4621256167635550208,false,1026,562949953421312,363,16384000000000000000,0,900000000000000,-14,15,57,[],0⟩
theorem fc_int9_ok : fc_int9.ok = true ∧ fc_int9.M = 9 ∧ fc_int9.E = 0 :=by decide +kernel
def fc_int10 : FC :=⟨4621819117588971520,4621819117588971520,false,1026,1125899906842624,363,16384000000000000000,0,1000000000000000,-14,16,49,[],1⟩
theorem fc_int10_ok : fc_int10.ok = true ∧ fc_int10.M = 1 ∧ fc_int10.E = 1 :=by decide +kernel
def fc_int11 : FC :=⟨4622382067542392832,4622382067542392832,false,1026,1688849860263936,363,16384000000000000000,0,1100000000000000,-14,16,49,[49],1⟩
theorem fc_int11_ok : fc_int11.ok = true ∧ fc_int11.M = 11 ∧ fc_int11.E = 0 :=by decide +kernel
def fc_int12 : FC :=⟨4622945017495814144,4622945017495814144,false,1026,2251799813685248,363,16384000000000000000,0,1200000000000000,-14,16,49,[50],1⟩
theorem fc_int12_ok : fc_int12.ok = true ∧ fc_int12.M = 12 ∧ fc_int12.E = 0 :=by decide +kernel
end Go.Proofs.YtfmmdamgcpiciaaGreatDoor
namespace Go.Proofs.YtfmmdamgcpiciaaGreatDoor
open Go Go.RowKit
structure Dc where
  m : Int
  e : Int
def Dc.mul (a b : Dc) : Dc :=⟨a.m * b.m,a.e + b.e⟩
def Dc.sh (a : Dc) (x : Int) : Int :=a.m * ((10 ^ (a.e - x).toNat : Nat) : Int)
def Dc.add (a b : Dc) : Dc :=⟨a.sh (min a.e b.e) + b.sh (min a.e b.e),min a.e b.e⟩
def Dc.sub (a b : Dc) : Dc :=⟨a.sh (min a.e b.e) - b.sh (min a.e b.e),min a.e b.e⟩
def Dc.neg (a : Dc) : Dc :=⟨-a.m,a.e⟩
def Bd (a : Dc) (k : Nat) : Prop :=a.m.natAbs ≤ 10 ^ k
theorem Bd.mul {a b : Dc} {k l : Nat} (h : Bd a k) (h' : Bd b l) : Bd (a.mul b) (k + l) :=by
  unfold Bd Dc.mul at *
  rw [Int.natAbs_mul,Nat.pow_add]
  exact Nat.mul_le_mul h h'
theorem Bd.sh {a : Dc} {k s : Nat} {x : Int} (h : Bd a k) (hs : (a.e - x).toNat ≤ s) : (a.sh x).natAbs ≤ 10 ^ (k + s) :=by
  unfold Bd Dc.sh at *
  rw [Int.natAbs_mul,Int.natAbs_natCast,Nat.pow_add]
  exact Nat.mul_le_mul h (Nat.pow_le_pow_right (by decide) hs)
theorem Bd.add {a b : Dc} {k l s t n : Nat} (h : Bd a k) (h' : Bd b l) (hs : (a.e - min a.e b.e).toNat ≤ s) (ht : (b.e - min a.e b.e).toNat ≤ t) (h1 : k + s < n) (h2 : l + t < n) : Bd (a.add b) n :=by
  have e1 :=h.sh hs
  have e2 :=h'.sh ht
  have e3 : 10 ^ (k + s) ≤ 10 ^ (n - 1) :=Nat.pow_le_pow_right (by decide) (by omega)
  have e4 : 10 ^ (l + t) ≤ 10 ^ (n - 1) :=Nat.pow_le_pow_right (by decide) (by omega)
  have e5 : 10 ^ n = 10 ^ (n - 1) * 10 :=by rw [← Nat.pow_succ];congr 1;omega
  unfold Bd Dc.add
  show (a.sh (min a.e b.e) + b.sh (min a.e b.e)).natAbs ≤ _
  omega
theorem Bd.sub {a b : Dc} {k l s t n : Nat} (h : Bd a k) (h' : Bd b l) (hs : (a.e - min a.e b.e).toNat ≤ s) (ht : (b.e - min a.e b.e).toNat ≤ t) (h1 : k + s < n) (h2 : l + t < n) : Bd (a.sub b) n :=by
  have e1 :=h.sh hs
  have e2 :=h'.sh ht
  have e3 : 10 ^ (k + s) ≤ 10 ^ (n - 1) :=Nat.pow_le_pow_right (by decide) (by omega)
  have e4 : 10 ^ (l + t) ≤ 10 ^ (n - 1) :=Nat.pow_le_pow_right (by decide) (by omega)
  have e5 : 10 ^ n = 10 ^ (n - 1) * 10 :=by rw [← Nat.pow_succ];congr 1;omega
  unfold Bd Dc.sub
  show (a.sh (min a.e b.e) - b.sh (min a.e b.e)).natAbs ≤ _
  omega
theorem ten740 : 10 ^ 740 < W39 :=by decide +kernel
theorem ten200 : 10 ^ 200 < W64 ^ 11 :=by decide +kernel
theorem lt39 {n k : Nat} (h : n ≤ 10 ^ k) (hk : k ≤ 740) : n < W39 :=Nat.lt_of_le_of_lt (Nat.le_trans h (Nat.pow_le_pow_right (by decide) hk)) ten740
theorem dec_mulD (w : World) (hg : Glob w) (b1 b2 : Nat) (A B : Dc) (k l : Nat) (h1 : IntAt w b1 A.m) (h2 : IntAt w b2 B.m) (hA : Bd A k) (hB : Bd B l) (hk : k ≤ 740) (hl : l ≤ 740) (hm : k ≤ 200 ∨ l ≤ 200) (x1 : -1000 ≤ A.e) (x2 : A.e ≤ 1000) (x3 : -1000 ≤ B.e) (x4 : B.e ≤ 1000) :
    Calls Tryz.prog 67 #[dv b1 A.e,dv b2 B.e] w (NewDec w (A.mul B).m (A.mul B).e) :=by
  refine dec_mul w hg b1 b2 A.e B.e A.m B.m h1 h2 (fun e => ?_) (lt39 hA hk) (lt39 hB hl) (by omega) (by omega) (by omega) (by omega)
  have hs :=IntAt_same e h1 h2
  rcases hm with hm | hm
  · exact Nat.lt_of_le_of_lt (Nat.le_trans hA (Nat.pow_le_pow_right (by decide) hm)) ten200
  · rw [hs];exact Nat.lt_of_le_of_lt (Nat.le_trans hB (Nat.pow_le_pow_right (by decide) hm)) ten200
theorem dec_addD (w : World) (hg : Glob w) (b1 b2 : Nat) (A B : Dc) (k l : Nat) (h1 : IntAt w b1 A.m) (h2 : IntAt w b2 B.m) (hA : Bd A k) (hB : Bd B l) (hk : k ≤ 740) (hl : l ≤ 740) (x1 : -512 < A.e) (x2 : A.e < 512) (x3 : -512 < B.e) (x4 : B.e < 512) (hd1 : A.e - B.e ≤ 420) (hd2 : B.e - A.e ≤ 420)
    (hs1 : k + (A.e - min A.e B.e).toNat ≤ 740) (hs2 : l + (B.e - min A.e B.e).toNat ≤ 740) :
    Calls Tryz.prog 70 #[dv b1 A.e,dv b2 B.e] w (NewDec w (A.add B).m (A.add B).e) :=by
  have e1 :=lt39 (hA.sh (x :=min A.e B.e) (Nat.le_refl _)) hs1
  have e2 :=lt39 (hB.sh (x :=min A.e B.e) (Nat.le_refl _)) hs2
  unfold Dc.add Dc.sh at *
  rcases Int.lt_trichotomy A.e B.e with h | h | h
  · have hm : min A.e B.e = A.e :=by omega
    rw [hm] at e1 e2 ⊢
    have :=dec_add_lt w hg b1 b2 A.e B.e A.m B.m h1 h2 (lt39 hA hk) (lt39 hB hl) h x1 x4 hd2 e2
    simpa using this
  · have hm : min A.e B.e = A.e :=by omega
    rw [hm]
    rw [h]
    have :=dec_add_eq w b1 b2 B.e A.m B.m h1 h2 (lt39 hA hk) (lt39 hB hl)
    simpa using this
  · have hm : min A.e B.e = B.e :=by omega
    rw [hm] at e1 e2 ⊢
    have :=dec_add_gt w hg b1 b2 A.e B.e A.m B.m h1 h2 (lt39 hA hk) (lt39 hB hl) h x3 x2 hd1 e1
    simpa using this
theorem dec_subD (w : World) (hg : Glob w) (b1 b2 : Nat) (A B : Dc) (k l : Nat) (h1 : IntAt w b1 A.m) (h2 : IntAt w b2 B.m) (hA : Bd A k) (hB : Bd B l) (hk : k ≤ 740) (hl : l ≤ 740) (x1 : -512 < A.e) (x2 : A.e < 512) (x3 : -512 < B.e) (x4 : B.e < 512) (hd1 : A.e - B.e ≤ 420) (hd2 : B.e - A.e ≤ 420)
    (hs1 : k + (A.e - min A.e B.e).toNat ≤ 740) (hs2 : l + (B.e - min A.e B.e).toNat ≤ 740) :
    Calls Tryz.prog 72 #[dv b1 A.e,dv b2 B.e] w (NewDec w (A.sub B).m (A.sub B).e) :=by
  have e1 :=lt39 (hA.sh (x :=min A.e B.e) (Nat.le_refl _)) hs1
  have e2 :=lt39 (hB.sh (x :=min A.e B.e) (Nat.le_refl _)) hs2
  unfold Dc.sub Dc.sh at *
  rcases Int.lt_trichotomy A.e B.e with h | h | h
  · have hm : min A.e B.e = A.e :=by omega
    rw [hm] at e1 e2 ⊢
    have :=dec_sub_lt w hg b1 b2 A.e B.e A.m B.m h1 h2 (lt39 hA hk) (lt39 hB hl) h x1 x4 hd2 e2
    simpa using this
  · have hm : min A.e B.e = A.e :=by omega
    rw [hm]
    rw [h]
    have :=dec_sub_eq w b1 b2 B.e A.m B.m h1 h2 (lt39 hA hk) (lt39 hB hl)
    simpa using this
  · have hm : min A.e B.e = B.e :=by omega
    rw [hm] at e1 e2 ⊢
    have :=dec_sub_gt w hg b1 b2 A.e B.e A.m B.m h1 h2 (lt39 hA hk) (lt39 hB hl) h x3 x2 hd1 e1
    simpa using this
end Go.Proofs.YtfmmdamgcpiciaaGreatDoor
namespace Go.Proofs.YtfmmdamgcpiciaaGreatDoor
open Go Go.RowKit
structure Fm (w0 w : World) (L : List (Nat × Int)) (V : List (Nat × Value × Value)) : Prop where
  big : 8 < w0.heap.size
  glob : Glob w
  globF : GlobF w
  kept : Kept w0 w
  ints : ∀ p ∈ L,∃ s n c,IntA w p.1 s n c p.2 ∧ ∀ v ∈ V,p.1 ≠ v.1 ∧ ∀ a,s = some a → a.block ≠ v.1
  vars : ∀ v ∈ V,w0.heap.size ≤ v.1 ∧ w.cell? ⟨v.1,0,none⟩ = some v.2.1 ∧ w.cell? ⟨v.1,1,none⟩ = some v.2.2 ∧ NF w v.1
  dist : V.Pairwise fun u v => u.1 ≠ v.1
theorem Fm.start {w : World} (h : Glob w) (hF : GlobF w) : Fm w w [] [] :=⟨hF.big,h,hF,Chg.refl _ _,(fun _ h => by cases h),(fun _ h => by cases h),List.Pairwise.nil⟩
theorem Fm.int {w0 w : World} {L V} (h : Fm w0 w L V) {b : Nat} {X : Int} (hm : (b,X) ∈ L) : IntAt w b X :=by
  obtain ⟨s,n,c,h1,_⟩ :=h.ints _ hm
  exact ⟨s,n,c,h1⟩
theorem Fm.c0 {w0 w : World} {L V} (h : Fm w0 w L V) {v : Nat} {x y : Value} (hm : (v,x,y) ∈ V) : w.cell? ⟨v,0,none⟩ = some x :=(h.vars _ hm).2.1
theorem Fm.c1 {w0 w : World} {L V} (h : Fm w0 w L V) {v : Nat} {x y : Value} (hm : (v,x,y) ∈ V) : w.cell? ⟨v,1,none⟩ = some y :=(h.vars _ hm).2.2.1
theorem Fm.nf {w0 w : World} {L V} (h : Fm w0 w L V) {v : Nat} {x y : Value} (hm : (v,x,y) ∈ V) : NF w v :=(h.vars _ hm).2.2.2
theorem Fm.cc {w0 w : World} {L V} (h : Fm w0 w L V) {v : Nat} {x y : Value} (hm : (v,x,y) ∈ V) : w.cell? ⟨v,0,none⟩ = some x ∧ w.cell? ⟨v,1,none⟩ = some y ∧ w.frozen? ⟨v,0,none⟩ = false ∧ w.frozen? ⟨v,1,none⟩ = false :=⟨h.c0 hm,h.c1 hm,h.nf hm 0,h.nf hm 1⟩
theorem Fm.at {w0 w : World} {L V} (h : Fm w0 w L V) (n : Nat) {v : Nat} {x y : Value} (hm : V[n]? = some (v,x,y)) : w.cell? ⟨v,0,none⟩ = some x ∧ w.cell? ⟨v,1,none⟩ = some y ∧ w.frozen? ⟨v,0,none⟩ = false ∧ w.frozen? ⟨v,1,none⟩ = false :=h.cc (List.mem_of_getElem? hm)
theorem Fm.iat {w0 w : World} {L V} (h : Fm w0 w L V) (n : Nat) {b : Nat} {X : Int} (hm : L[n]? = some (b,X)) : IntAt w b X :=h.int (List.mem_of_getElem? hm)
theorem Fm.go {w0 w w' : World} {L V} (h : Fm w0 w L V) (k : Kept w w') : Fm w0 w' L V :=
  ⟨h.big,h.glob.kept k,h.globF.kept k,kt h.kept k,fun p hp => by
    obtain ⟨s,n,c,h1,h2⟩ :=h.ints p hp
    exact ⟨s,n,c,h1.kept k,h2⟩,fun v hv => by
    obtain ⟨h1,h2,h3,h4⟩ :=h.vars v hv
    exact ⟨h1,Kept.at k h2,Kept.at k h3,h4.chg (lt_of_cell h2) k⟩,h.dist⟩
theorem Fm.old {w0 w : World} {L} (h : Fm w0 w L []) {b : Nat} {X : Int} (hi : IntAt w b X) : Fm w0 w ((b,X) :: L) [] :=
  ⟨h.big,h.glob,h.globF,h.kept,fun p hp => by
    rcases List.mem_cons.1 hp with rfl | hp
    · obtain ⟨s,n,c,h1⟩ :=hi
      exact ⟨s,n,c,h1,fun v hv => by cases hv⟩
    · exact h.ints p hp,h.vars,h.dist⟩
theorem Fm.new {w0 w w' : World} {L V} (h : Fm w0 w L V) {b : Nat} {X : Int} (hi : IntN w w' b X) (k : Kept w w') : Fm w0 w' ((b,X) :: L) V :=
  let g :=h.go k
  ⟨h.big,g.glob,g.globF,g.kept,fun p hp => by
    rcases List.mem_cons.1 hp with rfl | hp
    · obtain ⟨s,n,c,h1,h2,h3⟩ :=hi
      refine ⟨s,n,c,h1,fun v hv => ?_⟩
      have hl :=lt_of_cell (h.vars v hv).2.1
      exact ⟨by show b ≠ v.1;omega,fun a ha => by have :=h3 a ha;omega⟩
    · exact g.ints p hp,g.vars,g.dist⟩
theorem Fm.sub {w0 w : World} {L L' V} (h : Fm w0 w L V) (hs : ∀ p ∈ L',p ∈ L) : Fm w0 w L' V :=⟨h.big,h.glob,h.globF,h.kept,fun p hp => h.ints p (hs p hp),h.vars,h.dist⟩
theorem Fm.box {w0 w : World} {L V} (h : Fm w0 w L V) (x y : Value) : Fm w0 (Box w x y) L ((w.heap.size,x,y) :: V) :=
  let k :=boxK w x y
  let g :=h.go k
  ⟨h.big,g.glob,g.globF,g.kept,fun p hp => by
    obtain ⟨s,n,c,h1,h2⟩ :=h.ints p hp
    refine ⟨s,n,c,h1.kept k,fun v hv => ?_⟩
    rcases List.mem_cons.1 hv with rfl | hv
    · have hl :=lt_of_cell h1.neg
      exact ⟨by show p.1 ≠ w.heap.size;omega,fun a ha => by have :=h1.nat.lt a ha;show a.block ≠ w.heap.size;omega⟩
    · exact h2 v hv,fun v hv => by
    rcases List.mem_cons.1 hv with rfl | hv
    · exact ⟨Chg.size h.kept,box0 w x y,box1 w x y,NF.made w _ _⟩
    · exact g.vars v hv,by
    refine List.Pairwise.cons (fun v hv => ?_) g.dist
    have hl :=lt_of_cell (h.vars v hv).2.1
    show w.heap.size ≠ v.1
    omega⟩
theorem Fm.put {w0 w : World} {L V1 V2} {v : Nat} {x y : Value} (h : Fm w0 w L (V1 ++ (v,x,y) :: V2)) (x' y' : Value) : Fm w0 (put2 w v x' y') L (V1 ++ (v,x',y') :: V2) :=by
  have hv :=h.vars (v,x,y) (by simp)
  have kc :=put2_chg w v x' y'
  have hne : ∀ u ∈ V1 ++ V2,u.1 ≠ v :=by
    intro u hu
    have hd :=h.dist
    rw [List.pairwise_append] at hd
    rcases List.mem_append.1 hu with hu | hu
    · exact hd.2.2 u hu (v,x,y) (by simp)
    · exact fun e => (List.pairwise_cons.1 hd.2.1).1 u hu e.symm
  have hb :=h.big
  have hv8 : 8 < v :=Nat.lt_of_lt_of_le hb hv.1
  refine ⟨hb,h.glob.chg kc fun b _ hb e => by omega,⟨fun i hi lo e => ?_,fun j hj => kc.at (h.globF.ten j hj) (fun e => by omega),Nat.lt_of_lt_of_le h.globF.big (Chg.size kc)⟩,h.kept.keptNew kc fun b _ e => by subst e;exact hv.1,fun p hp => ?_,fun u hu => ?_,?_⟩
  · have :=h.globF.tab i hi lo e
    exact ⟨kc.at this.1 (fun e => by omega),kc.at this.2 (fun e => by omega)⟩
  · obtain ⟨s,n,c,h1,h2⟩ :=h.ints p hp
    have h3 :=h2 (v,x,y) (by simp)
    refine ⟨s,n,c,h1.chg kc (fun o e => h3.1 e) (fun b o e o' e' => h3.2 _ e e'),fun u hu => ?_⟩
    rcases List.mem_append.1 hu with hu | hu
    · exact h2 u (by simp [hu])
    · rcases List.mem_cons.1 hu with rfl | hu
      · exact h3
      · exact h2 u (by simp [hu])
  · have hS : Slot w v :=⟨⟨_,hv.2.1⟩,⟨_,hv.2.2.1⟩,hv.2.2.2⟩
    have hold : ∀ u ∈ V1 ++ V2,w0.heap.size ≤ u.1 ∧ (put2 w v x' y').cell? ⟨u.1,0,none⟩ = some u.2.1 ∧ (put2 w v x' y').cell? ⟨u.1,1,none⟩ = some u.2.2 ∧ NF (put2 w v x' y') u.1 :=by
      intro u hu
      have hu' :=h.vars u (by simp only [List.mem_append,List.mem_cons] at hu ⊢;rcases hu with hu | hu;exact .inl hu;exact .inr (.inr hu))
      exact ⟨hu'.1,kc.at hu'.2.1 (hne u hu),kc.at hu'.2.2.1 (hne u hu),hu'.2.2.2.chg (lt_of_cell hu'.2.1) kc⟩
    rcases List.mem_append.1 hu with hu | hu
    · exact hold u (by simp [hu])
    · rcases List.mem_cons.1 hu with rfl | hu
      · exact ⟨hv.1,put2_0 hS x' y',put2_1 hS x' y',hv.2.2.2.chg (lt_of_cell hv.2.1) kc⟩
      · exact hold u (by simp [hu])
  · have hd :=h.dist
    rw [List.pairwise_append,List.pairwise_cons] at hd ⊢
    refine ⟨hd.1,⟨fun u hu => hd.2.1.1 u hu,hd.2.1.2⟩,fun u hu z hz => ?_⟩
    rcases List.mem_cons.1 hz with rfl | hz
    · exact hd.2.2 u hu (v,x,y) (by simp)
    · exact hd.2.2 u hu z (by simp [hz])
end Go.Proofs.YtfmmdamgcpiciaaGreatDoor
namespace Go.Proofs.YtfmmdamgcpiciaaGreatDoor
open Go Go.RowKit
theorem fromFC (k : FC) (M E : Int) (h : k.ok = true ∧ k.M = M ∧ k.E = E) (B : Nat) (hB : k.B = B) (w : World) (hg : GlobF w) : Calls Tryz.prog 69 #[.float .f64 B] w (NewDec w M E) :=by
  obtain ⟨h1,rfl,rfl⟩ :=h
  subst hB
  exact fromFloat k h1 w hg
abbrev Box0 (w : World) : World :=w.alloc (Obj.cells #[.pointer none,.int .i32 0] 55)
theorem dec_pi4A (w : World) (hg : GlobF w) : Calls Tryz.prog 60 #[] w (NewDec w 7853981256484985 (-16)) :=by
  have kA : Kept w (Box0 w) :=Chg.alloc _ _ _
  have hf :=fromFC fc_pi4A _ _ fc_pi4A_ok 4605249456957292544 rfl (Box0 w) (hg.kept kA)
  go_enter Tryz.func60,Tryz.ntmps60
  go_wp2_with (go_at_call 69;refine hf.mono ?_;rintro r w2 ⟨b2,rfl,k1,k2⟩;have S :=(Slot.made w (.pointer none) (.int .i32 0)).kept k2;obtain ⟨⟨u0,s0⟩,⟨u1,s1⟩,sf⟩ :=id S;have f0 :=sf 0;have f1 :=sf 1;have s2 :=cs_ne (u :=ptr b2) s1 (b' :=w.heap.size) (o' :=0) (by omega))
  exact bodyPost_ret (v :=dv b2 (-16)) (results_dec rfl rfl (put2_0 S _ _) (put2_1 S _ _)) rfl ⟨b2,rfl,dec_ret (Nat.le_refl _) (by simp) kA k1 k2 _ _⟩
theorem dec_pi4B (w : World) (hg : GlobF w) : Calls Tryz.prog 61 #[] w (NewDec w 3774894707930798 (-23)) :=by
  have kA : Kept w (Box0 w) :=Chg.alloc _ _ _
  have hf :=fromFC fc_pi4B _ _ fc_pi4B_ok 4495793288086814720 rfl (Box0 w) (hg.kept kA)
  go_enter Tryz.func61,Tryz.ntmps61
  go_wp2_with (go_at_call 69;refine hf.mono ?_;rintro r w2 ⟨b2,rfl,k1,k2⟩;have S :=(Slot.made w (.pointer none) (.int .i32 0)).kept k2;obtain ⟨⟨u0,s0⟩,⟨u1,s1⟩,sf⟩ :=id S;have f0 :=sf 0;have f1 :=sf 1;have s2 :=cs_ne (u :=ptr b2) s1 (b' :=w.heap.size) (o' :=0) (by omega))
  exact bodyPost_ret (v :=dv b2 (-23)) (results_dec rfl rfl (put2_0 S _ _) (put2_1 S _ _)) rfl ⟨b2,rfl,dec_ret (Nat.le_refl _) (by simp) kA k1 k2 _ _⟩
theorem dec_pi4C (w : World) (hg : GlobF w) : Calls Tryz.prog 62 #[] w (NewDec w 26951514290790595 (-31)) :=by
  have kA : Kept w (Box0 w) :=Chg.alloc _ _ _
  have hf :=fromFC fc_pi4C _ _ fc_pi4C_ok 4388835458085048688 rfl (Box0 w) (hg.kept kA)
  go_enter Tryz.func62,Tryz.ntmps62
  go_wp2_with (go_at_call 69;refine hf.mono ?_;rintro r w2 ⟨b2,rfl,k1,k2⟩;have S :=(Slot.made w (.pointer none) (.int .i32 0)).kept k2;obtain ⟨⟨u0,s0⟩,⟨u1,s1⟩,sf⟩ :=id S;have f0 :=sf 0;have f1 :=sf 1;have s2 :=cs_ne (u :=ptr b2) s1 (b' :=w.heap.size) (o' :=0) (by omega))
  exact bodyPost_ret (v :=dv b2 (-31)) (results_dec rfl rfl (put2_0 S _ _) (put2_1 S _ _)) rfl ⟨b2,rfl,dec_ret (Nat.le_refl _) (by simp) kA k1 k2 _ _⟩
theorem dec_m4PI (w : World) (hg : GlobF w) : Calls Tryz.prog 63 #[] w (NewDec w 12732395447351625 (-16)) :=by
  have kA : Kept w (Box0 w) :=Chg.alloc _ _ _
  have hf :=fromFC fc_m4PI _ _ fc_m4PI_ok 4608412980311869570 rfl (Box0 w) (hg.kept kA)
  go_enter Tryz.func63,Tryz.ntmps63
  go_wp2_with (go_at_call 69;refine hf.mono ?_;rintro r w2 ⟨b2,rfl,k1,k2⟩;have S :=(Slot.made w (.pointer none) (.int .i32 0)).kept k2;obtain ⟨⟨u0,s0⟩,⟨u1,s1⟩,sf⟩ :=id S;have f0 :=sf 0;have f1 :=sf 1;have s2 :=cs_ne (u :=ptr b2) s1 (b' :=w.heap.size) (o' :=0) (by omega))
  exact bodyPost_ret (v :=dv b2 (-16)) (results_dec rfl rfl (put2_0 S _ _) (put2_1 S _ _)) rfl ⟨b2,rfl,dec_ret (Nat.le_refl _) (by simp) kA k1 k2 _ _⟩
theorem info94 : (Tryz.prog.info? 94).map (fun i => (i.zero,i.size,i.bytes)) = some (some (.agg #[.pointer none,.int .i32 0,.pointer none,.int .i32 0,.pointer none,.int .i32 0,.pointer none,.int .i32 0,.pointer none,.int .i32 0,.pointer none,.int .i32 0]),12,96) :=by kernel_rfl
theorem results_arr94 {fn : Func} {t r : Nat} {tmps : Array Value} {w : World} {x0 x1 x2 x3 x4 x5 x6 x7 x8 x9 x10 x11 : Value} (h : fn.results = #[.cell t 94]) (hp : tmps.getD t undef = ptr r) (h0 : w.cell? ⟨r,0,none⟩ = some x0) (h1 : w.cell? ⟨r,1,none⟩ = some x1) (h2 : w.cell? ⟨r,2,none⟩ = some x2) (h3 : w.cell? ⟨r,3,none⟩ = some x3) (h4 : w.cell? ⟨r,4,none⟩ = some x4) (h5 : w.cell? ⟨r,5,none⟩ = some x5) (h6 : w.cell? ⟨r,6,none⟩ = some x6) (h7 : w.cell? ⟨r,7,none⟩ = some x7) (h8 : w.cell? ⟨r,8,none⟩ = some x8) (h9 : w.cell? ⟨r,9,none⟩ = some x9) (h10 : w.cell? ⟨r,10,none⟩ = some x10) (h11 : w.cell? ⟨r,11,none⟩ = some x11) :
    (results fn tmps).run Tryz.prog w = .ok (.agg #[x0,x1,x2,x3,x4,x5,x6,x7,x8,x9,x10,x11]) w :=by
  obtain ⟨i0,hi,hz0,hz1,hz2⟩ :=info_parts info94
  have hp' : tmps[t]?.getD undef = ptr r :=by simpa using hp
  simp [results,h,hp',go_sem,hi,hz1,h0,h1,h2,h3,h4,h5,h6,h7,h8,h9,h10,h11]
theorem dec_arr74 (w : World) (hg : GlobF w) : Calls Tryz.prog 74 #[] w fun r w' => ∃ b0 b1 b2 b3 b4 b5 : Nat,r = .returned (.agg #[ptr b0,.int .i32 (-26),ptr b1,.int .i32 (-24),ptr b2,.int .i32 (-22),ptr b3,.int .i32 (-19),ptr b4,.int .i32 (-18),ptr b5,.int .i32 (-16)]) ∧ IntN w w' b0 (15896230157654656) ∧ IntN w w' b1 (-25050747762857807) ∧ IntN w w' b2 (27557313621385722) ∧ IntN w w' b3 (-1984126982958954) ∧ IntN w w' b4 (8333333333322118) ∧ IntN w w' b5 (-1666666666666663) ∧ Kept w w' :=by
  have K : Kept w (w.alloc (Obj.cells #[.pointer none,.int .i32 0,.pointer none,.int .i32 0,.pointer none,.int .i32 0,.pointer none,.int .i32 0,.pointer none,.int .i32 0,.pointer none,.int .i32 0] 94)) :=Chg.alloc _ _ _
  have K0 : Kept (w.alloc (Obj.cells #[.pointer none,.int .i32 0,.pointer none,.int .i32 0,.pointer none,.int .i32 0,.pointer none,.int .i32 0,.pointer none,.int .i32 0,.pointer none,.int .i32 0] 94)) (w.alloc (Obj.cells #[.pointer none,.int .i32 0,.pointer none,.int .i32 0,.pointer none,.int .i32 0,.pointer none,.int .i32 0,.pointer none,.int .i32 0,.pointer none,.int .i32 0] 94)) :=Chg.refl _ _
  have hf0 :=fun W (hW : Kept w W) => fromFC fc_sin0 _ _ fc_sin0_ok 4460209587652500685 rfl W (hg.kept hW)
  have hf1 :=fun W (hW : Kept w W) => fromFC fc_sin1 _ _ fc_sin1_ok 13716528389658582877 rfl W (hg.kept hW)
  have hf2 :=fun W (hW : Kept w W) => fromFC fc_sin2 _ _ fc_sin2_ok 4523617212962785441 rfl W (hg.kept hW)
  have hf3 :=fun W (hW : Kept w W) => fromFC fc_sin3 _ _ fc_sin3_ok 13774824197404483331 rfl W (hg.kept hW)
  have hf4 :=fun W (hW : Kept w W) => fromFC fc_sin4 _ _ fc_sin4_ok 4575957461383575504 rfl W (hg.kept hW)
  have hf5 :=fun W (hW : Kept w W) => fromFC fc_sin5 _ _ fc_sin5_ok 13818544856648471880 rfl W (hg.kept hW)
  have CW : (w.alloc (Obj.cells #[.pointer none,.int .i32 0,.pointer none,.int .i32 0,.pointer none,.int .i32 0,.pointer none,.int .i32 0,.pointer none,.int .i32 0,.pointer none,.int .i32 0] 94)).cell? ⟨w.heap.size,0,none⟩ = some (.pointer none) ∧ (w.alloc (Obj.cells #[.pointer none,.int .i32 0,.pointer none,.int .i32 0,.pointer none,.int .i32 0,.pointer none,.int .i32 0,.pointer none,.int .i32 0,.pointer none,.int .i32 0] 94)).cell? ⟨w.heap.size,1,none⟩ = some (.int .i32 0) ∧ (w.alloc (Obj.cells #[.pointer none,.int .i32 0,.pointer none,.int .i32 0,.pointer none,.int .i32 0,.pointer none,.int .i32 0,.pointer none,.int .i32 0,.pointer none,.int .i32 0] 94)).cell? ⟨w.heap.size,2,none⟩ = some (.pointer none) ∧ (w.alloc (Obj.cells #[.pointer none,.int .i32 0,.pointer none,.int .i32 0,.pointer none,.int .i32 0,.pointer none,.int .i32 0,.pointer none,.int .i32 0,.pointer none,.int .i32 0] 94)).cell? ⟨w.heap.size,3,none⟩ = some (.int .i32 0) ∧ (w.alloc (Obj.cells #[.pointer none,.int .i32 0,.pointer none,.int .i32 0,.pointer none,.int .i32 0,.pointer none,.int .i32 0,.pointer none,.int .i32 0,.pointer none,.int .i32 0] 94)).cell? ⟨w.heap.size,4,none⟩ = some (.pointer none) ∧ (w.alloc (Obj.cells #[.pointer none,.int .i32 0,.pointer none,.int .i32 0,.pointer none,.int .i32 0,.pointer none,.int .i32 0,.pointer none,.int .i32 0,.pointer none,.int .i32 0] 94)).cell? ⟨w.heap.size,5,none⟩ = some (.int .i32 0) ∧ (w.alloc (Obj.cells #[.pointer none,.int .i32 0,.pointer none,.int .i32 0,.pointer none,.int .i32 0,.pointer none,.int .i32 0,.pointer none,.int .i32 0,.pointer none,.int .i32 0] 94)).cell? ⟨w.heap.size,6,none⟩ = some (.pointer none) ∧ (w.alloc (Obj.cells #[.pointer none,.int .i32 0,.pointer none,.int .i32 0,.pointer none,.int .i32 0,.pointer none,.int .i32 0,.pointer none,.int .i32 0,.pointer none,.int .i32 0] 94)).cell? ⟨w.heap.size,7,none⟩ = some (.int .i32 0) ∧ (w.alloc (Obj.cells #[.pointer none,.int .i32 0,.pointer none,.int .i32 0,.pointer none,.int .i32 0,.pointer none,.int .i32 0,.pointer none,.int .i32 0,.pointer none,.int .i32 0] 94)).cell? ⟨w.heap.size,8,none⟩ = some (.pointer none) ∧ (w.alloc (Obj.cells #[.pointer none,.int .i32 0,.pointer none,.int .i32 0,.pointer none,.int .i32 0,.pointer none,.int .i32 0,.pointer none,.int .i32 0,.pointer none,.int .i32 0] 94)).cell? ⟨w.heap.size,9,none⟩ = some (.int .i32 0) ∧ (w.alloc (Obj.cells #[.pointer none,.int .i32 0,.pointer none,.int .i32 0,.pointer none,.int .i32 0,.pointer none,.int .i32 0,.pointer none,.int .i32 0,.pointer none,.int .i32 0] 94)).cell? ⟨w.heap.size,10,none⟩ = some (.pointer none) ∧ (w.alloc (Obj.cells #[.pointer none,.int .i32 0,.pointer none,.int .i32 0,.pointer none,.int .i32 0,.pointer none,.int .i32 0,.pointer none,.int .i32 0,.pointer none,.int .i32 0] 94)).cell? ⟨w.heap.size,11,none⟩ = some (.int .i32 0) :=by
    refine ⟨?_,?_,?_,?_,?_,?_,?_,?_,?_,?_,?_,?_⟩ <;> (rw [World.cell?_alloc_at _ _ _ _ rfl];rfl)
  have HL : w.heap.size < (w.alloc (Obj.cells #[.pointer none,.int .i32 0,.pointer none,.int .i32 0,.pointer none,.int .i32 0,.pointer none,.int .i32 0,.pointer none,.int .i32 0,.pointer none,.int .i32 0] 94)).heap.size :=by simp
  go_enter Tryz.func74,Tryz.ntmps74
  go_wp2_with (first
    | (go_at_call 69;(with_reducible refine (hf0 _ K).mono ?_);rintro r w1 ⟨b0,rfl,k1,k2⟩;have N0 :=k1.older (Chg.size K0);have K :=kt K k2;have K0 :=kt K0 k2;clear k1 k2)
    | (go_at_call 69;(with_reducible refine (hf1 _ K).mono ?_);rintro r w2 ⟨b1,rfl,k1,k2⟩;have N1 :=k1.older (Chg.size K0);have K :=kt K k2;have K0 :=kt K0 k2;have N0 :=N0.kept k2;clear k1 k2)
    | (go_at_call 69;(with_reducible refine (hf2 _ K).mono ?_);rintro r w3 ⟨b2,rfl,k1,k2⟩;have N2 :=k1.older (Chg.size K0);have K :=kt K k2;have K0 :=kt K0 k2;have N0 :=N0.kept k2;have N1 :=N1.kept k2;clear k1 k2)
    | (go_at_call 69;(with_reducible refine (hf3 _ K).mono ?_);rintro r w4 ⟨b3,rfl,k1,k2⟩;have N3 :=k1.older (Chg.size K0);have K :=kt K k2;have K0 :=kt K0 k2;have N0 :=N0.kept k2;have N1 :=N1.kept k2;have N2 :=N2.kept k2;clear k1 k2)
    | (go_at_call 69;(with_reducible refine (hf4 _ K).mono ?_);rintro r w5 ⟨b4,rfl,k1,k2⟩;have N4 :=k1.older (Chg.size K0);have K :=kt K k2;have K0 :=kt K0 k2;have N0 :=N0.kept k2;have N1 :=N1.kept k2;have N2 :=N2.kept k2;have N3 :=N3.kept k2;clear k1 k2)
    | (go_at_call 69;(with_reducible refine (hf5 _ K).mono ?_);rintro r w6 ⟨b5,rfl,k1,k2⟩;have N5 :=k1.older (Chg.size K0);have K :=kt K k2;have K0 :=kt K0 k2;have N0 :=N0.kept k2;have N1 :=N1.kept k2;have N2 :=N2.kept k2;have N3 :=N3.kept k2;have N4 :=N4.kept k2;have s0 :=Kept.at K0 CW.1;have f0 :=(K0.frz _ 0 HL).trans (NF.made w _ _ 0);have s1 :=Kept.at K0 CW.2.1;have f1 :=(K0.frz _ 1 HL).trans (NF.made w _ _ 1);have s2 :=Kept.at K0 CW.2.2.1;have f2 :=(K0.frz _ 2 HL).trans (NF.made w _ _ 2);have s3 :=Kept.at K0 CW.2.2.2.1;have f3 :=(K0.frz _ 3 HL).trans (NF.made w _ _ 3);have s4 :=Kept.at K0 CW.2.2.2.2.1;have f4 :=(K0.frz _ 4 HL).trans (NF.made w _ _ 4);have s5 :=Kept.at K0 CW.2.2.2.2.2.1;have f5 :=(K0.frz _ 5 HL).trans (NF.made w _ _ 5);have s6 :=Kept.at K0 CW.2.2.2.2.2.2.1;have f6 :=(K0.frz _ 6 HL).trans (NF.made w _ _ 6);have s7 :=Kept.at K0 CW.2.2.2.2.2.2.2.1;have f7 :=(K0.frz _ 7 HL).trans (NF.made w _ _ 7);have s8 :=Kept.at K0 CW.2.2.2.2.2.2.2.2.1;have f8 :=(K0.frz _ 8 HL).trans (NF.made w _ _ 8);have s9 :=Kept.at K0 CW.2.2.2.2.2.2.2.2.2.1;have f9 :=(K0.frz _ 9 HL).trans (NF.made w _ _ 9);have s10 :=Kept.at K0 CW.2.2.2.2.2.2.2.2.2.2.1;have f10 :=(K0.frz _ 10 HL).trans (NF.made w _ _ 10);have s11 :=Kept.at K0 CW.2.2.2.2.2.2.2.2.2.2.2;have f11 :=(K0.frz _ 11 HL).trans (NF.made w _ _ 11);clear k1 k2))
  have kc0 : Chg w6 w6 (fun b _ => b = w.heap.size) :=Chg.refl _ _
  have kc1 :=kc0.trans (Chg.setCell _ w.heap.size 0 (ptr b0) (fun b _ => b = w.heap.size) fun _ => rfl) fun _ _ _ h => h
  have kc2 :=kc1.trans (Chg.setCell _ w.heap.size 1 (.int .i32 (-26)) (fun b _ => b = w.heap.size) fun _ => rfl) fun _ _ _ h => h
  have kc3 :=kc2.trans (Chg.setCell _ w.heap.size 2 (ptr b1) (fun b _ => b = w.heap.size) fun _ => rfl) fun _ _ _ h => h
  have kc4 :=kc3.trans (Chg.setCell _ w.heap.size 3 (.int .i32 (-24)) (fun b _ => b = w.heap.size) fun _ => rfl) fun _ _ _ h => h
  have kc5 :=kc4.trans (Chg.setCell _ w.heap.size 4 (ptr b2) (fun b _ => b = w.heap.size) fun _ => rfl) fun _ _ _ h => h
  have kc6 :=kc5.trans (Chg.setCell _ w.heap.size 5 (.int .i32 (-22)) (fun b _ => b = w.heap.size) fun _ => rfl) fun _ _ _ h => h
  have kc7 :=kc6.trans (Chg.setCell _ w.heap.size 6 (ptr b3) (fun b _ => b = w.heap.size) fun _ => rfl) fun _ _ _ h => h
  have kc8 :=kc7.trans (Chg.setCell _ w.heap.size 7 (.int .i32 (-19)) (fun b _ => b = w.heap.size) fun _ => rfl) fun _ _ _ h => h
  have kc9 :=kc8.trans (Chg.setCell _ w.heap.size 8 (ptr b4) (fun b _ => b = w.heap.size) fun _ => rfl) fun _ _ _ h => h
  have kc10 :=kc9.trans (Chg.setCell _ w.heap.size 9 (.int .i32 (-18)) (fun b _ => b = w.heap.size) fun _ => rfl) fun _ _ _ h => h
  have kc11 :=kc10.trans (Chg.setCell _ w.heap.size 10 (ptr b5) (fun b _ => b = w.heap.size) fun _ => rfl) fun _ _ _ h => h
  have kc12 :=kc11.trans (Chg.setCell _ w.heap.size 11 (.int .i32 (-16)) (fun b _ => b = w.heap.size) fun _ => rfl) fun _ _ _ h => h
  have t0 : ((((((((((((w6.setCell ⟨w.heap.size,0,none⟩ (ptr b0)).setCell ⟨w.heap.size,1,none⟩ (.int .i32 (-26))).setCell ⟨w.heap.size,2,none⟩ (ptr b1)).setCell ⟨w.heap.size,3,none⟩ (.int .i32 (-24))).setCell ⟨w.heap.size,4,none⟩ (ptr b2)).setCell ⟨w.heap.size,5,none⟩ (.int .i32 (-22))).setCell ⟨w.heap.size,6,none⟩ (ptr b3)).setCell ⟨w.heap.size,7,none⟩ (.int .i32 (-19))).setCell ⟨w.heap.size,8,none⟩ (ptr b4)).setCell ⟨w.heap.size,9,none⟩ (.int .i32 (-18))).setCell ⟨w.heap.size,10,none⟩ (ptr b5)).setCell ⟨w.heap.size,11,none⟩ (.int .i32 (-16))).cell? ⟨w.heap.size,0,none⟩ = some (ptr b0) :=cs_ne (cs_ne (cs_ne (cs_ne (cs_ne (cs_ne (cs_ne (cs_ne (cs_ne (cs_ne (cs_ne (cell_setCell_eq (s0)) (by omega)) (by omega)) (by omega)) (by omega)) (by omega)) (by omega)) (by omega)) (by omega)) (by omega)) (by omega)) (by omega)
  have t1 : ((((((((((((w6.setCell ⟨w.heap.size,0,none⟩ (ptr b0)).setCell ⟨w.heap.size,1,none⟩ (.int .i32 (-26))).setCell ⟨w.heap.size,2,none⟩ (ptr b1)).setCell ⟨w.heap.size,3,none⟩ (.int .i32 (-24))).setCell ⟨w.heap.size,4,none⟩ (ptr b2)).setCell ⟨w.heap.size,5,none⟩ (.int .i32 (-22))).setCell ⟨w.heap.size,6,none⟩ (ptr b3)).setCell ⟨w.heap.size,7,none⟩ (.int .i32 (-19))).setCell ⟨w.heap.size,8,none⟩ (ptr b4)).setCell ⟨w.heap.size,9,none⟩ (.int .i32 (-18))).setCell ⟨w.heap.size,10,none⟩ (ptr b5)).setCell ⟨w.heap.size,11,none⟩ (.int .i32 (-16))).cell? ⟨w.heap.size,1,none⟩ = some (.int .i32 (-26)) :=cs_ne (cs_ne (cs_ne (cs_ne (cs_ne (cs_ne (cs_ne (cs_ne (cs_ne (cs_ne (cell_setCell_eq (cs_ne (s1) (by omega))) (by omega)) (by omega)) (by omega)) (by omega)) (by omega)) (by omega)) (by omega)) (by omega)) (by omega)) (by omega)
  have t2 : ((((((((((((w6.setCell ⟨w.heap.size,0,none⟩ (ptr b0)).setCell ⟨w.heap.size,1,none⟩ (.int .i32 (-26))).setCell ⟨w.heap.size,2,none⟩ (ptr b1)).setCell ⟨w.heap.size,3,none⟩ (.int .i32 (-24))).setCell ⟨w.heap.size,4,none⟩ (ptr b2)).setCell ⟨w.heap.size,5,none⟩ (.int .i32 (-22))).setCell ⟨w.heap.size,6,none⟩ (ptr b3)).setCell ⟨w.heap.size,7,none⟩ (.int .i32 (-19))).setCell ⟨w.heap.size,8,none⟩ (ptr b4)).setCell ⟨w.heap.size,9,none⟩ (.int .i32 (-18))).setCell ⟨w.heap.size,10,none⟩ (ptr b5)).setCell ⟨w.heap.size,11,none⟩ (.int .i32 (-16))).cell? ⟨w.heap.size,2,none⟩ = some (ptr b1) :=cs_ne (cs_ne (cs_ne (cs_ne (cs_ne (cs_ne (cs_ne (cs_ne (cs_ne (cell_setCell_eq (cs_ne (cs_ne (s2) (by omega)) (by omega))) (by omega)) (by omega)) (by omega)) (by omega)) (by omega)) (by omega)) (by omega)) (by omega)) (by omega)
  have t3 : ((((((((((((w6.setCell ⟨w.heap.size,0,none⟩ (ptr b0)).setCell ⟨w.heap.size,1,none⟩ (.int .i32 (-26))).setCell ⟨w.heap.size,2,none⟩ (ptr b1)).setCell ⟨w.heap.size,3,none⟩ (.int .i32 (-24))).setCell ⟨w.heap.size,4,none⟩ (ptr b2)).setCell ⟨w.heap.size,5,none⟩ (.int .i32 (-22))).setCell ⟨w.heap.size,6,none⟩ (ptr b3)).setCell ⟨w.heap.size,7,none⟩ (.int .i32 (-19))).setCell ⟨w.heap.size,8,none⟩ (ptr b4)).setCell ⟨w.heap.size,9,none⟩ (.int .i32 (-18))).setCell ⟨w.heap.size,10,none⟩ (ptr b5)).setCell ⟨w.heap.size,11,none⟩ (.int .i32 (-16))).cell? ⟨w.heap.size,3,none⟩ = some (.int .i32 (-24)) :=cs_ne (cs_ne (cs_ne (cs_ne (cs_ne (cs_ne (cs_ne (cs_ne (cell_setCell_eq (cs_ne (cs_ne (cs_ne (s3) (by omega)) (by omega)) (by omega))) (by omega)) (by omega)) (by omega)) (by omega)) (by omega)) (by omega)) (by omega)) (by omega)
  have t4 : ((((((((((((w6.setCell ⟨w.heap.size,0,none⟩ (ptr b0)).setCell ⟨w.heap.size,1,none⟩ (.int .i32 (-26))).setCell ⟨w.heap.size,2,none⟩ (ptr b1)).setCell ⟨w.heap.size,3,none⟩ (.int .i32 (-24))).setCell ⟨w.heap.size,4,none⟩ (ptr b2)).setCell ⟨w.heap.size,5,none⟩ (.int .i32 (-22))).setCell ⟨w.heap.size,6,none⟩ (ptr b3)).setCell ⟨w.heap.size,7,none⟩ (.int .i32 (-19))).setCell ⟨w.heap.size,8,none⟩ (ptr b4)).setCell ⟨w.heap.size,9,none⟩ (.int .i32 (-18))).setCell ⟨w.heap.size,10,none⟩ (ptr b5)).setCell ⟨w.heap.size,11,none⟩ (.int .i32 (-16))).cell? ⟨w.heap.size,4,none⟩ = some (ptr b2) :=cs_ne (cs_ne (cs_ne (cs_ne (cs_ne (cs_ne (cs_ne (cell_setCell_eq (cs_ne (cs_ne (cs_ne (cs_ne (s4) (by omega)) (by omega)) (by omega)) (by omega))) (by omega)) (by omega)) (by omega)) (by omega)) (by omega)) (by omega)) (by omega)
  have t5 : ((((((((((((w6.setCell ⟨w.heap.size,0,none⟩ (ptr b0)).setCell ⟨w.heap.size,1,none⟩ (.int .i32 (-26))).setCell ⟨w.heap.size,2,none⟩ (ptr b1)).setCell ⟨w.heap.size,3,none⟩ (.int .i32 (-24))).setCell ⟨w.heap.size,4,none⟩ (ptr b2)).setCell ⟨w.heap.size,5,none⟩ (.int .i32 (-22))).setCell ⟨w.heap.size,6,none⟩ (ptr b3)).setCell ⟨w.heap.size,7,none⟩ (.int .i32 (-19))).setCell ⟨w.heap.size,8,none⟩ (ptr b4)).setCell ⟨w.heap.size,9,none⟩ (.int .i32 (-18))).setCell ⟨w.heap.size,10,none⟩ (ptr b5)).setCell ⟨w.heap.size,11,none⟩ (.int .i32 (-16))).cell? ⟨w.heap.size,5,none⟩ = some (.int .i32 (-22)) :=cs_ne (cs_ne (cs_ne (cs_ne (cs_ne (cs_ne (cell_setCell_eq (cs_ne (cs_ne (cs_ne (cs_ne (cs_ne (s5) (by omega)) (by omega)) (by omega)) (by omega)) (by omega))) (by omega)) (by omega)) (by omega)) (by omega)) (by omega)) (by omega)
  have t6 : ((((((((((((w6.setCell ⟨w.heap.size,0,none⟩ (ptr b0)).setCell ⟨w.heap.size,1,none⟩ (.int .i32 (-26))).setCell ⟨w.heap.size,2,none⟩ (ptr b1)).setCell ⟨w.heap.size,3,none⟩ (.int .i32 (-24))).setCell ⟨w.heap.size,4,none⟩ (ptr b2)).setCell ⟨w.heap.size,5,none⟩ (.int .i32 (-22))).setCell ⟨w.heap.size,6,none⟩ (ptr b3)).setCell ⟨w.heap.size,7,none⟩ (.int .i32 (-19))).setCell ⟨w.heap.size,8,none⟩ (ptr b4)).setCell ⟨w.heap.size,9,none⟩ (.int .i32 (-18))).setCell ⟨w.heap.size,10,none⟩ (ptr b5)).setCell ⟨w.heap.size,11,none⟩ (.int .i32 (-16))).cell? ⟨w.heap.size,6,none⟩ = some (ptr b3) :=cs_ne (cs_ne (cs_ne (cs_ne (cs_ne (cell_setCell_eq (cs_ne (cs_ne (cs_ne (cs_ne (cs_ne (cs_ne (s6) (by omega)) (by omega)) (by omega)) (by omega)) (by omega)) (by omega))) (by omega)) (by omega)) (by omega)) (by omega)) (by omega)
  have t7 : ((((((((((((w6.setCell ⟨w.heap.size,0,none⟩ (ptr b0)).setCell ⟨w.heap.size,1,none⟩ (.int .i32 (-26))).setCell ⟨w.heap.size,2,none⟩ (ptr b1)).setCell ⟨w.heap.size,3,none⟩ (.int .i32 (-24))).setCell ⟨w.heap.size,4,none⟩ (ptr b2)).setCell ⟨w.heap.size,5,none⟩ (.int .i32 (-22))).setCell ⟨w.heap.size,6,none⟩ (ptr b3)).setCell ⟨w.heap.size,7,none⟩ (.int .i32 (-19))).setCell ⟨w.heap.size,8,none⟩ (ptr b4)).setCell ⟨w.heap.size,9,none⟩ (.int .i32 (-18))).setCell ⟨w.heap.size,10,none⟩ (ptr b5)).setCell ⟨w.heap.size,11,none⟩ (.int .i32 (-16))).cell? ⟨w.heap.size,7,none⟩ = some (.int .i32 (-19)) :=cs_ne (cs_ne (cs_ne (cs_ne (cell_setCell_eq (cs_ne (cs_ne (cs_ne (cs_ne (cs_ne (cs_ne (cs_ne (s7) (by omega)) (by omega)) (by omega)) (by omega)) (by omega)) (by omega)) (by omega))) (by omega)) (by omega)) (by omega)) (by omega)
  have t8 : ((((((((((((w6.setCell ⟨w.heap.size,0,none⟩ (ptr b0)).setCell ⟨w.heap.size,1,none⟩ (.int .i32 (-26))).setCell ⟨w.heap.size,2,none⟩ (ptr b1)).setCell ⟨w.heap.size,3,none⟩ (.int .i32 (-24))).setCell ⟨w.heap.size,4,none⟩ (ptr b2)).setCell ⟨w.heap.size,5,none⟩ (.int .i32 (-22))).setCell ⟨w.heap.size,6,none⟩ (ptr b3)).setCell ⟨w.heap.size,7,none⟩ (.int .i32 (-19))).setCell ⟨w.heap.size,8,none⟩ (ptr b4)).setCell ⟨w.heap.size,9,none⟩ (.int .i32 (-18))).setCell ⟨w.heap.size,10,none⟩ (ptr b5)).setCell ⟨w.heap.size,11,none⟩ (.int .i32 (-16))).cell? ⟨w.heap.size,8,none⟩ = some (ptr b4) :=cs_ne (cs_ne (cs_ne (cell_setCell_eq (cs_ne (cs_ne (cs_ne (cs_ne (cs_ne (cs_ne (cs_ne (cs_ne (s8) (by omega)) (by omega)) (by omega)) (by omega)) (by omega)) (by omega)) (by omega)) (by omega))) (by omega)) (by omega)) (by omega)
  have t9 : ((((((((((((w6.setCell ⟨w.heap.size,0,none⟩ (ptr b0)).setCell ⟨w.heap.size,1,none⟩ (.int .i32 (-26))).setCell ⟨w.heap.size,2,none⟩ (ptr b1)).setCell ⟨w.heap.size,3,none⟩ (.int .i32 (-24))).setCell ⟨w.heap.size,4,none⟩ (ptr b2)).setCell ⟨w.heap.size,5,none⟩ (.int .i32 (-22))).setCell ⟨w.heap.size,6,none⟩ (ptr b3)).setCell ⟨w.heap.size,7,none⟩ (.int .i32 (-19))).setCell ⟨w.heap.size,8,none⟩ (ptr b4)).setCell ⟨w.heap.size,9,none⟩ (.int .i32 (-18))).setCell ⟨w.heap.size,10,none⟩ (ptr b5)).setCell ⟨w.heap.size,11,none⟩ (.int .i32 (-16))).cell? ⟨w.heap.size,9,none⟩ = some (.int .i32 (-18)) :=cs_ne (cs_ne (cell_setCell_eq (cs_ne (cs_ne (cs_ne (cs_ne (cs_ne (cs_ne (cs_ne (cs_ne (cs_ne (s9) (by omega)) (by omega)) (by omega)) (by omega)) (by omega)) (by omega)) (by omega)) (by omega)) (by omega))) (by omega)) (by omega)
  have t10 : ((((((((((((w6.setCell ⟨w.heap.size,0,none⟩ (ptr b0)).setCell ⟨w.heap.size,1,none⟩ (.int .i32 (-26))).setCell ⟨w.heap.size,2,none⟩ (ptr b1)).setCell ⟨w.heap.size,3,none⟩ (.int .i32 (-24))).setCell ⟨w.heap.size,4,none⟩ (ptr b2)).setCell ⟨w.heap.size,5,none⟩ (.int .i32 (-22))).setCell ⟨w.heap.size,6,none⟩ (ptr b3)).setCell ⟨w.heap.size,7,none⟩ (.int .i32 (-19))).setCell ⟨w.heap.size,8,none⟩ (ptr b4)).setCell ⟨w.heap.size,9,none⟩ (.int .i32 (-18))).setCell ⟨w.heap.size,10,none⟩ (ptr b5)).setCell ⟨w.heap.size,11,none⟩ (.int .i32 (-16))).cell? ⟨w.heap.size,10,none⟩ = some (ptr b5) :=cs_ne (cell_setCell_eq (cs_ne (cs_ne (cs_ne (cs_ne (cs_ne (cs_ne (cs_ne (cs_ne (cs_ne (cs_ne (s10) (by omega)) (by omega)) (by omega)) (by omega)) (by omega)) (by omega)) (by omega)) (by omega)) (by omega)) (by omega))) (by omega)
  have t11 : ((((((((((((w6.setCell ⟨w.heap.size,0,none⟩ (ptr b0)).setCell ⟨w.heap.size,1,none⟩ (.int .i32 (-26))).setCell ⟨w.heap.size,2,none⟩ (ptr b1)).setCell ⟨w.heap.size,3,none⟩ (.int .i32 (-24))).setCell ⟨w.heap.size,4,none⟩ (ptr b2)).setCell ⟨w.heap.size,5,none⟩ (.int .i32 (-22))).setCell ⟨w.heap.size,6,none⟩ (ptr b3)).setCell ⟨w.heap.size,7,none⟩ (.int .i32 (-19))).setCell ⟨w.heap.size,8,none⟩ (ptr b4)).setCell ⟨w.heap.size,9,none⟩ (.int .i32 (-18))).setCell ⟨w.heap.size,10,none⟩ (ptr b5)).setCell ⟨w.heap.size,11,none⟩ (.int .i32 (-16))).cell? ⟨w.heap.size,11,none⟩ = some (.int .i32 (-16)) :=cell_setCell_eq (cs_ne (cs_ne (cs_ne (cs_ne (cs_ne (cs_ne (cs_ne (cs_ne (cs_ne (cs_ne (cs_ne (s11) (by omega)) (by omega)) (by omega)) (by omega)) (by omega)) (by omega)) (by omega)) (by omega)) (by omega)) (by omega)) (by omega))
  exact bodyPost_ret (v :=.agg #[ptr b0,.int .i32 (-26),ptr b1,.int .i32 (-24),ptr b2,.int .i32 (-22),ptr b3,.int .i32 (-19),ptr b4,.int .i32 (-18),ptr b5,.int .i32 (-16)]) (results_arr94 rfl rfl t0 t1 t2 t3 t4 t5 t6 t7 t8 t9 t10 t11) rfl ⟨b0,b1,b2,b3,b4,b5,rfl,(N0.chg kc12 (fun b _ e => by rw [e];exact HL)).older (Nat.le_of_lt HL),(N1.chg kc12 (fun b _ e => by rw [e];exact HL)).older (Nat.le_of_lt HL),(N2.chg kc12 (fun b _ e => by rw [e];exact HL)).older (Nat.le_of_lt HL),(N3.chg kc12 (fun b _ e => by rw [e];exact HL)).older (Nat.le_of_lt HL),(N4.chg kc12 (fun b _ e => by rw [e];exact HL)).older (Nat.le_of_lt HL),(N5.chg kc12 (fun b _ e => by rw [e];exact HL)).older (Nat.le_of_lt HL),K.keptNew kc12 fun b _ e => by omega⟩
theorem dec_arr73 (w : World) (hg : GlobF w) : Calls Tryz.prog 73 #[] w fun r w' => ∃ b0 b1 b2 b3 b4 b5 : Nat,r = .returned (.agg #[ptr b0,.int .i32 (-27),ptr b1,.int .i32 (-24),ptr b2,.int .i32 (-22),ptr b3,.int .i32 (-21),ptr b4,.int .i32 (-19),ptr b5,.int .i32 (-18)]) ∧ IntN w w' b0 (-11358536521387682) ∧ IntN w w' b1 (2087570084197473) ∧ IntN w w' b2 (-2755731417929674) ∧ IntN w w' b3 (24801587288851704) ∧ IntN w w' b4 (-13888888888873056) ∧ IntN w w' b5 (41666666666666595) ∧ Kept w w' :=by
  have K : Kept w (w.alloc (Obj.cells #[.pointer none,.int .i32 0,.pointer none,.int .i32 0,.pointer none,.int .i32 0,.pointer none,.int .i32 0,.pointer none,.int .i32 0,.pointer none,.int .i32 0] 94)) :=Chg.alloc _ _ _
  have K0 : Kept (w.alloc (Obj.cells #[.pointer none,.int .i32 0,.pointer none,.int .i32 0,.pointer none,.int .i32 0,.pointer none,.int .i32 0,.pointer none,.int .i32 0,.pointer none,.int .i32 0] 94)) (w.alloc (Obj.cells #[.pointer none,.int .i32 0,.pointer none,.int .i32 0,.pointer none,.int .i32 0,.pointer none,.int .i32 0,.pointer none,.int .i32 0,.pointer none,.int .i32 0] 94)) :=Chg.refl _ _
  have hf0 :=fun W (hW : Kept w W) => fromFC fc_cos0 _ _ fc_cos0_ok 13666448263388469915 rfl W (hg.kept hW)
  have hf1 :=fun W (hW : Kept w W) => fromFC fc_cos1 _ _ fc_cos1_ok 4477121864728985349 rfl W (hg.kept hW)
  have hf2 :=fun W (hW : Kept w W) => fromFC fc_cos2 _ _ fc_cos2_ok 13732177093698800582 rfl W (hg.kept hW)
  have hf3 :=fun W (hW : Kept w W) => fromFC fc_cos3 _ _ fc_cos3_ok 4537941361668146421 rfl W (hg.kept hW)
  have hf4 :=fun W (hW : Kept w W) => fromFC fc_cos4 _ _ fc_cos4_ok 13787419979223748497 rfl W (hg.kept hW)
  have hf5 :=fun W (hW : Kept w W) => fromFC fc_cos5 _ _ fc_cos5_ok 4586165620538955083 rfl W (hg.kept hW)
  have CW : (w.alloc (Obj.cells #[.pointer none,.int .i32 0,.pointer none,.int .i32 0,.pointer none,.int .i32 0,.pointer none,.int .i32 0,.pointer none,.int .i32 0,.pointer none,.int .i32 0] 94)).cell? ⟨w.heap.size,0,none⟩ = some (.pointer none) ∧ (w.alloc (Obj.cells #[.pointer none,.int .i32 0,.pointer none,.int .i32 0,.pointer none,.int .i32 0,.pointer none,.int .i32 0,.pointer none,.int .i32 0,.pointer none,.int .i32 0] 94)).cell? ⟨w.heap.size,1,none⟩ = some (.int .i32 0) ∧ (w.alloc (Obj.cells #[.pointer none,.int .i32 0,.pointer none,.int .i32 0,.pointer none,.int .i32 0,.pointer none,.int .i32 0,.pointer none,.int .i32 0,.pointer none,.int .i32 0] 94)).cell? ⟨w.heap.size,2,none⟩ = some (.pointer none) ∧ (w.alloc (Obj.cells #[.pointer none,.int .i32 0,.pointer none,.int .i32 0,.pointer none,.int .i32 0,.pointer none,.int .i32 0,.pointer none,.int .i32 0,.pointer none,.int .i32 0] 94)).cell? ⟨w.heap.size,3,none⟩ = some (.int .i32 0) ∧ (w.alloc (Obj.cells #[.pointer none,.int .i32 0,.pointer none,.int .i32 0,.pointer none,.int .i32 0,.pointer none,.int .i32 0,.pointer none,.int .i32 0,.pointer none,.int .i32 0] 94)).cell? ⟨w.heap.size,4,none⟩ = some (.pointer none) ∧ (w.alloc (Obj.cells #[.pointer none,.int .i32 0,.pointer none,.int .i32 0,.pointer none,.int .i32 0,.pointer none,.int .i32 0,.pointer none,.int .i32 0,.pointer none,.int .i32 0] 94)).cell? ⟨w.heap.size,5,none⟩ = some (.int .i32 0) ∧ (w.alloc (Obj.cells #[.pointer none,.int .i32 0,.pointer none,.int .i32 0,.pointer none,.int .i32 0,.pointer none,.int .i32 0,.pointer none,.int .i32 0,.pointer none,.int .i32 0] 94)).cell? ⟨w.heap.size,6,none⟩ = some (.pointer none) ∧ (w.alloc (Obj.cells #[.pointer none,.int .i32 0,.pointer none,.int .i32 0,.pointer none,.int .i32 0,.pointer none,.int .i32 0,.pointer none,.int .i32 0,.pointer none,.int .i32 0] 94)).cell? ⟨w.heap.size,7,none⟩ = some (.int .i32 0) ∧ (w.alloc (Obj.cells #[.pointer none,.int .i32 0,.pointer none,.int .i32 0,.pointer none,.int .i32 0,.pointer none,.int .i32 0,.pointer none,.int .i32 0,.pointer none,.int .i32 0] 94)).cell? ⟨w.heap.size,8,none⟩ = some (.pointer none) ∧ (w.alloc (Obj.cells #[.pointer none,.int .i32 0,.pointer none,.int .i32 0,.pointer none,.int .i32 0,.pointer none,.int .i32 0,.pointer none,.int .i32 0,.pointer none,.int .i32 0] 94)).cell? ⟨w.heap.size,9,none⟩ = some (.int .i32 0) ∧ (w.alloc (Obj.cells #[.pointer none,.int .i32 0,.pointer none,.int .i32 0,.pointer none,.int .i32 0,.pointer none,.int .i32 0,.pointer none,.int .i32 0,.pointer none,.int .i32 0] 94)).cell? ⟨w.heap.size,10,none⟩ = some (.pointer none) ∧ (w.alloc (Obj.cells #[.pointer none,.int .i32 0,.pointer none,.int .i32 0,.pointer none,.int .i32 0,.pointer none,.int .i32 0,.pointer none,.int .i32 0,.pointer none,.int .i32 0] 94)).cell? ⟨w.heap.size,11,none⟩ = some (.int .i32 0) :=by
    refine ⟨?_,?_,?_,?_,?_,?_,?_,?_,?_,?_,?_,?_⟩ <;> (rw [World.cell?_alloc_at _ _ _ _ rfl];rfl)
  have HL : w.heap.size < (w.alloc (Obj.cells #[.pointer none,.int .i32 0,.pointer none,.int .i32 0,.pointer none,.int .i32 0,.pointer none,.int .i32 0,.pointer none,.int .i32 0,.pointer none,.int .i32 0] 94)).heap.size :=by simp
  go_enter Tryz.func73,Tryz.ntmps73
  go_wp2_with (first
    | (go_at_call 69;(with_reducible refine (hf0 _ K).mono ?_);rintro r w1 ⟨b0,rfl,k1,k2⟩;have N0 :=k1.older (Chg.size K0);have K :=kt K k2;have K0 :=kt K0 k2;clear k1 k2)
    | (go_at_call 69;(with_reducible refine (hf1 _ K).mono ?_);rintro r w2 ⟨b1,rfl,k1,k2⟩;have N1 :=k1.older (Chg.size K0);have K :=kt K k2;have K0 :=kt K0 k2;have N0 :=N0.kept k2;clear k1 k2)
    | (go_at_call 69;(with_reducible refine (hf2 _ K).mono ?_);rintro r w3 ⟨b2,rfl,k1,k2⟩;have N2 :=k1.older (Chg.size K0);have K :=kt K k2;have K0 :=kt K0 k2;have N0 :=N0.kept k2;have N1 :=N1.kept k2;clear k1 k2)
    | (go_at_call 69;(with_reducible refine (hf3 _ K).mono ?_);rintro r w4 ⟨b3,rfl,k1,k2⟩;have N3 :=k1.older (Chg.size K0);have K :=kt K k2;have K0 :=kt K0 k2;have N0 :=N0.kept k2;have N1 :=N1.kept k2;have N2 :=N2.kept k2;clear k1 k2)
    | (go_at_call 69;(with_reducible refine (hf4 _ K).mono ?_);rintro r w5 ⟨b4,rfl,k1,k2⟩;have N4 :=k1.older (Chg.size K0);have K :=kt K k2;have K0 :=kt K0 k2;have N0 :=N0.kept k2;have N1 :=N1.kept k2;have N2 :=N2.kept k2;have N3 :=N3.kept k2;clear k1 k2)
    | (go_at_call 69;(with_reducible refine (hf5 _ K).mono ?_);rintro r w6 ⟨b5,rfl,k1,k2⟩;have N5 :=k1.older (Chg.size K0);have K :=kt K k2;have K0 :=kt K0 k2;have N0 :=N0.kept k2;have N1 :=N1.kept k2;have N2 :=N2.kept k2;have N3 :=N3.kept k2;have N4 :=N4.kept k2;have s0 :=Kept.at K0 CW.1;have f0 :=(K0.frz _ 0 HL).trans (NF.made w _ _ 0);have s1 :=Kept.at K0 CW.2.1;have f1 :=(K0.frz _ 1 HL).trans (NF.made w _ _ 1);have s2 :=Kept.at K0 CW.2.2.1;have f2 :=(K0.frz _ 2 HL).trans (NF.made w _ _ 2);have s3 :=Kept.at K0 CW.2.2.2.1;have f3 :=(K0.frz _ 3 HL).trans (NF.made w _ _ 3);have s4 :=Kept.at K0 CW.2.2.2.2.1;have f4 :=(K0.frz _ 4 HL).trans (NF.made w _ _ 4);have s5 :=Kept.at K0 CW.2.2.2.2.2.1;have f5 :=(K0.frz _ 5 HL).trans (NF.made w _ _ 5);have s6 :=Kept.at K0 CW.2.2.2.2.2.2.1;have f6 :=(K0.frz _ 6 HL).trans (NF.made w _ _ 6);have s7 :=Kept.at K0 CW.2.2.2.2.2.2.2.1;have f7 :=(K0.frz _ 7 HL).trans (NF.made w _ _ 7);have s8 :=Kept.at K0 CW.2.2.2.2.2.2.2.2.1;have f8 :=(K0.frz _ 8 HL).trans (NF.made w _ _ 8);have s9 :=Kept.at K0 CW.2.2.2.2.2.2.2.2.2.1;have f9 :=(K0.frz _ 9 HL).trans (NF.made w _ _ 9);have s10 :=Kept.at K0 CW.2.2.2.2.2.2.2.2.2.2.1;have f10 :=(K0.frz _ 10 HL).trans (NF.made w _ _ 10);have s11 :=Kept.at K0 CW.2.2.2.2.2.2.2.2.2.2.2;have f11 :=(K0.frz _ 11 HL).trans (NF.made w _ _ 11);clear k1 k2))
  have kc0 : Chg w6 w6 (fun b _ => b = w.heap.size) :=Chg.refl _ _
  have kc1 :=kc0.trans (Chg.setCell _ w.heap.size 0 (ptr b0) (fun b _ => b = w.heap.size) fun _ => rfl) fun _ _ _ h => h
  have kc2 :=kc1.trans (Chg.setCell _ w.heap.size 1 (.int .i32 (-27)) (fun b _ => b = w.heap.size) fun _ => rfl) fun _ _ _ h => h
  have kc3 :=kc2.trans (Chg.setCell _ w.heap.size 2 (ptr b1) (fun b _ => b = w.heap.size) fun _ => rfl) fun _ _ _ h => h
  have kc4 :=kc3.trans (Chg.setCell _ w.heap.size 3 (.int .i32 (-24)) (fun b _ => b = w.heap.size) fun _ => rfl) fun _ _ _ h => h
  have kc5 :=kc4.trans (Chg.setCell _ w.heap.size 4 (ptr b2) (fun b _ => b = w.heap.size) fun _ => rfl) fun _ _ _ h => h
  have kc6 :=kc5.trans (Chg.setCell _ w.heap.size 5 (.int .i32 (-22)) (fun b _ => b = w.heap.size) fun _ => rfl) fun _ _ _ h => h
  have kc7 :=kc6.trans (Chg.setCell _ w.heap.size 6 (ptr b3) (fun b _ => b = w.heap.size) fun _ => rfl) fun _ _ _ h => h
  have kc8 :=kc7.trans (Chg.setCell _ w.heap.size 7 (.int .i32 (-21)) (fun b _ => b = w.heap.size) fun _ => rfl) fun _ _ _ h => h
  have kc9 :=kc8.trans (Chg.setCell _ w.heap.size 8 (ptr b4) (fun b _ => b = w.heap.size) fun _ => rfl) fun _ _ _ h => h
  have kc10 :=kc9.trans (Chg.setCell _ w.heap.size 9 (.int .i32 (-19)) (fun b _ => b = w.heap.size) fun _ => rfl) fun _ _ _ h => h
  have kc11 :=kc10.trans (Chg.setCell _ w.heap.size 10 (ptr b5) (fun b _ => b = w.heap.size) fun _ => rfl) fun _ _ _ h => h
  have kc12 :=kc11.trans (Chg.setCell _ w.heap.size 11 (.int .i32 (-18)) (fun b _ => b = w.heap.size) fun _ => rfl) fun _ _ _ h => h
  have t0 : ((((((((((((w6.setCell ⟨w.heap.size,0,none⟩ (ptr b0)).setCell ⟨w.heap.size,1,none⟩ (.int .i32 (-27))).setCell ⟨w.heap.size,2,none⟩ (ptr b1)).setCell ⟨w.heap.size,3,none⟩ (.int .i32 (-24))).setCell ⟨w.heap.size,4,none⟩ (ptr b2)).setCell ⟨w.heap.size,5,none⟩ (.int .i32 (-22))).setCell ⟨w.heap.size,6,none⟩ (ptr b3)).setCell ⟨w.heap.size,7,none⟩ (.int .i32 (-21))).setCell ⟨w.heap.size,8,none⟩ (ptr b4)).setCell ⟨w.heap.size,9,none⟩ (.int .i32 (-19))).setCell ⟨w.heap.size,10,none⟩ (ptr b5)).setCell ⟨w.heap.size,11,none⟩ (.int .i32 (-18))).cell? ⟨w.heap.size,0,none⟩ = some (ptr b0) :=cs_ne (cs_ne (cs_ne (cs_ne (cs_ne (cs_ne (cs_ne (cs_ne (cs_ne (cs_ne (cs_ne (cell_setCell_eq (s0)) (by omega)) (by omega)) (by omega)) (by omega)) (by omega)) (by omega)) (by omega)) (by omega)) (by omega)) (by omega)) (by omega)
  have t1 : ((((((((((((w6.setCell ⟨w.heap.size,0,none⟩ (ptr b0)).setCell ⟨w.heap.size,1,none⟩ (.int .i32 (-27))).setCell ⟨w.heap.size,2,none⟩ (ptr b1)).setCell ⟨w.heap.size,3,none⟩ (.int .i32 (-24))).setCell ⟨w.heap.size,4,none⟩ (ptr b2)).setCell ⟨w.heap.size,5,none⟩ (.int .i32 (-22))).setCell ⟨w.heap.size,6,none⟩ (ptr b3)).setCell ⟨w.heap.size,7,none⟩ (.int .i32 (-21))).setCell ⟨w.heap.size,8,none⟩ (ptr b4)).setCell ⟨w.heap.size,9,none⟩ (.int .i32 (-19))).setCell ⟨w.heap.size,10,none⟩ (ptr b5)).setCell ⟨w.heap.size,11,none⟩ (.int .i32 (-18))).cell? ⟨w.heap.size,1,none⟩ = some (.int .i32 (-27)) :=cs_ne (cs_ne (cs_ne (cs_ne (cs_ne (cs_ne (cs_ne (cs_ne (cs_ne (cs_ne (cell_setCell_eq (cs_ne (s1) (by omega))) (by omega)) (by omega)) (by omega)) (by omega)) (by omega)) (by omega)) (by omega)) (by omega)) (by omega)) (by omega)
  have t2 : ((((((((((((w6.setCell ⟨w.heap.size,0,none⟩ (ptr b0)).setCell ⟨w.heap.size,1,none⟩ (.int .i32 (-27))).setCell ⟨w.heap.size,2,none⟩ (ptr b1)).setCell ⟨w.heap.size,3,none⟩ (.int .i32 (-24))).setCell ⟨w.heap.size,4,none⟩ (ptr b2)).setCell ⟨w.heap.size,5,none⟩ (.int .i32 (-22))).setCell ⟨w.heap.size,6,none⟩ (ptr b3)).setCell ⟨w.heap.size,7,none⟩ (.int .i32 (-21))).setCell ⟨w.heap.size,8,none⟩ (ptr b4)).setCell ⟨w.heap.size,9,none⟩ (.int .i32 (-19))).setCell ⟨w.heap.size,10,none⟩ (ptr b5)).setCell ⟨w.heap.size,11,none⟩ (.int .i32 (-18))).cell? ⟨w.heap.size,2,none⟩ = some (ptr b1) :=cs_ne (cs_ne (cs_ne (cs_ne (cs_ne (cs_ne (cs_ne (cs_ne (cs_ne (cell_setCell_eq (cs_ne (cs_ne (s2) (by omega)) (by omega))) (by omega)) (by omega)) (by omega)) (by omega)) (by omega)) (by omega)) (by omega)) (by omega)) (by omega)
  have t3 : ((((((((((((w6.setCell ⟨w.heap.size,0,none⟩ (ptr b0)).setCell ⟨w.heap.size,1,none⟩ (.int .i32 (-27))).setCell ⟨w.heap.size,2,none⟩ (ptr b1)).setCell ⟨w.heap.size,3,none⟩ (.int .i32 (-24))).setCell ⟨w.heap.size,4,none⟩ (ptr b2)).setCell ⟨w.heap.size,5,none⟩ (.int .i32 (-22))).setCell ⟨w.heap.size,6,none⟩ (ptr b3)).setCell ⟨w.heap.size,7,none⟩ (.int .i32 (-21))).setCell ⟨w.heap.size,8,none⟩ (ptr b4)).setCell ⟨w.heap.size,9,none⟩ (.int .i32 (-19))).setCell ⟨w.heap.size,10,none⟩ (ptr b5)).setCell ⟨w.heap.size,11,none⟩ (.int .i32 (-18))).cell? ⟨w.heap.size,3,none⟩ = some (.int .i32 (-24)) :=cs_ne (cs_ne (cs_ne (cs_ne (cs_ne (cs_ne (cs_ne (cs_ne (cell_setCell_eq (cs_ne (cs_ne (cs_ne (s3) (by omega)) (by omega)) (by omega))) (by omega)) (by omega)) (by omega)) (by omega)) (by omega)) (by omega)) (by omega)) (by omega)
  have t4 : ((((((((((((w6.setCell ⟨w.heap.size,0,none⟩ (ptr b0)).setCell ⟨w.heap.size,1,none⟩ (.int .i32 (-27))).setCell ⟨w.heap.size,2,none⟩ (ptr b1)).setCell ⟨w.heap.size,3,none⟩ (.int .i32 (-24))).setCell ⟨w.heap.size,4,none⟩ (ptr b2)).setCell ⟨w.heap.size,5,none⟩ (.int .i32 (-22))).setCell ⟨w.heap.size,6,none⟩ (ptr b3)).setCell ⟨w.heap.size,7,none⟩ (.int .i32 (-21))).setCell ⟨w.heap.size,8,none⟩ (ptr b4)).setCell ⟨w.heap.size,9,none⟩ (.int .i32 (-19))).setCell ⟨w.heap.size,10,none⟩ (ptr b5)).setCell ⟨w.heap.size,11,none⟩ (.int .i32 (-18))).cell? ⟨w.heap.size,4,none⟩ = some (ptr b2) :=cs_ne (cs_ne (cs_ne (cs_ne (cs_ne (cs_ne (cs_ne (cell_setCell_eq (cs_ne (cs_ne (cs_ne (cs_ne (s4) (by omega)) (by omega)) (by omega)) (by omega))) (by omega)) (by omega)) (by omega)) (by omega)) (by omega)) (by omega)) (by omega)
  have t5 : ((((((((((((w6.setCell ⟨w.heap.size,0,none⟩ (ptr b0)).setCell ⟨w.heap.size,1,none⟩ (.int .i32 (-27))).setCell ⟨w.heap.size,2,none⟩ (ptr b1)).setCell ⟨w.heap.size,3,none⟩ (.int .i32 (-24))).setCell ⟨w.heap.size,4,none⟩ (ptr b2)).setCell ⟨w.heap.size,5,none⟩ (.int .i32 (-22))).setCell ⟨w.heap.size,6,none⟩ (ptr b3)).setCell ⟨w.heap.size,7,none⟩ (.int .i32 (-21))).setCell ⟨w.heap.size,8,none⟩ (ptr b4)).setCell ⟨w.heap.size,9,none⟩ (.int .i32 (-19))).setCell ⟨w.heap.size,10,none⟩ (ptr b5)).setCell ⟨w.heap.size,11,none⟩ (.int .i32 (-18))).cell? ⟨w.heap.size,5,none⟩ = some (.int .i32 (-22)) :=cs_ne (cs_ne (cs_ne (cs_ne (cs_ne (cs_ne (cell_setCell_eq (cs_ne (cs_ne (cs_ne (cs_ne (cs_ne (s5) (by omega)) (by omega)) (by omega)) (by omega)) (by omega))) (by omega)) (by omega)) (by omega)) (by omega)) (by omega)) (by omega)
  have t6 : ((((((((((((w6.setCell ⟨w.heap.size,0,none⟩ (ptr b0)).setCell ⟨w.heap.size,1,none⟩ (.int .i32 (-27))).setCell ⟨w.heap.size,2,none⟩ (ptr b1)).setCell ⟨w.heap.size,3,none⟩ (.int .i32 (-24))).setCell ⟨w.heap.size,4,none⟩ (ptr b2)).setCell ⟨w.heap.size,5,none⟩ (.int .i32 (-22))).setCell ⟨w.heap.size,6,none⟩ (ptr b3)).setCell ⟨w.heap.size,7,none⟩ (.int .i32 (-21))).setCell ⟨w.heap.size,8,none⟩ (ptr b4)).setCell ⟨w.heap.size,9,none⟩ (.int .i32 (-19))).setCell ⟨w.heap.size,10,none⟩ (ptr b5)).setCell ⟨w.heap.size,11,none⟩ (.int .i32 (-18))).cell? ⟨w.heap.size,6,none⟩ = some (ptr b3) :=cs_ne (cs_ne (cs_ne (cs_ne (cs_ne (cell_setCell_eq (cs_ne (cs_ne (cs_ne (cs_ne (cs_ne (cs_ne (s6) (by omega)) (by omega)) (by omega)) (by omega)) (by omega)) (by omega))) (by omega)) (by omega)) (by omega)) (by omega)) (by omega)
  have t7 : ((((((((((((w6.setCell ⟨w.heap.size,0,none⟩ (ptr b0)).setCell ⟨w.heap.size,1,none⟩ (.int .i32 (-27))).setCell ⟨w.heap.size,2,none⟩ (ptr b1)).setCell ⟨w.heap.size,3,none⟩ (.int .i32 (-24))).setCell ⟨w.heap.size,4,none⟩ (ptr b2)).setCell ⟨w.heap.size,5,none⟩ (.int .i32 (-22))).setCell ⟨w.heap.size,6,none⟩ (ptr b3)).setCell ⟨w.heap.size,7,none⟩ (.int .i32 (-21))).setCell ⟨w.heap.size,8,none⟩ (ptr b4)).setCell ⟨w.heap.size,9,none⟩ (.int .i32 (-19))).setCell ⟨w.heap.size,10,none⟩ (ptr b5)).setCell ⟨w.heap.size,11,none⟩ (.int .i32 (-18))).cell? ⟨w.heap.size,7,none⟩ = some (.int .i32 (-21)) :=cs_ne (cs_ne (cs_ne (cs_ne (cell_setCell_eq (cs_ne (cs_ne (cs_ne (cs_ne (cs_ne (cs_ne (cs_ne (s7) (by omega)) (by omega)) (by omega)) (by omega)) (by omega)) (by omega)) (by omega))) (by omega)) (by omega)) (by omega)) (by omega)
  have t8 : ((((((((((((w6.setCell ⟨w.heap.size,0,none⟩ (ptr b0)).setCell ⟨w.heap.size,1,none⟩ (.int .i32 (-27))).setCell ⟨w.heap.size,2,none⟩ (ptr b1)).setCell ⟨w.heap.size,3,none⟩ (.int .i32 (-24))).setCell ⟨w.heap.size,4,none⟩ (ptr b2)).setCell ⟨w.heap.size,5,none⟩ (.int .i32 (-22))).setCell ⟨w.heap.size,6,none⟩ (ptr b3)).setCell ⟨w.heap.size,7,none⟩ (.int .i32 (-21))).setCell ⟨w.heap.size,8,none⟩ (ptr b4)).setCell ⟨w.heap.size,9,none⟩ (.int .i32 (-19))).setCell ⟨w.heap.size,10,none⟩ (ptr b5)).setCell ⟨w.heap.size,11,none⟩ (.int .i32 (-18))).cell? ⟨w.heap.size,8,none⟩ = some (ptr b4) :=cs_ne (cs_ne (cs_ne (cell_setCell_eq (cs_ne (cs_ne (cs_ne (cs_ne (cs_ne (cs_ne (cs_ne (cs_ne (s8) (by omega)) (by omega)) (by omega)) (by omega)) (by omega)) (by omega)) (by omega)) (by omega))) (by omega)) (by omega)) (by omega)
  have t9 : ((((((((((((w6.setCell ⟨w.heap.size,0,none⟩ (ptr b0)).setCell ⟨w.heap.size,1,none⟩ (.int .i32 (-27))).setCell ⟨w.heap.size,2,none⟩ (ptr b1)).setCell ⟨w.heap.size,3,none⟩ (.int .i32 (-24))).setCell ⟨w.heap.size,4,none⟩ (ptr b2)).setCell ⟨w.heap.size,5,none⟩ (.int .i32 (-22))).setCell ⟨w.heap.size,6,none⟩ (ptr b3)).setCell ⟨w.heap.size,7,none⟩ (.int .i32 (-21))).setCell ⟨w.heap.size,8,none⟩ (ptr b4)).setCell ⟨w.heap.size,9,none⟩ (.int .i32 (-19))).setCell ⟨w.heap.size,10,none⟩ (ptr b5)).setCell ⟨w.heap.size,11,none⟩ (.int .i32 (-18))).cell? ⟨w.heap.size,9,none⟩ = some (.int .i32 (-19)) :=cs_ne (cs_ne (cell_setCell_eq (cs_ne (cs_ne (cs_ne (cs_ne (cs_ne (cs_ne (cs_ne (cs_ne (cs_ne (s9) (by omega)) (by omega)) (by omega)) (by omega)) (by omega)) (by omega)) (by omega)) (by omega)) (by omega))) (by omega)) (by omega)
  have t10 : ((((((((((((w6.setCell ⟨w.heap.size,0,none⟩ (ptr b0)).setCell ⟨w.heap.size,1,none⟩ (.int .i32 (-27))).setCell ⟨w.heap.size,2,none⟩ (ptr b1)).setCell ⟨w.heap.size,3,none⟩ (.int .i32 (-24))).setCell ⟨w.heap.size,4,none⟩ (ptr b2)).setCell ⟨w.heap.size,5,none⟩ (.int .i32 (-22))).setCell ⟨w.heap.size,6,none⟩ (ptr b3)).setCell ⟨w.heap.size,7,none⟩ (.int .i32 (-21))).setCell ⟨w.heap.size,8,none⟩ (ptr b4)).setCell ⟨w.heap.size,9,none⟩ (.int .i32 (-19))).setCell ⟨w.heap.size,10,none⟩ (ptr b5)).setCell ⟨w.heap.size,11,none⟩ (.int .i32 (-18))).cell? ⟨w.heap.size,10,none⟩ = some (ptr b5) :=cs_ne (cell_setCell_eq (cs_ne (cs_ne (cs_ne (cs_ne (cs_ne (cs_ne (cs_ne (cs_ne (cs_ne (cs_ne (s10) (by omega)) (by omega)) (by omega)) (by omega)) (by omega)) (by omega)) (by omega)) (by omega)) (by omega)) (by omega))) (by omega)
  have t11 : ((((((((((((w6.setCell ⟨w.heap.size,0,none⟩ (ptr b0)).setCell ⟨w.heap.size,1,none⟩ (.int .i32 (-27))).setCell ⟨w.heap.size,2,none⟩ (ptr b1)).setCell ⟨w.heap.size,3,none⟩ (.int .i32 (-24))).setCell ⟨w.heap.size,4,none⟩ (ptr b2)).setCell ⟨w.heap.size,5,none⟩ (.int .i32 (-22))).setCell ⟨w.heap.size,6,none⟩ (ptr b3)).setCell ⟨w.heap.size,7,none⟩ (.int .i32 (-21))).setCell ⟨w.heap.size,8,none⟩ (ptr b4)).setCell ⟨w.heap.size,9,none⟩ (.int .i32 (-19))).setCell ⟨w.heap.size,10,none⟩ (ptr b5)).setCell ⟨w.heap.size,11,none⟩ (.int .i32 (-18))).cell? ⟨w.heap.size,11,none⟩ = some (.int .i32 (-18)) :=cell_setCell_eq (cs_ne (cs_ne (cs_ne (cs_ne (cs_ne (cs_ne (cs_ne (cs_ne (cs_ne (cs_ne (cs_ne (s11) (by omega)) (by omega)) (by omega)) (by omega)) (by omega)) (by omega)) (by omega)) (by omega)) (by omega)) (by omega)) (by omega))
  exact bodyPost_ret (v :=.agg #[ptr b0,.int .i32 (-27),ptr b1,.int .i32 (-24),ptr b2,.int .i32 (-22),ptr b3,.int .i32 (-21),ptr b4,.int .i32 (-19),ptr b5,.int .i32 (-18)]) (results_arr94 rfl rfl t0 t1 t2 t3 t4 t5 t6 t7 t8 t9 t10 t11) rfl ⟨b0,b1,b2,b3,b4,b5,rfl,(N0.chg kc12 (fun b _ e => by rw [e];exact HL)).older (Nat.le_of_lt HL),(N1.chg kc12 (fun b _ e => by rw [e];exact HL)).older (Nat.le_of_lt HL),(N2.chg kc12 (fun b _ e => by rw [e];exact HL)).older (Nat.le_of_lt HL),(N3.chg kc12 (fun b _ e => by rw [e];exact HL)).older (Nat.le_of_lt HL),(N4.chg kc12 (fun b _ e => by rw [e];exact HL)).older (Nat.le_of_lt HL),(N5.chg kc12 (fun b _ e => by rw [e];exact HL)).older (Nat.le_of_lt HL),K.keptNew kc12 fun b _ e => by omega⟩
end Go.Proofs.YtfmmdamgcpiciaaGreatDoor
namespace Go.Proofs.YtfmmdamgcpiciaaGreatDoor
open Go Go.RowKit
def yM (j : Nat) : Int :=if j = 10 then 1 else (j : Int)
def yE (j : Nat) : Int :=if j = 10 then 1 else 0
theorem fromZero (w : World) : Calls Tryz.prog 69 #[.float .f64 0] w (NewDec w 0 0) :=by
  have kA : Kept w (Box0 w) :=Chg.alloc _ _ _
  have hf :=dec_new (Box0 w) 0 0 (by decide) (by decide)
  go_enter Tryz.func69,Tryz.ntmps69
  go_wp2_with (go_at_call 71;refine hf.mono ?_;rintro r w2 ⟨b2,rfl,k1,k2⟩;have S :=(Slot.made w (.pointer none) (.int .i32 0)).kept k2;obtain ⟨⟨u0,s0⟩,⟨u1,s1⟩,sf⟩ :=id S;have f0 :=sf 0;have f1 :=sf 1;have s2 :=cs_ne (u :=ptr b2) s1 (b' :=w.heap.size) (o' :=0) (by omega))
  exact bodyPost_ret (v :=dv b2 0) (results_dec rfl rfl (put2_0 S _ _) (put2_1 S _ _)) rfl ⟨b2,rfl,dec_ret (Nat.le_refl _) (by simp) kA k1 k2 _ _⟩
theorem fromSmall (j : Nat) (hj : j ≤ 12) (w : World) (hg : GlobF w) : Calls Tryz.prog 69 #[.float .f64 (floatOfInt .f64 (j : Int))] w (NewDec w (yM j) (yE j)) :=by
  have h : j = 0 ∨ j = 1 ∨ j = 2 ∨ j = 3 ∨ j = 4 ∨ j = 5 ∨ j = 6 ∨ j = 7 ∨ j = 8 ∨ j = 9 ∨ j = 10 ∨ j = 11 ∨ j = 12 :=by omega
  rcases h with rfl | rfl | rfl | rfl | rfl | rfl | rfl | rfl | rfl | rfl | rfl | rfl | rfl
  · exact fromZero w
  · exact fromFC fc_int1 _ _ fc_int1_ok _ (by decide +kernel) w hg
  · exact fromFC fc_int2 _ _ fc_int2_ok _ (by decide +kernel) w hg
  · exact fromFC fc_int3 _ _ fc_int3_ok _ (by decide +kernel) w hg
  · exact fromFC fc_int4 _ _ fc_int4_ok _ (by decide +kernel) w hg
  · exact fromFC fc_int5 _ _ fc_int5_ok _ (by decide +kernel) w hg
  · exact fromFC fc_int6 _ _ fc_int6_ok _ (by decide +kernel) w hg
  · exact fromFC fc_int7 _ _ fc_int7_ok _ (by decide +kernel) w hg
  · exact fromFC fc_int8 _ _ fc_int8_ok _ (by decide +kernel) w hg
  · exact fromFC fc_int9 _ _ fc_int9_ok _ (by decide +kernel) w hg
  · exact fromFC fc_int10 _ _ fc_int10_ok _ (by decide +kernel) w hg
  · exact fromFC fc_int11 _ _ fc_int11_ok _ (by decide +kernel) w hg
  · exact fromFC fc_int12 _ _ fc_int12_ok _ (by decide +kernel) w hg
end Go.Proofs.YtfmmdamgcpiciaaGreatDoor
namespace Go.Proofs.YtfmmdamgcpiciaaGreatDoor
open Go Go.RowKit
def Dc.sc (a : Dc) (n : Nat) : Int :=a.m * ((10 ^ (a.e + n).toNat : Nat) : Int)
theorem ten_add (a b : Nat) : ((10 ^ a : Nat) : Int) * ((10 ^ b : Nat) : Int) = ((10 ^ (a + b) : Nat) : Int) :=by rw [← Int.natCast_mul,← Nat.pow_add]
theorem sc_mul (a b : Dc) (n m : Nat) (h1 : 0 ≤ a.e + n) (h2 : 0 ≤ b.e + m) : (a.mul b).sc (n + m) = a.sc n * b.sc m :=by
  unfold Dc.sc Dc.mul
  simp only
  rw [show (a.e + b.e + ((n + m : Nat) : Int)).toNat = (a.e + n).toNat + (b.e + m).toNat by omega,← ten_add]
  rw [Int.mul_assoc,Int.mul_assoc,Int.mul_left_comm b.m]
theorem sh_sc (a : Dc) (x : Int) (n : Nat) (h1 : 0 ≤ x + n) (h2 : x ≤ a.e) : a.sh x * ((10 ^ (x + n).toNat : Nat) : Int) = a.sc n :=by
  unfold Dc.sc Dc.sh
  rw [Int.mul_assoc,ten_add]
  congr 4
  omega
theorem sc_add (a b : Dc) (n : Nat) (h1 : 0 ≤ a.e + n) (h2 : 0 ≤ b.e + n) : (a.add b).sc n = a.sc n + b.sc n :=by
  have e1 :=sh_sc a (min a.e b.e) n (by omega) (by omega)
  have e2 :=sh_sc b (min a.e b.e) n (by omega) (by omega)
  rw [← e1,← e2,← Int.add_mul]
  rfl
theorem sc_sub (a b : Dc) (n : Nat) (h1 : 0 ≤ a.e + n) (h2 : 0 ≤ b.e + n) : (a.sub b).sc n = a.sc n - b.sc n :=by
  have e1 :=sh_sc a (min a.e b.e) n (by omega) (by omega)
  have e2 :=sh_sc b (min a.e b.e) n (by omega) (by omega)
  rw [← e1,← e2,← Int.sub_mul]
  rfl
theorem sc_neg (a : Dc) (n : Nat) : a.neg.sc n = -a.sc n :=by
  unfold Dc.sc Dc.neg
  exact Int.neg_mul _ _
theorem m_le_sc (a : Dc) (n : Nat) : a.m.natAbs ≤ (a.sc n).natAbs :=by
  unfold Dc.sc
  rw [Int.natAbs_mul,Int.natAbs_natCast]
  exact Nat.le_mul_of_pos_right _ (Nat.pow_pos (by decide))
theorem sc_up (a : Dc) (n m : Nat) (h : 0 ≤ a.e + n) (hm : n ≤ m) : a.sc m = a.sc n * ((10 ^ (m - n) : Nat) : Int) :=by
  unfold Dc.sc
  rw [Int.mul_assoc,ten_add]
  congr 4
  omega
def pA : Dc :=⟨7853981256484985,-16⟩
def pB : Dc :=⟨3774894707930798,-23⟩
def pC : Dc :=⟨26951514290790595,-31⟩
def pM : Dc :=⟨12732395447351625,-16⟩
def yD (j : Nat) : Dc :=if j % 2 = 1 then (⟨yM j,yE j⟩ : Dc).add ⟨1,0⟩ else ⟨yM j,yE j⟩
theorem bd_y {j : Nat} (hj : j ≤ 12) : Bd ⟨yM j,yE j⟩ 2 :=by
  unfold Bd yM
  simp only
  split <;> omega
theorem yD_all : ∀ j : Fin 13,(yD j.val).m.natAbs ≤ 100 ∧ 0 ≤ (yD j.val).e ∧ (yD j.val).e ≤ 1 ∧ (yD j.val).sc 0 = ((j.val + j.val % 2 : Nat) : Int) :=by decide +kernel
theorem yD_facts {j : Nat} (hj : j ≤ 12) : Bd (yD j) 2 ∧ 0 ≤ (yD j).e ∧ (yD j).e ≤ 1 ∧ (yD j).sc 0 = ((j + j % 2 : Nat) : Int) :=yD_all ⟨j,by omega⟩
theorem small_angle {N k j : Nat} (hN : N < 10 ^ (k + 1)) (hj : N * 12732395447351625 / 10 ^ (k + 16) = j) : j ≤ 12 :=by
  rw [← hj]
  have h1 : N * 12732395447351625 < 13 * 10 ^ (k + 16) :=by
    have e : 10 ^ (k + 16) = 10 ^ (k + 1) * 10 ^ 15 :=by rw [← Nat.pow_add]
    rw [e]
    generalize 10 ^ (k + 1) = P at *
    omega
  have :=(Nat.div_lt_iff_lt_mul (Nat.pow_pos (by decide))).2 h1
  omega
theorem bd_nat {N k : Nat} {e : Int} (hN : N < 10 ^ (k + 1)) (hk : k ≤ 18) : Bd ⟨N,e⟩ 19 :=by
  unfold Bd
  rw [Int.natAbs_natCast]
  exact Nat.le_of_lt (Nat.lt_of_lt_of_le hN (Nat.pow_le_pow_right (by decide) (by omega)))
theorem small39 {N k : Nat} (hN : N < 10 ^ (k + 1)) (hk : k ≤ 18) : N * 12732395447351625 < W39 :=by
  have h1 : N < 10 ^ 19 :=Nat.lt_of_lt_of_le hN (Nat.pow_le_pow_right (by decide) (by omega))
  have h2 : (10 : Nat) ^ 19 * 12732395447351625 < W39 :=by decide +kernel
  exact Nat.lt_trans (Nat.mul_lt_mul_of_pos_right h1 (by decide)) h2
def zD (a y : Dc) : Dc :=((a.sub (y.mul pA)).sub (y.mul pB)).sub (y.mul pC)
def p4 : Int :=7853981256484985 * 10 ^ 15 + 3774894707930798 * 10 ^ 8 + 26951514290790595
theorem zD_sc (a y : Dc) (n : Nat) (h1 : 0 ≤ a.e + (31 + n : Nat)) (h2 : 0 ≤ y.e + n) : (zD a y).sc (31 + n) = a.sc (31 + n) - y.sc n * p4 ∧ 0 ≤ (zD a y).e + (31 + n : Nat) :=by
  have eA : (y.mul pA).sc (31 + n) = y.sc n * pA.sc 31 :=by rw [Nat.add_comm];exact sc_mul y pA n 31 h2 (by decide)
  have eB : (y.mul pB).sc (31 + n) = y.sc n * pB.sc 31 :=by rw [Nat.add_comm];exact sc_mul y pB n 31 h2 (by decide)
  have eC : (y.mul pC).sc (31 + n) = y.sc n * pC.sc 31 :=by rw [Nat.add_comm];exact sc_mul y pC n 31 h2 (by decide)
  have fA : (y.mul pA).e = y.e + -16 :=rfl
  have fB : (y.mul pB).e = y.e + -23 :=rfl
  have fC : (y.mul pC).e = y.e + -31 :=rfl
  have g1 : (a.sub (y.mul pA)).e = min a.e (y.mul pA).e :=rfl
  have g2 : ((a.sub (y.mul pA)).sub (y.mul pB)).e = min (a.sub (y.mul pA)).e (y.mul pB).e :=rfl
  have g3 : (zD a y).e = min ((a.sub (y.mul pA)).sub (y.mul pB)).e (y.mul pC).e :=rfl
  refine ⟨?_,by omega⟩
  unfold zD
  rw [sc_sub _ _ _ (by omega) (by omega),sc_sub _ _ _ (by omega) (by omega),sc_sub _ _ _ (by omega) (by omega),eA,eB,eC]
  have hA : pA.sc 31 = 7853981256484985 * 10 ^ 15 :=by decide
  have hB : pB.sc 31 = 3774894707930798 * 10 ^ 8 :=by decide
  have hC : pC.sc 31 = 26951514290790595 :=by decide
  rw [hA,hB,hC]
  unfold p4
  rw [Int.mul_add,Int.mul_add]
  omega
theorem octant {N k j : Nat} (hk : k ≤ 18) (hj : N * 12732395447351625 / 10 ^ (k + 16) = j) : ∃ T : Nat,(⟨N,-(k : Int)⟩ : Dc).sc 31 = (T : Int) ∧ j * 10 ^ 47 ≤ T * 12732395447351625 ∧ T * 12732395447351625 < (j + 1) * 10 ^ 47 :=by
  refine ⟨N * 10 ^ (31 - k),?_,?_,?_⟩
  · unfold Dc.sc
    simp only
    rw [show (-(k : Int) + (31 : Nat)).toNat = 31 - k by omega,Int.natCast_mul]
  · have h1 :=Nat.div_mul_le_self (N * 12732395447351625) (10 ^ (k + 16))
    rw [hj] at h1
    have h2 :=Nat.mul_le_mul_right (10 ^ (31 - k)) h1
    rw [Nat.mul_assoc,← Nat.pow_add,show k + 16 + (31 - k) = 47 by omega] at h2
    rw [Nat.mul_right_comm]
    exact h2
  · have h1 :=Nat.lt_mul_div_succ (N * 12732395447351625) (show 0 < 10 ^ (k + 16) from Nat.pow_pos (by decide))
    rw [hj] at h1
    have h2 :=Nat.mul_lt_mul_of_pos_right h1 (show 0 < 10 ^ (31 - k) from Nat.pow_pos (by decide))
    rw [Nat.mul_comm (10 ^ (k + 16)),Nat.mul_assoc (j + 1),← Nat.pow_add,show k + 16 + (31 - k) = 47 by omega] at h2
    rw [Nat.mul_right_comm]
    exact h2
theorem p4_eq : p4 = 7853981633974482744594090790595 :=by decide
theorem z_small {T j : Nat} (hj : j ≤ 12) (h1 : j * 10 ^ 47 ≤ T * 12732395447351625) (h2 : T * 12732395447351625 < (j + 1) * 10 ^ 47) : ((T : Int) - ((j + j % 2 : Nat) : Int) * p4).natAbs ≤ 7853981633975000000000000000000 :=by
  rw [p4_eq]
  rw [show (10 : Nat) ^ 47 = 100000000000000000000000000000000000000000000000 from rfl] at h1 h2
  have h : j = 0 ∨ j = 1 ∨ j = 2 ∨ j = 3 ∨ j = 4 ∨ j = 5 ∨ j = 6 ∨ j = 7 ∨ j = 8 ∨ j = 9 ∨ j = 10 ∨ j = 11 ∨ j = 12 :=by omega
  rcases h with rfl | h
  · have h3 : T < 7853981633975000000000000000000 :=Nat.lt_of_mul_lt_mul_right (a :=12732395447351625) (Nat.lt_trans h2 (by decide))
    clear h1 h2
    have e : ((0 + 0 % 2 : Nat) : Int) * 7853981633974482744594090790595 = 0 :=by decide
    rw [e]
    omega
  · rcases h with rfl | rfl | rfl | rfl | rfl | rfl | rfl | rfl | rfl | rfl | rfl | rfl <;> omega
theorem zD_bound {N k j : Nat} (hk : k ≤ 18) (hN : N < 10 ^ (k + 1)) (hj : N * 12732395447351625 / 10 ^ (k + 16) = j) : ((zD ⟨N,-(k : Int)⟩ (yD j)).sc 31).natAbs ≤ 7853981633975000000000000000000 ∧ (zD ⟨N,-(k : Int)⟩ (yD j)).sc 31 = (⟨N,-(k : Int)⟩ : Dc).sc 31 - ((j + j % 2 : Nat) : Int) * p4 ∧ (zD ⟨N,-(k : Int)⟩ (yD j)).e = (yD j).e - 31 ∧ Bd (zD ⟨N,-(k : Int)⟩ (yD j)) 31 :=by
  have hj12 :=small_angle hN hj
  obtain ⟨y1,y2,y3,y4⟩ :=yD_facts hj12
  obtain ⟨T,t1,t2,t3⟩ :=octant hk hj
  have hz :=(zD_sc ⟨N,-(k : Int)⟩ (yD j) 0 (by simp only;omega) (by omega)).1
  rw [Nat.add_zero,y4,t1] at hz
  have hs :=z_small hj12 t2 t3
  rw [← hz] at hs
  refine ⟨hs,by rw [t1];exact hz,?_,?_⟩
  · show min (min (min (-(k : Int)) ((yD j).e + -16)) ((yD j).e + -23)) ((yD j).e + -31) = _
    omega
  · exact Nat.le_trans (m_le_sc _ 31) (Nat.le_trans hs (by decide))
end Go.Proofs.YtfmmdamgcpiciaaGreatDoor
