/- A part of the proof, joined out of the texts Q5, K3, K4, C2; each theorem bears its own conditions. -/
import Derived.Carry
import Derived.Deep.CutRange
import Derived.Deep.DeepHandedRow
import Derived.Defers
import Derived.Lay
import Derived.Lib.LaidU8
import Derived.Lib.SmallJoins
import Derived.OpenShut
import Derived.OpenVars
import Derived.ProofKit
import Derived.Recover
import Derived.SevenTiedAt
import Derived.Test.YtfmmdamgcpiciaaGreatDoorCards
import Derived.WalkKit
import Derived.Test.YtfmmdamgcpiciaaGreatDoorT11
import Derived.Test.YtfmmdamgcpiciaaGreatDoorT12
import Derived.Test.YtfmmdamgcpiciaaGreatDoorT13
import Derived.Test.YtfmmdamgcpiciaaGreatDoorTie
set_option linter.unusedVariables false
set_option linter.unusedSimpArgs false
set_option linter.all false
set_option maxHeartbeats 9000000
set_option exponentiation.threshold 400000
set_option maxRecDepth 1000000
namespace Go.Proofs.YtfmmdamgcpiciaaGreatDoor
open Go Go.RowKit
open Plain
def tanR (X : Int) (k : Nat) : Dc :=if X = 0 then ⟨0,-(k : Int)⟩ else tanOf X k
theorem R24_le : 10 ^ 24 ≤ R31 :=by decide
theorem pol0_ev (z : Int) : ev pol0 z = 10 ^ 256 :=by
  simp only [pol0,ev,Int.mul_zero,Int.add_zero]
theorem pol1_ev (z : Int) : ev pol1 z = z * 10 ^ 256 :=by
  simp only [pol1,ev,Int.mul_zero,Int.add_zero,Int.zero_add]
theorem ten256 : 3 * 10 ^ 255 ≤ (10 ^ 256 : Int).natAbs ∧ (10 ^ 256 : Int).natAbs ≤ 10 ^ 256 :=by decide +kernel
theorem n287 {z : Int} (h : z.natAbs ≤ 10 ^ 24) : (z * 10 ^ 256).natAbs ≤ 10 ^ 287 :=by
  rw [Int.natAbs_mul]
  exact Nat.le_trans (Nat.mul_le_mul h ten256.2) (by decide +kernel)
theorem y_le {y X N z r : Int} (hX : 3 * 10 ^ 255 ≤ X.natAbs) (hX2 : X.natAbs ≤ 10 ^ 256) (hN : N.natAbs ≤ 10 ^ 287) (hz : z.natAbs ≤ R31) (hy : y * X = 10 ^ 16 * N + z * r) (hr : 2 * r.natAbs ≤ X.natAbs) : y.natAbs ≤ 10 ^ 48 :=by
  have h1 : (10 ^ 16 * N).natAbs ≤ 10 ^ 303 :=by
    rw [Int.natAbs_mul]
    exact Nat.le_trans (Nat.mul_le_mul_left _ hN) (by decide +kernel)
  have h2 : (z * r).natAbs ≤ 10 ^ 303 :=by
    rw [Int.natAbs_mul]
    exact Nat.le_trans (Nat.mul_le_mul hz (show r.natAbs ≤ 10 ^ 256 by omega)) (by decide +kernel)
  have h3 : (y * X).natAbs ≤ 10 ^ 303 + 10 ^ 303 :=by rw [hy];omega
  rw [Int.natAbs_mul] at h3
  have h4 : y.natAbs * (3 * 10 ^ 255) ≤ 10 ^ 48 * (3 * 10 ^ 255) :=Nat.le_trans (Nat.le_trans (Nat.mul_le_mul_left _ hX) h3) (by decide +kernel)
  exact Nat.le_of_mul_le_mul_right h4 (by decide +kernel)
theorem tan_core {N k j : Nat} (hk : k ≤ 18) (hN : N < 10 ^ (k + 1)) (hj : N * 12732395447351625 / 10 ^ (k + 16) = j) {x : Int} (hx : (N : Int) * ((10 ^ (40 - k) : Nat) : Int) = x) {y : Int} (hy : (tanY (zD ⟨(N : Int),-(k : Int)⟩ (yD j))).sc 47 = y) :
    (y * (if (j + j % 2) % 4 = 0 then sumK x else sumS x) - 10 ^ 47 * (if (j + j % 2) % 4 = 0 then sumS x else -sumK x)).natAbs ≤ 10 ^ 74 ∧ y.natAbs ≤ 10 ^ 48 ∧ (sumK x).natAbs ≤ 3 * 10 ^ 40 :=by
  have hj12 :=small_angle hN hj
  obtain ⟨y1,y2,y3,y4⟩ :=yD_facts hj12
  obtain ⟨q1,q2,q3,q4⟩ :=zD_bound hk hN hj
  have hok :=okA_all hj12
  have hS : (⟨(N : Int),-(k : Int)⟩ : Dc).sc 31 = (N : Int) * ((10 ^ (31 - k) : Nat) : Int) :=by
    unfold Dc.sc
    simp only
    rw [show (-(k : Int) + (31 : Nat)).toNat = 31 - k by omega]
  obtain ⟨Z,hZ⟩ : ∃ Z,zD ⟨(N : Int),-(k : Int)⟩ (yD j) = Z :=⟨_,rfl⟩
  rw [hZ] at q1 q2 q3 hy
  have hx1 : x = 1000000000 * (Z.sc 31 + ((j + j % 2 : Nat) : Int) * c31) :=by
    rw [← hx,q2,hS,show p4 = c31 from p4_eq,Int.sub_add_cancel,show 40 - k = (31 - k) + 9 by omega,← ten_add]
    have : ((10 ^ 9 : Nat) : Int) = 1000000000 :=by decide
    rw [this]
    grind
  have hx2 : x.natAbs ≤ 10 * D40 :=by rw [← hx];exact x_le N k hk hN
  have hC :=sumK_le q1 hok hx1 hx2
  cases hG : tanG (Z.mul Z)
  · obtain ⟨s1,s2,-⟩ :=tanY_sc0 Z (by omega) (by omega) hG
    rw [hy] at s1
    have e1 : y * 10 ^ 256 = 10 ^ 16 * (Z.sc 31 * 10 ^ 256) + Z.sc 31 * 0 :=by rw [s1];grind
    exact ⟨tan_near R24_le s2 okP_angle hok hx1 hx2 (pol0_ev _) (pol1_ev _) ten256.1 ten256.2 (n287 s2) e1 (by rw [Int.natAbs_zero];omega),y_le ten256.1 ten256.2 (n287 s2) q1 e1 (by rw [Int.natAbs_zero];omega),hC⟩
  · obtain ⟨r,s1,s2,-⟩ :=tanY_sc Z (by omega) (by omega) q1 hG
    rw [hy] at s1
    exact ⟨tan_near (Nat.le_refl _) q1 okP_quot hok hx1 hx2 rfl rfl (X_low q1) (X_high q1) (N_high q1) s1 s2,y_le (X_low q1) (X_high q1) (N_high q1) q1 s1 s2,hC⟩
theorem down_tan {m C S P Q : Int} (hQ : 0 < Q) (h : 10 ^ 12 * ((m * Q * C - P * Q * S).natAbs : Int) * (P * Q) ≤ (P * Q * (P * Q) + m * Q * (m * Q)) * 10 ^ 40) : 10 ^ 12 * ((m * C - P * S).natAbs : Int) * P ≤ (P * P + m * m) * 10 ^ 40 :=by
  have e1 : m * Q * C - P * Q * S = Q * (m * C - P * S) :=by grind
  rw [e1,Int.natAbs_mul,Int.natCast_mul,Int.natAbs_of_nonneg (Int.le_of_lt hQ)] at h
  generalize ((m * C - P * S).natAbs : Int) = D at *
  have e2 : 10 ^ 12 * (Q * D) * (P * Q) = Q * Q * (10 ^ 12 * D * P) :=by grind
  have e3 : (P * Q * (P * Q) + m * Q * (m * Q)) * 10 ^ 40 = Q * Q * ((P * P + m * m) * 10 ^ 40) :=by grind
  rw [e2,e3] at h
  exact Int.le_of_mul_le_mul_left h (Int.mul_pos hQ hQ)
theorem sq_nonneg' (a : Int) : 0 ≤ a * a :=by
  rcases Int.le_total 0 a with h | h
  · exact Int.mul_nonneg h h
  · exact Int.mul_nonneg_of_nonpos_of_nonpos h h
theorem law_one {y C S : Int} (h : (y * C - 10 ^ 47 * S).natAbs ≤ 10 ^ 74) : 10 ^ 12 * ((y * C - 10 ^ 47 * S).natAbs : Int) * 10 ^ 47 ≤ (10 ^ 47 * 10 ^ 47 + y * y) * 10 ^ 40 :=by
  generalize (y * C - 10 ^ 47 * S).natAbs = D at *
  have :=sq_nonneg' y
  generalize y * y = u at *
  omega
theorem law_end {a t D g u v : Nat} (ha : 0 < a) (ha2 : a ≤ 10 ^ 48) (hu : a * D = u) (_hv : t * a = v) (hg : a * (10 ^ 32 + t * t) = g) (h1 : 2 * u ≤ a * (3 * 10 ^ 40) + 2 * 10 ^ 90) (h2 : 2 * 10 ^ 63 ≤ 2 * v + a) (h3 : 2 * 10 ^ 16 * v ≤ g) : 10 ^ 12 * D * 10 ^ 16 ≤ (10 ^ 32 + t * t) * 10 ^ 40 :=by
  have h4 : 10 ^ 28 * u ≤ 10 ^ 40 * g :=by omega
  have e1 : 10 ^ 28 * u = a * (10 ^ 12 * D * 10 ^ 16) :=by rw [← hu];grind
  have e2 : 10 ^ 40 * g = a * ((10 ^ 32 + t * t) * 10 ^ 40) :=by rw [← hg];grind
  rw [e1,e2] at h4
  exact Nat.le_of_mul_le_mul_left h4 ha
theorem am_gm (t : Nat) : 2 * 10 ^ 16 * t ≤ 10 ^ 32 + t * t :=by
  have h :=sq_nonneg' ((10 : Int) ^ 16 - t)
  have e : ((10 : Int) ^ 16 - t) * ((10 : Int) ^ 16 - t) = 10 ^ 32 + t * t - 2 * 10 ^ 16 * t :=by grind
  rw [e,← Int.natCast_mul] at h
  generalize t * t = s at *
  omega
theorem law_two {t y C S : Int} (hy : y ≠ 0) (hy2 : y.natAbs ≤ 10 ^ 48) (hC : C.natAbs ≤ 3 * 10 ^ 40) (h : (y * S - 10 ^ 47 * -C).natAbs ≤ 10 ^ 74) (ht : 2 * (t * y - 10 ^ 16 * -10 ^ 47).natAbs ≤ y.natAbs) : 10 ^ 12 * ((t * C - 10 ^ 16 * S).natAbs : Int) * 10 ^ 16 ≤ (10 ^ 16 * 10 ^ 16 + t * t) * 10 ^ 40 :=by
  have id : y * (t * C - 10 ^ 16 * S) = (t * y - 10 ^ 16 * -10 ^ 47) * C - 10 ^ 16 * (y * S - 10 ^ 47 * -C) :=by grind
  have h1 : 2 * (y.natAbs * (t * C - 10 ^ 16 * S).natAbs) ≤ y.natAbs * (3 * 10 ^ 40) + 2 * 10 ^ 90 :=by
    rw [← Int.natAbs_mul,id]
    have a1 : 2 * ((t * y - 10 ^ 16 * -10 ^ 47) * C).natAbs ≤ y.natAbs * (3 * 10 ^ 40) :=by
      rw [Int.natAbs_mul,← Nat.mul_assoc]
      exact Nat.mul_le_mul ht hC
    have a2 : (10 ^ 16 * (y * S - 10 ^ 47 * -C)).natAbs ≤ 10 ^ 90 :=by
      rw [Int.natAbs_mul]
      exact Nat.le_trans (Nat.mul_le_mul_left _ h) (by decide +kernel)
    omega
  have h2 : 2 * 10 ^ 63 ≤ 2 * (t.natAbs * y.natAbs) + y.natAbs :=by
    rw [← Int.natAbs_mul]
    generalize t * y = q at *
    omega
  have h3 :=Nat.mul_le_mul_left y.natAbs (am_gm t.natAbs)
  have h5 :=law_end (a :=y.natAbs) (t :=t.natAbs) (D :=(t * C - 10 ^ 16 * S).natAbs) (by omega) hy2 rfl rfl rfl h1 h2 (Nat.le_trans (Nat.le_of_eq (by grind)) h3)
  have e1 : t * t = ((t.natAbs * t.natAbs : Nat) : Int) :=by rw [Int.natCast_mul,Int.natAbs_mul_self']
  rw [e1]
  generalize t.natAbs * t.natAbs = s at *
  generalize (t * C - 10 ^ 16 * S).natAbs = D at *
  omega
theorem tan_pos (N k : Nat) (hk : k ≤ 18) (hN : N < 10 ^ (k + 1)) (h0 : N ≠ 0) : 10 ^ 12 * (((tanR (N : Int) k).m * sumK ((N : Int) * ((10 ^ (40 - k) : Nat) : Int)) - ((10 ^ (-(tanR (N : Int) k).e).toNat : Nat) : Int) * sumS ((N : Int) * ((10 ^ (40 - k) : Nat) : Int))).natAbs : Int) * ((10 ^ (-(tanR (N : Int) k).e).toNat : Nat) : Int) ≤ (((10 ^ (-(tanR (N : Int) k).e).toNat : Nat) : Int) * ((10 ^ (-(tanR (N : Int) k).e).toNat : Nat) : Int) + (tanR (N : Int) k).m * (tanR (N : Int) k).m) * 10 ^ 40 :=by
  obtain ⟨j,hj⟩ : ∃ j,N * 12732395447351625 / 10 ^ (k + 16) = j :=⟨_,rfl⟩
  obtain ⟨x,hx⟩ : ∃ x,(N : Int) * ((10 ^ (40 - k) : Nat) : Int) = x :=⟨_,rfl⟩
  obtain ⟨y,hy⟩ : ∃ y,(tanY (zD ⟨(N : Int),-(k : Int)⟩ (yD j))).sc 47 = y :=⟨_,rfl⟩
  obtain ⟨c1,c2,c3⟩ :=tan_core hk hN hj hx hy
  obtain ⟨q1,q2,q3,q4⟩ :=zD_bound hk hN hj
  obtain ⟨y1,y2,y3,y4⟩ :=yD_facts (small_angle hN hj)
  have hne :=fun h4 => tanY_ne _ (by omega) (by omega) q1 (z_ne hk hN hj h4)
  obtain ⟨b1,b2,b3⟩ :=tanY_bd _ q4 (by omega) (by omega) q1
  have hd : decide ((N : Int) < 0) = false :=decide_eq_false (by omega)
  have hj' : (N : Int).natAbs * 12732395447351625 / 10 ^ (k + 16) = j :=by rw [Int.natAbs_natCast];exact hj
  have hR : tanR (N : Int) k = if (j + j % 2) % 4 = 2 then (⟨-1,0⟩ : Dc).div (tanY (zD ⟨(N : Int),-(k : Int)⟩ (yD j))) else tanY (zD ⟨(N : Int),-(k : Int)⟩ (yD j)) :=by
    unfold tanR
    rw [if_neg (by omega)]
    unfold tanOf
    simp only
    rw [hj',Int.natAbs_natCast,hd]
    rfl
  rw [hR,hx]
  obtain ⟨Y,hY⟩ : ∃ Y,tanY (zD ⟨(N : Int),-(k : Int)⟩ (yD j)) = Y :=⟨_,rfl⟩
  rw [hY] at hne b1 b2 b3 hy ⊢
  have hpar : (j + j % 2) % 4 = 0 ∨ (j + j % 2) % 4 = 2 :=by omega
  rcases hpar with h | h
  · rw [if_neg (by omega)]
    rw [if_pos h,if_pos h] at c1
    refine down_tan (Q :=((10 ^ (Y.e + (47 : Nat)).toNat : Nat) : Int)) (Int.natCast_pos.2 (Nat.pow_pos (by decide))) ?_
    rw [ten_add,show (-Y.e).toNat + (Y.e + (47 : Nat)).toNat = 47 by omega,show Y.m * ((10 ^ (Y.e + (47 : Nat)).toNat : Nat) : Int) = y from hy,show ((10 ^ 47 : Nat) : Int) = 10 ^ 47 by decide]
    exact law_one c1
  · rw [if_pos h]
    rw [if_neg (by omega),if_neg (by omega)] at c1
    have hm :=hne h
    have hs :=div_sc ⟨-1,0⟩ Y 47 hm (by simp only;omega) (by omega) (by simp only;omega)
    rw [hy,show (⟨-1,0⟩ : Dc).sc 47 = -10 ^ 47 by decide] at hs
    have hy0 : y ≠ 0 :=by
      rw [← hy]
      unfold Dc.sc
      exact Int.mul_ne_zero hm (by have :=Nat.pow_pos (n :=(Y.e + (47 : Nat)).toNat) (show 0 < 10 by decide);omega)
    have he : ((10 ^ (-((⟨-1,0⟩ : Dc).div Y).e).toNat : Nat) : Int) = 10 ^ 16 :=by
      rw [show ((⟨-1,0⟩ : Dc).div Y).e = -16 from rfl]
      decide
    rw [he]
    exact law_two hy0 c2 c3 c1 hs
def tanA (N k : Nat) : Dc :=if (N * 12732395447351625 / 10 ^ (k + 16) + N * 12732395447351625 / 10 ^ (k + 16) % 2) % 4 = 2 then (⟨-1,0⟩ : Dc).div (tanY (zD ⟨(N : Int),-(k : Int)⟩ (yD (N * 12732395447351625 / 10 ^ (k + 16))))) else tanY (zD ⟨(N : Int),-(k : Int)⟩ (yD (N * 12732395447351625 / 10 ^ (k + 16))))
theorem tanOf_eq (X : Int) (k : Nat) : tanOf X k = if decide (X < 0) then (tanA X.natAbs k).neg else tanA X.natAbs k :=by
  unfold tanOf tanA
  rfl
theorem neg_neg' (R : Dc) : R.neg.neg = R :=by
  cases R
  simp [Dc.neg]
theorem if_flip (R : Dc) (X : Int) (h0 : X ≠ 0) : (if decide (-X < 0) then R.neg else R) = (if decide (X < 0) then R.neg else R).neg :=by
  by_cases hp : X < 0
  · rw [decide_eq_true hp,decide_eq_false (show ¬ -X < 0 by omega)]
    exact (neg_neg' R).symm
  · rw [decide_eq_false hp,decide_eq_true (show -X < 0 by omega)]
    rfl
theorem tanR_of {X : Int} (k : Nat) (h0 : X ≠ 0) : tanR X k = if decide (X < 0) then (tanA X.natAbs k).neg else tanA X.natAbs k :=(if_neg h0).trans (tanOf_eq X k)
theorem tanR_opp {X : Int} (k : Nat) (h0 : X ≠ 0) : tanR (-X) k = (tanR X k).neg :=by
  have h :=tanR_of (X :=-X) k (by omega)
  rw [Int.natAbs_neg] at h
  exact h.trans ((if_flip (tanA X.natAbs k) X h0).trans (congrArg Dc.neg (tanR_of k h0).symm))
theorem tanR_neg (X : Int) (k : Nat) : tanR (-X) k = if X = 0 then tanR X k else (tanR X k).neg :=by
  by_cases h0 : X = 0
  · rw [if_pos h0,h0]
    rfl
  · rw [if_neg h0]
    exact tanR_opp k h0
theorem tanR_m (X : Int) (k : Nat) : (tanR (-X) k).m = -(tanR X k).m ∧ (tanR (-X) k).e = (tanR X k).e :=by
  rw [tanR_neg]
  split
  · next h => rw [h];exact ⟨rfl,rfl⟩
  · exact ⟨rfl,rfl⟩
theorem sumK_neg (x : Int) : sumK (-x) = sumK x :=by
  unfold sumK
  refine sumTo_congr fun n _ => ?_
  rw [part_neg]
  by_cases h : n % 2 = 0
  · rw [if_pos h,Int.one_mul]
  · have : sgC n = 0 :=by
      unfold sgC
      have h4 : n % 4 = 1 ∨ n % 4 = 3 :=by omega
      rcases h4 with h4 | h4 <;> rw [h4] <;> rfl
    rw [this,Int.zero_mul,Int.zero_mul]
theorem tanR_law (X : Int) (k : Nat) (hk : k ≤ 18) (hN : X.natAbs < 10 ^ (k + 1)) : 10 ^ 12 * (((tanR X k).m * sumK (X * ((10 ^ (40 - k) : Nat) : Int)) - ((10 ^ (-(tanR X k).e).toNat : Nat) : Int) * sumS (X * ((10 ^ (40 - k) : Nat) : Int))).natAbs : Int) * ((10 ^ (-(tanR X k).e).toNat : Nat) : Int) ≤ (((10 ^ (-(tanR X k).e).toNat : Nat) : Int) * ((10 ^ (-(tanR X k).e).toNat : Nat) : Int) + (tanR X k).m * (tanR X k).m) * 10 ^ 40 :=by
  by_cases h0 : X = 0
  · subst h0
    have hs : sumS 0 = 0 :=by have :=sumS_neg 0;rw [Int.neg_zero] at this;omega
    have hm : (tanR 0 k).m = 0 :=rfl
    rw [Int.zero_mul,hs,hm,Int.zero_mul,Int.mul_zero,Int.sub_zero,Int.natAbs_zero]
    have :=sq_nonneg' ((10 ^ (-(tanR 0 k).e).toNat : Nat) : Int)
    generalize ((10 ^ (-(tanR 0 k).e).toNat : Nat) : Int) = P at *
    generalize P * P = u at *
    simp only [Int.natCast_zero,Int.mul_zero,Int.zero_mul,Int.add_zero]
    omega
  · by_cases hn : 0 ≤ X
    · have :=tan_pos X.natAbs k hk hN (by omega)
      rw [Int.natAbs_of_nonneg hn] at this
      exact this
    · have h :=tan_pos X.natAbs k hk hN (by omega)
      rw [show (X.natAbs : Int) = -X by omega,(tanR_m X k).1,(tanR_m X k).2,Int.neg_mul X,sumS_neg,sumK_neg] at h
      generalize ((10 ^ (-(tanR X k).e).toNat : Nat) : Int) = P at *
      generalize (tanR X k).m = m at *
      generalize sumK (X * ((10 ^ (40 - k) : Nat) : Int)) = C at *
      generalize sumS (X * ((10 ^ (40 - k) : Nat) : Int)) = S at *
      rw [show -m * C - P * -S = -(m * C - P * S) by grind,Int.natAbs_neg,show -m * -m = m * m by grind] at h
      exact h
theorem tanR_bd (X : Int) (k : Nat) (hk : k ≤ 18) (hN : X.natAbs < 10 ^ (k + 1)) : (tanR X k).m.natAbs < 10 ^ 500 ∧ -47 ≤ (tanR X k).e ∧ (tanR X k).e ≤ 0 :=by
  by_cases h0 : X = 0
  · subst h0
    refine ⟨?_,?_,?_⟩
    · show (0 : Int).natAbs < _
      exact Nat.pow_pos (by decide)
    · show -47 ≤ -(k : Int)
      omega
    · show -(k : Int) ≤ 0
      omega
  · obtain ⟨j,hj⟩ : ∃ j,X.natAbs * 12732395447351625 / 10 ^ (k + 16) = j :=⟨_,rfl⟩
    obtain ⟨q1,q2,q3,q4⟩ :=zD_bound hk hN hj
    obtain ⟨y1,y2,y3,y4⟩ :=yD_facts (small_angle hN hj)
    obtain ⟨b1,b2,b3⟩ :=tanY_bd _ q4 (by omega) (by omega) q1
    unfold tanR
    rw [if_neg h0]
    unfold tanOf
    simp only
    rw [hj]
    obtain ⟨Y,hY⟩ : ∃ Y,tanY (zD ⟨(X.natAbs : Int),-(k : Int)⟩ (yD j)) = Y :=⟨_,rfl⟩
    rw [hY] at b1 b2 b3 ⊢
    have hR : ∀ R : Dc,R = (if (j + j % 2) % 4 = 2 then (⟨-1,0⟩ : Dc).div Y else Y) → Bd R 330 ∧ -47 ≤ R.e ∧ R.e ≤ 0 :=by
      intro R hR
      split at hR
      · have d1 : Bd (⟨-1,0⟩ : Dc) 1 :=by unfold Bd;decide
        rw [hR]
        exact ⟨(d1.div (n :=70) (by simp only;omega)).le (by decide),by show -47 ≤ (-16 : Int);decide,by show (-16 : Int) ≤ 0;decide⟩
      · rw [hR]
        exact ⟨b1,b2,by omega⟩
    obtain ⟨r1,r2,r3⟩ :=hR _ rfl
    generalize (if (j + j % 2) % 4 = 2 then (⟨-1,0⟩ : Dc).div Y else Y) = R at *
    have h500 : 10 ^ 330 < 10 ^ 500 :=Nat.pow_lt_pow_right (by decide) (by decide)
    split
    · refine ⟨?_,r2,r3⟩
      show (-R.m).natAbs < _
      rw [Int.natAbs_neg]
      exact Nat.lt_of_le_of_lt r1 h500
    · exact ⟨Nat.lt_of_le_of_lt r1 h500,r2,r3⟩
end Go.Proofs.YtfmmdamgcpiciaaGreatDoor
namespace Go.Proofs.YtfmmdamgcpiciaaGreatDoor
open Go Go.RowKit
theorem tan_zero (w : World) (hg : Glob w) (hF : GlobF w) (b : Nat) (e : Int) (hX : IntAt w b 0) : Calls Tryz.prog 47 #[dv b e] w fun r w' => r = .returned (dv b e) ∧ Kept w w' :=by
  have F :=(Fm.start hg hF).old hX
  have hz : ∀ W,IntAt W b 0 → Calls Tryz.prog 64 #[dv b e] W fun r w' => r = .returned (.bool true) ∧ Kept W w' :=fun W hW => by
    have :=dec_isZero W b e 0 hW
    rw [decide_eq_true rfl] at this;exact this
  go_enter Tryz.func47,Tryz.ntmps47
  go_wp2_with (first
    | (go_at_call 60;(refine (dec_pi4A _ ((hF.kept (boxK w _ _)).kept (boxK _ _ _))).mono ?_);rintro r w1 ⟨b1,rfl,n1,k1⟩;have F :=((F.box (ptr b) (.int .i32 e)).box (.pointer none) (.int .i32 0)).new n1 k1)
    | (go_at_call 61;(refine (dec_pi4B _ F.globF).mono ?_);rintro r w2 ⟨b2,rfl,n2,k2⟩;replace F :=F.new n2 k2)
    | (go_at_call 62;(refine (dec_pi4C _ F.globF).mono ?_);rintro r w3 ⟨b3,rfl,n3,k3⟩;replace F :=F.new n3 k3)
    | (go_at_call 63;(refine (dec_m4PI _ F.globF).mono ?_);rintro r w4 ⟨b4,rfl,n4,k4⟩;replace F :=((((F.new n4 k4).box (ptr b1) (.int .i32 (-16))).box (ptr b2) (.int .i32 (-23))).box (ptr b3) (.int .i32 (-31))).box (ptr b4) (.int .i32 (-16));simp only [Box,World.size_alloc] at F;obtain ⟨c0,c1,_,_⟩ :=F.at 5 rfl)
    | (go_at_call 64;(refine (hz _ (F.iat 4 rfl)).mono ?_);rintro r w6 ⟨rfl,k6⟩;replace F :=F.go k6;obtain ⟨c0,c1,_,_⟩ :=F.at 5 rfl;obtain ⟨r0,r1,rf0,rf1⟩ :=F.at 4 rfl;have r2 :=cs_ne (u :=ptr b) r1 (b' :=w.heap.size + 1) (o' :=0) (by omega)))
  have S : Slot w6 (w.heap.size + 1) :=⟨⟨_,r0⟩,⟨_,r1⟩,F.nf (x :=.pointer none) (y :=.int .i32 0) (by simp)⟩
  exact bodyPost_ret (v :=dv b e) (results_dec rfl rfl (put2_0 S _ _) (put2_1 S _ _)) rfl ⟨rfl,F.kept.keptNew (put2_chg _ _ _ _) fun b' _ h => by omega⟩
theorem dec_tan (w : World) (hg : Glob w) (hF : GlobF w) (hd : w.cell? ⟨0,0,none⟩ = some (.int .i64 16)) (b k : Nat) (X e : Int) (hX : IntAt w b X) (hk : k ≤ 18) (hek : e = -(k : Int)) (hN : X.natAbs < 10 ^ (k + 1)) : Calls Tryz.prog 47 #[dv b e] w fun r w' => ∃ b',r = .returned (dv b' (tanR X k).e) ∧ IntAt w' b' (tanR X k).m ∧ Kept w w' :=by
  unfold tanR
  by_cases h0 : X = 0
  · subst h0
    rw [if_pos rfl,← hek]
    refine (tan_zero w hg hF b e hX).mono ?_
    rintro r w' ⟨rfl,k⟩
    exact ⟨b,rfl,hX.kept k,k⟩
  · rw [if_neg h0]
    refine (tan0 w hg hF hd b k X e hX h0 hk hek hN).mono ?_
    rintro r w' ⟨b',rfl,n,k⟩
    exact ⟨b',rfl,n.at,k⟩
theorem tan_catch (p q : Nat) (w : World) : CallsD Tryz.prog 46 #[ptr p,ptr q] .returning w fun e u' w' => e = .returned (.tuple #[]) ∧ u' = .returning ∧ w' = w :=by
  refine callsD_of_wpS Tryz.func46 rfl fun c₀ cs hu => ?_
  apply wpS_seq
  apply wpS_region
  simp [wpOpsS,go_sem,recoverD,hu,Tryz.ntmps46,Exit.thenS]
  refine wpS_cond (t :=false) (by simp [Act.eval,Array.replicate]) ?_
  simp only [Bool.false_eq_true,if_false]
  refine wpS_of_wp (wp_skip ?_)
  cases c₀
  simp_all [bodyPostS,results,Tryz.results46]
theorem impl_tan (w : World) (hg : Glob w) (hF : GlobF w) (hd : w.cell? ⟨0,0,none⟩ = some (.int .i64 16)) (k : Nat) (X e : Int) (hk : k ≤ 18) (hek : e = -(k : Int)) (hN : X.natAbs < 10 ^ (k + 1)) : Calls Tryz.prog 21 #[pd (str (txt X)) e] w fun r w' => r = .returned (.tuple #[pd (str (txt (tanR X k).m)) (tanR X k).e,.int .i64 0]) ∧ Kept w w' :=by
  have hmf : ∀ (fn : Fn) (first cap : Array Value) (w : World),(Instr.makeFunc fn first cap).run Tryz.prog w = .ok (.func fn first cap) w :=fun _ _ _ _ => rfl
  have hp18 : 10 ^ (k + 1) ≤ 10 ^ 19 :=Nat.pow_le_pow_right (by decide) (by omega)
  have hX20 : X.natAbs < 10 ^ 20 :=Nat.lt_of_lt_of_le hN (Nat.le_trans hp18 (by decide))
  have hmade :=fun W => made W X e (Nat.lt_trans hX20 (by decide)) (by omega) (by omega)
  have hmild :=fun W hG => mild W hG X e hX20 (by omega) (by omega) (by
    have e1 : (-e).toNat = k :=by omega
    rw [e1]
    have : 10 ^ (k + 1) = 10 * 10 ^ k :=by rw [Nat.pow_succ,Nat.mul_comm]
    omega)
  have htan :=fun W b (hG : Glob W) (hF : GlobF W) (hD : W.cell? ⟨0,0,none⟩ = some (.int .i64 16)) (h : IntAt W b X) => dec_tan W hG hF hD b k X e h hk hek hN
  obtain ⟨r1,r2,r3⟩ :=tanR_bd X k hk hN
  have hdec :=fun W b (h : IntAt W b (tanR X k).m) => impl_dec W b (tanR X k).e (tanR X k).m h (Nat.lt_trans r1 (Nat.pow_lt_pow_right (by decide) (by decide))) (by omega) (by omega)
  obtain ⟨s,hs⟩ : ∃ s,str (txt X) = .string s :=⟨_,rfl⟩
  obtain ⟨t,ht⟩ : ∃ t,str (txt (tanR X k).m) = .string t :=⟨_,rfl⟩
  obtain ⟨R,hR⟩ : ∃ R,tanR X k = R :=⟨_,rfl⟩
  rw [hs] at hmade hmild ⊢
  rw [ht] at hdec ⊢
  rw [hR] at hdec htan ⊢
  have HG :=Lib.hid (And.intro hg (And.intro hF hd))
  clear hg hF hd hp18 hX20 r1 r2 r3 hN hs ht hR hek
  have ce : ∀ W,Kept (Box23 w (.string s) (.int .i64 e)) W → W.cell? ⟨w.heap.size,1,none⟩ = some (.int .i64 e) ∧ W.cell? ⟨w.heap.size,0,none⟩ = some (.string s) :=fun W k => ⟨Kept.at k (by rw [World.cell?_alloc_at _ _ _ _ rfl];rfl),Kept.at k (by rw [World.cell?_alloc_at _ _ _ _ rfl];rfl)⟩
  have k0 : Kept w (((w.alloc (Obj.cells #[.string s,.int .i64 e] 23)).alloc (Obj.cells #[.string { data :=#[] },.int .i64 0] 23)).alloc (Obj.cells #[.int .i64 0] 3)) :=kt (kt (Chg.alloc _ _ _) (Chg.alloc _ _ _)) (Chg.alloc _ _ _)
  have kb : Kept (Box23 w (.string s) (.int .i64 e)) (((w.alloc (Obj.cells #[.string s,.int .i64 e] 23)).alloc (Obj.cells #[.string { data :=#[] },.int .i64 0] 23)).alloc (Obj.cells #[.int .i64 0] 3)) :=kt (Chg.alloc _ _ _) (Chg.alloc _ _ _)
  have e1 : (Box23 w (.string s) (.int .i64 e)).heap.size = w.heap.size + 1 :=by simp
  have S0 : Slot (((w.alloc (Obj.cells #[.string s,.int .i64 e] 23)).alloc (Obj.cells #[.string { data :=#[] },.int .i64 0] 23)).alloc (Obj.cells #[.int .i64 0] 3)) (w.heap.size + 1) :=by
    have :=(slot23 (Box23 w (.string s) (.int .i64 e)) (.string { data :=#[] }) (.int .i64 0)).kept (Chg.alloc _ (Obj.cells #[.int .i64 0] 3) None2)
    rw [e1] at this;exact this
  have z0 : (((w.alloc (Obj.cells #[.string s,.int .i64 e] 23)).alloc (Obj.cells #[.string { data :=#[] },.int .i64 0] 23)).alloc (Obj.cells #[.int .i64 0] 3)).cell? ⟨w.heap.size + 2,0,none⟩ = some (.int .i64 0) :=by
    rw [World.cell?_alloc_at _ _ _ _ (by simp)];rfl
  have zf : NF (((w.alloc (Obj.cells #[.string s,.int .i64 e] 23)).alloc (Obj.cells #[.string { data :=#[] },.int .i64 0] 23)).alloc (Obj.cells #[.int .i64 0] 3)) (w.heap.size + 2) :=by
    have :=NF.made ((w.alloc (Obj.cells #[.string s,.int .i64 e] 23)).alloc (Obj.cells #[.string { data :=#[] },.int .i64 0] 23)) #[.int .i64 0] 3
    simpa using this
  have zl :=lt_of_cell z0
  obtain ⟨W0,hW0⟩ : ∃ W,(((w.alloc (Obj.cells #[.string s,.int .i64 e] 23)).alloc (Obj.cells #[.string { data :=#[] },.int .i64 0] 23)).alloc (Obj.cells #[.int .i64 0] 3)) = W :=⟨_,rfl⟩
  rw [hW0] at k0 kb S0 z0 zf zl
  have HW :=Lib.hid hW0
  clear hW0
  go_enter_defers Tryz.func21,Tryz.ntmps21
  go_wp2_with (first
    | (go_at_call 29;rw [HW.out];refine (hmade _).mono ?_;rintro r w1 ⟨b,rfl,hb,k1⟩;have kr :=kt k1 (boxK w1 (ptr b) (.int .i32 e));obtain ⟨c1,c0⟩ :=ce _ (kt kb kr))
    | (go_at_call 30;refine (hmild _ (HG.out.1.kept (kt k0 kr))).mono ?_;rintro r w3 ⟨rfl,k3⟩;replace kr :=kt kr k3;have d0 :=Kept.at k3 (box0 w1 (ptr b) (.int .i32 e));have d1 :=Kept.at k3 (box1 w1 (ptr b) (.int .i32 e)))
    | (go_at_call 47;refine (htan _ b (HG.out.1.kept (kt k0 kr)) (HG.out.2.1.kept (kt k0 kr)) (Kept.at (kt k0 kr) HG.out.2.2) ((hb.at.kept (boxK _ _ _)).kept k3)).mono ?_;rintro r w4 ⟨b4,rfl,n4,k4⟩;replace kr :=kt kr k4)
    | (go_at_call 31;refine (hdec _ b4 n4).mono ?_;rintro r w5 ⟨rfl,k5⟩;replace kr :=kt kr k5;have S :=S0.kept kr;obtain ⟨⟨u0,s0⟩,⟨u1,s1⟩,sf⟩ :=id S;have f0 :=sf 0;have f1 :=sf 1;have s2 :=cs_ne (u :=.string t) s1 (b' :=w.heap.size + 1) (o' :=0) (by omega);have y0 :=Kept.at kr z0;have yf :=(zf.chg zl kr) 0;have y1 :=cs_ne (u :=.int .i64 R.e) (cs_ne (u :=.string t) y0 (b' :=w.heap.size + 1) (o' :=0) (by omega)) (b' :=w.heap.size + 1) (o' :=1) (by omega)))
  refine leaves_cons (f :=46) (args :=#[ptr (w.heap.size + 1),ptr (w.heap.size + 1 + 1)]) (by simp) (by simp [go_sem]) ?_
  refine (tan_catch _ _ _).mono ?_
  rintro e' u' w'' ⟨rfl,rfl,rfl⟩
  have p0 :=cs_ne (u :=.int .i64 0) (put2_0 S (.string t) (.int .i64 R.e)) (b' :=w.heap.size + 1 + 1) (o' :=0) (by omega)
  have p1 :=cs_ne (u :=.int .i64 0) (put2_1 S (.string t) (.int .i64 R.e)) (b' :=w.heap.size + 1 + 1) (o' :=0) (by omega)
  have p2 :=cell_setCell_eq (v :=.int .i64 0) y1
  refine ⟨_,results_pd_int (t :=2) (u :=3) (r :=w.heap.size + 1) (q :=w.heap.size + 1 + 1) rfl rfl rfl p0 p1 p2,rfl,?_⟩
  exact ((kt k0 kr).keptNew (put2_chg _ _ _ _) fun b' _ h => by omega).keptNew (Chg.setCell _ (w.heap.size + 1 + 1) 0 _ (fun b' _ => b' = w.heap.size + 1 + 1) fun _ => rfl) fun b' _ h => by omega
end Go.Proofs.YtfmmdamgcpiciaaGreatDoor
namespace Go.Proofs.YtfmmdamgcpiciaaGreatDoor
open Go Go.RowKit
theorem near_tan {m C S : Int} {P : Nat} (h : 10 ^ 12 * ((m * C - (P : Int) * S).natAbs : Int) * (P : Int) ≤ ((P : Int) * (P : Int) + m * m) * 10 ^ 40) : cmpZ (((C * m * ((10 ^ 40 * 1 : Nat) : Int) - S * 1 * ((10 ^ 40 * P : Nat) : Int)).natAbs : Int) * ((1 * (P * P) * 10 ^ 12 : Nat) : Int)) ((1 * ((P * P : Nat) : Int) + m * m * ((1 : Nat) : Int)) * 1 * ((10 ^ 40 * P * (10 ^ 40 * 1) : Nat) : Int)) ≤ 0 :=by
  have e1 : C * m * ((10 ^ 40 * 1 : Nat) : Int) - S * 1 * ((10 ^ 40 * P : Nat) : Int) = 10 ^ 40 * (m * C - (P : Int) * S) :=by
    rw [Int.natCast_mul,Int.natCast_mul,show ((10 ^ 40 : Nat) : Int) = 10 ^ 40 by decide]
    grind
  rw [e1,Int.natAbs_mul,Int.natCast_mul,show (((10 : Int) ^ 40).natAbs : Int) = 10 ^ 40 by decide]
  generalize ((m * C - (P : Int) * S).natAbs : Int) = D at *
  have h2 :=Int.mul_le_mul_of_nonneg_right h (show (0 : Int) ≤ (P : Int) * 10 ^ 40 from Int.mul_nonneg (Int.natCast_nonneg P) (by decide))
  have e2 : 10 ^ 40 * D * ((1 * (P * P) * 10 ^ 12 : Nat) : Int) = 10 ^ 12 * D * (P : Int) * ((P : Int) * 10 ^ 40) :=by
    rw [Int.natCast_mul,Int.natCast_mul,Int.natCast_mul,show ((10 ^ 12 : Nat) : Int) = 10 ^ 12 by decide]
    grind
  have e3 : (1 * ((P * P : Nat) : Int) + m * m * ((1 : Nat) : Int)) * 1 * ((10 ^ 40 * P * (10 ^ 40 * 1) : Nat) : Int) = ((P : Int) * (P : Int) + m * m) * 10 ^ 40 * ((P : Int) * 10 ^ 40) :=by
    rw [Int.natCast_mul,Int.natCast_mul,Int.natCast_mul,Int.natCast_mul,show ((10 ^ 40 : Nat) : Int) = 10 ^ 40 by decide]
    grind
  rw [e2,e3]
  unfold cmpZ
  split
  · decide
  · split
    · omega
    · decide
theorem fnDecTan_small (w : World) (hg : Glob w) (hF : GlobF w) (hd : w.cell? ⟨0,0,none⟩ = some (.int .i64 16)) (s : ByteArray) (e : Int) (hlen : s.size ≤ 2147483647) : Calls Tryz.prog 4 #[pd (.string s) e] w fun r w' => r = .returned (.bool true) ∧ Kept w w' :=by
  have h5 :=fun W => zzFits W s e hlen
  have h6 :=fun W => arAngle W s e hlen
  have k0 : Kept w (w.alloc (.cells #[.string s,.int .i64 e] 23)) :=Chg.alloc _ _ _
  have P1 :=PC.made w (.string s) (.int .i64 e)
  obtain ⟨W,hW⟩ : ∃ W,w.alloc (.cells #[.string s,.int .i64 e] 23) = W :=⟨_,rfl⟩
  rw [hW] at P1 k0
  have HW :=Lib.hid hW
  have HG :=Lib.hid (And.intro hg (And.intro hF hd))
  clear hW hg hF hd hlen
  obtain ⟨b0,b1,bf⟩ :=id P1
  go_enter Tryz.func4,Tryz.ntmps4
  go_upto_region 1 with fail
  rw [HW.out]
  go_upto_region 4 with (first
    | (go_at_call 5;(with_reducible refine (h5 _).mono ?_);rintro r w1 ⟨rfl,p1⟩;obtain ⟨u0,u1,uf⟩ :=P1.kept p1)
    | (go_at_call 6;(with_reducible refine (h6 _).mono ?_);rintro r w2 ⟨⟨Y,k,hk,hY,fv,rfl,s1,n1,c1,s2,n2,c2,rfl,d1,d2⟩,p2⟩;obtain ⟨d,hd⟩ : ∃ b,decide (Y < 0) = b :=⟨_,rfl⟩;rw [hd];obtain ⟨sY,hsY⟩ : ∃ s,str (txt Y) = .string s :=⟨_,rfl⟩;rw [hsY];obtain ⟨E,hE⟩ : ∃ E : Int,-(k : Int) = E :=⟨_,rfl⟩;rw [hE];have P2 :=P1.kept (kt p1 p2);obtain ⟨v0,v1,vf⟩ :=id P2;have f0 :=vf 0;have f1 :=vf 1;have v2 :=cs_ne (u :=.string sY) v1 (b' :=w.heap.size) (o' :=0) (by omega);have hb : w.heap.size < w2.heap.size :=lt_of_cell v0;have P3 :=P2.kept (Chg.alloc w2 (.cells #[.bool false,.slice none 0 0,.slice none 0 0] 30) None2);obtain ⟨x0,x1,xf⟩ :=id P3;have g0 :=xf 0;have g1 :=xf 1;have x2 :=cs_ne (u :=.string sY) x1 (b' :=w.heap.size) (o' :=0) (by omega)))
  obtain ⟨W4,hW4⟩ : ∃ W,((w2.setCell ⟨w.heap.size,0,none⟩ (.string sY)).setCell ⟨w.heap.size,1,none⟩ (.int .i64 E)).alloc (.cells #[.bool d,.slice s1 n1 c1,.slice s2 n2 c2] 30) = W :=⟨_,rfl⟩
  have q1 :=put2_chg w2 w.heap.size (.string sY) (.int .i64 E)
  have q2 : Kept (put2 w2 w.heap.size (.string sY) (.int .i64 E)) W4 :=hW4 ▸ Chg.alloc _ _ _
  have P4 : PC W4 w.heap.size (.string sY) (.int .i64 E) :=(PC.put P2.slot _ _).kept q2
  have eS : (put2 w2 w.heap.size (.string sY) (.int .i64 E)).heap.size = w2.heap.size :=by simp
  have C4 :=box3_cells (put2 w2 w.heap.size (.string sY) (.int .i64 E)) (.bool d) (.slice s1 n1 c1) (.slice s2 n2 c2) 30
  rw [hW4,eS] at C4
  have D1 :=(d1.setN v0 (fun _ _ h => by cases h) q1).kept q2
  have D2 :=(d2.setN v0 (fun _ _ h => by cases h) q1).kept q2
  have K4 : Kept w W4 :=kt ((kt k0 (kt p1 p2)).keptNew q1 fun b' _ h => by omega) q2
  have F4 : FV W4 (.agg #[.bool d,.slice s1 n1 c1,.slice s2 n2 c2]) Y (10 ^ k) :=⟨s1,n1,c1,s2,n2,c2,by rw [hd],D1,D2⟩
  rw [hW4]
  clear hW4 q1 q2 eS D1 D2 d1 d2 v0 v1 v2 vf f0 f1 x0 x1 x2 xf g0 g1 P2 P3 p1 p2 u0 u1 uf b0 b1 bf P1 HW k0 h5 h6
  obtain ⟨hg,hF,hcd⟩ :=HG.out
  have hkE : E = -(k : Int) :=hE.symm
  obtain ⟨m,hm⟩ : ∃ m,(tanR Y k).m = m :=⟨_,rfl⟩
  obtain ⟨kO,hkO⟩ : ∃ q : Nat,(-(tanR Y k).e).toNat = q :=⟨_,rfl⟩
  obtain ⟨z1,z2,z3⟩ :=tanR_bd Y k hk hY
  rw [hm] at z1
  have hm999 : m.natAbs < 10 ^ 999 :=Nat.lt_trans z1 (Nat.pow_lt_pow_right (by decide) (by decide))
  obtain ⟨eO,heO⟩ : ∃ e : Int,(tanR Y k).e = e :=⟨_,rfl⟩
  have heO2 : eO = -(kO : Int) :=by rw [← heO,← hkO];omega
  have hkO2 : kO ≤ 47 :=by rw [← hkO];omega
  have h7 : ∀ W',Kept W4 W' → Calls Tryz.prog 21 #[pd (str (txt Y)) E] W' fun r w' => r = .returned (.tuple #[pd (str (txt m)) eO,.int .i64 0]) ∧ Kept W' w' :=fun W' k' => by
    have :=impl_tan W' (hg.kept (kt K4 k')) (hF.kept (kt K4 k')) (Kept.at (kt K4 k') hcd) k Y E hk hkE hY
    rw [hm,heO] at this
    exact this
  have h7b : ∀ W',Kept W4 W' → Calls Tryz.prog 21 #[pd (str (txt (-Y))) E] W' fun r w' => r = .returned (.tuple #[pd (str (txt (-m))) eO,.int .i64 0]) ∧ Kept W' w' :=fun W' k' => by
    have :=impl_tan W' (hg.kept (kt K4 k')) (hF.kept (kt K4 k')) (Kept.at (kt K4 k') hcd) k (-Y) E hk hkE (by rw [Int.natAbs_neg];exact hY)
    rw [(tanR_m Y k).1,(tanR_m Y k).2,hm,heO] at this
    exact this
  have hY999 : Y.natAbs < 10 ^ 999 :=Nat.lt_of_lt_of_le hY (Nat.pow_le_pow_right (by decide) (by omega))
  have h9 :=fun W' => toRD (decIn W' Y E hY999)
  have h10 : ∀ W' b s n c,Hid (WV W' (.agg #[.bool b,.slice s n c]) Y) → Calls Tryz.prog 10 #[.agg #[.bool b,.slice s n c]] W' (RW W' (-Y)) :=fun W' b s n c h => toRW (wholeMinus W' _ Y h.out)
  have h8 : ∀ W' b s n c,Hid (WV W' (.agg #[.bool b,.slice s n c]) (-Y)) → Calls Tryz.prog 8 #[.agg #[.bool b,.slice s n c,.int .i64 E]] W' fun r w' => r = .returned (pd (str (txt (-Y))) E) ∧ Kept W' w' :=fun W' b s n c h => by
    obtain ⟨rfl,hd⟩ :=h.out.nv
    exact decOut W' _ (-Y) E ⟨s,n,c,rfl,hd⟩ (by rw [Int.natAbs_neg];exact Nat.lt_of_lt_of_le hY999 (Nat.pow_le_pow_right (by decide) (by decide)))
  have hlaw :=tanR_law Y k hk hY
  rw [hm,hkO] at hlaw
  obtain ⟨sN,hsN⟩ : ∃ s,str (txt (-Y)) = .string s :=⟨_,rfl⟩
  obtain ⟨sO,hsO⟩ : ∃ s,str (txt m) = .string s :=⟨_,rfl⟩
  obtain ⟨sB,hsB⟩ : ∃ s,str (txt (-m)) = .string s :=⟨_,rfl⟩
  have h12 : ∀ W',Calls Tryz.prog 12 #[pd (.string sO) eO] W' fun r w' => r = .returned (.bool true) ∧ Kept W' w' :=fun W' => by
    have :=sound W' m eO hm999 (by omega) (by omega)
    rw [hsO] at this;exact this
  have h14 : ∀ W',Calls Tryz.prog 14 #[pd (.string sO) eO] W' (RF W' m (10 ^ kO)) :=fun W' => toRF (by
    have :=fracOf W' m kO hm999 (by omega)
    rw [hsO,← heO2] at this;exact this)
  obtain ⟨PO,hPO⟩ : ∃ q,10 ^ kO = q :=⟨_,rfl⟩
  rw [hPO] at h14 hlaw
  have hPO2 : PO < 10 ^ 48 :=by rw [← hPO];exact Nat.pow_lt_pow_right (by decide) (by omega)
  have hsm :=(Sm.of m.natAbs 999 hm999 (by decide)).2
  have hsP :=(Sm.of PO 48 hPO2 (by decide)).2
  have sm : ∀ {a : Nat} (p : Nat),a < 10 ^ p → p ≤ 3000 → Sm a :=fun p h h' => (Sm.of _ p h h').2
  have mulB : ∀ {a b : Nat} {p q : Nat},a < 10 ^ p → b < 10 ^ q → a * b < 10 ^ (p + q) :=fun h h' => by rw [Nat.pow_add];exact Nat.mul_lt_mul'' h h'
  have h15 : ∀ W' b s n c s2 n2 c2,Hid (FV W' (.agg #[.bool b,.slice s n c,.slice s2 n2 c2]) m PO) → Calls Tryz.prog 15 #[.agg #[.bool b,.slice s n c,.slice s2 n2 c2]] W' (RF W' (-m) PO) :=fun W' b s n c s2 n2 c2 h => toRF (fracMinus W' _ m PO h.out)
  have h13 : ∀ W' b s n c s2 n2 c2,Hid (FV W' (.agg #[.bool b,.slice s n c,.slice s2 n2 c2]) (-m) PO) → Calls Tryz.prog 13 #[pd (.string sB) eO,.agg #[.bool b,.slice s n c,.slice s2 n2 c2]] W' fun r w' => r = .returned (.bool true) ∧ Kept W' w' :=fun W' b s n c s2 n2 c2 h => by
    have :=says W' (-m) kO _ (-m) PO (by rw [Int.natAbs_neg];exact hm999) (by omega) h.out (by rw [Int.natAbs_neg];exact hsm) hsP (by rw [hPO])
    rw [hsB,← heO2] at this
    exact this
  have h23 : ∀ W',Calls Tryz.prog 23 #[.int .i64 1] W' (RF W' 1 1) :=fun W' => toRF (fracOne W')
  have hsq : ∀ W' b s n c s2 n2 c2 b' s' n' c' s3 n3 c3,Hid (FV W' (.agg #[.bool b,.slice s n c,.slice s2 n2 c2]) m PO) → Hid (FV W' (.agg #[.bool b',.slice s' n' c',.slice s3 n3 c3]) m PO) → Calls Tryz.prog 25 #[.agg #[.bool b,.slice s n c,.slice s2 n2 c2],.agg #[.bool b',.slice s' n' c',.slice s3 n3 c3]] W' (RF W' (m * m) (PO * PO)) :=fun W' b s n c s2 n2 c2 b' s' n' c' s3 n3 c3 g1 g2 => toRF (fracMul W' _ _ m m PO PO g1.out g2.out hsm hsm hsP hsP)
  have q1 : (m * m).natAbs < 10 ^ 1000 :=by rw [Int.natAbs_mul];exact mulB z1 z1
  have q2 : PO * PO < 10 ^ 96 :=mulB hPO2 hPO2
  have h24 : ∀ W' b s n c s2 n2 c2 b' s' n' c' s3 n3 c3,Hid (FV W' (.agg #[.bool b,.slice s n c,.slice s2 n2 c2]) 1 1) → Hid (FV W' (.agg #[.bool b',.slice s' n' c',.slice s3 n3 c3]) (m * m) (PO * PO)) → Calls Tryz.prog 24 #[.agg #[.bool b,.slice s n c,.slice s2 n2 c2],.agg #[.bool b',.slice s' n' c',.slice s3 n3 c3]] W' (RF W' (1 * ((PO * PO : Nat) : Int) + m * m * ((1 : Nat) : Int)) (1 * (PO * PO))) :=fun W' b s n c s2 n2 c2 b' s' n' c' s3 n3 c3 g1 g2 => toRF (fracAdd W' _ _ 1 (m * m) 1 (PO * PO) g1.out g2.out (Nat.one_lt_pow (by decide) (by decide)) (sm 1000 q1 (by decide)) (Nat.one_lt_pow (by decide) (by decide)) (sm 96 q2 (by decide)) (by rw [Int.one_mul,Int.natAbs_natCast];exact sm 96 q2 (by decide)) (by rw [show m * m * ((1 : Nat) : Int) = m * m from Int.mul_one _];exact sm 1000 q1 (by decide)))
  have q3 : (1 * ((PO * PO : Nat) : Int) + m * m * ((1 : Nat) : Int)).natAbs < 10 ^ 1001 :=by
    rw [Int.one_mul,show m * m * ((1 : Nat) : Int) = m * m from Int.mul_one _]
    have h1 : (10 : Nat) ^ 96 ≤ 10 ^ 1000 :=Nat.pow_le_pow_right (by decide) (by decide)
    have h2 : (10 : Nat) ^ 1001 = 10 * 10 ^ 1000 :=by rw [Nat.pow_succ,Nat.mul_comm]
    omega
  have q4 : 1 * (PO * PO) < 10 ^ 96 :=by rw [Nat.one_mul];exact q2
  have hcmp :=near_tan hlaw
  obtain ⟨M2,hM2⟩ : ∃ q,m * m = q :=⟨_,rfl⟩
  obtain ⟨P2,hP2⟩ : ∃ q,PO * PO = q :=⟨_,rfl⟩
  rw [hM2] at hsq h24 q3 hcmp
  rw [hP2] at hsq h24 q3 q4 hcmp
  obtain ⟨N1,hN1⟩ : ∃ q,1 * (P2 : Int) + M2 * ((1 : Nat) : Int) = q :=⟨_,rfl⟩
  obtain ⟨D1,hD1⟩ : ∃ q,1 * P2 = q :=⟨_,rfl⟩
  rw [hN1] at h24 q3 hcmp
  rw [hD1] at h24 q4 hcmp
  obtain ⟨Q12,hQ12⟩ : ∃ q,10 ^ 12 = q :=⟨_,rfl⟩
  rw [hQ12] at hcmp
  have hsQ12 : Q12 < 10 ^ 13 :=by rw [← hQ12];decide +kernel
  have h20 : ∀ W',Calls Tryz.prog 20 #[.int .i64 12] W' (RF W' 1 Q12) :=fun W' => toRF (by
    have :=arTiny12 W'
    rw [hQ12] at this;exact this)
  have h25 : ∀ W' b s n c s2 n2 c2 b' s' n' c' s3 n3 c3,Hid (FV W' (.agg #[.bool b,.slice s n c,.slice s2 n2 c2]) N1 D1) → Hid (FV W' (.agg #[.bool b',.slice s' n' c',.slice s3 n3 c3]) 1 Q12) → Calls Tryz.prog 25 #[.agg #[.bool b,.slice s n c,.slice s2 n2 c2],.agg #[.bool b',.slice s' n' c',.slice s3 n3 c3]] W' (RF W' (N1 * 1) (D1 * Q12)) :=fun W' b s n c s2 n2 c2 b' s' n' c' s3 n3 c3 g1 g2 => toRF (fracMul W' _ _ N1 1 D1 Q12 g1.out g2.out (sm 1001 q3 (by decide)) (Nat.one_lt_pow (by decide) (by decide)) (sm 96 q4 (by decide)) (sm 13 hsQ12 (by decide)))
  have q5 : (N1 * 1).natAbs < 10 ^ 2000 :=by rw [Int.mul_one];exact Nat.lt_trans q3 (Nat.pow_lt_pow_right (by decide) (by decide))
  have q6 : D1 * Q12 < 10 ^ 2000 :=Nat.lt_trans (mulB q4 hsQ12) (Nat.pow_lt_pow_right (by decide) (by decide))
  obtain ⟨N2,hN2⟩ : ∃ q,N1 * 1 = q :=⟨_,rfl⟩
  obtain ⟨D2,hD2⟩ : ∃ q,D1 * Q12 = q :=⟨_,rfl⟩
  rw [hN2] at h25 q5 hcmp
  rw [hD2] at h25 q6 hcmp
  have h22 : ∀ W' b s n c t2 o2 e2 b' s' n' c' s3 n3 c3 b'' s'' n'' c'' s4 n4 c4,Kept W4 W' → Hid (FV W' (.agg #[.bool b,.slice s n c,.slice t2 o2 e2]) m PO) → Hid (FV W' (.agg #[.bool b',.slice s' n' c',.slice s3 n3 c3]) 1 1) → Hid (FV W' (.agg #[.bool b'',.slice s'' n'' c'',.slice s4 n4 c4]) N2 D2) → Calls Tryz.prog 22 #[.agg #[.bool d,.slice s1 n1 c1,.slice s2 n2 c2],.agg #[.bool b,.slice s n c,.slice t2 o2 e2],.agg #[.bool b',.slice s' n' c',.slice s3 n3 c3],.agg #[.bool b'',.slice s'' n'' c'',.slice s4 n4 c4]] W' fun r w' => r = .returned (.bool true) ∧ Kept W' w' :=fun W' b s n c t2 o2 e2 b' s' n' c' s3 n3 c3 b'' s'' n'' c'' s4 n4 c4 k' g1 g2 g3 => sinCosNear W' _ _ _ _ _ _ _ _ _ _ _ _ _ _ _ _ _ _ _ _ _ _ _ _ _ _ _ _ Y m N2 k PO D2 (F4.kept k') g1.out g2.out g3.out hk hY z1 (Nat.lt_trans hPO2 (Nat.pow_lt_pow_right (by decide) (by decide))) q5 q6 hcmp
  rw [hsO] at h7
  rw [hsB] at h7b
  rw [hsN] at h7b h8
  rw [hsY] at h7
  have h9 : ∀ W',Calls Tryz.prog 9 #[pd (.string sY) E] W' (RD W' Y E) :=fun W' => by
    have :=h9 W'
    rw [hsY] at this;exact this
  have ce : ∀ W',Kept W4 W' → W'.cell? ⟨w.heap.size,0,none⟩ = some (.string sY) ∧ W'.cell? ⟨w.heap.size,1,none⟩ = some (.int .i64 E) ∧ W'.cell? ⟨w2.heap.size,0,none⟩ = some (.bool d) ∧ W'.cell? ⟨w2.heap.size,1,none⟩ = some (.slice s1 n1 c1) ∧ W'.cell? ⟨w2.heap.size,2,none⟩ = some (.slice s2 n2 c2) :=fun W' k => ⟨Kept.at k P4.c0,Kept.at k P4.c1,Kept.at k C4.1,Kept.at k C4.2.1,Kept.at k C4.2.2⟩
  clear hsm hsP sm mulB q1 q2 q3 q4 q5 q6 hcmp hM2 hP2 hN1 hD1 hQ12 hsQ12 hN2 hD2 hPO hPO2 hlaw hY999 hkE hkO2 heO2 heO hm999 hm z1 z2 z3 hkO hg hF hcd HG hk hY hd hsY hsN hsO hsB F4 hE
  obtain ⟨b0,b1,b2,b3,b4⟩ :=ce _ (Chg.refl _ _)
  go_upto_region 5 with (go_at_call 21;(with_reducible refine (h7 _ (Chg.refl _ _)).mono ?_);rintro r w5 ⟨rfl,p5⟩)
  obtain ⟨W5,hW5⟩ : ∃ W,w5.alloc (.cells #[.string sO,.int .i64 eO] 23) = W :=⟨_,rfl⟩
  have P5 : PC W5 w5.heap.size (.string sO) (.int .i64 eO) :=hW5 ▸ PC.made w5 _ _
  have K5 : Kept W4 W5 :=hW5 ▸ kt p5 (Chg.alloc _ _ _)
  rw [hW5]
  clear hW5 p5 b0 b1 b2 b3 b4 h7
  obtain ⟨b0,b1,b2,b3,b4⟩ :=ce _ K5
  go_cut [6,7] from 22 to 33 (fun t6 t7 wx => ∃ b6,t6 = ptr b6 ∧ t7 = .int .i64 0 ∧ Hid (PC wx b6 (.string sB) (.int .i64 eO)) ∧ Hid (Kept W5 wx))
  case first =>
    go_wp2_with (first
      | (refine wp_region_lit_plan (id :=5) (.seg [0,4,5] (.two 1 12 (.seg [2] (.two 3 12 (.seg [6] (.two 7 12 (.two 8 12 (.seg [9,10,11,12] (.seg [13] (.seg [14] .fin))) (.seg [8] (.seg [9,10,11,13] (.seg [14] .fin)))) (.seg [7] (.seg [8] (.seg [9,10,11,13] (.seg [14] .fin)))))) (.seg [3] (.seg [6,7] (.seg [8] (.seg [9,10,11,13] (.seg [14] .fin))))))) (.seg [1] (.seg [2,3] (.seg [6,7] (.seg [8] (.seg [9,10,11,13] (.seg [14] .fin)))))))) mixed (by kernel_rfl) ?_;simp only [wpPlanL,gaC,gaN,lZ0,lS0,coS])
      | refine ⟨by kernel_rfl,?_⟩
      | (refine ⟨by kernel_rfl,oldD (by first | exact (PN.put PA kr _ _).2 | exact kr | exact kt kr (Chg.alloc _ _ _) | exact (Chg.refl _ _).drew | exact (Chg.alloc _ _ _).drew | exact Chg.refl _ _ | exact Chg.alloc _ _ _),?_⟩)
      | (refine ⟨oldD (by first | exact (PN.put PA kr _ _).2 | exact kr | exact kt kr (Chg.alloc _ _ _) | exact (Chg.refl _ _).drew | exact (Chg.alloc _ _ _).drew | exact Chg.refl _ _ | exact Chg.alloc _ _ _),?_⟩)
      | (with_reducible refine And.intro ?_ ?_)
      | (go_at_call 9;(with_reducible refine (h9 _).mono ?_);rintro r wa ⟨⟨ba,sa,na,ca,rfl,ga⟩,pa⟩;have kr : Kept W5 wa :=(by first | exact pa.of_drew | exact kt (Chg.alloc _ _ _) pa.of_drew);(first | have PA :=PN.madeD pa | skip))
      | (go_at_call 10;(with_reducible refine (h10 _ _ _ _ _ (by first | exact ga | exact Lib.hid (ga.out.kept (Chg.alloc _ _ _)))).mono ?_);rintro r wb ⟨⟨bb,sb,nb,cb,rfl,gb⟩,pb⟩;(first | have PA :=PN.made kr pb | have PA :=PN.kept PA pb | skip);replace kr : Kept W5 wb :=(by first | exact kt kr pb | exact kt kr (kt (Chg.alloc _ _ _) pb)))
      | (go_at_call 8;(with_reducible refine (h8 _ _ _ _ _ (by first | exact gb | exact Lib.hid (gb.out.kept (Chg.alloc _ _ _)))).mono ?_);rintro r wc ⟨rfl,pc⟩;(first | have PA :=PN.made kr pc | have PA :=PN.kept PA pc | skip);replace kr : Kept W5 wc :=(by first | exact kt kr pc | exact kt kr (kt (Chg.alloc _ _ _) pc)))
      | (go_at_call 21;(with_reducible refine (h7b _ (kt K5 (by first | exact kr | exact kt kr (Chg.alloc _ _ _)))).mono ?_);rintro r we ⟨rfl,pe⟩;(first | have PA :=PN.made kr pe | have PA :=PN.kept PA pe | skip);replace kr : Kept W5 we :=(by first | exact kt kr pe | exact kt kr (kt (Chg.alloc _ _ _) pe));(first | (have y0 :=PA.1.c0;have y1 :=PA.1.c1;have g0 :=PA.1.nf 0;have g1 :=PA.1.nf 1;have y2 :=PA.1.step (.string sB)) | skip)))
    all_goals go_meet
    all_goals first
      | exact ⟨_,rfl,rfl,Lib.hid (PC.made we _ _),Lib.hid (kt kr (Chg.alloc _ _ _))⟩
      | exact ⟨_,rfl,rfl,Lib.hid (PN.put PA kr _ _).1,Lib.hid (PN.put PA kr _ _).2⟩
  case rest =>
    obtain ⟨b6,rfl,rfl,hP6,hK6⟩ :=hcut
    have K6 :=hK6.out
    have P6 :=hP6.out
    have P5 :=P5.kept K6
    obtain ⟨b0,b1,b2,b3,b4⟩ :=ce _ (kt K5 K6)
    clear hP6 hK6
    obtain ⟨i0,i1,i2⟩ :=id P5
    obtain ⟨j0,j1,j2⟩ :=id P6
    go_upto_region 6 with fail
    go_cut [52] from 34 to 52 (fun t52 wx => t52 = .bool false ∧ Hid (Kept wc wx))
    case first =>
      go_wp2_with (first
        | (refine wp_region_lit_plan (id :=6) (.seg [0,1,2,3,4,5,6,7,8] (.seg [9,10,11] (.two 12 13 (.seg [13] (.seg [14] (.seg [15] (.seg [16] (.seg [17,18] .fin))))) (.two 12 14 (.seg [14] (.seg [15] (.seg [16] (.seg [17,18] .fin)))) (.two 12 15 (.seg [15] (.seg [16] (.seg [17,18] .fin))) (.seg [12] (.seg [16] (.seg [17,18] .fin)))))))) mixed (by kernel_rfl) ?_;simp only [wpPlanL,gaC,gaN,lZ0,lS0,coS])
        | refine ⟨by kernel_rfl,?_⟩
        | (refine ⟨by kernel_rfl,oldD (by first | exact kr | exact (Chg.refl _ _).drew | exact Chg.refl _ _),?_⟩)
        | (refine ⟨oldD (by first | exact kr | exact (Chg.refl _ _).drew | exact Chg.refl _ _),?_⟩)
        | (with_reducible refine And.intro ?_ ?_)
        | (go_at_call 12;(with_reducible refine (h12 _).mono ?_);rintro r wa ⟨rfl,pa⟩;have kr : Kept wc wa :=pa.of_drew;obtain ⟨x0,x1,xf⟩ :=P5.kept kr;obtain ⟨y0,y1,yf⟩ :=P6.kept kr)
        | (go_at_call 14;(with_reducible refine (h14 _).mono ?_);rintro r wb ⟨⟨bb,sb,nb,cb,sb2,nb2,cb2,rfl,gb⟩,pb⟩;replace kr :=kt kr pb;obtain ⟨x0,x1,xf⟩ :=P5.kept kr;obtain ⟨y0,y1,yf⟩ :=P6.kept kr)
        | (go_at_call 15;(with_reducible refine (h15 _ _ _ _ _ _ _ _ gb).mono ?_);rintro r wd ⟨⟨bd,sd,nd,cd,sd2,nd2,cd2,rfl,gd⟩,pd2⟩;replace kr :=kt kr pd2;obtain ⟨x0,x1,xf⟩ :=P5.kept kr;obtain ⟨y0,y1,yf⟩ :=P6.kept kr)
        | (go_at_call 13;(with_reducible refine (h13 _ _ _ _ _ _ _ _ gd).mono ?_);rintro r we ⟨rfl,pe⟩;replace kr :=kt kr pe))
      all_goals go_meet
      all_goals exact ⟨rfl,Lib.hid kr⟩
    case rest =>
      obtain ⟨rfl,hK9⟩ :=hcut
      have K9 :=kt K5 (kt K6 hK9.out)
      have P5 :=P5.kept hK9.out
      obtain ⟨x0,x1,xf⟩ :=id P5
      clear hK9 i0 i1 i2 j0 j1 j2
      go_upto_region 9 with (go_at_call 14;(with_reducible refine (h14 _).mono ?_);rintro r wt ⟨⟨bt,st,nt,ct,st2,nt2,ct2,rfl,gt⟩,pt⟩)
      obtain ⟨W9,hW9⟩ : ∃ W,wt.alloc (.cells #[.bool bt,.slice st nt ct,.slice st2 nt2 ct2] 30) = W :=⟨_,rfl⟩
      have kA : Kept (wt.alloc (.cells #[.bool bt,.slice st nt ct,.slice st2 nt2 ct2] 30)) W9 :=hW9 ▸ Chg.refl _ _
      obtain ⟨t0,t1,t2⟩ :=box3At kA
      have kB : Kept wt W9 :=kt (Chg.alloc _ _ _) kA
      have GT :=Lib.hid (gt.out.kept kB)
      replace K9 :=kt K9 (kt pt kB)
      rw [hW9]
      obtain ⟨c0,c1,c2,c3,c4⟩ :=ce _ K9
      clear hW9 kA kB gt pt x0 x1 xf P5 P6
      go_wp2_with (first
        | (refine wp_region_lit_segs (id :=9) [[0,1,4,5,2],[3],[6],[7],[8],[9],[10,11]] mixed (by kernel_rfl) ?_;simp only [wpSegsL,gaC,gaN,lZ0,lS0,coS])
        | refine ⟨by kernel_rfl,?_⟩
        | (refine ⟨by kernel_rfl,oldD (by first | exact kr | exact (Chg.refl _ _).drew | exact Chg.refl _ _),?_⟩)
        | (refine ⟨oldD (by first | exact kr | exact (Chg.refl _ _).drew | exact Chg.refl _ _),?_⟩)
        | (go_at_call 23;have _ :=gi;(with_reducible refine (h23 _).mono ?_);rintro r wb ⟨⟨bj,sj,nj,cj,sj2,nj2,cj2,rfl,gj⟩,pj⟩;replace kr :=kt kr pj;replace gi :=Lib.hid (gi.out.kept pj))
        | (go_at_call 23;(with_reducible refine (h23 _).mono ?_);rintro r wa ⟨⟨bi,si,ni,ci,si2,ni2,ci2,rfl,gi⟩,pi⟩;have kr :=pi.of_drew)
        | (go_at_call 25;(with_reducible refine (hsq _ _ _ _ _ _ _ _ _ _ _ _ _ _ _ (Lib.hid (GT.out.kept kr)) (Lib.hid (GT.out.kept kr))).mono ?_);rintro r wd ⟨⟨bq,sq,nq,cq,sq2,nq2,cq2,rfl,gq⟩,pq⟩;replace kr :=kt kr pq;replace gi :=Lib.hid (gi.out.kept pq);replace gj :=Lib.hid (gj.out.kept pq))
        | (go_at_call 24;(with_reducible refine (h24 _ _ _ _ _ _ _ _ _ _ _ _ _ _ _ gj gq).mono ?_);rintro r we ⟨⟨bu,su,nu,cu,su2,nu2,cu2,rfl,gu⟩,pu⟩;replace kr :=kt kr pu;replace gi :=Lib.hid (gi.out.kept pu))
        | (go_at_call 20;(with_reducible refine (h20 _).mono ?_);rintro r wf ⟨⟨bv,sv,nv,cv,sv2,nv2,cv2,rfl,gv⟩,pv⟩;replace kr :=kt kr pv;replace gi :=Lib.hid (gi.out.kept pv);replace gu :=Lib.hid (gu.out.kept pv))
        | (go_at_call 25;(with_reducible refine (h25 _ _ _ _ _ _ _ _ _ _ _ _ _ _ _ gu gv).mono ?_);rintro r wg ⟨⟨by',sy,ny,cy,sy2,ny2,cy2,rfl,gy⟩,py⟩;replace kr :=kt kr py;replace gi :=Lib.hid (gi.out.kept py))
        | (go_at_call 22;(with_reducible refine (h22 _ _ _ _ _ _ _ _ _ _ _ _ _ _ _ _ _ _ _ _ _ _ (kt K9 kr) (Lib.hid (GT.out.kept kr)) gi gy).mono ?_);rintro r wh ⟨rfl,ph⟩;replace kr :=kt kr ph))
      exact ⟨_,results_tmp rfl _ _ _,by first | rfl | simp,kt K4 (kt K9 kr)⟩
theorem fnDecTan (w : World) (hg : Glob w) (hF : GlobF w) (hd : w.cell? ⟨0,0,none⟩ = some (.int .i64 16)) (s : ByteArray) (e : Int) : Calls Tryz.prog 4 #[pd (.string s) e] w fun r w' => r = .returned (.bool true) ∧ Kept w w' :=by
  rcases Nat.lt_or_ge 2147483647 s.size with h | h
  · have h5 :=fun W => zzFits_big W s e h
    have k0 : Kept w (w.alloc (.cells #[.string s,.int .i64 e] 23)) :=Chg.alloc _ _ _
    obtain ⟨b0,b1,bf⟩ :=PC.made w (.string s) (.int .i64 e)
    clear h
    go_enter Tryz.func4,Tryz.ntmps4
    go_wp2_with (go_at_call 5;(with_reducible refine (h5 _).mono ?_);rintro r w1 ⟨rfl,p1⟩)
    first | go_ret | refine ⟨_,results_tmp rfl _ _ _,?_⟩
    exact ⟨by first | rfl | simp,kt k0 p1⟩
  · exact fnDecTan_small w hg hF hd s e h
end Go.Proofs.YtfmmdamgcpiciaaGreatDoor
namespace Go.Proofs.YtfmmdamgcpiciaaGreatDoor
open Go Go.ChangeShapes Go.WideShapes Go.ChangeAt Go.RowKit Go.Lib
theorem tc_own : ownKnob Tryz.prog.godebug = none :=by kernel_rfl
theorem tc_laidOut : laidOutB Tryz.prog = true :=by kernel_rfl
theorem num_cellT {w : World} {n : String} {g t : Nat} {x : Int} (h : VarReads Tryz.prog w n (.lit (.int .i64 x))) (hg : Tryz.prog.globalNamed n = some g) (ht : (Tryz.prog.globals[g]?).map (·.type) = some t) (hu : Tryz.prog.underlying t = some (.int .i64)) : w.cell? ⟨g,0,none⟩ = some (.int .i64 x) :=by
  obtain ⟨g',t',cs,fuel,p,h1,h2,h3,h4⟩ :=h
  obtain rfl :=Option.some.inj (hg.symm.trans h1)
  obtain rfl :=Option.some.inj (ht.symm.trans h2)
  obtain ⟨z,hc,hx,_⟩ :=DataW.trod_int hu h4
  have hz : x = z :=by simpa using congrArg Prod.fst hx
  subst hz
  rw [World.var?_cell hg h3 0,← Array.getElem?_toList,hc]
  rfl
theorem glob_ofT {w : World} (h : laidMet Tryz.prog Rows.fnDecTanRow.laid w) : Glob w :=
  ⟨num_cellT (t := 3) (laidMet.reads h (n := "given.example/pub-alexandrine/pub/bigall.basicSqrThreshold") (d := Rows.laid_given_example_pub_alexandrine_pub_bigall_basicSqrThreshold) (by simp [Rows.fnDecTanRow])) (by kernel_rfl) (by kernel_rfl) Tryz.underlying3,
   num_cellT (t := 3) (laidMet.reads h (n := "given.example/pub-alexandrine/pub/bigall.karatsubaSqrThreshold") (d := Rows.laid_given_example_pub_alexandrine_pub_bigall_karatsubaSqrThreshold) (by simp [Rows.fnDecTanRow])) (by kernel_rfl) (by kernel_rfl) Tryz.underlying3,
   num_cellT (t := 3) (laidMet.reads h (n := "given.example/pub-alexandrine/pub/bigall.karatsubaThreshold") (d := Rows.laid_given_example_pub_alexandrine_pub_bigall_karatsubaThreshold) (by simp [Rows.fnDecTanRow])) (by kernel_rfl) (by kernel_rfl) Tryz.underlying3,
   num_cellT (t := 3) (laidMet.reads h (n := "given.example/pub-alexandrine/pub/bigall.divRecursiveThreshold") (d := Rows.laid_given_example_pub_alexandrine_pub_bigall_divRecursiveThreshold) (by simp [Rows.fnDecTanRow])) (by kernel_rfl) (by kernel_rfl) Tryz.underlying3⟩
theorem div_ofT {w : World} (h : laidMet Tryz.prog Rows.fnDecTanRow.laid w) : w.cell? ⟨0,0,none⟩ = some (.int .i64 16) :=
  num_cellT (t := 3) (laidMet.reads h (n := "given.example/pub-alexandrine/pub/shopspring.DivisionPrecision") (d := Rows.laid_given_example_pub_alexandrine_pub_shopspring_DivisionPrecision) (by simp [Rows.fnDecTanRow])) (by kernel_rfl) (by kernel_rfl) Tryz.underlying3
theorem pow10_dataT : (Rows.laid_internal_strconv_uint64pow10 : DataW Unit) = tabData .u64 ((List.range 20).map fun i => ((10 ^ i : Nat) : Int)) :=by kernel_rfl
theorem globF_ofT {w : World} (h : laidMet Tryz.prog Rows.fnDecTanRow.laid w) : GlobF w :=by
  have hten : TenAt w :=by
    intro j hj
    obtain ⟨g, t, cs, fuel, p, hg, hty, hvar, hd⟩ := laidMet.reads h (n := "internal/strconv.uint64pow10") (d := Rows.laid_internal_strconv_uint64pow10) (by simp [Rows.fnDecTanRow])
    obtain rfl := Option.some.inj ((show Tryz.prog.globalNamed "internal/strconv.uint64pow10" = some 7 by kernel_rfl).symm.trans hg)
    obtain rfl :=Option.some.inj ((show (Tryz.prog.globals[7]?).map (·.type) = some 242 by kernel_rfl).symm.trans hty)
    rw [pow10_dataT] at hd
    have hcs :=cells_of_tab Tryz.underlying242 Tryz.underlying69 (by kernel_rfl) (by kernel_rfl) hd
    rw [World.var?_cell hg hvar j,← Array.getElem?_toList,hcs]
    simp [hj]
  have htab : ∀ i hi lo : Nat,Go.Pinned.pow10Rows[i]? = some (hi,lo) → TabAt w i hi lo :=by
    intro i hi lo hr
    obtain ⟨g, t, cs, fuel, p, hg, hty, hvar, hd⟩ := laidMet.reads h (n := "internal/strconv.pow10Tab") (d := Rows.laid_internal_strconv_pow10Tab) (by simp [Rows.fnDecTanRow])
    obtain rfl := Option.some.inj ((show Tryz.prog.globalNamed "internal/strconv.pow10Tab" = some 8 by kernel_rfl).symm.trans hg)
    obtain rfl :=Option.some.inj ((show (Tryz.prog.globals[8]?).map (·.type) = some 260 by kernel_rfl).symm.trans hty)
    have hlen : Go.Pinned.pow10Rows.length = 696 :=by kernel_rfl
    have hi696 : i < 696 :=by rw [← hlen];exact (List.getElem?_eq_some_iff.1 hr).1
    have hd' : DataW.trod (fun _ => ()) Tryz.prog w 0 (fun _ => true) false fuel 260 cs.toList = some (.agg (Go.Pinned.pow10Rows.map fun x => .agg [.lit (.int .u64 x.1),.lit (.int .u64 x.2)]),p) :=hd
    obtain ⟨fuel',d,q,hdi,he⟩ :=array_elem Tryz.underlying260 hd' i hi696
    rw [List.getElem?_map,hr] at hdi
    obtain rfl :=Option.some.inj hdi
    have c2 : Tryz.prog.cellsOf 259 = 2 :=by kernel_rfl
    rw [c2] at he
    have hcs :=ints_of_struct (k :=.u64) (zs :=[(hi : Int),(lo : Int)]) Tryz.underlying259 (fun j f hj => by
      match j,hj with
      | 0,hj => simp at hj;subst hj;exact ⟨Tryz.underlying69,rfl,by kernel_rfl⟩
      | 1,hj => simp at hj;subst hj;exact ⟨Tryz.underlying69,rfl,by kernel_rfl⟩
      | j + 2,hj => simp at hj) (by rw [c2];rfl) he
    have e0 :=congrArg (·[0]?) hcs
    have e1 :=congrArg (·[1]?) hcs
    simp only [List.getElem?_take,List.getElem?_drop] at e0 e1
    constructor
    · rw [World.var?_cell hg hvar (i * 2),← Array.getElem?_toList]
      simpa using e0
    · rw [World.var?_cell hg hvar (i * 2 + 1),← Array.getElem?_toList]
      simpa using e1
  exact ⟨htab,hten,lt_of_cell (htab 0 _ _ rfl).1⟩
theorem tc_contract (H : Type) (enc : TypeId × Value → H) (W : World) (base : Nat) (args : Array Value) (ds gs : List (DataW H)) (before : List MemPlace)
    (hval0 : ∀ (j : Nat) t v,Tryz.f4.params[j]? = some t → args[j]? = some v → Value.okWide Tryz.prog W .any base t v)
    (hW : DataW.Whole enc Tryz.prog Tryz.f4.params.toList Rows.fnDecTanSpec.vars false W args.toList ds gs before) (hL : laidMetH Tryz.prog Rows.fnDecTanRow.laid W) :
    Calls Tryz.prog 4 args W fun e W' => ∃ v,e = .returned v ∧ Rows.fnDecTanSpec.post enc Tryz.prog Tryz.f4 false true false false W args v W' :=by
  have hval : ∀ (j : Nat) t v,Tryz.f4.params[j]? = some t → args[j]? = some v → Value.okWide Tryz.prog W .any base t v :=hval0
  have hW' :=hW
  obtain ⟨p,q,hA0,hV,rfl,hfz,hnd⟩ :=hW
  have hA : DataW.TrodAll enc Tryz.prog W 0 (fun _ => true) true Tryz.f4.params.toList args.toList ds p :=hA0
  rw [Tryz.params4] at hA hval
  obtain ⟨v0,d0,rfl,rfl,h0⟩ :=trodAll_one hA
  have h0k :=h0
  obtain ⟨c0,c1,y0,y1,n,rfl,hd0,hp,r0,r1⟩ :=Go.Joins.open_agg2 Tryz.underlying23 (by kernel_rfl) (by kernel_rfl) (hval 0 23 v0 rfl rfl) h0
  obtain ⟨s,hc,hx,hs⟩ :=DataW.trod_string Tryz.underlying9 r0
  obtain ⟨z,hc1,hx1,hz⟩ :=DataW.trod_int Tryz.underlying3 r1
  obtain rfl : c0 = .string s :=by simpa using hc
  obtain rfl : c1 = .int .i64 z :=by simpa using hc1
  obtain ⟨g1,g2,g3,g4,g5,rfl⟩ : ∃ g1 g2 g3 g4 g5,gs = [g1,g2,g3,g4,g5] :=by
    have hV' :=hV
    match gs,hV' with
    | [g1,g2,g3,g4,g5],_ => exact ⟨g1,g2,g3,g4,g5,rfl⟩
    | [],hV' => exact hV'.elim
    | [_],hV' => obtain ⟨_,_,_,_,_,_,_,_,_,_,h,_⟩ :=hV';exact h.elim
    | [_,_],hV' => obtain ⟨_,_,_,_,_,_,_,_,_,_,⟨_,_,_,_,_,_,_,_,_,_,h,_⟩,_⟩ :=hV';exact h.elim
    | [_,_,_],hV' => obtain ⟨_,_,_,_,_,_,_,_,_,_,⟨_,_,_,_,_,_,_,_,_,_,⟨_,_,_,_,_,_,_,_,_,_,h,_⟩,_⟩,_⟩ :=hV';exact h.elim
    | [_,_,_,_],hV' => obtain ⟨_,_,_,_,_,_,_,_,_,_,⟨_,_,_,_,_,_,_,_,_,_,⟨_,_,_,_,_,_,_,_,_,_,⟨_,_,_,_,_,_,_,_,_,_,h,_⟩,_⟩,_⟩,_⟩ :=hV';exact h.elim
    | _ :: _ :: _ :: _ :: _ :: _ :: _,hV' => obtain ⟨_,_,_,_,_,_,_,_,_,_,⟨_,_,_,_,_,_,_,_,_,_,⟨_,_,_,_,_,_,_,_,_,_,⟨_,_,_,_,_,_,_,_,_,_,⟨_,_,_,_,_,_,_,_,_,_,h,_⟩,_⟩,_⟩,_⟩,_⟩ :=hV';exact h.elim
  have hlt : ∀ x ∈ p,x.block < W.heap.size :=fun x hx => by simpa using hW'.lt x (by simp [hx])
  have hL' :=hL
  rw [MakeChecks.laidMetH_plain _ _ _ (by kernel_rfl)] at hL'
  refine (fnDecTan W (glob_ofT hL') (globF_ofT hL') (div_ofT hL') s z).mono fun e W' ⟨he,hk⟩ => ?_
  subst he
  have hb : Below W.heap.size W W' :=hk.old
  exact ⟨_,rfl,_,_,_,[],p,q,hW',trodAll_mk1 (shut_bool Tryz.underlying4 _),trodAll_mk1 (Below.trod tc_laidOut (by kernel_rfl) (of_decide_eq_true (by kernel_rfl)) h0k hb hlt),Below.trodVars tc_laidOut hb (by kernel_rfl) hV,hb.frame _,fun h => by cases h⟩
def tc_args : Array Value :=#[.agg #[.string { data :=#[] },.int .i64 0]]
noncomputable def tc_world (os : Os) : World :=World.laidAll Tryz.prog os Rows.fnDecTanRow.laid
set_option maxRecDepth 100000
theorem tc_f1 (os : Os) : ((tc_world os).forCall (fun _ _ => 0) ⟨#[],tc_args,[]⟩).variablesZipB Tryz.prog = true :=by kernel_rfl
theorem tc_f2 (os : Os) : ((((tc_world os).forCall (fun _ _ => 0) ⟨#[],tc_args,[]⟩)).heap.toList.drop Tryz.prog.globals.size).take ((begin Tryz.prog (fun _ _ => 0) default).world.heap.size - Tryz.prog.globals.size) =
    (begin Tryz.prog (fun _ _ => 0) default).world.heap.toList.drop Tryz.prog.globals.size :=by kernel_rfl
theorem tc_f3 (os : Os) : Input.okWideB Tryz.prog ((tc_world os).forCall (fun _ _ => 0) ⟨#[],tc_args,[]⟩) 4 ⟨#[],tc_args,[]⟩ = true :=by kernel_rfl
theorem tc_f4 (os : Os) (H : Type) (enc : TypeId × Value → H) : Rows.fnDecTanSpec.preB enc Tryz.prog Tryz.f4 [] false ((tc_world os).forCall (fun _ _ => 0) ⟨#[],tc_args,[]⟩).memory tc_args 8 = true :=by kernel_rfl
theorem tc_f5 (os : Os) (H : Type) (enc : TypeId × Value → H) : Rows.fnDecTanSpec.sizedB enc Tryz.prog Tryz.f4 false ((tc_world os).forCall (fun _ _ => 0) ⟨#[],tc_args,[]⟩).memory tc_args 8 = true :=by kernel_rfl
theorem tc_f6 : (Rows.fnDecTanRow.laid.all fun x => x.2.handleName?.isNone) = true :=by kernel_rfl
theorem tc_f7 (os : Os) : (World.holding Tryz.prog os ⟨#[],#[],[]⟩).layFits Tryz.prog Rows.fnDecTanRow.laid [] = true :=by kernel_rfl
theorem tc_f8 (os : Os) : (World.holding Tryz.prog os ⟨#[],#[],[]⟩).layIfaces Tryz.prog Rows.fnDecTanRow.laid (World.laidAll Tryz.prog os Rows.fnDecTanRow.laid) = true :=by kernel_rfl
theorem tc_met (os : Os) : laidMetH Tryz.prog Rows.fnDecTanRow.laid ((tc_world os).forCall (fun _ _ => 0) ⟨#[],tc_args,[]⟩).memory :=by
  rw [MakeChecks.laidMetH_plain _ _ _ tc_f6]
  exact laidMet_laidAll tc_args (tc_f7 os) (tc_f8 os)
theorem tc_witness (os : Os) (H : Type) (enc : TypeId × Value → H) : ∃ (w : World) (tape : Tape) (i : Input),w.os = os ∧ (w.forCall tape i).Shaped Tryz.checked.prog ∧ i.vars = [] ∧ Input.okWide Tryz.checked.prog (w.forCall tape i) .any w.heap.size 4 i ∧
      ((Rows.fnDecTanSpec.pre enc Tryz.checked.prog Tryz.f4 [] false (w.forCall tape i).memory i.args ∧ laidMetH Tryz.prog Rows.fnDecTanRow.laid (w.forCall tape i).memory) ∧ sizedMet enc Tryz.checked.prog Tryz.f4 (OpenSpec.ofChange Rows.fnDecTanSpec) false (w.forCall tape i).memory i.args) ∧ ({ modest :=false } : Assume).holds Tryz.checked.prog (lone (Frame.enter Tryz.checked.prog 4 i.args .normal) [] (w.forCall tape i)) :=
  ChangeSpec.witness_shaped (enc :=enc) (C :=Tryz.checked) (os :=os) (X :=fun w _ => laidMetH Tryz.prog Rows.fnDecTanRow.laid w) false (tc_world os) tc_args 8 (World.laidAll_os _ _ _)
    (World.shaped_of_ZipB (tc_f1 os) (tc_f2 os)) (tc_f3 os) (tc_f4 os H enc) (tc_f5 os H enc) (tc_met os)
theorem tc_lifted (os : Os) (started : os.Started) (H : Type) (enc : TypeId × Value → H) :
    ReturnsInHanded {} Tryz.checked os 4 .any (fun w args => (Rows.fnDecTanSpec.pre enc Tryz.prog Tryz.f4 [] false w args ∧ laidMetH Tryz.prog Rows.fnDecTanRow.laid w) ∧ sizedMet enc Tryz.prog Tryz.f4 (OpenSpec.ofChange Rows.fnDecTanSpec) false w args)
      (Rows.fnDecTanSpec.post enc Tryz.prog Tryz.f4 false true false false) :=by
  refine returnsInHanded_of_change_and (C :=Tryz.checked) (X :=fun w _ => laidMetH Tryz.prog Rows.fnDecTanRow.laid w) (fun _ _ _ hh h => h.of_heap hh) tc_own started (by kernel_rfl) Tryz.func4 (tc_witness os H enc) ?_
  intro W base args ds gs before hval hW _ _ hL _
  exact tc_contract H enc W base args ds gs before hval hW hL
theorem tc_g1 : Tryz.pinned.checked.prog.funcNamed Rows.fnDecTanRow.func = some 4 :=by kernel_rfl
theorem tc_g2 : joinedFacts Tryz.pinned.checked.prog 4 Tryz.f4 Rows.fnDecTanSpec Rows.fnDecTanRow = true :=by kernel_rfl
theorem tc_g3 : Tryz.f4.isInstance Tryz.pinned.checked.prog Rows.fnDecTanRow.origin Rows.fnDecTanRow.targs :=of_decide_eq_true (by kernel_rfl)
theorem tc_g4 : Tryz.f4.isWrapper Tryz.pinned.checked.prog Rows.fnDecTanRow.wrapper Rows.fnDecTanRow.mainSum :=by unfold Func.isWrapper;first | (rw [if_pos (by decide +kernel)];kernel_rfl) | (rw [if_neg (by decide +kernel)];exact ⟨rfl,rfl⟩)
theorem tan_said : Rows.FnDecTanSaid :=
  OpenClaim.holds_of_wide 4 Tryz.f4 rfl rfl rfl rfl rfl rfl rfl ⟨rfl,rfl,rfl,rfl,rfl⟩ rfl rfl rfl rfl rfl tc_g1 Tryz.func4 tc_g2 tc_g3 tc_g4
    (fun os started H enc _ => tc_lifted os started H enc)
theorem tc_plain (f : FuncId) (fn : Func) (hf : Tryz.pinned.checked.prog.funcNamed "given.example/pub-alexandrine/laws.FnDecTan" = some f) (hfn : Tryz.pinned.checked.prog.funcs[f]? = some fn) :
    false = Tryz.pinned.checked.prog.looks [] ∧ ∀ (j : Nat) t,fn.params[j]? = some t → Tryz.pinned.checked.prog.wantsStandIn t = false :=by
  obtain rfl : f = 4 := Option.some.inj ((show Tryz.prog.funcNamed "given.example/pub-alexandrine/laws.FnDecTan" = some 4 by kernel_rfl).symm.trans hf) |>.symm
  obtain rfl : fn = Tryz.f4 :=(Option.some.inj (Tryz.func4.symm.trans hfn)).symm
  refine ⟨by kernel_rfl,fun j t ht => ?_⟩
  rw [Tryz.params4] at ht
  obtain rfl : t = 23 :=by simpa using Array.mem_of_getElem? ht
  exact (show Tryz.prog.wantsStandIn 23 = false by kernel_rfl)
theorem fnDecTan_card : Rows.FnDecTanCardSaid :=
  Claim7.holds_tied_plain_at .later [] _ _ _ _ tan_said (fun _ h => by cases h) (by kernel_rfl) (fun _ h => by cases h) fnDecTan_row_tie rfl ⟨rfl,rfl⟩ (by kernel_rfl) rfl tc_plain (by kernel_rfl)
end Go.Proofs.YtfmmdamgcpiciaaGreatDoor
