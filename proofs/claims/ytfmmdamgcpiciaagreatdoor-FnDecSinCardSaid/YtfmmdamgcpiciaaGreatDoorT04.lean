/- A part of the proof, joined out of the texts D1, D2, D3, D4, D5, D6, D7, D8, D9, D10, D11, D12, D13, D14; each theorem bears its own conditions. -/
import Derived.Deep.CutBlock
import Derived.Deep.DeepCutAuto
import Derived.Laws.AppendOwn
import Derived.Lib.AppendZeros
import Derived.Lib.AppendZerosOnto
import Derived.Test.YtfmmdamgcpiciaaGreatDoorT03
set_option linter.unusedVariables false
set_option linter.unusedSimpArgs false
set_option linter.all false
set_option maxHeartbeats 9000000
set_option maxRecDepth 1000000
namespace Go.Proofs.YtfmmdamgcpiciaaGreatDoor
open Go Go.RowKit
theorem mask32 (x : Nat) (hx : x < 18446744073709551616) : bits .and .u64 (x : Int) 4294967295 = ((x % 4294967296 : Nat) : Int) :=by
  have h :=and_u64 x (2 ^ 32 - 1) hx (by decide)
  rw [Nat.and_two_pow_sub_one_eq_mod] at h
  exact h
theorem bitsDiv64_small (lo y : Nat) (hlo : lo < W64) (hy : y < W64) (h0 : 0 < y) (w : World) :
    Calls Tryz.prog 263 #[.int .u64 0,.int .u64 lo,.int .u64 y] w fun e w' => e = .returned (.tuple #[.int .u64 (lo / y : Nat),.int .u64 (lo % y : Nat)]) ∧ Kept w w' :=by
  have e1 : ((y : Int) == 0) = false :=by simp;omega
  unfold W64 at hlo hy
  have hq : lo / y < 18446744073709551616 :=Nat.lt_of_le_of_lt (Nat.div_le_self _ _) hlo
  have e2 : (lo : Int) / (y : Int) = ((lo / y : Nat) : Int) :=(Int.natCast_ediv lo y).symm
  have e3 : (lo : Int) % (y : Int) = ((lo % y : Nat) : Int) :=(Int.natCast_emod lo y).symm
  generalize lo / y = q at *
  generalize lo % y = r at *
  have e4 :=wrap_u64_in (q : Int) (by omega) (by omega)
  go_enter Tryz.func263,Tryz.ntmps263
  go_wp2_with (first
    | (refine wp_region_lit_segs (id :=6) [[0,1,2,3,4,5,6,7]] mixed (by kernel_rfl) ?_;simp only [wpSegsL,gaC,gaN,lZ0,lS0,coS])
    | refine ⟨by kernel_rfl,?_⟩)
  refine ⟨_,results_tmp2 rfl _ _ _,?_⟩
  exact ⟨rfl,(Chg.refl _ _).drew⟩
def GuessAt (b u2 u1 v1 v0 q r : Nat) : Prop :=q * v1 + r = u2 ∧ (u2 * b + u1) / (v1 * b + v0) ≤ q
def Guess32 (u2 u1 v1 v0 q r : Nat) : Prop :=GuessAt 4294967296 u2 u1 v1 v0 q r ∧ q < 4294967298 ∧ r < 4294967296
theorem guess_step {b u2 u1 v1 v0 q r : Nat} (hv : 0 < v1 * b + v0) (hu : u2 < v1 * b + v0) (hb : u1 < b) (h : GuessAt b u2 u1 v1 v0 q r) (ht : b ≤ q ∨ b * r + u1 < q * v0) : 0 < q ∧ GuessAt b u2 u1 v1 v0 (q - 1) (r + v1) :=by
  obtain ⟨h1,h2⟩ :=h
  have hlt : (u2 * b + u1) / (v1 * b + v0) < q :=by
    rcases ht with ht | ht
    · exact Nat.lt_of_lt_of_le (Plain.guess_lt hb hu) ht
    · exact Plain.guess_more hv h1 ht
  unfold GuessAt
  generalize (u2 * b + u1) / (v1 * b + v0) = Q at *
  refine ⟨by omega,?_,by omega⟩
  obtain ⟨q,rfl⟩ : ∃ k,q = k + 1 :=⟨q - 1,by omega⟩
  rw [Nat.add_mul,Nat.one_mul] at h1
  simp only [Nat.add_sub_cancel]
  omega
theorem guess_end {b u2 u1 v1 v0 q r : Nat} (hv : 0 < v1 * b + v0) (h0 : v0 < b) (h : GuessAt b u2 u1 v1 v0 q r) (ht : (q ≤ b ∧ b ≤ r) ∨ q * v0 ≤ b * r + u1) : q = (u2 * b + u1) / (v1 * b + v0) :=by
  refine Plain.guess_done hv h.1 h.2 ?_
  rcases ht with ⟨h1,h2⟩ | ht
  · have a :=Nat.mul_le_mul h1 (Nat.le_of_lt h0)
    have c :=Nat.mul_le_mul_left b h2
    omega
  · exact ht
theorem two_digits {b W hi lo l1 l0 y Q1 R1 Q0 R0 : Nat} (hW : b * b = W) (h1 : y * Q1 + R1 = hi * b + l1) (h0 : y * Q0 + R0 = R1 * b + l0) (hl : lo = l1 * b + l0) (hR : R0 < y) :
    (hi * W + lo) / y = Q1 * b + Q0 ∧ (hi * W + lo) % y = R0 :=by
  have e : hi * W + lo = y * (Q1 * b + Q0) + R0 :=by
    have a1 : hi * W + l1 * b = (hi * b + l1) * b :=by rw [← hW,Nat.add_mul,Nat.mul_assoc]
    rw [← h1,Nat.add_mul] at a1
    rw [Nat.mul_add,← Nat.mul_assoc]
    omega
  rw [e]
  exact ⟨by rw [Nat.mul_add_div (by omega),Nat.div_eq_of_lt hR,Nat.add_zero],by rw [Nat.mul_add_mod,Nat.mod_eq_of_lt hR]⟩
theorem bitsDiv64_norm (hi lo y : Nat) (hlo : lo < W64) (hy : y < W64) (h0 : 9223372036854775808 ≤ y) (h1 : 0 < hi) (h2 : hi < y) (w : World) :
    Calls Tryz.prog 263 #[.int .u64 hi,.int .u64 lo,.int .u64 y] w fun e w' => e = .returned (.tuple #[.int .u64 ((hi * W64 + lo) / y : Nat),.int .u64 ((hi * W64 + lo) % y : Nat)]) ∧ Kept w w' :=by
  have e1 : ((y : Int) == 0) = false :=by simp;omega
  have e2 : ((hi : Int) == 0) = false :=by simp;omega
  have hz :=leadingZeros64 y hy
  have hb : Lib.bitLen y = 64 :=by
    have b1 :=bitLen_64 hy
    have b2 :=(bitLen_bounds hy (by omega)).2.2
    rcases Nat.lt_or_ge (Lib.bitLen y) 64 with h | h
    · have : 2 ^ Lib.bitLen y ≤ 2 ^ 63 :=Nat.pow_le_pow_right (by decide) (by omega)
      omega
    · omega
  rw [hb] at hz
  unfold W64 at hlo hy ⊢
  obtain ⟨v1,hv1⟩ : ∃ n,y / 4294967296 = n :=⟨_,rfl⟩
  obtain ⟨v0,hv0⟩ : ∃ n,y % 4294967296 = n :=⟨_,rfl⟩
  obtain ⟨l1,hl1⟩ : ∃ n,lo / 4294967296 = n :=⟨_,rfl⟩
  obtain ⟨l0,hl0⟩ : ∃ n,lo % 4294967296 = n :=⟨_,rfl⟩
  have hyv : v1 * 4294967296 + v0 = y :=by omega
  have f1 : bits .and .u64 (y : Int) 4294967295 = (v0 : Int) :=by rw [mask32 y hy,hv0]
  have f2 : bits .or .u64 (hi : Int) ((lo : Int) / 18446744073709551616) = (hi : Int) :=by
    rw [show (lo : Int) / 18446744073709551616 = ((0 : Nat) : Int) by omega,or_u64 hi 0 (by omega) (by decide),Nat.or_zero]
  have f3 : (y : Int) / 4294967296 = (v1 : Int) :=by omega
  have f4 : (lo : Int) / 4294967296 = (l1 : Int) :=by omega
  have f5 : bits .and .u64 (lo : Int) 4294967295 = (l0 : Int) :=by rw [mask32 lo hlo,hl0]
  have bv1 : 2147483648 ≤ v1 ∧ v1 < 4294967296 :=by omega
  have bv0 : v0 < 4294967296 :=by omega
  have bl1 : l1 < 4294967296 :=by omega
  have bl0 : l0 < 4294967296 :=by omega
  have hq1 : hi / v1 < 4294967298 :=by rw [Nat.div_lt_iff_lt_mul (by omega)];omega
  have hdm :=Nat.div_add_mod hi v1
  have hr1 : hi % v1 < v1 :=Nat.mod_lt _ (by omega)
  have hcd : (hi : Int) / (v1 : Int) = ((hi / v1 : Nat) : Int) :=by simp
  have hgs :=Plain.guess_start (b :=4294967296) (u2 :=hi) (u1 :=l1) (v1 :=v1) (v0 :=v0) (by omega) bl1
  generalize hi / v1 = q0 at *
  generalize hi % v1 = r0 at *
  have f6 : IntKind.u64.wrap ((hi : Int) / (v1 : Int)) = (q0 : Int) :=by
    rw [hcd,wrap_u64_in (q0 : Int) (by omega) (by omega)]
  have f7 : IntKind.u64.wrap ((hi : Int) - IntKind.u64.wrap ((q0 : Int) * (v1 : Int))) = (r0 : Int) :=by
    rw [← Int.natCast_mul,Nat.mul_comm]
    generalize v1 * q0 = P at *
    rw [wrap_u64_in (P : Int) (by omega) (by omega),wrap_u64_in ((hi : Int) - (P : Int)) (by omega) (by omega)]
    omega
  have hG : GuessAt 4294967296 hi l1 v1 v0 q0 r0 :=⟨by rw [Nat.mul_comm];exact hdm,hgs⟩
  have HG :=Lib.hid (And.intro hG (And.intro hq1 (And.intro hr1 (And.intro hv1 (And.intro hv0 (And.intro hl1 hl0))))))
  clear hG hq1 hr1 hdm hv1 hv0 hl1 hl0 hb hgs hcd
  go_enter Tryz.func263,Tryz.ntmps263
  go_upto_block 0 with (go_at_call 270;refine (hz _).mono ?_;rintro r w1 ⟨rfl,hw⟩;rw [hw];clear hw)
  obtain ⟨Q1,hQ1⟩ : ∃ Q,(hi * 4294967296 + l1) / y = Q :=⟨_,rfl⟩
  have HQ1 :=Lib.hid hQ1
  clear hQ1
  go_cut [15,16] (fun q r wx => w = wx ∧ q = .int .u64 Q1)
  case first =>
    go_wp2_with fail
    go_loop [15,16] (fun t15 t16 => ∃ q r : Nat,t15 = .int .u64 q ∧ t16 = .int .u64 r ∧ Guess32 hi l1 v1 v0 q r) (fun t15 _ => (intOf t15).toNat)
    case atStart => exact ⟨q0,r0,rfl,rfl,HG.out.1,HG.out.2.1,by have :=HG.out.2.2.1;omega⟩
    case round =>
      obtain ⟨q,r,rfl,rfl,hg,hq,hr⟩ :=hrel
      have hb2 : q < 4294967296 → q * v0 < 18446744073709551616 :=fun h => by
        have :=Nat.mul_lt_mul'' h bv0
        omega
      obtain ⟨qi,hqi⟩ : ∃ i : Int,(q : Int) = i :=⟨_,rfl⟩
      obtain ⟨ri,hri⟩ : ∃ i : Int,(r : Int) = i :=⟨_,rfl⟩
      obtain ⟨vi,hvi⟩ : ∃ i : Int,(v1 : Int) = i :=⟨_,rfl⟩
      obtain ⟨wi,hwi⟩ : ∃ i : Int,(v0 : Int) = i :=⟨_,rfl⟩
      obtain ⟨li,hli⟩ : ∃ i : Int,(l1 : Int) = i :=⟨_,rfl⟩
      have hqw : ((q * v0 : Nat) : Int) = qi * wi :=by rw [Int.natCast_mul,hqi,hwi]
      have HA :=Lib.hid (And.intro hqi (And.intro hri (And.intro hvi (And.intro hwi (And.intro hli (And.intro hg (And.intro hq hqw)))))))
      rw [hqi,hri,hvi,hwi,hli]
      have b1 : 0 ≤ ri :=by omega
      have b2 : ri < 4294967296 :=by omega
      have b3 : 0 ≤ vi :=by omega
      have b4 : vi < 4294967296 :=by omega
      have b5 : 0 ≤ li :=by omega
      have b6 : li < 4294967296 :=by omega
      have b7 : 0 ≤ qi :=by omega
      have b8 : qi < 4294967298 :=by omega
      by_cases hc : 4294967296 ≤ q ∨ 4294967296 * r + l1 < q * v0
      · obtain ⟨hpos,hgn⟩ :=guess_step (by omega) (by omega) bl1 hg hc
        have HN :=Lib.hid (And.intro hgn hpos)
        have c1 : 0 < qi :=by omega
        by_cases hr32 : 4294967296 ≤ r + v1
        · have c7 : 4294967296 ≤ ri + vi :=by omega
          by_cases hq32 : 4294967296 ≤ q
          · have c6 : 4294967296 ≤ qi :=by omega
            clear hr32 hq32 hc hgn hpos hb2 hqi hri hvi hwi hli hqw hq hr hg
            go_wp2
            obtain ⟨hqi,hri,hvi,hwi,hli,hg,hq,hqw⟩ :=HA.out
            subst hvi hwi hli hri
            go_meet
            obtain ⟨hgn,hpos⟩ :=HN.out
            have he :=guess_end (by omega) bv0 hgn (.inl ⟨by omega,by omega⟩)
            rw [hyv,HQ1.out] at he
            have E : Value.int IntKind.u64 (qi - 1) = .int .u64 (Q1 : Nat) :=by rw [← hqi,← he];congr 1;omega
            first | exact ⟨rfl,E⟩ | exact E
          · have c6 : ¬ 4294967296 ≤ qi :=by omega
            have c8 : 4294967296 * ri + li < qi * wi :=by omega
            have c9 : qi * wi < 18446744073709551616 :=by have :=hb2 (by omega);omega
            clear hr32 hq32 hc hgn hpos hb2 hqi hri hvi hwi hli hqw hq hr hg
            go_wp2
            obtain ⟨hqi,hri,hvi,hwi,hli,hg,hq,hqw⟩ :=HA.out
            subst hvi hwi hli hri
            go_meet
            obtain ⟨hgn,hpos⟩ :=HN.out
            have he :=guess_end (by omega) bv0 hgn (.inl ⟨by omega,by omega⟩)
            rw [hyv,HQ1.out] at he
            have E : Value.int IntKind.u64 (qi - 1) = .int .u64 (Q1 : Nat) :=by rw [← hqi,← he];congr 1;omega
            first | exact ⟨rfl,E⟩ | exact E
        · have c7 : ri + vi < 4294967296 :=by omega
          by_cases hq32 : 4294967296 ≤ q
          · have c6 : 4294967296 ≤ qi :=by omega
            clear hr32 hq32 hc hgn hpos hb2 hqi hri hvi hwi hli hqw hq hr hg
            go_wp2
            go_round
            case rel =>
              obtain ⟨hqi,hri,hvi,hwi,hli,hg,hq,hqw⟩ :=HA.out
              obtain ⟨hgn,hpos⟩ :=HN.out
              exact ⟨q - 1,r + v1,by rw [← hqi];congr 1;omega,by rw [← hri,← hvi];congr 1,hgn,by omega,by omega⟩
            case measure =>
              obtain ⟨hqi,hri,hvi,hwi,hli,hg,hq,hqw⟩ :=HA.out
              simp [intOf];omega
          · have c6 : ¬ 4294967296 ≤ qi :=by omega
            have c8 : 4294967296 * ri + li < qi * wi :=by omega
            have c9 : qi * wi < 18446744073709551616 :=by have :=hb2 (by omega);omega
            clear hr32 hq32 hc hgn hpos hb2 hqi hri hvi hwi hli hqw hq hr hg
            go_wp2
            go_round
            case rel =>
              obtain ⟨hqi,hri,hvi,hwi,hli,hg,hq,hqw⟩ :=HA.out
              obtain ⟨hgn,hpos⟩ :=HN.out
              exact ⟨q - 1,r + v1,by rw [← hqi];congr 1;omega,by rw [← hri,← hvi];congr 1,hgn,by omega,by omega⟩
            case measure =>
              obtain ⟨hqi,hri,hvi,hwi,hli,hg,hq,hqw⟩ :=HA.out
              simp [intOf];omega
      · have c6 : ¬ 4294967296 ≤ qi :=by omega
        have c8 : ¬ 4294967296 * ri + li < qi * wi :=by omega
        have c9 : qi * wi < 18446744073709551616 :=by have :=hb2 (by omega);omega
        have c10 : 0 ≤ qi * wi :=by omega
        have HN :=Lib.hid hc
        clear hc hb2 hqi hri hvi hwi hli hqw hq hr hg
        go_wp2
        obtain ⟨hqi,hri,hvi,hwi,hli,hg,hq,hqw⟩ :=HA.out
        subst hvi hwi hli hri
        go_meet
        have hc :=HN.out
        have he :=guess_end (by omega) bv0 hg (.inr (by omega))
        rw [hyv,HQ1.out] at he
        have E : Value.int IntKind.u64 qi = .int .u64 (Q1 : Nat) :=by rw [← hqi,he]
        first | exact ⟨rfl,E⟩ | exact E
  case rest =>
    obtain ⟨rfl,rfl⟩ :=hcut
    have hQ1 :=HQ1.out
    obtain ⟨R1,hR1⟩ : ∃ R,(hi * 4294967296 + l1) % y = R :=⟨_,rfl⟩
    have hdm :=Nat.div_add_mod (hi * 4294967296 + l1) y
    have hRy : R1 < y :=by rw [← hR1];exact Nat.mod_lt _ (by omega)
    rw [hQ1,hR1] at hdm
    have hQb : Q1 < 4294967296 :=by rw [← hQ1,← hyv];exact Plain.guess_lt bl1 (by omega)
    have g1 : IntKind.u64.wrap (IntKind.u64.wrap (IntKind.u64.wrap ((hi : Int) * 4294967296) + (l1 : Int)) - IntKind.u64.wrap ((Q1 : Int) * (y : Int))) = (R1 : Int) :=by
      rw [← Int.natCast_mul,Nat.mul_comm,wrap_u64,wrap_u64,wrap_u64,wrap_u64]
      generalize y * Q1 = P at *
      omega
    have hdm2 :=Nat.div_add_mod R1 v1
    have hr1 : R1 % v1 < v1 :=Nat.mod_lt _ (by omega)
    have hq1 : R1 / v1 < 4294967298 :=by rw [Nat.div_lt_iff_lt_mul (by omega)];omega
    have hcd : (R1 : Int) / (v1 : Int) = ((R1 / v1 : Nat) : Int) :=(Int.natCast_ediv _ _).symm
    have hgs :=Plain.guess_start (b :=4294967296) (u2 :=R1) (u1 :=l0) (v1 :=v1) (v0 :=v0) (by omega) bl0
    generalize R1 / v1 = q2 at *
    generalize R1 % v1 = r2 at *
    have g2 : IntKind.u64.wrap ((R1 : Int) / (v1 : Int)) = (q2 : Int) :=by
      rw [hcd,wrap_u64_in (q2 : Int) (by omega) (by omega)]
    have g3 : IntKind.u64.wrap ((R1 : Int) - IntKind.u64.wrap ((q2 : Int) * (v1 : Int))) = (r2 : Int) :=by
      rw [← Int.natCast_mul,Nat.mul_comm]
      generalize v1 * q2 = P at *
      rw [wrap_u64_in (P : Int) (by omega) (by omega),wrap_u64_in ((R1 : Int) - (P : Int)) (by omega) (by omega)]
      omega
    have hG : GuessAt 4294967296 R1 l0 v1 v0 q2 r2 :=⟨by rw [Nat.mul_comm];exact hdm2,hgs⟩
    have HD :=Lib.hid (And.intro hdm (And.intro hRy (And.intro hQb (And.intro hG (And.intro hq1 hr1)))))
    clear hdm hRy hQb hG hq1 hr1 hdm2 hcd hgs hQ1 hR1
    go_upto_block 2 with fail
    obtain ⟨Q0,hQ0⟩ : ∃ Q,(R1 * 4294967296 + l0) / y = Q :=⟨_,rfl⟩
    have HQ0 :=Lib.hid hQ0
    clear hQ0
    go_cut [18,16] (fun q r wx => w = wx ∧ q = .int .u64 Q0)
    case first =>
      go_wp2_with fail
      go_loop [18,16] (fun t15 t16 => ∃ q r : Nat,t15 = .int .u64 q ∧ t16 = .int .u64 r ∧ Guess32 R1 l0 v1 v0 q r) (fun t15 _ => (intOf t15).toNat)
      case atStart => exact ⟨q2,r2,rfl,rfl,HD.out.2.2.2.1,HD.out.2.2.2.2.1,by have :=HD.out.2.2.2.2.2;omega⟩
      case round =>
        obtain ⟨q,r,rfl,rfl,hg,hq,hr⟩ :=hrel
        have hRy :=HD.out.2.1
        have hb2 : q < 4294967296 → q * v0 < 18446744073709551616 :=fun h => by
          have :=Nat.mul_lt_mul'' h bv0
          omega
        obtain ⟨qi,hqi⟩ : ∃ i : Int,(q : Int) = i :=⟨_,rfl⟩
        obtain ⟨ri,hri⟩ : ∃ i : Int,(r : Int) = i :=⟨_,rfl⟩
        obtain ⟨vi,hvi⟩ : ∃ i : Int,(v1 : Int) = i :=⟨_,rfl⟩
        obtain ⟨wi,hwi⟩ : ∃ i : Int,(v0 : Int) = i :=⟨_,rfl⟩
        obtain ⟨li,hli⟩ : ∃ i : Int,(l0 : Int) = i :=⟨_,rfl⟩
        have hqw : ((q * v0 : Nat) : Int) = qi * wi :=by rw [Int.natCast_mul,hqi,hwi]
        have HA :=Lib.hid (And.intro hqi (And.intro hri (And.intro hvi (And.intro hwi (And.intro hli (And.intro hg (And.intro hq hqw)))))))
        rw [hqi,hri,hvi,hwi,hli]
        have b1 : 0 ≤ ri :=by omega
        have b2 : ri < 4294967296 :=by omega
        have b3 : 0 ≤ vi :=by omega
        have b4 : vi < 4294967296 :=by omega
        have b5 : 0 ≤ li :=by omega
        have b6 : li < 4294967296 :=by omega
        have b7 : 0 ≤ qi :=by omega
        have b8 : qi < 4294967298 :=by omega
        by_cases hc : 4294967296 ≤ q ∨ 4294967296 * r + l0 < q * v0
        · obtain ⟨hpos,hgn⟩ :=guess_step (by omega) (by omega) bl0 hg hc
          have HN :=Lib.hid (And.intro hgn hpos)
          have c1 : 0 < qi :=by omega
          by_cases hr32 : 4294967296 ≤ r + v1
          · have c7 : 4294967296 ≤ ri + vi :=by omega
            by_cases hq32 : 4294967296 ≤ q
            · have c6 : 4294967296 ≤ qi :=by omega
              clear hr32 hq32 hc hgn hpos hb2 hqi hri hvi hwi hli hqw hq hr hg
              go_wp2
              obtain ⟨hqi,hri,hvi,hwi,hli,hg,hq,hqw⟩ :=HA.out
              subst hvi hwi hli hri
              go_meet
              obtain ⟨hgn,hpos⟩ :=HN.out
              have he :=guess_end (by omega) bv0 hgn (.inl ⟨by omega,by omega⟩)
              rw [hyv,HQ0.out] at he
              have E : Value.int IntKind.u64 (qi - 1) = .int .u64 (Q0 : Nat) :=by rw [← hqi,← he];congr 1;omega
              first | exact ⟨rfl,E⟩ | exact E
            · have c6 : ¬ 4294967296 ≤ qi :=by omega
              have c8 : 4294967296 * ri + li < qi * wi :=by omega
              have c9 : qi * wi < 18446744073709551616 :=by have :=hb2 (by omega);omega
              clear hr32 hq32 hc hgn hpos hb2 hqi hri hvi hwi hli hqw hq hr hg
              go_wp2
              obtain ⟨hqi,hri,hvi,hwi,hli,hg,hq,hqw⟩ :=HA.out
              subst hvi hwi hli hri
              go_meet
              obtain ⟨hgn,hpos⟩ :=HN.out
              have he :=guess_end (by omega) bv0 hgn (.inl ⟨by omega,by omega⟩)
              rw [hyv,HQ0.out] at he
              have E : Value.int IntKind.u64 (qi - 1) = .int .u64 (Q0 : Nat) :=by rw [← hqi,← he];congr 1;omega
              first | exact ⟨rfl,E⟩ | exact E
          · have c7 : ri + vi < 4294967296 :=by omega
            by_cases hq32 : 4294967296 ≤ q
            · have c6 : 4294967296 ≤ qi :=by omega
              clear hr32 hq32 hc hgn hpos hb2 hqi hri hvi hwi hli hqw hq hr hg
              go_wp2
              go_round
              case rel =>
                obtain ⟨hqi,hri,hvi,hwi,hli,hg,hq,hqw⟩ :=HA.out
                obtain ⟨hgn,hpos⟩ :=HN.out
                exact ⟨q - 1,r + v1,by rw [← hqi];congr 1;omega,by rw [← hri,← hvi];congr 1,hgn,by omega,by omega⟩
              case measure =>
                obtain ⟨hqi,hri,hvi,hwi,hli,hg,hq,hqw⟩ :=HA.out
                simp [intOf];omega
            · have c6 : ¬ 4294967296 ≤ qi :=by omega
              have c8 : 4294967296 * ri + li < qi * wi :=by omega
              have c9 : qi * wi < 18446744073709551616 :=by have :=hb2 (by omega);omega
              clear hr32 hq32 hc hgn hpos hb2 hqi hri hvi hwi hli hqw hq hr hg
              go_wp2
              go_round
              case rel =>
                obtain ⟨hqi,hri,hvi,hwi,hli,hg,hq,hqw⟩ :=HA.out
                obtain ⟨hgn,hpos⟩ :=HN.out
                exact ⟨q - 1,r + v1,by rw [← hqi];congr 1;omega,by rw [← hri,← hvi];congr 1,hgn,by omega,by omega⟩
              case measure =>
                obtain ⟨hqi,hri,hvi,hwi,hli,hg,hq,hqw⟩ :=HA.out
                simp [intOf];omega
        · have c6 : ¬ 4294967296 ≤ qi :=by omega
          have c8 : ¬ 4294967296 * ri + li < qi * wi :=by omega
          have c9 : qi * wi < 18446744073709551616 :=by have :=hb2 (by omega);omega
          have c10 : 0 ≤ qi * wi :=by omega
          have HN :=Lib.hid hc
          clear hc hb2 hqi hri hvi hwi hli hqw hq hr hg
          go_wp2
          obtain ⟨hqi,hri,hvi,hwi,hli,hg,hq,hqw⟩ :=HA.out
          subst hvi hwi hli hri
          go_meet
          have hc :=HN.out
          have he :=guess_end (by omega) bv0 hg (.inr (by omega))
          rw [hyv,HQ0.out] at he
          have E : Value.int IntKind.u64 qi = .int .u64 (Q0 : Nat) :=by rw [← hqi,he]
          first | exact ⟨rfl,E⟩ | exact E
    case rest =>
      obtain ⟨rfl,rfl⟩ :=hcut
      obtain ⟨hdm,hRy,hQb,_⟩ :=HD.out
      have hQ0 :=HQ0.out
      obtain ⟨R0,hR0⟩ : ∃ R,(R1 * 4294967296 + l0) % y = R :=⟨_,rfl⟩
      have hdm0 :=Nat.div_add_mod (R1 * 4294967296 + l0) y
      have hR0y : R0 < y :=by rw [← hR0];exact Nat.mod_lt _ (by omega)
      rw [hQ0,hR0] at hdm0
      have hQ0b : Q0 < 4294967296 :=by rw [← hQ0,← hyv];exact Plain.guess_lt bl0 (by omega)
      have g4 : IntKind.u64.wrap (IntKind.u64.wrap (IntKind.u64.wrap ((R1 : Int) * 4294967296) + (l0 : Int)) - IntKind.u64.wrap ((Q0 : Int) * (y : Int))) = (R0 : Int) :=by
        rw [← Int.natCast_mul,Nat.mul_comm,wrap_u64,wrap_u64,wrap_u64,wrap_u64]
        generalize y * Q0 = P at *
        omega
      have hl : lo = l1 * 4294967296 + l0 :=by obtain ⟨_,_,_,_,_,h5,h6⟩ :=HG.out;omega
      obtain ⟨hdiv,hmod⟩ :=two_digits (W :=18446744073709551616) (by decide) hdm hdm0 hl hR0y
      have HF :=Lib.hid (And.intro hdiv hmod)
      have c1 : (0 : Int) ≤ Q1 :=by omega
      have c2 : (Q1 : Int) < 4294967296 :=by omega
      have c3 : (Q0 : Int) < 4294967296 :=by omega
      clear hdm hdm0 hQ0 hdiv hmod hl hR0 HD
      go_wp2_with fail
      first | go_ret2 | refine ⟨_,results_tmp2 rfl _ _ _,?_⟩
      refine ⟨?_,Chg.refl _ _⟩
      rw [HF.out.1,HF.out.2]
      rfl
end Go.Proofs.YtfmmdamgcpiciaaGreatDoor
namespace Go.Proofs.YtfmmdamgcpiciaaGreatDoor
open Go Go.RowKit
theorem bitsDiv_small (lo y : Nat) (hlo : lo < W64) (hy : y < W64) (h0 : 0 < y) (w : World) :
    Calls Tryz.prog 226 #[.int .u64 0,.int .u64 lo,.int .u64 y] w fun e w' => e = .returned (.tuple #[.int .u64 (lo / y : Nat),.int .u64 (lo % y : Nat)]) ∧ Kept w w' :=by
  have h :=bitsDiv64_small lo y hlo hy h0
  have hq : lo / y < W64 :=Nat.lt_of_le_of_lt (Nat.div_le_self _ _) hlo
  have hr : lo % y < W64 :=Nat.lt_of_le_of_lt (Nat.mod_le _ _) hlo
  generalize lo / y = q at *
  generalize lo % y = r at *
  unfold W64 at *
  go_enter Tryz.func226,Tryz.ntmps226
  go_wp2_with (go_at_call 263;refine (h _).mono ?_;rintro e w1 ⟨rfl,k⟩;have K :=Lib.hid k;clear k)
  first | go_ret2 | refine ⟨_,results_tmp2 rfl _ _ _,?_⟩
  exact ⟨rfl,K.out⟩
theorem bitsDiv_norm (hi lo y : Nat) (hlo : lo < W64) (hy : y < W64) (h0 : 9223372036854775808 ≤ y) (h2 : hi < y) (w : World) :
    Calls Tryz.prog 226 #[.int .u64 hi,.int .u64 lo,.int .u64 y] w fun e w' => e = .returned (.tuple #[.int .u64 ((hi * W64 + lo) / y : Nat),.int .u64 ((hi * W64 + lo) % y : Nat)]) ∧ Kept w w' :=by
  rcases Nat.eq_zero_or_pos hi with rfl | h1
  · rw [Nat.zero_mul,Nat.zero_add]
    exact bitsDiv_small lo y hlo hy (by omega) w
  · have h :=bitsDiv64_norm hi lo y hlo hy h0 h1 h2
    have hq : (hi * W64 + lo) / y < W64 :=by
      rw [Nat.div_lt_iff_lt_mul (by omega)]
      unfold W64 at *
      omega
    have hr : (hi * W64 + lo) % y < W64 :=Nat.lt_trans (Nat.mod_lt _ (by omega)) hy
    generalize (hi * W64 + lo) / y = q at *
    generalize (hi * W64 + lo) % y = r at *
    unfold W64 at *
    clear h0 h1 h2
    go_enter Tryz.func226,Tryz.ntmps226
    go_wp2_with (go_at_call 263;refine (h _).mono ?_;rintro e w1 ⟨rfl,k⟩;have K :=Lib.hid k;clear k)
    first | go_ret2 | refine ⟨_,results_tmp2 rfl _ _ _,?_⟩
    exact ⟨rfl,K.out⟩
def up (y : Nat) : Nat :=y * 2 ^ (64 - Lib.bitLen y)
theorem up_bounds {y : Nat} (hy : y < W64) (h0 : y ≠ 0) : 9223372036854775808 ≤ up y ∧ up y < W64 ∧ Lib.bitLen y ≤ 64 ∧ 1 ≤ Lib.bitLen y :=by
  obtain ⟨b1,b2,b3⟩ :=bitLen_bounds hy h0
  have b4 :=bitLen_64 hy
  unfold up
  refine ⟨?_,?_,b4,b1⟩
  · have :=Nat.mul_le_mul_right (2 ^ (64 - Lib.bitLen y)) b2
    rw [← Nat.pow_add,show Lib.bitLen y - 1 + (64 - Lib.bitLen y) = 63 by omega] at this
    exact this
  · have :=Nat.mul_lt_mul_of_pos_right b3 (Nat.two_pow_pos (64 - Lib.bitLen y))
    rw [← Nat.pow_add,show Lib.bitLen y + (64 - Lib.bitLen y) = 64 by omega] at this
    exact this
def rec64 (y : Nat) : Nat :=(W64 * W64 - 1) / up y - W64
theorem rec64_spec {y : Nat} (hy : y < W64) (h0 : y ≠ 0) : (W64 * W64 - 1) / up y = rec64 y + W64 :=by
  obtain ⟨h1,h2,_⟩ :=up_bounds hy h0
  have : W64 ≤ (W64 * W64 - 1) / up y :=by
    rw [Nat.le_div_iff_mul_le (by omega)]
    have :=Nat.mul_le_mul_left W64 (show up y ≤ W64 - 1 by omega)
    rw [Nat.mul_sub] at this
    unfold W64 at *
    omega
  unfold rec64
  omega
theorem compl64 (u : Nat) (hu : u < 18446744073709551616) : bits .xor .u64 IntKind.u64.max (u : Int) = 18446744073709551615 - (u : Int) :=by
  have h1 : BitVec.ofInt 64 IntKind.u64.max = BitVec.allOnes 64 :=by decide
  show IntKind.u64.wrap (((BitVec.ofInt 64 IntKind.u64.max) ^^^ (BitVec.ofInt 64 (u : Int))).toNat : Int) = _
  rw [h1,BitVec.allOnes_xor,BitVec.toNat_not,BitVec.ofInt_natCast,BitVec.toNat_ofNat,Nat.mod_eq_of_lt hu,wrap_u64_in _ (Int.natCast_nonneg _) (by omega)]
  omega
theorem reciprocalWord_walk (y u z m rr : Nat) (xi : Int) (hx : bits .xor .u64 IntKind.u64.max (u : Int) = xi) (hy : y < 18446744073709551616) (hu : u < 18446744073709551616) (hm : m < 18446744073709551616) (hz : ∀ w,Calls Tryz.prog 185 #[.int .u64 y] w fun e w' => e = .returned (.int .u64 (z : Nat)) ∧ w' = w)
    (hz64 : z ≤ 64) (hw : IntKind.u64.wrap ((y : Int) * 2 ^ z) = (u : Nat)) (hd : ∀ w,Calls Tryz.prog 226 #[.int .u64 xi,.int .u64 18446744073709551615,.int .u64 u] w fun e w' => e = .returned (.tuple #[.int .u64 (m : Nat),.int .u64 (rr : Nat)]) ∧ Kept w w') (w : World) :
    Calls Tryz.prog 227 #[.int .u64 y] w fun e w' => e = .returned (.int .u64 (m : Nat)) ∧ Kept w w' :=by
  go_enter Tryz.func227,Tryz.ntmps227
  go_wp2_with (first
    | (go_at_call 185;refine (hz _).mono ?_;rintro e w1 ⟨rfl,hw⟩;rw [hw])
    | (go_at_call 226;(with_reducible refine (hd _).mono ?_);rintro e w1 ⟨rfl,k⟩;have K :=Lib.hid k;clear k))
  first | go_ret | refine ⟨_,results_tmp rfl _ _ _,?_⟩
  exact ⟨rfl,K.out⟩
theorem rec64_lt {y : Nat} (hy : y < W64) (h0 : y ≠ 0) : rec64 y < W64 :=by
  obtain ⟨h1,h2,_⟩ :=up_bounds hy h0
  have h3 :=rec64_spec hy h0
  have : (W64 * W64 - 1) / up y < W64 * 2 :=by
    rw [Nat.div_lt_iff_lt_mul (by omega)]
    have :=Nat.mul_le_mul_left (W64 * 2) h1
    have e : W64 * 2 * 9223372036854775808 = W64 * W64 :=by decide
    have p : 0 < W64 * W64 :=by decide
    omega
  omega
theorem up_wrap {y : Nat} (hy : y < W64) (h0 : y ≠ 0) : IntKind.u64.wrap ((y : Int) * 2 ^ (64 - Lib.bitLen y)) = (up y : Nat) :=by
  obtain ⟨h1,h2,_⟩ :=up_bounds hy h0
  have e : (y : Int) * 2 ^ (64 - Lib.bitLen y) = ((up y : Nat) : Int) :=by unfold up;push_cast;rfl
  rw [e,wrap_u64_in _ (Int.natCast_nonneg _) (by unfold W64 at h2;omega)]
theorem reciprocalWord (y : Nat) (hy : y < W64) (h0 : y ≠ 0) (w : World) : Calls Tryz.prog 227 #[.int .u64 y] w fun e w' => e = .returned (.int .u64 (rec64 y : Nat)) ∧ Kept w w' :=by
  obtain ⟨h1,h2,h3,h4⟩ :=up_bounds hy h0
  have hd :=bitsDiv_norm (W64 - 1 - up y) (W64 - 1) (up y) (by unfold W64;omega) h2 h1 (by unfold W64;omega)
  rw [Plain.recip (by omega) h2] at hd
  have e1 : ((W64 - 1 - up y : Nat) : Int) = 18446744073709551615 - (up y : Int) :=by unfold W64 at *;omega
  have e2 : ((W64 - 1 : Nat) : Int) = 18446744073709551615 :=by decide
  rw [e1,e2] at hd
  exact reciprocalWord_walk y (up y) _ (rec64 y) _ _ (compl64 (up y) h2) hy h2 (rec64_lt hy h0) (nlz y hy) (by omega) (up_wrap hy h0) hd w
end Go.Proofs.YtfmmdamgcpiciaaGreatDoor
namespace Go.Proofs.YtfmmdamgcpiciaaGreatDoor
open Go Go.RowKit
structure DivNums (B d m x1 x0 : Nat) (a1 a0 s0 c q e1 e0 r0 b r1 : Nat) : Prop where
  mul : a1 = m * x1 / B ∧ a0 = m * x1 % B
  sum : s0 = (a0 + x0) % B ∧ c = (a0 + x0) / B
  quo : q = (a1 + x1 + c) % B
  prod : e1 = d * q / B ∧ e0 = d * q % B
  dif : r0 = (x0 + B - e0) % B ∧ b = if x0 < e0 then 1 else 0
  dif1 : r1 = (x1 + B - e1 - b) % B
theorem div_nums {B d m x1 x0 a1 a0 s0 c q e1 e0 r0 b r1 : Nat} (h : DivNums B d m x1 x0 a1 a0 s0 c q e1 e0 r0 b r1) (hB2 : B ≤ 2 * d) (hdB : d < B) (hm : (B * B - 1) / d = m + B) (hx1 : x1 < d) (hx0 : x0 < B) :
    q * d ≤ x1 * B + x0 ∧ x1 * B + x0 < q * d + (B + d) ∧ r1 * B + r0 + q * d = x1 * B + x0 ∧ r1 ≤ 1 ∧ r0 < B ∧ q < B ∧ c ≤ 1 ∧ b ≤ 1 ∧ a1 < B ∧ e1 < B :=by
  have hd0 : 0 < d :=by omega
  have hB0 : 0 < B :=by omega
  obtain ⟨k1,k2⟩ :=Plain.recip_bounds hd0 hB0 hm
  obtain ⟨⟨ha1,ha0⟩,⟨hs0,hc⟩,hq,⟨he1,he0⟩,⟨hr0,hb⟩,hr1⟩ :=h
  have hd1 : m * x1 = a1 * B + a0 :=by rw [ha1,ha0,Nat.mul_comm (m * x1 / B)];exact (Nat.div_add_mod _ _).symm
  have ha0B : a0 < B :=by rw [ha0];exact Nat.mod_lt _ hB0
  have hd2 : a0 + x0 = c * B + s0 :=by rw [hc,hs0,Nat.mul_comm ((a0 + x0) / B)];exact (Nat.div_add_mod _ _).symm
  have hs0B : s0 < B :=by rw [hs0];exact Nat.mod_lt _ hB0
  have hc1 : c ≤ 1 :=by
    have : c < 2 :=by rw [hc,Nat.div_lt_iff_lt_mul hB0];omega
    omega
  have ht : x1 * (m + B) + x0 = (a1 + x1 + c) * B + s0 :=by
    rw [Nat.mul_add,Nat.mul_comm x1 m,hd1,Nat.add_mul,Nat.add_mul];omega
  have hlow :=Plain.recip_low (x1 :=x1) (x0 :=x0) (q :=a1 + x1 + c) (by omega) hB0 k1 (by omega)
  have hhigh :=Plain.recip_high (x1 :=x1) (x0 :=x0) (q :=a1 + x1 + c) hd0 hdB k2 hx1 hx0 (by rw [Nat.add_mul (a1 + x1 + c),Nat.one_mul];omega)
  have hX : x1 * B + x0 < d * B :=by
    have :=Nat.mul_le_mul_right B (show x1 + 1 ≤ d from hx1)
    rw [Nat.add_mul,Nat.one_mul] at this
    omega
  have hqB : a1 + x1 + c < B :=by
    have h1 : (a1 + x1 + c) * d < B * d :=by rw [Nat.mul_comm B];exact Nat.lt_of_le_of_lt hlow hX
    exact Nat.lt_of_mul_lt_mul_right h1
  rw [Nat.mod_eq_of_lt hqB] at hq
  rw [← hq] at hlow hhigh hqB
  have hd3 : q * d = e1 * B + e0 :=by rw [he1,he0,Nat.mul_comm (d * q / B),Nat.mul_comm q];exact (Nat.div_add_mod _ _).symm
  have he0B : e0 < B :=by rw [he0];exact Nat.mod_lt _ hB0
  have ha1B : a1 < B :=by omega
  have hb1 : b ≤ 1 :=by rw [hb];split <;> omega
  have hr0B : r0 < B :=by rw [hr0];exact Nat.mod_lt _ hB0
  have hrr : r0 + e0 = x0 + b * B :=by
    rw [hr0,hb]
    split
    · rw [Nat.mod_eq_of_lt (by omega)];omega
    · rw [show x0 + B - e0 = x0 - e0 + B by omega,Nat.add_mod_right,Nat.mod_eq_of_lt (by omega)];omega
  -- x1 - e1 - b is 0 or 1
  have key : e1 + b ≤ x1 ∧ x1 ≤ e1 + b + 1 :=by
    rw [hd3] at hlow hhigh
    constructor
    · have h1 : (e1 + b) * B < (x1 + 1) * B :=by rw [Nat.add_mul,Nat.add_mul,Nat.one_mul];omega
      have :=Nat.lt_of_mul_lt_mul_right h1
      omega
    · have h1 : x1 * B < (e1 + b + 2) * B :=by rw [Nat.add_mul,Nat.add_mul];omega
      have :=Nat.lt_of_mul_lt_mul_right h1
      omega
  have hr1' : r1 = x1 - e1 - b :=by
    rw [hr1,show x1 + B - e1 - b = (x1 - e1 - b) + B by omega,Nat.add_mod_right,Nat.mod_eq_of_lt (by omega)]
  have he1B : e1 < B :=by omega
  refine ⟨hlow,hhigh,?_,by omega,hr0B,hqB,hc1,hb1,ha1B,he1B⟩
  obtain ⟨k,hk⟩ : ∃ k,x1 = e1 + b + k :=⟨x1 - e1 - b,by omega⟩
  have hk2 : r1 = k :=by omega
  rw [hd3,hk2,hk,Nat.add_mul,Nat.add_mul]
  omega
end Go.Proofs.YtfmmdamgcpiciaaGreatDoor
namespace Go.Proofs.YtfmmdamgcpiciaaGreatDoor
open Go Go.RowKit
theorem divWW_z00 (x1 x0 y m z X1 X0 D a1 a0 s0 c q e1 e0 r0 b r1 xh xl g1 g2 : Nat) (B1 : x1 < 18446744073709551616) (B2 : x0 < 18446744073709551616) (B3 : y < 18446744073709551616) (B4 : z ≤ 63) (B5 : X1 < 18446744073709551616) (B6 : X0 < 18446744073709551616) (B7 : D < 18446744073709551616) (B8 : q + 0 < 18446744073709551616) (B9 : r0 < 18446744073709551616)
    (hz : ∀ w,Calls Tryz.prog 185 #[.int .u64 y] w fun e w' => e = .returned (.int .u64 (z : Nat)) ∧ w' = w) (hzz : z = 0) (hX : X1 = x1 ∧ X0 = x0 ∧ D = y) (hr1 : r1 = 0) (hcmp : r0 < D)
    (c1 : ∀ w,Calls Tryz.prog 168 #[.int .u64 m,.int .u64 X1] w fun e w' => e = .returned (.tuple #[.int .u64 a1,.int .u64 a0]) ∧ w' = w)
    (c2 : ∀ w,Calls Tryz.prog 163 #[.int .u64 a0,.int .u64 X0,.int .u64 0] w fun e w' => e = .returned (.tuple #[.int .u64 s0,.int .u64 c]) ∧ w' = w)
    (c3 : ∀ w,Calls Tryz.prog 163 #[.int .u64 a1,.int .u64 X1,.int .u64 c] w fun e w' => e = .returned (.tuple #[.int .u64 q,.int .u64 g1]) ∧ w' = w)
    (c4 : ∀ w,Calls Tryz.prog 168 #[.int .u64 D,.int .u64 q] w fun e w' => e = .returned (.tuple #[.int .u64 e1,.int .u64 e0]) ∧ w' = w)
    (c5 : ∀ w,Calls Tryz.prog 165 #[.int .u64 X0,.int .u64 e0,.int .u64 0] w fun e w' => e = .returned (.tuple #[.int .u64 r0,.int .u64 b]) ∧ w' = w)
    (c6 : ∀ w,Calls Tryz.prog 165 #[.int .u64 X1,.int .u64 e1,.int .u64 b] w fun e w' => e = .returned (.tuple #[.int .u64 r1,.int .u64 g2]) ∧ w' = w) (w : World) :
    Calls Tryz.prog 228 #[.int .u64 x1,.int .u64 x0,.int .u64 y,.int .u64 m] w fun e w' => e = .returned (.tuple #[.int .u64 ((q : Int)),.int .u64 ((r0 : Int) / 2 ^ z)]) ∧ w' = w :=by
  obtain ⟨rfl,rfl,rfl⟩ :=hX
  subst hzz
  subst hr1
  go_enter Tryz.func228,Tryz.ntmps228
  go_wp2_with (first
    | (go_at_call 185;refine (hz _).mono ?_;rintro e w1 ⟨rfl,hw⟩;rw [hw];clear hw)
    | (go_at_call 168;first | ((with_reducible refine (c1 _).mono ?_);rintro e w1 ⟨rfl,hw⟩;rw [hw];clear hw) | ((with_reducible refine (c4 _).mono ?_);rintro e w1 ⟨rfl,hw⟩;rw [hw];clear hw))
    | (go_at_call 163;first | ((with_reducible refine (c2 _).mono ?_);rintro e w1 ⟨rfl,hw⟩;rw [hw];clear hw) | ((with_reducible refine (c3 _).mono ?_);rintro e w1 ⟨rfl,hw⟩;rw [hw];clear hw))
    | (go_at_call 165;first | ((with_reducible refine (c5 _).mono ?_);rintro e w1 ⟨rfl,hw⟩;rw [hw];clear hw) | ((with_reducible refine (c6 _).mono ?_);rintro e w1 ⟨rfl,hw⟩;rw [hw];clear hw)))
  first | go_ret2 | refine ⟨_,results_tmp2 rfl _ _ _,?_⟩
  exact ⟨by first | rfl | simp,rfl⟩
theorem divWW_z01 (x1 x0 y m z X1 X0 D a1 a0 s0 c q e1 e0 r0 b r1 xh xl g1 g2 : Nat) (B1 : x1 < 18446744073709551616) (B2 : x0 < 18446744073709551616) (B3 : y < 18446744073709551616) (B4 : z ≤ 63) (B5 : X1 < 18446744073709551616) (B6 : X0 < 18446744073709551616) (B7 : D < 18446744073709551616) (B8 : q + 1 < 18446744073709551616) (B9 : r0 < 18446744073709551616)
    (hz : ∀ w,Calls Tryz.prog 185 #[.int .u64 y] w fun e w' => e = .returned (.int .u64 (z : Nat)) ∧ w' = w) (hzz : z = 0) (hX : X1 = x1 ∧ X0 = x0 ∧ D = y) (hr1 : r1 = 0) (hcmp : D ≤ r0)
    (c1 : ∀ w,Calls Tryz.prog 168 #[.int .u64 m,.int .u64 X1] w fun e w' => e = .returned (.tuple #[.int .u64 a1,.int .u64 a0]) ∧ w' = w)
    (c2 : ∀ w,Calls Tryz.prog 163 #[.int .u64 a0,.int .u64 X0,.int .u64 0] w fun e w' => e = .returned (.tuple #[.int .u64 s0,.int .u64 c]) ∧ w' = w)
    (c3 : ∀ w,Calls Tryz.prog 163 #[.int .u64 a1,.int .u64 X1,.int .u64 c] w fun e w' => e = .returned (.tuple #[.int .u64 q,.int .u64 g1]) ∧ w' = w)
    (c4 : ∀ w,Calls Tryz.prog 168 #[.int .u64 D,.int .u64 q] w fun e w' => e = .returned (.tuple #[.int .u64 e1,.int .u64 e0]) ∧ w' = w)
    (c5 : ∀ w,Calls Tryz.prog 165 #[.int .u64 X0,.int .u64 e0,.int .u64 0] w fun e w' => e = .returned (.tuple #[.int .u64 r0,.int .u64 b]) ∧ w' = w)
    (c6 : ∀ w,Calls Tryz.prog 165 #[.int .u64 X1,.int .u64 e1,.int .u64 b] w fun e w' => e = .returned (.tuple #[.int .u64 r1,.int .u64 g2]) ∧ w' = w) (w : World) :
    Calls Tryz.prog 228 #[.int .u64 x1,.int .u64 x0,.int .u64 y,.int .u64 m] w fun e w' => e = .returned (.tuple #[.int .u64 ((q : Int) + 1),.int .u64 (((r0 : Int) - (D : Int)) / 2 ^ z)]) ∧ w' = w :=by
  obtain ⟨rfl,rfl,rfl⟩ :=hX
  subst hzz
  subst hr1
  go_enter Tryz.func228,Tryz.ntmps228
  go_wp2_with (first
    | (go_at_call 185;refine (hz _).mono ?_;rintro e w1 ⟨rfl,hw⟩;rw [hw];clear hw)
    | (go_at_call 168;first | ((with_reducible refine (c1 _).mono ?_);rintro e w1 ⟨rfl,hw⟩;rw [hw];clear hw) | ((with_reducible refine (c4 _).mono ?_);rintro e w1 ⟨rfl,hw⟩;rw [hw];clear hw))
    | (go_at_call 163;first | ((with_reducible refine (c2 _).mono ?_);rintro e w1 ⟨rfl,hw⟩;rw [hw];clear hw) | ((with_reducible refine (c3 _).mono ?_);rintro e w1 ⟨rfl,hw⟩;rw [hw];clear hw))
    | (go_at_call 165;first | ((with_reducible refine (c5 _).mono ?_);rintro e w1 ⟨rfl,hw⟩;rw [hw];clear hw) | ((with_reducible refine (c6 _).mono ?_);rintro e w1 ⟨rfl,hw⟩;rw [hw];clear hw)))
  first | go_ret2 | refine ⟨_,results_tmp2 rfl _ _ _,?_⟩
  exact ⟨by first | rfl | simp,rfl⟩
theorem divWW_z10 (x1 x0 y m z X1 X0 D a1 a0 s0 c q e1 e0 r0 b r1 xh xl g1 g2 : Nat) (B1 : x1 < 18446744073709551616) (B2 : x0 < 18446744073709551616) (B3 : y < 18446744073709551616) (B4 : z ≤ 63) (B5 : X1 < 18446744073709551616) (B6 : X0 < 18446744073709551616) (B7 : D < 18446744073709551616) (B8 : q + 1 < 18446744073709551616) (B9 : r0 < 18446744073709551616)
    (hz : ∀ w,Calls Tryz.prog 185 #[.int .u64 y] w fun e w' => e = .returned (.int .u64 (z : Nat)) ∧ w' = w) (hzz : z = 0) (hX : X1 = x1 ∧ X0 = x0 ∧ D = y) (ρ : Nat) (hρ : IntKind.u64.wrap ((r0 : Int) - (D : Int)) = (ρ : Nat)) (hρB : ρ < 18446744073709551616) (hr1 : r1 = 1) (hcmp : ρ < D)
    (c1 : ∀ w,Calls Tryz.prog 168 #[.int .u64 m,.int .u64 X1] w fun e w' => e = .returned (.tuple #[.int .u64 a1,.int .u64 a0]) ∧ w' = w)
    (c2 : ∀ w,Calls Tryz.prog 163 #[.int .u64 a0,.int .u64 X0,.int .u64 0] w fun e w' => e = .returned (.tuple #[.int .u64 s0,.int .u64 c]) ∧ w' = w)
    (c3 : ∀ w,Calls Tryz.prog 163 #[.int .u64 a1,.int .u64 X1,.int .u64 c] w fun e w' => e = .returned (.tuple #[.int .u64 q,.int .u64 g1]) ∧ w' = w)
    (c4 : ∀ w,Calls Tryz.prog 168 #[.int .u64 D,.int .u64 q] w fun e w' => e = .returned (.tuple #[.int .u64 e1,.int .u64 e0]) ∧ w' = w)
    (c5 : ∀ w,Calls Tryz.prog 165 #[.int .u64 X0,.int .u64 e0,.int .u64 0] w fun e w' => e = .returned (.tuple #[.int .u64 r0,.int .u64 b]) ∧ w' = w)
    (c6 : ∀ w,Calls Tryz.prog 165 #[.int .u64 X1,.int .u64 e1,.int .u64 b] w fun e w' => e = .returned (.tuple #[.int .u64 r1,.int .u64 g2]) ∧ w' = w) (w : World) :
    Calls Tryz.prog 228 #[.int .u64 x1,.int .u64 x0,.int .u64 y,.int .u64 m] w fun e w' => e = .returned (.tuple #[.int .u64 ((q : Int) + 1),.int .u64 ((ρ : Int) / 2 ^ z)]) ∧ w' = w :=by
  obtain ⟨rfl,rfl,rfl⟩ :=hX
  subst hzz
  subst hr1
  go_enter Tryz.func228,Tryz.ntmps228
  go_wp2_with (first
    | (go_at_call 185;refine (hz _).mono ?_;rintro e w1 ⟨rfl,hw⟩;rw [hw];clear hw)
    | (go_at_call 168;first | ((with_reducible refine (c1 _).mono ?_);rintro e w1 ⟨rfl,hw⟩;rw [hw];clear hw) | ((with_reducible refine (c4 _).mono ?_);rintro e w1 ⟨rfl,hw⟩;rw [hw];clear hw))
    | (go_at_call 163;first | ((with_reducible refine (c2 _).mono ?_);rintro e w1 ⟨rfl,hw⟩;rw [hw];clear hw) | ((with_reducible refine (c3 _).mono ?_);rintro e w1 ⟨rfl,hw⟩;rw [hw];clear hw))
    | (go_at_call 165;first | ((with_reducible refine (c5 _).mono ?_);rintro e w1 ⟨rfl,hw⟩;rw [hw];clear hw) | ((with_reducible refine (c6 _).mono ?_);rintro e w1 ⟨rfl,hw⟩;rw [hw];clear hw)))
  first | go_ret2 | refine ⟨_,results_tmp2 rfl _ _ _,?_⟩
  exact ⟨by first | rfl | simp,rfl⟩
theorem divWW_z11 (x1 x0 y m z X1 X0 D a1 a0 s0 c q e1 e0 r0 b r1 xh xl g1 g2 : Nat) (B1 : x1 < 18446744073709551616) (B2 : x0 < 18446744073709551616) (B3 : y < 18446744073709551616) (B4 : z ≤ 63) (B5 : X1 < 18446744073709551616) (B6 : X0 < 18446744073709551616) (B7 : D < 18446744073709551616) (B8 : q + 2 < 18446744073709551616) (B9 : r0 < 18446744073709551616)
    (hz : ∀ w,Calls Tryz.prog 185 #[.int .u64 y] w fun e w' => e = .returned (.int .u64 (z : Nat)) ∧ w' = w) (hzz : z = 0) (hX : X1 = x1 ∧ X0 = x0 ∧ D = y) (ρ : Nat) (hρ : IntKind.u64.wrap ((r0 : Int) - (D : Int)) = (ρ : Nat)) (hρB : ρ < 18446744073709551616) (hr1 : r1 = 1) (hcmp : D ≤ ρ)
    (c1 : ∀ w,Calls Tryz.prog 168 #[.int .u64 m,.int .u64 X1] w fun e w' => e = .returned (.tuple #[.int .u64 a1,.int .u64 a0]) ∧ w' = w)
    (c2 : ∀ w,Calls Tryz.prog 163 #[.int .u64 a0,.int .u64 X0,.int .u64 0] w fun e w' => e = .returned (.tuple #[.int .u64 s0,.int .u64 c]) ∧ w' = w)
    (c3 : ∀ w,Calls Tryz.prog 163 #[.int .u64 a1,.int .u64 X1,.int .u64 c] w fun e w' => e = .returned (.tuple #[.int .u64 q,.int .u64 g1]) ∧ w' = w)
    (c4 : ∀ w,Calls Tryz.prog 168 #[.int .u64 D,.int .u64 q] w fun e w' => e = .returned (.tuple #[.int .u64 e1,.int .u64 e0]) ∧ w' = w)
    (c5 : ∀ w,Calls Tryz.prog 165 #[.int .u64 X0,.int .u64 e0,.int .u64 0] w fun e w' => e = .returned (.tuple #[.int .u64 r0,.int .u64 b]) ∧ w' = w)
    (c6 : ∀ w,Calls Tryz.prog 165 #[.int .u64 X1,.int .u64 e1,.int .u64 b] w fun e w' => e = .returned (.tuple #[.int .u64 r1,.int .u64 g2]) ∧ w' = w) (w : World) :
    Calls Tryz.prog 228 #[.int .u64 x1,.int .u64 x0,.int .u64 y,.int .u64 m] w fun e w' => e = .returned (.tuple #[.int .u64 ((q : Int) + 1 + 1),.int .u64 (((ρ : Int) - (D : Int)) / 2 ^ z)]) ∧ w' = w :=by
  obtain ⟨rfl,rfl,rfl⟩ :=hX
  subst hzz
  subst hr1
  go_enter Tryz.func228,Tryz.ntmps228
  go_wp2_with (first
    | (go_at_call 185;refine (hz _).mono ?_;rintro e w1 ⟨rfl,hw⟩;rw [hw];clear hw)
    | (go_at_call 168;first | ((with_reducible refine (c1 _).mono ?_);rintro e w1 ⟨rfl,hw⟩;rw [hw];clear hw) | ((with_reducible refine (c4 _).mono ?_);rintro e w1 ⟨rfl,hw⟩;rw [hw];clear hw))
    | (go_at_call 163;first | ((with_reducible refine (c2 _).mono ?_);rintro e w1 ⟨rfl,hw⟩;rw [hw];clear hw) | ((with_reducible refine (c3 _).mono ?_);rintro e w1 ⟨rfl,hw⟩;rw [hw];clear hw))
    | (go_at_call 165;first | ((with_reducible refine (c5 _).mono ?_);rintro e w1 ⟨rfl,hw⟩;rw [hw];clear hw) | ((with_reducible refine (c6 _).mono ?_);rintro e w1 ⟨rfl,hw⟩;rw [hw];clear hw)))
  first | go_ret2 | refine ⟨_,results_tmp2 rfl _ _ _,?_⟩
  exact ⟨by first | rfl | simp,rfl⟩
theorem divWW_s00 (x1 x0 y m z X1 X0 D a1 a0 s0 c q e1 e0 r0 b r1 xh xl g1 g2 : Nat) (B1 : x1 < 18446744073709551616) (B2 : x0 < 18446744073709551616) (B3 : y < 18446744073709551616) (B4 : z ≤ 63) (B5 : X1 < 18446744073709551616) (B6 : X0 < 18446744073709551616) (B7 : D < 18446744073709551616) (B8 : q + 0 < 18446744073709551616) (B9 : r0 < 18446744073709551616)
    (hz : ∀ w,Calls Tryz.prog 185 #[.int .u64 y] w fun e w' => e = .returned (.int .u64 (z : Nat)) ∧ w' = w) (hzz : ¬ z = 0) (hX : IntKind.u64.wrap ((x1 : Int) * 2 ^ z) = (xh : Nat) ∧ (x0 : Int) / 2 ^ (64 - z) = (xl : Nat) ∧ bits .or .u64 (xh : Int) (xl : Int) = (X1 : Nat) ∧ IntKind.u64.wrap ((x0 : Int) * 2 ^ z) = (X0 : Nat) ∧ IntKind.u64.wrap ((y : Int) * 2 ^ z) = (D : Nat)) (hr1 : r1 = 0) (hcmp : r0 < D)
    (c1 : ∀ w,Calls Tryz.prog 168 #[.int .u64 m,.int .u64 X1] w fun e w' => e = .returned (.tuple #[.int .u64 a1,.int .u64 a0]) ∧ w' = w)
    (c2 : ∀ w,Calls Tryz.prog 163 #[.int .u64 a0,.int .u64 X0,.int .u64 0] w fun e w' => e = .returned (.tuple #[.int .u64 s0,.int .u64 c]) ∧ w' = w)
    (c3 : ∀ w,Calls Tryz.prog 163 #[.int .u64 a1,.int .u64 X1,.int .u64 c] w fun e w' => e = .returned (.tuple #[.int .u64 q,.int .u64 g1]) ∧ w' = w)
    (c4 : ∀ w,Calls Tryz.prog 168 #[.int .u64 D,.int .u64 q] w fun e w' => e = .returned (.tuple #[.int .u64 e1,.int .u64 e0]) ∧ w' = w)
    (c5 : ∀ w,Calls Tryz.prog 165 #[.int .u64 X0,.int .u64 e0,.int .u64 0] w fun e w' => e = .returned (.tuple #[.int .u64 r0,.int .u64 b]) ∧ w' = w)
    (c6 : ∀ w,Calls Tryz.prog 165 #[.int .u64 X1,.int .u64 e1,.int .u64 b] w fun e w' => e = .returned (.tuple #[.int .u64 r1,.int .u64 g2]) ∧ w' = w) (w : World) :
    Calls Tryz.prog 228 #[.int .u64 x1,.int .u64 x0,.int .u64 y,.int .u64 m] w fun e w' => e = .returned (.tuple #[.int .u64 ((q : Int)),.int .u64 ((r0 : Int) / 2 ^ z)]) ∧ w' = w :=by
  obtain ⟨hx1,hx2,hx3,hx4,hx5⟩ :=hX
  have hzn : ((z : Int) != 0) = true :=by simpa using hzz
  subst hr1
  go_enter Tryz.func228,Tryz.ntmps228
  go_wp2_with (first
    | (go_at_call 185;refine (hz _).mono ?_;rintro e w1 ⟨rfl,hw⟩;rw [hw];clear hw)
    | (go_at_call 168;first | ((with_reducible refine (c1 _).mono ?_);rintro e w1 ⟨rfl,hw⟩;rw [hw];clear hw) | ((with_reducible refine (c4 _).mono ?_);rintro e w1 ⟨rfl,hw⟩;rw [hw];clear hw))
    | (go_at_call 163;first | ((with_reducible refine (c2 _).mono ?_);rintro e w1 ⟨rfl,hw⟩;rw [hw];clear hw) | ((with_reducible refine (c3 _).mono ?_);rintro e w1 ⟨rfl,hw⟩;rw [hw];clear hw))
    | (go_at_call 165;first | ((with_reducible refine (c5 _).mono ?_);rintro e w1 ⟨rfl,hw⟩;rw [hw];clear hw) | ((with_reducible refine (c6 _).mono ?_);rintro e w1 ⟨rfl,hw⟩;rw [hw];clear hw)))
  first | go_ret2 | refine ⟨_,results_tmp2 rfl _ _ _,?_⟩
  exact ⟨by first | rfl | simp,rfl⟩
theorem divWW_s01 (x1 x0 y m z X1 X0 D a1 a0 s0 c q e1 e0 r0 b r1 xh xl g1 g2 : Nat) (B1 : x1 < 18446744073709551616) (B2 : x0 < 18446744073709551616) (B3 : y < 18446744073709551616) (B4 : z ≤ 63) (B5 : X1 < 18446744073709551616) (B6 : X0 < 18446744073709551616) (B7 : D < 18446744073709551616) (B8 : q + 1 < 18446744073709551616) (B9 : r0 < 18446744073709551616)
    (hz : ∀ w,Calls Tryz.prog 185 #[.int .u64 y] w fun e w' => e = .returned (.int .u64 (z : Nat)) ∧ w' = w) (hzz : ¬ z = 0) (hX : IntKind.u64.wrap ((x1 : Int) * 2 ^ z) = (xh : Nat) ∧ (x0 : Int) / 2 ^ (64 - z) = (xl : Nat) ∧ bits .or .u64 (xh : Int) (xl : Int) = (X1 : Nat) ∧ IntKind.u64.wrap ((x0 : Int) * 2 ^ z) = (X0 : Nat) ∧ IntKind.u64.wrap ((y : Int) * 2 ^ z) = (D : Nat)) (hr1 : r1 = 0) (hcmp : D ≤ r0)
    (c1 : ∀ w,Calls Tryz.prog 168 #[.int .u64 m,.int .u64 X1] w fun e w' => e = .returned (.tuple #[.int .u64 a1,.int .u64 a0]) ∧ w' = w)
    (c2 : ∀ w,Calls Tryz.prog 163 #[.int .u64 a0,.int .u64 X0,.int .u64 0] w fun e w' => e = .returned (.tuple #[.int .u64 s0,.int .u64 c]) ∧ w' = w)
    (c3 : ∀ w,Calls Tryz.prog 163 #[.int .u64 a1,.int .u64 X1,.int .u64 c] w fun e w' => e = .returned (.tuple #[.int .u64 q,.int .u64 g1]) ∧ w' = w)
    (c4 : ∀ w,Calls Tryz.prog 168 #[.int .u64 D,.int .u64 q] w fun e w' => e = .returned (.tuple #[.int .u64 e1,.int .u64 e0]) ∧ w' = w)
    (c5 : ∀ w,Calls Tryz.prog 165 #[.int .u64 X0,.int .u64 e0,.int .u64 0] w fun e w' => e = .returned (.tuple #[.int .u64 r0,.int .u64 b]) ∧ w' = w)
    (c6 : ∀ w,Calls Tryz.prog 165 #[.int .u64 X1,.int .u64 e1,.int .u64 b] w fun e w' => e = .returned (.tuple #[.int .u64 r1,.int .u64 g2]) ∧ w' = w) (w : World) :
    Calls Tryz.prog 228 #[.int .u64 x1,.int .u64 x0,.int .u64 y,.int .u64 m] w fun e w' => e = .returned (.tuple #[.int .u64 ((q : Int) + 1),.int .u64 (((r0 : Int) - (D : Int)) / 2 ^ z)]) ∧ w' = w :=by
  obtain ⟨hx1,hx2,hx3,hx4,hx5⟩ :=hX
  have hzn : ((z : Int) != 0) = true :=by simpa using hzz
  subst hr1
  go_enter Tryz.func228,Tryz.ntmps228
  go_wp2_with (first
    | (go_at_call 185;refine (hz _).mono ?_;rintro e w1 ⟨rfl,hw⟩;rw [hw];clear hw)
    | (go_at_call 168;first | ((with_reducible refine (c1 _).mono ?_);rintro e w1 ⟨rfl,hw⟩;rw [hw];clear hw) | ((with_reducible refine (c4 _).mono ?_);rintro e w1 ⟨rfl,hw⟩;rw [hw];clear hw))
    | (go_at_call 163;first | ((with_reducible refine (c2 _).mono ?_);rintro e w1 ⟨rfl,hw⟩;rw [hw];clear hw) | ((with_reducible refine (c3 _).mono ?_);rintro e w1 ⟨rfl,hw⟩;rw [hw];clear hw))
    | (go_at_call 165;first | ((with_reducible refine (c5 _).mono ?_);rintro e w1 ⟨rfl,hw⟩;rw [hw];clear hw) | ((with_reducible refine (c6 _).mono ?_);rintro e w1 ⟨rfl,hw⟩;rw [hw];clear hw)))
  first | go_ret2 | refine ⟨_,results_tmp2 rfl _ _ _,?_⟩
  exact ⟨by first | rfl | simp,rfl⟩
theorem divWW_s10 (x1 x0 y m z X1 X0 D a1 a0 s0 c q e1 e0 r0 b r1 xh xl g1 g2 : Nat) (B1 : x1 < 18446744073709551616) (B2 : x0 < 18446744073709551616) (B3 : y < 18446744073709551616) (B4 : z ≤ 63) (B5 : X1 < 18446744073709551616) (B6 : X0 < 18446744073709551616) (B7 : D < 18446744073709551616) (B8 : q + 1 < 18446744073709551616) (B9 : r0 < 18446744073709551616)
    (hz : ∀ w,Calls Tryz.prog 185 #[.int .u64 y] w fun e w' => e = .returned (.int .u64 (z : Nat)) ∧ w' = w) (hzz : ¬ z = 0) (hX : IntKind.u64.wrap ((x1 : Int) * 2 ^ z) = (xh : Nat) ∧ (x0 : Int) / 2 ^ (64 - z) = (xl : Nat) ∧ bits .or .u64 (xh : Int) (xl : Int) = (X1 : Nat) ∧ IntKind.u64.wrap ((x0 : Int) * 2 ^ z) = (X0 : Nat) ∧ IntKind.u64.wrap ((y : Int) * 2 ^ z) = (D : Nat)) (ρ : Nat) (hρ : IntKind.u64.wrap ((r0 : Int) - (D : Int)) = (ρ : Nat)) (hρB : ρ < 18446744073709551616) (hr1 : r1 = 1) (hcmp : ρ < D)
    (c1 : ∀ w,Calls Tryz.prog 168 #[.int .u64 m,.int .u64 X1] w fun e w' => e = .returned (.tuple #[.int .u64 a1,.int .u64 a0]) ∧ w' = w)
    (c2 : ∀ w,Calls Tryz.prog 163 #[.int .u64 a0,.int .u64 X0,.int .u64 0] w fun e w' => e = .returned (.tuple #[.int .u64 s0,.int .u64 c]) ∧ w' = w)
    (c3 : ∀ w,Calls Tryz.prog 163 #[.int .u64 a1,.int .u64 X1,.int .u64 c] w fun e w' => e = .returned (.tuple #[.int .u64 q,.int .u64 g1]) ∧ w' = w)
    (c4 : ∀ w,Calls Tryz.prog 168 #[.int .u64 D,.int .u64 q] w fun e w' => e = .returned (.tuple #[.int .u64 e1,.int .u64 e0]) ∧ w' = w)
    (c5 : ∀ w,Calls Tryz.prog 165 #[.int .u64 X0,.int .u64 e0,.int .u64 0] w fun e w' => e = .returned (.tuple #[.int .u64 r0,.int .u64 b]) ∧ w' = w)
    (c6 : ∀ w,Calls Tryz.prog 165 #[.int .u64 X1,.int .u64 e1,.int .u64 b] w fun e w' => e = .returned (.tuple #[.int .u64 r1,.int .u64 g2]) ∧ w' = w) (w : World) :
    Calls Tryz.prog 228 #[.int .u64 x1,.int .u64 x0,.int .u64 y,.int .u64 m] w fun e w' => e = .returned (.tuple #[.int .u64 ((q : Int) + 1),.int .u64 ((ρ : Int) / 2 ^ z)]) ∧ w' = w :=by
  obtain ⟨hx1,hx2,hx3,hx4,hx5⟩ :=hX
  have hzn : ((z : Int) != 0) = true :=by simpa using hzz
  subst hr1
  go_enter Tryz.func228,Tryz.ntmps228
  go_wp2_with (first
    | (go_at_call 185;refine (hz _).mono ?_;rintro e w1 ⟨rfl,hw⟩;rw [hw];clear hw)
    | (go_at_call 168;first | ((with_reducible refine (c1 _).mono ?_);rintro e w1 ⟨rfl,hw⟩;rw [hw];clear hw) | ((with_reducible refine (c4 _).mono ?_);rintro e w1 ⟨rfl,hw⟩;rw [hw];clear hw))
    | (go_at_call 163;first | ((with_reducible refine (c2 _).mono ?_);rintro e w1 ⟨rfl,hw⟩;rw [hw];clear hw) | ((with_reducible refine (c3 _).mono ?_);rintro e w1 ⟨rfl,hw⟩;rw [hw];clear hw))
    | (go_at_call 165;first | ((with_reducible refine (c5 _).mono ?_);rintro e w1 ⟨rfl,hw⟩;rw [hw];clear hw) | ((with_reducible refine (c6 _).mono ?_);rintro e w1 ⟨rfl,hw⟩;rw [hw];clear hw)))
  first | go_ret2 | refine ⟨_,results_tmp2 rfl _ _ _,?_⟩
  exact ⟨by first | rfl | simp,rfl⟩
theorem divWW_s11 (x1 x0 y m z X1 X0 D a1 a0 s0 c q e1 e0 r0 b r1 xh xl g1 g2 : Nat) (B1 : x1 < 18446744073709551616) (B2 : x0 < 18446744073709551616) (B3 : y < 18446744073709551616) (B4 : z ≤ 63) (B5 : X1 < 18446744073709551616) (B6 : X0 < 18446744073709551616) (B7 : D < 18446744073709551616) (B8 : q + 2 < 18446744073709551616) (B9 : r0 < 18446744073709551616)
    (hz : ∀ w,Calls Tryz.prog 185 #[.int .u64 y] w fun e w' => e = .returned (.int .u64 (z : Nat)) ∧ w' = w) (hzz : ¬ z = 0) (hX : IntKind.u64.wrap ((x1 : Int) * 2 ^ z) = (xh : Nat) ∧ (x0 : Int) / 2 ^ (64 - z) = (xl : Nat) ∧ bits .or .u64 (xh : Int) (xl : Int) = (X1 : Nat) ∧ IntKind.u64.wrap ((x0 : Int) * 2 ^ z) = (X0 : Nat) ∧ IntKind.u64.wrap ((y : Int) * 2 ^ z) = (D : Nat)) (ρ : Nat) (hρ : IntKind.u64.wrap ((r0 : Int) - (D : Int)) = (ρ : Nat)) (hρB : ρ < 18446744073709551616) (hr1 : r1 = 1) (hcmp : D ≤ ρ)
    (c1 : ∀ w,Calls Tryz.prog 168 #[.int .u64 m,.int .u64 X1] w fun e w' => e = .returned (.tuple #[.int .u64 a1,.int .u64 a0]) ∧ w' = w)
    (c2 : ∀ w,Calls Tryz.prog 163 #[.int .u64 a0,.int .u64 X0,.int .u64 0] w fun e w' => e = .returned (.tuple #[.int .u64 s0,.int .u64 c]) ∧ w' = w)
    (c3 : ∀ w,Calls Tryz.prog 163 #[.int .u64 a1,.int .u64 X1,.int .u64 c] w fun e w' => e = .returned (.tuple #[.int .u64 q,.int .u64 g1]) ∧ w' = w)
    (c4 : ∀ w,Calls Tryz.prog 168 #[.int .u64 D,.int .u64 q] w fun e w' => e = .returned (.tuple #[.int .u64 e1,.int .u64 e0]) ∧ w' = w)
    (c5 : ∀ w,Calls Tryz.prog 165 #[.int .u64 X0,.int .u64 e0,.int .u64 0] w fun e w' => e = .returned (.tuple #[.int .u64 r0,.int .u64 b]) ∧ w' = w)
    (c6 : ∀ w,Calls Tryz.prog 165 #[.int .u64 X1,.int .u64 e1,.int .u64 b] w fun e w' => e = .returned (.tuple #[.int .u64 r1,.int .u64 g2]) ∧ w' = w) (w : World) :
    Calls Tryz.prog 228 #[.int .u64 x1,.int .u64 x0,.int .u64 y,.int .u64 m] w fun e w' => e = .returned (.tuple #[.int .u64 ((q : Int) + 1 + 1),.int .u64 (((ρ : Int) - (D : Int)) / 2 ^ z)]) ∧ w' = w :=by
  obtain ⟨hx1,hx2,hx3,hx4,hx5⟩ :=hX
  have hzn : ((z : Int) != 0) = true :=by simpa using hzz
  subst hr1
  go_enter Tryz.func228,Tryz.ntmps228
  go_wp2_with (first
    | (go_at_call 185;refine (hz _).mono ?_;rintro e w1 ⟨rfl,hw⟩;rw [hw];clear hw)
    | (go_at_call 168;first | ((with_reducible refine (c1 _).mono ?_);rintro e w1 ⟨rfl,hw⟩;rw [hw];clear hw) | ((with_reducible refine (c4 _).mono ?_);rintro e w1 ⟨rfl,hw⟩;rw [hw];clear hw))
    | (go_at_call 163;first | ((with_reducible refine (c2 _).mono ?_);rintro e w1 ⟨rfl,hw⟩;rw [hw];clear hw) | ((with_reducible refine (c3 _).mono ?_);rintro e w1 ⟨rfl,hw⟩;rw [hw];clear hw))
    | (go_at_call 165;first | ((with_reducible refine (c5 _).mono ?_);rintro e w1 ⟨rfl,hw⟩;rw [hw];clear hw) | ((with_reducible refine (c6 _).mono ?_);rintro e w1 ⟨rfl,hw⟩;rw [hw];clear hw)))
  first | go_ret2 | refine ⟨_,results_tmp2 rfl _ _ _,?_⟩
  exact ⟨by first | rfl | simp,rfl⟩
end Go.Proofs.YtfmmdamgcpiciaaGreatDoor
namespace Go.Proofs.YtfmmdamgcpiciaaGreatDoor
open Go Go.RowKit
theorem divmod_of {D X q r : Nat} (h : q * D + r = X) (hr : r < D) : X / D = q ∧ X % D = r :=by
  subst h
  exact ⟨by rw [Nat.mul_comm,Nat.mul_add_div (by omega),Nat.div_eq_of_lt hr,Nat.add_zero],by rw [Nat.mul_comm,Nat.mul_add_mod,Nat.mod_eq_of_lt hr]⟩
theorem cast_mul (x z : Nat) : (x : Int) * 2 ^ z = ((x * 2 ^ z : Nat) : Int) :=by rw [Int.natCast_mul,Int.natCast_pow];rfl
theorem cast_div (x z : Nat) : ((x / 2 ^ z : Nat) : Int) = (x : Int) / 2 ^ z :=by rw [Int.natCast_ediv,Int.natCast_pow];rfl
theorem exists_nums (B d m x1 x0 : Nat) : ∃ a1 a0 s0 c q e1 e0 r0 b r1,DivNums B d m x1 x0 a1 a0 s0 c q e1 e0 r0 b r1 :=
  ⟨_,_,_,_,_,_,_,_,_,_,⟨rfl,rfl⟩,⟨rfl,rfl⟩,rfl,⟨rfl,rfl⟩,⟨rfl,rfl⟩,rfl⟩
theorem divWW_any (x1 x0 y m z X1 X0 D : Nat) (xh xl : Nat) (B1 : x1 < W64) (B2 : x0 < W64) (B3 : y < W64) (B4 : z ≤ 63) (B5 : X1 < D) (B6 : X0 < W64) (B7 : D < W64) (B8 : 9223372036854775808 ≤ D) (hm : m < W64) (hmd : (W64 * W64 - 1) / D = m + W64)
    (hz : ∀ w,Calls Tryz.prog 185 #[.int .u64 y] w fun e w' => e = .returned (.int .u64 (z : Nat)) ∧ w' = w)
    (hX : (z = 0 ∧ X1 = x1 ∧ X0 = x0 ∧ D = y) ∨ (¬ z = 0 ∧ IntKind.u64.wrap ((x1 : Int) * 2 ^ z) = (xh : Nat) ∧ (x0 : Int) / 2 ^ (64 - z) = (xl : Nat) ∧ bits .or .u64 (xh : Int) (xl : Int) = (X1 : Nat) ∧ IntKind.u64.wrap ((x0 : Int) * 2 ^ z) = (X0 : Nat) ∧ IntKind.u64.wrap ((y : Int) * 2 ^ z) = (D : Nat))) (w : World) :
    Calls Tryz.prog 228 #[.int .u64 x1,.int .u64 x0,.int .u64 y,.int .u64 m] w fun e w' => e = .returned (.tuple #[.int .u64 ((X1 * W64 + X0) / D : Nat),.int .u64 ((X1 * W64 + X0) % D / 2 ^ z : Nat)]) ∧ w' = w :=by
  obtain ⟨a1,a0,s0,c,q,e1,e0,r0,b,r1,hN⟩ :=exists_nums W64 D m X1 X0
  obtain ⟨n1,n2,n3,n4,n5,n6,n7,n8,n9,n10⟩ :=div_nums hN (by unfold W64;omega) B7 hmd B5 B6
  obtain ⟨⟨ha1,ha0⟩,⟨hs0,hc⟩,hq,⟨he1,he0⟩,⟨hr0,hb⟩,hr1⟩ :=hN
  have c1 :=fun w => bits_Mul m X1 hm (Nat.lt_trans B5 B7) w
  have c2 :=fun w => bits_Add a0 X0 0 (by omega) w
  have c3 :=fun w => bits_Add a1 X1 c n7 w
  have c4 :=fun w => bits_Mul D q B7 n6 w
  have c5 :=fun w => bits_Sub X0 e0 0 (by omega) w
  have c6 :=fun w => bits_Sub X1 e1 b n8 w
  have k1 : m * X1 / 18446744073709551616 = a1 :=ha1.symm
  have k2 : m * X1 % 18446744073709551616 = a0 :=ha0.symm
  have k3 : (a0 + X0 + 0) % 18446744073709551616 = s0 :=hs0.symm
  have k4 : (a0 + X0 + 0) / 18446744073709551616 = c :=hc.symm
  have k5 : (a1 + X1 + c) % 18446744073709551616 = q :=hq.symm
  have k6 : D * q / 18446744073709551616 = e1 :=he1.symm
  have k7 : D * q % 18446744073709551616 = e0 :=he0.symm
  have k8 : (X0 + 18446744073709551616 - e0 - 0) % 18446744073709551616 = r0 :=hr0.symm
  have k9 : (if X0 < e0 + 0 then 1 else 0) = b :=hb.symm
  have k10 : (X1 + 18446744073709551616 - e1 - b) % 18446744073709551616 = r1 :=hr1.symm
  simp only [k1,k2] at c1
  simp only [k3,k4] at c2
  simp only [k5] at c3
  simp only [k6,k7] at c4
  simp only [k8,k9] at c5
  simp only [k10] at c6
  have hXD : X1 * W64 + X0 < W64 * D :=by
    have :=Nat.mul_le_mul_right W64 (show X1 + 1 ≤ D from B5)
    rw [Nat.add_mul,Nat.one_mul,Nat.mul_comm D] at this
    omega
  clear hr1 hb hr0 he0 he1 hq hc hs0 ha0 ha1 k1 k2 k3 k4 k5 k6 k7 k8 k9 k10 hmd
  have fin : ∀ Q R : Nat,Q * D + R = X1 * W64 + X0 → R < D → (X1 * W64 + X0) / D = Q ∧ (X1 * W64 + X0) % D = R ∧ Q < W64 :=by
    intro Q R h1 h2
    obtain ⟨h3,h4⟩ :=divmod_of h1 h2
    refine ⟨h3,h4,?_⟩
    rw [← h3,Nat.div_lt_iff_lt_mul (by omega)]
    exact hXD
  obtain ⟨X,hXe⟩ : ∃ X,X1 * W64 + X0 = X :=⟨_,rfl⟩
  rw [hXe] at n1 n2 n3 fin hXD ⊢
  clear hXe
  unfold W64 at *
  have cast : ∀ r : Nat,((r / 2 ^ z : Nat) : Int) = (r : Int) / 2 ^ z :=fun r => cast_div r z
  rcases (by omega : r1 = 0 ∨ r1 = 1) with h0 | h0
  · by_cases hc : D ≤ r0
    · obtain ⟨f1,f2,f3⟩ :=fin (q + 1) (r0 - D) (by rw [Nat.add_mul];omega) (by omega)
      rw [f1,f2]
      have e1' : ((q + 1 : Nat) : Int) = (q : Int) + 1 :=rfl
      have e2' : ((r0 - D : Nat) : Int) = (r0 : Int) - (D : Int) :=by omega
      rw [cast,e1',e2']
      rcases hX with ⟨z1,z2⟩ | ⟨z1,z2⟩
      · exact divWW_z01 x1 x0 y m z X1 X0 D a1 a0 s0 c q e1 e0 r0 b r1 0 0 _ _ B1 B2 B3 B4 (by omega) B6 B7 f3 n5 hz z1 z2 h0 hc c1 c2 c3 c4 c5 c6 w
      · exact divWW_s01 x1 x0 y m z X1 X0 D a1 a0 s0 c q e1 e0 r0 b r1 xh xl _ _ B1 B2 B3 B4 (by omega) B6 B7 f3 n5 hz z1 z2 h0 hc c1 c2 c3 c4 c5 c6 w
    · obtain ⟨f1,f2,f3⟩ :=fin q r0 (by subst h0;omega) (by omega)
      rw [f1,f2,cast]
      rcases hX with ⟨z1,z2⟩ | ⟨z1,z2⟩
      · exact divWW_z00 x1 x0 y m z X1 X0 D a1 a0 s0 c q e1 e0 r0 b r1 0 0 _ _ B1 B2 B3 B4 (by omega) B6 B7 f3 n5 hz z1 z2 h0 (by omega) c1 c2 c3 c4 c5 c6 w
      · exact divWW_s00 x1 x0 y m z X1 X0 D a1 a0 s0 c q e1 e0 r0 b r1 xh xl _ _ B1 B2 B3 B4 (by omega) B6 B7 f3 n5 hz z1 z2 h0 (by omega) c1 c2 c3 c4 c5 c6 w
  · have hlt : r0 < D :=by subst h0;omega
    obtain ⟨ρ,hρ⟩ : ∃ ρ,r0 + 18446744073709551616 - D = ρ :=⟨_,rfl⟩
    have hw : IntKind.u64.wrap ((r0 : Int) - (D : Int)) = (ρ : Nat) :=by rw [wrap_u64];omega
    by_cases hc : D ≤ ρ
    · obtain ⟨f1,f2,f3⟩ :=fin (q + 2) (ρ - D) (by rw [Nat.add_mul];subst h0;omega) (by omega)
      rw [f1,f2]
      have e1' : ((q + 2 : Nat) : Int) = (q : Int) + 1 + 1 :=by omega
      have e2' : ((ρ - D : Nat) : Int) = (ρ : Int) - (D : Int) :=by omega
      rw [cast,e1',e2']
      rcases hX with ⟨z1,z2⟩ | ⟨z1,z2⟩
      · exact divWW_z11 x1 x0 y m z X1 X0 D a1 a0 s0 c q e1 e0 r0 b r1 0 0 _ _ B1 B2 B3 B4 (by omega) B6 B7 f3 n5 hz z1 z2 ρ hw (by omega) h0 hc c1 c2 c3 c4 c5 c6 w
      · exact divWW_s11 x1 x0 y m z X1 X0 D a1 a0 s0 c q e1 e0 r0 b r1 xh xl _ _ B1 B2 B3 B4 (by omega) B6 B7 f3 n5 hz z1 z2 ρ hw (by omega) h0 hc c1 c2 c3 c4 c5 c6 w
    · obtain ⟨f1,f2,f3⟩ :=fin (q + 1) ρ (by rw [Nat.add_mul];subst h0;omega) (by omega)
      rw [f1,f2]
      have e1' : ((q + 1 : Nat) : Int) = (q : Int) + 1 :=rfl
      rw [cast,e1']
      rcases hX with ⟨z1,z2⟩ | ⟨z1,z2⟩
      · exact divWW_z10 x1 x0 y m z X1 X0 D a1 a0 s0 c q e1 e0 r0 b r1 0 0 _ _ B1 B2 B3 B4 (by omega) B6 B7 f3 n5 hz z1 z2 ρ hw (by omega) h0 (by omega) c1 c2 c3 c4 c5 c6 w
      · exact divWW_s10 x1 x0 y m z X1 X0 D a1 a0 s0 c q e1 e0 r0 b r1 xh xl _ _ B1 B2 B3 B4 (by omega) B6 B7 f3 n5 hz z1 z2 ρ hw (by omega) h0 (by omega) c1 c2 c3 c4 c5 c6 w
theorem divWW (x1 x0 y : Nat) (hy : y < W64) (h0 : y ≠ 0) (h1 : x1 < y) (h2 : x0 < W64) (w : World) :
    Calls Tryz.prog 228 #[.int .u64 x1,.int .u64 x0,.int .u64 y,.int .u64 (rec64 y)] w fun e w' => e = .returned (.tuple #[.int .u64 ((x1 * W64 + x0) / y : Nat),.int .u64 ((x1 * W64 + x0) % y : Nat)]) ∧ w' = w :=by
  obtain ⟨u1,u2,u3,u4⟩ :=up_bounds hy h0
  have hm :=rec64_spec hy h0
  have hml :=rec64_lt hy h0
  have hz :=nlz y hy
  have hup : up y = y * 2 ^ (64 - Lib.bitLen y) :=rfl
  have hw :=up_wrap hy h0
  obtain ⟨z,hz2⟩ : ∃ z,64 - Lib.bitLen y = z :=⟨_,rfl⟩
  rw [hz2] at hz hup hw
  have hz63 : z ≤ 63 :=by omega
  have hp : 0 < 2 ^ z :=Nat.two_pow_pos z
  have hsp : 2 ^ z * 2 ^ (64 - z) = W64 :=by rw [← Nat.pow_add,show z + (64 - z) = 64 by omega]
  -- the numbers moved up
  obtain ⟨X1,X0,hX,hX0⟩ : ∃ X1 X0,X1 * W64 + X0 = (x1 * W64 + x0) * 2 ^ z ∧ X0 < W64 :=⟨(x1 * W64 + x0) * 2 ^ z / W64,(x1 * W64 + x0) * 2 ^ z % W64,by rw [Nat.mul_comm _ W64];exact Nat.div_add_mod _ _,Nat.mod_lt _ (by decide)⟩
  have hlt : X1 < up y :=by
    have h3 : (x1 * W64 + x0) * 2 ^ z < y * W64 * 2 ^ z :=by
      refine Nat.mul_lt_mul_of_pos_right ?_ hp
      have :=Nat.mul_le_mul_right W64 (show x1 + 1 ≤ y from h1)
      rw [Nat.add_mul,Nat.one_mul] at this
      omega
    have h4 : X1 * W64 < up y * W64 :=by
      rw [hup,Nat.mul_assoc,Nat.mul_comm (2 ^ z),← Nat.mul_assoc]
      omega
    exact Nat.lt_of_mul_lt_mul_right h4
  have hd1 : (X1 * W64 + X0) / up y = (x1 * W64 + x0) / y :=by rw [hX,hup,Nat.mul_div_mul_right _ _ hp]
  have hd2 : (X1 * W64 + X0) % up y / 2 ^ z = (x1 * W64 + x0) % y :=by rw [hX,hup,Nat.mul_mod_mul_right,Nat.mul_div_cancel _ hp]
  rw [← hd1,← hd2]
  by_cases hz0 : z = 0
  · have e : X1 = x1 ∧ X0 = x0 :=by
      rw [hz0,Nat.pow_zero,Nat.mul_one] at hX
      unfold W64 at *
      omega
    exact divWW_any x1 x0 y _ z X1 X0 (up y) 0 0 (by omega) h2 hy hz63 hlt hX0 u2 u1 hml hm hz (.inl ⟨hz0,e.1,e.2,by rw [hup,hz0];simp⟩) w
  · have hdm :=Nat.div_add_mod x0 (2 ^ (64 - z))
    have hl : x0 % 2 ^ (64 - z) < 2 ^ (64 - z) :=Nat.mod_lt _ (Nat.two_pow_pos _)
    have hh : x0 / 2 ^ (64 - z) < 2 ^ z :=by
      rw [Nat.div_lt_iff_lt_mul (Nat.two_pow_pos _),hsp];exact h2
    have hx1z : x1 * 2 ^ z < W64 :=by
      have : x1 * 2 ^ z ≤ y * 2 ^ z :=Nat.mul_le_mul_right _ (by omega)
      rw [← hup] at this
      omega
    have e0 : x0 % 2 ^ (64 - z) * 2 ^ z < W64 :=by
      have :=Nat.mul_lt_mul_of_pos_right hl hp
      rw [Nat.mul_comm (2 ^ (64 - z)),hsp] at this
      exact this
    have esum : (x1 * 2 ^ z + x0 / 2 ^ (64 - z)) * W64 + x0 % 2 ^ (64 - z) * 2 ^ z = (x1 * W64 + x0) * 2 ^ z :=by
      have a : x0 * 2 ^ z = x0 / 2 ^ (64 - z) * W64 + x0 % 2 ^ (64 - z) * 2 ^ z :=by
        rw [← hsp,← Nat.mul_assoc,Nat.mul_comm (x0 / 2 ^ (64 - z)),Nat.mul_assoc (2 ^ z),Nat.mul_comm (x0 / 2 ^ (64 - z)),Nat.mul_comm (2 ^ z),← Nat.add_mul,hdm]
      rw [Nat.add_mul,Nat.add_mul,a,Nat.mul_assoc,Nat.mul_assoc,Nat.mul_comm W64 (2 ^ z)]
      omega
    have eX : X1 = x1 * 2 ^ z + x0 / 2 ^ (64 - z) ∧ X0 = x0 % 2 ^ (64 - z) * 2 ^ z :=by
      rw [← esum] at hX
      generalize x1 * 2 ^ z + x0 / 2 ^ (64 - z) = A at *
      generalize x0 % 2 ^ (64 - z) * 2 ^ z = C at *
      unfold W64 at *
      omega
    refine divWW_any x1 x0 y _ z X1 X0 (up y) (x1 * 2 ^ z) (x0 / 2 ^ (64 - z)) (by omega) h2 hy hz63 hlt hX0 u2 u1 hml hm hz (.inr ⟨hz0,?_,?_,?_,?_,hw⟩) w
    · rw [cast_mul x1 z,wrap_u64_in _ (Int.natCast_nonneg _) (Int.ofNat_lt.2 hx1z)]
    · exact (cast_div x0 (64 - z)).symm
    · rw [or_u64 _ _ hx1z (Nat.lt_of_lt_of_le hh (Nat.pow_le_pow_right (by decide) (by omega))),eX.1]
      have :=Nat.two_pow_add_eq_or_of_lt hh x1
      rw [Nat.mul_comm x1,this]
    · rw [cast_mul x0 z,wrap_u64,eX.2]
      have a : x0 * 2 ^ z % W64 = x0 % 2 ^ (64 - z) * 2 ^ z :=by rw [← hsp,Nat.mul_comm (2 ^ z),Nat.mul_mod_mul_right]
      unfold W64 at a
      clear eX esum hX hX0 hd1 hd2 hlt e0 hdm
      generalize x0 * 2 ^ z = P at *
      generalize x0 % 2 ^ (64 - z) * 2 ^ z = C at *
      omega
end Go.Proofs.YtfmmdamgcpiciaaGreatDoor
namespace Go.Proofs.YtfmmdamgcpiciaaGreatDoor
open Go Go.RowKit
theorem Row.consAt {w : World} {b o : Nat} {ts : List Nat} (x : Nat) (h : Row .u64 w b (o + 1) ts) (hw : ∃ u,w.cell? ⟨b,o,none⟩ = some u) : Row .u64 (w.setCell ⟨b,o,none⟩ (.int .u64 x)) b o (x :: ts) :=fun j y hj => by
  cases j with
  | zero =>
    simp at hj;subst hj
    obtain ⟨u,hu⟩ :=hw
    exact cell_setCell_eq hu
  | succ j =>
    simp at hj
    have :=h j y hj
    rw [show o + (j + 1) = o + 1 + j by omega]
    exact (cell_setCell_ne (by omega)).trans this
theorem div_step {B V T r y q r' x D : Nat} (h : D = T * y + r) (hq : r * B + x = y * q + r') (hv : V = x + B * D) : V = (q + B * T) * y + r' :=by
  rw [hv,h,Nat.mul_add,Nat.add_mul,← Nat.mul_assoc,Nat.mul_comm B r,Nat.mul_comm q y]
  omega
theorem divWVW (w : World) (bz oz bx ox n cz cx y : Nat) (xs : List Nat) (hn : 0 < n) (hnB : n ≤ Big) (hy : y < W64) (h0 : y ≠ 0)
    (hx : Row .u64 w bx ox xs) (hlx : xs.length = n) (hbx : Lt W64 xs) (hz : Wr w bz oz n) (fx : bx ≠ bz) :
    Calls Tryz.prog 186 #[.slice (some ⟨bz,oz,none⟩) n cz,.int .u64 0,.slice (some ⟨bx,ox,none⟩) n cx,.int .u64 y] w fun e w' => ∃ zs,e = .returned (.int .u64 (val W64 xs % y : Nat)) ∧ zs.length = n ∧ Row .u64 w' bz oz zs ∧ Lt W64 zs ∧
      val W64 zs = val W64 xs / y ∧ Chg w w' (In bz oz n) :=by
  unfold Big at hnB
  by_cases h1 : n = 1
  · subst h1
    obtain ⟨x,rfl⟩ : ∃ x,xs = [x] :=by
      match xs,hlx with
      | [x],_ => exact ⟨x,rfl⟩
    have hcx :=hx 0 x rfl
    simp only [Nat.add_zero] at hcx
    have hxl : x < W64 :=hbx x (by simp)
    obtain ⟨⟨u,hu⟩,hf⟩ :=hz 0 (by omega)
    simp only [Nat.add_zero] at hu hf
    have hd :=bitsDiv_small x y hxl hy (by omega)
    have hv : val W64 [x] = x :=by simp [val]
    rw [hv]
    have hql : x / y < W64 :=Nat.lt_of_le_of_lt (Nat.div_le_self _ _) hxl
    generalize x / y = q at *
    generalize x % y = r at *
    go_enter Tryz.func186,Tryz.ntmps186
    go_wp2_with (go_at_call 226;refine (hd _).mono ?_;rintro e w1 ⟨rfl,k⟩;have hu :=Kept.at k hu;have hf :=(k.frz bz oz (lt_of_cell (by assumption))).trans hf)
    go_ret
    have hrow : Row .u64 (w1.setCell ⟨bz,oz,none⟩ (.int .u64 q)) bz oz [q] :=Row.one q ⟨u,hu⟩
    refine ⟨[q],rfl,rfl,hrow,Lt.one hql,by simp [val],?_⟩
    exact (Chg.any k (In bz oz 1)).trans (Chg.setCell w1 bz oz (.int .u64 q) (In bz oz 1) fun _ => ⟨rfl,by omega,by omega⟩) fun _ _ _ h => h
  · have hrc :=reciprocalWord y hy h0
    have hne : ((n : Int) == 1) = false :=by simp;omega
    go_enter Tryz.func186,Tryz.ntmps186
    go_wp2_with (go_at_call 227;refine (hrc _).mono ?_;rintro e w1 ⟨rfl,k1⟩;have K1 :=Lib.hid k1;clear k1)
    go_loopw [8,12] (fun t8 t12 wr => ∃ (k r : Nat) (ts : List Nat),k ≤ n ∧ t12 = .int .i64 ((k : Int) - 1) ∧ t8 = .int .u64 r ∧ r < y ∧ ts.length = n - k ∧ Row .u64 wr bz (oz + k) ts ∧ Lt W64 ts ∧
      val W64 (xs.drop k) = val W64 ts * y + r ∧ Chg w wr (In bz oz n)) (fun _ t12 _ => (intOf t12 + 1).toNat)
    case atStart => exact ⟨n,0,[],Nat.le_refl _,rfl,rfl,by omega,by simp,Row.nil,Lt.nil,by rw [List.drop_eq_nil_of_le (by omega)];simp [val],K1.out.any _⟩
    case round =>
      obtain ⟨k,r,ts,hk,rfl,rfl,hr,hlt,hrow,hts,hval,hchg⟩ :=hrel
      rcases Nat.eq_zero_or_pos k with rfl | hkp
      · go_wp2
        go_ret
        simp only [Nat.add_zero,Nat.sub_zero,List.drop_zero] at *
        obtain ⟨d1,d2⟩ :=divmod_of hval.symm hr
        rw [d2]
        exact ⟨ts,rfl,hlt,hrow,hts,d1.symm,hchg⟩
      · obtain ⟨k,rfl⟩ : ∃ j,k = j + 1 :=⟨k - 1,by omega⟩
        have gx : xs[k]? = some xs[k] :=List.getElem?_eq_getElem (by omega)
        have bx1 : xs[k] < W64 :=hbx _ (List.getElem_mem _)
        have hdv :=drop_get gx
        generalize xs[k] = x at gx bx1 hdv
        have cx1 :=hx k x gx
        have cx2 : wr.cell? ⟨bx,ox + k,none⟩ = some (.int .u64 x) :=by
          rw [hchg.cell bx (ox + k) (lt_of_cell cx1) (fun h => fx h.1)];exact cx1
        obtain ⟨⟨u,hu⟩,hf⟩ :=(hz.chg hchg) k (by omega)
        have e1 : (((k + 1 : Nat) : Int) - 1) = (k : Int) :=by omega
        rw [e1]
        have hd :=divWW r x y hy h0 hr bx1
        have hq : (r * W64 + x) / y < W64 :=by
          rw [Nat.div_lt_iff_lt_mul (by omega)]
          have :=Nat.mul_le_mul_right W64 (show r + 1 ≤ y from hr)
          rw [Nat.add_mul,Nat.one_mul,Nat.mul_comm y] at this
          omega
        have hdm :=(Nat.div_add_mod (r * W64 + x) y).symm
        have hrl : (r * W64 + x) % y < y :=Nat.mod_lt _ (by omega)
        generalize (r * W64 + x) / y = q at *
        generalize (r * W64 + x) % y = r' at *
        have hv : val W64 (xs.drop k) = x + W64 * val W64 (xs.drop (k + 1)) :=by rw [hdv];rfl
        have hst :=div_step hval hdm hv
        have HH :=Lib.hid (And.intro hst (And.intro hrow (And.intro hts (And.intro hchg hlt))))
        clear hst hv hdm hdv gx hval hrow hts hchg hlt
        go_wp2_with (go_at_call 228;refine (hd _).mono ?_;rintro e w2 ⟨rfl,hw⟩;rw [hw];clear hw)
        obtain ⟨hst,hrow,hts,hchg,hlt⟩ :=HH.out
        go_roundw
        case rel =>
          refine ⟨k,r',q :: ts,by omega,rfl,rfl,hrl,by simp [hlt];omega,?_,?_,hst,?_⟩
          · rw [show oz + (k + 1) = oz + k + 1 by omega] at hrow
            exact Row.consAt q hrow ⟨u,hu⟩
          · intro z hz
            rcases List.mem_cons.1 hz with rfl | hz
            · exact hq
            · exact hts z hz
          · exact hchg.trans (Chg.setCell wr bz (oz + k) (.int .u64 q) (In bz oz n) fun _ => ⟨rfl,by omega,by omega⟩) fun _ _ _ h => h
        case measure => simp [intOf]
def GotDivW (w : World) (s : Option Addr) (c X y : Nat) (e : Ending) (w' : World) : Prop :=∃ s' n' c',e = .returned (.tuple #[.slice s' n' c',.int .u64 (X % y : Nat)]) ∧ NatAt w' s' n' c' (X / y) ∧ Fr w s c s' c' ∧ Chg w w' (Blk s)
theorem nat_divW (w : World) (s sx : Option Addr) (n0 c n cx X y : Nat) (hc : SlOk w s c) (hcc : c ≤ (8388607 * Big + 1099511627775)) (hx : NatAt w sx n cx X) (hy : y < W64) (h0 : y ≠ 0) (dx : Dis sx s) :
    Calls Tryz.prog 157 #[.slice s n0 c,.slice sx n cx,.int .u64 y] w (GotDivW w s c X y) :=by
  have hz0 : ((y : Int) == 0) = false :=by simp;omega
  by_cases h1 : y = 1
  · subst h1
    have hs :=nat_set' w s sx n0 c n cx X hc hcc hx
    go_enter Tryz.func157,Tryz.ntmps157
    go_wp2_with (go_at_call 126;refine hs.mono ?_;rintro e w1 ⟨s',n',c',rfl,k1,k2,k3⟩)
    first | go_ret2 | refine ⟨_,results_tmp2 rfl _ _ _,?_⟩
    exact ⟨s',n',c',by simp [Nat.mod_one],by simpa using k1,k2,k3⟩
  · have hz1 : ((y : Int) == 1) = false :=by simp;omega
    have hnB :=hx.ok.2.2.1
    by_cases hn : n = 0
    · subst hn
      obtain rfl :=hx.zero
      unfold Big at hcc
      go_enter Tryz.func157,Tryz.ntmps157
      go_wp2
      first | go_ret2 | refine ⟨_,results_tmp2 rfl _ _ _,?_⟩
      exact ⟨s,0,c,by simp,by simpa using sliceNil_nat hc (by unfold Big;omega),.inl ⟨rfl,rfl⟩,Chg.refl _ _⟩
    · obtain ⟨n,rfl⟩ : ∃ k,n = k + 1 :=⟨n - 1,by omega⟩
      have hmk :=nat_make w s n0 c (n + 1) hc hnB (by unfold Big at *;omega)
      obtain ⟨bx,ox,xs,rfl,hrx,hlx,hltx,-,rfl,hwx,nfx,hx1,hx2,hbx⟩ :=hx.open
      clear hx
      unfold Big at hcc hx2 hnB
      unfold W64 at hy
      have hn0 : ((n : Int) + 1 == 0) = false :=by simp;omega
      go_enter Tryz.func157,Tryz.ntmps157
      go_wp2_with (first
        | (go_at_call 134;refine hmk.mono ?_;rintro e w1 ⟨s',c',rfl,h1,h2,h3,h4,h5⟩;obtain ⟨b,o,rfl,hw,hf,hb⟩ :=h3.pos (by omega))
        | (go_at_call 186;refine (divWVW w1 b o bx ox (n + 1) c' cx y xs (by omega) (by unfold Big;omega) hy h0 (hrx.keep h5) hlx hltx (fun j hj => hw j (by omega)) (dx.ne h4 hbx)).mono ?_;rintro e w2 ⟨zs,rfl,g1,g2,g3,g4,g5⟩)
        | (go_at_call 106;refine (nat_norm _ _ (n + 1) c' zs (.inr ⟨b,o,rfl,g2⟩) g1 (by omega) h1).mono ?_;rintro e w3 ⟨rfl,hw3⟩;rw [hw3];clear hw3))
      first | go_ret2 | refine ⟨_,results_tmp2 rfl _ _ _,?_⟩
      refine ⟨_,_,c',rfl,trim_nat (by omega) (by unfold Big at *;omega) (by unfold Big;omega) (h3.chg g5) (.inr ⟨b,o,rfl,g2⟩) g3 g4,h4,?_⟩
      exact (h5.any (Blk s)).fr h4 rfl g5 fun _ _ h => h.1
end Go.Proofs.YtfmmdamgcpiciaaGreatDoor
namespace Go.Proofs.YtfmmdamgcpiciaaGreatDoor
open Go Go.RowKit
theorem shl_split {x s t : Nat} (hst : s + t = 64) : x * 2 ^ s = x * 2 ^ s % W64 + W64 * (x / 2 ^ t) :=by
  have e : x * 2 ^ s / W64 = x / 2 ^ t :=by
    have : W64 = 2 ^ s * 2 ^ t :=by rw [← Nat.pow_add,hst]
    rw [this,Nat.mul_comm x,Nat.mul_div_mul_left _ _ (Nat.two_pow_pos s)]
  rw [← e]
  exact (Nat.mod_add_div _ _).symm
theorem shl_or {x y s t : Nat} (hst : s + t = 64) (hy : y < W64) : (x * 2 ^ s % W64) ||| (y / 2 ^ t) = x * 2 ^ s % W64 + y / 2 ^ t ∧ y / 2 ^ t < 2 ^ s ∧ x * 2 ^ s % W64 + y / 2 ^ t < W64 :=by
  have hW : W64 = 2 ^ t * 2 ^ s :=by rw [← Nat.pow_add,show t + s = 64 by omega]
  have hl : y / 2 ^ t < 2 ^ s :=by
    rw [Nat.div_lt_iff_lt_mul (Nat.two_pow_pos t),Nat.mul_comm,← hW];exact hy
  have hm : x * 2 ^ s % W64 = 2 ^ s * (x % 2 ^ t) :=by rw [hW,Nat.mul_mod_mul_right,Nat.mul_comm]
  have hxt : x % 2 ^ t < 2 ^ t :=Nat.mod_lt _ (Nat.two_pow_pos t)
  refine ⟨?_,hl,?_⟩
  · rw [hm];exact (Nat.two_pow_add_eq_or_of_lt hl _).symm
  · rw [hm,hW]
    have :=Nat.mul_le_mul_left (2 ^ s) (show x % 2 ^ t + 1 ≤ 2 ^ t from hxt)
    rw [Nat.mul_add,Nat.mul_one,Nat.mul_comm (2 ^ s) (2 ^ t)] at this
    omega
theorem and63 (x : Nat) (hx : x < 64) : bits .and .u64 (x : Int) 63 = (x : Int) :=by
  have h :=and_u64 x (2 ^ 6 - 1) (by omega) (by decide)
  rw [Nat.and_two_pow_sub_one_eq_mod,Nat.mod_eq_of_lt hx] at h
  exact h
theorem lsh_step {T P c D S x1 q xh xl W : Nat} (h : T + P * c = D * S + q) (hs : x1 * S = xh + W * q) : (xh + xl) + W * T + P * W * c = (x1 + W * D) * S + xl :=by
  have e : W * T + P * W * c = W * (D * S) + W * q :=by rw [Nat.mul_comm P W,Nat.mul_assoc W P c,← Nat.mul_add,h,Nat.mul_add]
  rw [Nat.add_mul,hs,Nat.mul_assoc W D S]
  omega
theorem lsh_end {T P c D S x q xh W : Nat} (h : T + P * c = D * S + q) (hs : x * S = xh + W * q) : xh + W * T + P * W * c = (x + W * D) * S :=by
  have e : W * T + P * W * c = W * (D * S) + W * q :=by rw [Nat.mul_comm P W,Nat.mul_assoc W P c,← Nat.mul_add,h,Nat.mul_add]
  rw [Nat.add_mul,hs,Nat.mul_assoc W D S]
  omega
theorem lshVU_g (w : World) (bz oz bx ox n cz cx s t : Nat) (xs : List Nat) (hn : 0 < n) (hnB : n ≤ Big) (hst : s + t = 64) (hs : 0 < s) (ht : 0 < t)
    (hx : Row .u64 w bx ox xs) (hlx : xs.length = n) (hbx : Lt W64 xs) (hz : Wr w bz oz n) (fx : (bx = bz ∧ ox = oz) ∨ bx ≠ bz) :
    Calls Tryz.prog 209 #[.slice (some ⟨bz,oz,none⟩) n cz,.slice (some ⟨bx,ox,none⟩) n cx,.int .u64 s] w fun e w' => ∃ zs c,e = .returned (.int .u64 (c : Nat)) ∧ zs.length = n ∧ Row .u64 w' bz oz zs ∧ Lt W64 zs ∧
      val W64 zs + W64 ^ n * c = val W64 xs * 2 ^ s ∧ c < 2 ^ s ∧ Chg w w' (In bz oz n) :=by
  unfold Big at hnB
  obtain ⟨n,rfl⟩ : ∃ k,n = k + 1 :=⟨n - 1,by omega⟩
  have hs0 : ((s : Int) == 0) = false :=by simp;omega
  have a1 :=and63 s (by omega)
  have a2 :=and63 t (by omega)
  have a3 : (64 : Int) - (s : Int) = (t : Int) :=by omega
  have gl : xs[n]? = some xs[n] :=List.getElem?_eq_getElem (by omega)
  have bl :=hbx _ (List.getElem_mem (show n < xs.length by omega))
  have hdl :=drop_get gl
  rw [List.drop_eq_nil_of_le (show xs.length ≤ n + 1 by omega)] at hdl
  generalize xs[n] = xl at gl bl hdl
  have cl :=hx n xl gl
  have a4 :=cast_div xl t
  have hcl :=(shl_or (x :=0) hst bl).2.1
  obtain ⟨c,hc⟩ : ∃ c,xl / 2 ^ t = c :=⟨_,rfl⟩
  rw [hc] at a4 hcl
  have a5 :=a4.symm
  clear a4
  have HC :=Lib.hid hc
  have HD :=Lib.hid hdl
  have hs63 : s ≤ 63 :=by omega
  have ht63 : t ≤ 63 :=by omega
  have HST :=Lib.hid hst
  clear hc hdl gl bl hst
  have e0 : (((n + 1 : Nat) : Int) - 1) = (n : Int) :=by omega
  go_enter Tryz.func209,Tryz.ntmps209
  go_wp2_with fail
  go_loopw [8] (fun i wr => ∃ (k : Nat) (ts : List Nat),k ≤ n ∧ i = .int .i64 (k : Int) ∧ ts.length = n - k ∧ Row .u64 wr bz (oz + (k + 1)) ts ∧ Lt W64 ts ∧ Row .u64 wr bx ox (xs.take (k + 1)) ∧
    val W64 ts + W64 ^ (n - k) * c = val W64 (xs.drop (k + 1)) * 2 ^ s + xs.getD k 0 / 2 ^ t ∧ Chg w wr (In bz oz (n + 1))) (fun i _ => (intOf i).toNat)
  case atStart =>
    refine ⟨n,[],Nat.le_refl _,rfl,by simp,Row.nil,Lt.nil,by rw [List.take_of_length_le (by omega)];exact hx,?_,Chg.refl _ _⟩
    have hdl :=HD.out
    have hc :=HC.out
    have gl : xs[n]? = some xl :=by
      have :=congrArg (fun l => l[0]?) hdl
      simpa using this
    rw [List.drop_eq_nil_of_le (show xs.length ≤ n + 1 by omega),List.getD_eq_getElem?_getD,gl]
    simp [val,hc]
  case round =>
    obtain ⟨k,ts,hk,rfl,hlt,hrow,hts,hxr,hval,hchg⟩ :=hrel
    rcases Nat.eq_zero_or_pos k with rfl | hkp
    · have g0 : xs[0]? = some xs[0] :=List.getElem?_eq_getElem (by omega)
      have c0 :=hxr 0 xs[0] (by rw [List.getElem?_take,if_pos (by omega)];exact g0)
      have hd1 :=drop_get g0
      rw [List.getD_eq_getElem?_getD,g0,Option.getD_some] at hval
      generalize hx0 : xs[0] = x0 at *
      simp only [Nat.add_zero] at c0
      obtain ⟨⟨u,hu⟩,hf⟩ :=(hz.chg hchg) 0 (by omega)
      simp only [Nat.add_zero] at hu hf
      have f1 : IntKind.u64.wrap ((x0 : Int) * 2 ^ s) = ((x0 * 2 ^ s % W64 : Nat) : Int) :=by rw [cast_mul,wrap_u64];rfl
      have hsp :=shl_split (x :=x0) HST.out
      have hml : x0 * 2 ^ s % W64 < W64 :=Nat.mod_lt _ (by decide)
      have HV :=Lib.hid (And.intro hval (And.intro hsp (And.intro hd1 (And.intro hml (And.intro hrow (And.intro hts hchg))))))
      generalize x0 * 2 ^ s % W64 = xh at *
      clear hval hsp hd1 g0 hml hx0
      have ez : ((0 : Nat) : Int) = 0 :=rfl
      go_wp2_with fail
      go_ret
      obtain ⟨hval,hsp,hd1,hml,hrow,hts,hchg⟩ :=HV.out
      have hrow' : Row .u64 (wr.setCell ⟨bz,oz,none⟩ (.int .u64 xh)) bz oz (xh :: ts) :=Row.consAt xh (by simpa using hrow) ⟨u,hu⟩
      refine ⟨xh :: ts,c,rfl,by simp [hlt],hrow',?_,?_,hcl,hchg.trans (Chg.setCell wr bz oz (.int .u64 xh) (In bz oz (n + 1)) fun _ => ⟨rfl,by omega,by omega⟩) fun _ _ _ h => h⟩
      · intro z hz
        rcases List.mem_cons.1 hz with rfl | hz
        · exact hml
        · exact hts z hz
      · rw [List.drop_zero] at hd1
        rw [hd1]
        simp only [val,Nat.sub_zero,Nat.zero_add] at *
        rw [Nat.pow_succ]
        exact lsh_end hval hsp
    · obtain ⟨k,rfl⟩ : ∃ j,k = j + 1 :=⟨k - 1,by omega⟩
      have g1 : xs[k + 1]? = some xs[k + 1] :=List.getElem?_eq_getElem (by omega)
      have g0 : xs[k]? = some xs[k] :=List.getElem?_eq_getElem (by omega)
      have b1 :=hbx _ (List.getElem_mem (show k + 1 < xs.length by omega))
      have b0 :=hbx _ (List.getElem_mem (show k < xs.length by omega))
      have hd1 :=drop_get g1
      have c1 :=hxr (k + 1) xs[k + 1] (by rw [List.getElem?_take,if_pos (by omega)];exact g1)
      have c0 :=hxr k xs[k] (by rw [List.getElem?_take,if_pos (by omega)];exact g0)
      rw [List.getD_eq_getElem?_getD,g1,Option.getD_some] at hval
      generalize hx1 : xs[k + 1] = x1 at *
      generalize hx0 : xs[k] = x0 at *
      obtain ⟨⟨u,hu⟩,hf⟩ :=(hz.chg hchg) (k + 1) (by omega)
      obtain ⟨o1,o2,o3⟩ :=shl_or (x :=x1) HST.out b0
      have f1 : IntKind.u64.wrap ((x1 : Int) * 2 ^ s) = ((x1 * 2 ^ s % W64 : Nat) : Int) :=by rw [cast_mul,wrap_u64];rfl
      have f2 :=(cast_div x0 t).symm
      have f3 :=or_u64 (x1 * 2 ^ s % W64) (x0 / 2 ^ t) (Nat.mod_lt _ (by decide)) (by unfold W64 at o3;omega)
      rw [o1] at f3
      have hsp :=shl_split (x :=x1) HST.out
      have e2 : ((k : Int) + 1 - 1) = (k : Int) :=by omega
      have c0' : wr.cell? ⟨bx,ox + k,none⟩ = some (.int .u64 x0) :=c0
      have HV :=Lib.hid (And.intro hval (And.intro hsp (And.intro hd1 (And.intro g0 (And.intro o3 (And.intro hx1 hx0))))))
      generalize x1 * 2 ^ s % W64 = xh at *
      generalize hxl : x0 / 2 ^ t = xl0 at *
      have HXL :=Lib.hid hxl
      clear hxl hval hsp hd1 g0 g1 o3 o1 o2 hx1 hx0
      go_wp2_with (first
        | (refine wp_region_lit_segs (id :=13) [[0,1,2,3,4,5,6,7,8,9,10,11,12,13,14,15,16,17]] mixed (by kernel_rfl) ?_;simp only [wpSegsL,gaC,gaN,lZ0,lS0,coS])
        | refine ⟨by kernel_rfl,?_⟩)
      obtain ⟨hval,hsp,hd1,g0,o3,hx1,hx0⟩ :=HV.out
      go_roundw
      case rel =>
        have hsc :=Chg.setCell wr bz (oz + (k + 1)) (.int .u64 (xh + xl0 : Nat)) (In bz oz (n + 1)) fun _ => ⟨rfl,by omega,by omega⟩
        refine ⟨k,(xh + xl0) :: ts,by omega,rfl,by simp [hlt];omega,?_,?_,?_,?_,(hchg.trans hsc fun _ _ _ h => h).drew⟩
        · refine Row.consAt (xh + xl0) ?_ ⟨u,hu⟩
          rw [show oz + (k + 1) + 1 = oz + (k + 1 + 1) by omega];exact hrow
        · intro z hz
          rcases List.mem_cons.1 hz with rfl | hz
          · exact o3
          · exact hts z hz
        · intro j y hj
          rw [List.getElem?_take] at hj
          split at hj
          · have :=hxr j y (by rw [List.getElem?_take,if_pos (by omega)];exact hj)
            refine (cell_setCell_ne ?_).trans this
            rintro ⟨q1,q2⟩
            rcases fx with ⟨_,q3⟩ | q3
            · omega
            · exact q3 q1
          · cases hj
        · rw [hd1,show n - k = n - (k + 1) + 1 by omega,Nat.pow_succ,List.getD_eq_getElem?_getD,g0,Option.getD_some]
          simp only [val]
          rw [HXL.out]
          exact lsh_step hval hsp
      case measure => simp [intOf]
end Go.Proofs.YtfmmdamgcpiciaaGreatDoor
namespace Go.Proofs.YtfmmdamgcpiciaaGreatDoor
open Go Go.RowKit
theorem shr_split {x0 x1 E s t : Nat} (hst : s + t = 64) : (x0 + W64 * (x1 + W64 * E)) / 2 ^ s = x0 / 2 ^ s + x1 * 2 ^ t % W64 + W64 * ((x1 + W64 * E) / 2 ^ s) :=by
  have hW : W64 = 2 ^ s * 2 ^ t :=by rw [← Nat.pow_add,hst]
  have hp :=Nat.two_pow_pos s
  have e1 : (x0 + W64 * (x1 + W64 * E)) / 2 ^ s = x0 / 2 ^ s + 2 ^ t * (x1 + W64 * E) :=by
    rw [show W64 * (x1 + W64 * E) = 2 ^ s * (2 ^ t * (x1 + W64 * E)) by rw [← Nat.mul_assoc,← hW],Nat.add_mul_div_left _ _ hp]
  have e2 : x1 * 2 ^ t % W64 = 2 ^ t * (x1 % 2 ^ s) :=by rw [hW,Nat.mul_mod_mul_right,Nat.mul_comm]
  have e3 : (x1 + W64 * E) % 2 ^ s = x1 % 2 ^ s :=by
    rw [show W64 * E = 2 ^ s * (2 ^ t * E) by rw [← Nat.mul_assoc,← hW],Nat.add_mul_mod_self_left]
  have e4 :=Nat.div_add_mod (x1 + W64 * E) (2 ^ s)
  rw [e3] at e4
  rw [e1,e2,← e4,Nat.mul_add,← Nat.mul_assoc,Nat.mul_comm (2 ^ t) (2 ^ s),← hW,e4]
  omega
theorem Row.drew' {k : IntKind} {w : World} {b o : Nat} {xs : List Nat} (h : Row k w b o xs) : Row k w.drew b o xs :=h
theorem rshVU_g (w : World) (bz oz bx ox n cz cx s t : Nat) (xs : List Nat) (hn : 0 < n) (hnB : n ≤ Big) (hst : s + t = 64) (hs : 0 < s) (ht : 0 < t)
    (hx : Row .u64 w bx ox xs) (hlx : xs.length = n) (hbx : Lt W64 xs) (hz : Wr w bz oz n) (fx : (bx = bz ∧ ox = oz) ∨ bx ≠ bz) :
    Calls Tryz.prog 231 #[.slice (some ⟨bz,oz,none⟩) n cz,.slice (some ⟨bx,ox,none⟩) n cx,.int .u64 s] w fun e w' => ∃ zs c,e = .returned (.int .u64 (c : Nat)) ∧ zs.length = n ∧ Row .u64 w' bz oz zs ∧ Lt W64 zs ∧
      val W64 zs = val W64 xs / 2 ^ s ∧ Chg w w' (In bz oz n) :=by
  unfold Big at hnB
  obtain ⟨n,rfl⟩ : ∃ k,n = k + 1 :=⟨n - 1,by omega⟩
  have hs0 : ((s : Int) == 0) = false :=by simp;omega
  have a1 :=and63 s (by omega)
  have a2 :=and63 t (by omega)
  have a3 : (64 : Int) - (s : Int) = (t : Int) :=by omega
  have hs63 : s ≤ 63 :=by omega
  have ht63 : t ≤ 63 :=by omega
  have HST :=Lib.hid hst
  have gl : xs[0]? = some xs[0] :=List.getElem?_eq_getElem (by omega)
  have cl :=hx 0 _ gl
  generalize xs[0] = xl at gl cl
  simp only [Nat.add_zero] at cl
  have a4 : IntKind.u64.wrap ((xl : Int) * 2 ^ t) = ((xl * 2 ^ t % W64 : Nat) : Int) :=by rw [cast_mul,wrap_u64];rfl
  generalize xl * 2 ^ t % W64 = c at *
  clear gl hst
  go_enter Tryz.func231,Tryz.ntmps231
  go_wp2_with fail
  go_loopw [8] (fun i wr => ∃ (k : Nat) (zs : List Nat),k ≤ n ∧ i = .int .i64 ((k : Int) + 1) ∧ zs.length = k ∧ Row .u64 wr bz oz zs ∧ Lt W64 zs ∧ Row .u64 wr bx (ox + k) (xs.drop k) ∧
    val W64 zs + W64 ^ k * (val W64 (xs.drop k) / 2 ^ s) = val W64 xs / 2 ^ s ∧ Chg w wr (In bz oz (n + 1))) (fun i _ => n + 1 - (intOf i).toNat)
  case atStart => exact ⟨0,[],Nat.zero_le _,rfl,rfl,Row.nil,Lt.nil,hx,by simp [val],Chg.refl _ _⟩
  case round =>
    obtain ⟨k,zs,hk,rfl,hlz,hrow,hzs,hxr,hval,hchg⟩ :=hrel
    by_cases hkn : k < n
    · have g1 : xs[k + 1]? = some xs[k + 1] :=List.getElem?_eq_getElem (by omega)
      have g0 : xs[k]? = some xs[k] :=List.getElem?_eq_getElem (by omega)
      have b1 :=hbx _ (List.getElem_mem (show k + 1 < xs.length by omega))
      have b0 :=hbx _ (List.getElem_mem (show k < xs.length by omega))
      have hd0 :=drop_get g0
      have hd1 :=drop_get g1
      have c0 :=hxr 0 xs[k] (by rw [hd0];rfl)
      have c1 :=hxr 1 xs[k + 1] (by rw [hd0,hd1];rfl)
      simp only [Nat.add_zero] at c0
      generalize hx1 : xs[k + 1] = x1 at *
      generalize hx0 : xs[k] = x0 at *
      obtain ⟨⟨u,hu⟩,hf⟩ :=(hz.chg hchg) k (by omega)
      obtain ⟨o1,o2,o3⟩ :=shl_or (x :=x1) (y :=x0) (s :=t) (t :=s) (by have :=HST.out;omega) b0
      have f1 : IntKind.u64.wrap ((x1 : Int) * 2 ^ t) = ((x1 * 2 ^ t % W64 : Nat) : Int) :=by rw [cast_mul,wrap_u64];rfl
      have f2 :=(cast_div x0 s).symm
      have f3 :=or_u64 (x0 / 2 ^ s) (x1 * 2 ^ t % W64) (by unfold W64 at o3;omega) (Nat.mod_lt _ (by decide))
      rw [Nat.or_comm,o1] at f3
      have hsp :=shr_split (x0 :=x0) (x1 :=x1) (E :=val W64 (xs.drop (k + 2))) HST.out
      have HV :=Lib.hid (And.intro hval (And.intro hsp (And.intro hd0 (And.intro hd1 (And.intro o3 (And.intro hrow (And.intro hzs (And.intro hxr hchg))))))))
      have e2 : ((k : Int) + 1 - 1) = (k : Int) :=by omega
      have c1' : wr.cell? ⟨bx,ox + (k + 1),none⟩ = some (.int .u64 x1) :=by rw [← Nat.add_assoc];exact c1
      generalize x1 * 2 ^ t % W64 = xh at *
      generalize x0 / 2 ^ s = xl0 at *
      clear hval hsp hd0 hd1 g0 g1 o3 o1 o2 hx1 hx0 hrow hzs hxr hchg
      go_wp2_with (first
        | (refine wp_region_lit_segs (id :=13) [[0,1,2,3,4,5,6,7,8,9,10,11,12,13,14,15,16,17,18]] mixed (by kernel_rfl) ?_;simp only [wpSegsL,gaC,gaN,lZ0,lS0,coS])
        | refine ⟨by kernel_rfl,?_⟩)
      obtain ⟨hval,hsp,hd0,hd1,o3,hrow,hzs,hxr,hchg⟩ :=HV.out
      go_roundw
      case rel =>
        have hsc :=Chg.setCell wr bz (oz + k) (.int .u64 (xh + xl0 : Nat)) (In bz oz (n + 1)) fun _ => ⟨rfl,by omega,by omega⟩
        subst hlz
        refine ⟨zs.length + 1,zs ++ [xh + xl0],by omega,by go_num,by simp,(hrow.store (xh + xl0) ⟨u,hu⟩).drew',hzs.snoc o3,?_,?_,(hchg.trans hsc fun _ _ _ h => h).drew⟩
        · have h1 : Row .u64 wr bx (ox + (zs.length + 1)) (xs.drop (zs.length + 1)) :=by
            have :=hxr.drop 1
            rw [List.drop_drop,Nat.add_assoc] at this
            exact this
          refine Row.drew' (h1.chg (Chg.setCell wr bz (oz + zs.length) (.int .u64 (xh + xl0 : Nat)) (fun b o => b = bz ∧ o = oz + zs.length) fun _ => ⟨rfl,rfl⟩) ?_)
          rintro j _ ⟨q1,q2⟩
          rcases fx with ⟨_,q3⟩ | q3
          · omega
          · exact q3 q1
        · have e : val W64 (xs.drop zs.length) = x0 + W64 * (x1 + W64 * val W64 (xs.drop (zs.length + 2))) :=by rw [hd0,hd1];rfl
          have e2 : val W64 (xs.drop (zs.length + 1)) = x1 + W64 * val W64 (xs.drop (zs.length + 2)) :=by rw [hd1];rfl
          rw [e,hsp] at hval
          rw [e2,val_snoc,Nat.pow_succ,← hval,Nat.add_comm xh xl0,Nat.mul_add _ (xl0 + xh),Nat.mul_assoc]
          omega
      case measure => simp [intOf];omega
    · obtain rfl : k = n :=by omega
      have g0 : xs[k]? = some xs[k] :=List.getElem?_eq_getElem (by omega)
      have b0 :=hbx _ (List.getElem_mem (show k < xs.length by omega))
      have hd0 :=drop_get g0
      rw [List.drop_eq_nil_of_le (show xs.length ≤ k + 1 by omega)] at hd0
      have c0 :=hxr 0 xs[k] (by rw [hd0];rfl)
      simp only [Nat.add_zero] at c0
      generalize hx0 : xs[k] = x0 at *
      obtain ⟨⟨u,hu⟩,hf⟩ :=(hz.chg hchg) k (by omega)
      have f2 :=(cast_div x0 s).symm
      have hql : x0 / 2 ^ s < W64 :=Nat.lt_of_le_of_lt (Nat.div_le_self _ _) b0
      have hv : val W64 (xs.drop k) = x0 :=by rw [hd0];simp [val]
      rw [hv] at hval
      have HV :=Lib.hid (And.intro hval (And.intro hql (And.intro hrow (And.intro hzs hchg))))
      generalize x0 / 2 ^ s = q at *
      clear hval hd0 g0 hx0 hv hrow hzs hxr hchg hql
      go_wp2_with fail
      go_ret
      obtain ⟨hval,hql,hrow,hzs,hchg⟩ :=HV.out
      subst hlz
      refine ⟨zs ++ [q],c,rfl,by simp,hrow.store q ⟨u,hu⟩,hzs.snoc hql,by rw [val_snoc];exact hval,?_⟩
      exact hchg.trans (Chg.setCell wr bz (oz + zs.length) (.int .u64 q) (In bz oz (zs.length + 1)) fun _ => ⟨rfl,by omega,by omega⟩) fun _ _ _ h => h
end Go.Proofs.YtfmmdamgcpiciaaGreatDoor
namespace Go.Proofs.YtfmmdamgcpiciaaGreatDoor
open Go Go.RowKit
theorem grow_nil_run (w : World) (t : TypeId) (ht : Tryz.prog.underlying t = some (.slice 109)) (n : Nat) (h0 : 0 < n) (hn : n ≤ 1000) :
    (Builtin.append_ #[t,3] t #[.slice none 0 0,.int .i64 n]).run Tryz.prog w =
      .ok (.slice (some ⟨w.heap.size,0,none⟩) n (grownCap w n 0 109)) (w.drew.alloc (.cells (Builtin.zeroCells #[.int .u64 0] n ++ Builtin.zeroCells #[.int .u64 0] (grownCap w n 0 109 - n)) 109)) :=by
  obtain ⟨i0,hi,hz0,hz1,hz2⟩ :=info_parts info109
  exact Lib.run_append_nil_zeros w t 3 t 109 i0 (.int .u64 0) .i64 .i64 ht Tryz.underlying3 hi hz0 n h0 (by omega) (by omega) (by rw [hz2];omega)
theorem zero_cell (n j : Nat) (h : j < n) : (Builtin.zeroCells #[.int .u64 0] n)[j]? = some (.int .u64 0) :=by
  simp [Builtin.zeroCells,h,Nat.mod_one]
theorem zero_size (n : Nat) : (Builtin.zeroCells #[.int .u64 0] n).size = n :=by simp [Builtin.zeroCells]
theorem wr_zeros (w : World) (m n : Nat) (t : TypeId) : Wr (w.alloc (.cells (Builtin.zeroCells #[.int .u64 0] m ++ Builtin.zeroCells #[.int .u64 0] n) t)) w.heap.size 0 (m + n) :=fun j hj => by
  refine ⟨?_,NF.made w _ _ _⟩
  rw [World.cell?_alloc_at _ _ _ _ rfl,Nat.zero_add]
  by_cases h : j < m
  · exact ⟨_,by rw [Array.getElem?_append_left (by rw [zero_size];exact h)];exact zero_cell m j h⟩
  · exact ⟨_,by rw [Array.getElem?_append_right (by rw [zero_size];omega),zero_size];exact zero_cell n (j - m) (by omega)⟩
theorem grow_nil (w : World) (n : Nat) (h0 : 0 < n) (hn : n ≤ 1000) :
    Calls Tryz.prog 174 #[.slice none 0 0,.int .i64 n] w fun e w' => ∃ b c,e = .returned (.slice (some ⟨b,0,none⟩) 0 c) ∧ n ≤ c ∧ c < 9223372036854775808 ∧ Wr w' b 0 c ∧ NF w' b ∧ w.heap.size ≤ b ∧ b < w'.heap.size ∧ Kept w w' :=by
  have hr :=fun W => grow_nil_run W 110 Tryz.underlying110 n h0 hn
  have hc :=fun W => And.intro (grownCap_ge W n 0 109) (grownCap_le_maxLen W n 0 109 (by unfold maxLen;omega))
  have HR :=Lib.hid hr
  clear hr
  go_enter Tryz.func174,Tryz.ntmps174
  go_wp2_with (at_builtin;refine Lib.wpList_append_run _ rfl _ _ 110 3 rfl (.slice none 0 0) (.int .i64 n) rfl rfl _ _ (HR.out _) ?_;have hcw :=hc w;clear hc;unfold maxLen at hcw;generalize grownCap w n 0 109 = cap at *)
  first | go_ret | refine ⟨_,results_tmp rfl _ _ _,?_⟩
  refine ⟨w.heap.size,cap,rfl,hcw.1,by omega,?_,NF.made w.drew _ _,Nat.le_refl _,by simp,(Chg.alloc w.drew _ None2).of_drew⟩
  have :=wr_zeros w.drew n (cap - n) 109
  rw [show n + (cap - n) = cap by omega] at this
  exact this
theorem cell_store {w : World} {b o : Nat} {u v : Value} (h : w.cell? ⟨b,o,none⟩ = some u) : ∃ x,(w.setCell ⟨b,o,none⟩ v).cell? ⟨b,o,none⟩ = some x :=⟨v,cell_setCell_eq h⟩
theorem stk_small (w : World) (bs n : Nat) (h0 : 0 < n) (hn : n ≤ 4) (hs : w.cell? ⟨bs,0,none⟩ = some (.pointer none)) :
    Calls Tryz.prog 152 #[ptr bs,.int .i64 n] w fun e w' => ∃ b c,e = .returned (.slice (some ⟨b,0,none⟩) n c) ∧ n ≤ c ∧ c < 9223372036854775808 ∧ Wr w' b 0 c ∧ NF w' b ∧ w.heap.size ≤ b ∧ b < w'.heap.size ∧ Kept w w' :=by
  have hg :=grow_nil w n h0 (by omega)
  go_enter Tryz.func152,Tryz.ntmps152
  go_wp2_with (go_at_call 174;refine hg.mono ?_;rintro e w1 ⟨b,c,rfl,g1,gc,g2,g3,g4,g5,g6⟩;obtain ⟨⟨u,hu⟩,hf⟩ :=g2 0 (by omega);simp only [Nat.add_zero] at hu hf)
  first | go_ret | refine ⟨_,results_tmp rfl _ _ _,?_⟩
  have hsc :=Chg.setCell w1 b 0 (.int .u64 11259375) (fun b' _ => b' = b) fun _ => rfl
  exact ⟨b,c,rfl,g1,gc,g2.chg hsc,g3.chg g5 hsc,g4,by have :=hsc.size;omega,g6.keptNew hsc fun b' _ h => by omega⟩
theorem grow_nil' (w : World) (n : Nat) (h0 : 0 < n) (hn : n ≤ 1000) :
    Calls Tryz.prog 214 #[.slice none 0 0,.int .i64 n] w fun e w' => ∃ b c,e = .returned (.slice (some ⟨b,0,none⟩) 0 c) ∧ n ≤ c ∧ c < 9223372036854775808 ∧ Wr w' b 0 c ∧ NF w' b ∧ w.heap.size ≤ b ∧ b < w'.heap.size ∧ Kept w w' :=by
  have hr :=fun W => grow_nil_run W 108 Tryz.underlying108 n h0 hn
  have hc :=fun W => And.intro (grownCap_ge W n 0 109) (grownCap_le_maxLen W n 0 109 (by unfold maxLen;omega))
  have HR :=Lib.hid hr
  clear hr
  go_enter Tryz.func214,Tryz.ntmps214
  go_wp2_with (at_builtin;refine Lib.wpList_append_run _ rfl _ _ 108 3 rfl (.slice none 0 0) (.int .i64 n) rfl rfl _ _ (HR.out _) ?_;have hcw :=hc w;clear hc;unfold maxLen at hcw;generalize grownCap w n 0 109 = cap at *)
  first | go_ret | refine ⟨_,results_tmp rfl _ _ _,?_⟩
  refine ⟨w.heap.size,cap,rfl,hcw.1,by omega,?_,NF.made w.drew _ _,Nat.le_refl _,by simp,(Chg.alloc w.drew _ None2).of_drew⟩
  have :=wr_zeros w.drew n (cap - n) 109
  rw [show n + (cap - n) = cap by omega] at this
  exact this
theorem round4 (n : Nat) (hn : n ≤ 1000) : bits .andNot .i64 ((n : Int) + 3) 3 = (((n + 3) / 4 * 4 : Nat) : Int) :=by
  have h : ∀ k : Fin 1001,bits .andNot .i64 ((k.val : Int) + 3) 3 = (((k.val + 3) / 4 * 4 : Nat) : Int) :=by decide +kernel
  exact h ⟨n,by omega⟩
theorem inner_first (w : World) (bi n : Nat) (h0 : 0 < n) (hn : n ≤ 900) (hs : w.cell? ⟨bi,0,none⟩ = some (.slice none 0 0)) (hf : w.frozen? ⟨bi,0,none⟩ = false) :
    Calls Tryz.prog 175 #[ptr bi,.int .i64 n] w fun e w' => ∃ b c,e = .returned (.slice (some ⟨b,0,none⟩) n n) ∧ n ≤ (n + 3) / 4 * 4 ∧ (n + 3) / 4 * 4 ≤ c ∧ c < 9223372036854775808 ∧ Wr w' b 0 c ∧ NF w' b ∧ w.heap.size ≤ b ∧ b < w'.heap.size ∧ w'.cell? ⟨bi,0,none⟩ = some (.slice (some ⟨b,0,none⟩) ((n + 3) / 4 * 4) c) ∧ Chg w w' (fun b' _ => b' = bi) :=by
  have h4 :=round4 n (by omega)
  have hle : n ≤ (n + 3) / 4 * 4 :=by omega
  have hle2 : (n + 3) / 4 * 4 ≤ 1000 :=by omega
  have hlt :=lt_of_cell hs
  generalize (n + 3) / 4 * 4 = m at *
  have hg :=grow_nil' w m (by omega) hle2
  go_enter Tryz.func175,Tryz.ntmps175
  go_wp2_with (go_at_call 214;refine hg.mono ?_;rintro e w1 ⟨b,c,rfl,g1,gc,g2,g3,g4,g5,g6⟩;have hs1 :=Kept.at g6 hs;have hf1 :=(g6.frz bi 0 hlt).trans hf;obtain ⟨⟨u,hu⟩,hfu⟩ :=g2 0 (by omega);simp only [Nat.add_zero] at hu hfu;have hbb : bi ≠ b :=(by omega);have q1 :=cs_ne (u :=.slice (some ⟨b,0,none⟩) m c) (cs_ne (u :=.slice (some ⟨b,0,none⟩) 0 c) hu (b' :=bi) (o' :=0) (by omega)) (b' :=bi) (o' :=0) (by omega))
  have s1 :=Chg.setCell w1 bi 0 (.slice (some ⟨b,0,none⟩) 0 c) (fun b' _ => b' = bi) fun _ => rfl
  have s2 :=Chg.setCell (w1.setCell ⟨bi,0,none⟩ (.slice (some ⟨b,0,none⟩) 0 c)) bi 0 (.slice (some ⟨b,0,none⟩) m c) (fun b' _ => b' = bi) fun _ => rfl
  have s12 :=s1.trans s2 (fun _ _ _ h => h)
  generalize hw3 : (w1.setCell ⟨bi,0,none⟩ (.slice (some ⟨b,0,none⟩) 0 c)).setCell ⟨bi,0,none⟩ (.slice (some ⟨b,0,none⟩) m c) = w3 at *
  have s3 :=Chg.setCell w3 b 0 (.int .u64 1043915) (fun b' _ => b' = b) fun _ => rfl
  have hc3 : w3.cell? ⟨bi,0,none⟩ = some (.slice (some ⟨b,0,none⟩) m c) :=by
    rw [← hw3];obtain ⟨x,hx⟩ :=cell_store (v :=.slice (some ⟨b,0,none⟩) 0 c) hs1;exact cell_setCell_eq hx
  first | go_ret | refine ⟨_,results_tmp rfl _ _ _,?_⟩
  refine ⟨b,c,by first | rfl | (simp;omega),hle,g1,gc,((g2.chg s12).chg s3),((g3.chg g5 s12).chg (by have :=s12.size;omega) s3),g4,?_,?_,?_⟩
  · have :=s12.size;have :=s3.size;omega
  · exact cs_ne hc3 (by omega)
  · exact ((Chg.any g6 _).trans s12 fun _ _ _ h => h).trans s3 fun _ _ h h' => absurd h (by omega)
end Go.Proofs.YtfmmdamgcpiciaaGreatDoor
namespace Go.Proofs.YtfmmdamgcpiciaaGreatDoor
open Go Go.RowKit
theorem olds_of {w : World} {b n : Nat} (h : Wr w b 0 n) : ∃ olds : List Value,olds.length = n ∧ ∀ j v,olds[j]? = some v → w.cell? ⟨b,j,none⟩ = some v :=by
  refine ⟨(List.range n).map fun j => (w.cell? ⟨b,j,none⟩).getD (.int .u64 0),by simp,fun j v hj => ?_⟩
  rw [List.getElem?_map] at hj
  by_cases hjn : j < n
  · rw [List.getElem?_range hjn] at hj
    obtain ⟨⟨u,hu⟩,-⟩ :=h j hjn
    rw [Nat.zero_add] at hu
    simp only [Option.map_some,hu,Option.getD_some] at hj
    rw [← Option.some.inj hj];exact hu
  · rw [List.getElem?_eq_none (by simp;omega)] at hj;cases hj
theorem grow_run (w : World) (b c n : Nat) (h0 : 0 < n) (hn : n ≤ 2000) (hc : c ≤ 5000) (hw : Wr w b 0 c) :
    ∃ cells : Array Value,cells.size = grownCap w (c + n) c 109 ∧ (Builtin.append_ #[108,3] 108 #[.slice (some ⟨b,0,none⟩) c c,.int .i64 n]).run Tryz.prog w =
      .ok (.slice (some ⟨w.heap.size,0,none⟩) (c + n) (grownCap w (c + n) c 109)) (w.drew.alloc (.cells cells 109)) :=by
  obtain ⟨i0,hi,hz0,hz1,hz2⟩ :=info_parts info109
  obtain ⟨olds,hl,ho⟩ :=olds_of hw
  have hfc :=run_firstCells_some (P :=Tryz.prog) w.drew i0.size c ⟨b,0,none⟩ c c olds (by rw [hz1,Nat.mul_one];exact hl) (fun j v hj => by have :=ho j v hj;simp only [Addr.add,Nat.zero_add];by_cases hj0 : j = 0 <;> simp only [hj0,if_true,if_false] at this ⊢ <;> exact this)
  have hn :=nextslicecap_le (need :=c + n) (old :=c) (by omega)
  refine ⟨_,?_,Lib.run_append_grow_zeros w 108 3 108 109 i0 (.int .u64 0) .i64 .i64 Tryz.underlying108 Tryz.underlying3 hi hz0 (some ⟨b,0,none⟩) c c olds hfc n h0 (by rw [hz1];omega) (by omega) (by omega) (by rw [hz2];omega) (by rw [hz2];omega)⟩
  have :=grownCap_ge w (c + n) c 109
  simp only [Array.size_append,zero_size,Value.cells,List.size_toArray,hl]
  omega
theorem wr_cells (w : World) (cs : Array Value) (t : TypeId) : Wr (w.alloc (.cells cs t)) w.heap.size 0 cs.size :=fun j hj => by
  refine ⟨?_,NF.made w _ _ _⟩
  rw [World.cell?_alloc_at _ _ _ _ rfl,Nat.zero_add]
  exact ⟨cs[j],Array.getElem?_eq_getElem hj⟩
theorem grow_in (w : World) (b l c n : Nat) (hl : l ≤ c) (hc : c < 9223372036854775808) (hn : l + n ≤ c) (hn2 : n ≤ 1000) :
    Calls Tryz.prog 214 #[.slice (some ⟨b,0,none⟩) l c,.int .i64 n] w fun e w' => e = .returned (.slice (some ⟨b,0,none⟩) l c) ∧ w' = w :=by
  go_enter Tryz.func214,Tryz.ntmps214
  go_wp2_with fail
  first | go_ret | refine ⟨_,results_tmp rfl _ _ _,?_⟩
  exact ⟨rfl,rfl⟩
theorem grow_out (w : World) (b l c n : Nat) (hl : l ≤ c) (hl2 : l ≤ 2000) (hn : c < l + n) (hn2 : n ≤ 1000) (hw : Wr w b 0 c) :
    Calls Tryz.prog 214 #[.slice (some ⟨b,0,none⟩) l c,.int .i64 n] w fun e w' => ∃ b' c',e = .returned (.slice (some ⟨b',0,none⟩) l c') ∧ l + n ≤ c' ∧ c' < 9223372036854775808 ∧ Wr w' b' 0 c' ∧ NF w' b' ∧ w.heap.size ≤ b' ∧ b' < w'.heap.size ∧ Kept w w' :=by
  have hr :=fun W => grow_run W b c (l + n - c) (by omega) (by omega) (by omega)
  have hg :=fun W => And.intro (grownCap_ge W (c + (l + n - c)) c 109) (grownCap_le_maxLen W (c + (l + n - c)) c 109 (by unfold maxLen;omega))
  have hi : ((n : Int) - ((c : Int) - l)) = ((l + n - c : Nat) : Int) :=by omega
  have HR :=Lib.hid hr
  have hln : l + n = c + (l + n - c) :=by omega
  clear hr
  generalize l + n - c = k at *
  go_enter Tryz.func214,Tryz.ntmps214
  go_wp2_with (at_builtin;obtain ⟨cs,hcs,hrr⟩ :=HR.out _ hw;refine Lib.wpList_append_run _ rfl _ _ 108 3 rfl (.slice (some ⟨b,0,none⟩) c c) (.int .i64 k) rfl rfl _ _ hrr ?_;have hcw :=hg w;unfold maxLen at hcw;clear hg HR hrr;have hwr :=wr_cells w.drew cs 109;rw [hcs] at hwr;clear hcs;generalize grownCap w (c + k) c 109 = cap at *)
  first | go_ret | refine ⟨_,results_tmp rfl _ _ _,?_⟩
  exact ⟨w.heap.size,cap,rfl,by omega,by omega,hwr,NF.made w.drew _ _,Nat.le_refl _,by simp,(Chg.alloc w.drew _ None2).of_drew⟩
structure Stk (w : World) (bs i b l c : Nat) : Prop where
  top : w.cell? ⟨bs,0,none⟩ = some (ptr i)
  inn : w.cell? ⟨i,0,none⟩ = some (.slice (some ⟨b,0,none⟩) l c)
  frz : w.frozen? ⟨i,0,none⟩ = false
  le : l ≤ c
  big : c < 9223372036854775808
  wr : Wr w b 0 c
  nf : NF w b
  lt : b < w.heap.size
  ne : i ≠ b ∧ bs ≠ i ∧ bs ≠ b
theorem inner_next (w : World) (bs bi b l c n : Nat) (h0 : 0 < n) (hn : n ≤ 900) (hs : Stk w bs bi b l c) (hl2 : l ≤ 2000) :
    Calls Tryz.prog 175 #[ptr bi,.int .i64 n] w fun e w' => ∃ b' c',e = .returned (.slice (some ⟨b',l,none⟩) n n) ∧ Wr w' b' l n ∧ Stk w' bs bi b' (l + (n + 3) / 4 * 4) c' ∧ (b' = b ∨ w.heap.size ≤ b') ∧ Chg w w' (fun p o => p = bi ∨ (p = b ∧ l ≤ o)) :=by
  have h4 :=round4 n (by omega)
  have hle : n ≤ (n + 3) / 4 * 4 :=by omega
  have hle2 : (n + 3) / 4 * 4 ≤ 1000 :=by omega
  have hlt :=lt_of_cell hs.inn
  generalize (n + 3) / 4 * 4 = m at *
  have hg : Calls Tryz.prog 214 #[.slice (some ⟨b,0,none⟩) l c,.int .i64 m] w fun e w' => ∃ b' c',e = .returned (.slice (some ⟨b',0,none⟩) l c') ∧ l + m ≤ c' ∧ c' < 9223372036854775808 ∧ Wr w' b' 0 c' ∧ NF w' b' ∧ (b' = b ∨ w.heap.size ≤ b') ∧ b' < w'.heap.size ∧ Kept w w' :=by
    by_cases h : l + m ≤ c
    · refine (grow_in w b l c m hs.le hs.big h hle2).mono ?_
      rintro e w1 ⟨rfl,rfl⟩
      exact ⟨b,c,rfl,h,hs.big,hs.wr,hs.nf,.inl rfl,hs.lt,Chg.refl _ _⟩
    · refine (grow_out w b l c m hs.le hl2 (by omega) hle2 hs.wr).mono ?_
      rintro e w1 ⟨b',c',rfl,h1,hb,h2,h3,h4,h5,h6⟩
      exact ⟨b',c',rfl,h1,hb,h2,h3,.inr h4,h5,h6⟩
  have hs0 :=hs.inn
  have hf0 :=hs.frz
  have hlen :=hs.le
  have hbig :=hs.big
  have HS :=Lib.hid hs
  clear hs
  have htop :=HS.out.top
  have hne :=HS.out.ne
  have hbl :=HS.out.lt
  have htl :=lt_of_cell htop
  go_enter Tryz.func175,Tryz.ntmps175
  go_wp2_with (go_at_call 214;refine hg.mono ?_;rintro e w1 ⟨b',c',rfl,g1,gb,g2,g3,g4,g5,g6⟩;have hs1 :=Kept.at g6 hs0;have ht1 :=Kept.at g6 htop;have hf1 :=(g6.frz bi 0 hlt).trans hf0;obtain ⟨⟨u,hu⟩,hfu⟩ :=g2 l (by omega);simp only [Nat.zero_add] at hu hfu;have hbb : bi ≠ b' :=(by omega);have hcc' : (0 : Nat) = 0 :=rfl;have q1 :=cs_ne (u :=.slice (some ⟨b',0,none⟩) (l + m) c') (cs_ne (u :=.slice (some ⟨b',0,none⟩) l c') hu (b' :=bi) (o' :=0) (by omega)) (b' :=bi) (o' :=0) (by omega))
  first | go_ret | refine ⟨_,results_tmp rfl _ _ _,?_⟩
  have s1 :=Chg.setCell w1 bi 0 (.slice (some ⟨b',0,none⟩) l c') (fun b' _ => b' = bi) fun _ => rfl
  have s2 :=Chg.setCell (w1.setCell ⟨bi,0,none⟩ (.slice (some ⟨b',0,none⟩) l c')) bi 0 (.slice (some ⟨b',0,none⟩) (l + m) c') (fun b' _ => b' = bi) fun _ => rfl
  have s12 :=s1.trans s2 (fun _ _ _ h => h)
  have hc3 : ((w1.setCell ⟨bi,0,none⟩ (.slice (some ⟨b',0,none⟩) l c')).setCell ⟨bi,0,none⟩ (.slice (some ⟨b',0,none⟩) (l + m) c')).cell? ⟨bi,0,none⟩ = some (.slice (some ⟨b',0,none⟩) (l + m) c') :=by
    obtain ⟨x,hx⟩ :=cell_store (v :=.slice (some ⟨b',0,none⟩) l c') hs1;exact cell_setCell_eq hx
  generalize hw3 : (w1.setCell ⟨bi,0,none⟩ (.slice (some ⟨b',0,none⟩) l c')).setCell ⟨bi,0,none⟩ (.slice (some ⟨b',0,none⟩) (l + m) c') = w3 at *
  have s3 :=Chg.setCell w3 b' l (.int .u64 1043915) (fun p o => p = b' ∧ o = l) fun _ => ⟨rfl,rfl⟩
  have z12 :=s12.size
  have z3 :=s3.size
  have g2' :=(g2.chg s12).chg s3
  have t3 :=s12.at ht1 (by omega)
  refine ⟨b',c',by first | rfl | simp | (simp;omega),?_,⟨s3.at t3 (by omega),s3.at hc3 (by omega),?_,g1,gb,g2',(g3.chg g5 s12).chg (by omega) s3,by omega,⟨hbb,hne.2.1,by omega⟩⟩,g4,?_⟩
  · have :=g2'.sub l n (by omega)
    rw [Nat.zero_add] at this;exact this
  · rw [s3.frz bi 0 (by have :=lt_of_cell hc3;omega),s12.frz bi 0 (lt_of_cell hs1)];exact hf1
  · exact ((Chg.any g6 _).trans s12 fun _ _ _ h => Or.inl h).trans s3 fun p o h h' => Or.inr ⟨by omega,by omega⟩
theorem save_nil (w : World) (bs : Nat) (h : w.cell? ⟨bs,0,none⟩ = some (.pointer none)) : Calls Tryz.prog 151 #[ptr bs] w fun e w' => e = .returned (.int .i64 0) ∧ w' = w :=by
  go_enter Tryz.func151,Tryz.ntmps151
  go_wp2
  first | go_ret | refine ⟨_,results_tmp rfl _ _ _,?_⟩
  exact ⟨rfl,rfl⟩
theorem inner_save (w : World) (i l c : Nat) (s : Option Addr) (h : w.cell? ⟨i,0,none⟩ = some (.slice s l c)) : Calls Tryz.prog 173 #[ptr i] w fun e w' => e = .returned (.int .i64 l) ∧ w' = w :=by
  go_enter Tryz.func173,Tryz.ntmps173
  go_wp2
  first | go_ret | refine ⟨_,results_tmp rfl _ _ _,?_⟩
  exact ⟨rfl,rfl⟩
theorem save_on {w : World} {bs i b l c : Nat} (h : Stk w bs i b l c) : Calls Tryz.prog 151 #[ptr bs] w fun e w' => e = .returned (.int .i64 l) ∧ w' = w :=by
  have hi :=inner_save w i l c _ h.inn
  have ht :=h.top
  clear h
  go_enter Tryz.func151,Tryz.ntmps151
  go_wp2_with (go_at_call 173;refine hi.mono ?_;rintro e w' ⟨rfl,hw'⟩;rw [hw'];clear hw')
  first | go_ret | refine ⟨_,results_tmp rfl _ _ _,?_⟩
  exact ⟨rfl,rfl⟩
theorem restore_nil (u : FrameMode) (w : World) (b n : Nat) (h : w.cell? ⟨b,0,none⟩ = some (.pointer none)) : CallsD Tryz.prog 150 #[ptr b,.int .i64 n] u w fun e u' w' => u' = u ∧ (e = .returned (.tuple #[]) ∧ w' = w) :=by
  go_enter_d Tryz.func150,Tryz.ntmps150
  go_wp2
  refine bodyPost_ret (results_none rfl _ _ _) rfl ?_
  exact ⟨rfl,rfl⟩
theorem Stk.cut {w : World} {bs i b l c n : Nat} (h : Stk w bs i b l c) (hn : n ≤ c) : Stk (w.setCell ⟨i,0,none⟩ (.slice (some ⟨b,0,none⟩) n c)) bs i b n c ∧ Chg w (w.setCell ⟨i,0,none⟩ (.slice (some ⟨b,0,none⟩) n c)) (fun p _ => p = i) :=by
  have s1 :=Chg.setCell w i 0 (.slice (some ⟨b,0,none⟩) n c) (fun p _ => p = i) fun _ => rfl
  have :=h.ne
  have :=h.lt
  have :=s1.size
  refine ⟨⟨s1.at h.top (by omega),cell_setCell_eq h.inn,?_,hn,h.big,h.wr.chg s1,h.nf.chg h.lt s1,by omega,by omega⟩,s1⟩
  rw [s1.frz i 0 (lt_of_cell h.inn)];exact h.frz
theorem inner_restore {w : World} {bs i b l c : Nat} (n : Nat) (h : Stk w bs i b l c) (hn : n ≤ c) : Calls Tryz.prog 172 #[ptr i,.int .i64 n] w fun e w' => e = .returned (.tuple #[]) ∧ Stk w' bs i b n c ∧ Chg w w' (fun p _ => p = i) :=by
  have K :=Lib.hid (h.cut hn)
  have hb :=h.big
  have hi :=h.inn
  have hf :=h.frz
  have hl :=h.le
  clear h
  go_enter Tryz.func172,Tryz.ntmps172
  go_wp2
  first | go_end0 | refine ⟨_,results_none rfl _ _,?_⟩
  exact ⟨rfl,K.out⟩
theorem restore_on (u : FrameMode) {w : World} {bs i b l c : Nat} (n : Nat) (h : Stk w bs i b l c) (hn : n ≤ c) : CallsD Tryz.prog 150 #[ptr bs,.int .i64 n] u w fun e u' w' => u' = u ∧ (e = .returned (.tuple #[]) ∧ Stk w' bs i b n c ∧ Chg w w' (fun p _ => p = i)) :=by
  have hr :=inner_restore n h hn
  have ht :=h.top
  clear h
  go_enter_d Tryz.func150,Tryz.ntmps150
  go_wp2_with (go_at_call 172;refine hr.mono ?_;rintro e w1 ⟨rfl,h1,h2⟩)
  first | go_end0 | refine ⟨_,results_none rfl _ _,?_⟩
  exact ⟨rfl,h1,h2⟩
theorem inner_free {w : World} {bs i b l c : Nat} (h : Stk w bs i b l c) : Calls Tryz.prog 170 #[ptr i] w fun e w' => e = .returned (.tuple #[]) ∧ Stk w' bs i b 0 c ∧ Chg w w' (fun p _ => p = i) :=by
  have K :=Lib.hid (h.cut (Nat.zero_le c))
  have hb :=h.big
  have hi :=h.inn
  have hf :=h.frz
  have hl :=h.le
  clear h
  go_enter Tryz.func170,Tryz.ntmps170
  go_wp2
  first | go_end0 | refine ⟨_,results_none rfl _ _,?_⟩
  exact ⟨rfl,K.out⟩
theorem free_on (u : FrameMode) {w : World} {bs i b l c : Nat} (h : Stk w bs i b l c) : CallsD Tryz.prog 145 #[ptr bs] u w fun e u' w' => u' = u ∧ (e = .returned (.tuple #[]) ∧ Stk w' bs i b 0 c ∧ Chg w w' (fun p _ => p = i)) :=by
  have hr :=inner_free h
  have ht :=h.top
  clear h
  go_enter_d Tryz.func145,Tryz.ntmps145
  go_wp2_with (go_at_call 170;refine hr.mono ?_;rintro e w1 ⟨rfl,h1,h2⟩)
  first | go_end0 | refine ⟨_,results_none rfl _ _,?_⟩
  exact ⟨rfl,h1,h2⟩
theorem stk_large (w : World) (bs n : Nat) (h0 : 4 < n) (hn : n ≤ 900) (hs : w.cell? ⟨bs,0,none⟩ = some (.pointer none)) (hf : NF w bs) :
    Calls Tryz.prog 152 #[ptr bs,.int .i64 n] w fun e w' => ∃ i b c,e = .returned (.slice (some ⟨b,0,none⟩) n n) ∧ Stk w' bs i b ((n + 3) / 4 * 4) c ∧ n ≤ (n + 3) / 4 * 4 ∧ w.heap.size ≤ i ∧ w.heap.size ≤ b ∧ Chg w w' (fun p _ => p = bs) :=by
  have hg :=fun W bi => inner_first W bi n (by omega) hn
  have hlt :=lt_of_cell hs
  have hff :=hf 0
  have k1 :=Chg.setCell w bs 0 (ptr w.heap.size) (fun p _ => p = bs) fun _ => rfl
  have k2 :=Chg.alloc (w.setCell ⟨bs,0,none⟩ (ptr w.heap.size)) (.cells #[.slice none 0 0] 185) (fun p _ => p = bs)
  have hz : (w.setCell ⟨bs,0,none⟩ (ptr w.heap.size)).heap.size = w.heap.size :=by simp
  have c1 :=k2.cell bs 0 (by omega)
  have ct : ((w.setCell ⟨bs,0,none⟩ (ptr w.heap.size)).alloc (.cells #[.slice none 0 0] 185)).cell? ⟨bs,0,none⟩ = some (ptr w.heap.size) :=by
    exact Kept.at (Chg.alloc _ _ _) (cell_setCell_eq hs)
  have ci : ((w.setCell ⟨bs,0,none⟩ (ptr w.heap.size)).alloc (.cells #[.slice none 0 0] 185)).cell? ⟨w.heap.size,0,none⟩ = some (.slice none 0 0) :=by
    rw [World.cell?_alloc_at _ _ _ _ (by simp)];rfl
  have fi : ((w.setCell ⟨bs,0,none⟩ (ptr w.heap.size)).alloc (.cells #[.slice none 0 0] 185)).frozen? ⟨w.heap.size,0,none⟩ = false :=by
    have :=NF.made (w.setCell ⟨bs,0,none⟩ (ptr w.heap.size)) #[.slice none 0 0] 185 0
    rwa [hz] at this
  have k12 :=k1.trans k2 (fun _ _ _ h => h)
  have hz2 : ((w.setCell ⟨bs,0,none⟩ (ptr w.heap.size)).alloc (.cells #[.slice none 0 0] 185)).heap.size = w.heap.size + 1 :=by simp
  have hg1 :=hg _ w.heap.size ci fi
  clear hf hg
  have K :=Lib.hid (And.intro ct (And.intro ci k12))
  have fi2 :=Lib.hid fi
  clear k1 k2 k12 ct ci c1 fi hz
  go_enter Tryz.func152,Tryz.ntmps152
  go_wp2_with (go_at_call 175;refine hg1.mono ?_;rintro e w' ⟨b,c,rfl,g1,g2,g3,g4,g5,g6,g7,g8,g9⟩)
  first | go_ret | refine ⟨_,results_tmp rfl _ _ _,?_⟩
  obtain ⟨ct,ci,k12⟩ :=K.out
  have hsz :=g9.size
  refine ⟨w.heap.size,b,c,rfl,⟨g9.at ct (by omega),g8,?_,g2,g3,g4,g5,g7,by omega,by omega,by omega⟩,g1,Nat.le_refl _,by omega,k12.trans g9 fun p _ h h' => by omega⟩
  rw [g9.frz _ _ (lt_of_cell ci)];exact fi2.out
end Go.Proofs.YtfmmdamgcpiciaaGreatDoor
namespace Go.Proofs.YtfmmdamgcpiciaaGreatDoor.Plain
theorem guess_three {B P W V a b u2 u1 u0 v1 v0 : Nat} (hP : 0 < P) (hW : W = ((u2 * B + u1) * B + u0) * P + a) (ha : a < P) (hV : V = (v1 * B + v0) * P + b) (hb : b < P) (h1 : u1 < B) (h0 : u0 < B) (hv : 0 < v1) (hu : u2 < v1) :
    W / V ≤ ((u2 * B + u1) * B + u0) / (v1 * B + v0) ∧ ((u2 * B + u1) * B + u0) / (v1 * B + v0) * V < W + V ∧ ((u2 * B + u1) * B + u0) / (v1 * B + v0) < B :=by
  have hB : B ≤ v1 * B :=Nat.le_mul_of_pos_left B hv
  have hu1 : u2 * B + u1 < v1 * B + v0 :=by
    have :=Nat.mul_le_mul_right B (show u2 + 1 ≤ v1 by omega)
    rw [Nat.add_mul,Nat.one_mul] at this
    omega
  have hlt :=guess_lt (b :=B) (u2 :=u2 * B + u1) (u1 :=u0) (v1 :=v1) (v0 :=v0) h0 hu1
  have hpos : 0 < v1 * B + v0 :=by omega
  have hVp : 0 < V :=by
    have :=Nat.mul_pos hpos hP
    omega
  refine ⟨?_,?_,hlt⟩
  · rw [Nat.le_div_iff_mul_le hpos]
    exact knuth_low hP hW ha hV (Nat.div_mul_le_self W V)
  · rcases Nat.eq_zero_or_pos (((u2 * B + u1) * B + u0) / (v1 * B + v0)) with h | h
    · rw [h,Nat.zero_mul];omega
    · exact knuth_high (B :=B) hW hV hb (Nat.div_mul_le_self _ _) (by omega) (by omega) h
theorem guess_top {B P W V a b u1 u0 v1 v0 : Nat} (hP : 0 < P) (hW : W = ((v1 * B + u1) * B + u0) * P + a) (hV : V = (v1 * B + v0) * P + b) (hb : b < P) (h0 : v0 < B) (hn : B ≤ 2 * v1) (hB : 1 < B) (hWV : W < V * B) :
    W / V ≤ B - 1 ∧ (B - 1) * V < W + V :=by
  have hv : 0 < v1 :=by omega
  have hVp : 0 < V :=by
    have : 0 < (v1 * B + v0) * P :=Nat.mul_pos (by have :=Nat.mul_pos hv (show 0 < B by omega);omega) hP
    omega
  constructor
  · have :=(Nat.div_lt_iff_lt_mul (k :=V) (x :=W) (y :=B) hVp).2 (by rw [Nat.mul_comm];exact hWV)
    omega
  · -- (B - 2) V <= (B - 2) (v1 + 1) B P <= v1 B B P <= W
    have e1 : V < (v1 + 1) * B * P :=by
      have h1 : (v1 * B + v0 + 1) * P ≤ ((v1 + 1) * B) * P :=Nat.mul_le_mul_right P (by rw [Nat.add_mul,Nat.one_mul];omega)
      rw [Nat.add_mul,Nat.one_mul] at h1
      omega
    have e2 : (B - 2) * V ≤ (B - 2) * ((v1 + 1) * B * P) :=Nat.mul_le_mul_left _ (by omega)
    have e3 : (B - 2) * (v1 + 1) ≤ v1 * B :=by
      obtain ⟨k,rfl⟩ : ∃ k,B = k + 2 :=⟨B - 2,by omega⟩
      rw [show k + 2 - 2 = k by omega,Nat.mul_add,Nat.mul_add,Nat.mul_comm v1 k]
      omega
    have e4 : (B - 2) * ((v1 + 1) * B * P) ≤ v1 * B * (B * P) :=by
      rw [Nat.mul_assoc (v1 + 1),← Nat.mul_assoc (B - 2)]
      exact Nat.mul_le_mul_right _ e3
    have e5 : v1 * B * (B * P) ≤ W :=by
      rw [hW,Nat.add_mul,Nat.add_mul,Nat.add_mul,← Nat.mul_assoc]
      omega
    have e6 : (B - 1) * V = (B - 2) * V + V :=by
      rw [← Nat.succ_mul];congr 1;omega
    have e7 : (B - 2) * V < W ∨ (B - 2) * V = W :=by omega
    rw [e6]
    rcases Nat.eq_zero_or_pos (B - 2) with h | h
    · rw [h,Nat.zero_mul]
      have : 0 < v1 * B * (B * P) :=Nat.mul_pos (Nat.mul_pos hv (by omega)) (Nat.mul_pos (by omega) hP)
      omega
    · have : (B - 2) * V < (B - 2) * ((v1 + 1) * B * P) :=Nat.mul_lt_mul_of_pos_left e1 h
      omega
theorem digit_done {W V q R E c : Nat} (hV : 0 < V) (h1 : W / V ≤ q) (h2 : q * V < W + V) (hR : R < E) (h : R + q * V = W + E * c) (hc : c ≤ 1) :
    (c = 0 → q = W / V ∧ R = W % V) ∧ (c = 1 → q = W / V + 1 ∧ R + V = W % V + E) :=by
  have d1 :=Nat.div_add_mod W V
  have d2 :=Nat.mod_lt W hV
  have hq : q ≤ W / V + 1 :=by
    have e : q * V < (W / V + 2) * V :=by
      rw [Nat.add_mul,Nat.mul_comm (W / V)];omega
    have :=Nat.lt_of_mul_lt_mul_right e
    omega
  have hq2 : q = W / V ∨ q = W / V + 1 :=by omega
  have e0 : W / V * V = V * (W / V) :=Nat.mul_comm _ _
  constructor
  · rintro rfl
    rcases hq2 with rfl | rfl
    · exact ⟨rfl,by omega⟩
    · rw [Nat.add_mul,Nat.one_mul] at h;omega
  · rintro rfl
    rcases hq2 with rfl | rfl
    · omega
    · rw [Nat.add_mul,Nat.one_mul] at h
      exact ⟨rfl,by omega⟩
end Go.Proofs.YtfmmdamgcpiciaaGreatDoor.Plain
namespace Go.Proofs.YtfmmdamgcpiciaaGreatDoor
theorem val_top2 {B k : Nat} {vs : List Nat} (hl : vs.length = k + 2) : val B vs = (vs[k + 1] * B + vs[k]) * B ^ k + val B (vs.take k) :=by
  rw [val_cut (B :=B) (xs :=vs) (n :=k) (by omega)]
  have e : vs.drop k = [vs[k],vs[k + 1]] :=by
    rw [List.drop_eq_getElem_cons (by omega),List.drop_eq_getElem_cons (by omega),List.drop_eq_nil_of_le (by omega)]
  rw [e,Nat.add_comm,Nat.mul_comm (B ^ k)]
  congr 2
  simp only [val,Nat.mul_zero,Nat.add_zero]
  rw [Nat.mul_comm B,Nat.add_comm]
theorem val_top3 {B k : Nat} {ws : List Nat} (hl : ws.length = k + 3) : val B ws = ((ws[k + 2] * B + ws[k + 1]) * B + ws[k]) * B ^ k + val B (ws.take k) :=by
  rw [val_cut (B :=B) (xs :=ws) (n :=k) (by omega)]
  have e : ws.drop k = [ws[k],ws[k + 1],ws[k + 2]] :=by
    rw [List.drop_eq_getElem_cons (by omega),List.drop_eq_getElem_cons (by omega),List.drop_eq_getElem_cons (by omega),List.drop_eq_nil_of_le (by omega)]
  rw [e,Nat.add_comm,Nat.mul_comm (B ^ k)]
  congr 2
  simp only [val,Nat.mul_zero,Nat.add_zero]
  rw [Nat.mul_comm B (ws[k + 1] + _),Nat.mul_comm B ws[k + 2],Nat.add_comm (ws[k + 1]),Nat.add_comm]
end Go.Proofs.YtfmmdamgcpiciaaGreatDoor
namespace Go.Proofs.YtfmmdamgcpiciaaGreatDoor
open Go Go.RowKit
theorem greaterThan' (a b c d : Nat) (e : Bool) (he : e = decide (c < a ∨ (a = c ∧ d < b))) (w : World) :
    Calls Tryz.prog 229 #[.int .u64 a,.int .u64 b,.int .u64 c,.int .u64 d] w fun r w' => r = .returned (.bool e) ∧ w' = w :=by
  go_enter Tryz.func229,Tryz.ntmps229
  go_wp2_with fail
  all_goals first | go_ret | refine ⟨_,results_tmp rfl _ _ _,?_⟩
  all_goals refine ⟨?_,rfl⟩
  all_goals (rw [he];simp only [Ending.returned.injEq,Value.bool.injEq];first | (have hac : a = c :=(by omega);subst hac;simp;done) | (simp;omega))
theorem greaterThan (a b c d : Nat) (hb : b < W64) (hd : d < W64) (w : World) :
    Calls Tryz.prog 229 #[.int .u64 a,.int .u64 b,.int .u64 c,.int .u64 d] w fun r w' => r = .returned (.bool (decide (c * W64 + d < a * W64 + b))) ∧ w' = w :=by
  refine greaterThan' a b c d _ ?_ w
  have h : (c * W64 + d < a * W64 + b) ↔ (c < a ∨ (a = c ∧ d < b)) :=by
    generalize W64 = W at *
    constructor
    · intro h
      rcases Nat.lt_trichotomy a c with h1 | h1 | h1
      · have :=Nat.mul_le_mul_right W (show a + 1 ≤ c from h1)
        rw [Nat.add_mul,Nat.one_mul] at this
        omega
      · subst h1;right;omega
      · exact .inl h1
    · rintro (h1 | ⟨rfl,h1⟩)
      · have :=Nat.mul_le_mul_right W (show c + 1 ≤ a from h1)
        rw [Nat.add_mul,Nat.one_mul] at this
        omega
      · omega
  simp only [h]
end Go.Proofs.YtfmmdamgcpiciaaGreatDoor
namespace Go.Proofs.YtfmmdamgcpiciaaGreatDoor
open Go Go.RowKit
abbrev St :=Option (Nat × Nat × Nat × Nat)
def StAt (w : World) (bs : Nat) : St → Prop
  | none => w.cell? ⟨bs,0,none⟩ = some (.pointer none) ∧ NF w bs
  | some (i,b,l,c) => Stk w bs i b l c
def StL : St → Nat
  | none => 0
  | some (_,_,l,_) => l
def StB : St → Nat → Prop
  | none,_ => False
  | some (i,_,_,_),p => p = i
def StM (bs : Nat) : St → Nat → Nat → Prop
  | none,p,_ => p = bs
  | some (i,b,l,_),p,o => p = i ∨ (p = b ∧ l ≤ o)
theorem StAt.chg {w w' : World} {bs : Nat} {st : St} {M : Nat → Nat → Prop} (h : StAt w bs st) (k : Chg w w' M) (h1 : ∀ o,¬ M bs o) (h2 : ∀ p o,StB st p → ¬ M p o) : StAt w' bs st :=by
  rcases st with _ | ⟨i,b,l,c⟩
  · exact ⟨k.at h.1 (h1 _),h.2.chg (lt_of_cell h.1) k⟩
  · have hi :=h2 i 0 rfl
    exact ⟨k.at h.top (h1 _),k.at h.inn hi,by rw [k.frz i 0 (lt_of_cell h.inn)];exact h.frz,h.le,h.big,h.wr.chg k,h.nf.chg h.lt k,Nat.lt_of_lt_of_le h.lt k.size,h.ne⟩
theorem StAt.lt {w : World} {bs : Nat} {st : St} (h : StAt w bs st) : bs < w.heap.size :=by
  rcases st with _ | ⟨i,b,l,c⟩
  · exact lt_of_cell h.1
  · exact lt_of_cell h.top
theorem StAt.ltB {w : World} {bs p : Nat} {st : St} (h : StAt w bs st) (hp : StB st p) : p < w.heap.size :=by
  rcases st with _ | ⟨i,b,l,c⟩
  · exact hp.elim
  · cases hp;exact lt_of_cell h.inn
def StCut : St → Nat → St
  | none,_ => none
  | some (i,b,_,c),n => some (i,b,n,c)
theorem StM_cut {bs n p o : Nat} {st : St} (hn : n ≤ StL st) (h : StM bs st p o) : StM bs (StCut st n) p o :=by
  rcases st with _ | ⟨i,b,l,c⟩
  · exact h
  · rcases h with h | ⟨h1,h2⟩
    · exact .inl h
    · exact .inr ⟨h1,Nat.le_trans hn h2⟩
theorem StB_M {bs p o : Nat} {st : St} (h : StB st p) : StM bs st p o :=by
  rcases st with _ | ⟨i,b,l,c⟩
  · exact h.elim
  · exact .inl h
theorem StB_cut {n p : Nat} {st : St} : StB (StCut st n) p ↔ StB st p :=by
  rcases st with _ | ⟨i,b,l,c⟩ <;> exact Iff.rfl
theorem st_save {w : World} {bs : Nat} {st : St} (h : StAt w bs st) : Calls Tryz.prog 151 #[ptr bs] w fun e w' => e = .returned (.int .i64 (StL st)) ∧ w' = w :=by
  rcases st with _ | ⟨i,b,l,c⟩
  · exact save_nil w bs h.1
  · exact save_on h
theorem st_restore (u : FrameMode) {w : World} {bs n : Nat} {st : St} (h : StAt w bs st) (hn : n ≤ StL st) : CallsD Tryz.prog 150 #[ptr bs,.int .i64 n] u w fun e u' w' => u' = u ∧ (e = .returned (.tuple #[]) ∧ StAt w' bs (StCut st n) ∧ Chg w w' (fun p _ => StB st p)) :=by
  rcases st with _ | ⟨i,b,l,c⟩
  · refine (restore_nil u w bs n h.1).mono ?_
    rintro e u' w' ⟨h1,h2,rfl⟩
    exact ⟨h1,h2,h,Chg.refl _ _⟩
  · refine (restore_on u n h (Nat.le_trans hn h.le)).mono ?_
    rintro e u' w' ⟨h1,h2,h3,h4⟩
    exact ⟨h1,h2,h3,h4⟩
theorem st_free (u : FrameMode) {w : World} {bs : Nat} {st : St} (h : StAt w bs st) : CallsD Tryz.prog 145 #[ptr bs] u w fun e u' w' => u' = u ∧ (e = .returned (.tuple #[]) ∧ StAt w' bs (StCut st 0) ∧ Chg w w' (fun p _ => StB st p)) :=by
  rcases st with _ | ⟨i,b,l,c⟩
  · refine (stack_free0 u w bs h.1).mono ?_
    rintro e u' w' ⟨h1,h2,rfl⟩
    exact ⟨h1,h2,h,Chg.refl _ _⟩
  · refine (free_on u h).mono ?_
    rintro e u' w' ⟨h1,h2,h3,h4⟩
    exact ⟨h1,h2,h3,h4⟩
theorem stk_words (w : World) (bs n : Nat) (st : St) (h0 : 0 < n) (hn : n ≤ 900) (h : StAt w bs st) (hl : StL st ≤ 1000) :
    Calls Tryz.prog 152 #[ptr bs,.int .i64 n] w fun e w' => ∃ b o c st',e = .returned (.slice (some ⟨b,o,none⟩) n c) ∧ n ≤ c ∧ c < 9223372036854775808 ∧ Wr w' b o n ∧ NF w' b ∧ b < w'.heap.size ∧ StAt w' bs st' ∧ StL st ≤ StL st' ∧ StL st' ≤ StL st + n + 3 ∧ b ≠ bs ∧ (¬ StB st' b) ∧
      (∀ j,j < n → ¬ StM bs st' b (o + j)) ∧ (w.heap.size ≤ b ∨ (∃ i l c,st = some (i,b,l,c) ∧ l ≤ o)) ∧ (∀ p o,StM bs (StCut st' (StL st)) p o → StM bs st p o ∨ w.heap.size ≤ p) ∧ Chg w w' (StM bs st) :=by
  have hlt :=h.lt
  rcases st with _ | ⟨i,b,l,c⟩
  · obtain ⟨h1,h2⟩ :=h
    by_cases h4 : n ≤ 4
    · refine (stk_small w bs n h0 h4 h1).mono ?_
      rintro e w' ⟨b,c,rfl,g1,gc,g2,g3,g4,g5,g6⟩
      refine ⟨b,0,c,none,rfl,g1,gc,fun j hj => g2 j (by omega),g3,g5,⟨Kept.at g6 h1,h2.chg hlt g6⟩,Nat.le_refl _,by simp [StL],by omega,fun h => h,fun j _ h => by simp only [StM] at h;omega,.inl g4,fun p o h => .inl h,g6.any _⟩
    · refine (stk_large w bs n (by omega) hn h1 h2).mono ?_
      rintro e w' ⟨i,b,c,rfl,g1,g2,g3,g4,g5⟩
      have hne :=g1.ne
      have hle :=g1.le
      refine ⟨b,0,n,some (i,b,_,c),rfl,Nat.le_refl _,by omega,fun j hj => g1.wr j (by omega),g1.nf,g1.lt,g1,Nat.zero_le _,by simp only [StL];omega,by omega,fun h => by simp only [StB] at h;omega,fun j hj h => by simp only [StM] at h;omega,.inl g4,fun p o h => ?_,g5⟩
      simp only [StCut,StM] at h
      right;omega
  · refine (?_ : Calls Tryz.prog 152 #[ptr bs,.int .i64 n] w fun e w' => ∃ b' c',e = .returned (.slice (some ⟨b',l,none⟩) n n) ∧ Wr w' b' l n ∧ Stk w' bs i b' (l + (n + 3) / 4 * 4) c' ∧ (b' = b ∨ w.heap.size ≤ b') ∧ Chg w w' (fun p o => p = i ∨ (p = b ∧ l ≤ o))).mono ?_
    · have hg :=inner_next w bs i b l c n h0 hn h (by simp only [StL] at hl;omega)
      have ht :=h.top
      clear h
      go_enter Tryz.func152,Tryz.ntmps152
      go_wp2_with (go_at_call 175;refine hg.mono ?_;rintro e w' ⟨b',c',rfl,g1,g2,g3,g4⟩)
      first | go_ret | refine ⟨_,results_tmp rfl _ _ _,?_⟩
      exact ⟨b',c',rfl,g1,g2,g3,g4⟩
    · rintro e w' ⟨b',c',rfl,g1,g2,g3,g4⟩
      have hne :=g2.ne
      have hle :=g2.le
      refine ⟨b',l,n,some (i,b',_,c'),rfl,Nat.le_refl _,by omega,g1,g2.nf,g2.lt,g2,by simp only [StL];omega,by simp only [StL];omega,by omega,fun h => by simp only [StB] at h;omega,fun j hj h => by simp only [StM] at h;omega,?_,fun p o h => ?_,g4⟩
      · rcases g3 with rfl | g3
        · exact .inr ⟨i,l,c,rfl,Nat.le_refl _⟩
        · exact .inl g3
      · simp only [StCut,StL,StM] at h ⊢
        omega
end Go.Proofs.YtfmmdamgcpiciaaGreatDoor
namespace Go.Proofs.YtfmmdamgcpiciaaGreatDoor
open Go Go.RowKit
theorem splice_len {us zs : List Nat} {j n : Nat} (hn : zs.length = n) (hj : j + n ≤ us.length) : (us.take j ++ (zs ++ us.drop (j + n))).length = us.length :=by
  simp;omega
theorem splice_lt {B : Nat} {us zs : List Nat} {j n : Nat} (hu : Lt B us) (hz : Lt B zs) : Lt B (us.take j ++ (zs ++ us.drop (j + n))) :=fun x hx => by
  rcases List.mem_append.1 hx with h | h
  · exact hu x (List.mem_of_mem_take h)
  · rcases List.mem_append.1 h with h | h
    · exact hz x h
    · exact hu x (List.mem_of_mem_drop h)
theorem splice_val {B : Nat} {us zs : List Nat} {j n : Nat} (hn : zs.length = n) (hj : j + n ≤ us.length) : val B (us.take j ++ (zs ++ us.drop (j + n))) = val B (us.take j) + B ^ j * (val B zs + B ^ n * val B (us.drop (j + n))) :=by
  rw [val_append,val_append,List.length_take,Nat.min_eq_left (by omega),hn]
theorem window_val {B : Nat} {us : List Nat} {j n : Nat} (hj : j + n ≤ us.length) : val B us = val B (us.take j) + B ^ j * (val B ((us.drop j).take n) + B ^ n * val B (us.drop (j + n))) :=by
  rw [val_cut (B :=B) (xs :=us) (n :=j) (by omega),val_cut (B :=B) (xs :=us.drop j) (n :=n) (by rw [List.length_drop];omega),List.drop_drop]
theorem window_small {B P W R V E L U : Nat} (hU : U = L + P * (W + E * R)) (hlt : U < V * (P * B)) (hE : V * B < E) : R = 0 ∧ W < V * B :=by
  have h1 : P * (W + E * R) < P * (V * B) :=by rw [Nat.mul_left_comm P V B];omega
  have h2 :=Nat.lt_of_mul_lt_mul_left h1
  have h3 : R = 0 :=by
    rcases Nat.eq_zero_or_pos R with h | h
    · exact h
    · have :=Nat.le_mul_of_pos_right E h;omega
  subst h3
  exact ⟨rfl,by omega⟩
theorem digit_round {B P W V L U U0 Q R E : Nat} (hV : 0 < V) (hU : U = L + P * (W + E * R)) (hL : L < P) (h0 : U0 = U + P * B * Q * V) (hR : R = 0) : U0 = (L + P * (W % V + E * R)) + P * (W / V + B * Q) * V ∧ L + P * (W % V + E * R) < V * P :=by
  subst hR
  have d1 :=Nat.div_add_mod W V
  have d2 :=Nat.mod_lt W hV
  simp only [Nat.mul_zero,Nat.add_zero] at *
  generalize W / V = q at *
  generalize W % V = r at *
  constructor
  · subst hU
    rw [h0,← d1,Nat.mul_add,Nat.mul_add,Nat.add_mul,Nat.mul_comm V q,Nat.mul_assoc P q V,Nat.mul_assoc P B Q]
    omega
  · have :=Nat.mul_le_mul_left P (show r + 1 ≤ V by omega)
    rw [Nat.mul_add,Nat.mul_one,Nat.mul_comm P V] at this
    omega
end Go.Proofs.YtfmmdamgcpiciaaGreatDoor
