/- A part of the proof, joined out of the texts D7, D8, D9, G4, D10, D11, D12, D13, D14, D15a; each theorem bears its own conditions. -/
import Derived.Laws.AppendOwn
import Derived.Lib.AppendZeros
import Derived.Lib.AppendZerosOnto
import Derived.Test.YtfmmdamgcpiciaaGreatDoorT04
import Derived.Test.YtfmmdamgcpiciaaGreatDoorT05
set_option linter.unusedVariables false
set_option linter.unusedSimpArgs false
set_option linter.all false
set_option maxHeartbeats 9000000
set_option exponentiation.threshold 400000
set_option maxRecDepth 1000000
namespace Go.Proofs.YtfmmdamgcpiciaaGreatDoor
open Go Go.RowKit
theorem shl_split {x s t : Nat} (hst : s + t = 64) : x * 2 ^ s = x * 2 ^ s % W64 + W64 * (x / 2 ^ t) :=by
  have e : x * 2 ^ s / W64 = x / 2 ^ t :=by
    have : W64 = 2 ^ s * 2 ^ t :=by rw [← Nat.pow_add,hst]
    rw [this,Nat.mul_comm x,Nat.mul_div_mul_left _ _ (Nat.two_pow_pos s)]
  rw [← e]
  exact (Nat.mod_add_div _ _).symm
theorem shl_or {x y s t : Nat} (hst : s + t = 64) (hy : y < W64) : (x * 2 ^ s % W64) ||| (y / 2 ^ t) = x * 2 ^ s % W64 + y / 2 ^ t ∧ y / 2 ^ t < 2 ^ s ∧ x * 2 ^ s % W64 + y / 2 ^ t < W64 :=by
  have hW : W64 = 2 ^ t * 2 ^ s :=by rw [← Nat.pow_add,show t + s = 64 by omega]
  have hl : y / 2 ^ t < 2 ^ s :=by
    rw [Nat.div_lt_iff_lt_mul (Nat.two_pow_pos t),Nat.mul_comm,← hW];exact hy
  have hm : x * 2 ^ s % W64 = 2 ^ s * (x % 2 ^ t) :=by rw [hW,Nat.mul_mod_mul_right,Nat.mul_comm]
  have hxt : x % 2 ^ t < 2 ^ t :=Nat.mod_lt _ (Nat.two_pow_pos t)
  refine ⟨?_,hl,?_⟩
  · rw [hm];exact (Nat.two_pow_add_eq_or_of_lt hl _).symm
  · rw [hm,hW]
    have :=Nat.mul_le_mul_left (2 ^ s) (show x % 2 ^ t + 1 ≤ 2 ^ t from hxt)
    rw [Nat.mul_add,Nat.mul_one,Nat.mul_comm (2 ^ s) (2 ^ t)] at this
    omega
theorem and63 (x : Nat) (hx : x < 64) : bits .and .u64 (x : Int) 63 = (x : Int) :=by
  have h :=and_u64 x (2 ^ 6 - 1) (by omega) (by decide)
  rw [Nat.and_two_pow_sub_one_eq_mod,Nat.mod_eq_of_lt hx] at h
  exact h
theorem lsh_step {T P c D S x1 q xh xl W : Nat} (h : T + P * c = D * S + q) (hs : x1 * S = xh + W * q) : (xh + xl) + W * T + P * W * c = (x1 + W * D) * S + xl :=by
  have e : W * T + P * W * c = W * (D * S) + W * q :=by rw [Nat.mul_comm P W,Nat.mul_assoc W P c,← Nat.mul_add,h,Nat.mul_add]
  rw [Nat.add_mul,hs,Nat.mul_assoc W D S]
  omega
theorem lsh_end {T P c D S x q xh W : Nat} (h : T + P * c = D * S + q) (hs : x * S = xh + W * q) : xh + W * T + P * W * c = (x + W * D) * S :=by
  have e : W * T + P * W * c = W * (D * S) + W * q :=by rw [Nat.mul_comm P W,Nat.mul_assoc W P c,← Nat.mul_add,h,Nat.mul_add]
  rw [Nat.add_mul,hs,Nat.mul_assoc W D S]
  omega
theorem lshVU_g (w : World) (bz oz bx ox n cz cx s t : Nat) (xs : List Nat) (hn : 0 < n) (hnB : n ≤ Big) (hst : s + t = 64) (hs : 0 < s) (ht : 0 < t)
    (hx : Row .u64 w bx ox xs) (hlx : xs.length = n) (hbx : Lt W64 xs) (hz : Wr w bz oz n) (fx : (bx = bz ∧ ox = oz) ∨ bx ≠ bz) :
    Calls Tryz.prog 209 #[.slice (some ⟨bz,oz,none⟩) n cz,.slice (some ⟨bx,ox,none⟩) n cx,.int .u64 s] w fun e w' => ∃ zs c,e = .returned (.int .u64 (c : Nat)) ∧ zs.length = n ∧ Row .u64 w' bz oz zs ∧ Lt W64 zs ∧
      val W64 zs + W64 ^ n * c = val W64 xs * 2 ^ s ∧ c < 2 ^ s ∧ Chg w w' (In bz oz n) :=by
  unfold Big at hnB
  obtain ⟨n,rfl⟩ : ∃ k,n = k + 1 :=⟨n - 1,by omega⟩
  have hs0 : ((s : Int) == 0) = false :=by simp;omega
  have a1 :=and63 s (by omega)
  have a2 :=and63 t (by omega)
  have a3 : (64 : Int) - (s : Int) = (t : Int) :=by omega
  have gl : xs[n]? = some xs[n] :=List.getElem?_eq_getElem (by omega)
  have bl :=hbx _ (List.getElem_mem (show n < xs.length by omega))
  have hdl :=drop_get gl
  rw [List.drop_eq_nil_of_le (show xs.length ≤ n + 1 by omega)] at hdl
  generalize xs[n] = xl at gl bl hdl
  have cl :=hx n xl gl
  have a4 :=cast_div xl t
  have hcl :=(shl_or (x :=0) hst bl).2.1
  obtain ⟨c,hc⟩ : ∃ c,xl / 2 ^ t = c :=⟨_,rfl⟩
  rw [hc] at a4 hcl
  have a5 :=a4.symm
  clear a4
  have HC :=Lib.hid hc
  have HD :=Lib.hid hdl
  have hs63 : s ≤ 63 :=by omega
  have ht63 : t ≤ 63 :=by omega
  have HST :=Lib.hid hst
  clear hc hdl gl bl hst
  have e0 : (((n + 1 : Nat) : Int) - 1) = (n : Int) :=by omega
  go_enter Tryz.func209,Tryz.ntmps209
  go_wp2_with fail
  go_loopw [8] (fun i wr => ∃ (k : Nat) (ts : List Nat),k ≤ n ∧ i = .int .i64 (k : Int) ∧ ts.length = n - k ∧ Row .u64 wr bz (oz + (k + 1)) ts ∧ Lt W64 ts ∧ Row .u64 wr bx ox (xs.take (k + 1)) ∧
    val W64 ts + W64 ^ (n - k) * c = val W64 (xs.drop (k + 1)) * 2 ^ s + xs.getD k 0 / 2 ^ t ∧ Chg w wr (In bz oz (n + 1))) (fun i _ => (intOf i).toNat)
  case atStart =>
    refine ⟨n,[],Nat.le_refl _,rfl,by simp,Row.nil,Lt.nil,by rw [List.take_of_length_le (by omega)];exact hx,?_,Chg.refl _ _⟩
    have hdl :=HD.out
    have hc :=HC.out
    have gl : xs[n]? = some xl :=by
      have :=congrArg (fun l => l[0]?) hdl
      simpa using this
    rw [List.drop_eq_nil_of_le (show xs.length ≤ n + 1 by omega),List.getD_eq_getElem?_getD,gl]
    simp [val,hc]
  case round =>
    obtain ⟨k,ts,hk,rfl,hlt,hrow,hts,hxr,hval,hchg⟩ :=hrel
    rcases Nat.eq_zero_or_pos k with rfl | hkp
    · have g0 : xs[0]? = some xs[0] :=List.getElem?_eq_getElem (by omega)
      have c0 :=hxr 0 xs[0] (by rw [List.getElem?_take,if_pos (by omega)];exact g0)
      have hd1 :=drop_get g0
      rw [List.getD_eq_getElem?_getD,g0,Option.getD_some] at hval
      generalize hx0 : xs[0] = x0 at *
      simp only [Nat.add_zero] at c0
      obtain ⟨⟨u,hu⟩,hf⟩ :=(hz.chg hchg) 0 (by omega)
      simp only [Nat.add_zero] at hu hf
      have f1 : IntKind.u64.wrap ((x0 : Int) * 2 ^ s) = ((x0 * 2 ^ s % W64 : Nat) : Int) :=by rw [cast_mul,wrap_u64];rfl
      have hsp :=shl_split (x :=x0) HST.out
      have hml : x0 * 2 ^ s % W64 < W64 :=Nat.mod_lt _ (by decide)
      have HV :=Lib.hid (And.intro hval (And.intro hsp (And.intro hd1 (And.intro hml (And.intro hrow (And.intro hts hchg))))))
      generalize x0 * 2 ^ s % W64 = xh at *
      clear hval hsp hd1 g0 hml hx0
      have ez : ((0 : Nat) : Int) = 0 :=rfl
      go_wp2_with fail
      go_ret
      obtain ⟨hval,hsp,hd1,hml,hrow,hts,hchg⟩ :=HV.out
      have hrow' : Row .u64 (wr.setCell ⟨bz,oz,none⟩ (.int .u64 xh)) bz oz (xh :: ts) :=Row.consAt xh (by simpa using hrow) ⟨u,hu⟩
      refine ⟨xh :: ts,c,rfl,by simp [hlt],hrow',?_,?_,hcl,hchg.trans (Chg.setCell wr bz oz (.int .u64 xh) (In bz oz (n + 1)) fun _ => ⟨rfl,by omega,by omega⟩) fun _ _ _ h => h⟩
      · intro z hz
        rcases List.mem_cons.1 hz with rfl | hz
        · exact hml
        · exact hts z hz
      · rw [List.drop_zero] at hd1
        rw [hd1]
        simp only [val,Nat.sub_zero,Nat.zero_add] at *
        rw [Nat.pow_succ]
        exact lsh_end hval hsp
    · obtain ⟨k,rfl⟩ : ∃ j,k = j + 1 :=⟨k - 1,by omega⟩
      have g1 : xs[k + 1]? = some xs[k + 1] :=List.getElem?_eq_getElem (by omega)
      have g0 : xs[k]? = some xs[k] :=List.getElem?_eq_getElem (by omega)
      have b1 :=hbx _ (List.getElem_mem (show k + 1 < xs.length by omega))
      have b0 :=hbx _ (List.getElem_mem (show k < xs.length by omega))
      have hd1 :=drop_get g1
      have c1 :=hxr (k + 1) xs[k + 1] (by rw [List.getElem?_take,if_pos (by omega)];exact g1)
      have c0 :=hxr k xs[k] (by rw [List.getElem?_take,if_pos (by omega)];exact g0)
      rw [List.getD_eq_getElem?_getD,g1,Option.getD_some] at hval
      generalize hx1 : xs[k + 1] = x1 at *
      generalize hx0 : xs[k] = x0 at *
      obtain ⟨⟨u,hu⟩,hf⟩ :=(hz.chg hchg) (k + 1) (by omega)
      obtain ⟨o1,o2,o3⟩ :=shl_or (x :=x1) HST.out b0
      have f1 : IntKind.u64.wrap ((x1 : Int) * 2 ^ s) = ((x1 * 2 ^ s % W64 : Nat) : Int) :=by rw [cast_mul,wrap_u64];rfl
      have f2 :=(cast_div x0 t).symm
      have f3 :=or_u64 (x1 * 2 ^ s % W64) (x0 / 2 ^ t) (Nat.mod_lt _ (by decide)) (by unfold W64 at o3;omega)
      rw [o1] at f3
      have hsp :=shl_split (x :=x1) HST.out
      have e2 : ((k : Int) + 1 - 1) = (k : Int) :=by omega
      have c0' : wr.cell? ⟨bx,ox + k,none⟩ = some (.int .u64 x0) :=c0
      have HV :=Lib.hid (And.intro hval (And.intro hsp (And.intro hd1 (And.intro g0 (And.intro o3 (And.intro hx1 hx0))))))
      generalize x1 * 2 ^ s % W64 = xh at *
      generalize hxl : x0 / 2 ^ t = xl0 at *
      have HXL :=Lib.hid hxl
      clear hxl hval hsp hd1 g0 g1 o3 o1 o2 hx1 hx0
      go_wp2_with (first
        | (refine wp_region_lit_segs (id :=13) [[0,1,2,3,4,5,6,7,8,9,10,11,12,13,14,15,16,17]] mixed (by kernel_rfl) ?_;simp only [wpSegsL,gaC,gaN,lZ0,lS0,coS])
        | refine ⟨by kernel_rfl,?_⟩)
      obtain ⟨hval,hsp,hd1,g0,o3,hx1,hx0⟩ :=HV.out
      go_roundw
      case rel =>
        have hsc :=Chg.setCell wr bz (oz + (k + 1)) (.int .u64 (xh + xl0 : Nat)) (In bz oz (n + 1)) fun _ => ⟨rfl,by omega,by omega⟩
        refine ⟨k,(xh + xl0) :: ts,by omega,rfl,by simp [hlt];omega,?_,?_,?_,?_,(hchg.trans hsc fun _ _ _ h => h).drew⟩
        · refine Row.consAt (xh + xl0) ?_ ⟨u,hu⟩
          rw [show oz + (k + 1) + 1 = oz + (k + 1 + 1) by omega];exact hrow
        · intro z hz
          rcases List.mem_cons.1 hz with rfl | hz
          · exact o3
          · exact hts z hz
        · intro j y hj
          rw [List.getElem?_take] at hj
          split at hj
          · have :=hxr j y (by rw [List.getElem?_take,if_pos (by omega)];exact hj)
            refine (cell_setCell_ne ?_).trans this
            rintro ⟨q1,q2⟩
            rcases fx with ⟨_,q3⟩ | q3
            · omega
            · exact q3 q1
          · cases hj
        · rw [hd1,show n - k = n - (k + 1) + 1 by omega,Nat.pow_succ,List.getD_eq_getElem?_getD,g0,Option.getD_some]
          simp only [val]
          rw [HXL.out]
          exact lsh_step hval hsp
      case measure => simp [intOf]
end Go.Proofs.YtfmmdamgcpiciaaGreatDoor
namespace Go.Proofs.YtfmmdamgcpiciaaGreatDoor
open Go Go.RowKit
theorem shr_split {x0 x1 E s t : Nat} (hst : s + t = 64) : (x0 + W64 * (x1 + W64 * E)) / 2 ^ s = x0 / 2 ^ s + x1 * 2 ^ t % W64 + W64 * ((x1 + W64 * E) / 2 ^ s) :=by
  have hW : W64 = 2 ^ s * 2 ^ t :=by rw [← Nat.pow_add,hst]
  have hp :=Nat.two_pow_pos s
  have e1 : (x0 + W64 * (x1 + W64 * E)) / 2 ^ s = x0 / 2 ^ s + 2 ^ t * (x1 + W64 * E) :=by
    rw [show W64 * (x1 + W64 * E) = 2 ^ s * (2 ^ t * (x1 + W64 * E)) by rw [← Nat.mul_assoc,← hW],Nat.add_mul_div_left _ _ hp]
  have e2 : x1 * 2 ^ t % W64 = 2 ^ t * (x1 % 2 ^ s) :=by rw [hW,Nat.mul_mod_mul_right,Nat.mul_comm]
  have e3 : (x1 + W64 * E) % 2 ^ s = x1 % 2 ^ s :=by
    rw [show W64 * E = 2 ^ s * (2 ^ t * E) by rw [← Nat.mul_assoc,← hW],Nat.add_mul_mod_self_left]
  have e4 :=Nat.div_add_mod (x1 + W64 * E) (2 ^ s)
  rw [e3] at e4
  rw [e1,e2,← e4,Nat.mul_add,← Nat.mul_assoc,Nat.mul_comm (2 ^ t) (2 ^ s),← hW,e4]
  omega
theorem Row.drew' {k : IntKind} {w : World} {b o : Nat} {xs : List Nat} (h : Row k w b o xs) : Row k w.drew b o xs :=h
theorem rshVU_g (w : World) (bz oz bx ox n cz cx s t : Nat) (xs : List Nat) (hn : 0 < n) (hnB : n ≤ Big) (hst : s + t = 64) (hs : 0 < s) (ht : 0 < t)
    (hx : Row .u64 w bx ox xs) (hlx : xs.length = n) (hbx : Lt W64 xs) (hz : Wr w bz oz n) (fx : (bx = bz ∧ ox = oz) ∨ bx ≠ bz) :
    Calls Tryz.prog 231 #[.slice (some ⟨bz,oz,none⟩) n cz,.slice (some ⟨bx,ox,none⟩) n cx,.int .u64 s] w fun e w' => ∃ zs c,e = .returned (.int .u64 (c : Nat)) ∧ zs.length = n ∧ Row .u64 w' bz oz zs ∧ Lt W64 zs ∧
      val W64 zs = val W64 xs / 2 ^ s ∧ Chg w w' (In bz oz n) :=by
  unfold Big at hnB
  obtain ⟨n,rfl⟩ : ∃ k,n = k + 1 :=⟨n - 1,by omega⟩
  have hs0 : ((s : Int) == 0) = false :=by simp;omega
  have a1 :=and63 s (by omega)
  have a2 :=and63 t (by omega)
  have a3 : (64 : Int) - (s : Int) = (t : Int) :=by omega
  have hs63 : s ≤ 63 :=by omega
  have ht63 : t ≤ 63 :=by omega
  have HST :=Lib.hid hst
  have gl : xs[0]? = some xs[0] :=List.getElem?_eq_getElem (by omega)
  have cl :=hx 0 _ gl
  generalize xs[0] = xl at gl cl
  simp only [Nat.add_zero] at cl
  have a4 : IntKind.u64.wrap ((xl : Int) * 2 ^ t) = ((xl * 2 ^ t % W64 : Nat) : Int) :=by rw [cast_mul,wrap_u64];rfl
  generalize xl * 2 ^ t % W64 = c at *
  clear gl hst
  go_enter Tryz.func231,Tryz.ntmps231
  go_wp2_with fail
  go_loopw [8] (fun i wr => ∃ (k : Nat) (zs : List Nat),k ≤ n ∧ i = .int .i64 ((k : Int) + 1) ∧ zs.length = k ∧ Row .u64 wr bz oz zs ∧ Lt W64 zs ∧ Row .u64 wr bx (ox + k) (xs.drop k) ∧
    val W64 zs + W64 ^ k * (val W64 (xs.drop k) / 2 ^ s) = val W64 xs / 2 ^ s ∧ Chg w wr (In bz oz (n + 1))) (fun i _ => n + 1 - (intOf i).toNat)
  case atStart => exact ⟨0,[],Nat.zero_le _,rfl,rfl,Row.nil,Lt.nil,hx,by simp [val],Chg.refl _ _⟩
  case round =>
    obtain ⟨k,zs,hk,rfl,hlz,hrow,hzs,hxr,hval,hchg⟩ :=hrel
    by_cases hkn : k < n
    · have g1 : xs[k + 1]? = some xs[k + 1] :=List.getElem?_eq_getElem (by omega)
      have g0 : xs[k]? = some xs[k] :=List.getElem?_eq_getElem (by omega)
      have b1 :=hbx _ (List.getElem_mem (show k + 1 < xs.length by omega))
      have b0 :=hbx _ (List.getElem_mem (show k < xs.length by omega))
      have hd0 :=drop_get g0
      have hd1 :=drop_get g1
      have c0 :=hxr 0 xs[k] (by rw [hd0];rfl)
      have c1 :=hxr 1 xs[k + 1] (by rw [hd0,hd1];rfl)
      simp only [Nat.add_zero] at c0
      generalize hx1 : xs[k + 1] = x1 at *
      generalize hx0 : xs[k] = x0 at *
      obtain ⟨⟨u,hu⟩,hf⟩ :=(hz.chg hchg) k (by omega)
      obtain ⟨o1,o2,o3⟩ :=shl_or (x :=x1) (y :=x0) (s :=t) (t :=s) (by have :=HST.out;omega) b0
      have f1 : IntKind.u64.wrap ((x1 : Int) * 2 ^ t) = ((x1 * 2 ^ t % W64 : Nat) : Int) :=by rw [cast_mul,wrap_u64];rfl
      have f2 :=(cast_div x0 s).symm
      have f3 :=or_u64 (x0 / 2 ^ s) (x1 * 2 ^ t % W64) (by unfold W64 at o3;omega) (Nat.mod_lt _ (by decide))
      rw [Nat.or_comm,o1] at f3
      have hsp :=shr_split (x0 :=x0) (x1 :=x1) (E :=val W64 (xs.drop (k + 2))) HST.out
      have HV :=Lib.hid (And.intro hval (And.intro hsp (And.intro hd0 (And.intro hd1 (And.intro o3 (And.intro hrow (And.intro hzs (And.intro hxr hchg))))))))
      have e2 : ((k : Int) + 1 - 1) = (k : Int) :=by omega
      have c1' : wr.cell? ⟨bx,ox + (k + 1),none⟩ = some (.int .u64 x1) :=by rw [← Nat.add_assoc];exact c1
      generalize x1 * 2 ^ t % W64 = xh at *
      generalize x0 / 2 ^ s = xl0 at *
      clear hval hsp hd0 hd1 g0 g1 o3 o1 o2 hx1 hx0 hrow hzs hxr hchg
      go_wp2_with (first
        | (refine wp_region_lit_segs (id :=13) [[0,1,2,3,4,5,6,7,8,9,10,11,12,13,14,15,16,17,18]] mixed (by kernel_rfl) ?_;simp only [wpSegsL,gaC,gaN,lZ0,lS0,coS])
        | refine ⟨by kernel_rfl,?_⟩)
      obtain ⟨hval,hsp,hd0,hd1,o3,hrow,hzs,hxr,hchg⟩ :=HV.out
      go_roundw
      case rel =>
        have hsc :=Chg.setCell wr bz (oz + k) (.int .u64 (xh + xl0 : Nat)) (In bz oz (n + 1)) fun _ => ⟨rfl,by omega,by omega⟩
        subst hlz
        refine ⟨zs.length + 1,zs ++ [xh + xl0],by omega,by go_num,by simp,(hrow.store (xh + xl0) ⟨u,hu⟩).drew',hzs.snoc o3,?_,?_,(hchg.trans hsc fun _ _ _ h => h).drew⟩
        · have h1 : Row .u64 wr bx (ox + (zs.length + 1)) (xs.drop (zs.length + 1)) :=by
            have :=hxr.drop 1
            rw [List.drop_drop,Nat.add_assoc] at this
            exact this
          refine Row.drew' (h1.chg (Chg.setCell wr bz (oz + zs.length) (.int .u64 (xh + xl0 : Nat)) (fun b o => b = bz ∧ o = oz + zs.length) fun _ => ⟨rfl,rfl⟩) ?_)
          rintro j _ ⟨q1,q2⟩
          rcases fx with ⟨_,q3⟩ | q3
          · omega
          · exact q3 q1
        · have e : val W64 (xs.drop zs.length) = x0 + W64 * (x1 + W64 * val W64 (xs.drop (zs.length + 2))) :=by rw [hd0,hd1];rfl
          have e2 : val W64 (xs.drop (zs.length + 1)) = x1 + W64 * val W64 (xs.drop (zs.length + 2)) :=by rw [hd1];rfl
          rw [e,hsp] at hval
          rw [e2,val_snoc,Nat.pow_succ,← hval,Nat.add_comm xh xl0,Nat.mul_add _ (xl0 + xh),Nat.mul_assoc]
          omega
      case measure => simp [intOf];omega
    · obtain rfl : k = n :=by omega
      have g0 : xs[k]? = some xs[k] :=List.getElem?_eq_getElem (by omega)
      have b0 :=hbx _ (List.getElem_mem (show k < xs.length by omega))
      have hd0 :=drop_get g0
      rw [List.drop_eq_nil_of_le (show xs.length ≤ k + 1 by omega)] at hd0
      have c0 :=hxr 0 xs[k] (by rw [hd0];rfl)
      simp only [Nat.add_zero] at c0
      generalize hx0 : xs[k] = x0 at *
      obtain ⟨⟨u,hu⟩,hf⟩ :=(hz.chg hchg) k (by omega)
      have f2 :=(cast_div x0 s).symm
      have hql : x0 / 2 ^ s < W64 :=Nat.lt_of_le_of_lt (Nat.div_le_self _ _) b0
      have hv : val W64 (xs.drop k) = x0 :=by rw [hd0];simp [val]
      rw [hv] at hval
      have HV :=Lib.hid (And.intro hval (And.intro hql (And.intro hrow (And.intro hzs hchg))))
      generalize x0 / 2 ^ s = q at *
      clear hval hd0 g0 hx0 hv hrow hzs hxr hchg hql
      go_wp2_with fail
      go_ret
      obtain ⟨hval,hql,hrow,hzs,hchg⟩ :=HV.out
      subst hlz
      refine ⟨zs ++ [q],c,rfl,by simp,hrow.store q ⟨u,hu⟩,hzs.snoc hql,by rw [val_snoc];exact hval,?_⟩
      exact hchg.trans (Chg.setCell wr bz (oz + zs.length) (.int .u64 q) (In bz oz (zs.length + 1)) fun _ => ⟨rfl,by omega,by omega⟩) fun _ _ _ h => h
end Go.Proofs.YtfmmdamgcpiciaaGreatDoor
namespace Go.Proofs.YtfmmdamgcpiciaaGreatDoor
open Go Go.RowKit
theorem grow_nil_run (w : World) (t : TypeId) (ht : Tryz.prog.underlying t = some (.slice 109)) (n : Nat) (h0 : 0 < n) (hn : n ≤ 1000) :
    (Builtin.append_ #[t,3] t #[.slice none 0 0,.int .i64 n]).run Tryz.prog w =
      .ok (.slice (some ⟨w.heap.size,0,none⟩) n (grownCap w n 0 109)) (w.drew.alloc (.cells (Builtin.zeroCells #[.int .u64 0] n ++ Builtin.zeroCells #[.int .u64 0] (grownCap w n 0 109 - n)) 109)) :=by
  obtain ⟨i0,hi,hz0,hz1,hz2⟩ :=info_parts info109
  exact Lib.run_append_nil_zeros w t 3 t 109 i0 (.int .u64 0) .i64 .i64 ht Tryz.underlying3 hi hz0 n h0 (by omega) (by omega) (by rw [hz2];omega)
theorem zero_cell (n j : Nat) (h : j < n) : (Builtin.zeroCells #[.int .u64 0] n)[j]? = some (.int .u64 0) :=by
  simp [Builtin.zeroCells,h,Nat.mod_one]
theorem zero_size (n : Nat) : (Builtin.zeroCells #[.int .u64 0] n).size = n :=by simp [Builtin.zeroCells]
theorem wr_zeros (w : World) (m n : Nat) (t : TypeId) : Wr (w.alloc (.cells (Builtin.zeroCells #[.int .u64 0] m ++ Builtin.zeroCells #[.int .u64 0] n) t)) w.heap.size 0 (m + n) :=fun j hj => by
  refine ⟨?_,NF.made w _ _ _⟩
  rw [World.cell?_alloc_at _ _ _ _ rfl,Nat.zero_add]
  by_cases h : j < m
  · exact ⟨_,by rw [Array.getElem?_append_left (by rw [zero_size];exact h)];exact zero_cell m j h⟩
  · exact ⟨_,by rw [Array.getElem?_append_right (by rw [zero_size];omega),zero_size];exact zero_cell n (j - m) (by omega)⟩
theorem grow_nil (w : World) (n : Nat) (h0 : 0 < n) (hn : n ≤ 1000) :
    Calls Tryz.prog 174 #[.slice none 0 0,.int .i64 n] w fun e w' => ∃ b c,e = .returned (.slice (some ⟨b,0,none⟩) 0 c) ∧ n ≤ c ∧ c < 9223372036854775808 ∧ Wr w' b 0 c ∧ NF w' b ∧ w.heap.size ≤ b ∧ b < w'.heap.size ∧ Kept w w' :=by
  have hr :=fun W => grow_nil_run W 110 Tryz.underlying110 n h0 hn
  have hc :=fun W => And.intro (grownCap_ge W n 0 109) (grownCap_le_maxLen W n 0 109 (by unfold maxLen;omega))
  have HR :=Lib.hid hr
  clear hr
  go_enter Tryz.func174,Tryz.ntmps174
  go_wp2_with (at_builtin;refine Lib.wpList_append_run _ rfl _ _ 110 3 rfl (.slice none 0 0) (.int .i64 n) rfl rfl _ _ (HR.out _) ?_;have hcw :=hc w;clear hc;unfold maxLen at hcw;generalize grownCap w n 0 109 = cap at *)
  first | go_ret | refine ⟨_,results_tmp rfl _ _ _,?_⟩
  refine ⟨w.heap.size,cap,rfl,hcw.1,by omega,?_,NF.made w.drew _ _,Nat.le_refl _,by simp,(Chg.alloc w.drew _ None2).of_drew⟩
  have :=wr_zeros w.drew n (cap - n) 109
  rw [show n + (cap - n) = cap by omega] at this
  exact this
theorem cell_store {w : World} {b o : Nat} {u v : Value} (h : w.cell? ⟨b,o,none⟩ = some u) : ∃ x,(w.setCell ⟨b,o,none⟩ v).cell? ⟨b,o,none⟩ = some x :=⟨v,cell_setCell_eq h⟩
theorem stk_small (w : World) (bs n : Nat) (h0 : 0 < n) (hn : n ≤ 4) (hs : w.cell? ⟨bs,0,none⟩ = some (.pointer none)) :
    Calls Tryz.prog 152 #[ptr bs,.int .i64 n] w fun e w' => ∃ b c,e = .returned (.slice (some ⟨b,0,none⟩) n c) ∧ n ≤ c ∧ c < 9223372036854775808 ∧ Wr w' b 0 c ∧ NF w' b ∧ w.heap.size ≤ b ∧ b < w'.heap.size ∧ Kept w w' :=by
  have hg :=grow_nil w n h0 (by omega)
  go_enter Tryz.func152,Tryz.ntmps152
  go_wp2_with (go_at_call 174;refine hg.mono ?_;rintro e w1 ⟨b,c,rfl,g1,gc,g2,g3,g4,g5,g6⟩;obtain ⟨⟨u,hu⟩,hf⟩ :=g2 0 (by omega);simp only [Nat.add_zero] at hu hf)
  first | go_ret | refine ⟨_,results_tmp rfl _ _ _,?_⟩
  have hsc :=Chg.setCell w1 b 0 (.int .u64 11259375) (fun b' _ => b' = b) fun _ => rfl
  exact ⟨b,c,rfl,g1,gc,g2.chg hsc,g3.chg g5 hsc,g4,by have :=hsc.size;omega,g6.keptNew hsc fun b' _ h => by omega⟩
theorem grow_nil' (w : World) (n : Nat) (h0 : 0 < n) (hn : n ≤ 1000) :
    Calls Tryz.prog 214 #[.slice none 0 0,.int .i64 n] w fun e w' => ∃ b c,e = .returned (.slice (some ⟨b,0,none⟩) 0 c) ∧ n ≤ c ∧ c < 9223372036854775808 ∧ Wr w' b 0 c ∧ NF w' b ∧ w.heap.size ≤ b ∧ b < w'.heap.size ∧ Kept w w' :=by
  have hr :=fun W => grow_nil_run W 108 Tryz.underlying108 n h0 hn
  have hc :=fun W => And.intro (grownCap_ge W n 0 109) (grownCap_le_maxLen W n 0 109 (by unfold maxLen;omega))
  have HR :=Lib.hid hr
  clear hr
  go_enter Tryz.func214,Tryz.ntmps214
  go_wp2_with (at_builtin;refine Lib.wpList_append_run _ rfl _ _ 108 3 rfl (.slice none 0 0) (.int .i64 n) rfl rfl _ _ (HR.out _) ?_;have hcw :=hc w;clear hc;unfold maxLen at hcw;generalize grownCap w n 0 109 = cap at *)
  first | go_ret | refine ⟨_,results_tmp rfl _ _ _,?_⟩
  refine ⟨w.heap.size,cap,rfl,hcw.1,by omega,?_,NF.made w.drew _ _,Nat.le_refl _,by simp,(Chg.alloc w.drew _ None2).of_drew⟩
  have :=wr_zeros w.drew n (cap - n) 109
  rw [show n + (cap - n) = cap by omega] at this
  exact this
theorem round4 (n : Nat) (hn : n ≤ 1000) : bits .andNot .i64 ((n : Int) + 3) 3 = (((n + 3) / 4 * 4 : Nat) : Int) :=by
  have h : ∀ k : Fin 1001,bits .andNot .i64 ((k.val : Int) + 3) 3 = (((k.val + 3) / 4 * 4 : Nat) : Int) :=by decide +kernel
  exact h ⟨n,by omega⟩
theorem inner_first (w : World) (bi n : Nat) (h0 : 0 < n) (hn : n ≤ 900) (hs : w.cell? ⟨bi,0,none⟩ = some (.slice none 0 0)) (hf : w.frozen? ⟨bi,0,none⟩ = false) :
    Calls Tryz.prog 175 #[ptr bi,.int .i64 n] w fun e w' => ∃ b c,e = .returned (.slice (some ⟨b,0,none⟩) n n) ∧ n ≤ (n + 3) / 4 * 4 ∧ (n + 3) / 4 * 4 ≤ c ∧ c < 9223372036854775808 ∧ Wr w' b 0 c ∧ NF w' b ∧ w.heap.size ≤ b ∧ b < w'.heap.size ∧ w'.cell? ⟨bi,0,none⟩ = some (.slice (some ⟨b,0,none⟩) ((n + 3) / 4 * 4) c) ∧ Chg w w' (fun b' _ => b' = bi) :=by
  have h4 :=round4 n (by omega)
  have hle : n ≤ (n + 3) / 4 * 4 :=by omega
  have hle2 : (n + 3) / 4 * 4 ≤ 1000 :=by omega
  have hlt :=lt_of_cell hs
  generalize (n + 3) / 4 * 4 = m at *
  have hg :=grow_nil' w m (by omega) hle2
  go_enter Tryz.func175,Tryz.ntmps175
  go_wp2_with (go_at_call 214;refine hg.mono ?_;rintro e w1 ⟨b,c,rfl,g1,gc,g2,g3,g4,g5,g6⟩;have hs1 :=Kept.at g6 hs;have hf1 :=(g6.frz bi 0 hlt).trans hf;obtain ⟨⟨u,hu⟩,hfu⟩ :=g2 0 (by omega);simp only [Nat.add_zero] at hu hfu;have hbb : bi ≠ b :=(by omega);have q1 :=cs_ne (u :=.slice (some ⟨b,0,none⟩) m c) (cs_ne (u :=.slice (some ⟨b,0,none⟩) 0 c) hu (b' :=bi) (o' :=0) (by omega)) (b' :=bi) (o' :=0) (by omega))
  have s1 :=Chg.setCell w1 bi 0 (.slice (some ⟨b,0,none⟩) 0 c) (fun b' _ => b' = bi) fun _ => rfl
  have s2 :=Chg.setCell (w1.setCell ⟨bi,0,none⟩ (.slice (some ⟨b,0,none⟩) 0 c)) bi 0 (.slice (some ⟨b,0,none⟩) m c) (fun b' _ => b' = bi) fun _ => rfl
  have s12 :=s1.trans s2 (fun _ _ _ h => h)
  generalize hw3 : (w1.setCell ⟨bi,0,none⟩ (.slice (some ⟨b,0,none⟩) 0 c)).setCell ⟨bi,0,none⟩ (.slice (some ⟨b,0,none⟩) m c) = w3 at *
  have s3 :=Chg.setCell w3 b 0 (.int .u64 1043915) (fun b' _ => b' = b) fun _ => rfl
  have hc3 : w3.cell? ⟨bi,0,none⟩ = some (.slice (some ⟨b,0,none⟩) m c) :=by
    rw [← hw3];obtain ⟨x,hx⟩ :=cell_store (v :=.slice (some ⟨b,0,none⟩) 0 c) hs1;exact cell_setCell_eq hx
  first | go_ret | refine ⟨_,results_tmp rfl _ _ _,?_⟩
  refine ⟨b,c,by first | rfl | (simp;omega),hle,g1,gc,((g2.chg s12).chg s3),((g3.chg g5 s12).chg (by have :=s12.size;omega) s3),g4,?_,?_,?_⟩
  · have :=s12.size;have :=s3.size;omega
  · exact cs_ne hc3 (by omega)
  · exact ((Chg.any g6 _).trans s12 fun _ _ _ h => h).trans s3 fun _ _ h h' => absurd h (by omega)
end Go.Proofs.YtfmmdamgcpiciaaGreatDoor
namespace Go.Proofs.YtfmmdamgcpiciaaGreatDoor
open Go Go.RowKit
theorem T106 : ElemT 106 69 .u64 8 :=⟨by kernel_rfl,by kernel_rfl,by decide⟩
theorem T76 : ElemT 76 5 .u8 1 :=⟨by kernel_rfl,by kernel_rfl,by decide⟩
theorem int_bits (w : World) (b : Nat) (s : Option Addr) (n c : Nat) (X : Int) (h : IntA w b s n c X) : Calls Tryz.prog 94 #[ptr b] w fun r w' => r = .returned (.slice s n c) ∧ w' = w :=by
  have h1 :=h.abs
  go_enter Tryz.func94,Tryz.ntmps94
  go_wp2
  first | go_ret | refine ⟨_,results_tmp rfl _ _ _,?_⟩
  exact ⟨rfl,rfl⟩
theorem nz_val {xs : List Nat} (h : Nz xs) (hne : xs ≠ []) : val W64 xs ≠ 0 :=by
  obtain ⟨n,hl⟩ : ∃ n,xs.length = n + 1 :=⟨xs.length - 1,by have :=List.length_pos_iff.2 hne;omega⟩
  have :=Nz.le (B :=W64) h hl
  have h2 : 0 < W64 ^ n :=Nat.pow_pos (by decide)
  omega
theorem mid_get {xs ts : List Nat} {i x : Nat} (h : xs[i]? = some x) : (xs.take (i + 1) ++ ts)[i]? = some x :=by
  obtain ⟨hl,rfl⟩ :=List.getElem?_eq_some_iff.1 h
  rw [List.getElem?_append_left (by rw [List.length_take];omega),List.getElem?_take,if_pos (by omega),h]
theorem mid_set {xs ts : List Nat} {i : Nat} (q : Nat) (h : i < xs.length) : (xs.take (i + 1) ++ ts).set i q = xs.take i ++ (q :: ts) :=by
  rw [List.take_succ_eq_append_getElem h,List.append_assoc,List.set_append_right _ _ (by rw [List.length_take];exact Nat.min_le_left _ _)]
  rw [List.length_take,Nat.min_eq_left (Nat.le_of_lt h),Nat.sub_self]
  rfl
theorem wrap_quo (n : Nat) (h : n < W64) : IntKind.u64.wrap ((n : Int) / 1000000000) = ((n / 1000000000 : Nat) : Int) :=by
  unfold W64 at h
  have : ((n : Int) / 1000000000) = ((n / 1000000000 : Nat) : Int) :=rfl
  rw [this]
  exact wrap_u64_in _ (by omega) (by omega)
theorem nz_val32 {xs : List Nat} (h : Nz xs) (hne : xs ≠ []) : val B32 xs ≠ 0 :=by
  obtain ⟨n,hl⟩ : ∃ n,xs.length = n + 1 :=⟨xs.length - 1,by have :=List.length_pos_iff.2 hne;omega⟩
  have :=Nz.le (B :=B32) h hl
  have h2 : 0 < B32 ^ n :=Nat.pow_pos (by decide)
  omega
theorem bytes_str (w : World) (g n c : Nat) (L : List Nat) (hl : L.length = n) (hB : ∀ x ∈ L,x < 256) (hb : ∀ (j x : Nat),L[j]? = some x → w.cell? ⟨g,0 + j,none⟩ = some (.int .u8 (x : Int))) :
    (convert 76 9 (.slice (some ⟨g,0,none⟩) n c)).run Tryz.prog w = .ok (str L) w :=by
  have h :=run_convert_bytes_back (P :=Tryz.prog) w 76 9 5 ⟨g,0,none⟩ c (L.map UInt8.ofNat) (by kernel_rfl) (by kernel_rfl) (by kernel_rfl) (fun j hj => by
    have hj' : j < L.length :=by simpa using hj
    rw [Addr.add_lit,hb j L[j] (List.getElem?_eq_getElem hj')]
    have :=hB _ (List.getElem_mem hj')
    simp only [List.getElem_map]
    rw [UInt8.toNat_ofNat_of_lt' (by simpa using this)])
  rw [List.length_map,hl] at h
  exact h
theorem txt_lt (X : Int) : ∀ c ∈ txt X,c < 256 :=by
  unfold txt
  split
  · intro c hc
    rcases List.mem_cons.1 hc with rfl | hc
    · decide
    · have :=digT_range _ c hc;omega
  · intro c hc
    have :=digT_range _ c hc;omega
theorem cells2 (w : World) (k : IntKind) (x y e : Nat) : ∀ (j z : Nat),[x,y][j]? = some z → (w.alloc (.cells #[.int k (x : Int),.int k (y : Int)] e)).cell? ⟨w.heap.size,0 + j,none⟩ = some (.int k (z : Int)) :=by
  intro j z hj
  rw [World.cell?_alloc_at _ _ _ _ rfl]
  match j,hj with
  | 0,hj => obtain rfl :=Option.some.inj hj;rfl
  | 1,hj => obtain rfl :=Option.some.inj hj;rfl
structure Dg (w wr : World) (N : Nat) (s3 : Option Addr) (c3 : Nat) (xs : List Nat) (s6 : Option Addr) (c6 : Nat) (ys : List Nat) : Prop where
  l : Sl .u64 w wr s3 c3 xs
  b : Sl .u8 w wr s6 c6 (ys.map (48 + ·))
  ne : ∀ a a',s3 = some a → s6 = some a' → a.block ≠ a'.block
  lt : Lt B32 xs
  nz : xs ≠ [] → val B32 xs ≠ 0
  eq : dl N = ys ++ dl (val B32 xs)
  k : Kept w wr
theorem digits (w : World) (b : Nat) (X : Int) (hX : IntAt w b X) (hn : X.natAbs < 10 ^ 1000) : Calls Tryz.prog 57 #[ptr b] w fun r w' => r = .returned (str (txt X)) ∧ Kept w w' :=by
  obtain ⟨s,n,c,hX⟩ :=hX
  have HN :=Lib.hid hn
  have hb :=int_bits w b s n c X hX
  have hsg :=int_sign w b X ⟨s,n,c,hX⟩
  obtain ⟨ws,hl,hnc,hcB,hnB,hok,hw,hlt,hnz,hv⟩ :=hX.nat
  have hn2 : n ≤ 52 :=hX.nat.len_lt (Nat.lt_of_lt_of_le hn (by decide))
  have hX0 :=Lib.hid hX
  clear hX hn
  go_enter Tryz.func57,Tryz.ntmps57
  go_wp2_with (go_at_call 94;refine hb.mono ?_;rintro r w1 ⟨rfl,rfl⟩)
  go_loopw [3,15] (fun t3 t15 wr => ∃ (k : Nat) (s3 : Option Addr) (c3 : Nat),k ≤ n ∧ t15 = .int .i64 k ∧ t3 = .slice s3 (2 * k) c3 ∧ Sl .u64 w1 wr s3 c3 (halves (ws.take k)) ∧ Kept w1 wr) (fun _ t15 _ => n - (intOf t15).toNat)
  case atStart => exact ⟨0,none,0,Nat.zero_le _,rfl,rfl,Sl.start,Chg.refl _ _⟩
  case round =>
    obtain ⟨k,s3,c3,hk,rfl,rfl,hS,hK⟩ :=hrel
    rcases Nat.lt_or_ge k n with hkn | hkn
    · have hs : ∃ bw ow,s = some ⟨bw,ow,none⟩ ∧ Row .u64 w1 bw ow ws :=by
        rcases hw with rfl | h
        · simp at hl;omega
        · exact h
      obtain ⟨bw,ow,rfl,hrow⟩ :=hs
      have gx : ws[k]? = some ws[k] :=List.getElem?_eq_getElem (by omega)
      have hx1 : ws[k] < W64 :=hlt _ (List.getElem_mem _)
      have htk : halves (ws.take (k + 1)) = halves (ws.take k) ++ [ws[k] % B32,ws[k] / B32] :=by rw [List.take_succ_eq_append_getElem (by omega),halves_snoc]
      generalize ws[k] = x at gx hx1 htk
      have cx :=(hrow.keep hK) k x gx
      have hkc : k < c :=by omega
      have m1 :=Lib.hid (mask32 x hx1)
      have m2 : Hid (((x : Int) / 4294967296) = ((x / B32 : Nat) : Int)) :=Lib.hid rfl
      have hsl :=hK.size
      have hlh : (halves (ws.take k)).length = 2 * k :=by rw [halves_length,List.length_take,Nat.min_eq_left (by omega)]
      go_wp2_with (at_builtin;rw [m1.out,m2.out];refine wp_gapp T106 (w0 :=w1) rfl (.tmp 19) (.tmp 24) rfl rfl [x % B32,x / B32] rfl rfl (hS.kept (Chg.alloc _ _ _)) (Nat.le_trans hsl (Chg.alloc _ _ None2).size) hlh rfl (by decide) (by omega) (cells2 _ _ _ _ _) ?_;intro s4 c4 w4 hS4 hC4 hD4)
      go_roundw
      case rel =>
        refine ⟨k + 1,s4,c4,hkn,by go_num,rfl,by rw [htk];exact hS4,(kt hK (Chg.alloc _ _ _)).trans hC4 fun b o hb h => ?_⟩
        obtain ⟨a,ha,rfl⟩ :=h
        have :=(hS.lt ha).1
        omega
      case measure => simp [intOf];omega
    · obtain rfl : k = n :=Nat.le_antisymm hk hkn
      have hS0 : Sl .u64 w1 wr s3 c3 (halves ws) :=by rw [List.take_of_length_le (by omega)] at hS;exact hS
      have hD : Dg w1 wr X.natAbs s3 c3 (halves ws) none 0 [] :=by
        refine ⟨hS0,Sl.start,(fun _ _ _ h => by cases h),halves_lt hlt,(fun h e => ?_),by rw [halves_val,hv];rfl,hK⟩
        rw [halves_val] at e
        exact nz_val hnz (fun h2 => h (by rw [h2];rfl)) e
      have hlh : (halves ws).length = 2 * k :=by rw [halves_length,hl]
      obtain ⟨xs,hxs⟩ : ∃ xs,halves ws = xs :=⟨_,rfl⟩
      rw [hxs] at hD hlh
      have HW :=Lib.hid (And.intro hX0 (And.intro hv hl))
      clear hS hS0 hxs hK hw hlt hnz hv hok hcB hnc hnB hb
      go_wp2_with fail
      go_loopw [3,6] (fun t3 t6 wx => ∃ (s3 : Option Addr) (c3 n3 : Nat) (xs : List Nat) (s6 : Option Addr) (c6 n6 : Nat) (ys : List Nat),xs.length = n3 ∧ n3 ≤ 104 ∧ ys.length = n6 ∧ n6 ≤ 1000 ∧ t3 = .slice s3 n3 c3 ∧ t6 = .slice s6 n6 c6 ∧ Dg w1 wx X.natAbs s3 c3 xs s6 c6 ys) (fun _ t6 _ => 1000 - lenOf t6)
      case atStart => exact ⟨s3,c3,_,xs,none,0,0,[],hlh,by omega,rfl,Nat.zero_le _,rfl,rfl,hD⟩
      case round =>
        clear hD hlh
        obtain ⟨s3,c3,n3,xs,s6,c6,n6,ys,hn3,hb3,hn6,hb6,rfl,rfl,hD⟩ :=hrel
        rcases Nat.eq_zero_or_pos n3 with rfl | hp
        · have hxs : xs = [] :=List.eq_nil_of_length_eq_zero hn3
          subst hxs
          have hdl : dl X.natAbs = ys :=by have :=hD.eq;simpa [val,dl_zero] using this
          have hS :=hD.b
          have hK :=hD.k
          clear hD
          rcases Nat.eq_zero_or_pos n6 with rfl | hp6
          · have hy : ys = [] :=List.eq_nil_of_length_eq_zero hn6
            have hX0' : X = 0 :=by
              rcases Nat.eq_zero_or_pos X.natAbs with h | h
              · omega
              · rw [dl_pos (by omega)] at hdl;rw [hy] at hdl;cases hdl
            go_wp2_with fail
            first | go_ret | refine ⟨_,results_tmp rfl _ _ _,?_⟩
            exact ⟨by subst hX0';rfl,hK⟩
          · have hn60 : ((n6 : Int) == 0) = false :=by simp;omega
            have hXn : X ≠ 0 :=fun h => by subst h;simp [dl_zero] at hdl;rw [hdl] at hn6;simp at hn6;omega
            have hIA :=hX0.out
            have hsg2 :=int_sign wr b X ⟨s,k,c,hIA.kept hK⟩
            obtain ⟨sg,hsg⟩ : ∃ z,Int.sign X = z :=⟨_,rfl⟩
            rw [hsg] at hsg2
            obtain ⟨L,hL⟩ : ∃ L,ys.map (48 + ·) ++ (if X < 0 then [45] else []) = L :=⟨_,rfl⟩
            have hL2 : txt X = L.reverse :=by
              rw [← hL,← hdl]
              unfold txt
              rw [digT_eq (by omega)]
              split <;> simp
            have HL :=Lib.hid hL2
            have hLl : L.length = n6 + (if X < 0 then 1 else 0) :=by
              rw [← hL]
              split <;> simp [hn6]
            clear hL2 hdl HW
            go_upto_if 95 with (go_at_call 95;refine hsg2.mono ?_;rintro r w2 ⟨rfl,rfl⟩)
            go_cut [6] from 96 to 98 (fun t6 wx => ∃ s6' c6',t6 = .slice s6' L.length c6' ∧ Sl .u8 w1 wx s6' c6' L ∧ Kept w1 wx)
            case first =>
              rcases Int.lt_or_le X 0 with hX0 | hX0
              · rw [Int.sign_eq_neg_one_of_neg hX0] at hsg
                subst hsg
                rw [if_pos hX0] at hL hLl
                have hlen : (ys.map (48 + ·)).length = n6 :=by simp [hn6]
                go_wp2_with (at_builtin;refine wp_gapp1 T76 (w0 :=w1) rfl (.tmp 96) (.tmp 97) rfl rfl rfl rfl hS hK.size hlen (by omega) (by decide) ?_;intro s4 c4 w4 hS4 hC4 hD4)
                go_meet
                rw [hLl]
                refine ⟨s4,c4,rfl,by rw [← hL];exact hS4,hK.trans hC4 fun b o hb h => ?_⟩
                obtain ⟨a,ha,rfl⟩ :=h
                have :=(hS.lt ha).1
                omega
              · rw [Int.sign_eq_one_of_pos (by omega)] at hsg
                subst hsg
                rw [if_neg (by omega)] at hL hLl
                go_wp2_with fail
                go_meet
                rw [hLl,Nat.add_zero]
                exact ⟨s6,c6,rfl,by rw [← hL,List.append_nil];exact hS,hK⟩
            case rest =>
              obtain ⟨s6',c6',rfl,hS',hK'⟩ :=hcut
              have hLp : 0 < L.length :=by omega
              have hs6 : ∃ g,s6' = some ⟨g,0,none⟩ ∧ w1.heap.size ≤ g ∧ OutK .u8 wc g 0 c6' L :=by
                cases s6' with
                | none => have :=(hS'.nil rfl).1;subst this;simp at hLp
                | some a => obtain ⟨g,rfl,h0,_,h⟩ :=hS'.own a rfl;exact ⟨g,rfl,h0,h⟩
              obtain ⟨g,rfl,hg,hO⟩ :=hs6
              have hLB : L.length ≤ 1001 :=by rw [hLl];split <;> omega
              clear hL hLl hS hK hS' hsg hsg2 hIA
              obtain ⟨N,hN⟩ : ∃ N,L.length = N :=⟨_,rfl⟩
              rw [hN] at hLp hLB ⊢
              go_wp2_with fail
              go_loopw [10,11] (fun t10 t11 wx => ∃ (i : Nat) (zs : List Nat),2 * i ≤ N ∧ t10 = .int .i64 i ∧ t11 = .int .i64 ((N : Int) - 1 - i) ∧ Turned L zs i ∧ OutK .u8 wx g 0 c6' zs ∧ Kept w1 wx) (fun t10 _ _ => N - (intOf t10).toNat)
              case atStart => exact ⟨0,L,by omega,rfl,by first | rfl | (congr 1;omega),Turned.start L,hO,hK'⟩
              case round =>
                clear hO hK'
                obtain ⟨i,zs,hi,rfl,rfl,hT,hO,hK⟩ :=hrel
                have hzl : zs.length = N :=hT.1.trans hN
                have hcN :=hO.le
                by_cases hlt : 2 * i + 1 < N
                · obtain ⟨k,hk⟩ : ∃ k,k + 1 + i = N :=⟨N - 1 - i,by omega⟩
                  have e1 : ((N : Int) - 1 - i) = (k : Int) :=by omega
                  have gx : zs[k]? = some zs[k] :=List.getElem?_eq_getElem (by omega)
                  have gy : zs[i]? = some zs[i] :=List.getElem?_eq_getElem (by omega)
                  generalize zs[k] = x at gx
                  generalize zs[i] = y at gy
                  have cx :=hO.row k x gx
                  have cy :=hO.row i y gy
                  have fi :=(hO.room i (by omega)).2
                  have fk :=(hO.room k (by omega)).2
                  have hik : i < k :=by omega
                  have hkN : k < N :=by omega
                  have hO3 :=(hO.set x (i :=i) (by omega)).set y (i :=k) (by simp;omega)
                  have hT3 :=hT.step (by rw [hN];exact hk) hik gx gy
                  have HH :=Lib.hid (And.intro hO3 hT3)
                  simp only [Nat.zero_add] at cx cy fi fk
                  have cy2 :=cs_ne (u :=.int .u8 (x : Int)) cx (b' :=g) (o' :=i) (by omega)
                  rw [e1]
                  clear hO hT hO3 hT3
                  go_wp2_with (first
                    | (refine wp_region_lit_segs (id :=30) [[0,1,2,3,4,5,6,7,8,9,10,11,12,13,14,15]] mixed (by kernel_rfl) ?_;simp only [wpSegsL,gaC,gaN,lZ0,lS0,coS])
                    | refine ⟨by kernel_rfl,?_⟩)
                  go_roundw
                  case rel =>
                    obtain ⟨hO3,hT3⟩ :=HH.out
                    simp only [Nat.zero_add] at hO3
                    refine ⟨i + 1,(zs.set i x).set k y,by omega,by go_num,by first | rfl | (congr 1;omega),hT3,?_,?_⟩
                    · first | exact hO3 | exact hO3.kept (Chg.refl _ _).drew
                    · refine Chg.keptNew (M :=fun p _ => p = g) hK ?_ fun p _ h => by omega
                      exact ((Chg.refl _ _).drew.trans (Chg.setCell _ g i _ (fun p _ => p = g) fun _ => rfl) fun _ _ _ h => h).trans (Chg.setCell _ g k _ (fun p _ => p = g) fun _ => rfl) fun _ _ _ h => h
                  case measure => simp [intOf];omega
                · have hij : ¬ ((i : Int) < (N : Int) - 1 - i) :=by omega
                  have hz :=hT.done (by omega)
                  have hrow :=hO.row
                  rw [hz] at hrow
                  have hstr :=bytes_str wr g N c6' L.reverse (by simp [hN]) (by rw [← HL.out];exact txt_lt X) hrow
                  go_wp2_with fail
                  first | go_ret | refine ⟨_,results_tmp rfl _ _ _,?_⟩
                  exact ⟨by rw [HL.out];rfl,hK⟩
        · have hs3 : ∃ g,s3 = some ⟨g,0,none⟩ ∧ w1.heap.size ≤ g ∧ g < wr.heap.size ∧ OutK .u64 wr g 0 c3 xs :=by
            cases s3 with
            | none => have :=(hD.l.nil rfl).1;subst this;simp at hn3;omega
            | some a => obtain ⟨g,rfl,h⟩ :=hD.l.own a rfl;exact ⟨g,rfl,h⟩
          obtain ⟨g,rfl,hg0,hg1,hO⟩ :=hs3
          have HD :=Lib.hid hD
          clear hD
          go_wp2_with fail
          go_loopw [7,8] (fun t7 t8 wx => ∃ (j r : Nat) (ts : List Nat),j ≤ n3 ∧ t8 = .int .i64 ((j : Int) - 1) ∧ t7 = .int .u64 r ∧ r < 1000000000 ∧ ts.length = n3 - j ∧ Lt B32 ts ∧ val B32 ts * 1000000000 + r = val B32 (xs.drop j) ∧ OutK .u64 wx g 0 c3 (xs.take j ++ ts) ∧ Chg wr wx (fun p _ => p = g)) (fun _ t8 _ => (intOf t8 + 1).toNat)
          case atStart => exact ⟨n3,0,[],Nat.le_refl _,by first | rfl | (congr 1;omega),rfl,by decide,by simp,Lt.nil,by rw [List.drop_of_length_le (by omega)];rfl,by rw [List.take_of_length_le (by omega),List.append_nil];exact hO,Chg.refl _ _⟩
          case round =>
            obtain ⟨j,r,ts,hj,rfl,rfl,hr,hts,htl,hval,hO2,hC⟩ :=hrel
            rcases Nat.eq_zero_or_pos j with rfl | hjp
            · rw [show (((0 : Nat) : Int) - 1) = -1 from rfl]
              have hD :=HD.out
              have hD6 : Sl .u8 w1 wr s6 c6 (ys.map (48 + ·)) :=hD.b.chg hC fun a ha o e => hD.ne _ a rfl ha e.symm
              have hK : Kept w1 wr :=hD.k.trans hC fun b _ hb h => by subst h;omega
              rw [List.take_zero,List.nil_append] at hO2
              rw [List.drop_zero] at hval
              have HE :=Lib.hid (And.intro hD.eq (And.intro (hD.nz (fun h => by subst h;simp at hn3;omega)) hval))
              have hne :=hD.ne
              have hg2 : g < wr.heap.size :=Nat.lt_of_lt_of_le hg1 hC.size
              have hc3 :=hD.l.cap
              have hK2 :=Lib.hid (And.intro hK (And.intro hD6 (And.intro hne hc3)))
              clear hD HD hC hO hval hK hD6 hne hg1 hc3 hj
              go_upto_block 6 with fail
              go_cut [3] from 51 to 67 (fun t3 wx => wr = wx ∧ ∃ m : Nat,m ≤ n3 ∧ t3 = .slice (some ⟨g,0,none⟩) m c3 ∧ trimZ ts = ts.take m)
              case first =>
               go_wp2_with fail
               go_loop [3] (fun t3 => ∃ m : Nat,m ≤ n3 ∧ t3 = .slice (some ⟨g,0,none⟩) m c3 ∧ trimZ (ts.take m) = trimZ ts) (fun t3 => lenOf t3)
               case atStart => exact ⟨n3,Nat.le_refl _,rfl,by rw [List.take_of_length_le (by omega)]⟩
               case round =>
                 obtain ⟨m,hm,rfl,htr⟩ :=hrel
                 rcases Nat.eq_zero_or_pos m with rfl | hmp
                 · go_wp2_with fail
                   go_meet
                   exact ⟨rfl,0,Nat.zero_le _,rfl,htr.symm⟩
                 · obtain ⟨i,rfl⟩ : ∃ i,m = i + 1 :=⟨m - 1,by omega⟩
                   have gx : ts[i]? = some ts[i] :=List.getElem?_eq_getElem (by omega)
                   have htk : ts.take (i + 1) = ts.take i ++ [ts[i]] :=List.take_succ_eq_append_getElem (by omega)
                   generalize ts[i] = x at gx htk
                   have cx :=hO2.row i x gx
                   rw [htk,trimZ_snoc] at htr
                   simp only [Nat.zero_add] at cx
                   have hic : i + 1 ≤ c3 :=by have :=hO2.le;omega
                   rcases Nat.eq_zero_or_pos x with rfl | hxp
                   · rw [if_pos rfl] at htr
                     go_wp2_with fail
                     go_round
                     case rel => exact ⟨i,by omega,by go_num,htr⟩
                     case measure => simp [lenOf]
                   · rw [if_neg (by omega)] at htr
                     have hx0 : ((x : Int) == 0) = false :=by simp;omega
                     go_wp2_with fail
                     go_meet
                     exact ⟨rfl,i + 1,hm,rfl,by rw [htk];exact htr.symm⟩
              case rest =>
               obtain ⟨rfl,m,hm,rfl,htr⟩ :=hcut
               obtain ⟨hE1,hE2,hE3⟩ :=HE.out
               have hzm :=(trimZ_spec B32 ts).1
               rw [htr] at hzm
               have hnzm :=Nz.trimZ ts
               rw [htr] at hnzm
               have hm2 : m ≤ ts.length :=by omega
               have hlm : (ts.take m).length = m :=by rw [List.length_take,Nat.min_eq_left hm2]
               obtain ⟨V,hV⟩ : ∃ V,val B32 (ts.take m) = V :=⟨_,rfl⟩
               rw [hV] at hzm
               have hmV : (m = 0 ∧ V = 0) ∨ (0 < m ∧ V ≠ 0) :=by
                 rcases Nat.eq_zero_or_pos m with rfl | h
                 · exact .inl ⟨rfl,by rw [← hV];rfl⟩
                 · refine .inr ⟨h,?_⟩
                   rw [← hV]
                   exact nz_val32 hnzm (fun e => by rw [e] at hlm;simp at hlm;omega)
               have hOm :=hO2.take (n :=m)
               have hlt2 :=htl.take m
               have HV :=Lib.hid (And.intro hV (And.intro hlt2 (And.intro hE1 (And.intro hE2 (And.intro hE3 hzm)))))
               obtain ⟨hK,hD6,hne,hc3⟩ :=hK2.out
               clear hV hlt2 hE1 hE2 hE3 hzm hK2 HE htl hnzm hO2 htr hts
               obtain ⟨more,hmo⟩ : ∃ b,decide (V ≠ 0) = b :=⟨_,rfl⟩
               go_upto_block 8 with fail
               go_wp2_with fail
               go_loopw [6,7,9] (fun t6 t7 t9 wx => ∃ (k : Nat) (es : List Nat) (s6' : Option Addr) (c6' : Nat),k ≤ 9 ∧ t9 = .int .i64 k ∧ t7 = .int .u64 ((r / 10 ^ k : Nat) : Int) ∧ Emit more r k es ∧ es.length = k ∧ t6 = .slice s6' (n6 + k) c6' ∧
                Sl .u8 w1 wx s6' c6' ((ys ++ es).map (48 + ·)) ∧ OutK .u64 wx g 0 c3 (ts.take m) ∧ Kept w1 wx ∧ (∀ a,s6' = some a → a.block ≠ g) ∧ g < wx.heap.size) (fun _ _ t9 _ => 9 - (intOf t9).toNat)
               case atStart => exact ⟨0,[],s6,c6,by decide,rfl,by simp,Emit.start _ _,rfl,rfl,by rw [List.append_nil];exact hD6,hOm,hK,fun a ha e => hne _ a rfl ha e.symm,hg2⟩
               case round =>
                 clear hD6 hOm hK hne hg2
                 obtain ⟨k,es,s6',c6',hk,rfl,rfl,hEm,hes,rfl,hS,hO,hK,hne,hg2⟩ :=hrel
                 obtain ⟨d,hd⟩ : ∃ d,r / 10 ^ k = d :=⟨_,rfl⟩
                 rw [hd]
                 have hdr : d < 1000000000 :=by rw [← hd];exact Nat.lt_of_le_of_lt (Nat.div_le_self _ _) hr
                 have Hd :=Lib.hid hd
                 have HM :=Lib.hid hEm
                 clear hd hEm
                 by_cases hst : k < 9 ∧ (0 < m ∨ d ≠ 0)
                 · obtain ⟨hk9,hst⟩ :=hst
                   have hsl :=hK.size
                   have hlen : ((ys ++ es).map (48 + ·)).length = n6 + k :=by simp [hn6,hes]
                   have HS :=hS
                   rcases Nat.eq_zero_or_pos d with rfl | hdp
                   · have hmp : (m : Int) > 0 :=by omega
                     go_wp2_with (at_builtin;refine wp_gapp1 T76 (w0 :=w1) rfl (.tmp 81) (.tmp 86) rfl rfl rfl rfl HS hsl hlen (by omega) (by decide) ?_;intro s4 c4 w4 hS4 hC4 hD4)
                     go_roundw
                     case rel =>
                       have hE :=HM.out.step (by rw [← hmo];exact .inl (decide_eq_true (by omega)))
                       rw [Hd.out] at hE
                       refine ⟨k + 1,es ++ [0 % 10],s4,c4,hk9,by go_num,?_,hE,by simp [hes],rfl,?_,?_,?_,?_,Nat.lt_of_lt_of_le hg2 hC4.size⟩
                       · rw [Nat.pow_succ,← Nat.div_div_eq_div_mul,Hd.out];rfl
                       · simpa using hS4
                       · exact hO.chg hC4 fun o h => by obtain ⟨a,ha,hb⟩ :=h;exact hne a ha hb
                       · exact hK.trans hC4 fun b o hb h => by obtain ⟨a,ha,rfl⟩ :=h;have :=(HS.lt ha).1;omega
                       · rcases hD4 with rfl | h
                         · exact hne
                         · intro a ha e;have :=h a ha;omega
                     case measure => simp [intOf];omega
                   · have hd0 : ((d : Int) != 0) = true :=by simp only [bne_iff_ne,ne_eq];omega
                     have hdz : (0 : Int) ≤ d :=by omega
                     go_wp2_with (at_builtin;refine wp_gapp1 T76 (w0 :=w1) rfl (.tmp 81) (.tmp 86) rfl rfl rfl rfl HS hsl hlen (by omega) (by omega) ?_;intro s4 c4 w4 hS4 hC4 hD4)
                     go_roundw
                     case rel =>
                       have hE :=HM.out.step (by rw [Hd.out];exact .inr (by omega))
                       rw [Hd.out] at hE
                       refine ⟨k + 1,es ++ [d % 10],s4,c4,hk9,by go_num,?_,hE,by simp [hes],rfl,?_,?_,?_,?_,Nat.lt_of_lt_of_le hg2 hC4.size⟩
                       · rw [Nat.pow_succ,← Nat.div_div_eq_div_mul,Hd.out];exact (show ((d / 10 : Nat) : Int) = (d : Int) / 10 from rfl) ▸ rfl
                       · have e : (48 + (d : Int) % 10).toNat = 48 + d % 10 :=by omega
                         simpa [e,List.append_assoc] using hS4
                       · exact hO.chg hC4 fun o h => by obtain ⟨a,ha,hb⟩ :=h;exact hne a ha hb
                       · exact hK.trans hC4 fun b o hb h => by obtain ⟨a,ha,rfl⟩ :=h;have :=(HS.lt ha).1;omega
                       · rcases hD4 with rfl | h
                         · exact hne
                         · intro a ha e;have :=h a ha;omega
                     case measure => simp [intOf];omega
                 · have hx : k = 9 ∨ (more = false ∧ r / 10 ^ k = 0) :=by
                     rw [Hd.out]
                     rcases Nat.lt_or_ge k 9 with h | h
                     · refine .inr ⟨?_,by omega⟩
                       rw [← hmo]
                       exact decide_eq_false (by omega)
                     · exact .inl (by omega)
                   obtain ⟨hV,hlt2,hE1,hE2,hE3,hzm⟩ :=HV.out
                   have hdl : dl X.natAbs = (ys ++ es) ++ dl V :=by
                     rw [hE1,← hE3,← hzm,List.append_assoc,← HM.out.done hr hk hx hmo.symm,Nat.add_comm,Nat.mul_comm V]
                   have hkp : es ≠ [] :=HM.out.pos hx (by
                     rw [← hmo]
                     rcases Nat.eq_zero_or_pos V with h | h
                     · right
                       intro h0
                       apply hE2
                       rw [← hE3,← hzm,h,h0]
                     · left
                       exact decide_eq_true (by omega))
                   have hkp2 : 0 < k :=by rw [← hes];exact List.length_pos_iff.2 hkp
                   have hlen : n6 + k ≤ 1000 :=by
                     have h1 :=dl_length_le 1000 _ HN.out
                     rw [hdl] at h1
                     simp only [List.length_append] at h1
                     omega
                   have hD : Dg w1 wr X.natAbs (some ⟨g,0,none⟩) c3 (ts.take m) s6' c6' (ys ++ es) :=⟨Sl.of hg0 hg2 hO hc3,hS,(fun a a' ha ha' e => hne a' ha' (by obtain rfl :=Option.some.inj ha;exact e.symm)),hlt2,(fun h e => by
                       rw [hV] at e
                       rcases hmV with ⟨h1,_⟩ | ⟨_,h1⟩
                       · subst h1;exact h rfl
                       · exact h1 e),(by rw [hV];exact hdl),hK⟩
                   have HD :=Lib.hid hD
                   clear hD hV hlt2 hE1 hE2 hE3 hzm hdl hkp hS hO hx
                   rcases Nat.lt_or_ge k 9 with hk9 | hk9
                   · have hm0 : m = 0 :=by omega
                     have hd0 : d = 0 :=by omega
                     subst hm0 hd0
                     go_wp2_with fail
                     go_roundw
                     case rel => exact ⟨some ⟨g,0,none⟩,c3,0,ts.take 0,s6',c6',n6 + k,ys ++ es,by simp,by omega,by simp [hn6,hes],hlen,rfl,rfl,HD.out⟩
                     case measure => simp [lenOf];omega
                   · obtain rfl : k = 9 :=by omega
                     go_wp2_with fail
                     go_roundw
                     case rel => exact ⟨some ⟨g,0,none⟩,c3,m,ts.take m,s6',c6',n6 + 9,ys ++ es,hlm,by omega,by simp [hn6,hes],hlen,rfl,rfl,HD.out⟩
                     case measure => simp [lenOf];omega
            · obtain ⟨i,rfl⟩ : ∃ i,j = i + 1 :=⟨j - 1,by omega⟩
              have gx : xs[i]? = some xs[i] :=List.getElem?_eq_getElem (by omega)
              have hxl : xs[i] < B32 :=HD.out.lt _ (List.getElem_mem _)
              have hdr : val B32 (xs.drop i) = xs[i] + B32 * val B32 (xs.drop (i + 1)) :=by rw [List.drop_eq_getElem_cons (by omega)];rfl
              generalize xs[i] = x at gx hxl hdr
              have cx :=hO2.row i x (mid_get gx)
              have e1 : (((i + 1 : Nat) : Int) - 1) = (i : Int) :=by omega
              obtain ⟨n,hn⟩ : ∃ n,r * B32 + x = n :=⟨_,rfl⟩
              obtain ⟨hq,hnw⟩ :=div_digit hr hxl
              rw [hn] at hq hnw
              have hic : i < c3 :=by have :=hO.le;omega
              obtain ⟨⟨cu,hcu⟩,hfu⟩ :=hO2.room i hic
              have hor : bits .or .u64 ((r : Int) * 4294967296) (x : Int) = (n : Int) :=by
                have :=or_u64 (r * B32) x (by unfold B32;omega) (by unfold B32 at hxl;omega)
                rw [or_low hxl,hn] at this
                exact this
              have HH :=Lib.hid (And.intro hval (And.intro hdr (And.intro hq (And.intro hn htl))))
              clear hval hdr hq hn htl
              simp only [Nat.zero_add] at cx hcu hfu
              rw [e1]
              clear e1
              go_wp2_with fail
              go_roundw
              case rel =>
                obtain ⟨hval,hdr,hq,hn,htl⟩ :=HH.out
                refine ⟨i,n % 1000000000,(n / 1000000000) :: ts,by omega,by go_num,rfl,Nat.mod_lt _ (by decide),by simp;omega,fun y hy => ?_,?_,?_,?_⟩
                · rcases List.mem_cons.1 hy with rfl | hy
                  · exact hq
                  · exact htl y hy
                · rw [hdr]
                  exact div_limb hval n hn.symm rfl
                · have :=hO2.set (n / 1000000000) (i :=i) (by simp;omega)
                  rw [mid_set _ (by omega),Nat.zero_add] at this
                  rw [wrap_quo _ hnw]
                  exact this
                · exact hC.trans (Chg.setCell _ g i _ (fun p _ => p = g) fun _ => rfl) fun _ _ _ h => h
              case measure => simp [intOf]
end Go.Proofs.YtfmmdamgcpiciaaGreatDoor
namespace Go.Proofs.YtfmmdamgcpiciaaGreatDoor
open Go Go.RowKit
theorem olds_of {w : World} {b n : Nat} (h : Wr w b 0 n) : ∃ olds : List Value,olds.length = n ∧ ∀ j v,olds[j]? = some v → w.cell? ⟨b,j,none⟩ = some v :=by
  refine ⟨(List.range n).map fun j => (w.cell? ⟨b,j,none⟩).getD (.int .u64 0),by simp,fun j v hj => ?_⟩
  rw [List.getElem?_map] at hj
  by_cases hjn : j < n
  · rw [List.getElem?_range hjn] at hj
    obtain ⟨⟨u,hu⟩,-⟩ :=h j hjn
    rw [Nat.zero_add] at hu
    simp only [Option.map_some,hu,Option.getD_some] at hj
    rw [← Option.some.inj hj];exact hu
  · rw [List.getElem?_eq_none (by simp;omega)] at hj;cases hj
theorem grow_run (w : World) (b c n : Nat) (h0 : 0 < n) (hn : n ≤ 2000) (hc : c ≤ 5000) (hw : Wr w b 0 c) :
    ∃ cells : Array Value,cells.size = grownCap w (c + n) c 109 ∧ (Builtin.append_ #[108,3] 108 #[.slice (some ⟨b,0,none⟩) c c,.int .i64 n]).run Tryz.prog w =
      .ok (.slice (some ⟨w.heap.size,0,none⟩) (c + n) (grownCap w (c + n) c 109)) (w.drew.alloc (.cells cells 109)) :=by
  obtain ⟨i0,hi,hz0,hz1,hz2⟩ :=info_parts info109
  obtain ⟨olds,hl,ho⟩ :=olds_of hw
  have hfc :=run_firstCells_some (P :=Tryz.prog) w.drew i0.size c ⟨b,0,none⟩ c c olds (by rw [hz1,Nat.mul_one];exact hl) (fun j v hj => by have :=ho j v hj;simp only [Addr.add,Nat.zero_add];by_cases hj0 : j = 0 <;> simp only [hj0,if_true,if_false] at this ⊢ <;> exact this)
  have hn :=nextslicecap_le (need :=c + n) (old :=c) (by omega)
  refine ⟨_,?_,Lib.run_append_grow_zeros w 108 3 108 109 i0 (.int .u64 0) .i64 .i64 Tryz.underlying108 Tryz.underlying3 hi hz0 (some ⟨b,0,none⟩) c c olds hfc n h0 (by rw [hz1];omega) (by omega) (by omega) (by rw [hz2];omega) (by rw [hz2];omega)⟩
  have :=grownCap_ge w (c + n) c 109
  simp only [Array.size_append,zero_size,Value.cells,List.size_toArray,hl]
  omega
theorem wr_cells (w : World) (cs : Array Value) (t : TypeId) : Wr (w.alloc (.cells cs t)) w.heap.size 0 cs.size :=fun j hj => by
  refine ⟨?_,NF.made w _ _ _⟩
  rw [World.cell?_alloc_at _ _ _ _ rfl,Nat.zero_add]
  exact ⟨cs[j],Array.getElem?_eq_getElem hj⟩
theorem grow_in (w : World) (b l c n : Nat) (hl : l ≤ c) (hc : c < 9223372036854775808) (hn : l + n ≤ c) (hn2 : n ≤ 1000) :
    Calls Tryz.prog 214 #[.slice (some ⟨b,0,none⟩) l c,.int .i64 n] w fun e w' => e = .returned (.slice (some ⟨b,0,none⟩) l c) ∧ w' = w :=by
  go_enter Tryz.func214,Tryz.ntmps214
  go_wp2_with fail
  first | go_ret | refine ⟨_,results_tmp rfl _ _ _,?_⟩
  exact ⟨rfl,rfl⟩
theorem grow_out (w : World) (b l c n : Nat) (hl : l ≤ c) (hl2 : l ≤ 2000) (hn : c < l + n) (hn2 : n ≤ 1000) (hw : Wr w b 0 c) :
    Calls Tryz.prog 214 #[.slice (some ⟨b,0,none⟩) l c,.int .i64 n] w fun e w' => ∃ b' c',e = .returned (.slice (some ⟨b',0,none⟩) l c') ∧ l + n ≤ c' ∧ c' < 9223372036854775808 ∧ Wr w' b' 0 c' ∧ NF w' b' ∧ w.heap.size ≤ b' ∧ b' < w'.heap.size ∧ Kept w w' :=by
  have hr :=fun W => grow_run W b c (l + n - c) (by omega) (by omega) (by omega)
  have hg :=fun W => And.intro (grownCap_ge W (c + (l + n - c)) c 109) (grownCap_le_maxLen W (c + (l + n - c)) c 109 (by unfold maxLen;omega))
  have hi : ((n : Int) - ((c : Int) - l)) = ((l + n - c : Nat) : Int) :=by omega
  have HR :=Lib.hid hr
  have hln : l + n = c + (l + n - c) :=by omega
  clear hr
  generalize l + n - c = k at *
  go_enter Tryz.func214,Tryz.ntmps214
  go_wp2_with (at_builtin;obtain ⟨cs,hcs,hrr⟩ :=HR.out _ hw;refine Lib.wpList_append_run _ rfl _ _ 108 3 rfl (.slice (some ⟨b,0,none⟩) c c) (.int .i64 k) rfl rfl _ _ hrr ?_;have hcw :=hg w;unfold maxLen at hcw;clear hg HR hrr;have hwr :=wr_cells w.drew cs 109;rw [hcs] at hwr;clear hcs;generalize grownCap w (c + k) c 109 = cap at *)
  first | go_ret | refine ⟨_,results_tmp rfl _ _ _,?_⟩
  exact ⟨w.heap.size,cap,rfl,by omega,by omega,hwr,NF.made w.drew _ _,Nat.le_refl _,by simp,(Chg.alloc w.drew _ None2).of_drew⟩
structure Stk (w : World) (bs i b l c : Nat) : Prop where
  top : w.cell? ⟨bs,0,none⟩ = some (ptr i)
  inn : w.cell? ⟨i,0,none⟩ = some (.slice (some ⟨b,0,none⟩) l c)
  frz : w.frozen? ⟨i,0,none⟩ = false
  le : l ≤ c
  big : c < 9223372036854775808
  wr : Wr w b 0 c
  nf : NF w b
  lt : b < w.heap.size
  ne : i ≠ b ∧ bs ≠ i ∧ bs ≠ b
theorem inner_next (w : World) (bs bi b l c n : Nat) (h0 : 0 < n) (hn : n ≤ 900) (hs : Stk w bs bi b l c) (hl2 : l ≤ 2000) :
    Calls Tryz.prog 175 #[ptr bi,.int .i64 n] w fun e w' => ∃ b' c',e = .returned (.slice (some ⟨b',l,none⟩) n n) ∧ Wr w' b' l n ∧ Stk w' bs bi b' (l + (n + 3) / 4 * 4) c' ∧ (b' = b ∨ w.heap.size ≤ b') ∧ Chg w w' (fun p o => p = bi ∨ (p = b ∧ l ≤ o)) :=by
  have h4 :=round4 n (by omega)
  have hle : n ≤ (n + 3) / 4 * 4 :=by omega
  have hle2 : (n + 3) / 4 * 4 ≤ 1000 :=by omega
  have hlt :=lt_of_cell hs.inn
  generalize (n + 3) / 4 * 4 = m at *
  have hg : Calls Tryz.prog 214 #[.slice (some ⟨b,0,none⟩) l c,.int .i64 m] w fun e w' => ∃ b' c',e = .returned (.slice (some ⟨b',0,none⟩) l c') ∧ l + m ≤ c' ∧ c' < 9223372036854775808 ∧ Wr w' b' 0 c' ∧ NF w' b' ∧ (b' = b ∨ w.heap.size ≤ b') ∧ b' < w'.heap.size ∧ Kept w w' :=by
    by_cases h : l + m ≤ c
    · refine (grow_in w b l c m hs.le hs.big h hle2).mono ?_
      rintro e w1 ⟨rfl,rfl⟩
      exact ⟨b,c,rfl,h,hs.big,hs.wr,hs.nf,.inl rfl,hs.lt,Chg.refl _ _⟩
    · refine (grow_out w b l c m hs.le hl2 (by omega) hle2 hs.wr).mono ?_
      rintro e w1 ⟨b',c',rfl,h1,hb,h2,h3,h4,h5,h6⟩
      exact ⟨b',c',rfl,h1,hb,h2,h3,.inr h4,h5,h6⟩
  have hs0 :=hs.inn
  have hf0 :=hs.frz
  have hlen :=hs.le
  have hbig :=hs.big
  have HS :=Lib.hid hs
  clear hs
  have htop :=HS.out.top
  have hne :=HS.out.ne
  have hbl :=HS.out.lt
  have htl :=lt_of_cell htop
  go_enter Tryz.func175,Tryz.ntmps175
  go_wp2_with (go_at_call 214;refine hg.mono ?_;rintro e w1 ⟨b',c',rfl,g1,gb,g2,g3,g4,g5,g6⟩;have hs1 :=Kept.at g6 hs0;have ht1 :=Kept.at g6 htop;have hf1 :=(g6.frz bi 0 hlt).trans hf0;obtain ⟨⟨u,hu⟩,hfu⟩ :=g2 l (by omega);simp only [Nat.zero_add] at hu hfu;have hbb : bi ≠ b' :=(by omega);have hcc' : (0 : Nat) = 0 :=rfl;have q1 :=cs_ne (u :=.slice (some ⟨b',0,none⟩) (l + m) c') (cs_ne (u :=.slice (some ⟨b',0,none⟩) l c') hu (b' :=bi) (o' :=0) (by omega)) (b' :=bi) (o' :=0) (by omega))
  first | go_ret | refine ⟨_,results_tmp rfl _ _ _,?_⟩
  have s1 :=Chg.setCell w1 bi 0 (.slice (some ⟨b',0,none⟩) l c') (fun b' _ => b' = bi) fun _ => rfl
  have s2 :=Chg.setCell (w1.setCell ⟨bi,0,none⟩ (.slice (some ⟨b',0,none⟩) l c')) bi 0 (.slice (some ⟨b',0,none⟩) (l + m) c') (fun b' _ => b' = bi) fun _ => rfl
  have s12 :=s1.trans s2 (fun _ _ _ h => h)
  have hc3 : ((w1.setCell ⟨bi,0,none⟩ (.slice (some ⟨b',0,none⟩) l c')).setCell ⟨bi,0,none⟩ (.slice (some ⟨b',0,none⟩) (l + m) c')).cell? ⟨bi,0,none⟩ = some (.slice (some ⟨b',0,none⟩) (l + m) c') :=by
    obtain ⟨x,hx⟩ :=cell_store (v :=.slice (some ⟨b',0,none⟩) l c') hs1;exact cell_setCell_eq hx
  generalize hw3 : (w1.setCell ⟨bi,0,none⟩ (.slice (some ⟨b',0,none⟩) l c')).setCell ⟨bi,0,none⟩ (.slice (some ⟨b',0,none⟩) (l + m) c') = w3 at *
  have s3 :=Chg.setCell w3 b' l (.int .u64 1043915) (fun p o => p = b' ∧ o = l) fun _ => ⟨rfl,rfl⟩
  have z12 :=s12.size
  have z3 :=s3.size
  have g2' :=(g2.chg s12).chg s3
  have t3 :=s12.at ht1 (by omega)
  refine ⟨b',c',by first | rfl | simp | (simp;omega),?_,⟨s3.at t3 (by omega),s3.at hc3 (by omega),?_,g1,gb,g2',(g3.chg g5 s12).chg (by omega) s3,by omega,⟨hbb,hne.2.1,by omega⟩⟩,g4,?_⟩
  · have :=g2'.sub l n (by omega)
    rw [Nat.zero_add] at this;exact this
  · rw [s3.frz bi 0 (by have :=lt_of_cell hc3;omega),s12.frz bi 0 (lt_of_cell hs1)];exact hf1
  · exact ((Chg.any g6 _).trans s12 fun _ _ _ h => Or.inl h).trans s3 fun p o h h' => Or.inr ⟨by omega,by omega⟩
theorem save_nil (w : World) (bs : Nat) (h : w.cell? ⟨bs,0,none⟩ = some (.pointer none)) : Calls Tryz.prog 151 #[ptr bs] w fun e w' => e = .returned (.int .i64 0) ∧ w' = w :=by
  go_enter Tryz.func151,Tryz.ntmps151
  go_wp2
  first | go_ret | refine ⟨_,results_tmp rfl _ _ _,?_⟩
  exact ⟨rfl,rfl⟩
theorem inner_save (w : World) (i l c : Nat) (s : Option Addr) (h : w.cell? ⟨i,0,none⟩ = some (.slice s l c)) : Calls Tryz.prog 173 #[ptr i] w fun e w' => e = .returned (.int .i64 l) ∧ w' = w :=by
  go_enter Tryz.func173,Tryz.ntmps173
  go_wp2
  first | go_ret | refine ⟨_,results_tmp rfl _ _ _,?_⟩
  exact ⟨rfl,rfl⟩
theorem save_on {w : World} {bs i b l c : Nat} (h : Stk w bs i b l c) : Calls Tryz.prog 151 #[ptr bs] w fun e w' => e = .returned (.int .i64 l) ∧ w' = w :=by
  have hi :=inner_save w i l c _ h.inn
  have ht :=h.top
  clear h
  go_enter Tryz.func151,Tryz.ntmps151
  go_wp2_with (go_at_call 173;refine hi.mono ?_;rintro e w' ⟨rfl,hw'⟩;rw [hw'];clear hw')
  first | go_ret | refine ⟨_,results_tmp rfl _ _ _,?_⟩
  exact ⟨rfl,rfl⟩
theorem restore_nil (u : FrameMode) (w : World) (b n : Nat) (h : w.cell? ⟨b,0,none⟩ = some (.pointer none)) : CallsD Tryz.prog 150 #[ptr b,.int .i64 n] u w fun e u' w' => u' = u ∧ (e = .returned (.tuple #[]) ∧ w' = w) :=by
  go_enter_d Tryz.func150,Tryz.ntmps150
  go_wp2
  refine bodyPost_ret (results_none rfl _ _ _) rfl ?_
  exact ⟨rfl,rfl⟩
theorem Stk.cut {w : World} {bs i b l c n : Nat} (h : Stk w bs i b l c) (hn : n ≤ c) : Stk (w.setCell ⟨i,0,none⟩ (.slice (some ⟨b,0,none⟩) n c)) bs i b n c ∧ Chg w (w.setCell ⟨i,0,none⟩ (.slice (some ⟨b,0,none⟩) n c)) (fun p _ => p = i) :=by
  have s1 :=Chg.setCell w i 0 (.slice (some ⟨b,0,none⟩) n c) (fun p _ => p = i) fun _ => rfl
  have :=h.ne
  have :=h.lt
  have :=s1.size
  refine ⟨⟨s1.at h.top (by omega),cell_setCell_eq h.inn,?_,hn,h.big,h.wr.chg s1,h.nf.chg h.lt s1,by omega,by omega⟩,s1⟩
  rw [s1.frz i 0 (lt_of_cell h.inn)];exact h.frz
theorem inner_restore {w : World} {bs i b l c : Nat} (n : Nat) (h : Stk w bs i b l c) (hn : n ≤ c) : Calls Tryz.prog 172 #[ptr i,.int .i64 n] w fun e w' => e = .returned (.tuple #[]) ∧ Stk w' bs i b n c ∧ Chg w w' (fun p _ => p = i) :=by
  have K :=Lib.hid (h.cut hn)
  have hb :=h.big
  have hi :=h.inn
  have hf :=h.frz
  have hl :=h.le
  clear h
  go_enter Tryz.func172,Tryz.ntmps172
  go_wp2
  first | go_end0 | refine ⟨_,results_none rfl _ _,?_⟩
  exact ⟨rfl,K.out⟩
theorem restore_on (u : FrameMode) {w : World} {bs i b l c : Nat} (n : Nat) (h : Stk w bs i b l c) (hn : n ≤ c) : CallsD Tryz.prog 150 #[ptr bs,.int .i64 n] u w fun e u' w' => u' = u ∧ (e = .returned (.tuple #[]) ∧ Stk w' bs i b n c ∧ Chg w w' (fun p _ => p = i)) :=by
  have hr :=inner_restore n h hn
  have ht :=h.top
  clear h
  go_enter_d Tryz.func150,Tryz.ntmps150
  go_wp2_with (go_at_call 172;refine hr.mono ?_;rintro e w1 ⟨rfl,h1,h2⟩)
  first | go_end0 | refine ⟨_,results_none rfl _ _,?_⟩
  exact ⟨rfl,h1,h2⟩
theorem inner_free {w : World} {bs i b l c : Nat} (h : Stk w bs i b l c) : Calls Tryz.prog 170 #[ptr i] w fun e w' => e = .returned (.tuple #[]) ∧ Stk w' bs i b 0 c ∧ Chg w w' (fun p _ => p = i) :=by
  have K :=Lib.hid (h.cut (Nat.zero_le c))
  have hb :=h.big
  have hi :=h.inn
  have hf :=h.frz
  have hl :=h.le
  clear h
  go_enter Tryz.func170,Tryz.ntmps170
  go_wp2
  first | go_end0 | refine ⟨_,results_none rfl _ _,?_⟩
  exact ⟨rfl,K.out⟩
theorem free_on (u : FrameMode) {w : World} {bs i b l c : Nat} (h : Stk w bs i b l c) : CallsD Tryz.prog 145 #[ptr bs] u w fun e u' w' => u' = u ∧ (e = .returned (.tuple #[]) ∧ Stk w' bs i b 0 c ∧ Chg w w' (fun p _ => p = i)) :=by
  have hr :=inner_free h
  have ht :=h.top
  clear h
  go_enter_d Tryz.func145,Tryz.ntmps145
  go_wp2_with (go_at_call 170;refine hr.mono ?_;rintro e w1 ⟨rfl,h1,h2⟩)
  first | go_end0 | refine ⟨_,results_none rfl _ _,?_⟩
  exact ⟨rfl,h1,h2⟩
theorem stk_large (w : World) (bs n : Nat) (h0 : 4 < n) (hn : n ≤ 900) (hs : w.cell? ⟨bs,0,none⟩ = some (.pointer none)) (hf : NF w bs) :
    Calls Tryz.prog 152 #[ptr bs,.int .i64 n] w fun e w' => ∃ i b c,e = .returned (.slice (some ⟨b,0,none⟩) n n) ∧ Stk w' bs i b ((n + 3) / 4 * 4) c ∧ n ≤ (n + 3) / 4 * 4 ∧ w.heap.size ≤ i ∧ w.heap.size ≤ b ∧ Chg w w' (fun p _ => p = bs) :=by
  have hg :=fun W bi => inner_first W bi n (by omega) hn
  have hlt :=lt_of_cell hs
  have hff :=hf 0
  have k1 :=Chg.setCell w bs 0 (ptr w.heap.size) (fun p _ => p = bs) fun _ => rfl
  have k2 :=Chg.alloc (w.setCell ⟨bs,0,none⟩ (ptr w.heap.size)) (.cells #[.slice none 0 0] 185) (fun p _ => p = bs)
  have hz : (w.setCell ⟨bs,0,none⟩ (ptr w.heap.size)).heap.size = w.heap.size :=by simp
  have c1 :=k2.cell bs 0 (by omega)
  have ct : ((w.setCell ⟨bs,0,none⟩ (ptr w.heap.size)).alloc (.cells #[.slice none 0 0] 185)).cell? ⟨bs,0,none⟩ = some (ptr w.heap.size) :=by
    exact Kept.at (Chg.alloc _ _ _) (cell_setCell_eq hs)
  have ci : ((w.setCell ⟨bs,0,none⟩ (ptr w.heap.size)).alloc (.cells #[.slice none 0 0] 185)).cell? ⟨w.heap.size,0,none⟩ = some (.slice none 0 0) :=by
    rw [World.cell?_alloc_at _ _ _ _ (by simp)];rfl
  have fi : ((w.setCell ⟨bs,0,none⟩ (ptr w.heap.size)).alloc (.cells #[.slice none 0 0] 185)).frozen? ⟨w.heap.size,0,none⟩ = false :=by
    have :=NF.made (w.setCell ⟨bs,0,none⟩ (ptr w.heap.size)) #[.slice none 0 0] 185 0
    rwa [hz] at this
  have k12 :=k1.trans k2 (fun _ _ _ h => h)
  have hz2 : ((w.setCell ⟨bs,0,none⟩ (ptr w.heap.size)).alloc (.cells #[.slice none 0 0] 185)).heap.size = w.heap.size + 1 :=by simp
  have hg1 :=hg _ w.heap.size ci fi
  clear hf hg
  have K :=Lib.hid (And.intro ct (And.intro ci k12))
  have fi2 :=Lib.hid fi
  clear k1 k2 k12 ct ci c1 fi hz
  go_enter Tryz.func152,Tryz.ntmps152
  go_wp2_with (go_at_call 175;refine hg1.mono ?_;rintro e w' ⟨b,c,rfl,g1,g2,g3,g4,g5,g6,g7,g8,g9⟩)
  first | go_ret | refine ⟨_,results_tmp rfl _ _ _,?_⟩
  obtain ⟨ct,ci,k12⟩ :=K.out
  have hsz :=g9.size
  refine ⟨w.heap.size,b,c,rfl,⟨g9.at ct (by omega),g8,?_,g2,g3,g4,g5,g7,by omega,by omega,by omega⟩,g1,Nat.le_refl _,by omega,k12.trans g9 fun p _ h h' => by omega⟩
  rw [g9.frz _ _ (lt_of_cell ci)];exact fi2.out
end Go.Proofs.YtfmmdamgcpiciaaGreatDoor
namespace Go.Proofs.YtfmmdamgcpiciaaGreatDoor.Plain
theorem guess_three {B P W V a b u2 u1 u0 v1 v0 : Nat} (hP : 0 < P) (hW : W = ((u2 * B + u1) * B + u0) * P + a) (ha : a < P) (hV : V = (v1 * B + v0) * P + b) (hb : b < P) (h1 : u1 < B) (h0 : u0 < B) (hv : 0 < v1) (hu : u2 < v1) :
    W / V ≤ ((u2 * B + u1) * B + u0) / (v1 * B + v0) ∧ ((u2 * B + u1) * B + u0) / (v1 * B + v0) * V < W + V ∧ ((u2 * B + u1) * B + u0) / (v1 * B + v0) < B :=by
  have hB : B ≤ v1 * B :=Nat.le_mul_of_pos_left B hv
  have hu1 : u2 * B + u1 < v1 * B + v0 :=by
    have :=Nat.mul_le_mul_right B (show u2 + 1 ≤ v1 by omega)
    rw [Nat.add_mul,Nat.one_mul] at this
    omega
  have hlt :=guess_lt (b :=B) (u2 :=u2 * B + u1) (u1 :=u0) (v1 :=v1) (v0 :=v0) h0 hu1
  have hpos : 0 < v1 * B + v0 :=by omega
  have hVp : 0 < V :=by
    have :=Nat.mul_pos hpos hP
    omega
  refine ⟨?_,?_,hlt⟩
  · rw [Nat.le_div_iff_mul_le hpos]
    exact knuth_low hP hW ha hV (Nat.div_mul_le_self W V)
  · rcases Nat.eq_zero_or_pos (((u2 * B + u1) * B + u0) / (v1 * B + v0)) with h | h
    · rw [h,Nat.zero_mul];omega
    · exact knuth_high (B :=B) hW hV hb (Nat.div_mul_le_self _ _) (by omega) (by omega) h
theorem guess_top {B P W V a b u1 u0 v1 v0 : Nat} (hP : 0 < P) (hW : W = ((v1 * B + u1) * B + u0) * P + a) (hV : V = (v1 * B + v0) * P + b) (hb : b < P) (h0 : v0 < B) (hn : B ≤ 2 * v1) (hB : 1 < B) (hWV : W < V * B) :
    W / V ≤ B - 1 ∧ (B - 1) * V < W + V :=by
  have hv : 0 < v1 :=by omega
  have hVp : 0 < V :=by
    have : 0 < (v1 * B + v0) * P :=Nat.mul_pos (by have :=Nat.mul_pos hv (show 0 < B by omega);omega) hP
    omega
  constructor
  · have :=(Nat.div_lt_iff_lt_mul (k :=V) (x :=W) (y :=B) hVp).2 (by rw [Nat.mul_comm];exact hWV)
    omega
  · -- (B - 2) V <= (B - 2) (v1 + 1) B P <= v1 B B P <= W
    have e1 : V < (v1 + 1) * B * P :=by
      have h1 : (v1 * B + v0 + 1) * P ≤ ((v1 + 1) * B) * P :=Nat.mul_le_mul_right P (by rw [Nat.add_mul,Nat.one_mul];omega)
      rw [Nat.add_mul,Nat.one_mul] at h1
      omega
    have e2 : (B - 2) * V ≤ (B - 2) * ((v1 + 1) * B * P) :=Nat.mul_le_mul_left _ (by omega)
    have e3 : (B - 2) * (v1 + 1) ≤ v1 * B :=by
      obtain ⟨k,rfl⟩ : ∃ k,B = k + 2 :=⟨B - 2,by omega⟩
      rw [show k + 2 - 2 = k by omega,Nat.mul_add,Nat.mul_add,Nat.mul_comm v1 k]
      omega
    have e4 : (B - 2) * ((v1 + 1) * B * P) ≤ v1 * B * (B * P) :=by
      rw [Nat.mul_assoc (v1 + 1),← Nat.mul_assoc (B - 2)]
      exact Nat.mul_le_mul_right _ e3
    have e5 : v1 * B * (B * P) ≤ W :=by
      rw [hW,Nat.add_mul,Nat.add_mul,Nat.add_mul,← Nat.mul_assoc]
      omega
    have e6 : (B - 1) * V = (B - 2) * V + V :=by
      rw [← Nat.succ_mul];congr 1;omega
    have e7 : (B - 2) * V < W ∨ (B - 2) * V = W :=by omega
    rw [e6]
    rcases Nat.eq_zero_or_pos (B - 2) with h | h
    · rw [h,Nat.zero_mul]
      have : 0 < v1 * B * (B * P) :=Nat.mul_pos (Nat.mul_pos hv (by omega)) (Nat.mul_pos (by omega) hP)
      omega
    · have : (B - 2) * V < (B - 2) * ((v1 + 1) * B * P) :=Nat.mul_lt_mul_of_pos_left e1 h
      omega
theorem digit_done {W V q R E c : Nat} (hV : 0 < V) (h1 : W / V ≤ q) (h2 : q * V < W + V) (hR : R < E) (h : R + q * V = W + E * c) (hc : c ≤ 1) :
    (c = 0 → q = W / V ∧ R = W % V) ∧ (c = 1 → q = W / V + 1 ∧ R + V = W % V + E) :=by
  have d1 :=Nat.div_add_mod W V
  have d2 :=Nat.mod_lt W hV
  have hq : q ≤ W / V + 1 :=by
    have e : q * V < (W / V + 2) * V :=by
      rw [Nat.add_mul,Nat.mul_comm (W / V)];omega
    have :=Nat.lt_of_mul_lt_mul_right e
    omega
  have hq2 : q = W / V ∨ q = W / V + 1 :=by omega
  have e0 : W / V * V = V * (W / V) :=Nat.mul_comm _ _
  constructor
  · rintro rfl
    rcases hq2 with rfl | rfl
    · exact ⟨rfl,by omega⟩
    · rw [Nat.add_mul,Nat.one_mul] at h;omega
  · rintro rfl
    rcases hq2 with rfl | rfl
    · omega
    · rw [Nat.add_mul,Nat.one_mul] at h
      exact ⟨rfl,by omega⟩
end Go.Proofs.YtfmmdamgcpiciaaGreatDoor.Plain
namespace Go.Proofs.YtfmmdamgcpiciaaGreatDoor
theorem val_top2 {B k : Nat} {vs : List Nat} (hl : vs.length = k + 2) : val B vs = (vs[k + 1] * B + vs[k]) * B ^ k + val B (vs.take k) :=by
  rw [val_cut (B :=B) (xs :=vs) (n :=k) (by omega)]
  have e : vs.drop k = [vs[k],vs[k + 1]] :=by
    rw [List.drop_eq_getElem_cons (by omega),List.drop_eq_getElem_cons (by omega),List.drop_eq_nil_of_le (by omega)]
  rw [e,Nat.add_comm,Nat.mul_comm (B ^ k)]
  congr 2
  simp only [val,Nat.mul_zero,Nat.add_zero]
  rw [Nat.mul_comm B,Nat.add_comm]
theorem val_top3 {B k : Nat} {ws : List Nat} (hl : ws.length = k + 3) : val B ws = ((ws[k + 2] * B + ws[k + 1]) * B + ws[k]) * B ^ k + val B (ws.take k) :=by
  rw [val_cut (B :=B) (xs :=ws) (n :=k) (by omega)]
  have e : ws.drop k = [ws[k],ws[k + 1],ws[k + 2]] :=by
    rw [List.drop_eq_getElem_cons (by omega),List.drop_eq_getElem_cons (by omega),List.drop_eq_getElem_cons (by omega),List.drop_eq_nil_of_le (by omega)]
  rw [e,Nat.add_comm,Nat.mul_comm (B ^ k)]
  congr 2
  simp only [val,Nat.mul_zero,Nat.add_zero]
  rw [Nat.mul_comm B (ws[k + 1] + _),Nat.mul_comm B ws[k + 2],Nat.add_comm (ws[k + 1]),Nat.add_comm]
end Go.Proofs.YtfmmdamgcpiciaaGreatDoor
namespace Go.Proofs.YtfmmdamgcpiciaaGreatDoor
open Go Go.RowKit
theorem greaterThan' (a b c d : Nat) (e : Bool) (he : e = decide (c < a ∨ (a = c ∧ d < b))) (w : World) :
    Calls Tryz.prog 229 #[.int .u64 a,.int .u64 b,.int .u64 c,.int .u64 d] w fun r w' => r = .returned (.bool e) ∧ w' = w :=by
  go_enter Tryz.func229,Tryz.ntmps229
  go_wp2_with fail
  all_goals first | go_ret | refine ⟨_,results_tmp rfl _ _ _,?_⟩
  all_goals refine ⟨?_,rfl⟩
  all_goals (rw [he];simp only [Ending.returned.injEq,Value.bool.injEq];first | (have hac : a = c :=(by omega);subst hac;simp;done) | (simp;omega))
theorem greaterThan (a b c d : Nat) (hb : b < W64) (hd : d < W64) (w : World) :
    Calls Tryz.prog 229 #[.int .u64 a,.int .u64 b,.int .u64 c,.int .u64 d] w fun r w' => r = .returned (.bool (decide (c * W64 + d < a * W64 + b))) ∧ w' = w :=by
  refine greaterThan' a b c d _ ?_ w
  have h : (c * W64 + d < a * W64 + b) ↔ (c < a ∨ (a = c ∧ d < b)) :=by
    generalize W64 = W at *
    constructor
    · intro h
      rcases Nat.lt_trichotomy a c with h1 | h1 | h1
      · have :=Nat.mul_le_mul_right W (show a + 1 ≤ c from h1)
        rw [Nat.add_mul,Nat.one_mul] at this
        omega
      · subst h1;right;omega
      · exact .inl h1
    · rintro (h1 | ⟨rfl,h1⟩)
      · have :=Nat.mul_le_mul_right W (show c + 1 ≤ a from h1)
        rw [Nat.add_mul,Nat.one_mul] at this
        omega
      · omega
  simp only [h]
end Go.Proofs.YtfmmdamgcpiciaaGreatDoor
namespace Go.Proofs.YtfmmdamgcpiciaaGreatDoor
open Go Go.RowKit
abbrev St :=Option (Nat × Nat × Nat × Nat)
def StAt (w : World) (bs : Nat) : St → Prop
  | none => w.cell? ⟨bs,0,none⟩ = some (.pointer none) ∧ NF w bs
  | some (i,b,l,c) => Stk w bs i b l c
def StL : St → Nat
  | none => 0
  | some (_,_,l,_) => l
def StB : St → Nat → Prop
  | none,_ => False
  | some (i,_,_,_),p => p = i
def StM (bs : Nat) : St → Nat → Nat → Prop
  | none,p,_ => p = bs
  | some (i,b,l,_),p,o => p = i ∨ (p = b ∧ l ≤ o)
theorem StAt.chg {w w' : World} {bs : Nat} {st : St} {M : Nat → Nat → Prop} (h : StAt w bs st) (k : Chg w w' M) (h1 : ∀ o,¬ M bs o) (h2 : ∀ p o,StB st p → ¬ M p o) : StAt w' bs st :=by
  rcases st with _ | ⟨i,b,l,c⟩
  · exact ⟨k.at h.1 (h1 _),h.2.chg (lt_of_cell h.1) k⟩
  · have hi :=h2 i 0 rfl
    exact ⟨k.at h.top (h1 _),k.at h.inn hi,by rw [k.frz i 0 (lt_of_cell h.inn)];exact h.frz,h.le,h.big,h.wr.chg k,h.nf.chg h.lt k,Nat.lt_of_lt_of_le h.lt k.size,h.ne⟩
theorem StAt.lt {w : World} {bs : Nat} {st : St} (h : StAt w bs st) : bs < w.heap.size :=by
  rcases st with _ | ⟨i,b,l,c⟩
  · exact lt_of_cell h.1
  · exact lt_of_cell h.top
theorem StAt.ltB {w : World} {bs p : Nat} {st : St} (h : StAt w bs st) (hp : StB st p) : p < w.heap.size :=by
  rcases st with _ | ⟨i,b,l,c⟩
  · exact hp.elim
  · cases hp;exact lt_of_cell h.inn
def StCut : St → Nat → St
  | none,_ => none
  | some (i,b,_,c),n => some (i,b,n,c)
theorem StM_cut {bs n p o : Nat} {st : St} (hn : n ≤ StL st) (h : StM bs st p o) : StM bs (StCut st n) p o :=by
  rcases st with _ | ⟨i,b,l,c⟩
  · exact h
  · rcases h with h | ⟨h1,h2⟩
    · exact .inl h
    · exact .inr ⟨h1,Nat.le_trans hn h2⟩
theorem StB_M {bs p o : Nat} {st : St} (h : StB st p) : StM bs st p o :=by
  rcases st with _ | ⟨i,b,l,c⟩
  · exact h.elim
  · exact .inl h
theorem StB_cut {n p : Nat} {st : St} : StB (StCut st n) p ↔ StB st p :=by
  rcases st with _ | ⟨i,b,l,c⟩ <;> exact Iff.rfl
theorem st_save {w : World} {bs : Nat} {st : St} (h : StAt w bs st) : Calls Tryz.prog 151 #[ptr bs] w fun e w' => e = .returned (.int .i64 (StL st)) ∧ w' = w :=by
  rcases st with _ | ⟨i,b,l,c⟩
  · exact save_nil w bs h.1
  · exact save_on h
theorem st_restore (u : FrameMode) {w : World} {bs n : Nat} {st : St} (h : StAt w bs st) (hn : n ≤ StL st) : CallsD Tryz.prog 150 #[ptr bs,.int .i64 n] u w fun e u' w' => u' = u ∧ (e = .returned (.tuple #[]) ∧ StAt w' bs (StCut st n) ∧ Chg w w' (fun p _ => StB st p)) :=by
  rcases st with _ | ⟨i,b,l,c⟩
  · refine (restore_nil u w bs n h.1).mono ?_
    rintro e u' w' ⟨h1,h2,rfl⟩
    exact ⟨h1,h2,h,Chg.refl _ _⟩
  · refine (restore_on u n h (Nat.le_trans hn h.le)).mono ?_
    rintro e u' w' ⟨h1,h2,h3,h4⟩
    exact ⟨h1,h2,h3,h4⟩
theorem st_free (u : FrameMode) {w : World} {bs : Nat} {st : St} (h : StAt w bs st) : CallsD Tryz.prog 145 #[ptr bs] u w fun e u' w' => u' = u ∧ (e = .returned (.tuple #[]) ∧ StAt w' bs (StCut st 0) ∧ Chg w w' (fun p _ => StB st p)) :=by
  rcases st with _ | ⟨i,b,l,c⟩
  · refine (stack_free0 u w bs h.1).mono ?_
    rintro e u' w' ⟨h1,h2,rfl⟩
    exact ⟨h1,h2,h,Chg.refl _ _⟩
  · refine (free_on u h).mono ?_
    rintro e u' w' ⟨h1,h2,h3,h4⟩
    exact ⟨h1,h2,h3,h4⟩
theorem stk_words (w : World) (bs n : Nat) (st : St) (h0 : 0 < n) (hn : n ≤ 900) (h : StAt w bs st) (hl : StL st ≤ 1000) :
    Calls Tryz.prog 152 #[ptr bs,.int .i64 n] w fun e w' => ∃ b o c st',e = .returned (.slice (some ⟨b,o,none⟩) n c) ∧ n ≤ c ∧ c < 9223372036854775808 ∧ Wr w' b o n ∧ NF w' b ∧ b < w'.heap.size ∧ StAt w' bs st' ∧ StL st ≤ StL st' ∧ StL st' ≤ StL st + n + 3 ∧ b ≠ bs ∧ (¬ StB st' b) ∧
      (∀ j,j < n → ¬ StM bs st' b (o + j)) ∧ (w.heap.size ≤ b ∨ (∃ i l c,st = some (i,b,l,c) ∧ l ≤ o)) ∧ (∀ p o,StM bs (StCut st' (StL st)) p o → StM bs st p o ∨ w.heap.size ≤ p) ∧ Chg w w' (StM bs st) :=by
  have hlt :=h.lt
  rcases st with _ | ⟨i,b,l,c⟩
  · obtain ⟨h1,h2⟩ :=h
    by_cases h4 : n ≤ 4
    · refine (stk_small w bs n h0 h4 h1).mono ?_
      rintro e w' ⟨b,c,rfl,g1,gc,g2,g3,g4,g5,g6⟩
      refine ⟨b,0,c,none,rfl,g1,gc,fun j hj => g2 j (by omega),g3,g5,⟨Kept.at g6 h1,h2.chg hlt g6⟩,Nat.le_refl _,by simp [StL],by omega,fun h => h,fun j _ h => by simp only [StM] at h;omega,.inl g4,fun p o h => .inl h,g6.any _⟩
    · refine (stk_large w bs n (by omega) hn h1 h2).mono ?_
      rintro e w' ⟨i,b,c,rfl,g1,g2,g3,g4,g5⟩
      have hne :=g1.ne
      have hle :=g1.le
      refine ⟨b,0,n,some (i,b,_,c),rfl,Nat.le_refl _,by omega,fun j hj => g1.wr j (by omega),g1.nf,g1.lt,g1,Nat.zero_le _,by simp only [StL];omega,by omega,fun h => by simp only [StB] at h;omega,fun j hj h => by simp only [StM] at h;omega,.inl g4,fun p o h => ?_,g5⟩
      simp only [StCut,StM] at h
      right;omega
  · refine (?_ : Calls Tryz.prog 152 #[ptr bs,.int .i64 n] w fun e w' => ∃ b' c',e = .returned (.slice (some ⟨b',l,none⟩) n n) ∧ Wr w' b' l n ∧ Stk w' bs i b' (l + (n + 3) / 4 * 4) c' ∧ (b' = b ∨ w.heap.size ≤ b') ∧ Chg w w' (fun p o => p = i ∨ (p = b ∧ l ≤ o))).mono ?_
    · have hg :=inner_next w bs i b l c n h0 hn h (by simp only [StL] at hl;omega)
      have ht :=h.top
      clear h
      go_enter Tryz.func152,Tryz.ntmps152
      go_wp2_with (go_at_call 175;refine hg.mono ?_;rintro e w' ⟨b',c',rfl,g1,g2,g3,g4⟩)
      first | go_ret | refine ⟨_,results_tmp rfl _ _ _,?_⟩
      exact ⟨b',c',rfl,g1,g2,g3,g4⟩
    · rintro e w' ⟨b',c',rfl,g1,g2,g3,g4⟩
      have hne :=g2.ne
      have hle :=g2.le
      refine ⟨b',l,n,some (i,b',_,c'),rfl,Nat.le_refl _,by omega,g1,g2.nf,g2.lt,g2,by simp only [StL];omega,by simp only [StL];omega,by omega,fun h => by simp only [StB] at h;omega,fun j hj h => by simp only [StM] at h;omega,?_,fun p o h => ?_,g4⟩
      · rcases g3 with rfl | g3
        · exact .inr ⟨i,l,c,rfl,Nat.le_refl _⟩
        · exact .inl g3
      · simp only [StCut,StL,StM] at h ⊢
        omega
end Go.Proofs.YtfmmdamgcpiciaaGreatDoor
namespace Go.Proofs.YtfmmdamgcpiciaaGreatDoor
open Go Go.RowKit
theorem splice_len {us zs : List Nat} {j n : Nat} (hn : zs.length = n) (hj : j + n ≤ us.length) : (us.take j ++ (zs ++ us.drop (j + n))).length = us.length :=by
  simp;omega
theorem splice_lt {B : Nat} {us zs : List Nat} {j n : Nat} (hu : Lt B us) (hz : Lt B zs) : Lt B (us.take j ++ (zs ++ us.drop (j + n))) :=fun x hx => by
  rcases List.mem_append.1 hx with h | h
  · exact hu x (List.mem_of_mem_take h)
  · rcases List.mem_append.1 h with h | h
    · exact hz x h
    · exact hu x (List.mem_of_mem_drop h)
theorem splice_val {B : Nat} {us zs : List Nat} {j n : Nat} (hn : zs.length = n) (hj : j + n ≤ us.length) : val B (us.take j ++ (zs ++ us.drop (j + n))) = val B (us.take j) + B ^ j * (val B zs + B ^ n * val B (us.drop (j + n))) :=by
  rw [val_append,val_append,List.length_take,Nat.min_eq_left (by omega),hn]
theorem window_val {B : Nat} {us : List Nat} {j n : Nat} (hj : j + n ≤ us.length) : val B us = val B (us.take j) + B ^ j * (val B ((us.drop j).take n) + B ^ n * val B (us.drop (j + n))) :=by
  rw [val_cut (B :=B) (xs :=us) (n :=j) (by omega),val_cut (B :=B) (xs :=us.drop j) (n :=n) (by rw [List.length_drop];omega),List.drop_drop]
theorem window_small {B P W R V E L U : Nat} (hU : U = L + P * (W + E * R)) (hlt : U < V * (P * B)) (hE : V * B < E) : R = 0 ∧ W < V * B :=by
  have h1 : P * (W + E * R) < P * (V * B) :=by rw [Nat.mul_left_comm P V B];omega
  have h2 :=Nat.lt_of_mul_lt_mul_left h1
  have h3 : R = 0 :=by
    rcases Nat.eq_zero_or_pos R with h | h
    · exact h
    · have :=Nat.le_mul_of_pos_right E h;omega
  subst h3
  exact ⟨rfl,by omega⟩
theorem digit_round {B P W V L U U0 Q R E : Nat} (hV : 0 < V) (hU : U = L + P * (W + E * R)) (hL : L < P) (h0 : U0 = U + P * B * Q * V) (hR : R = 0) : U0 = (L + P * (W % V + E * R)) + P * (W / V + B * Q) * V ∧ L + P * (W % V + E * R) < V * P :=by
  subst hR
  have d1 :=Nat.div_add_mod W V
  have d2 :=Nat.mod_lt W hV
  simp only [Nat.mul_zero,Nat.add_zero] at *
  generalize W / V = q at *
  generalize W % V = r at *
  constructor
  · subst hU
    rw [h0,← d1,Nat.mul_add,Nat.mul_add,Nat.add_mul,Nat.mul_comm V q,Nat.mul_assoc P q V,Nat.mul_assoc P B Q]
    omega
  · have :=Nat.mul_le_mul_left P (show r + 1 ≤ V by omega)
    rw [Nat.mul_add,Nat.mul_one,Nat.mul_comm P V] at this
    omega
end Go.Proofs.YtfmmdamgcpiciaaGreatDoor
namespace Go.Proofs.YtfmmdamgcpiciaaGreatDoor
open Go Go.RowKit
theorem two_less {W X v : Nat} (hv : v < W) (h : v ≤ X) : (X % W < v → 1 ≤ X / W ∧ (X - v) / W = X / W - 1 ∧ (X - v) % W = X % W + W - v) ∧ (v ≤ X % W → (X - v) / W = X / W ∧ (X - v) % W = X % W - v) :=by
  have h1 :=Nat.div_add_mod X W
  have h2 :=Nat.mod_lt X (show 0 < W by omega)
  constructor
  · intro h3
    have h4 : 1 ≤ X / W :=by
      rcases Nat.eq_zero_or_pos (X / W) with h | h
      · rw [h] at h1;omega
      · exact h
    have h5 : X - v = (X % W + W - v) + W * (X / W - 1) :=by
      have : W * (X / W) = W * (X / W - 1) + W :=by rw [← Nat.mul_succ];congr 1;omega
      omega
    have h6 : X % W + W - v < W :=by omega
    rw [h5]
    exact ⟨h4,by rw [Nat.add_mul_div_left _ _ (by omega),Nat.div_eq_of_lt h6];omega,by rw [Nat.add_mul_mod_self_left,Nat.mod_eq_of_lt h6]⟩
  · intro h3
    have h5 : X - v = (X % W - v) + W * (X / W) :=by omega
    have h6 : X % W - v < W :=by omega
    rw [h5]
    exact ⟨by rw [Nat.add_mul_div_left _ _ (by omega),Nat.div_eq_of_lt h6];omega,by rw [Nat.add_mul_mod_self_left,Nat.mod_eq_of_lt h6]⟩
theorem top_le {B P W V a b u2 u1 u0 v1 v0 : Nat} (hW : W = ((u2 * B + u1) * B + u0) * P + a) (hV : V = (v1 * B + v0) * P + b) (hb : b < P) (h0 : v0 < B) (hWV : W < V * B) : u2 ≤ v1 :=by
  rcases Nat.lt_or_ge v1 u2 with h | h
  · exfalso
    have e1 : V < (v1 + 1) * B * P :=by
      have h1 : (v1 * B + v0 + 1) * P ≤ ((v1 + 1) * B) * P :=Nat.mul_le_mul_right P (by rw [Nat.add_mul,Nat.one_mul];omega)
      rw [Nat.add_mul,Nat.one_mul] at h1
      omega
    have e2 : V * B ≤ (v1 + 1) * B * P * B :=Nat.mul_le_mul_right B (by omega)
    have e3 : (v1 + 1) * B * P * B ≤ u2 * B * P * B :=Nat.mul_le_mul_right B (Nat.mul_le_mul_right P (Nat.mul_le_mul_right B h))
    have e4 : u2 * B * P * B = u2 * B * B * P :=by rw [Nat.mul_right_comm]
    rw [Nat.add_mul,Nat.add_mul,Nat.add_mul] at hW
    omega
  · exact h
structure DivAt (w : World) (bq oq bu ou n m U0 V : Nat) (k : Nat) (us qs : List Nat) : Prop where
  row : Row .u64 w bu ou us
  len : us.length = m + n
  lt : Lt W64 us
  qrow : Row .u64 w bq (oq + k) qs
  qlen : qs.length = m - k
  qlt : Lt W64 qs
  sum : U0 = val W64 us + W64 ^ k * val W64 qs * V
  small : val W64 us < V * W64 ^ k
theorem Row.spliceM {w w' : World} {M : Nat → Nat → Prop} {b o j n : Nat} {us zs : List Nat} (hr : Row .u64 w b o us) (hc : Chg w w' M) (hM : ∀ o',M b o' → o + j ≤ o' ∧ o' < o + j + n) (hz : Row .u64 w' b (o + j) zs) (hn : zs.length = n) (hj : j + n ≤ us.length) : Row .u64 w' b o (us.take j ++ (zs ++ us.drop (j + n))) :=by
  refine ((hr.take j).chg hc fun i hi h => ?_).app ?_
  · have :=(hM _ h).1
    simp only [List.length_take] at hi
    omega
  · rw [List.length_take,Nat.min_eq_left (by omega)]
    refine hz.app ?_
    rw [hn,Nat.add_assoc]
    exact (hr.drop (j + n)).chg hc fun i hi h => by have :=(hM _ h).2;omega
theorem DivAt.window {w : World} {bq oq bu ou n m U0 V j : Nat} {us qs vs : List Nat} (hd : DivAt w bq oq bu ou n m U0 V (j + 1) us qs) (hj : j < m) (hvs : val W64 vs = V) (hvl : vs.length = n) (hvb : Lt W64 vs) :
    val W64 us = val W64 (us.take j) + W64 ^ j * (val W64 ((us.drop j).take (n + 1)) + W64 ^ (n + 1) * val W64 (us.drop (j + (n + 1)))) ∧ val W64 (us.drop (j + (n + 1))) = 0 ∧ val W64 ((us.drop j).take (n + 1)) < V * W64 :=by
  have hl :=hd.len
  have hwin :=window_val (B :=W64) (us :=us) (j :=j) (n :=n + 1) (by omega)
  have hsml :=hd.small
  rw [Nat.pow_succ] at hsml
  have lw :=val_lt (B :=W64) (xs :=vs) hvb
  rw [hvs,hvl] at lw
  have hE : V * W64 < W64 ^ (n + 1) :=by
    rw [Nat.pow_succ];exact Nat.mul_lt_mul_of_pos_right lw (by unfold W64;omega)
  exact ⟨hwin,window_small hwin hsml hE⟩
theorem DivAt.next {w w' : World} {bq oq bu ou bt n m U0 V j W : Nat} {us qs zs vs : List Nat} (hd : DivAt w bq oq bu ou n m U0 V (j + 1) us qs) (hj : j < m)
    (hvs : val W64 vs = V) (hvl : vs.length = n) (hvb : Lt W64 vs) (hV0 : 0 < V) (hW : val W64 ((us.drop j).take (n + 1)) = W)
    (hc : Chg w w' (fun p o => In bu (ou + j) (n + 1) p o ∨ (p = bq ∧ o = oq + j) ∨ p = bt)) (dqu : bq ≠ bu) (dtq : bt ≠ bq) (dtu : bt ≠ bu)
    (hz : Row .u64 w' bu (ou + j) zs) (hzl : zs.length = n + 1) (hzb : Lt W64 zs) (hzv : val W64 zs = W % V)
    (hq : w'.cell? ⟨bq,oq + j,none⟩ = some (.int .u64 ((W / V : Nat) : Int))) : DivAt w' bq oq bu ou n m U0 V j (us.take j ++ (zs ++ us.drop (j + (n + 1)))) (W / V :: qs) :=by
  obtain ⟨h1,h2,h3⟩ :=hd.window hj hvs hvl hvb
  have hl :=hd.len
  have L1 :=val_lt (B :=W64) (xs :=us.take j) (fun x hx => hd.lt x (List.mem_of_mem_take hx))
  rw [List.length_take,Nat.min_eq_left (by omega)] at L1
  have h0 :=hd.sum
  rw [Nat.pow_succ] at h0
  rw [hW] at h1 h3
  have hr :=digit_round hV0 h1 L1 h0 h2
  have hv :=splice_val (B :=W64) (us :=us) (zs :=zs) (j :=j) (n :=n + 1) hzl (by omega)
  rw [hzv] at hv
  refine ⟨hd.row.spliceM hc (fun o' h => ?_) hz hzl (by omega),(splice_len hzl (by omega)).trans hl,splice_lt hd.lt hzb,?_,?_,?_,?_,?_⟩
  · rcases h with h | h | h
    · exact h.2
    · exact absurd h.1.symm dqu
    · exact absurd h.symm dtu
  · intro i x hx
    rcases i with _ | i
    · obtain rfl :=Option.some.inj hx
      exact hq
    · have :=hd.qrow i x (by simpa using hx)
      rw [show oq + j + (i + 1) = oq + (j + 1) + i by omega]
      refine hc.at this fun h => ?_
      rcases h with h | h | h
      · exact dqu h.1
      · omega
      · exact dtq h.symm
  · have :=hd.qlen
    simp only [List.length_cons];omega
  · intro x hx
    rcases List.mem_cons.1 hx with rfl | hx
    · rw [Nat.div_lt_iff_lt_mul hV0,Nat.mul_comm];exact h3
    · exact hd.qlt x hx
  · rw [hv]
    simp only [val]
    exact hr.1
  · rw [hv]
    exact hr.2
theorem add_back {E V T c t Z B w : Nat} (hR : T + E * t + V = w + E * B) (hZ : Z + E * c = T + V) (hw : w < E) (hZE : Z < E) : c + t = B ∧ Z = w :=by
  have h1 : Z + E * (c + t) = w + E * B :=by rw [Nat.mul_add];omega
  have hE : 0 < E :=by omega
  have h2 : (Z + E * (c + t)) / E = c + t :=by rw [Nat.add_mul_div_left _ _ hE,Nat.div_eq_of_lt hZE,Nat.zero_add]
  have h3 : (w + E * B) / E = B :=by rw [Nat.add_mul_div_left _ _ hE,Nat.div_eq_of_lt hw,Nat.zero_add]
  have h4 : c + t = B :=by rw [← h2,h1,h3]
  rw [h4] at h1
  exact ⟨h4,by omega⟩
theorem none_left {Z P c a : Nat} (h : Z + W64 ^ P * c = a * 0 + 0) : c = 0 ∧ Z = 0 :=by
  have h9 : 0 < W64 ^ P :=Nat.pow_pos (by unfold W64;omega)
  rcases Nat.eq_zero_or_pos c with h1 | h1
  · exact ⟨h1,by omega⟩
  · have :=Nat.le_mul_of_pos_right (W64 ^ P) h1
    omega
end Go.Proofs.YtfmmdamgcpiciaaGreatDoor
