/- A part of the proof, joined out of the texts E8, E9, E10, E11, E12, E13, E14, E15, P1, P2, S2; each theorem bears its own conditions. -/
import GoSem.PinnedTables
import Derived.Test.YtfmmdamgcpiciaaGreatDoorT09
set_option linter.unusedVariables false
set_option linter.unusedSimpArgs false
set_option linter.all false
set_option maxHeartbeats 9000000
set_option exponentiation.threshold 400000
set_option maxRecDepth 1000000
namespace Go.Proofs.YtfmmdamgcpiciaaGreatDoor
open Go Go.RowKit
theorem mathAbsB (b b' : Nat) (h : bits .andNot .u64 (b : Int) 9223372036854775808 = (b' : Int)) (w : World) : Calls Tryz.prog 115 #[.float .f64 b] w fun e w' => e = .returned (.float .f64 b') ∧ w' = w :=by
  have hb :=callFloatBits b
  have hc :=callFloatFrom b'
  go_enter Tryz.func115,Tryz.ntmps115
  go_wp2
  first | go_ret | refine ⟨_,results_tmp rfl _ _ _,?_⟩
  exact ⟨rfl,rfl⟩
theorem isNaN (b : Nat) (h : (FloatKind.f64.format.order b b != some Ordering.eq) = false) (w : World) : Calls Tryz.prog 117 #[.float .f64 b] w fun e w' => e = .returned (.bool false) ∧ w' = w :=by
  go_enter Tryz.func117,Tryz.ntmps117
  go_wp2
  first | go_ret | refine ⟨_,results_tmp rfl _ _ _,?_⟩
  exact ⟨rfl,rfl⟩
theorem isInf (b b' : Nat) (ha : bits .andNot .u64 (b : Int) 9223372036854775808 = (b' : Int)) (h : (FloatKind.f64.format.order b' 9218868437227405311 == some Ordering.gt) = false) (w : World) : Calls Tryz.prog 118 #[.float .f64 b,.int .i64 0] w fun e w' => e = .returned (.bool false) ∧ w' = w :=by
  have hm :=mathAbsB b b' ha
  go_enter Tryz.func118,Tryz.ntmps118
  go_wp2_with (go_at_call 115;refine (hm _).mono ?_;rintro e w1 ⟨rfl,hw⟩;rw [hw];clear hw)
  first | go_ret | refine ⟨_,results_tmp rfl _ _ _,?_⟩
  exact ⟨rfl,rfl⟩
theorem appendFloat (w : World) (R : Ending → World → Prop) (s f : Value) (h : Calls Tryz.prog 161 #[s,f,.int .u8 101,.int .i64 (-1)] w fun e w' => ∃ v,e = .returned v ∧ R e w') : Calls Tryz.prog 119 #[s,f,.int .u8 101,.int .i64 (-1),.int .i64 64] w R :=by
  have h1 : Calls Tryz.prog 133 #[s,f,.int .u8 101,.int .i64 (-1),.int .i64 64] w fun e w' => ∃ v,e = .returned v ∧ R e w' :=by
    go_enter Tryz.func133,Tryz.ntmps133
    go_wp2_with (go_at_call 161;refine h.mono ?_;rintro e w' ⟨v,rfl,hR⟩)
    first | go_ret | refine ⟨_,results_tmp rfl _ _ _,?_⟩
    first | exact hR | exact ⟨v,rfl,hR⟩
  go_enter Tryz.func119,Tryz.ntmps119
  go_wp2_with (go_at_call 133;refine h1.mono ?_;rintro e w' ⟨v,rfl,hR⟩)
  exact hR
end Go.Proofs.YtfmmdamgcpiciaaGreatDoor
namespace Go.Proofs.YtfmmdamgcpiciaaGreatDoor
open Go Go.RowKit
def mval (xs : List Nat) : Nat :=xs.foldl (fun m y => if y = 46 then m else m * 10 + (y - 48)) 0
def mcnt (xs : List Nat) : Nat :=xs.foldl (fun m y => if y = 46 then m else m + 1) 0
theorem mval_snoc (xs : List Nat) (y : Nat) : mval (xs ++ [y]) = if y = 46 then mval xs else mval xs * 10 + (y - 48) :=by simp [mval,List.foldl_append]
theorem mcnt_snoc (xs : List Nat) (y : Nat) : mcnt (xs ++ [y]) = if y = 46 then mcnt xs else mcnt xs + 1 :=by simp [mcnt,List.foldl_append]
def Digit (y : Nat) : Prop :=48 ≤ y ∧ y ≤ 57
theorem mval_go (xs : List Nat) : ∀ m k : Nat,m < 10 ^ k → (∀ y ∈ xs,Digit y ∨ y = 46) → xs.foldl (fun m y => if y = 46 then m else m * 10 + (y - 48)) m < 10 ^ xs.foldl (fun m y => if y = 46 then m else m + 1) k :=by
  induction xs with
  | nil => intro m k h _;exact h
  | cons y xs ih =>
    intro m k h hy
    simp only [List.foldl_cons]
    have hy0 :=hy y (by simp)
    refine ih _ _ ?_ fun z hz => hy z (by simp [hz])
    by_cases h46 : y = 46
    · rw [if_pos h46,if_pos h46];exact h
    · rw [if_neg h46,if_neg h46,Nat.pow_succ]
      rcases hy0 with ⟨h1,h2⟩ | h1
      · omega
      · exact absurd h1 h46
theorem mval_lt {xs : List Nat} (h : ∀ y ∈ xs,Digit y ∨ y = 46) : mval xs < 10 ^ mcnt xs :=mval_go xs 0 0 (by decide) h
theorem mval_drop46 (c : Nat) (ds : List Nat) (hc : c ≠ 46) : mval ([c] ++ (if ds = [] then [] else [46] ++ ds)) = mval (c :: ds) ∧ mcnt ([c] ++ (if ds = [] then [] else [46] ++ ds)) = mcnt (c :: ds) :=by
  by_cases h : ds = []
  · subst h;simp
  · rw [if_neg h];simp [mval,mcnt,hc]
theorem mcnt_digits {xs : List Nat} (h : ∀ y ∈ xs,Digit y) : mcnt xs = xs.length :=by
  suffices ∀ k,xs.foldl (fun m y => if y = 46 then m else m + 1) k = k + xs.length by have :=this 0;unfold mcnt;omega
  induction xs with
  | nil => intro k;rfl
  | cons y xs ih =>
    intro k
    have hy :=h y (by simp)
    unfold Digit at hy
    simp only [List.foldl_cons,List.length_cons]
    rw [if_neg (by omega),ih (fun z hz => h z (by simp [hz]))]
    omega
def Reads (w : World) (b o : Nat) (ys : List Nat) : Prop :=∀ (j y : Nat),ys[j]? = some y → w.cell? ⟨b,o + j,none⟩ = some (u8v y)
theorem mcnt_take (xs : List Nat) (k : Nat) : mcnt (xs.take k) ≤ mcnt xs :=by
  have h :=List.take_append_drop k xs
  have : mcnt xs = mcnt (xs.take k ++ xs.drop k) :=by rw [h]
  rw [this]
  unfold mcnt
  rw [List.foldl_append]
  generalize List.foldl (fun m y => if y = 46 then m else m + 1) 0 (xs.take k) = m
  generalize xs.drop k = zs
  induction zs generalizing m with
  | nil => exact Nat.le_refl _
  | cons z zs ih =>
    simp only [List.foldl_cons]
    refine Nat.le_trans ?_ (ih _)
    split <;> omega
theorem out_made (w : World) : OutAt (w.alloc (Obj.cells zeros32 135)) w.heap.size 0 32 [] :=⟨fun j x h => by simp at h,fun j hj => ⟨⟨_,by rw [World.cell?_alloc_at _ _ _ _ rfl,Nat.zero_add];exact zeros32_at j hj⟩,NF.made w _ _ _⟩,by simp⟩
theorem newFromFloat (w : World) (B B' c : Nat) (neg : Bool) (x M : Int) (ds : List Nat) (f1 : (FloatKind.f64.format.order B B != some Ordering.eq) = false) (f2 : bits .andNot .u64 (B : Int) 9223372036854775808 = (B' : Int)) (f3 : (FloatKind.f64.format.order B' 9218868437227405311 == some Ordering.gt) = false)
    (hf : ∀ W b,w.heap.size ≤ b → Kept w W → OutAt W b 0 32 [] → Calls Tryz.prog 161 #[.slice (some ⟨b,0,none⟩) 0 32,.float .f64 B,.int .u8 101,.int .i64 (-1)] W fun e w' =>
      e = .returned (.slice (some ⟨b,0,none⟩) (eText neg c ds x).length 32) ∧ OutAt w' b 0 32 (eText neg c ds x) ∧ Chg W w' (fun p _ => p = b))
    (hc : Digit c) (hds : ∀ y ∈ ds,Digit y) (hdl : ds.length ≤ 16) (hxa : -99 ≤ x) (hxb : x ≤ 99) (hM : M = if neg then -(mval (c :: ds) : Int) else (mval (c :: ds) : Int)) :
    Calls Tryz.prog 100 #[.float .f64 B,.int .i64 64] w (NewDec w M (x - ds.length)) :=by
  have h1 :=isNaN B f1
  have h2 :=isInf B B' f2 f3
  -- the text's parts
  obtain ⟨D,hD⟩ : ∃ D,[c] ++ (if ds = [] then [] else [46] ++ ds) = D :=⟨_,rfl⟩
  obtain ⟨hmv,hmc⟩ :=mval_drop46 c ds (by unfold Digit at hc;omega)
  rw [hD] at hmv hmc
  have hDd : ∀ y ∈ D,Digit y ∨ y = 46 :=by
    rw [← hD]
    intro y hy
    simp only [List.mem_append,List.mem_singleton] at hy
    rcases hy with rfl | hy
    · exact .inl hc
    · split at hy
      · cases hy
      · rcases List.mem_append.1 hy with h | h
        · exact .inr (by simpa using h)
        · exact .inl (hds y h)
  have hDl : D.length ≤ 18 :=by rw [← hD];simp;split <;> simp <;> omega
  have hml :=mval_lt hDd
  have hmd : mcnt D = ds.length + 1 :=by
    rw [hmc,mcnt_digits (fun y hy => by rcases List.mem_cons.1 hy with rfl | hy;exact hc;exact hds y hy)];rfl
  obtain ⟨sg,hsg⟩ : ∃ s,(if x < 0 then 45 else 43) = s :=⟨_,rfl⟩
  have hE : ∀ n : Bool,eText n c ds x = (if n then [45] else []) ++ (D ++ (101 :: [sg,48 + x.natAbs / 10,48 + x.natAbs % 10])) :=by
    intro n
    unfold eText
    rw [← hD,← hsg]
    simp
  rw [hE] at hf
  have HD :=Lib.hid (And.intro hE (And.intro hD (And.intro hmv (And.intro hmc (And.intro hDd (And.intro hml (And.intro hmd (And.intro hsg (And.intro hc (And.intro hds hM))))))))))
  clear hE hD hmv hmc hDd hml hmd hsg hds hM f1 f2 f3
  have hO : OutAt ((w.alloc (Obj.cells #[.pointer none,.int .i32 0] 55)).alloc (Obj.cells zeros32 135)) (w.heap.size + 1) 0 32 [] :=by
    have :=out_made (w.alloc (Obj.cells #[.pointer none,.int .i32 0] 55))
    have e : (w.alloc (Obj.cells #[.pointer none,.int .i32 0] 55)).heap.size = w.heap.size + 1 :=by simp
    rw [e] at this
    exact this
  cases neg
  · have hc45 : ((c : Int) == 45) = false :=by unfold Digit at hc;simp only [beq_eq_false_iff_ne];omega
    go_enter Tryz.func100,Tryz.ntmps100
    go_upto_block 0 with (first
      | (go_at_call 117;refine (h1 _).mono ?_;rintro e w1 ⟨rfl,hw⟩;rw [hw];clear hw)
      | (go_at_call 118;refine (h2 _).mono ?_;rintro e w1 ⟨rfl,hw⟩;rw [hw];clear hw)
      | (go_at_call 119;refine appendFloat _ _ _ _ ?_;refine (hf _ (w.heap.size + 1) (by omega) (kt (Chg.alloc _ _ _) (Chg.alloc _ _ _)) hO).mono ?_;rintro e w1 ⟨rfl,q1,q2⟩;refine ⟨_,rfl,?_⟩;have c0 :=q1.row 0 c (by rw [← HD.out.2.1];rfl)))
    have q0 :=q2
    have q2 :=(kt (Chg.alloc w (Obj.cells #[.pointer none,.int .i32 0] 55) None2) (Chg.alloc _ (Obj.cells zeros32 135) None2)).keptNew q2 fun p _ h => by omega
    have S : Slot w1 w.heap.size :=(Slot.made w (.pointer none) (.int .i32 0)).kept ((Chg.alloc _ (Obj.cells zeros32 135) None2).keptNew q0 fun p _ h => by simp;omega)
    have rd : Reads w1 (w.heap.size + 1) 0 (D ++ (101 :: [sg,48 + x.natAbs / 10,48 + x.natAbs % 10])) :=q1.row
    obtain ⟨hE,hD,hmv,hmc,hDd,hml,hmd,hsg,hc,hds,hM⟩ :=HD.out
    obtain ⟨I,hI⟩ : ∃ I,D.length = I :=⟨_,rfl⟩
    have hIg : D.length = I :=hI
    rw [hI]
    rw [hI] at hDl
    have r101 :=rd I 101 (by rw [List.getElem?_append_right (by omega),hI,Nat.sub_self];rfl)
    have rsg :=rd (I + 1) sg (by rw [List.getElem?_append_right (by omega),hI,Nat.add_sub_cancel_left];rfl)
    have re1 :=rd (I + 2) (48 + x.natAbs / 10) (by rw [List.getElem?_append_right (by omega),hI,Nat.add_sub_cancel_left];rfl)
    have re0 :=rd (I + 3) (48 + x.natAbs % 10) (by rw [List.getElem?_append_right (by omega),hI,Nat.add_sub_cancel_left];rfl)
    simp only [Nat.zero_add] at r101 rsg re1 re0
    have hrow : ∀ k,k < I → ∃ y,D[k]? = some y ∧ w1.cell? ⟨w.heap.size + 1,k,none⟩ = some (u8v y) ∧ (Digit y ∨ y = 46) :=by
      intro k hk
      obtain ⟨y,g⟩ : ∃ y,D[k]? = some y :=⟨_,List.getElem?_eq_getElem (by omega)⟩
      have g2 :=rd k y (by rw [List.getElem?_append_left (by omega)];exact g)
      rw [Nat.zero_add] at g2
      exact ⟨y,g,g2,hDd _ (List.mem_of_getElem? g)⟩
    have hbd : ∀ k,mval (D.take k) < 1000000000000000000 ∧ mcnt (D.take k) ≤ 18 :=by
      intro k
      have a1 :=mval_lt (xs :=D.take k) fun y hy => hDd y (List.mem_of_mem_take hy)
      have a2 :=mcnt_take D k
      have a3 : 10 ^ mcnt (D.take k) ≤ 10 ^ 18 :=Nat.pow_le_pow_right (by decide) (by omega)
      exact ⟨by omega,by omega⟩
    have HR :=Lib.hid hrow
    have HB :=Lib.hid hbd
    have HI :=Lib.hid hIg
    have HK :=Lib.hid (And.intro q2 S)
    clear q1 q2 rd hE hD hmv hmc hDd hml hmd hsg hc hds hM hI hIg hrow hbd S hf hO h1 h2
    go_wp2_with fail
    go_loop [8] (fun t => ∃ k : Nat,k ≤ I ∧ t = .int .i64 k) (fun t => I + 1 - (intOf t).toNat)
    case atStart => exact ⟨0,Nat.zero_le _,rfl⟩
    case round =>
      obtain ⟨k,hk,rfl⟩ :=hrel
      by_cases hkI : k < I
      · obtain ⟨y,_,cy,hy⟩ :=HR.out k hkI
        have hy1 : ((y : Int) != 101) = true :=by unfold Digit at hy;simp only [bne_iff_ne,ne_eq];omega
        go_wp2_with fail
        go_round
        case rel => exact ⟨k + 1,by omega,by first | rfl | (congr 1;omega)⟩
        case measure => simp [intOf];omega
      · obtain rfl : k = I :=by omega
        go_wp2_with (first
          | (refine wp_region_lit_segs (id :=11) [[0,1,2,3,4,5,6,7,8]] mixed (by kernel_rfl) ?_;simp only [wpSegsL,gaC,gaN,lZ0,lS0,coS])
          | refine ⟨by kernel_rfl,?_⟩)
        go_loop [11,12,53] (fun t11 t12 t53 => ∃ j : Nat,j ≤ k ∧ t53 = .int .i64 j ∧ t11 = .int .i64 (mval (D.take j) : Nat) ∧ t12 = .int .i64 (mcnt (D.take j) : Nat)) (fun _ _ t => k - (intOf t).toNat)
        case atStart => exact ⟨0,Nat.zero_le _,rfl,rfl,rfl⟩
        case round =>
          obtain ⟨j,hj,rfl,rfl,rfl⟩ :=hrel
          by_cases hjk : j < k
          · obtain ⟨y,gy,cy,hy⟩ :=HR.out j hjk
            have hb1 :=HB.out j
            have hb2 :=HB.out (j + 1)
            rw [take_succ gy,mval_snoc,mcnt_snoc] at hb2
            have hm1 : mval (D.take (j + 1)) = if y = 46 then mval (D.take j) else mval (D.take j) * 10 + (y - 48) :=by rw [take_succ gy,mval_snoc]
            have hm2 : mcnt (D.take (j + 1)) = if y = 46 then mcnt (D.take j) else mcnt (D.take j) + 1 :=by rw [take_succ gy,mcnt_snoc]
            have HM :=Lib.hid (And.intro hm1 hm2)
            clear hm1 hm2 gy
            generalize mval (D.take j) = mv at *
            generalize mcnt (D.take j) = mc at *
            by_cases h46 : y = 46
            · subst h46
              go_wp2_with fail
              go_round
              case rel => exact ⟨j + 1,by omega,by first | rfl | (congr 1;omega),by rw [HM.out.1];rfl,by rw [HM.out.2];rfl⟩
              case measure => simp [intOf];omega
            · rw [if_neg h46,if_neg h46] at hb2
              have hyd : 48 ≤ y ∧ y ≤ 57 :=hy.resolve_right h46
              have hy1 : ((y : Int) == 46) = false :=by simp only [beq_eq_false_iff_ne];omega
              clear hy
              go_wp2_with fail
              go_round
              case rel => exact ⟨j + 1,by omega,by first | rfl | (congr 1;omega),by rw [HM.out.1,if_neg h46];congr 1;omega,by rw [HM.out.2,if_neg h46];congr 1⟩
              case measure => simp [intOf];omega
          · obtain rfl : j = k :=by omega
            have hb1 :=HB.out j
            obtain ⟨hE,hD,hmv,hmc,hDd,hml,hmd,hsg,hc,hds,hM⟩ :=HD.out
            have htk : D.take j = D :=List.take_of_length_le (by rw [HI.out];exact Nat.le_refl _)
            rw [htk] at hb1 ⊢
            rw [hmd] at hb1 ⊢
            have hMv : M =  (mval D : Int) :=by rw [hM,hmv];rfl
            clear hE hD hmv hmc hDd hml hmd hc hds hM htk
            generalize mval D = mv at *
            have hmv1 :=hb1.1
            obtain ⟨na,hna⟩ : ∃ a,x.natAbs / 10 = a :=⟨_,rfl⟩
            obtain ⟨nb,hnb⟩ : ∃ a,x.natAbs % 10 = a :=⟨_,rfl⟩
            have hnab : x.natAbs = na * 10 + nb :=by omega
            have hna9 : na ≤ 9 :=by omega
            have hnb9 : nb ≤ 9 :=by omega
            rw [hna] at re1
            rw [hnb] at re0
            have re1 : w1.cell? ⟨w.heap.size + 1,j + 1 + 1,none⟩ = some (u8v (48 + na)) :=re1
            have re0 : w1.cell? ⟨w.heap.size + 1,j + 1 + 1 + 1,none⟩ = some (u8v (48 + nb)) :=re0
            have hn :=fun W => int_new W M (by rw [hMv];omega) (by rw [hMv];omega)
            rw [hMv] at hn
            have HM :=Lib.hid hMv
            clear hMv
            clear hna hnb hb1
            by_cases hx0 : x < 0
            · obtain rfl : sg = 45 :=by rw [← hsg,if_pos hx0]
              have hxe : x = -((na * 10 + nb : Nat) : Int) :=by omega
              have HX :=Lib.hid hxe
              clear hsg hnab hxe
              go_wp2_with fail
              go_loop [16,84] (fun t16 t84 => (t84 = .int .i64 0 ∧ t16 = .int .i64 0) ∨ (t84 = .int .i64 1 ∧ t16 = .int .i64 na) ∨ (t84 = .int .i64 2 ∧ t16 = .int .i64 ((na : Int) * 10 + nb))) (fun _ t => 2 - (intOf t).toNat)
              case atStart => exact .inl ⟨rfl,rfl⟩
              case round =>
                rcases hrel with ⟨rfl,rfl⟩ | ⟨rfl,rfl⟩ | ⟨rfl,rfl⟩
                · go_wp2_with fail
                  go_round
                  case rel => exact .inr (.inl ⟨rfl,by congr 1;omega⟩)
                  case measure => simp [intOf]
                · go_wp2_with fail
                  go_round
                  case rel => exact .inr (.inr ⟨rfl,by congr 1;omega⟩)
                  case measure => simp [intOf]
                · go_wp2_with (first
                    | (go_at_call 93;refine (hn _).mono ?_;rintro r w2 ⟨b2,rfl,k1,k2⟩;have S :=HK.out.2.kept (kt ((Chg.refl _ _).drew) k2);obtain ⟨⟨u0,s0⟩,⟨u1,s1⟩,sf⟩ :=id S;have f0 :=sf 0;have f1 :=sf 1;have s2 :=cs_ne (u :=ptr b2) s1 (b' :=w.heap.size) (o' :=0) (by omega)))
                  have hxx : (-((na : Int) * 10 + nb) - ((ds.length : Int) + 1) + 1) = x - (ds.length : Int) :=by have :=HX.out;omega
                  rw [hxx]
                  refine bodyPost_ret (v :=dv b2 (x - (ds.length : Int))) (results_dec rfl rfl (put2_0 S _ _) (put2_1 S _ _)) rfl ⟨b2,rfl,?_⟩
                  rw [HM.out]
                  exact dec_ret (W :=w1.drew) (Nat.le_refl _) (show w.heap.size < w1.drew.heap.size from lt_of_cell (w :=w1) (HK.out.2.c0.choose_spec)) HK.out.1.drew k1 k2 _ _
            · obtain rfl : sg = 43 :=by rw [← hsg,if_neg hx0]
              have hxe : x = ((na * 10 + nb : Nat) : Int) :=by omega
              have HX :=Lib.hid hxe
              clear hsg hnab hxe
              go_wp2_with fail
              go_loop [16,84] (fun t16 t84 => (t84 = .int .i64 0 ∧ t16 = .int .i64 0) ∨ (t84 = .int .i64 1 ∧ t16 = .int .i64 na) ∨ (t84 = .int .i64 2 ∧ t16 = .int .i64 ((na : Int) * 10 + nb))) (fun _ t => 2 - (intOf t).toNat)
              case atStart => exact .inl ⟨rfl,rfl⟩
              case round =>
                rcases hrel with ⟨rfl,rfl⟩ | ⟨rfl,rfl⟩ | ⟨rfl,rfl⟩
                · go_wp2_with fail
                  go_round
                  case rel => exact .inr (.inl ⟨rfl,by congr 1;omega⟩)
                  case measure => simp [intOf]
                · go_wp2_with fail
                  go_round
                  case rel => exact .inr (.inr ⟨rfl,by congr 1;omega⟩)
                  case measure => simp [intOf]
                · go_wp2_with (first
                    | (go_at_call 93;refine (hn _).mono ?_;rintro r w2 ⟨b2,rfl,k1,k2⟩;have S :=HK.out.2.kept (kt ((Chg.refl _ _).drew) k2);obtain ⟨⟨u0,s0⟩,⟨u1,s1⟩,sf⟩ :=id S;have f0 :=sf 0;have f1 :=sf 1;have s2 :=cs_ne (u :=ptr b2) s1 (b' :=w.heap.size) (o' :=0) (by omega)))
                  have hxx : ((na : Int) * 10 + nb - ((ds.length : Int) + 1) + 1) = x - (ds.length : Int) :=by have :=HX.out;omega
                  rw [hxx]
                  refine bodyPost_ret (v :=dv b2 (x - (ds.length : Int))) (results_dec rfl rfl (put2_0 S _ _) (put2_1 S _ _)) rfl ⟨b2,rfl,?_⟩
                  rw [HM.out]
                  exact dec_ret (W :=w1.drew) (Nat.le_refl _) (show w.heap.size < w1.drew.heap.size from lt_of_cell (w :=w1) (HK.out.2.c0.choose_spec)) HK.out.1.drew k1 k2 _ _
  · have hc45 : ((c : Int) == 45) = false :=by unfold Digit at hc;simp only [beq_eq_false_iff_ne];omega
    go_enter Tryz.func100,Tryz.ntmps100
    go_upto_block 0 with (first
      | (go_at_call 117;refine (h1 _).mono ?_;rintro e w1 ⟨rfl,hw⟩;rw [hw];clear hw)
      | (go_at_call 118;refine (h2 _).mono ?_;rintro e w1 ⟨rfl,hw⟩;rw [hw];clear hw)
      | (go_at_call 119;refine appendFloat _ _ _ _ ?_;refine (hf _ (w.heap.size + 1) (by omega) (kt (Chg.alloc _ _ _) (Chg.alloc _ _ _)) hO).mono ?_;rintro e w1 ⟨rfl,q1,q2⟩;refine ⟨_,rfl,?_⟩;have c0 :=q1.row 0 45 (rfl)))
    have q0 :=q2
    have q2 :=(kt (Chg.alloc w (Obj.cells #[.pointer none,.int .i32 0] 55) None2) (Chg.alloc _ (Obj.cells zeros32 135) None2)).keptNew q2 fun p _ h => by omega
    have S : Slot w1 w.heap.size :=(Slot.made w (.pointer none) (.int .i32 0)).kept ((Chg.alloc _ (Obj.cells zeros32 135) None2).keptNew q0 fun p _ h => by simp;omega)
    have rd : Reads w1 (w.heap.size + 1) 1 (D ++ (101 :: [sg,48 + x.natAbs / 10,48 + x.natAbs % 10])) :=fun j y hj => by
      have :=q1.row (j + 1) y hj
      rwa [show 0 + (j + 1) = 1 + j by omega] at this
    obtain ⟨hE,hD,hmv,hmc,hDd,hml,hmd,hsg,hc,hds,hM⟩ :=HD.out
    obtain ⟨I,hI⟩ : ∃ I,D.length = I :=⟨_,rfl⟩
    have hIg : D.length = I :=hI
    rw [hI]
    rw [hI] at hDl
    have r101 :=rd I 101 (by rw [List.getElem?_append_right (by omega),hI,Nat.sub_self];rfl)
    have rsg :=rd (I + 1) sg (by rw [List.getElem?_append_right (by omega),hI,Nat.add_sub_cancel_left];rfl)
    have re1 :=rd (I + 2) (48 + x.natAbs / 10) (by rw [List.getElem?_append_right (by omega),hI,Nat.add_sub_cancel_left];rfl)
    have re0 :=rd (I + 3) (48 + x.natAbs % 10) (by rw [List.getElem?_append_right (by omega),hI,Nat.add_sub_cancel_left];rfl)
    have hrow : ∀ k,k < I → ∃ y,D[k]? = some y ∧ w1.cell? ⟨w.heap.size + 1,1 + k,none⟩ = some (u8v y) ∧ (Digit y ∨ y = 46) :=by
      intro k hk
      obtain ⟨y,g⟩ : ∃ y,D[k]? = some y :=⟨_,List.getElem?_eq_getElem (by omega)⟩
      have g2 :=rd k y (by rw [List.getElem?_append_left (by omega)];exact g)
      exact ⟨y,g,g2,hDd _ (List.mem_of_getElem? g)⟩
    have hbd : ∀ k,mval (D.take k) < 1000000000000000000 ∧ mcnt (D.take k) ≤ 18 :=by
      intro k
      have a1 :=mval_lt (xs :=D.take k) fun y hy => hDd y (List.mem_of_mem_take hy)
      have a2 :=mcnt_take D k
      have a3 : 10 ^ mcnt (D.take k) ≤ 10 ^ 18 :=Nat.pow_le_pow_right (by decide) (by omega)
      exact ⟨by omega,by omega⟩
    have HR :=Lib.hid hrow
    have HB :=Lib.hid hbd
    have HI :=Lib.hid hIg
    have HK :=Lib.hid (And.intro q2 S)
    clear q1 q2 rd hE hD hmv hmc hDd hml hmd hsg hc hds hM hI hIg hrow hbd S hf hO h1 h2
    go_wp2_with fail
    go_loop [8] (fun t => ∃ k : Nat,k ≤ I ∧ t = .int .i64 k) (fun t => I + 1 - (intOf t).toNat)
    case atStart => exact ⟨0,Nat.zero_le _,rfl⟩
    case round =>
      obtain ⟨k,hk,rfl⟩ :=hrel
      by_cases hkI : k < I
      · obtain ⟨y,_,cy,hy⟩ :=HR.out k hkI
        have hy1 : ((y : Int) != 101) = true :=by unfold Digit at hy;simp only [bne_iff_ne,ne_eq];omega
        go_wp2_with fail
        go_round
        case rel => exact ⟨k + 1,by omega,by first | rfl | (congr 1;omega)⟩
        case measure => simp [intOf];omega
      · obtain rfl : k = I :=by omega
        go_wp2_with (first
          | (refine wp_region_lit_segs (id :=11) [[0,1,2,3,4,5,6,7,8]] mixed (by kernel_rfl) ?_;simp only [wpSegsL,gaC,gaN,lZ0,lS0,coS])
          | refine ⟨by kernel_rfl,?_⟩)
        go_loop [11,12,53] (fun t11 t12 t53 => ∃ j : Nat,j ≤ k ∧ t53 = .int .i64 j ∧ t11 = .int .i64 (mval (D.take j) : Nat) ∧ t12 = .int .i64 (mcnt (D.take j) : Nat)) (fun _ _ t => k - (intOf t).toNat)
        case atStart => exact ⟨0,Nat.zero_le _,rfl,rfl,rfl⟩
        case round =>
          obtain ⟨j,hj,rfl,rfl,rfl⟩ :=hrel
          by_cases hjk : j < k
          · obtain ⟨y,gy,cy,hy⟩ :=HR.out j hjk
            have hb1 :=HB.out j
            have hb2 :=HB.out (j + 1)
            rw [take_succ gy,mval_snoc,mcnt_snoc] at hb2
            have hm1 : mval (D.take (j + 1)) = if y = 46 then mval (D.take j) else mval (D.take j) * 10 + (y - 48) :=by rw [take_succ gy,mval_snoc]
            have hm2 : mcnt (D.take (j + 1)) = if y = 46 then mcnt (D.take j) else mcnt (D.take j) + 1 :=by rw [take_succ gy,mcnt_snoc]
            have HM :=Lib.hid (And.intro hm1 hm2)
            clear hm1 hm2 gy
            generalize mval (D.take j) = mv at *
            generalize mcnt (D.take j) = mc at *
            by_cases h46 : y = 46
            · subst h46
              go_wp2_with fail
              go_round
              case rel => exact ⟨j + 1,by omega,by first | rfl | (congr 1;omega),by rw [HM.out.1];rfl,by rw [HM.out.2];rfl⟩
              case measure => simp [intOf];omega
            · rw [if_neg h46,if_neg h46] at hb2
              have hyd : 48 ≤ y ∧ y ≤ 57 :=hy.resolve_right h46
              have hy1 : ((y : Int) == 46) = false :=by simp only [beq_eq_false_iff_ne];omega
              clear hy
              go_wp2_with fail
              go_round
              case rel => exact ⟨j + 1,by omega,by first | rfl | (congr 1;omega),by rw [HM.out.1,if_neg h46];congr 1;omega,by rw [HM.out.2,if_neg h46];congr 1⟩
              case measure => simp [intOf];omega
          · obtain rfl : j = k :=by omega
            have hb1 :=HB.out j
            obtain ⟨hE,hD,hmv,hmc,hDd,hml,hmd,hsg,hc,hds,hM⟩ :=HD.out
            have htk : D.take j = D :=List.take_of_length_le (by rw [HI.out];exact Nat.le_refl _)
            rw [htk] at hb1 ⊢
            rw [hmd] at hb1 ⊢
            have hMv : M = - (mval D : Int) :=by rw [hM,hmv];rfl
            clear hE hD hmv hmc hDd hml hmd hc hds hM htk
            generalize mval D = mv at *
            have hmv1 :=hb1.1
            obtain ⟨na,hna⟩ : ∃ a,x.natAbs / 10 = a :=⟨_,rfl⟩
            obtain ⟨nb,hnb⟩ : ∃ a,x.natAbs % 10 = a :=⟨_,rfl⟩
            have hnab : x.natAbs = na * 10 + nb :=by omega
            have hna9 : na ≤ 9 :=by omega
            have hnb9 : nb ≤ 9 :=by omega
            rw [hna] at re1
            rw [hnb] at re0
            have re1 : w1.cell? ⟨w.heap.size + 1,1 + (j + 1) + 1,none⟩ = some (u8v (48 + na)) :=by rw [show 1 + (j + 1) + 1 = 1 + (j + 2) by omega];exact re1
            have re0 : w1.cell? ⟨w.heap.size + 1,1 + (j + 1) + 1 + 1,none⟩ = some (u8v (48 + nb)) :=by rw [show 1 + (j + 1) + 1 + 1 = 1 + (j + 3) by omega];exact re0
            have hn :=fun W => int_new W M (by rw [hMv];omega) (by rw [hMv];omega)
            rw [hMv] at hn
            have HM :=Lib.hid hMv
            clear hMv
            clear hna hnb hb1
            by_cases hx0 : x < 0
            · obtain rfl : sg = 45 :=by rw [← hsg,if_pos hx0]
              have hxe : x = -((na * 10 + nb : Nat) : Int) :=by omega
              have HX :=Lib.hid hxe
              clear hsg hnab hxe
              go_wp2_with fail
              go_loop [16,84] (fun t16 t84 => (t84 = .int .i64 0 ∧ t16 = .int .i64 0) ∨ (t84 = .int .i64 1 ∧ t16 = .int .i64 na) ∨ (t84 = .int .i64 2 ∧ t16 = .int .i64 ((na : Int) * 10 + nb))) (fun _ t => 2 - (intOf t).toNat)
              case atStart => exact .inl ⟨rfl,rfl⟩
              case round =>
                rcases hrel with ⟨rfl,rfl⟩ | ⟨rfl,rfl⟩ | ⟨rfl,rfl⟩
                · go_wp2_with fail
                  go_round
                  case rel => exact .inr (.inl ⟨rfl,by congr 1;omega⟩)
                  case measure => simp [intOf]
                · go_wp2_with fail
                  go_round
                  case rel => exact .inr (.inr ⟨rfl,by congr 1;omega⟩)
                  case measure => simp [intOf]
                · go_wp2_with (first
                    | (go_at_call 93;refine (hn _).mono ?_;rintro r w2 ⟨b2,rfl,k1,k2⟩;have S :=HK.out.2.kept (kt ((Chg.refl _ _).drew) k2);obtain ⟨⟨u0,s0⟩,⟨u1,s1⟩,sf⟩ :=id S;have f0 :=sf 0;have f1 :=sf 1;have s2 :=cs_ne (u :=ptr b2) s1 (b' :=w.heap.size) (o' :=0) (by omega)))
                  have hxx : (-((na : Int) * 10 + nb) - ((ds.length : Int) + 1) + 1) = x - (ds.length : Int) :=by have :=HX.out;omega
                  rw [hxx]
                  refine bodyPost_ret (v :=dv b2 (x - (ds.length : Int))) (results_dec rfl rfl (put2_0 S _ _) (put2_1 S _ _)) rfl ⟨b2,rfl,?_⟩
                  rw [HM.out]
                  exact dec_ret (W :=w1.drew) (Nat.le_refl _) (show w.heap.size < w1.drew.heap.size from lt_of_cell (w :=w1) (HK.out.2.c0.choose_spec)) HK.out.1.drew k1 k2 _ _
            · obtain rfl : sg = 43 :=by rw [← hsg,if_neg hx0]
              have hxe : x = ((na * 10 + nb : Nat) : Int) :=by omega
              have HX :=Lib.hid hxe
              clear hsg hnab hxe
              go_wp2_with fail
              go_loop [16,84] (fun t16 t84 => (t84 = .int .i64 0 ∧ t16 = .int .i64 0) ∨ (t84 = .int .i64 1 ∧ t16 = .int .i64 na) ∨ (t84 = .int .i64 2 ∧ t16 = .int .i64 ((na : Int) * 10 + nb))) (fun _ t => 2 - (intOf t).toNat)
              case atStart => exact .inl ⟨rfl,rfl⟩
              case round =>
                rcases hrel with ⟨rfl,rfl⟩ | ⟨rfl,rfl⟩ | ⟨rfl,rfl⟩
                · go_wp2_with fail
                  go_round
                  case rel => exact .inr (.inl ⟨rfl,by congr 1;omega⟩)
                  case measure => simp [intOf]
                · go_wp2_with fail
                  go_round
                  case rel => exact .inr (.inr ⟨rfl,by congr 1;omega⟩)
                  case measure => simp [intOf]
                · go_wp2_with (first
                    | (go_at_call 93;refine (hn _).mono ?_;rintro r w2 ⟨b2,rfl,k1,k2⟩;have S :=HK.out.2.kept (kt ((Chg.refl _ _).drew) k2);obtain ⟨⟨u0,s0⟩,⟨u1,s1⟩,sf⟩ :=id S;have f0 :=sf 0;have f1 :=sf 1;have s2 :=cs_ne (u :=ptr b2) s1 (b' :=w.heap.size) (o' :=0) (by omega)))
                  have hxx : ((na : Int) * 10 + nb - ((ds.length : Int) + 1) + 1) = x - (ds.length : Int) :=by have :=HX.out;omega
                  rw [hxx]
                  refine bodyPost_ret (v :=dv b2 (x - (ds.length : Int))) (results_dec rfl rfl (put2_0 S _ _) (put2_1 S _ _)) rfl ⟨b2,rfl,?_⟩
                  rw [HM.out]
                  exact dec_ret (W :=w1.drew) (Nat.le_refl _) (show w.heap.size < w1.drew.heap.size from lt_of_cell (w :=w1) (HK.out.2.c0.choose_spec)) HK.out.1.drew k1 k2 _ _
end Go.Proofs.YtfmmdamgcpiciaaGreatDoor
namespace Go.Proofs.YtfmmdamgcpiciaaGreatDoor
open Go Go.RowKit
structure GlobF (w : World) : Prop where
  tab : ∀ i hi lo : Nat,Go.Pinned.pow10Rows[i]? = some (hi,lo) → TabAt w i hi lo
  ten : TenAt w
  big : 8 < w.heap.size
theorem GlobF.kept {w w' : World} (h : GlobF w) (k : Kept w w') : GlobF w' :=⟨fun i hi lo e => (h.tab i hi lo e).kept k,h.ten.kept k,Nat.lt_of_lt_of_le h.big (Chg.size k)⟩
structure FC where
  B : Nat
  B' : Nat
  neg : Bool
  ex : Nat
  fr : Nat
  i : Nat
  hi : Nat
  lo : Nat
  D : Nat
  P : Int
  n : Nat
  c : Nat
  ds : List Nat
  x : Int
def FC.ok (k : FC) : Bool :=
  let m :=(4503599627370496 + k.fr) * 2048
  let e :=(k.ex : Int) - 1086
  let s :=(sfS m e).toNat
  decide (k.B = (if k.neg then 9223372036854775808 else 0) + k.ex * 4503599627370496 + k.fr) && decide (1 ≤ k.ex) && decide (k.ex ≤ 1800) && decide (k.fr < 4503599627370496) &&
  decide (-1085 < e) && decide (e ≤ 1000) && decide (0 ≤ sfS m e) && decide (sfS m e < 64) && decide (k.hi < W64) && decide (k.lo < W64) &&
  decide (usc (sfMin m) k.hi k.lo s < 4000000000000000000) && decide (usc (m + 1024) k.hi k.lo s < 4000000000000000000) && decide (usc m k.hi k.lo s < 4000000000000000000) && decide (1 ≤ usc (m + 1024) k.hi k.lo s) &&
  decide (-348 ≤ sfP m e) && decide (sfP m e < 348) && decide (sfP m e + 348 = (k.i : Int)) && decide (sfD m e k.hi k.lo = (k.D,k.P)) && decide (k.D < W64) && decide (nDig k.D = k.n) && decide (k.D < 10 ^ k.n) && decide (k.n ≤ 18) &&
  decide ((digs k.D k.n).take (strip (digs k.D k.n)) = k.c :: k.ds) && decide (strip (digs k.D k.n) ≤ k.n) && decide ((k.n : Int) + k.P = k.x + 1) && decide (-99 ≤ k.x) && decide (k.x ≤ 99) && decide (-300 ≤ k.P) && decide (k.P ≤ 300) &&
  (k.c :: k.ds).all (fun y => decide (48 ≤ y) && decide (y ≤ 57)) && decide (k.ds.length ≤ 16) &&
  ((FloatKind.f64.format.order k.B k.B != some Ordering.eq) == false) && decide (bits .andNot .u64 (k.B : Int) 9223372036854775808 = (k.B' : Int)) && ((FloatKind.f64.format.order k.B' 9218868437227405311 == some Ordering.gt) == false) &&
  ((FloatKind.f64.format.order k.B 0 == some Ordering.eq) == false) && decide (Go.Pinned.pow10Rows[k.i]? = some (k.hi,k.lo))
def FC.M (k : FC) : Int :=if k.neg then -(mval (k.c :: k.ds) : Int) else (mval (k.c :: k.ds) : Int)
def FC.E (k : FC) : Int :=k.x - k.ds.length
theorem fromFloat (k : FC) (hk : k.ok = true) (w : World) (hg : GlobF w) : Calls Tryz.prog 69 #[.float .f64 k.B] w (NewDec w k.M k.E) :=by
  unfold FC.ok at hk
  simp only [Bool.and_eq_true,decide_eq_true_eq,beq_iff_eq,List.all_eq_true] at hk
  obtain ⟨⟨⟨⟨⟨⟨⟨⟨⟨⟨⟨⟨⟨⟨⟨⟨⟨⟨⟨⟨⟨⟨⟨⟨⟨⟨⟨⟨⟨⟨⟨⟨⟨⟨⟨a1,a2⟩,a3⟩,a4⟩,a5⟩,a6⟩,a7⟩,a8⟩,a9⟩,a10⟩,a11⟩,a12⟩,a13⟩,a14⟩,a15⟩,a16⟩,a17⟩,a18⟩,a19⟩,a20⟩,a21⟩,a22⟩,a23⟩,a24⟩,a25⟩,a26⟩,a27⟩,a28⟩,a29⟩,a30⟩,a31⟩,a32⟩,a33⟩,a34⟩,a35⟩,a36⟩ :=hk
  have hok : SfOk ((4503599627370496 + k.fr) * 2048) ((k.ex : Int) - 1086) k.hi k.lo :=⟨by omega,by omega,a5,a6,a7,a8,a9,a10,a11,a12,a13,a14,a15,a16⟩
  have hff :=fun W b (h1 : w.heap.size ≤ b) (h2 : Kept w W) (h3 : OutAt W b 0 32 []) => ftoa64 W b 0 32 k.B k.ex k.fr k.i k.hi k.lo k.D k.n k.c k.neg k.P k.x k.ds h3 (by omega) ⟨a1,a2,by omega,a4⟩ a3 (Nat.lt_of_lt_of_le hg.big (Chg.size h2)) ((hg.tab k.i k.hi k.lo a36).kept h2) (hg.ten.kept h2) hok a17 a18 a19 a20 a21 a22 a23 a24 a25 a26 a27 a28 a29
  have hdg : ∀ y ∈ k.c :: k.ds,Digit y :=a30
  have hnf :=fun W (hW : Kept w W) => newFromFloat W k.B k.B' k.c k.neg k.x k.M k.ds a32 a33 a34 (fun W2 b h1 h2 h3 => hff W2 b (Nat.le_trans (Chg.size hW) h1) (kt hW h2) h3) (hdg _ (by simp)) (fun y hy => hdg y (by simp [hy])) a31 a26 a27 rfl
  have hE : k.x - (k.ds.length : Int) = k.E :=rfl
  rw [hE] at hnf
  clear hff hok a1 a2 a3 a4 a5 a6 a7 a8 a9 a10 a11 a12 a13 a14 a15 a16 a17 a18 a19 a20 a21 a22 a23 a24 a25 a26 a27 a28 a29 a30 a31 a32 a33 a34 a36 hdg hE
  generalize k.M = M at *
  generalize k.E = E at *
  generalize k.B = B at *
  have kA : Kept w (w.alloc (Obj.cells #[.pointer none,.int .i32 0] 55)) :=Chg.alloc _ _ _
  go_enter Tryz.func69,Tryz.ntmps69
  go_wp2_with (go_at_call 100;refine (hnf _ kA).mono ?_;rintro r w2 ⟨b2,rfl,k1,k2⟩;have S :=(Slot.made w (.pointer none) (.int .i32 0)).kept k2;obtain ⟨⟨u0,s0⟩,⟨u1,s1⟩,sf⟩ :=id S;have f0 :=sf 0;have f1 :=sf 1;have s2 :=cs_ne (u :=ptr b2) s1 (b' :=w.heap.size) (o' :=0) (by omega))
  exact bodyPost_ret (v :=dv b2 E) (results_dec rfl rfl (put2_0 S _ _) (put2_1 S _ _)) rfl ⟨b2,rfl,dec_ret (Nat.le_refl _) (by simp) kA k1 k2 _ _⟩
end Go.Proofs.YtfmmdamgcpiciaaGreatDoor
namespace Go.Proofs.YtfmmdamgcpiciaaGreatDoor
open Go Go.RowKit
def fc_pi4A : FC :=⟨4605249456957292544,4605249456957292544,false,1022,2570637784645632,364,10240000000000000000,0,7853981256484985,-16,16,55,[56,53,51,57,56,49,50,53,54,52,56,52,57,56,53],-1⟩
theorem fc_pi4A_ok : fc_pi4A.ok = true ∧ fc_pi4A.M = 7853981256484985 ∧ fc_pi4A.E = -16 :=by decide +kernel
def fc_pi4B : FC :=⟨4495793288086814720,4495793288086814720,false,998,1200859971059712,372,15258789062500000000,0,3774894707930798,-23,16,51,[55,55,52,56,57,52,55,48,55,57,51,48,55,57,56],-8⟩
theorem fc_pi4B_ok : fc_pi4B.ok = true ∧ fc_pi4B.M = 3774894707930798 ∧ fc_pi4B.E = -23 :=by decide +kernel
def fc_pi4C : FC :=⟨4388835458085048688,4388835458085048688,false,974,2329421026185584,379,18189894035458564759,12898309332789100544,26951514290790595,-31,17,50,[54,57,53,49,53,49,52,50,57,48,55,57,48,53,57,53],-15⟩
theorem fc_pi4C_ok : fc_pi4C.ok = true ∧ fc_pi4C.M = 26951514290790595 ∧ fc_pi4C.E = -31 :=by decide +kernel
def fc_m4PI : FC :=⟨4608412980311869570,4608412980311869570,false,1023,1230561511852162,364,10240000000000000000,0,12732395447351625,-16,17,49,[50,55,51,50,51,57,53,52,52,55,51,53,49,54,50,53],0⟩
theorem fc_m4PI_ok : fc_m4PI.ok = true ∧ fc_m4PI.M = 12732395447351625 ∧ fc_m4PI.E = -16 :=by decide +kernel
def fc_tanP0 : FC :=⟨13891795985540005688,4668423948685229880,true,1036,2694734729396024,360,16777216000000000000,0,13093693918138379,-12,17,49,[51,48,57,51,54,57,51,57,49,56,49,51,56,51,55,57],4⟩
theorem fc_tanP0_ok : fc_tanP0.ok = true ∧ fc_tanP0.M = -13093693918138379 ∧ fc_tanP0.E = -12 :=by decide +kernel
def fc_tanP1 : FC :=⟨4697705128000265693,4697705128000265693,false,1043,450716652838365,358,10737418240000000000,0,11535166483858742,-10,17,49,[49,53,51,53,49,54,54,52,56,51,56,53,56,55,52,50],6⟩
theorem fc_tanP1_ok : fc_tanP1.ok = true ∧ fc_tanP1.M = 11535166483858742 ∧ fc_tanP1.E = -10 :=by decide +kernel
def fc_tanP2 : FC :=⟨13938957415113920886,4715585378259145078,true,1047,316568402235766,357,17179869184000000000,0,17956525197648488,-9,17,49,[55,57,53,54,53,50,53,49,57,55,54,52,56,52,56,56],7⟩
theorem fc_tanP2_ok : fc_tanP2.ok = true ∧ fc_tanP2.M = -17956525197648488 ∧ fc_tanP2.E = -9 :=by decide +kernel
def fc_tanQ0 : FC :=⟨4607182418800017408,4607182418800017408,false,1023,0,364,10240000000000000000,0,1000000000000000,-15,16,49,[],0⟩
theorem fc_tanQ0_ok : fc_tanQ0.ok = true ∧ fc_tanQ0.M = 1 ∧ fc_tanQ0.E = 0 :=by decide +kernel
def fc_tanQ1 : FC :=⟨4668746986536789362,4668746986536789362,false,1036,3017772580955506,360,16777216000000000000,0,13681296347069296,-12,17,49,[51,54,56,49,50,57,54,51,52,55,48,54,57,50,57,54],4⟩
theorem fc_tanQ1_ok : fc_tanQ1.ok = true ∧ fc_tanQ1.M = 13681296347069296 ∧ fc_tanQ1.E = -12 :=by decide +kernel
def fc_tanQ2 : FC :=⟨13921796037995576470,4698424001140800662,true,1043,1169589793373334,358,10737418240000000000,0,13208923444021097,-10,17,49,[51,50,48,56,57,50,51,52,52,52,48,50,49,48,57,55],6⟩
theorem fc_tanQ2_ok : fc_tanQ2.ok = true ∧ fc_tanQ2.M = -13208923444021097 ∧ fc_tanQ2.E = -10 :=by decide +kernel
def fc_tanQ3 : FC :=⟨4717478346167605487,4717478346167605487,false,1047,2209536310696175,357,17179869184000000000,0,2500838018233579,-8,16,50,[53,48,48,56,51,56,48,49,56,50,51,51,53,55,57],7⟩
theorem fc_tanQ3_ok : fc_tanQ3.ok = true ∧ fc_tanQ3.M = 2500838018233579 ∧ fc_tanQ3.E = -8 :=by decide +kernel
def fc_tanQ4 : FC :=⟨13945871098756094513,4722499061901318705,true,1048,2726652417038897,357,17179869184000000000,0,53869575592945464,-9,17,53,[51,56,54,57,53,55,53,53,57,50,57,52,53,52,54,52],7⟩
theorem fc_tanQ4_ok : fc_tanQ4.ok = true ∧ fc_tanQ4.M = -53869575592945464 ∧ fc_tanQ4.E = -9 :=by decide +kernel
def fc_int1 : FC :=⟨4607182418800017408,4607182418800017408,false,1023,0,364,10240000000000000000,0,1000000000000000,-15,16,49,[],0⟩
theorem fc_int1_ok : fc_int1.ok = true ∧ fc_int1.M = 1 ∧ fc_int1.E = 0 :=by decide +kernel
def fc_int2 : FC :=⟨4611686018427387904,4611686018427387904,false,1024,0,364,10240000000000000000,0,2000000000000000,-15,16,50,[],0⟩
theorem fc_int2_ok : fc_int2.ok = true ∧ fc_int2.M = 2 ∧ fc_int2.E = 0 :=by decide +kernel
def fc_int3 : FC :=⟨4613937818241073152,4613937818241073152,false,1024,2251799813685248,364,10240000000000000000,0,3000000000000000,-15,16,51,[],0⟩
theorem fc_int3_ok : fc_int3.ok = true ∧ fc_int3.M = 3 ∧ fc_int3.E = 0 :=by decide +kernel
def fc_int4 : FC :=⟨4616189618054758400,4616189618054758400,false,1025,0,364,10240000000000000000,0,4000000000000000,-15,16,52,[],0⟩
theorem fc_int4_ok : fc_int4.ok = true ∧ fc_int4.M = 4 ∧ fc_int4.E = 0 :=by decide +kernel
def fc_int5 : FC :=⟨4617315517961601024,4617315517961601024,false,1025,1125899906842624,364,10240000000000000000,0,5000000000000000,-15,16,53,[],0⟩
theorem fc_int5_ok : fc_int5.ok = true ∧ fc_int5.M = 5 ∧ fc_int5.E = 0 :=by decide +kernel
def fc_int6 : FC :=⟨4618441417868443648,4618441417868443648,false,1025,2251799813685248,364,10240000000000000000,0,6000000000000000,-15,16,54,[],0⟩
theorem fc_int6_ok : fc_int6.ok = true ∧ fc_int6.M = 6 ∧ fc_int6.E = 0 :=by decide +kernel
def fc_int7 : FC :=⟨4619567317775286272,4619567317775286272,false,1025,3377699720527872,364,10240000000000000000,0,7000000000000000,-15,16,55,[],0⟩
theorem fc_int7_ok : fc_int7.ok = true ∧ fc_int7.M = 7 ∧ fc_int7.E = 0 :=by decide +kernel
def fc_int8 : FC :=⟨4620693217682128896,4620693217682128896,false,1026,0,363,16384000000000000000,0,800000000000000,-14,15,56,[],0⟩
theorem fc_int8_ok : fc_int8.ok = true ∧ fc_int8.M = 8 ∧ fc_int8.E = 0 :=by decide +kernel
def fc_int9 : FC :=⟨4621256167635550208,4621256167635550208,false,1026,562949953421312,363,16384000000000000000,0,900000000000000,-14,15,57,[],0⟩
theorem fc_int9_ok : fc_int9.ok = true ∧ fc_int9.M = 9 ∧ fc_int9.E = 0 :=by decide +kernel
def fc_int10 : FC :=⟨4621819117588971520,4621819117588971520,false,1026,1125899906842624,363,16384000000000000000,0,1000000000000000,-14,16,49,[],1⟩
theorem fc_int10_ok : fc_int10.ok = true ∧ fc_int10.M = 1 ∧ fc_int10.E = 1 :=by decide +kernel
def fc_int11 : FC :=⟨4622382067542392832,4622382067542392832,false,1026,1688849860263936,363,16384000000000000000,0,1100000000000000,-14,16,49,[49],1⟩
theorem fc_int11_ok : fc_int11.ok = true ∧ fc_int11.M = 11 ∧ fc_int11.E = 0 :=by decide +kernel
def fc_int12 : FC :=⟨4622945017495814144,4622945017495814144,false,1026,2251799813685248,363,16384000000000000000,0,1200000000000000,-14,16,49,[50],1⟩
theorem fc_int12_ok : fc_int12.ok = true ∧ fc_int12.M = 12 ∧ fc_int12.E = 0 :=by decide +kernel
end Go.Proofs.YtfmmdamgcpiciaaGreatDoor
namespace Go.Proofs.YtfmmdamgcpiciaaGreatDoor
open Go Go.RowKit
structure Dc where
  m : Int
  e : Int
def Dc.mul (a b : Dc) : Dc :=⟨a.m * b.m,a.e + b.e⟩
def Dc.sh (a : Dc) (x : Int) : Int :=a.m * ((10 ^ (a.e - x).toNat : Nat) : Int)
def Dc.add (a b : Dc) : Dc :=⟨a.sh (min a.e b.e) + b.sh (min a.e b.e),min a.e b.e⟩
def Dc.sub (a b : Dc) : Dc :=⟨a.sh (min a.e b.e) - b.sh (min a.e b.e),min a.e b.e⟩
def Dc.neg (a : Dc) : Dc :=⟨-a.m,a.e⟩
def Bd (a : Dc) (k : Nat) : Prop :=a.m.natAbs ≤ 10 ^ k
theorem Bd.mul {a b : Dc} {k l : Nat} (h : Bd a k) (h' : Bd b l) : Bd (a.mul b) (k + l) :=by
  unfold Bd Dc.mul at *
  rw [Int.natAbs_mul,Nat.pow_add]
  exact Nat.mul_le_mul h h'
theorem Bd.sh {a : Dc} {k s : Nat} {x : Int} (h : Bd a k) (hs : (a.e - x).toNat ≤ s) : (a.sh x).natAbs ≤ 10 ^ (k + s) :=by
  unfold Bd Dc.sh at *
  rw [Int.natAbs_mul,Int.natAbs_natCast,Nat.pow_add]
  exact Nat.mul_le_mul h (Nat.pow_le_pow_right (by decide) hs)
theorem Bd.add {a b : Dc} {k l s t n : Nat} (h : Bd a k) (h' : Bd b l) (hs : (a.e - min a.e b.e).toNat ≤ s) (ht : (b.e - min a.e b.e).toNat ≤ t) (h1 : k + s < n) (h2 : l + t < n) : Bd (a.add b) n :=by
  have e1 :=h.sh hs
  have e2 :=h'.sh ht
  have e3 : 10 ^ (k + s) ≤ 10 ^ (n - 1) :=Nat.pow_le_pow_right (by decide) (by omega)
  have e4 : 10 ^ (l + t) ≤ 10 ^ (n - 1) :=Nat.pow_le_pow_right (by decide) (by omega)
  have e5 : 10 ^ n = 10 ^ (n - 1) * 10 :=by rw [← Nat.pow_succ];congr 1;omega
  unfold Bd Dc.add
  show (a.sh (min a.e b.e) + b.sh (min a.e b.e)).natAbs ≤ _
  omega
theorem Bd.sub {a b : Dc} {k l s t n : Nat} (h : Bd a k) (h' : Bd b l) (hs : (a.e - min a.e b.e).toNat ≤ s) (ht : (b.e - min a.e b.e).toNat ≤ t) (h1 : k + s < n) (h2 : l + t < n) : Bd (a.sub b) n :=by
  have e1 :=h.sh hs
  have e2 :=h'.sh ht
  have e3 : 10 ^ (k + s) ≤ 10 ^ (n - 1) :=Nat.pow_le_pow_right (by decide) (by omega)
  have e4 : 10 ^ (l + t) ≤ 10 ^ (n - 1) :=Nat.pow_le_pow_right (by decide) (by omega)
  have e5 : 10 ^ n = 10 ^ (n - 1) * 10 :=by rw [← Nat.pow_succ];congr 1;omega
  unfold Bd Dc.sub
  show (a.sh (min a.e b.e) - b.sh (min a.e b.e)).natAbs ≤ _
  omega
theorem ten740 : 10 ^ 740 < W39 :=by decide +kernel
theorem ten200 : 10 ^ 200 < W64 ^ 11 :=by decide +kernel
theorem lt39 {n k : Nat} (h : n ≤ 10 ^ k) (hk : k ≤ 740) : n < W39 :=Nat.lt_of_le_of_lt (Nat.le_trans h (Nat.pow_le_pow_right (by decide) hk)) ten740
theorem dec_mulD (w : World) (hg : Glob w) (b1 b2 : Nat) (A B : Dc) (k l : Nat) (h1 : IntAt w b1 A.m) (h2 : IntAt w b2 B.m) (hA : Bd A k) (hB : Bd B l) (hk : k ≤ 740) (hl : l ≤ 740) (hm : k ≤ 200 ∨ l ≤ 200) (x1 : -1000 ≤ A.e) (x2 : A.e ≤ 1000) (x3 : -1000 ≤ B.e) (x4 : B.e ≤ 1000) :
    Calls Tryz.prog 67 #[dv b1 A.e,dv b2 B.e] w (NewDec w (A.mul B).m (A.mul B).e) :=by
  refine dec_mul w hg b1 b2 A.e B.e A.m B.m h1 h2 (fun e => ?_) (lt39 hA hk) (lt39 hB hl) (by omega) (by omega) (by omega) (by omega)
  have hs :=IntAt_same e h1 h2
  rcases hm with hm | hm
  · exact Nat.lt_of_le_of_lt (Nat.le_trans hA (Nat.pow_le_pow_right (by decide) hm)) ten200
  · rw [hs];exact Nat.lt_of_le_of_lt (Nat.le_trans hB (Nat.pow_le_pow_right (by decide) hm)) ten200
theorem dec_addD (w : World) (hg : Glob w) (b1 b2 : Nat) (A B : Dc) (k l : Nat) (h1 : IntAt w b1 A.m) (h2 : IntAt w b2 B.m) (hA : Bd A k) (hB : Bd B l) (hk : k ≤ 740) (hl : l ≤ 740) (x1 : -512 < A.e) (x2 : A.e < 512) (x3 : -512 < B.e) (x4 : B.e < 512) (hd1 : A.e - B.e ≤ 420) (hd2 : B.e - A.e ≤ 420)
    (hs1 : k + (A.e - min A.e B.e).toNat ≤ 740) (hs2 : l + (B.e - min A.e B.e).toNat ≤ 740) :
    Calls Tryz.prog 70 #[dv b1 A.e,dv b2 B.e] w (NewDec w (A.add B).m (A.add B).e) :=by
  have e1 :=lt39 (hA.sh (x :=min A.e B.e) (Nat.le_refl _)) hs1
  have e2 :=lt39 (hB.sh (x :=min A.e B.e) (Nat.le_refl _)) hs2
  unfold Dc.add Dc.sh at *
  rcases Int.lt_trichotomy A.e B.e with h | h | h
  · have hm : min A.e B.e = A.e :=by omega
    rw [hm] at e1 e2 ⊢
    have :=dec_add_lt w hg b1 b2 A.e B.e A.m B.m h1 h2 (lt39 hA hk) (lt39 hB hl) h x1 x4 hd2 e2
    simpa using this
  · have hm : min A.e B.e = A.e :=by omega
    rw [hm]
    rw [h]
    have :=dec_add_eq w b1 b2 B.e A.m B.m h1 h2 (lt39 hA hk) (lt39 hB hl)
    simpa using this
  · have hm : min A.e B.e = B.e :=by omega
    rw [hm] at e1 e2 ⊢
    have :=dec_add_gt w hg b1 b2 A.e B.e A.m B.m h1 h2 (lt39 hA hk) (lt39 hB hl) h x3 x2 hd1 e1
    simpa using this
theorem dec_subD (w : World) (hg : Glob w) (b1 b2 : Nat) (A B : Dc) (k l : Nat) (h1 : IntAt w b1 A.m) (h2 : IntAt w b2 B.m) (hA : Bd A k) (hB : Bd B l) (hk : k ≤ 740) (hl : l ≤ 740) (x1 : -512 < A.e) (x2 : A.e < 512) (x3 : -512 < B.e) (x4 : B.e < 512) (hd1 : A.e - B.e ≤ 420) (hd2 : B.e - A.e ≤ 420)
    (hs1 : k + (A.e - min A.e B.e).toNat ≤ 740) (hs2 : l + (B.e - min A.e B.e).toNat ≤ 740) :
    Calls Tryz.prog 72 #[dv b1 A.e,dv b2 B.e] w (NewDec w (A.sub B).m (A.sub B).e) :=by
  have e1 :=lt39 (hA.sh (x :=min A.e B.e) (Nat.le_refl _)) hs1
  have e2 :=lt39 (hB.sh (x :=min A.e B.e) (Nat.le_refl _)) hs2
  unfold Dc.sub Dc.sh at *
  rcases Int.lt_trichotomy A.e B.e with h | h | h
  · have hm : min A.e B.e = A.e :=by omega
    rw [hm] at e1 e2 ⊢
    have :=dec_sub_lt w hg b1 b2 A.e B.e A.m B.m h1 h2 (lt39 hA hk) (lt39 hB hl) h x1 x4 hd2 e2
    simpa using this
  · have hm : min A.e B.e = A.e :=by omega
    rw [hm]
    rw [h]
    have :=dec_sub_eq w b1 b2 B.e A.m B.m h1 h2 (lt39 hA hk) (lt39 hB hl)
    simpa using this
  · have hm : min A.e B.e = B.e :=by omega
    rw [hm] at e1 e2 ⊢
    have :=dec_sub_gt w hg b1 b2 A.e B.e A.m B.m h1 h2 (lt39 hA hk) (lt39 hB hl) h x3 x2 hd1 e1
    simpa using this
end Go.Proofs.YtfmmdamgcpiciaaGreatDoor
namespace Go.Proofs.YtfmmdamgcpiciaaGreatDoor
open Go Go.RowKit
structure Fm (w0 w : World) (L : List (Nat × Int)) (V : List (Nat × Value × Value)) : Prop where
  big : 8 < w0.heap.size
  glob : Glob w
  globF : GlobF w
  kept : Kept w0 w
  ints : ∀ p ∈ L,∃ s n c,IntA w p.1 s n c p.2 ∧ ∀ v ∈ V,p.1 ≠ v.1 ∧ ∀ a,s = some a → a.block ≠ v.1
  vars : ∀ v ∈ V,w0.heap.size ≤ v.1 ∧ w.cell? ⟨v.1,0,none⟩ = some v.2.1 ∧ w.cell? ⟨v.1,1,none⟩ = some v.2.2 ∧ NF w v.1
  dist : V.Pairwise fun u v => u.1 ≠ v.1
theorem Fm.start {w : World} (h : Glob w) (hF : GlobF w) : Fm w w [] [] :=⟨hF.big,h,hF,Chg.refl _ _,(fun _ h => by cases h),(fun _ h => by cases h),List.Pairwise.nil⟩
theorem Fm.int {w0 w : World} {L V} (h : Fm w0 w L V) {b : Nat} {X : Int} (hm : (b,X) ∈ L) : IntAt w b X :=by
  obtain ⟨s,n,c,h1,_⟩ :=h.ints _ hm
  exact ⟨s,n,c,h1⟩
theorem Fm.c0 {w0 w : World} {L V} (h : Fm w0 w L V) {v : Nat} {x y : Value} (hm : (v,x,y) ∈ V) : w.cell? ⟨v,0,none⟩ = some x :=(h.vars _ hm).2.1
theorem Fm.c1 {w0 w : World} {L V} (h : Fm w0 w L V) {v : Nat} {x y : Value} (hm : (v,x,y) ∈ V) : w.cell? ⟨v,1,none⟩ = some y :=(h.vars _ hm).2.2.1
theorem Fm.nf {w0 w : World} {L V} (h : Fm w0 w L V) {v : Nat} {x y : Value} (hm : (v,x,y) ∈ V) : NF w v :=(h.vars _ hm).2.2.2
theorem Fm.cc {w0 w : World} {L V} (h : Fm w0 w L V) {v : Nat} {x y : Value} (hm : (v,x,y) ∈ V) : w.cell? ⟨v,0,none⟩ = some x ∧ w.cell? ⟨v,1,none⟩ = some y ∧ w.frozen? ⟨v,0,none⟩ = false ∧ w.frozen? ⟨v,1,none⟩ = false :=⟨h.c0 hm,h.c1 hm,h.nf hm 0,h.nf hm 1⟩
theorem Fm.at {w0 w : World} {L V} (h : Fm w0 w L V) (n : Nat) {v : Nat} {x y : Value} (hm : V[n]? = some (v,x,y)) : w.cell? ⟨v,0,none⟩ = some x ∧ w.cell? ⟨v,1,none⟩ = some y ∧ w.frozen? ⟨v,0,none⟩ = false ∧ w.frozen? ⟨v,1,none⟩ = false :=h.cc (List.mem_of_getElem? hm)
theorem Fm.iat {w0 w : World} {L V} (h : Fm w0 w L V) (n : Nat) {b : Nat} {X : Int} (hm : L[n]? = some (b,X)) : IntAt w b X :=h.int (List.mem_of_getElem? hm)
theorem Fm.go {w0 w w' : World} {L V} (h : Fm w0 w L V) (k : Kept w w') : Fm w0 w' L V :=
  ⟨h.big,h.glob.kept k,h.globF.kept k,kt h.kept k,fun p hp => by
    obtain ⟨s,n,c,h1,h2⟩ :=h.ints p hp
    exact ⟨s,n,c,h1.kept k,h2⟩,fun v hv => by
    obtain ⟨h1,h2,h3,h4⟩ :=h.vars v hv
    exact ⟨h1,Kept.at k h2,Kept.at k h3,h4.chg (lt_of_cell h2) k⟩,h.dist⟩
theorem Fm.old {w0 w : World} {L} (h : Fm w0 w L []) {b : Nat} {X : Int} (hi : IntAt w b X) : Fm w0 w ((b,X) :: L) [] :=
  ⟨h.big,h.glob,h.globF,h.kept,fun p hp => by
    rcases List.mem_cons.1 hp with rfl | hp
    · obtain ⟨s,n,c,h1⟩ :=hi
      exact ⟨s,n,c,h1,fun v hv => by cases hv⟩
    · exact h.ints p hp,h.vars,h.dist⟩
theorem Fm.new {w0 w w' : World} {L V} (h : Fm w0 w L V) {b : Nat} {X : Int} (hi : IntN w w' b X) (k : Kept w w') : Fm w0 w' ((b,X) :: L) V :=
  let g :=h.go k
  ⟨h.big,g.glob,g.globF,g.kept,fun p hp => by
    rcases List.mem_cons.1 hp with rfl | hp
    · obtain ⟨s,n,c,h1,h2,h3⟩ :=hi
      refine ⟨s,n,c,h1,fun v hv => ?_⟩
      have hl :=lt_of_cell (h.vars v hv).2.1
      exact ⟨by show b ≠ v.1;omega,fun a ha => by have :=h3 a ha;omega⟩
    · exact g.ints p hp,g.vars,g.dist⟩
theorem Fm.sub {w0 w : World} {L L' V} (h : Fm w0 w L V) (hs : ∀ p ∈ L',p ∈ L) : Fm w0 w L' V :=⟨h.big,h.glob,h.globF,h.kept,fun p hp => h.ints p (hs p hp),h.vars,h.dist⟩
theorem Fm.box {w0 w : World} {L V} (h : Fm w0 w L V) (x y : Value) : Fm w0 (Box w x y) L ((w.heap.size,x,y) :: V) :=
  let k :=boxK w x y
  let g :=h.go k
  ⟨h.big,g.glob,g.globF,g.kept,fun p hp => by
    obtain ⟨s,n,c,h1,h2⟩ :=h.ints p hp
    refine ⟨s,n,c,h1.kept k,fun v hv => ?_⟩
    rcases List.mem_cons.1 hv with rfl | hv
    · have hl :=lt_of_cell h1.neg
      exact ⟨by show p.1 ≠ w.heap.size;omega,fun a ha => by have :=h1.nat.lt a ha;show a.block ≠ w.heap.size;omega⟩
    · exact h2 v hv,fun v hv => by
    rcases List.mem_cons.1 hv with rfl | hv
    · exact ⟨Chg.size h.kept,box0 w x y,box1 w x y,NF.made w _ _⟩
    · exact g.vars v hv,by
    refine List.Pairwise.cons (fun v hv => ?_) g.dist
    have hl :=lt_of_cell (h.vars v hv).2.1
    show w.heap.size ≠ v.1
    omega⟩
theorem Fm.put {w0 w : World} {L V1 V2} {v : Nat} {x y : Value} (h : Fm w0 w L (V1 ++ (v,x,y) :: V2)) (x' y' : Value) : Fm w0 (put2 w v x' y') L (V1 ++ (v,x',y') :: V2) :=by
  have hv :=h.vars (v,x,y) (by simp)
  have kc :=put2_chg w v x' y'
  have hne : ∀ u ∈ V1 ++ V2,u.1 ≠ v :=by
    intro u hu
    have hd :=h.dist
    rw [List.pairwise_append] at hd
    rcases List.mem_append.1 hu with hu | hu
    · exact hd.2.2 u hu (v,x,y) (by simp)
    · exact fun e => (List.pairwise_cons.1 hd.2.1).1 u hu e.symm
  have hb :=h.big
  have hv8 : 8 < v :=Nat.lt_of_lt_of_le hb hv.1
  refine ⟨hb,h.glob.chg kc fun b _ hb e => by omega,⟨fun i hi lo e => ?_,fun j hj => kc.at (h.globF.ten j hj) (fun e => by omega),Nat.lt_of_lt_of_le h.globF.big (Chg.size kc)⟩,h.kept.keptNew kc fun b _ e => by subst e;exact hv.1,fun p hp => ?_,fun u hu => ?_,?_⟩
  · have :=h.globF.tab i hi lo e
    exact ⟨kc.at this.1 (fun e => by omega),kc.at this.2 (fun e => by omega)⟩
  · obtain ⟨s,n,c,h1,h2⟩ :=h.ints p hp
    have h3 :=h2 (v,x,y) (by simp)
    refine ⟨s,n,c,h1.chg kc (fun o e => h3.1 e) (fun b o e o' e' => h3.2 _ e e'),fun u hu => ?_⟩
    rcases List.mem_append.1 hu with hu | hu
    · exact h2 u (by simp [hu])
    · rcases List.mem_cons.1 hu with rfl | hu
      · exact h3
      · exact h2 u (by simp [hu])
  · have hS : Slot w v :=⟨⟨_,hv.2.1⟩,⟨_,hv.2.2.1⟩,hv.2.2.2⟩
    have hold : ∀ u ∈ V1 ++ V2,w0.heap.size ≤ u.1 ∧ (put2 w v x' y').cell? ⟨u.1,0,none⟩ = some u.2.1 ∧ (put2 w v x' y').cell? ⟨u.1,1,none⟩ = some u.2.2 ∧ NF (put2 w v x' y') u.1 :=by
      intro u hu
      have hu' :=h.vars u (by simp only [List.mem_append,List.mem_cons] at hu ⊢;rcases hu with hu | hu;exact .inl hu;exact .inr (.inr hu))
      exact ⟨hu'.1,kc.at hu'.2.1 (hne u hu),kc.at hu'.2.2.1 (hne u hu),hu'.2.2.2.chg (lt_of_cell hu'.2.1) kc⟩
    rcases List.mem_append.1 hu with hu | hu
    · exact hold u (by simp [hu])
    · rcases List.mem_cons.1 hu with rfl | hu
      · exact ⟨hv.1,put2_0 hS x' y',put2_1 hS x' y',hv.2.2.2.chg (lt_of_cell hv.2.1) kc⟩
      · exact hold u (by simp [hu])
  · have hd :=h.dist
    rw [List.pairwise_append,List.pairwise_cons] at hd ⊢
    refine ⟨hd.1,⟨fun u hu => hd.2.1.1 u hu,hd.2.1.2⟩,fun u hu z hz => ?_⟩
    rcases List.mem_cons.1 hz with rfl | hz
    · exact hd.2.2 u hu (v,x,y) (by simp)
    · exact hd.2.2 u hu z (by simp [hz])
end Go.Proofs.YtfmmdamgcpiciaaGreatDoor
namespace Go.Proofs.YtfmmdamgcpiciaaGreatDoor
open Go Go.RowKit
theorem fromFC (k : FC) (M E : Int) (h : k.ok = true ∧ k.M = M ∧ k.E = E) (B : Nat) (hB : k.B = B) (w : World) (hg : GlobF w) : Calls Tryz.prog 69 #[.float .f64 B] w (NewDec w M E) :=by
  obtain ⟨h1,rfl,rfl⟩ :=h
  subst hB
  exact fromFloat k h1 w hg
abbrev Box0 (w : World) : World :=w.alloc (Obj.cells #[.pointer none,.int .i32 0] 55)
theorem dec_pi4A (w : World) (hg : GlobF w) : Calls Tryz.prog 60 #[] w (NewDec w 7853981256484985 (-16)) :=by
  have kA : Kept w (Box0 w) :=Chg.alloc _ _ _
  have hf :=fromFC fc_pi4A _ _ fc_pi4A_ok 4605249456957292544 rfl (Box0 w) (hg.kept kA)
  go_enter Tryz.func60,Tryz.ntmps60
  go_wp2_with (go_at_call 69;refine hf.mono ?_;rintro r w2 ⟨b2,rfl,k1,k2⟩;have S :=(Slot.made w (.pointer none) (.int .i32 0)).kept k2;obtain ⟨⟨u0,s0⟩,⟨u1,s1⟩,sf⟩ :=id S;have f0 :=sf 0;have f1 :=sf 1;have s2 :=cs_ne (u :=ptr b2) s1 (b' :=w.heap.size) (o' :=0) (by omega))
  exact bodyPost_ret (v :=dv b2 (-16)) (results_dec rfl rfl (put2_0 S _ _) (put2_1 S _ _)) rfl ⟨b2,rfl,dec_ret (Nat.le_refl _) (by simp) kA k1 k2 _ _⟩
theorem dec_pi4B (w : World) (hg : GlobF w) : Calls Tryz.prog 61 #[] w (NewDec w 3774894707930798 (-23)) :=by
  have kA : Kept w (Box0 w) :=Chg.alloc _ _ _
  have hf :=fromFC fc_pi4B _ _ fc_pi4B_ok 4495793288086814720 rfl (Box0 w) (hg.kept kA)
  go_enter Tryz.func61,Tryz.ntmps61
  go_wp2_with (go_at_call 69;refine hf.mono ?_;rintro r w2 ⟨b2,rfl,k1,k2⟩;have S :=(Slot.made w (.pointer none) (.int .i32 0)).kept k2;obtain ⟨⟨u0,s0⟩,⟨u1,s1⟩,sf⟩ :=id S;have f0 :=sf 0;have f1 :=sf 1;have s2 :=cs_ne (u :=ptr b2) s1 (b' :=w.heap.size) (o' :=0) (by omega))
  exact bodyPost_ret (v :=dv b2 (-23)) (results_dec rfl rfl (put2_0 S _ _) (put2_1 S _ _)) rfl ⟨b2,rfl,dec_ret (Nat.le_refl _) (by simp) kA k1 k2 _ _⟩
theorem dec_pi4C (w : World) (hg : GlobF w) : Calls Tryz.prog 62 #[] w (NewDec w 26951514290790595 (-31)) :=by
  have kA : Kept w (Box0 w) :=Chg.alloc _ _ _
  have hf :=fromFC fc_pi4C _ _ fc_pi4C_ok 4388835458085048688 rfl (Box0 w) (hg.kept kA)
  go_enter Tryz.func62,Tryz.ntmps62
  go_wp2_with (go_at_call 69;refine hf.mono ?_;rintro r w2 ⟨b2,rfl,k1,k2⟩;have S :=(Slot.made w (.pointer none) (.int .i32 0)).kept k2;obtain ⟨⟨u0,s0⟩,⟨u1,s1⟩,sf⟩ :=id S;have f0 :=sf 0;have f1 :=sf 1;have s2 :=cs_ne (u :=ptr b2) s1 (b' :=w.heap.size) (o' :=0) (by omega))
  exact bodyPost_ret (v :=dv b2 (-31)) (results_dec rfl rfl (put2_0 S _ _) (put2_1 S _ _)) rfl ⟨b2,rfl,dec_ret (Nat.le_refl _) (by simp) kA k1 k2 _ _⟩
theorem dec_m4PI (w : World) (hg : GlobF w) : Calls Tryz.prog 63 #[] w (NewDec w 12732395447351625 (-16)) :=by
  have kA : Kept w (Box0 w) :=Chg.alloc _ _ _
  have hf :=fromFC fc_m4PI _ _ fc_m4PI_ok 4608412980311869570 rfl (Box0 w) (hg.kept kA)
  go_enter Tryz.func63,Tryz.ntmps63
  go_wp2_with (go_at_call 69;refine hf.mono ?_;rintro r w2 ⟨b2,rfl,k1,k2⟩;have S :=(Slot.made w (.pointer none) (.int .i32 0)).kept k2;obtain ⟨⟨u0,s0⟩,⟨u1,s1⟩,sf⟩ :=id S;have f0 :=sf 0;have f1 :=sf 1;have s2 :=cs_ne (u :=ptr b2) s1 (b' :=w.heap.size) (o' :=0) (by omega))
  exact bodyPost_ret (v :=dv b2 (-16)) (results_dec rfl rfl (put2_0 S _ _) (put2_1 S _ _)) rfl ⟨b2,rfl,dec_ret (Nat.le_refl _) (by simp) kA k1 k2 _ _⟩
end Go.Proofs.YtfmmdamgcpiciaaGreatDoor
namespace Go.Proofs.YtfmmdamgcpiciaaGreatDoor
open Go Go.RowKit
def yM (j : Nat) : Int :=if j = 10 then 1 else (j : Int)
def yE (j : Nat) : Int :=if j = 10 then 1 else 0
theorem fromZero (w : World) : Calls Tryz.prog 69 #[.float .f64 0] w (NewDec w 0 0) :=by
  have kA : Kept w (Box0 w) :=Chg.alloc _ _ _
  have hf :=dec_new (Box0 w) 0 0 (by decide) (by decide)
  go_enter Tryz.func69,Tryz.ntmps69
  go_wp2_with (go_at_call 71;refine hf.mono ?_;rintro r w2 ⟨b2,rfl,k1,k2⟩;have S :=(Slot.made w (.pointer none) (.int .i32 0)).kept k2;obtain ⟨⟨u0,s0⟩,⟨u1,s1⟩,sf⟩ :=id S;have f0 :=sf 0;have f1 :=sf 1;have s2 :=cs_ne (u :=ptr b2) s1 (b' :=w.heap.size) (o' :=0) (by omega))
  exact bodyPost_ret (v :=dv b2 0) (results_dec rfl rfl (put2_0 S _ _) (put2_1 S _ _)) rfl ⟨b2,rfl,dec_ret (Nat.le_refl _) (by simp) kA k1 k2 _ _⟩
theorem fromSmall (j : Nat) (hj : j ≤ 12) (w : World) (hg : GlobF w) : Calls Tryz.prog 69 #[.float .f64 (floatOfInt .f64 (j : Int))] w (NewDec w (yM j) (yE j)) :=by
  have h : j = 0 ∨ j = 1 ∨ j = 2 ∨ j = 3 ∨ j = 4 ∨ j = 5 ∨ j = 6 ∨ j = 7 ∨ j = 8 ∨ j = 9 ∨ j = 10 ∨ j = 11 ∨ j = 12 :=by omega
  rcases h with rfl | rfl | rfl | rfl | rfl | rfl | rfl | rfl | rfl | rfl | rfl | rfl | rfl
  · exact fromZero w
  · exact fromFC fc_int1 _ _ fc_int1_ok _ (by decide +kernel) w hg
  · exact fromFC fc_int2 _ _ fc_int2_ok _ (by decide +kernel) w hg
  · exact fromFC fc_int3 _ _ fc_int3_ok _ (by decide +kernel) w hg
  · exact fromFC fc_int4 _ _ fc_int4_ok _ (by decide +kernel) w hg
  · exact fromFC fc_int5 _ _ fc_int5_ok _ (by decide +kernel) w hg
  · exact fromFC fc_int6 _ _ fc_int6_ok _ (by decide +kernel) w hg
  · exact fromFC fc_int7 _ _ fc_int7_ok _ (by decide +kernel) w hg
  · exact fromFC fc_int8 _ _ fc_int8_ok _ (by decide +kernel) w hg
  · exact fromFC fc_int9 _ _ fc_int9_ok _ (by decide +kernel) w hg
  · exact fromFC fc_int10 _ _ fc_int10_ok _ (by decide +kernel) w hg
  · exact fromFC fc_int11 _ _ fc_int11_ok _ (by decide +kernel) w hg
  · exact fromFC fc_int12 _ _ fc_int12_ok _ (by decide +kernel) w hg
end Go.Proofs.YtfmmdamgcpiciaaGreatDoor
namespace Go.Proofs.YtfmmdamgcpiciaaGreatDoor
open Go Go.RowKit
def Dc.sc (a : Dc) (n : Nat) : Int :=a.m * ((10 ^ (a.e + n).toNat : Nat) : Int)
theorem ten_add (a b : Nat) : ((10 ^ a : Nat) : Int) * ((10 ^ b : Nat) : Int) = ((10 ^ (a + b) : Nat) : Int) :=by rw [← Int.natCast_mul,← Nat.pow_add]
theorem sc_mul (a b : Dc) (n m : Nat) (h1 : 0 ≤ a.e + n) (h2 : 0 ≤ b.e + m) : (a.mul b).sc (n + m) = a.sc n * b.sc m :=by
  unfold Dc.sc Dc.mul
  simp only
  rw [show (a.e + b.e + ((n + m : Nat) : Int)).toNat = (a.e + n).toNat + (b.e + m).toNat by omega,← ten_add]
  rw [Int.mul_assoc,Int.mul_assoc,Int.mul_left_comm b.m]
theorem sh_sc (a : Dc) (x : Int) (n : Nat) (h1 : 0 ≤ x + n) (h2 : x ≤ a.e) : a.sh x * ((10 ^ (x + n).toNat : Nat) : Int) = a.sc n :=by
  unfold Dc.sc Dc.sh
  rw [Int.mul_assoc,ten_add]
  congr 4
  omega
theorem sc_add (a b : Dc) (n : Nat) (h1 : 0 ≤ a.e + n) (h2 : 0 ≤ b.e + n) : (a.add b).sc n = a.sc n + b.sc n :=by
  have e1 :=sh_sc a (min a.e b.e) n (by omega) (by omega)
  have e2 :=sh_sc b (min a.e b.e) n (by omega) (by omega)
  rw [← e1,← e2,← Int.add_mul]
  rfl
theorem sc_sub (a b : Dc) (n : Nat) (h1 : 0 ≤ a.e + n) (h2 : 0 ≤ b.e + n) : (a.sub b).sc n = a.sc n - b.sc n :=by
  have e1 :=sh_sc a (min a.e b.e) n (by omega) (by omega)
  have e2 :=sh_sc b (min a.e b.e) n (by omega) (by omega)
  rw [← e1,← e2,← Int.sub_mul]
  rfl
theorem m_le_sc (a : Dc) (n : Nat) : a.m.natAbs ≤ (a.sc n).natAbs :=by
  unfold Dc.sc
  rw [Int.natAbs_mul,Int.natAbs_natCast]
  exact Nat.le_mul_of_pos_right _ (Nat.pow_pos (by decide))
theorem sc_up (a : Dc) (n m : Nat) (h : 0 ≤ a.e + n) (hm : n ≤ m) : a.sc m = a.sc n * ((10 ^ (m - n) : Nat) : Int) :=by
  unfold Dc.sc
  rw [Int.mul_assoc,ten_add]
  congr 4
  omega
def pA : Dc :=⟨7853981256484985,-16⟩
def pB : Dc :=⟨3774894707930798,-23⟩
def pC : Dc :=⟨26951514290790595,-31⟩
def pM : Dc :=⟨12732395447351625,-16⟩
def yD (j : Nat) : Dc :=if j % 2 = 1 then (⟨yM j,yE j⟩ : Dc).add ⟨1,0⟩ else ⟨yM j,yE j⟩
theorem bd_y {j : Nat} (hj : j ≤ 12) : Bd ⟨yM j,yE j⟩ 2 :=by
  unfold Bd yM
  simp only
  split <;> omega
theorem yD_all : ∀ j : Fin 13,(yD j.val).m.natAbs ≤ 100 ∧ 0 ≤ (yD j.val).e ∧ (yD j.val).e ≤ 1 ∧ (yD j.val).sc 0 = ((j.val + j.val % 2 : Nat) : Int) :=by decide +kernel
theorem yD_facts {j : Nat} (hj : j ≤ 12) : Bd (yD j) 2 ∧ 0 ≤ (yD j).e ∧ (yD j).e ≤ 1 ∧ (yD j).sc 0 = ((j + j % 2 : Nat) : Int) :=yD_all ⟨j,by omega⟩
theorem small_angle {N k j : Nat} (hN : N < 10 ^ (k + 1)) (hj : N * 12732395447351625 / 10 ^ (k + 16) = j) : j ≤ 12 :=by
  rw [← hj]
  have h1 : N * 12732395447351625 < 13 * 10 ^ (k + 16) :=by
    have e : 10 ^ (k + 16) = 10 ^ (k + 1) * 10 ^ 15 :=by rw [← Nat.pow_add]
    rw [e]
    generalize 10 ^ (k + 1) = P at *
    omega
  have :=(Nat.div_lt_iff_lt_mul (Nat.pow_pos (by decide))).2 h1
  omega
theorem bd_nat {N k : Nat} {e : Int} (hN : N < 10 ^ (k + 1)) (hk : k ≤ 18) : Bd ⟨N,e⟩ 19 :=by
  unfold Bd
  rw [Int.natAbs_natCast]
  exact Nat.le_of_lt (Nat.lt_of_lt_of_le hN (Nat.pow_le_pow_right (by decide) (by omega)))
theorem small39 {N k : Nat} (hN : N < 10 ^ (k + 1)) (hk : k ≤ 18) : N * 12732395447351625 < W39 :=by
  have h1 : N < 10 ^ 19 :=Nat.lt_of_lt_of_le hN (Nat.pow_le_pow_right (by decide) (by omega))
  have h2 : (10 : Nat) ^ 19 * 12732395447351625 < W39 :=by decide +kernel
  exact Nat.lt_trans (Nat.mul_lt_mul_of_pos_right h1 (by decide)) h2
def zD (a y : Dc) : Dc :=((a.sub (y.mul pA)).sub (y.mul pB)).sub (y.mul pC)
def p4 : Int :=7853981256484985 * 10 ^ 15 + 3774894707930798 * 10 ^ 8 + 26951514290790595
theorem zD_sc (a y : Dc) (n : Nat) (h1 : 0 ≤ a.e + (31 + n : Nat)) (h2 : 0 ≤ y.e + n) : (zD a y).sc (31 + n) = a.sc (31 + n) - y.sc n * p4 ∧ 0 ≤ (zD a y).e + (31 + n : Nat) :=by
  have eA : (y.mul pA).sc (31 + n) = y.sc n * pA.sc 31 :=by rw [Nat.add_comm];exact sc_mul y pA n 31 h2 (by decide)
  have eB : (y.mul pB).sc (31 + n) = y.sc n * pB.sc 31 :=by rw [Nat.add_comm];exact sc_mul y pB n 31 h2 (by decide)
  have eC : (y.mul pC).sc (31 + n) = y.sc n * pC.sc 31 :=by rw [Nat.add_comm];exact sc_mul y pC n 31 h2 (by decide)
  have fA : (y.mul pA).e = y.e + -16 :=rfl
  have fB : (y.mul pB).e = y.e + -23 :=rfl
  have fC : (y.mul pC).e = y.e + -31 :=rfl
  have g1 : (a.sub (y.mul pA)).e = min a.e (y.mul pA).e :=rfl
  have g2 : ((a.sub (y.mul pA)).sub (y.mul pB)).e = min (a.sub (y.mul pA)).e (y.mul pB).e :=rfl
  have g3 : (zD a y).e = min ((a.sub (y.mul pA)).sub (y.mul pB)).e (y.mul pC).e :=rfl
  refine ⟨?_,by omega⟩
  unfold zD
  rw [sc_sub _ _ _ (by omega) (by omega),sc_sub _ _ _ (by omega) (by omega),sc_sub _ _ _ (by omega) (by omega),eA,eB,eC]
  have hA : pA.sc 31 = 7853981256484985 * 10 ^ 15 :=by decide
  have hB : pB.sc 31 = 3774894707930798 * 10 ^ 8 :=by decide
  have hC : pC.sc 31 = 26951514290790595 :=by decide
  rw [hA,hB,hC]
  unfold p4
  rw [Int.mul_add,Int.mul_add]
  omega
theorem octant {N k j : Nat} (hk : k ≤ 18) (hj : N * 12732395447351625 / 10 ^ (k + 16) = j) : ∃ T : Nat,(⟨N,-(k : Int)⟩ : Dc).sc 31 = (T : Int) ∧ j * 10 ^ 47 ≤ T * 12732395447351625 ∧ T * 12732395447351625 < (j + 1) * 10 ^ 47 :=by
  refine ⟨N * 10 ^ (31 - k),?_,?_,?_⟩
  · unfold Dc.sc
    simp only
    rw [show (-(k : Int) + (31 : Nat)).toNat = 31 - k by omega,Int.natCast_mul]
  · have h1 :=Nat.div_mul_le_self (N * 12732395447351625) (10 ^ (k + 16))
    rw [hj] at h1
    have h2 :=Nat.mul_le_mul_right (10 ^ (31 - k)) h1
    rw [Nat.mul_assoc,← Nat.pow_add,show k + 16 + (31 - k) = 47 by omega] at h2
    rw [Nat.mul_right_comm]
    exact h2
  · have h1 :=Nat.lt_mul_div_succ (N * 12732395447351625) (show 0 < 10 ^ (k + 16) from Nat.pow_pos (by decide))
    rw [hj] at h1
    have h2 :=Nat.mul_lt_mul_of_pos_right h1 (show 0 < 10 ^ (31 - k) from Nat.pow_pos (by decide))
    rw [Nat.mul_comm (10 ^ (k + 16)),Nat.mul_assoc (j + 1),← Nat.pow_add,show k + 16 + (31 - k) = 47 by omega] at h2
    rw [Nat.mul_right_comm]
    exact h2
theorem p4_eq : p4 = 7853981633974482744594090790595 :=by decide
theorem z_small {T j : Nat} (hj : j ≤ 12) (h1 : j * 10 ^ 47 ≤ T * 12732395447351625) (h2 : T * 12732395447351625 < (j + 1) * 10 ^ 47) : ((T : Int) - ((j + j % 2 : Nat) : Int) * p4).natAbs ≤ 7853981633975000000000000000000 :=by
  rw [p4_eq]
  rw [show (10 : Nat) ^ 47 = 100000000000000000000000000000000000000000000000 from rfl] at h1 h2
  have h : j = 0 ∨ j = 1 ∨ j = 2 ∨ j = 3 ∨ j = 4 ∨ j = 5 ∨ j = 6 ∨ j = 7 ∨ j = 8 ∨ j = 9 ∨ j = 10 ∨ j = 11 ∨ j = 12 :=by omega
  rcases h with rfl | h
  · have h3 : T < 7853981633975000000000000000000 :=Nat.lt_of_mul_lt_mul_right (a :=12732395447351625) (Nat.lt_trans h2 (by decide))
    clear h1 h2
    have e : ((0 + 0 % 2 : Nat) : Int) * 7853981633974482744594090790595 = 0 :=by decide
    rw [e]
    omega
  · rcases h with rfl | rfl | rfl | rfl | rfl | rfl | rfl | rfl | rfl | rfl | rfl | rfl <;> omega
theorem zD_bound {N k j : Nat} (hk : k ≤ 18) (hN : N < 10 ^ (k + 1)) (hj : N * 12732395447351625 / 10 ^ (k + 16) = j) : ((zD ⟨N,-(k : Int)⟩ (yD j)).sc 31).natAbs ≤ 7853981633975000000000000000000 ∧ (zD ⟨N,-(k : Int)⟩ (yD j)).sc 31 = (⟨N,-(k : Int)⟩ : Dc).sc 31 - ((j + j % 2 : Nat) : Int) * p4 ∧ (zD ⟨N,-(k : Int)⟩ (yD j)).e = (yD j).e - 31 ∧ Bd (zD ⟨N,-(k : Int)⟩ (yD j)) 31 :=by
  have hj12 :=small_angle hN hj
  obtain ⟨y1,y2,y3,y4⟩ :=yD_facts hj12
  obtain ⟨T,t1,t2,t3⟩ :=octant hk hj
  have hz :=(zD_sc ⟨N,-(k : Int)⟩ (yD j) 0 (by simp only;omega) (by omega)).1
  rw [Nat.add_zero,y4,t1] at hz
  have hs :=z_small hj12 t2 t3
  rw [← hz] at hs
  refine ⟨hs,by rw [t1];exact hz,?_,?_⟩
  · show min (min (min (-(k : Int)) ((yD j).e + -16)) ((yD j).e + -23)) ((yD j).e + -31) = _
    omega
  · exact Nat.le_trans (m_le_sc _ 31) (Nat.le_trans hs (by decide))
end Go.Proofs.YtfmmdamgcpiciaaGreatDoor
namespace Go.Proofs.YtfmmdamgcpiciaaGreatDoor
open Go Go.RowKit
theorem put2_box (W : World) (x y x' y' : Value) : put2 (Box W x y) W.heap.size x' y' = Box W x' y' :=by simp only [put2,Box];rw [World.setCell_alloc_new,World.setCell_alloc_new];rfl
theorem Fm.subV {w0 w : World} {L V V'} (h : Fm w0 w L V) (hs : V'.Sublist V) : Fm w0 w L V' :=
  ⟨h.big,h.glob,h.globF,h.kept,fun p hp => by
    obtain ⟨s,n,c,h1,h2⟩ :=h.ints p hp
    exact ⟨s,n,c,h1,fun v hv => h2 v (hs.subset hv)⟩,fun v hv => h.vars v (hs.subset hv),h.dist.sublist hs⟩
abbrev mulF (A B R : Dc) : Prop :=∀ W ba bb,Glob W → IntAt W ba A.m → IntAt W bb B.m → Calls Tryz.prog 67 #[dv ba A.e,dv bb B.e] W (NewDec W R.m R.e)
abbrev addF (A B R : Dc) : Prop :=∀ W ba bb,Glob W → IntAt W ba A.m → IntAt W bb B.m → Calls Tryz.prog 70 #[dv ba A.e,dv bb B.e] W (NewDec W R.m R.e)
theorem Bd.le {A : Dc} {k l : Nat} (h : Bd A k) (hl : k ≤ l) : Bd A l :=Nat.le_trans h (Nat.pow_le_pow_right (by decide) hl)
theorem hstep {A U C M B : Dc} (n : Nat) (hA : Bd A n) (hU : Bd U 62) (hC : Bd C 17) (x1 : -62 ≤ U.e) (x2 : U.e ≤ -60) (y1 : -340 ≤ A.e) (y2 : A.e ≤ -16) (z1 : -27 ≤ C.e) (z2 : C.e ≤ -16) (hn : n ≤ 300) (hs : C.e - A.e - U.e + 17 < n + 63) (hM : A.mul U = M) (hB : M.add C = B) :
    mulF A U M ∧ addF M C B ∧ Bd B (n + 63) ∧ B.e = A.e + U.e :=by
  have hMb : Bd M (n + 62) :=hM ▸ hA.mul hU
  have hMe : M.e = A.e + U.e :=by rw [← hM];rfl
  have hBe : B.e = min M.e C.e :=by rw [← hB];rfl
  have hmin : min M.e C.e = M.e :=by omega
  refine ⟨fun W ba bb hg h1 h2 => ?_,fun W ba bb hg h1 h2 => ?_,?_,by omega⟩
  · have :=dec_mulD W hg ba bb A U n 62 h1 h2 hA hU (by omega) (by omega) (by omega) (by omega) (by omega) (by omega) (by omega)
    rw [hM] at this;exact this
  · have :=dec_addD W hg ba bb M C (n + 62) 17 h1 h2 hMb hC (by omega) (by omega) (by omega) (by omega) (by omega) (by omega) (by omega) (by omega) (by omega) (by omega)
    rw [hB] at this;exact this
  · rw [← hB]
    exact hMb.add hC (s :=0) (t :=(C.e - M.e).toNat) (by omega) (by omega) (by omega) (by omega)
def hor (U : Dc) : Dc → List Dc → Dc
  | A,[] => A
  | A,C :: r => hor U ((A.mul U).add C) r
theorem series (U : Dc) (hU : Bd U 62) (x1 : -62 ≤ U.e) (x2 : U.e ≤ -60) (C0 C1 C2 C3 C4 C5 A5 : Dc) (hC : ∀ C ∈ [C0,C1,C2,C3,C4,C5],Bd C 17 ∧ -27 ≤ C.e ∧ C.e ≤ -16) (h5 : hor U C0 [C1,C2,C3,C4,C5] = A5) :
    ∃ M1 A1 M2 A2 M3 A3 M4 A4 M5 : Dc,mulF C0 U M1 ∧ addF M1 C1 A1 ∧ mulF A1 U M2 ∧ addF M2 C2 A2 ∧ mulF A2 U M3 ∧ addF M3 C3 A3 ∧ mulF A3 U M4 ∧ addF M4 C4 A4 ∧ mulF A4 U M5 ∧ addF M5 C5 A5 ∧ Bd A5 345 ∧ A5.e = C0.e + 5 * U.e :=by
  obtain ⟨b0,l0,u0⟩ :=hC C0 (by simp)
  obtain ⟨b1,l1,u1⟩ :=hC C1 (by simp)
  obtain ⟨b2,l2,u2⟩ :=hC C2 (by simp)
  obtain ⟨b3,l3,u3⟩ :=hC C3 (by simp)
  obtain ⟨b4,l4,u4⟩ :=hC C4 (by simp)
  obtain ⟨b5,l5,u5⟩ :=hC C5 (by simp)
  obtain ⟨p1,q1,r1,s1⟩ :=hstep 30 (b0.le (by decide)) hU b1 x1 x2 (by omega) (by omega) l1 u1 (by omega) (by omega) (M :=C0.mul U) (B :=(C0.mul U).add C1) rfl rfl
  obtain ⟨A1,hA1⟩ : ∃ S,(C0.mul U).add C1 = S :=⟨_,rfl⟩
  rw [hA1] at q1 r1 s1
  obtain ⟨p2,q2,r2,s2⟩ :=hstep 93 r1 hU b2 x1 x2 (by omega) (by omega) l2 u2 (by omega) (by omega) (M :=A1.mul U) (B :=(A1.mul U).add C2) rfl rfl
  obtain ⟨A2,hA2⟩ : ∃ S,(A1.mul U).add C2 = S :=⟨_,rfl⟩
  rw [hA2] at q2 r2 s2
  obtain ⟨p3,q3,r3,s3⟩ :=hstep 156 r2 hU b3 x1 x2 (by omega) (by omega) l3 u3 (by omega) (by omega) (M :=A2.mul U) (B :=(A2.mul U).add C3) rfl rfl
  obtain ⟨A3,hA3⟩ : ∃ S,(A2.mul U).add C3 = S :=⟨_,rfl⟩
  rw [hA3] at q3 r3 s3
  obtain ⟨p4,q4,r4,s4⟩ :=hstep 219 r3 hU b4 x1 x2 (by omega) (by omega) l4 u4 (by omega) (by omega) (M :=A3.mul U) (B :=(A3.mul U).add C4) rfl rfl
  obtain ⟨A4,hA4⟩ : ∃ S,(A3.mul U).add C4 = S :=⟨_,rfl⟩
  rw [hA4] at q4 r4 s4
  have hA5 : (A4.mul U).add C5 = A5 :=by rw [← h5,← hA4,← hA3,← hA2,← hA1];rfl
  obtain ⟨p5,q5,r5,s5⟩ :=hstep 282 r4 hU b5 x1 x2 (by omega) (by omega) l5 u5 (by omega) (by omega) (M :=A4.mul U) (B :=A5) rfl hA5
  exact ⟨_,_,_,_,_,_,_,_,_,p1,q1,p2,q2,p3,q3,p4,q4,p5,q5,r5,by omega⟩
theorem index94 (a : Array Value) (i : Nat) (hi : i < 6) (w : World) : (Instr.index 94 (.agg a) (.int .i64 (i : Int))).run Tryz.prog w = .ok (.agg (a.extract (i * 2) (i * 2 + 2))) w :=by
  have h : Tryz.prog.underlying 94 = some (.array 6 55) :=by kernel_rfl
  have hn : (0 ≤ (i : Int) ∧ (i : Int) < ((6 : Nat) : Int)) :=by omega
  have hs : (Tryz.prog.types[55]?.getD default).size = 2 :=by kernel_rfl
  simp [Instr.index,run_underlying h,asIntOf,hn,go_sem]
  omega
@[go_sem] theorem index94_0 (a0 a1 a2 a3 a4 a5 a6 a7 a8 a9 a10 a11 : Value) (w : World) : (Instr.index 94 (.agg #[a0,a1,a2,a3,a4,a5,a6,a7,a8,a9,a10,a11]) (.int .i64 0)).run Tryz.prog w = .ok (.agg #[a0,a1]) w :=index94 #[a0,a1,a2,a3,a4,a5,a6,a7,a8,a9,a10,a11] 0 (by decide) w
@[go_sem] theorem index94_1 (a0 a1 a2 a3 a4 a5 a6 a7 a8 a9 a10 a11 : Value) (w : World) : (Instr.index 94 (.agg #[a0,a1,a2,a3,a4,a5,a6,a7,a8,a9,a10,a11]) (.int .i64 1)).run Tryz.prog w = .ok (.agg #[a2,a3]) w :=index94 #[a0,a1,a2,a3,a4,a5,a6,a7,a8,a9,a10,a11] 1 (by decide) w
@[go_sem] theorem index94_2 (a0 a1 a2 a3 a4 a5 a6 a7 a8 a9 a10 a11 : Value) (w : World) : (Instr.index 94 (.agg #[a0,a1,a2,a3,a4,a5,a6,a7,a8,a9,a10,a11]) (.int .i64 2)).run Tryz.prog w = .ok (.agg #[a4,a5]) w :=index94 #[a0,a1,a2,a3,a4,a5,a6,a7,a8,a9,a10,a11] 2 (by decide) w
@[go_sem] theorem index94_3 (a0 a1 a2 a3 a4 a5 a6 a7 a8 a9 a10 a11 : Value) (w : World) : (Instr.index 94 (.agg #[a0,a1,a2,a3,a4,a5,a6,a7,a8,a9,a10,a11]) (.int .i64 3)).run Tryz.prog w = .ok (.agg #[a6,a7]) w :=index94 #[a0,a1,a2,a3,a4,a5,a6,a7,a8,a9,a10,a11] 3 (by decide) w
@[go_sem] theorem index94_4 (a0 a1 a2 a3 a4 a5 a6 a7 a8 a9 a10 a11 : Value) (w : World) : (Instr.index 94 (.agg #[a0,a1,a2,a3,a4,a5,a6,a7,a8,a9,a10,a11]) (.int .i64 4)).run Tryz.prog w = .ok (.agg #[a8,a9]) w :=index94 #[a0,a1,a2,a3,a4,a5,a6,a7,a8,a9,a10,a11] 4 (by decide) w
@[go_sem] theorem index94_5 (a0 a1 a2 a3 a4 a5 a6 a7 a8 a9 a10 a11 : Value) (w : World) : (Instr.index 94 (.agg #[a0,a1,a2,a3,a4,a5,a6,a7,a8,a9,a10,a11]) (.int .i64 5)).run Tryz.prog w = .ok (.agg #[a10,a11]) w :=index94 #[a0,a1,a2,a3,a4,a5,a6,a7,a8,a9,a10,a11] 5 (by decide) w
end Go.Proofs.YtfmmdamgcpiciaaGreatDoor
