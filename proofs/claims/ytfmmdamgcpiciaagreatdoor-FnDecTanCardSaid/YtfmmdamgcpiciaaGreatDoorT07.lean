/- A part of the proof, joined out of the texts D15, D16, D17, D18; each theorem bears its own conditions. -/
import Derived.Deep.CutBlock
import Derived.Deep.DeepCutAuto
import Derived.Defers
import Derived.Test.YtfmmdamgcpiciaaGreatDoorT06
set_option linter.unusedVariables false
set_option linter.unusedSimpArgs false
set_option linter.all false
set_option maxHeartbeats 9000000
set_option exponentiation.threshold 400000
set_option maxRecDepth 1000000
namespace Go.Proofs.YtfmmdamgcpiciaaGreatDoor
open Go Go.RowKit
theorem divBasic (w : World) (bq oq cq bu ou cu bv ov cv bs n m : Nat) (st : St) (us0 vs : List Nat) (v1 v0 : Nat)
    (hn : 2 ≤ n) (hnB : n ≤ 800) (hm : 0 < m) (hmB : m ≤ 800) (hcq : m ≤ cq) (hcu : m + n ≤ cu) (hcv : n ≤ cv)
    (hu : Row .u64 w bu ou us0) (hlu : us0.length = m + n) (hbu : Lt W64 us0) (hwu : Wr w bu ou (m + n)) (hcuB : cu < 9223372036854775808)
    (hv : Row .u64 w bv ov vs) (hlv : vs.length = n) (hbv : Lt W64 vs) (hv1 : vs[n - 1]? = some v1) (hv0 : vs[n - 2]? = some v0) (hnorm : W64 ≤ 2 * v1)
    (ut : Nat) (hut : us0[m + n - 1]? = some ut) (hut1 : ut < v1) (hsm : val W64 us0 < val W64 vs * W64 ^ m)
    (hq : Wr w bq oq m) (hst : StAt w bs st) (hl : StL st ≤ 900)
    (dqs : bq ≠ bs) (dus : bu ≠ bs) (dq : ∀ o,¬ StM bs st bq o) (du : ∀ o,¬ StM bs st bu o) (dv : ∀ j,j < n → ¬ StM bs st bv (ov + j)) (dqu : bq ≠ bu) (dqv : bq ≠ bv) (duv : bu ≠ bv) :
    Calls Tryz.prog 187 #[.slice (some ⟨bq,oq,none⟩) m cq,ptr bs,.slice (some ⟨bu,ou,none⟩) (m + n : Nat) cu,.slice (some ⟨bv,ov,none⟩) n cv] w fun e w' => ∃ us qs st',e = .returned (.tuple #[]) ∧
      DivAt w' bq oq bu ou n m (val W64 us0) (val W64 vs) 0 us qs ∧ StAt w' bs st' ∧ StL st' ≤ StL st ∧ (∀ p o,StM bs st' p o → StM bs st p o ∨ w.heap.size ≤ p) ∧ Chg w w' (fun p o => p = bq ∨ p = bu ∨ StM bs st p o) :=by
  have hsv :=st_save hst
  have hwd :=stk_words w bs (n + 1) st (by omega) (by omega) hst (by omega)
  have hrc :=reciprocalWord v1 (hbv _ (List.mem_of_getElem? hv1)) (by unfold W64 at hnorm;omega)
  have cv1 :=hv (n - 1) v1 hv1
  have cv0 :=hv (n - 2) v0 hv0
  have kv1 :=dv (n - 1) (by omega)
  have HU :=Lib.hid (And.intro hu (And.intro hbu (And.intro hwu (And.intro hv (And.intro hbv (And.intro hsm (And.intro hq (And.intro hst (And.intro hl (And.intro dq (And.intro du (And.intro dv (And.intro hv1 (And.intro hv0 hut))))))))))))))
  clear hu hbu hwu hv hbv hsm hq hst hl dq du dv hv1 hv0 hut
  have hlen : ((m + n : Nat) : Int) - (n : Int) = (m : Int) :=by omega
  go_enter_defers Tryz.func187,Tryz.ntmps187
  go_wp2_with (first
    | (go_at_call 151;refine hsv.mono ?_;rintro e w1 ⟨rfl,hw⟩;rw [hw];clear hw)
    | (go_at_call 152;refine hwd.mono ?_;rintro e w1 ⟨bt,ot,ct,st',rfl,g1,g2,g3,g4,g5,g6,g7,g8,g9,g10,g11,g12,g13,g14⟩;have cv1 :=g14.at cv1 kv1;have G :=Lib.hid (And.intro g3 (And.intro g4 (And.intro g5 (And.intro g6 (And.intro g7 (And.intro g8 (And.intro g9 (And.intro g10 (And.intro g11 (And.intro g12 (And.intro g13 g14)))))))))));clear g3 g4 g5 g6 g7 g8 g9 g10 g11 g12 g13 g14)
    | (go_at_call 227;refine (hrc _).mono ?_;rintro e w2 ⟨rfl,k2⟩;have K2 :=Lib.hid k2;clear k2))
  have F0 : ((∀ p,StB st' p → p ≠ bq ∧ p ≠ bu ∧ p ≠ bt) ∧ bt ≠ bq ∧ bt ≠ bu ∧ (bv ≠ bt ∨ ov + n ≤ ot) ∧ StAt w2 bs st' ∧ Wr w2 bt ot (n + 1) ∧ Row .u64 w2 bv ov vs) :=by
    obtain ⟨hu,hbu,hwu,hv,hbv,hsm,hq,hst,hl,dq,du,dv,hv1,hv0,hut⟩ :=HU.out
    obtain ⟨g3,g4,g5,g6,g7,g8,g9,g10,g11,g12,g13,g14⟩ :=G.out
    obtain ⟨x,hx⟩ :=(hwu 0 (by omega)).1
    obtain ⟨y,hy⟩ :=(hq 0 hm).1
    have lx :=lt_of_cell hx
    have ly :=lt_of_cell hy
    refine ⟨fun p hp => ?_,?_,?_,?_,g6.chg K2.out (fun _ h => h) (fun _ _ _ h => h),g3.chg K2.out,(hv.chg g14 fun j hj => dv j (by omega)).chg K2.out fun _ _ h => h⟩
    · have h2 :=g13 p 0 (StM_cut g7 (StB_M hp))
      refine ⟨fun h => ?_,fun h => ?_,fun h => ?_⟩
      · subst h;rcases h2 with h2 | h2
        · exact dq 0 h2
        · omega
      · subst h;rcases h2 with h2 | h2
        · exact du 0 h2
        · omega
      · subst h;exact g10 hp
    · rcases g12 with h | ⟨i,l,c,rfl,h⟩
      · omega
      · intro h2;exact dq ot (.inr ⟨h2.symm,h⟩)
    · rcases g12 with h | ⟨i,l,c,rfl,h⟩
      · omega
      · intro h2;exact du ot (.inr ⟨h2.symm,h⟩)
    · have lv :=hv.lt (by omega)
      rcases g12 with h | ⟨i,l,c,rfl,h⟩
      · exact .inl (by omega)
      · by_cases h2 : bv = bt
        · right
          have h3 :=dv (n - 1) (by omega)
          simp only [StM,not_or,not_and] at h3
          have :=h3.2 h2
          omega
        · exact .inl h2
  have F :=Lib.hid F0
  clear F0
  have K : Chg w w2 (StM bs st) :=by have :=G.out.2.2.2.2.2.2.2.2.2.2.2;exact this.trans K2.out fun _ _ _ h => h.elim
  go_loopw [13,14] (fun t13 t14 wr => ∃ (k ujn : Nat),k ≤ m + 1 ∧ t14 = .int .i64 ((k : Int) - 1) ∧ t13 = .int .u64 ujn ∧
    ((k = m + 1 ∧ ujn = 0 ∧ DivAt wr bq oq bu ou n m (val W64 us0) (val W64 vs) m us0 []) ∨ (k ≤ m ∧ ∃ us qs,DivAt wr bq oq bu ou n m (val W64 us0) (val W64 vs) k us qs ∧ ∀ j,k = j + 1 → us[j + n]? = some ujn)) ∧
    Chg w2 wr (fun p o => p = bq ∨ p = bu ∨ In bt ot (n + 1) p o)) (fun _ t14 _ => (intOf t14 + 1).toNat)
  case atStart =>
    obtain ⟨hu,hbu,hwu,hv,hbv,hsm,hq,hst,hl,dq,du,dv,hv1,hv0,hut⟩ :=HU.out
    refine ⟨m + 1,0,Nat.le_refl _,by first | rfl | (congr 1;omega),rfl,.inl ⟨rfl,rfl,hu.chg K fun j _ => du _,hlu,hbu,Row.nil,by simp,Lt.nil,by simp [val],hsm⟩,Chg.refl _ _⟩
  case round =>
    obtain ⟨k,ujn,hk,rfl,rfl,hcase,hchg⟩ :=hrel
    have HC :=Lib.hid (And.intro hcase hchg)
    clear hcase hchg
    rcases Nat.eq_zero_or_pos k with rfl | hkp
    · go_wp2
      obtain ⟨hcase,hchg⟩ :=HC.out
      obtain ⟨hu,hbu,hwu,hv,hbv,hsm,hq,hst,hl,dq,du,dv,hv1,hv0,hut⟩ :=HU.out
      obtain ⟨g3,g4,g5,g6,g7,g8,g9,g10,g11,g12,g13,g14⟩ :=G.out
      obtain ⟨f1,f2,f3,f4,f5,f6,f7⟩ :=F.out
      have hst3 : StAt wr bs st' :=f5.chg hchg (fun o h => by
        rcases h with h | h | h
        · exact dqs h.symm
        · exact dus h.symm
        · exact g9 h.1.symm) (fun p o hp h => by
        obtain ⟨a1,a2,a3⟩ :=f1 p hp
        rcases h with h | h | h
        · exact a1 h
        · exact a2 h
        · exact a3 h.1)
      refine leaves_cons (f :=150) (args :=#[ptr bs,.int .i64 (StL st)]) (by simp) (by simp [go_sem]) ?_
      refine (st_restore .returning hst3 g7).mono ?_
      rintro e u' w'' ⟨rfl,rfl,h4,h5⟩
      refine ⟨_,results_none rfl _ _ _,?_⟩
      rcases hcase with ⟨h,_⟩ | ⟨-,us,qs,hd,-⟩
      · omega
      · refine ⟨us,qs,StCut st' (StL st),rfl,?_,h4,?_,g13,?_⟩
        · exact { hd with row :=hd.row.chg h5 fun j _ h => (f1 _ h).2.1 rfl,qrow :=hd.qrow.chg h5 fun j _ h => (f1 _ h).1 rfl }
        · rcases st' with _ | ⟨i,b,l,c⟩ <;> simp [StCut,StL]
        · refine ((K.mono fun _ _ _ h => Or.inr (Or.inr h)).trans hchg fun p o hp h => ?_).trans h5 fun p o hp h => ?_
          · rcases h with h | h | ⟨rfl,h6,h7⟩
            · exact .inl h
            · exact .inr (.inl h)
            · rcases g12 with h | ⟨i,l,c,rfl,h⟩
              · omega
              · exact .inr (.inr (.inr ⟨rfl,by omega⟩))
          · rcases g13 p o (StM_cut g7 (StB_M h)) with h | h
            · exact .inr (.inr h)
            · omega
    · rcases Nat.lt_or_ge m k with hmk | hmk
      · obtain rfl : k = m + 1 :=by omega
        obtain ⟨hcase,hchg⟩ :=HC.out
        obtain ⟨rfl,hd⟩ : ujn = 0 ∧ DivAt wr bq oq bu ou n m (val W64 us0) (val W64 vs) m us0 [] :=by
          rcases hcase with ⟨_,h1,h2⟩ | ⟨h,_⟩
          · exact ⟨h1,h2⟩
          · omega
        clear hcase
        obtain ⟨hu,hbu,hwu,hv,hbv,hsm,hq,hst,hl,dq,du,dv,hv1,hv0,hut⟩ :=HU.out
        obtain ⟨f1,f2,f3,f4,f5,f6,f7⟩ :=F.out
        have hul :=hd.len
        have cu1 :=hd.row _ _ hut
        have hu0 : us0[m + n - 2]? = some (us0[m + n - 2]'(by omega)) :=List.getElem?_eq_getElem _
        generalize us0[m + n - 2]'_ = u0 at hu0
        have cu0 :=hd.row _ _ hu0
        have hutb : ut < W64 :=hbu _ (List.mem_of_getElem? hut)
        have hu0b : u0 < W64 :=hbu _ (List.mem_of_getElem? hu0)
        have hv1b : v1 < W64 :=hbv _ (List.mem_of_getElem? hv1)
        have hv0b : v0 < W64 :=hbv _ (List.mem_of_getElem? hv0)
        have fv : Row .u64 wr bv ov vs :=f7.chg hchg fun i hi h => by
          rcases h with h | h | ⟨h1,h2,h3⟩
          · exact dqv h.symm
          · exact duv h.symm
          · rcases f4 with h4 | h4
            · exact h4 h1
            · omega
        have cv0r :=fv _ _ hv0
        have e1 : (((m + 1 : Nat) : Int) - 1) = (m : Int) :=by omega
        rw [e1]
        have hv1p : 0 < v1 :=by omega
        have hne : (((0 : Nat) : Int) == (v1 : Int)) = false :=by simp;omega
        have hdw :=divWW 0 ut v1 hv1b (by omega) hv1p hutb
        rw [Nat.zero_mul,Nat.zero_add,Nat.div_eq_of_lt hut1,Nat.mod_eq_of_lt hut1] at hdw
        have hmw :=mulWW 0 v0 (by decide) hv0b
        simp only [Nat.zero_mul,Nat.zero_div,Nat.zero_mod] at hmw
        have hgt :=greaterThan 0 0 ut u0 (by unfold W64;omega) hu0b
        rw [decide_eq_false (by omega)] at hgt
        have hwt :=f6.chg hchg
        have hmul :=fun cz cx => mulAddVWW_g wr (some ⟨bt,ot,none⟩) (some ⟨bv,ov,none⟩) bt ot bv ov n cz cx 0 0 vs (by omega) (fun _ => rfl) (fun _ => rfl) fv hlv hbv (by unfold W64;omega) (by unfold W64;omega) (fun i hi => hwt i (by omega)) (f4.elim .inl fun h => .inr (.inr h))
        obtain ⟨⟨x,hx⟩,hxf⟩ :=hwt n (by omega)
        have HR :=Lib.hid (And.intro hd (And.intro hchg (And.intro fv (And.intro hul hut))))
        clear hu hbu hwu hv hbv hsm hq hst hl dq du dv hv1 hv0 hut f1 f4 f5 f6 f7 hd hchg fv hwt hul hu0
        go_wp2_with (first
          | (go_at_call 228;refine (hdw _).mono ?_;rintro e w' ⟨rfl,hw⟩;rw [hw];clear hw)
          | (go_at_call 141;refine (hmw _).mono ?_;rintro e w' ⟨rfl,hw⟩;rw [hw];clear hw))
        go_loop [15,16,18,19] (fun t15 t16 t18 t19 => t15 = .int .u64 (0 : Nat) ∧ t16 = .int .u64 ut ∧ t18 = .int .u64 (0 : Nat) ∧ t19 = .int .u64 (0 : Nat)) (fun _ _ _ _ => 0)
        case atStart => exact ⟨rfl,rfl,rfl,rfl⟩
        case round =>
          obtain ⟨rfl,rfl,rfl,rfl⟩ :=hrel
          go_upto_if 128 with (first
            | (go_at_call 229;refine (hgt _).mono ?_;rintro e w' ⟨rfl,hw⟩;rw [hw];clear hw)
            | (go_at_call 171;refine mulAddVWW _ _ _ _ _ _ ?_;refine (hmul _ _).mono ?_;rintro e w3 ⟨zs,cc,rfl,z1,z2,z3,z4,z5,z6,z7⟩;refine ⟨_,rfl,?_⟩;obtain ⟨rfl,hzz⟩ :=none_left z4;have hx3 :=z6.at hx (fun h => by have :=h.2.2;omega);have hxf3 :=(z6.frz bt (ot + n) (lt_of_cell hx)).trans hxf;have Z :=Lib.hid (And.intro z1 (And.intro z2 (And.intro z3 (And.intro hzz (And.intro z6 z7)))));clear z1 z2 z3 z4 z5 z6 z7 hzz))
          obtain ⟨z1,z2,z3,hzz,z6,z7⟩ :=Z.out
          obtain ⟨hd,hchg,fv,hul,hut⟩ :=HR.out
          obtain ⟨hu,hbu,hwu,hv,hbv,hsm,hq,hst,hl,dq,du,dv,hv1,hv0,-⟩ :=HU.out
          obtain ⟨f1,f2,f3,f4,f5,f6,f7⟩ :=F.out
          have s4 :=Chg.setCell w3 bt (ot + n) (.int .u64 0) (In bt ot (n + 1)) (fun _ => ⟨rfl,by omega,by omega⟩)
          have k4 : Chg wr (w3.setCell ⟨bt,ot + n,none⟩ (.int .u64 0)) (In bt ot (n + 1)) :=(z6.inMono (by omega)).trans s4 fun _ _ _ h => h
          have rz : Row .u64 (w3.setCell ⟨bt,ot + n,none⟩ (.int .u64 0)) bt ot zs :=z2.chg (Chg.setCell w3 bt (ot + n) (.int .u64 0) (fun p o => p = bt ∧ o = ot + n) (fun _ => ⟨rfl,rfl⟩)) fun i hi h => by have :=h.2;omega
          generalize hw4 : w3.setCell ⟨bt,ot + n,none⟩ (.int .u64 0) = w4 at *
          have ru : Row .u64 w4 bu ou us0 :=hd.row.chg k4 fun _ _ h => f3 h.1.symm
          have hwl : ((us0.drop m).take n).length = n :=by simp;omega
          have wu4 : Wr w4 bu (ou + m) n :=((((hwu.chg K).chg hchg).chg k4).sub m n (by omega))
          have hsub :=fun cz cx cy => subVV_g w4.drew (some ⟨bu,ou + m,none⟩) (some ⟨bu,ou + m,none⟩) (some ⟨bt,ot,none⟩) bu (ou + m) bu (ou + m) bt ot n cz cx cy ((us0.drop m).take n) zs (by omega) (fun _ => rfl) (fun _ => rfl) (fun _ => rfl) ((ru.drop m).take n) rz hwl z1 (fun x hx => hd.lt x (List.mem_of_mem_drop (List.mem_of_mem_take hx))) z3 wu4 (.inr (.inl (Nat.le_refl _))) (.inl f3)
          have HZ :=Lib.hid (And.intro hd (And.intro hchg (And.intro k4 (And.intro hzz (And.intro hwl (And.intro hul (And.intro ru (And.intro hut hbu))))))))
          clear hd hchg hut fv hul hu hbu hwu hv hbv hsm hq hst hl dq du dv hv1 hv0 f1 f2 f4 f5 f6 f7 z1 z2 z3 z6 z7 hzz s4 k4 rz ru wu4 hwl hw4
          go_upto_if 148 with (first
            | (refine wp_region_lit_segs (id :=28) [[0,1,2,3,4,5,6,7,8,9,10,11,12,13,14,15,16]] mixed (by kernel_rfl) ?_;simp only [wpSegsL,gaC,gaN,lZ0,lS0,coS])
            | refine ⟨by kernel_rfl,?_⟩
            | (go_at_call 137;refine subVV _ _ _ _ _ ?_;refine (hsub _ _ _).mono ?_;rintro e w5 ⟨ts,c5,rfl,y1,y2,y3,y4,y5,y6,y7⟩;refine ⟨_,rfl,?_⟩;have Y :=Lib.hid (And.intro y1 (And.intro y2 (And.intro y3 (And.intro y4 (And.intro y5 (And.intro y6 y7))))));clear y1 y2 y3 y4 y5 y6 y7))
          obtain ⟨y1,y2,y3,y4,y5,y6,y7⟩ :=Y.out
          obtain ⟨hd,hchg,k4,hzz,hwl,hul,ru,hut,hbu⟩ :=HZ.out
          have y6 :=y6.of_drew
          have ly :=val_lt (B :=W64) (xs :=ts) y3
          rw [y1] at ly
          rw [hzz,Nat.add_zero] at y4
          have hc5 : c5 = 0 :=by
            rcases Nat.eq_zero_or_pos c5 with h | h
            · exact h
            · have :=Nat.le_mul_of_pos_right (W64 ^ n) h
              omega
          subst hc5
          rw [Nat.mul_zero,Nat.add_zero] at y4
          have hv4 : val W64 (us0.take m ++ (ts ++ us0.drop (m + n))) = val W64 us0 :=by
            rw [splice_val y1 (by omega),y4,← window_val (by omega)]
          have gx : ts[n - 1]? = some (ts[n - 1]'(by omega)) :=List.getElem?_eq_getElem _
          generalize ts[n - 1]'_ = x1 at gx
          have cx :=y2 _ _ gx
          rw [show ou + m + (n - 1) = ou + (m + n - 1) by omega] at cx
          have hg : (us0.take m ++ (ts ++ us0.drop (m + n)))[m - 1 + n]? = some x1 :=by
            rw [show m - 1 + n = m + (n - 1) by omega,List.getElem?_append_right (by simp;omega),List.length_take,Nat.min_eq_left (by omega),Nat.add_sub_cancel_left,List.getElem?_append_left (by omega)]
            exact gx
          have kc : Chg wr w5 (fun p o => In bu (ou + m) n p o ∨ In bt ot (n + 1) p o) :=(k4.mono fun _ _ _ h => Or.inr h).trans y6 fun _ _ _ h => Or.inl h
          have hd5 : DivAt w5 bq oq bu ou n m (val W64 us0) (val W64 vs) m (us0.take m ++ (ts ++ us0.drop (m + n))) [] :=by
            refine ⟨hd.row.spliceM kc (fun o' h => ?_) y2 y1 (by omega),(splice_len y1 (by omega)).trans hul,splice_lt hd.lt y3,Row.nil,by simp,Lt.nil,?_,?_⟩
            · rcases h with h | h
              · exact h.2
              · exact absurd h.1.symm f3
            · rw [hv4];exact hd.sum
            · rw [hv4];exact hd.small
          have HN :=Lib.hid (And.intro hd5 (And.intro kc (And.intro hchg hg)))
          clear hd hchg k4 hzz hwl hul ru hut hbu y1 y2 y3 y4 y5 y6 y7 ly hv4 gx hd5 kc hg
          go_wp2_with fail
          go_roundw
          case rel =>
            obtain ⟨hd5,kc,hchg,hg⟩ :=HN.out
            refine ⟨m,x1,by omega,rfl,rfl,.inr ⟨Nat.le_refl _,_,_,hd5,fun j' hj' => ?_⟩,hchg.trans kc fun p o _ h => ?_⟩
            · subst hj';exact hg
            · rcases h with h | h
              · exact .inr (.inl h.1)
              · exact .inr (.inr h)
          case measure => simp [intOf] <;> omega
      · obtain ⟨j,rfl⟩ : ∃ j,k = j + 1 :=⟨k - 1,by omega⟩
        obtain ⟨hcase,hchg⟩ :=HC.out
        obtain ⟨us,qs,hd,hjn⟩ : ∃ us qs,DivAt wr bq oq bu ou n m (val W64 us0) (val W64 vs) (j + 1) us qs ∧ us[j + n]? = some ujn :=by
          rcases hcase with ⟨h,_⟩ | ⟨-,us,qs,hd,hjn⟩
          · omega
          · exact ⟨us,qs,hd,hjn j rfl⟩
        clear hcase
        obtain ⟨hu,hbu,hwu,hv,hbv,hsm,hq,hst,hl,dq,du,dv,hv1,hv0,hut⟩ :=HU.out
        obtain ⟨f1,f2,f3,f4,f5,f6,f7⟩ :=F.out
        have hu1 : us[j + n - 1]? = some (us[j + n - 1]'(by have :=hd.len;omega)) :=List.getElem?_eq_getElem _
        have hu0 : us[j + n - 2]? = some (us[j + n - 2]'(by have :=hd.len;omega)) :=List.getElem?_eq_getElem _
        generalize us[j + n - 1]'_ = u1 at hu1
        generalize us[j + n - 2]'_ = u0 at hu0
        have cu1 :=hd.row _ _ hu1
        have cu0 :=hd.row _ _ hu0
        have hujb : ujn < W64 :=hd.lt _ (List.mem_of_getElem? hjn)
        have hu1b : u1 < W64 :=hd.lt _ (List.mem_of_getElem? hu1)
        have hu0b : u0 < W64 :=hd.lt _ (List.mem_of_getElem? hu0)
        have hv1b : v1 < W64 :=hbv _ (List.mem_of_getElem? hv1)
        have hv0b : v0 < W64 :=hbv _ (List.mem_of_getElem? hv0)
        have fv : Row .u64 wr bv ov vs :=f7.chg hchg fun i hi h => by
          rcases h with h | h | ⟨h1,h2,h3⟩
          · exact dqv h.symm
          · exact duv h.symm
          · rcases f4 with h4 | h4
            · exact h4 h1
            · omega
        have cv0r :=fv _ _ hv0
        -- the numbers
        obtain ⟨W,hW⟩ : ∃ W,val W64 ((us.drop j).take (n + 1)) = W :=⟨_,rfl⟩
        obtain ⟨V,hV⟩ : ∃ V,val W64 vs = V :=⟨_,rfl⟩
        have hguess : (ujn < v1 ∧ W / V ≤ ((ujn * W64 + u1) * W64 + u0) / (v1 * W64 + v0) ∧ ((ujn * W64 + u1) * W64 + u0) / (v1 * W64 + v0) * V < W + V ∧ ((ujn * W64 + u1) * W64 + u0) / (v1 * W64 + v0) < W64) ∨ (ujn = v1 ∧ W / V ≤ W64 - 1 ∧ (W64 - 1) * V < W + V) :=by
          obtain ⟨n2,rfl⟩ : ∃ n2,n = n2 + 2 :=⟨n - 2,by omega⟩
          have hwl : ((us.drop j).take (n2 + 3)).length = n2 + 3 :=by have :=hd.len;simp;omega
          have t3 :=val_top3 (B :=W64) (k :=n2) hwl
          have t2 :=val_top2 (B :=W64) (k :=n2) (vs :=vs) hlv
          have l1 :=val_lt (B :=W64) (xs :=((us.drop j).take (n2 + 3)).take n2) (fun x hx => hd.lt x (List.mem_of_mem_drop (List.mem_of_mem_take (List.mem_of_mem_take hx))))
          have l2 :=val_lt (B :=W64) (xs :=vs.take n2) (fun x hx => hbv x (List.mem_of_mem_take hx))
          have lw :=val_lt (B :=W64) (xs :=vs) hbv
          have L1 : (((us.drop j).take (n2 + 3)).take n2).length = n2 :=by rw [List.length_take,hwl];omega
          have L2 : (vs.take n2).length = n2 :=by rw [List.length_take,hlv];omega
          rw [L1] at l1
          rw [L2] at l2
          have g2 : ((us.drop j).take (n2 + 3))[n2 + 2] = ujn :=by
            simp only [List.getElem_take,List.getElem_drop]
            exact Option.some.inj ((List.getElem?_eq_getElem _).symm.trans hjn)
          have g1' : ((us.drop j).take (n2 + 3))[n2 + 1] = u1 :=by
            simp only [List.getElem_take,List.getElem_drop]
            exact Option.some.inj ((List.getElem?_eq_getElem _).symm.trans hu1)
          have g0 : ((us.drop j).take (n2 + 3))[n2] = u0 :=by
            simp only [List.getElem_take,List.getElem_drop]
            exact Option.some.inj ((List.getElem?_eq_getElem _).symm.trans hu0)
          have gv1 : vs[n2 + 1] = v1 :=Option.some.inj ((List.getElem?_eq_getElem _).symm.trans hv1)
          have gv0 : vs[n2] = v0 :=Option.some.inj ((List.getElem?_eq_getElem _).symm.trans hv0)
          rw [g2,g1',g0,hW] at t3
          rw [gv1,gv0,hV] at t2
          have hwin :=window_val (B :=W64) (us :=us) (j :=j) (n :=n2 + 3) (by have :=hd.len;omega)
          have hsml :=hd.small
          rw [hV,Nat.pow_succ] at hsml
          rw [hV,hlv] at lw
          have hE : V * W64 < W64 ^ (n2 + 3) :=by
            rw [Nat.pow_succ];exact Nat.mul_lt_mul_of_pos_right lw (by unfold W64;omega)
          have hsw :=window_small hwin hsml hE
          rw [hW] at hsw
          have hP : 0 < W64 ^ n2 :=Nat.pow_pos (by unfold W64;omega)
          have hw1 : 1 < W64 :=by unfold W64;omega
          generalize W64 ^ n2 = P at *
          generalize val W64 (((us.drop j).take (n2 + 3)).take n2) = A at *
          generalize val W64 (vs.take n2) = Bv at *
          rcases Nat.lt_or_ge ujn v1 with h | h
          · exact .inl ⟨h,Plain.guess_three hP t3 l1 t2 l2 hu1b hu0b (by omega) h⟩
          · have hle : ujn ≤ v1 :=top_le t3 t2 l2 hv0b hsw.2
            obtain rfl : ujn = v1 :=by omega
            exact .inr ⟨rfl,Plain.guess_top hP t3 t2 l2 hv0b hnorm hw1 hsw.2⟩
        have e1 : (((j + 1 : Nat) : Int) - 1) = (j : Int) :=by omega
        rw [e1]
        have HG :=Lib.hid (And.intro hguess (And.intro hd (And.intro hchg (And.intro hjn (And.intro hu1 (And.intro hu0 (And.intro fv (And.intro hW hV))))))))
        clear hguess hd hchg hjn hu1 hu0 fv hW hV hu hbu hwu hv hbv hsm hq hst hl dq du dv hv1 hv0 hut f1 f5 f6 f7
        go_upto_if 51 with fail
        go_cut [15] from 45 to 200 (fun q wx => wr = wx ∧ ∃ qh : Nat,q = .int .u64 qh ∧ W / V ≤ qh ∧ qh * V < W + V ∧ qh < W64)
        case first =>
          obtain ⟨hguess,hrest⟩ :=HG.out
          rcases hguess with ⟨hlt,a1,a2,a3⟩ | ⟨heq,a1,a2⟩
          · have hv10 : v1 ≠ 0 :=by omega
            have hdw :=divWW ujn u1 v1 hv1b hv10 hlt hu1b
            have hq0 : (ujn * W64 + u1) / v1 < W64 :=by
              rw [Nat.div_lt_iff_lt_mul (by omega)]
              have :=Nat.mul_le_mul_right W64 (show ujn + 1 ≤ v1 from hlt)
              rw [Nat.add_mul,Nat.one_mul,Nat.mul_comm v1] at this
              omega
            have hr0 : (ujn * W64 + u1) % v1 < v1 :=Nat.mod_lt _ (by omega)
            have hgs :=Plain.guess_start (b :=W64) (u2 :=ujn * W64 + u1) (u1 :=u0) (v1 :=v1) (v0 :=v0) (by omega) hu0b
            have hdm :=Nat.div_add_mod (ujn * W64 + u1) v1
            have hu2 : ujn * W64 + u1 < v1 * W64 + v0 :=by
              have :=Nat.mul_le_mul_right W64 (show ujn + 1 ≤ v1 from hlt)
              rw [Nat.add_mul,Nat.one_mul] at this
              omega
            obtain ⟨Q2,hQ2⟩ : ∃ Q,((ujn * W64 + u1) * W64 + u0) / (v1 * W64 + v0) = Q :=⟨_,rfl⟩
            rw [hQ2] at a1 a2 a3
            obtain ⟨U2,hU2⟩ : ∃ U2,ujn * W64 + u1 = U2 :=⟨_,rfl⟩
            rw [hU2] at hQ2 hgs hdm hu2 hdw hq0 hr0
            generalize hqq : U2 / v1 = q0 at *
            generalize hrr : U2 % v1 = r0 at *
            have hG : GuessAt W64 U2 u0 v1 v0 q0 r0 :=⟨by rw [Nat.mul_comm];exact hdm,hgs⟩
            have hmw :=mulWW q0 v0 hq0 hv0b
            have hne : ((ujn : Int) == (v1 : Int)) = false :=by simp;omega
            have HH :=Lib.hid (And.intro hG (And.intro a1 (And.intro a2 (And.intro a3 (And.intro hQ2 (And.intro hu2 hv10))))))
            clear hG a1 a2 a3 hQ2 hU2 hu2 hqq hrr hdm hgs hrest hlt
            go_upto_block 2 with (first
              | (go_at_call 228;refine (hdw _).mono ?_;rintro e w' ⟨rfl,hw⟩;rw [hw];clear hw)
              | (go_at_call 141;refine (hmw _).mono ?_;rintro e w' ⟨rfl,hw⟩;rw [hw];clear hw))
            go_wp2_with fail
            go_loop [15,16,18,19] (fun t15 t16 t18 t19 => ∃ q r : Nat,t15 = .int .u64 q ∧ t16 = .int .u64 r ∧ t18 = .int .u64 ((q * v0 / W64 : Nat) : Int) ∧ t19 = .int .u64 ((q * v0 % W64 : Nat) : Int) ∧ GuessAt W64 U2 u0 v1 v0 q r ∧ q < W64 ∧ r < W64) (fun t15 _ _ _ => (intOf t15).toNat)
            case atStart => exact ⟨q0,r0,rfl,rfl,rfl,rfl,HH.out.1,hq0,by omega⟩
            case round =>
              obtain ⟨q,r,rfl,rfl,rfl,rfl,hg,hq,hr⟩ :=hrel
              have hvp : 0 < v1 * W64 + v0 :=by have :=HH.out.2.2.2.2.2.1;omega
              have hgt :=greaterThan (q * v0 / W64) (q * v0 % W64) r u0 (Nat.mod_lt _ (by unfold W64;omega)) hu0b
              rw [Nat.mul_comm (q * v0 / W64) W64,Nat.div_add_mod] at hgt
              have hx1 : q * v0 / W64 < W64 :=by
                rw [Nat.div_lt_iff_lt_mul (by unfold W64;omega)]
                exact Nat.lt_of_le_of_lt (Nat.mul_le_mul_right _ (Nat.le_of_lt hq)) (Nat.mul_lt_mul_of_pos_left hv0b (by unfold W64;omega))
              have hx2 : q * v0 % W64 < W64 :=Nat.mod_lt _ (by unfold W64;omega)
              have hxs :=two_less (W :=W64) (X :=q * v0) (v :=v0) hv0b
              generalize hAN : q * v0 / W64 = an at *
              generalize hBN : q * v0 % W64 = bn at *
              obtain ⟨qi,hqi⟩ : ∃ i : Int,(q : Int) = i :=⟨_,rfl⟩
              obtain ⟨ri,hri⟩ : ∃ i : Int,(r : Int) = i :=⟨_,rfl⟩
              obtain ⟨vi,hvi⟩ : ∃ i : Int,(v1 : Int) = i :=⟨_,rfl⟩
              obtain ⟨wi,hwi⟩ : ∃ i : Int,(v0 : Int) = i :=⟨_,rfl⟩
              obtain ⟨ai,hai⟩ : ∃ i : Int,(an : Int) = i :=⟨_,rfl⟩
              obtain ⟨bi,hbi⟩ : ∃ i : Int,(bn : Int) = i :=⟨_,rfl⟩
              rw [hai,hbi,hri] at hgt
              have b1 : 0 ≤ ri :=by omega
              have b2 : ri < 18446744073709551616 :=by unfold W64 at hr;omega
              have b3 : 0 ≤ vi :=by omega
              have b4 : vi < 18446744073709551616 :=by unfold W64 at hv1b;omega
              have b5 : 0 ≤ wi :=by omega
              have b6 : wi < 18446744073709551616 :=by unfold W64 at hv0b;omega
              have b7 : 0 ≤ qi :=by omega
              have b8 : qi < 18446744073709551616 :=by unfold W64 at hq;omega
              have b9 : 0 ≤ ai :=by omega
              have b10 : ai < 18446744073709551616 :=by unfold W64 at hx1;omega
              have b11 : 0 ≤ bi :=by omega
              have b12 : bi < 18446744073709551616 :=by unfold W64 at hx2;omega
              have HA :=Lib.hid (And.intro hqi (And.intro hri (And.intro hvi (And.intro hwi (And.intro hai (And.intro hbi (And.intro hg (And.intro hq (And.intro hr (And.intro hxs (And.intro hvp (And.intro hAN hBN))))))))))))
              rw [hqi,hri,hvi,hwi,hai,hbi]
              by_cases hc : r * W64 + u0 < q * v0
              · obtain ⟨hpos,hgn⟩ :=guess_step (b :=W64) hvp HH.out.2.2.2.2.2.1 hu0b hg (.inr (by rw [Nat.mul_comm];exact hc))
                have HN :=Lib.hid (And.intro hgn (And.intro hpos hc))
                rw [decide_eq_true hc] at hgt
                have c1 : 0 < qi :=by omega
                have hvx : v0 ≤ q * v0 :=Nat.le_mul_of_pos_left _ hpos
                have hx :=hxs hvx
                by_cases hov : W64 ≤ r + v1
                · have hwr : IntKind.u64.wrap (ri + vi) = ri + vi - 18446744073709551616 :=by rw [wrap_u64];unfold W64 at hov;omega
                  have c2 : ri + vi - 18446744073709551616 < vi :=by omega
                  have HO :=Lib.hid hov
                  clear hc hgn hpos hqi hri hvi hwi hai hbi hg hq hr hxs hvp hx hov hvx hx1 hx2 hAN hBN
                  go_wp2_with (go_at_call 229;refine (hgt _).mono ?_;rintro e w' ⟨rfl,hw⟩;rw [hw];clear hw)
                  obtain ⟨hqi,hri,hvi,hwi,hai,hbi,hg,hq,hr,hxs,hvp,hAN,hBN⟩ :=HA.out
                  subst hvi hwi hri hai hbi
                  go_meet
                  obtain ⟨m1,m2,m3,m4,m5,m6,m7⟩ :=HH.out
                  obtain ⟨hgn,hpos,hc⟩ :=HN.out
                  have he :=guess_end (b :=W64) hvp hv0b hgn (.inl ⟨by omega,HO.out⟩)
                  rw [m5] at he
                  have E : ∃ qh : Nat,Value.int IntKind.u64 (qi - 1) = .int .u64 qh ∧ W / V ≤ qh ∧ qh * V < W + V ∧ qh < W64 :=⟨q - 1,by rw [← hqi];congr 1;omega,by rw [he];exact ⟨m2,m3,m4⟩⟩
                  first | exact ⟨rfl,E⟩ | exact E
                · have hwr : IntKind.u64.wrap (ri + vi) = ri + vi :=wrap_u64_in _ (by omega) (by unfold W64 at hov;omega)
                  have c2 : ¬ ri + vi < vi :=by omega
                  by_cases hbw : bn < v0
                  · obtain ⟨x1,x2,x3⟩ :=hx.1 hbw
                    have c3 : bi < wi :=by omega
                    have c4 : 0 < ai :=by omega
                    have hwb : IntKind.u64.wrap (bi - wi) = bi - wi + 18446744073709551616 :=by rw [wrap_u64];omega
                    clear HN
                    have HN :=Lib.hid (And.intro hgn (And.intro hpos (And.intro hc (And.intro hov (And.intro x2 x3)))))
                    clear hc hgn hpos hqi hri hvi hwi hai hbi hg hq hr hxs hvp hx hov hvx hx1 hx2 hAN hBN hbw x1 x2 x3
                    go_wp2_with (go_at_call 229;refine (hgt _).mono ?_;rintro e w' ⟨rfl,hw⟩;rw [hw];clear hw)
                    go_round
                    case rel =>
                      obtain ⟨hqi,hri,hvi,hwi,hai,hbi,hg,hq,hr,hxs,hvp,hAN,hBN⟩ :=HA.out
                      obtain ⟨hgn,hpos,hc,hov,e1,e2⟩ :=HN.out
                      have hm1 : (q - 1) * v0 = q * v0 - v0 :=by rw [Nat.sub_mul,Nat.one_mul]
                      exact ⟨q - 1,r + v1,by rw [← hqi];congr 1;omega,by rw [← hri,← hvi];congr 1,by rw [hm1,e1];congr 1;omega,by rw [hm1,e2];congr 1;unfold W64 at *;omega,hgn,by omega,by omega⟩
                    case measure =>
                      obtain ⟨hqi,hri,hvi,hwi,hai,hbi,hg,hq,hr,hxs,hvp,hAN,hBN⟩ :=HA.out
                      simp [intOf];omega
                  · obtain ⟨x2,x3⟩ :=hx.2 (by omega)
                    have c3 : ¬ bi < wi :=by omega
                    clear HN
                    have HN :=Lib.hid (And.intro hgn (And.intro hpos (And.intro hc (And.intro hov (And.intro x2 x3)))))
                    clear hc hgn hpos hqi hri hvi hwi hai hbi hg hq hr hxs hvp hx hov hvx hx1 hx2 hAN hBN hbw x2 x3
                    go_wp2_with (go_at_call 229;refine (hgt _).mono ?_;rintro e w' ⟨rfl,hw⟩;rw [hw];clear hw)
                    go_round
                    case rel =>
                      obtain ⟨hqi,hri,hvi,hwi,hai,hbi,hg,hq,hr,hxs,hvp,hAN,hBN⟩ :=HA.out
                      obtain ⟨hgn,hpos,hc,hov,e1,e2⟩ :=HN.out
                      have hm1 : (q - 1) * v0 = q * v0 - v0 :=by rw [Nat.sub_mul,Nat.one_mul]
                      exact ⟨q - 1,r + v1,by rw [← hqi];congr 1;omega,by rw [← hri,← hvi];congr 1,by rw [hm1,e1];congr 1;omega,by rw [hm1,e2];congr 1;unfold W64 at *;omega,hgn,by omega,by omega⟩
                    case measure =>
                      obtain ⟨hqi,hri,hvi,hwi,hai,hbi,hg,hq,hr,hxs,hvp,hAN,hBN⟩ :=HA.out
                      simp [intOf];omega
              · rw [decide_eq_false hc] at hgt
                have HN :=Lib.hid hc
                clear hc hqi hri hvi hwi hai hbi hg hq hr hxs hvp hx1 hx2 hAN hBN
                go_wp2_with (go_at_call 229;refine (hgt _).mono ?_;rintro e w' ⟨rfl,hw⟩;rw [hw];clear hw)
                obtain ⟨hqi,hri,hvi,hwi,hai,hbi,hg,hq,hr,hxs,hvp,hAN,hBN⟩ :=HA.out
                subst hvi hwi hri hai hbi
                go_meet
                obtain ⟨m1,m2,m3,m4,m5,m6,m7⟩ :=HH.out
                have hc :=HN.out
                have he :=guess_end (b :=W64) hvp hv0b hg (.inr (by rw [Nat.mul_comm W64 r];exact Nat.le_of_not_lt hc))
                rw [m5] at he
                have E : ∃ qh : Nat,Value.int IntKind.u64 (qi) = .int .u64 qh ∧ W / V ≤ qh ∧ qh * V < W + V ∧ qh < W64 :=⟨q,by rw [← hqi],by rw [he];exact ⟨m2,m3,m4⟩⟩
                first | exact ⟨rfl,E⟩ | exact E
          · subst heq
            clear hrest
            go_wp2_with fail
            go_meet
            have E : ∃ qh : Nat,Value.int IntKind.u64 18446744073709551615 = .int .u64 qh ∧ W / V ≤ qh ∧ qh * V < W + V ∧ qh < W64 :=⟨W64 - 1,by unfold W64;rfl,a1,a2,by unfold W64;omega⟩
            first | exact ⟨rfl,E⟩ | exact E
        case rest =>
          obtain ⟨rfl,qh,rfl,p1,p2,p3⟩ :=hcut
          obtain ⟨hguess,hd,hchg,hjn,hu1,hu0,fv,hW,hV⟩ :=HG.out
          obtain ⟨hu,hbu,hwu,hv,hbv,hsm,hq,hst,hl,dq,du,dv,hv1,hv0,hut⟩ :=HU.out
          obtain ⟨f1,f2,f3,f4,f5,f6,f7⟩ :=F.out
          have hwt :=f6.chg hchg
          have hmul :=fun cz cx => mulAddVWW_g wr (some ⟨bt,ot,none⟩) (some ⟨bv,ov,none⟩) bt ot bv ov n cz cx qh 0 vs (by omega) (fun _ => rfl) (fun _ => rfl) fv hlv hbv p3 (by unfold W64;omega) (fun i hi => hwt i (by omega)) (f4.elim .inl fun h => .inr (.inr h))
          obtain ⟨⟨x,hx⟩,hxf⟩ :=hwt n (by omega)
          have HR :=Lib.hid (And.intro p1 (And.intro p2 p3))
          clear hu hbu hwu hv hbv hsm hq hst hl dq du dv hv1 hv0 hut f1 f5 f6 f7 hguess hd hchg hjn hu1 hu0 fv hW hV hwt p1 p2 p3
          go_wp2_with (first
            | (go_at_call 171;refine mulAddVWW _ _ _ _ _ _ ?_;refine (hmul _ _).mono ?_;rintro e w3 ⟨zs,cc,rfl,z1,z2,z3,z4,z5,z6,z7⟩;refine ⟨_,rfl,?_⟩;have hx3 :=z6.at hx (fun h => by have :=h.2.2;omega);have hxf3 :=(z6.frz bt (ot + n) (lt_of_cell hx)).trans hxf;have Z :=Lib.hid (And.intro z1 (And.intro z2 (And.intro z3 (And.intro z4 (And.intro z5 (And.intro z6 z7))))));clear z1 z2 z3 z4 z5 z6 z7))
          obtain ⟨z1,z2,z3,z4,z5,z6,z7⟩ :=Z.out
          obtain ⟨hguess,hd,hchg,hjn,hu1,hu0,fv,hW,hV⟩ :=HG.out
          obtain ⟨hu,hbu,hwu,hv,hbv,hsm,hq,hst,hl,dq,du,dv,hv1,hv0,hut⟩ :=HU.out
          obtain ⟨p1,p2,p3⟩ :=HR.out
          have s4 :=Chg.setCell w3 bt (ot + n) (.int .u64 cc) (In bt ot (n + 1)) (fun _ => ⟨rfl,by omega,by omega⟩)
          have k4 : Chg wr (w3.setCell ⟨bt,ot + n,none⟩ (.int .u64 cc)) (In bt ot (n + 1)) :=(z6.inMono (by omega)).trans s4 fun _ _ _ h => h
          have rz : Row .u64 (w3.setCell ⟨bt,ot + n,none⟩ (.int .u64 cc)) bt ot (zs ++ [cc]) :=by
            have :=Row.store z2 cc (by rw [z1];exact ⟨x,hx3⟩)
            rwa [z1] at this
          generalize hw4 : w3.setCell ⟨bt,ot + n,none⟩ (.int .u64 cc) = w4 at *
          have lz : (zs ++ [cc]).length = n + 1 :=by simp [z1]
          have bz : Lt W64 (zs ++ [cc]) :=z3.snoc z5
          have vz : val W64 (zs ++ [cc]) = qh * V :=by
            rw [val_append,z1,← hV,Nat.mul_comm qh];simp only [val,Nat.mul_zero,Nat.add_zero] at z4 ⊢;exact z4
          generalize zs ++ [cc] = ys at *
          have ru : Row .u64 w4 bu ou us :=hd.row.chg k4 fun _ _ h => f3 h.1.symm
          have hul :=hd.len
          have hwl : ((us.drop j).take (n + 1)).length = n + 1 :=by simp;omega
          have wu4 : Wr w4 bu (ou + j) (n + 1) :=by
            have :=((((hwu.chg K).chg hchg).chg k4).sub j (n + 1) (by omega))
            exact this
          have hsub :=fun cz cx cy => subVV_g w4.drew (some ⟨bu,ou + j,none⟩) (some ⟨bu,ou + j,none⟩) (some ⟨bt,ot,none⟩) bu (ou + j) bu (ou + j) bt ot (n + 1) cz cx cy ((us.drop j).take (n + 1)) ys (by omega) (fun _ => rfl) (fun _ => rfl) (fun _ => rfl) ((ru.drop j).take (n + 1)) rz hwl lz (fun x hx => hd.lt x (List.mem_of_mem_drop (List.mem_of_mem_take hx))) bz wu4 (.inr (.inl (Nat.le_refl _))) (.inl f3)
          have HZ :=Lib.hid (And.intro hd (And.intro hchg (And.intro k4 (And.intro vz (And.intro hwl (And.intro hul (And.intro fv (And.intro wu4 (And.intro ru (And.intro hwu (And.intro hW (And.intro hV (And.intro hbv (And.intro hq hjn))))))))))))))
          clear hguess hd hchg hjn hu1 hu0 fv hW hV hu hbu hwu hv hbv hsm hq hst hl dq du dv hv1 hv0 hut z1 z2 z3 z4 z5 z6 z7 s4 k4 rz lz bz vz ru wu4 hwl hw4 p1 p2 p3
          go_upto_if 148 with (first
            | (refine wp_region_lit_segs (id :=28) [[0,1,2,3,4,5,6,7,8,9,10,11,12,13,14,15,16]] mixed (by kernel_rfl) ?_;simp only [wpSegsL,gaC,gaN,lZ0,lS0,coS])
            | refine ⟨by kernel_rfl,?_⟩
            | (go_at_call 137;refine subVV _ _ _ _ _ ?_;refine (hsub _ _ _).mono ?_;rintro e w5 ⟨ts,c5,rfl,y1,y2,y3,y4,y5,y6,y7⟩;refine ⟨_,rfl,?_⟩;have Y :=Lib.hid (And.intro y1 (And.intro y2 (And.intro y3 (And.intro y4 (And.intro y5 (And.intro y6 y7))))));clear y1 y2 y3 y4 y5 y6 y7))
          obtain ⟨y1,y2,y3,y4,y5,y6,y7⟩ :=Y.out
          obtain ⟨hd,hchg,k4,vz,hwl,hul,fv,wu4,ru,hwu,hW,hV,hbv,hq,hjn⟩ :=HZ.out
          obtain ⟨p1,p2,p3⟩ :=HR.out
          have y6 :=y6.of_drew
          have hVlt :=val_lt (B :=W64) (xs :=vs) hbv
          rw [hlv,hV] at hVlt
          have hV0 : 0 < V :=by
            have :=HU.out.2.2.2.2.2.1
            rw [hV] at this
            rcases Nat.eq_zero_or_pos V with h | h
            · rw [h] at this;omega
            · exact h
          have hR :=val_lt (B :=W64) (xs :=ts) y3
          rw [y1] at hR
          rw [vz,hW] at y4
          have hdone :=Plain.digit_done hV0 p1 p2 hR y4 y5
          have hjm : ((j : Int) == (m : Int)) = false :=by simp;omega
          have wq5 : Wr w5 bq oq m :=(((hq.chg K).chg hchg).chg k4).chg y6
          have dtu : bt ≠ bu :=F.out.2.2.1
          have dtq : bt ≠ bq :=F.out.2.1
          have kb : Chg wr w5 (fun p o => In bu (ou + j) (n + 1) p o ∨ (p = bq ∧ o = oq + j) ∨ In bt ot (n + 1) p o) :=(k4.mono fun _ _ _ h => Or.inr (Or.inr h)).trans y6 fun _ _ _ h => Or.inl h
          have hsl : ∀ zs : List Nat,zs.length = n + 1 → ∀ i x,zs[i]? = some x → (us.take j ++ (zs ++ us.drop (j + (n + 1))))[j + i]? = some x :=by
            intro zs hz i x hx
            have hi : i < zs.length :=(List.getElem?_eq_some_iff.1 hx).1
            rw [List.getElem?_append_right (by simp;omega),List.length_take,Nat.min_eq_left (by omega),Nat.add_sub_cancel_left,List.getElem?_append_left hi,hx]
          have hnext :=fun (w' : World) (zs : List Nat) => @DivAt.next wr w' bq oq bu ou bt n m _ V j W us qs zs vs (hV ▸ hd) (by omega) hV hlv hbv hV0 hW
          obtain ⟨Q,hQ⟩ : ∃ Q,W / V = Q :=⟨_,rfl⟩
          rw [hQ] at hdone hnext
          obtain ⟨⟨xq,cxq⟩,fxq⟩ :=wq5 j (by omega)
          have lq5 :=lt_of_cell cxq
          rcases (show c5 = 0 ∨ c5 = 1 by omega) with rfl | rfl
          · obtain ⟨rfl,hts⟩ :=hdone.1 rfl
            have gx : ts[n - 1]? = some (ts[n - 1]'(by omega)) :=List.getElem?_eq_getElem _
            generalize ts[n - 1]'_ = x1 at gx
            have cx :=y2 _ _ gx
            rw [show ou + j + (n - 1) = ou + (j + n - 1) by omega] at cx
            have HN :=Lib.hid (And.intro y1 (And.intro y2 (And.intro y3 (And.intro hts (And.intro y6 (And.intro hnext (And.intro hsl (And.intro gx (And.intro kb (And.intro hchg (And.intro dtq (And.intro dtu hV))))))))))))
            clear y1 y2 y3 y4 y5 y6 y7 hd hchg k4 vz hwl hul fv wu4 ru hwu hW hV hbv hq hjn p1 p2 p3 hVlt hV0 hR hdone wq5 kb hsl hnext gx dtq dtu hts
            go_wp2_with fail
            go_roundw
            case rel =>
              obtain ⟨y1,y2,y3,hts,y6,hnext,hsl,gx,kb,hchg,dtq,dtu,hV⟩ :=HN.out
              have s6 :=Chg.setCell w5 bq (oq + j) (.int .u64 qh) (fun p o => p = bq ∧ o = oq + j) (fun _ => ⟨rfl,rfl⟩)
              have kc :=kb.trans s6 fun _ _ _ h => Or.inr (Or.inl h)
              have hn6 :=hnext _ ts (kc.mono fun _ _ _ h => h.imp id (Or.imp id (·.1))) dqu dtq dtu (y2.chg s6 fun i hi h => dqu h.1.symm) y1 y3 hts (cell_setCell_eq cxq)
              refine ⟨j,x1,by omega,rfl,rfl,.inr ⟨by omega,_,_,hV.symm ▸ hn6,fun j' hj' => ?_⟩,hchg.trans kc fun p o _ h => ?_⟩
              · subst hj'
                rw [show j' + n = (j' + 1) + (n - 1) by omega]
                exact hsl ts y1 _ _ gx
              · rcases h with h | h | h
                · exact .inr (.inl h.1)
                · exact .inl h.1
                · exact .inr (.inr h)
            case measure => simp [intOf] <;> omega
          · obtain ⟨rfl,hts⟩ :=hdone.2 rfl
            have gn : ts[n]? = some (ts[n]'(by omega)) :=List.getElem?_eq_getElem _
            generalize hT : ts[n]'_ = tn at gn
            have cn :=y2 _ _ gn
            rw [show ou + j + n = ou + (j + n) by omega] at cn
            have wu5 :=wu4.chg y6
            have fn5 :=(wu5 n (by omega)).2
            rw [show ou + j + n = ou + (j + n) by omega] at fn5
            have tnb : tn < W64 :=y3 _ (List.mem_of_getElem? gn)
            have vts : val W64 ts = val W64 (ts.take n) + W64 ^ n * tn :=by
              rw [val_cut (B :=W64) (xs :=ts) (n :=n) (by omega),List.drop_eq_getElem_cons (by omega),hT,List.drop_eq_nil_of_le (by omega)]
              simp [val]
            have f4 :=F.out.2.2.2.1
            have fv5 : Row .u64 w5 bv ov vs :=(fv.chg k4 fun i hi h => by
              rcases f4 with h4 | h4
              · exact h4 h.1
              · have :=h.2.1;omega).chg y6 fun i hi h => duv h.1.symm
            have hadd :=fun cz cx cy => addVV_g w5.drew (some ⟨bu,ou + j,none⟩) (some ⟨bu,ou + j,none⟩) (some ⟨bv,ov,none⟩) bu (ou + j) bu (ou + j) bv ov n cz cx cy (ts.take n) vs (by omega) (fun _ => rfl) (fun _ => rfl) (fun _ => rfl) (y2.take n) fv5 (by rw [List.length_take,y1];omega) hlv (fun x hx => y3 x (List.mem_of_mem_take hx)) hbv (fun i hi => wu5 i (by omega)) (.inr (.inl (Nat.le_refl _))) (.inl fun h => duv h.symm)
            have hWV : W % V < W64 ^ n :=Nat.lt_trans (Nat.mod_lt _ hV0) hVlt
            rw [vts,Nat.pow_succ] at hts
            have HN :=Lib.hid (And.intro hWV (And.intro hts (And.intro hnext (And.intro hsl (And.intro kb (And.intro hchg (And.intro dtq (And.intro dtu (And.intro hV tnb)))))))))
            clear y1 y2 y3 y4 y5 y6 y7 hd hchg k4 vz hwl hul fv wu4 ru hwu hW hV hbv hq hjn p1 p2 p3 hVlt hV0 hR hdone wq5 kb hsl hnext dtq dtu hts wu5 vts fv5 f4 hT gn hWV tnb
            go_upto_if 165 with (first
              | (refine wp_region_lit_segs (id :=30) [[0,1,2,3,4,5,6,7,8,9,10,11,12,13,14]] mixed (by kernel_rfl) ?_;simp only [wpSegsL,gaC,gaN,lZ0,lS0,coS])
              | refine ⟨by kernel_rfl,?_⟩
              | (go_at_call 135;refine addVV _ _ _ _ _ ?_;refine (hadd _ _ _).mono ?_;rintro e w6 ⟨zs,c6,rfl,z1,z2,z3,z4,z5,z6,z7⟩;refine ⟨_,rfl,?_⟩;have Z :=Lib.hid (And.intro z1 (And.intro z2 (And.intro z3 (And.intro z4 (And.intro z5 (And.intro z6 z7))))));clear z1 z2 z3 z4 z5 z6 z7))
            obtain ⟨z1,z2,z3,z4,z5,z6,z7⟩ :=Z.out
            obtain ⟨hWV,hts,hnext,hsl,kb,hchg,dtq,dtu,hV,tnb⟩ :=HN.out
            have z6 :=z6.of_drew
            have lz :=val_lt (B :=W64) (xs :=zs) z3
            rw [z1] at lz
            rw [hV] at z4
            obtain ⟨e1,e2⟩ :=add_back hts z4 hWV lz
            have gx : zs[n - 1]? = some (zs[n - 1]'(by omega)) :=List.getElem?_eq_getElem _
            generalize zs[n - 1]'_ = x1 at gx
            have cx :=z2 _ _ gx
            rw [show ou + j + (n - 1) = ou + (j + n - 1) by omega] at cx
            have cn6 :=z6.at cn (fun h => by have :=h.2.2;omega)
            have fn6 :=(z6.frz bu (ou + (j + n)) (lt_of_cell cn)).trans fn5
            have cxq6 :=z6.at cxq (fun h => dqu h.1)
            have fxq6 :=(z6.frz bq (oq + j) lq5).trans fxq
            have hwr : IntKind.u64.wrap ((tn : Int) + (c6 : Int)) = 0 :=by rw [wrap_u64];unfold W64 at e1;omega
            have hqw : ((Q + 1 : Nat) : Int) - 1 = (Q : Int) :=by omega
            have hQw : IntKind.u64.wrap (Q : Int) = (Q : Int) :=wrap_u64_in _ (by omega) (by have :=HR.out.2.2;unfold W64 at this;omega)
            have cx7 : (w6.setCell ⟨bu,ou + (j + n),none⟩ (.int .u64 0)).cell? ⟨bu,ou + (j + n - 1),none⟩ = some (.int .u64 x1) :=(cell_setCell_ne (by simp;omega)).trans cx
            have cq7 : (w6.setCell ⟨bu,ou + (j + n),none⟩ (.int .u64 0)).cell? ⟨bq,oq + j,none⟩ = some xq :=(cell_setCell_ne (by simp;omega)).trans cxq6
            have HM :=Lib.hid (And.intro z1 (And.intro z2 (And.intro z3 (And.intro z6 (And.intro e2 (And.intro hnext (And.intro hsl (And.intro gx (And.intro kb (And.intro hchg (And.intro dtq (And.intro dtu hV))))))))))))
            clear z1 z2 z3 z4 z5 z6 z7 hWV hts hnext hsl kb hchg dtq dtu hV tnb lz e1 e2 gx cxq cn fn5
            go_wp2_with fail
            go_roundw
            case rel =>
              obtain ⟨z1,z2,z3,z6,e2,hnext,hsl,gx,kb,hchg,dtq,dtu,hV⟩ :=HM.out
              have s7 :=Chg.setCell w6 bu (ou + (j + n)) (.int .u64 0) (In bu (ou + j) (n + 1)) (fun _ => ⟨rfl,by omega,by omega⟩)
              have rz : Row .u64 (w6.setCell ⟨bu,ou + (j + n),none⟩ (.int .u64 0)) bu (ou + j) (zs ++ [0]) :=by
                have :=Row.store z2 0 (by rw [z1,show ou + j + n = ou + (j + n) by omega];exact ⟨_,cn6⟩)
                rw [z1,show ou + j + n = ou + (j + n) by omega] at this
                exact this
              have s8 :=Chg.setCell (w6.setCell ⟨bu,ou + (j + n),none⟩ (.int .u64 0)) bq (oq + j) (.int .u64 Q) (fun p o => p = bq ∧ o = oq + j) (fun _ => ⟨rfl,rfl⟩)
              have kc :=((kb.trans z6 fun _ _ _ h => Or.inl ⟨h.1,h.2.1,by have :=h.2.2;omega⟩).trans s7 fun _ _ _ h => Or.inl h).trans s8 fun _ _ _ h => Or.inr (Or.inl h)
              have hn7 :=hnext _ (zs ++ [0]) (kc.mono fun _ _ _ h => h.imp id (Or.imp id (·.1))) dqu dtq dtu (rz.chg s8 fun i hi h => dqu h.1.symm) (by simp [z1]) (z3.snoc (by unfold W64;omega)) (by rw [val_append];simp [val];exact e2) (cell_setCell_eq cq7)
              refine ⟨j,x1,by omega,rfl,rfl,.inr ⟨by omega,_,_,hV.symm ▸ hn7,fun j' hj' => ?_⟩,hchg.trans kc fun p o _ h => ?_⟩
              · subst hj'
                rw [show j' + n = (j' + 1) + (n - 1) by omega]
                exact hsl _ (by simp [z1]) _ _ (by rw [List.getElem?_append_left (by omega)];exact gx)
              · rcases h with h | h | h
                · exact .inr (.inl h.1)
                · exact .inl h.1
                · exact .inr (.inr h)
            case measure => simp [intOf] <;> omega
end Go.Proofs.YtfmmdamgcpiciaaGreatDoor
namespace Go.Proofs.YtfmmdamgcpiciaaGreatDoor
open Go Go.RowKit
theorem val_top1 {B k : Nat} {xs : List Nat} {x : Nat} (hl : xs.length = k + 1) (hx : xs[k]? = some x) : val B xs = val B (xs.take k) + B ^ k * x :=by
  rw [val_cut (B :=B) (xs :=xs) (n :=k) (by omega),drop_get hx,List.drop_eq_nil_of_le (by omega)]
  simp [val]
theorem norm_top {yt s P Yl Y v1 Vl V : Nat} (h1 : Y = Yl + P * yt) (h2 : V = Vl + P * v1) (h3 : Vl < P) (h4 : V = Y * 2 ^ s) (h5 : W64 ≤ 2 * (yt * 2 ^ s)) : W64 ≤ 2 * v1 :=by
  rcases Nat.lt_or_ge (2 * v1) W64 with h | h
  · exfalso
    have e1 : 2 * V < P * W64 :=by
      have : P * (2 * v1 + 2) ≤ P * W64 :=Nat.mul_le_mul_left P (by unfold W64 at *;omega)
      rw [Nat.mul_add,Nat.mul_left_comm] at this
      omega
    have e2 : P * W64 ≤ P * (2 * (yt * 2 ^ s)) :=Nat.mul_le_mul_left P h5
    have e3 : P * (2 * (yt * 2 ^ s)) ≤ 2 * V :=by
      rw [h4,h1,Nat.add_mul,Nat.mul_left_comm,Nat.mul_assoc]
      omega
    omega
  · exact h
theorem small_quo {X Y N n s : Nat} (hX : X < W64 ^ N) (hY : W64 ^ (n - 1) ≤ Y) (hn : 1 ≤ n) (hN : n ≤ N) : X * 2 ^ s < Y * 2 ^ s * W64 ^ (N - n + 1) :=by
  have e : W64 ^ N = W64 ^ (n - 1) * W64 ^ (N - n + 1) :=by rw [← Nat.pow_add];congr 1;omega
  have h :=Nat.mul_le_mul_right (W64 ^ (N - n + 1)) hY
  rw [Nat.mul_right_comm]
  exact Nat.mul_lt_mul_of_pos_right (by omega) (Nat.two_pow_pos s)
theorem scaled_parts {X Y s R Q : Nat} (h1 : X * 2 ^ s = R + Q * (Y * 2 ^ s)) (h2 : R < Y * 2 ^ s) : Q = X / Y ∧ R = X % Y * 2 ^ s :=by
  have hp :=Nat.two_pow_pos s
  have h0 : 0 < Y * 2 ^ s :=by omega
  have e1 : X * 2 ^ s / (Y * 2 ^ s) = Q :=by rw [h1,Nat.add_mul_div_right _ _ h0,Nat.div_eq_of_lt h2,Nat.zero_add]
  have e2 : X * 2 ^ s % (Y * 2 ^ s) = R :=by rw [h1,Nat.add_mul_mod_self_right,Nat.mod_eq_of_lt h2]
  rw [Nat.mul_div_mul_right _ _ hp] at e1
  rw [Nat.mul_mod_mul_right] at e2
  exact ⟨e1.symm,e2.symm⟩
theorem no_carry {Z P Yl yt s Y c b : Nat} (h : Z + P * W64 * c = Y * 2 ^ s) (h1 : Y = Yl + P * yt) (h2 : Yl < P) (h3 : yt < 2 ^ b) (h4 : b + s = 64) : c = 0 :=by
  have e1 : (yt + 1) * 2 ^ s ≤ W64 :=by
    have : W64 = 2 ^ b * 2 ^ s :=by rw [← Nat.pow_add,h4]
    rw [this]
    exact Nat.mul_le_mul_right _ h3
  have e2 : Y * 2 ^ s < P * W64 :=by
    have h5 : Y < P * (yt + 1) :=by rw [Nat.mul_add];omega
    have h6 :=Nat.mul_lt_mul_of_pos_right h5 (Nat.two_pow_pos s)
    rw [Nat.mul_assoc] at h6
    exact Nat.lt_of_lt_of_le h6 (Nat.mul_le_mul_left P e1)
  rcases Nat.eq_zero_or_pos c with h | h
  · exact h
  · have :=Nat.le_mul_of_pos_right (P * W64) h
    omega
theorem Nz.top {xs : List Nat} {k x : Nat} (h : Nz xs) (hl : xs.length = k + 1) (hx : xs[k]? = some x) : x ≠ 0 :=by
  refine h x ?_
  rw [List.getLast?_eq_getElem?,hl]
  exact hx
theorem StM.lt {w : World} {bs p o : Nat} {st : St} (h : StAt w bs st) (hp : StM bs st p o) : p < w.heap.size :=by
  rcases st with _ | ⟨i,b,l,c⟩
  · cases hp;exact h.lt
  · rcases hp with rfl | ⟨rfl,_⟩
    · exact lt_of_cell (Stk.inn h)
    · exact Stk.lt h
theorem StB_ne {w : World} {bs p : Nat} {st : St} (h : StAt w bs st) (hp : StB st p) : p ≠ bs :=by
  rcases st with _ | ⟨i,b,l,c⟩
  · exact hp.elim
  · cases hp;exact fun e => (Stk.ne h).2.1 e.symm
def GotDiv (w : World) (M : Nat → Nat → Prop) (P : Nat → Prop) (X Y : Nat) (e : Ending) (w' : World) : Prop :=∃ s1 n1 c1 s2 n2 c2,e = .returned (.tuple #[.slice s1 n1 c1,.slice s2 n2 c2]) ∧ NatAt w' s1 n1 c1 (X / Y) ∧ NatAt w' s2 n2 c2 (X % Y) ∧ (∀ a,s1 = some a → w.heap.size ≤ a.block ∧ ¬ P a.block) ∧ (∀ a,s2 = some a → w.heap.size ≤ a.block ∧ ¬ P a.block) ∧ Chg w w' M
theorem divLarge (w : World) (hg : Glob w) (bs bx ox N cx by' oy n cy X Y : Nat) (xs ys : List Nat) (hst : StAt w bs none) (hn : 2 ≤ n) (hnN : n ≤ N) (hN : N < 40) (hcx : N ≤ cx) (hcxB : cx ≤ (8388607 * Big + 1099511627775)) (hcy : n ≤ cy) (hcyB : cy ≤ (8388607 * Big + 1099511627775))
    (hx : Row .u64 w bx ox xs) (hlx : xs.length = N) (hbx : Lt W64 xs) (hvx : val W64 xs = X) (hy : Row .u64 w by' oy ys) (hly : ys.length = n) (hby : Lt W64 ys) (hvy : val W64 ys = Y) (hnz : Nz ys) (dx : bx ≠ bs) (dy : by' ≠ bs) (hbs : 6 ≤ bs) :
    Calls Tryz.prog 159 #[.slice none 0 0,ptr bs,.slice none 0 0,.slice (some ⟨bx,ox,none⟩) N cx,.slice (some ⟨by',oy,none⟩) n cy] w fun e w' => ∃ st',StAt w' bs st' ∧ (∀ p,StB st' p → w.heap.size ≤ p) ∧ GotDiv w (fun p _ => p = bs) (StB st') X Y e w' :=by
  obtain ⟨n,rfl⟩ : ∃ k,n = k + 1 :=⟨n - 1,by omega⟩
  have gy : ys[n]? = some (ys[n]'(by omega)) :=List.getElem?_eq_getElem _
  generalize ys[n]'_ = yt at gy
  have cy0 :=hy _ _ gy
  have hyt0 :=hnz.top hly gy
  have hytb : yt < W64 :=hby _ (List.mem_of_getElem? gy)
  have hbl :=bitLen_bounds hytb hyt0
  have hbl2 :=bitLen_64 hytb
  have hnl :=nlz yt hytb
  obtain ⟨s,hs⟩ : ∃ s,64 - Lib.bitLen yt = s :=⟨_,rfl⟩
  rw [hs] at hnl
  have hs64 : s ≤ 63 :=by omega
  have HB : Hid (yt < 2 ^ (64 - s)) :=Lib.hid (by have :=hbl.2.2;rwa [show 64 - s = Lib.bitLen yt by omega])
  have hnorm : W64 ≤ 2 * (yt * 2 ^ s) :=by
    have e : W64 = 2 * (2 ^ (Lib.bitLen yt - 1) * 2 ^ s) :=by
      rw [← Nat.pow_add,← Nat.pow_succ',show (Lib.bitLen yt - 1 + s).succ = 64 by omega]
    have :=Nat.mul_le_mul_right (2 ^ s) hbl.2.1
    omega
  have hsv :=st_save hst
  have hwd :=stk_words w bs (n + 1) none (by omega) (by omega) hst (by simp [StL])
  have hsz :=hst.lt
  have lbx :=hx.lt (by omega)
  have lby :=hy.lt (by omega)
  have HX :=Lib.hid (And.intro hx (And.intro hbx (And.intro hvx (And.intro hy (And.intro hby (And.intro hvy (And.intro hnz (And.intro hst (And.intro gy (And.intro hnorm hg))))))))))
  clear hx hbx hvx hy hby hvy hnz hst gy hnorm hbl hbl2 hs hg
  unfold Big at hcxB hcyB
  have e0 : (((n + 1 : Nat) : Int) - 1) = (n : Int) :=by omega
  go_enter_defers Tryz.func159,Tryz.ntmps159
  go_upto_if 40 with (first
    | (go_at_call 151;refine hsv.mono ?_;rintro e w1 ⟨rfl,hw⟩;rw [hw];clear hw)
    | (go_at_call 185;refine (hnl _).mono ?_;rintro e w' ⟨rfl,hw'⟩;rw [hw'];clear hw')
    | (go_at_call 152;refine hwd.mono ?_;rintro e w1 ⟨bt,ot,ct,st',rfl,g1,g2,g3,g4,g5,g6,g7,g8,g9,g10,g11,g12,g13,g14⟩;have G :=Lib.hid (And.intro g3 (And.intro g4 (And.intro g5 (And.intro g6 (And.intro g7 (And.intro g8 (And.intro g9 (And.intro g10 (And.intro g11 (And.intro g12 (And.intro g13 g14)))))))))));clear g3 g4 g5 g6 g7 g8 g9 g10 g11 g12 g13 g14)
    | (go_at_call 134;refine (nat_make _ none 0 0 (N + 1) (.inl ⟨rfl,rfl⟩) (by unfold Big;omega) (by omega)).mono ?_;rintro e w2 ⟨su,cu,rfl,u1,u2,u3,u4,u5⟩;obtain ⟨bu,ou,rfl,u6,u7,u8⟩ :=u3.pos (by omega)))
  obtain ⟨g3,g4,g5,g6,g7,g8,g9,g10,g11,g12,g13,g14⟩ :=G.out
  have hbt : w.heap.size ≤ bt :=by
    rcases g12 with h | ⟨i,l,c,h,_⟩
    · exact h
    · cases h
  have hbu : w1.heap.size ≤ bu :=by
    rcases u4 with ⟨h,_⟩ | ⟨b,h,h'⟩
    · cases h
    · have :=congrArg (fun a => a.map (·.block)) h
      simp at this
      omega
  have K1 : Chg w w2 (fun p _ => p = bs) :=g14.trans (u5.any _) fun _ _ _ h => h
  have wv2 : Wr w2 bt ot (n + 1) :=g3.chg u5
  obtain ⟨hx,hbx,hvx,hy,hby,hvy,hnz,hst,gy,hnorm,hg⟩ :=HX.out
  have hx2 : Row .u64 w2 bx ox xs :=hx.chg K1 fun _ _ h => dx h
  have hy2 : Row .u64 w2 by' oy ys :=hy.chg K1 fun _ _ h => dy h
  have hlt1 :=Chg.size g14
  obtain ⟨⟨uN,cuN⟩,fuN⟩ :=u6 N (by omega)
  have hbu' : w.heap.size ≤ bu :=by omega
  have dtu : bt ≠ bu :=by have :=u5.size;omega
  have dtx : bt ≠ bx :=by omega
  have dty : bt ≠ by' :=by omega
  have dux : bu ≠ bx :=by omega
  have duy : bu ≠ by' :=by omega
  have HY :=Lib.hid (And.intro hx2 (And.intro hy2 (And.intro hbx (And.intro hby (And.intro hvx (And.intro hvy (And.intro hnz (And.intro gy (And.intro hnorm (And.intro hg (And.intro K1 (And.intro wv2 (And.intro u6 (And.intro u7 (And.intro u8 (And.intro u5 hst))))))))))))))))
  clear g3 g4 g5 g6 g7 g8 g9 g10 g11 g12 g13 g14 hx hbx hvx hy hby hvy hnz hst gy hnorm hg hx2 hy2 K1 wv2 u5 u6 u7 u8 u3 u4 hsv hwd hnl hlt1
  obtain ⟨z0,hz0⟩ : ∃ z0,((s : Int) == 0) = z0 :=⟨_,rfl⟩
  rw [hz0]
  go_cut [] from 41 to 100 (fun wx => ∃ us vs : List Nat,Row .u64 wx bt ot vs ∧ vs.length = n + 1 ∧ Lt W64 vs ∧ val W64 vs = Y * 2 ^ s ∧ Row .u64 wx bu ou us ∧ us.length = N + 1 ∧ Lt W64 us ∧ val W64 us = X * 2 ^ s ∧ (∃ ut,us[N]? = some ut ∧ ut < 2 ^ s) ∧ Chg w2 wx (fun p o => p = bu ∨ p = bt))
  case first =>
    by_cases hs0 : s = 0
    · subst hs0
      obtain rfl : z0 = true :=hz0.symm
      obtain ⟨hx2,hy2,hbx,hby,hvx,hvy,hnz,gy,hnorm,hg,K1,wv2,u6,u7,u8,u5,hst⟩ :=HY.out
      have hcp1 :=copyRun w2 bt ot by' oy (n + 1) ct cy ys hy2 hly wv2
      have k1 :=Chg.setCells bt (ys.map fun (x : Nat) => Value.int .u64 x) ot w2
      have r1 :=Row.setCells ys (hly ▸ wv2)
      generalize w2.setCells bt ot (ys.map fun (x : Nat) => Value.int .u64 x) = w3 at *
      have hcp2 :=copyRun w3 bu ou bx ox N cu cx xs (hx2.chg k1 fun _ _ h => dtx h.1.symm) hlx (fun j hj => (u6.chg k1) j (by omega))
      have k2 :=Chg.setCells bu (xs.map fun (x : Nat) => Value.int .u64 x) ou w3
      have r2 :=Row.setCells (w :=w3) (b :=bu) (o :=ou) xs (fun j hj => (u6.chg k1) j (by omega))
      generalize w3.setCells bu ou (xs.map fun (x : Nat) => Value.int .u64 x) = w4 at *
      have k3 : Chg w2 w4 (fun p o => p = bu ∨ p = bt) :=(k1.mono fun _ _ _ h => Or.inr h.1).trans k2 fun _ _ _ h => Or.inl h.1
      obtain ⟨⟨uN4,cuN4⟩,fuN4⟩ :=(u6.chg k3) N (by omega)
      have HZ :=Lib.hid (And.intro hx2 (And.intro hy2 (And.intro hbx (And.intro hby (And.intro hvx (And.intro hvy (And.intro k1 (And.intro k2 (And.intro k3 (And.intro r1 r2))))))))))
      clear hx2 hy2 hbx hby hvx hvy hnz gy hnorm hg K1 wv2 u6 u7 u8 u5 hst k1 k2 k3 r1 r2
      go_wp2_with fail
      go_meet
      obtain ⟨hx2,hy2,hbx,hby,hvx,hvy,k1,k2,k3,r1,r2⟩ :=HZ.out
      have s4 :=Chg.setCell w4 bu (ou + N) (.int .u64 0) (fun p o => p = bu ∧ o = ou + N) (fun _ => ⟨rfl,rfl⟩)
      have r3 :=Row.store r2 0 (by rw [hlx];exact ⟨_,cuN4⟩)
      rw [hlx] at r3
      refine ⟨xs ++ [0],ys,(r1.chg k2 fun _ _ h => dtu h.1).chg s4 fun _ _ h => dtu h.1,hly,hby,by simp [hvy],r3,by simp [hlx],hbx.snoc (by unfold W64;omega),by rw [val_append];simp [val,hvx],⟨0,by rw [List.getElem?_append_right (by omega),hlx,Nat.sub_self];rfl,by simp⟩,k3.trans s4 fun _ _ _ h => Or.inl h.1⟩
    · obtain rfl : z0 = false :=by rw [← hz0];simp;omega
      obtain ⟨hx2,hy2,hbx,hby,hvx,hvy,hnz,gy,hnorm,hg,K1,wv2,u6,u7,u8,u5,hst⟩ :=HY.out
      have hl1 :=lshVU_g w2 bt ot by' oy (n + 1) ct cy s (64 - s) ys (by omega) (by unfold Big;omega) (by omega) (by omega) (by omega) hy2 hly hby wv2 (.inr dty.symm)
      have hl2 :=fun w3 (k1 : Chg w2 w3 (In bt ot (n + 1))) => lshVU_g w3 bu ou bx ox N cu cx s (64 - s) xs (by omega) (by unfold Big;omega) (by omega) (by omega) (by omega) (hx2.chg k1 fun _ _ h => dtx h.1.symm) hlx hbx (fun j hj => (u6.chg k1) j (by omega)) (.inr dux.symm)
      have cuN3 :=fun w3 (k1 : Chg w2 w3 (In bt ot (n + 1))) => k1.at cuN fun h => dtu h.1.symm
      clear hx2 hy2 hbx hby hvx hvy hnz gy hnorm hg K1 wv2 u6 u7 u8 u5 hst
      go_wp2_with (first
        | (go_at_call 167;refine lshVU _ _ _ _ _ ?_;first
            | ((with_reducible refine hl1.mono ?_);rintro e w3 ⟨zs,c,rfl,a1,a2,a3,a4,a5,a6⟩;refine ⟨_,rfl,?_⟩;have A :=Lib.hid (And.intro a1 (And.intro a2 (And.intro a3 (And.intro a4 (And.intro a5 a6)))));clear a1 a2 a3 a4 a5 a6)
            | (refine (hl2 _ A.out.2.2.2.2.2).mono ?_;rintro e w4 ⟨zs2,c2,rfl,b1,b2,b3,b4,b5,b6⟩;refine ⟨_,rfl,?_⟩;have cuN4 :=b6.at (cuN3 _ A.out.2.2.2.2.2) (fun h => by have :=h.2.2;omega);have fuN4 :=((b6.frz bu (ou + N) (lt_of_cell (cuN3 _ A.out.2.2.2.2.2))).trans (A.out.2.2.2.2.2.frz bu (ou + N) (lt_of_cell cuN))).trans fuN;have B :=Lib.hid (And.intro b1 (And.intro b2 (And.intro b3 (And.intro b4 (And.intro b5 b6)))));clear b1 b2 b3 b4 b5 b6)))
      go_meet
      obtain ⟨a1,a2,a3,a4,a5,a6⟩ :=A.out
      obtain ⟨b1,b2,b3,b4,b5,b6⟩ :=B.out
      obtain ⟨hx2,hy2,hbx,hby,hvx,hvy,hnz,gy,hnorm,hg,K1,wv2,u6,u7,u8,u5,hst⟩ :=HY.out
      have s4 :=Chg.setCell w4 bu (ou + N) (.int .u64 c2) (fun p o => p = bu ∧ o = ou + N) (fun _ => ⟨rfl,rfl⟩)
      have r3 :=Row.store b2 c2 (by rw [b1];exact ⟨_,cuN4⟩)
      rw [b1] at r3
      have hyl :=val_lt (B :=W64) (xs :=ys.take n) (fun x hx => hby x (List.mem_of_mem_take hx))
      rw [List.length_take,Nat.min_eq_left (by omega)] at hyl
      rw [hvy,Nat.pow_succ] at a4
      obtain rfl : c = 0 :=no_carry a4 (hvy ▸ val_top1 hly gy) hyl HB.out (by omega)
      refine ⟨zs2 ++ [c2],zs,(a2.chg b6 fun _ _ h => dtu h.1).chg s4 fun _ _ h => dtu h.1,a1,a3,by rw [← a4,Nat.mul_zero,Nat.add_zero],r3,by simp [b1],b3.snoc (Nat.lt_of_lt_of_le b5 (Nat.pow_le_pow_right (by decide) (show s ≤ 64 by omega))),?_,⟨c2,by rw [List.getElem?_append_right (by omega),b1,Nat.sub_self];rfl,b5⟩,((a6.mono fun _ _ _ h => Or.inr h.1).trans b6 fun _ _ _ h => Or.inl h.1).trans s4 fun _ _ _ h => Or.inl h.1⟩
      rw [val_append,b1,← hvx]
      simp only [val,Nat.mul_zero,Nat.add_zero]
      exact b4
  case rest =>
    obtain ⟨us,vs,r1,l1,b1,v1',r2,l2,b2,v2,⟨ut,gut,hut⟩,kc⟩ :=hcut
    obtain ⟨hx2,hy2,hbx,hby,hvx,hvy,hnz,gy,hnorm,hg,K1,wv2,u6,u7,u8,u5,hst⟩ :=HY.out
    obtain ⟨m1,hm1⟩ : ∃ m1,N = n + 1 + m1 :=⟨N - (n + 1),by omega⟩
    have e13 : ((N : Int) - ((n : Int) + 1)) = (m1 : Int) :=by omega
    have hok : SlOk wc (some ⟨bu,ou,none⟩) cu :=.inr ⟨bu,ou,rfl,u6.chg kc,u7.chg u8 kc,Nat.lt_of_lt_of_le u8 (Chg.size kc)⟩
    have al :=alias_dis wc none (some ⟨bu,ou,none⟩) 0 0 (N + 1) cu (.inl ⟨rfl,rfl⟩) hok (by omega) (by unfold Big at *;omega) (Dis.nil' _)
    have hgc : ∀ W,Kept wc W → W.cell? ⟨5,0,none⟩ = some (.int .i64 40) :=fun W hW => Kept.at hW (kc.at (K1.at hg.divT (fun h => by omega)) (fun h => by have :=hg.size;rcases h with h | h <;> omega))
    rw [e13]
    have hm2 : n + 1 + m1 ≤ N :=by omega
    have hm3 : N ≤ n + 1 + m1 :=by omega
    clear hm1 e13
    have hn40 : (n : Int) + 1 < 40 :=by omega
    have HW :=Lib.hid (And.intro r1 (And.intro b1 (And.intro v1' (And.intro r2 (And.intro b2 (And.intro v2 (And.intro gut (And.intro hut (And.intro kc hok)))))))))
    clear hx2 hy2 hbx hby hvx hvy hnz gy hnorm hg K1 wv2 u5 u6 u7 u8 hst r1 b1 v1' r2 b2 v2 gut hut kc hok
    go_upto_if 78 with (first
      | (go_at_call 142;(with_reducible refine al.mono ?_);rintro e w' ⟨rfl,hw'⟩;rw [hw'];clear hw')
      | (go_at_call 134;refine (nat_make _ none 0 0 (m1 + 1) (.inl ⟨rfl,rfl⟩) (by unfold Big;omega) (by omega)).mono ?_;rintro e w5 ⟨sq,cq,rfl,q1,q2,q3,q4,q5⟩;obtain ⟨bq,oq,rfl,q6,q7,q8⟩ :=q3.pos (by omega);have q5 :=q5.of_drew;have hg5 :=hgc _ q5))
    obtain ⟨r1,b1,v1',r2,b2,v2,gut,hut,kc,hok⟩ :=HW.out
    obtain ⟨hx2,hy2,hbx,hby,hvx,hvy,hnz,gy,hnorm,hg,K1,wv2,u6,u7,u8,u5,hst⟩ :=HY.out
    obtain ⟨g3,g4,g5,g6,g7,g8,g9,g10,g11,g12,g13,g14⟩ :=G.out
    have hlt1 :=Chg.size g14
    have hlt2 :=Chg.size u5
    have hlt3 :=Chg.size kc
    have dbq : bq ≥ wc.heap.size :=by
      rcases q4 with ⟨h,_⟩ | ⟨b,h,h'⟩
      · cases h
      · have :=congrArg (fun a => a.map (·.block)) h
        simp at this
        have h2 : wc.drew.heap.size = wc.heap.size :=rfl
        omega
    have kB : ∀ p,StB st' p → p ≠ bu ∧ p ≠ bt :=fun p hp => ⟨fun e => by have :=g6.ltB hp;omega,fun e => by subst e;exact g10 hp⟩
    have st5 : StAt w5 bs st' :=((g6.chg u5 (fun _ h => h) (fun _ _ _ h => h)).chg kc (fun o h => by rcases h with h | h <;> omega) (fun p o hp h => by have :=kB p hp;rcases h with h | h;exact this.1 h;exact this.2 h)).chg q5 (fun _ h => h) (fun _ _ _ h => h)
    have gv : vs[n]? = some (vs[n]'(by omega)) :=List.getElem?_eq_getElem _
    generalize vs[n]'_ = vt at gv
    have gv0 : vs[n - 1]? = some (vs[n - 1]'(by omega)) :=List.getElem?_eq_getElem _
    generalize vs[n - 1]'_ = vt0 at gv0
    have lv :=val_lt (B :=W64) (xs :=vs.take n) (fun x hx => b1 x (List.mem_of_mem_take hx))
    rw [List.length_take,Nat.min_eq_left (by omega)] at lv
    have hnv : W64 ≤ 2 * vt :=norm_top (hvy ▸ val_top1 hly gy) (val_top1 l1 gv) lv v1' hnorm
    have hutv : ut < vt :=by
      have : 2 ^ s ≤ 2 ^ 63 :=Nat.pow_le_pow_right (by decide) (by omega)
      unfold W64 at hnv
      omega
    have hXl :=val_lt (B :=W64) (xs :=xs) hbx
    rw [hlx,hvx] at hXl
    have hYl : W64 ^ (n + 1 - 1) ≤ Y :=by
      rw [← hvy,val_top1 hly gy,Nat.add_sub_cancel]
      exact Nat.le_trans (Nat.le_mul_of_pos_right _ (by omega)) (Nat.le_add_left _ _)
    have hsm :=small_quo (s :=s) hXl hYl (by omega) (by omega)
    rw [← v2,← v1',show N - (n + 1) + 1 = m1 + 1 by omega] at hsm
    have hdb :=divBasic w5 bq oq cq bu ou cu bt ot ct bs (n + 1) (m1 + 1) st' us vs vt vt0 (by omega) (by omega) (by omega) (by omega) q1 (by omega) g1
      (r2.keep q5) (by omega) b2 (fun j hj => ((u6.chg kc).chg q5) j (by omega)) (by unfold Big at u2;omega) (r1.keep q5) l1 b1 gv gv0 hnv ut (by rw [show m1 + 1 + (n + 1) - 1 = N by omega];exact gut) hutv hsm
      (fun j hj => q6 j (by omega)) st5 (by have : StL none = 0 :=rfl;omega) (by omega) (by omega) (fun o h => by have :=StM.lt g6 h;omega) (fun o h => by have :=StM.lt g6 h;omega) g11 (by omega) (by omega) dtu.symm
    rw [show m1 + 1 + (n + 1) = N + 1 by omega] at hdb
    rw [v1',v2] at hdb
    have fin : ∀ (w6 : World) (us6 qs6 : List Nat) (st6 : St),DivAt w6 bq oq bu ou (n + 1) (m1 + 1) (X * 2 ^ s) (Y * 2 ^ s) 0 us6 qs6 → StAt w6 bs st6 → (∀ p o,StM bs st6 p o → StM bs st' p o ∨ w5.heap.size ≤ p) → Chg w5 w6 (fun p o => p = bq ∨ p = bu ∨ StM bs st' p o) →
        ∀ (w7 : World) (zs : List Nat),Chg w6 w7 (In bu ou (N + 1)) → Row .u64 w7 bu ou zs → zs.length = N + 1 → Lt W64 zs → (val W64 us6 = X % Y * 2 ^ s → val W64 zs = X % Y) →
        StAt w7 bs st6 ∧ ∀ w8 : World,StAt w8 bs (StCut st6 0) → Chg w7 w8 (fun p _ => StB st6 p) → ∃ st',StAt w8 bs st' ∧ (∀ p,StB st' p → w.heap.size ≤ p) ∧ GotDiv w (fun p _ => p = bs) (StB st') X Y (.returned (.tuple #[.slice (some ⟨bq,oq,none⟩) (trimZ qs6).length cq,.slice (some ⟨bu,ou,none⟩) (trimZ zs).length cu])) w8 :=by
      intro w6 us6 qs6 st6 d1 d2 d4 d5 w7 zs k7 rz lz bz hz
      have hS : ∀ p,StB st6 p → p ≠ bs ∧ w.heap.size ≤ p ∧ p ≠ bu ∧ p ≠ bq :=by
        intro p hp
        have e1 :=StB_ne d2 hp
        have l1 :=Chg.size q5
        rcases d4 p 0 (StB_M hp) with h | h
        · have l2 :=StM.lt g6 h
          rcases g13 p 0 (StM_cut g7 h) with h3 | h3
          · exact absurd h3 e1
          · exact ⟨e1,h3,by omega,by omega⟩
        · have l3 : wc.drew.heap.size = wc.heap.size :=rfl
          exact ⟨e1,by omega,by omega,by omega⟩
      have d2' : StAt w7 bs st6 :=d2.chg k7 (fun o h => by have :=h.1;omega) (fun p o hp h => (hS p hp).2.2.1 h.1)
      refine ⟨d2',fun w8 s8 k8 => ?_⟩
      have hq :=scaled_parts (X :=X) (Y :=Y) (s :=s) (by have :=d1.sum;rw [Nat.pow_zero,Nat.one_mul] at this;exact this) (by have :=d1.small;rw [Nat.pow_zero,Nat.mul_one] at this;exact this)
      have hqr : Row .u64 w8 bq oq qs6 :=((d1.qrow.chg k7 fun _ _ h => by have :=h.1;omega).chg k8 fun _ _ h => (hS _ h).2.2.2 rfl)
      have hzr : Row .u64 w8 bu ou zs :=rz.chg k8 fun _ _ h => (hS _ h).2.2.1 rfl
      have K5 : Chg w w5 (fun p _ => p = bs) :=(K1.trans kc fun p _ hp h => by rcases h with h | h <;> omega).trans q5 fun _ _ _ h => h.elim
      have K6 : Chg w w6 (fun p _ => p = bs) :=K5.trans d5 fun p o hp h => by
        rcases h with h | h | h
        · omega
        · omega
        · rcases g13 p o (StM_cut g7 h) with h | h
          · exact h
          · omega
      have K8 : Chg w w8 (fun p _ => p = bs) :=(K6.trans k7 fun p _ hp h => by have :=h.1;omega).trans k8 fun p _ hp h => by have :=(hS p h).2.1;omega
      refine ⟨_,s8,fun p hp => (hS p (StB_cut.1 hp)).2.1,_,_,cq,_,_,cu,rfl,?_,?_,fun a ha => ?_,fun a ha => ?_,K8⟩
      · rw [← hq.1]
        refine trim_nat (by rw [d1.qlen];omega) (by unfold Big at *;omega) (by rw [d1.qlen];unfold Big;omega) ?_ (.inr ⟨bq,oq,rfl,hqr⟩) d1.qlt rfl
        exact .inr ⟨bq,oq,rfl,((Wr.chg q6 d5).chg k7).chg k8,((q7.chg q8 d5).chg (Nat.lt_of_lt_of_le q8 (Chg.size d5)) k7).chg (Nat.lt_of_lt_of_le q8 (Nat.le_trans (Chg.size d5) (Chg.size k7))) k8,Nat.lt_of_lt_of_le q8 (Nat.le_trans (Chg.size d5) (Nat.le_trans (Chg.size k7) (Chg.size k8)))⟩
      · refine trim_nat (by omega) (by unfold Big at *;omega) (by unfold Big;omega) ?_ (.inr ⟨bu,ou,rfl,hzr⟩) bz (hz hq.2)
        exact ((((hok.chg q5).chg d5).chg k7).chg k8)
      · obtain rfl :=Option.some.inj ha;exact ⟨by show w.heap.size ≤ bq;omega,fun h => (hS _ (StB_cut.1 h)).2.2.2 rfl⟩
      · obtain rfl :=Option.some.inj ha;exact ⟨hbu',fun h => (hS _ (StB_cut.1 h)).2.2.1 rfl⟩
    have FIN :=Lib.hid fin
    clear fin
    have HV :=Lib.hid (And.intro r1 (And.intro r2 (And.intro kc (And.intro K1 (And.intro g6 (And.intro g13 (And.intro q5 (And.intro u5 (And.intro q7 (And.intro q8 (And.intro dbq (And.intro u6 (And.intro u7 (And.intro u8 (And.intro q6 (And.intro hYl g14))))))))))))))))
    clear hx2 hy2 hbx hby hvx hvy hnz gy hnorm hg K1 wv2 u5 u6 u7 u8 hst r1 b1 v1' r2 b2 v2 gut hut kc hok g3 g4 g5 g6 g7 g8 g9 g10 g11 g12 g13 g14 kB st5 gv gv0 lv hnv hutv hXl hYl hsm dbq q3 q4 q5 q6 q7 q8 al hgc hlt1 hlt2 hlt3
    rcases Nat.eq_zero_or_pos s with rfl | hsp
    · go_wp2_with (first
        | (go_at_call 187;(with_reducible refine hdb.mono ?_);rintro e w6 ⟨us6,qs6,st6,rfl,d1,d2,d3,d4,d5⟩;have N1 :=nat_norm w6 (some ⟨bq,oq,none⟩) (m1 + 1) cq qs6 (.inr ⟨bq,oq,rfl,d1.qrow⟩) d1.qlen (by omega) q1;have N2 :=nat_norm w6 (some ⟨bu,ou,none⟩) (N + 1) cu us6 (.inr ⟨bu,ou,rfl,d1.row⟩) (by rw [d1.len];omega) (by omega) u1;have D :=Lib.hid (And.intro d1 (And.intro d2 (And.intro d3 (And.intro d4 d5))));clear d1 d2 d3 d4 d5)
        | (go_at_call 106;first
            | ((with_reducible refine N1.mono ?_);rintro e w7 ⟨rfl,hw7⟩;rw [hw7];clear hw7)
            | ((with_reducible refine N2.mono ?_);rintro e w7 ⟨rfl,hw7⟩;rw [hw7];clear hw7)))
      obtain ⟨d1,d2,d3,d4,d5⟩ :=D.out
      obtain ⟨e1,e2⟩ :=FIN.out w6 us6 qs6 st6 d1 d2 d4 d5 w6 us6 (Chg.refl _ _) d1.row (by rw [d1.len];omega) d1.lt (fun h => by rw [h,Nat.pow_zero,Nat.mul_one])
      refine leaves_cons (f :=150) (args :=#[ptr bs,.int .i64 (StL none)]) (by simp) (by simp [go_sem]) ?_
      refine (st_restore .returning e1 (Nat.zero_le _)).mono ?_
      rintro e u' w8 ⟨rfl,rfl,h4,h5⟩
      refine ⟨_,results_tmp2 rfl _ _ _,?_⟩
      exact e2 w8 h4 h5
    · have hsb : ((s : Int) != 0) = true :=by simp;omega
      go_wp2_with (first
        | (go_at_call 187;(with_reducible refine hdb.mono ?_);rintro e w6 ⟨us6,qs6,st6,rfl,d1,d2,d3,d4,d5⟩;have N1 :=nat_norm w6 (some ⟨bq,oq,none⟩) (m1 + 1) cq qs6 (.inr ⟨bq,oq,rfl,d1.qrow⟩) d1.qlen (by omega) q1;have R1 :=rshVU_g w6 bu ou bu ou (N + 1) cu cu s (64 - s) us6 (by omega) (by unfold Big;omega) (by omega) hsp (by omega) d1.row (by rw [d1.len];omega) d1.lt (fun j hj => ((((HV.out.2.2.2.2.2.2.2.2.2.2.2.1).chg HV.out.2.2.1).chg HV.out.2.2.2.2.2.2.1).chg d5) j (by omega)) (.inl ⟨rfl,rfl⟩);have D :=Lib.hid (And.intro d1 (And.intro d2 (And.intro d3 (And.intro d4 d5))));clear d1 d2 d3 d4 d5)
        | (go_at_call 189;refine rshVU _ _ _ _ _ ?_;(with_reducible refine R1.mono ?_);rintro e w7 ⟨zs,c,rfl,z1,z2,z3,z4,z5⟩;refine ⟨_,rfl,?_⟩;have N2 :=nat_norm w7 (some ⟨bu,ou,none⟩) (N + 1) cu zs (.inr ⟨bu,ou,rfl,z2⟩) z1 (by omega) u1;have Z :=Lib.hid (And.intro z1 (And.intro z2 (And.intro z3 (And.intro z4 z5))));clear z1 z2 z3 z4 z5)
        | (go_at_call 106;first
            | ((with_reducible refine N1.mono ?_);rintro e w9 ⟨rfl,hw9⟩;rw [hw9];clear hw9)
            | ((with_reducible refine N2.mono ?_);rintro e w9 ⟨rfl,hw9⟩;rw [hw9];clear hw9)))
      obtain ⟨d1,d2,d3,d4,d5⟩ :=D.out
      obtain ⟨z1,z2,z3,z4,z5⟩ :=Z.out
      obtain ⟨e1,e2⟩ :=FIN.out w6 us6 qs6 st6 d1 d2 d4 d5 w7 zs z5 z2 z1 z3 (fun h => by rw [z4,h,Nat.mul_div_cancel _ (Nat.two_pow_pos s)])
      refine leaves_cons (f :=150) (args :=#[ptr bs,.int .i64 (StL none)]) (by simp) (by simp [go_sem]) ?_
      refine (st_restore .returning e1 (Nat.zero_le _)).mono ?_
      rintro e u' w8 ⟨rfl,rfl,h4,h5⟩
      refine ⟨_,results_tmp2 rfl _ _ _,?_⟩
      exact e2 w8 h4 h5
end Go.Proofs.YtfmmdamgcpiciaaGreatDoor
namespace Go.Proofs.YtfmmdamgcpiciaaGreatDoor
open Go Go.RowKit
theorem NatAt.le_pow {w : World} {s : Option Addr} {n c X : Nat} (h : NatAt w s (n + 1) c X) : W64 ^ n ≤ X :=by
  obtain ⟨xs,a1,_,_,_,_,_,_,a8,rfl⟩ :=h
  exact a8.le (B :=W64) a1
theorem NatAt.lt_pow {w : World} {s : Option Addr} {n c X : Nat} (h : NatAt w s n c X) : X < W64 ^ n :=by
  obtain ⟨xs,a1,_,_,_,_,_,a7,_,rfl⟩ :=h
  exact a1 ▸ val_lt a7
theorem nilSl {w : World} : SlOk w none 0 :=.inl ⟨rfl,rfl⟩
theorem fr_new {w : World} {s : Option Addr} {c : Nat} (h : Fr w none 0 s c) : NewS w s :=fun a ha => by
  rcases h with ⟨rfl,_⟩ | ⟨b,rfl,h⟩
  · cases ha
  · obtain rfl :=Option.some.inj ha;exact h
theorem nat_div (w : World) (hg : Glob w) (sx sy : Option Addr) (n m cx cy X Y : Nat) (hx : NatAt w sx n cx X) (hy : NatAt w sy m cy Y) (hn : n < 40) (h0 : Y ≠ 0) :
    Calls Tryz.prog 132 #[.slice none 0 0,.pointer none,.slice none 0 0,.slice sx n cx,.slice sy m cy] w (GotDiv w None2 (fun _ => False) X Y) :=by
  obtain ⟨m,rfl⟩ : ∃ k,m = k + 1 :=by
    rcases Nat.eq_zero_or_pos m with rfl | h
    · exact absurd hy.zero h0
    · exact ⟨m - 1,by omega⟩
  have hm :=hy.ok.2.2.1
  unfold Big at hm
  rcases Nat.eq_zero_or_pos m with rfl | hm0
  · obtain ⟨by',oy,rfl,c0,hY,_⟩ :=hy.cell0
    have hdw :=nat_divW w none sx 0 0 n cx X Y nilSl (by omega) hx hY h0 (Dis.nil _)
    have hsw :=fun W => nat_setWord W none 0 0 (X % Y) nilSl (by omega) (Nat.lt_trans (Nat.mod_lt _ (by omega)) hY)
    go_enter Tryz.func132,Tryz.ntmps132
    go_wp2_with (first
      | (go_at_call 157;refine hdw.mono ?_;rintro e w1 ⟨s1,n1,c1,rfl,a1,a2,a3⟩)
      | (go_at_call 158;refine (hsw _).mono ?_;rintro e w2 ⟨s2,n2,c2,rfl,b1,b2,b3⟩))
    first | go_ret2 | refine ⟨_,results_tmp2 rfl _ _ _,?_⟩
    exact ⟨s1,n1,c1,s2,n2,c2,rfl,a1.kept b3.noneK,b1,fun a ha => ⟨fr_new a2 a ha,fun h => h⟩,fun a ha => ⟨Nat.le_trans (Chg.size a3) (fr_new b2 a ha),fun h => h⟩,a3.noneK.trans b3.noneK fun _ _ _ h => h⟩
  · have hc :=nat_cmp w sx sy n (m + 1) cx cy X Y hx hy
    have hm1 : ((m : Int) == 0) = false :=by simp;omega
    by_cases hlt : X < Y
    · have hcm : cmpI X Y < 0 :=by unfold cmpI;split <;> (try split) <;> omega
      have hset :=fun W (hW : Kept w W) => nat_set' W none sx 0 0 n cx X nilSl (by omega) (hx.kept hW)
      generalize cmpI X Y = g at *
      go_enter Tryz.func132,Tryz.ntmps132
      go_wp2_with (first
        | (go_at_call 109;refine hc.mono ?_;rintro e w1 ⟨rfl,k1⟩;have K1 :=Lib.hid k1;clear k1)
        | (go_at_call 126;refine (hset _ K1.out).mono ?_;rintro e w2 ⟨s2,n2,c2,rfl,b1,b2,b3⟩))
      first | go_ret2 | refine ⟨_,results_tmp2 rfl _ _ _,?_⟩
      exact ⟨none,0,0,s2,n2,c2,rfl,by rw [Nat.div_eq_of_lt hlt];exact sliceNil_nat nilSl (by omega),by rw [Nat.mod_eq_of_lt hlt];exact b1,(fun a ha => by cases ha),fun a ha => ⟨Nat.le_trans (Chg.size K1.out) (fr_new b2 a ha),fun h => h⟩,K1.out.trans b3.noneK fun _ _ _ h => h⟩
    · have hcm : ¬ cmpI X Y < 0 :=by unfold cmpI;split <;> (try split) <;> omega
      generalize cmpI X Y = g at *
      obtain ⟨n,rfl⟩ : ∃ k,n = k + 1 :=by
        rcases Nat.eq_zero_or_pos n with rfl | h
        · have :=hx.zero;omega
        · exact ⟨n - 1,by omega⟩
      have hmn : m + 1 ≤ n + 1 :=by
        rcases Nat.lt_or_ge n m with h | h
        · have h1 :=hx.lt_pow
          have h2 :=hy.le_pow
          have h3 :=Nat.pow_le_pow_right (show 0 < W64 by decide) (show n + 1 ≤ m by omega)
          omega
        · omega
      have hgs :=hg.size
      have HX :=Lib.hid (And.intro hx (And.intro hy hg))
      obtain ⟨bx,ox,xs,rfl,x1,x2,x3,x4,x5,x6,x7,x8,x9,x10⟩ :=hx.open
      obtain ⟨by',oy,ys,rfl,y1,y2,y3,y4,y5,y6,y7,y8,y9,y10⟩ :=hy.open
      have hdl :=fun w2 bs (hW : Kept w w2) (h1 : w.heap.size ≤ bs) (h2 : StAt w2 bs none) => divLarge w2 (hg.kept hW) bs bx ox (n + 1) cx by' oy (m + 1) cy X Y xs ys h2 (by omega) hmn hn x8 x9 y8 y9 (x1.keep hW) x2 x3 x5 (y1.keep hW) y2 y3 y5 y4 (by omega) (by omega) (by omega)
      have HD :=Lib.hid hdl
      clear hdl x1 x2 x3 x4 x5 x6 x7 x8 x9 x10 y1 y2 y3 y4 y5 y6 y7 y8 y9 y10 hx hy hg
      go_enter_defers Tryz.func132,Tryz.ntmps132
      go_wp2_with (first
        | (go_at_call 109;refine hc.mono ?_;rintro e w1 ⟨rfl,k1⟩;have K1 :=Lib.hid k1;clear k1)
        | (go_at_call 144;refine (getStack _).mono ?_;rintro e w2 ⟨bs,rfl,st,stn,bsg,k2⟩;have hb :=Nat.le_trans (Chg.size K1.out) bsg;have K2 :=Lib.hid (And.intro (K1.out.trans k2 fun _ _ _ h => h) (And.intro st stn));clear k2 st stn bsg)
        | (go_at_call 159;refine (HD.out w2 bs K2.out.1 hb ⟨K2.out.2.1,K2.out.2.2⟩).mono ?_;rintro e w3 ⟨st3,d1,d2,s1,n1,c1,s2,n2,c2,rfl,d3,d4,d5,d6,d7⟩))
      refine leaves_cons (f :=145) (args :=#[ptr bs]) (by simp) (by simp [go_sem]) ?_
      refine (st_free .returning d1).mono ?_
      rintro e u' w8 ⟨rfl,rfl,h4,h5⟩
      refine ⟨_,results_tmp2 rfl _ _ _,?_⟩
      have hK :=K2.out.1
      have l2 :=Chg.size hK
      refine ⟨s1,n1,c1,s2,n2,c2,rfl,d3.chg h5 fun b o h _ hM => (d5 _ h).2 hM,d4.chg h5 fun b o h _ hM => (d6 _ h).2 hM,fun a ha => ⟨Nat.le_trans l2 (d5 a ha).1,fun h => h⟩,fun a ha => ⟨Nat.le_trans l2 (d6 a ha).1,fun h => h⟩,(hK.trans d7 fun p _ hp h => by omega).trans h5 fun p _ hp h => by have :=d2 p h;omega⟩
end Go.Proofs.YtfmmdamgcpiciaaGreatDoor
namespace Go.Proofs.YtfmmdamgcpiciaaGreatDoor
open Go Go.RowKit
theorem tdiv_abs (X Y : Int) : (X.tdiv Y).natAbs = X.natAbs / Y.natAbs :=Int.natAbs_tdiv X Y
theorem tmod_abs (X Y : Int) : (X.tmod Y).natAbs = X.natAbs % Y.natAbs :=Int.natAbs_tmod X Y
theorem tdiv_sign {X Y : Int} (h : X.natAbs / Y.natAbs ≠ 0) : (decide (X < 0) != decide (Y < 0)) = decide (X.tdiv Y < 0) :=by
  have hq : X.tdiv Y ≠ 0 :=fun e => h (by rw [← tdiv_abs,e];rfl)
  have hY : Y ≠ 0 :=fun e => by subst e;simp at h
  by_cases hx : X < 0 <;> by_cases hy : Y < 0
  · have : 0 ≤ X.tdiv Y :=Int.tdiv_nonneg_of_nonpos_of_nonpos (by omega) (by omega)
    simp only [hx,hy,decide_true,bne_self_eq_false]
    symm;rw [decide_eq_false_iff_not];omega
  · have h1 : X.tdiv Y = -((-X).tdiv Y) :=by rw [Int.neg_tdiv,Int.neg_neg]
    have h2 : 0 ≤ (-X).tdiv Y :=Int.tdiv_nonneg (by omega) (by omega)
    simp only [hx,hy,decide_true,decide_false]
    symm;rw [show (true != false) = true from rfl,decide_eq_true_eq];omega
  · have h1 : X.tdiv Y = -(X.tdiv (-Y)) :=by rw [Int.tdiv_neg,Int.neg_neg]
    have h2 : 0 ≤ X.tdiv (-Y) :=Int.tdiv_nonneg (by omega) (by omega)
    simp only [hx,hy,decide_true,decide_false]
    symm;rw [show (false != true) = true from rfl,decide_eq_true_eq];omega
  · have : 0 ≤ X.tdiv Y :=Int.tdiv_nonneg (by omega) (by omega)
    simp only [hx,hy,decide_false,bne_self_eq_false]
    symm;rw [decide_eq_false_iff_not];omega
theorem tmod_sign {X Y : Int} (h : X.natAbs % Y.natAbs ≠ 0) : decide (X < 0) = decide (X.tmod Y < 0) :=by
  have hq : X.tmod Y ≠ 0 :=fun e => h (by rw [← tmod_abs,e];rfl)
  by_cases hx : X < 0
  · have h1 : X.tmod Y = -((-X).tmod Y) :=by rw [Int.neg_tmod,Int.neg_neg]
    have h2 : 0 ≤ (-X).tmod Y :=Int.tmod_nonneg _ (by omega)
    simp only [hx,decide_true]
    symm;rw [decide_eq_true_eq];omega
  · have h2 : 0 ≤ X.tmod Y :=Int.tmod_nonneg _ (by omega)
    simp only [hx,decide_false]
    symm;rw [decide_eq_false_iff_not];omega
theorem int_quo (w0 w : World) (hg : Glob w) (hk : Kept w0 w) (bz bx by' : Nat) (hb : w0.heap.size ≤ bz) (hz : ZeroInt w bz) (X Y : Int) (hx : IntAt w bx X) (hy : IntAt w by' Y) (hxb : bx ≠ bz) (hyb : by' ≠ bz) (h0 : Y ≠ 0) (hX : X.natAbs < W39) :
    Calls Tryz.prog 116 #[ptr bz,ptr bx,ptr by'] w fun e w' => e = .returned (ptr bz) ∧ IntN w0 w' bz (X.tdiv Y) ∧ Kept w0 w' :=by
  obtain ⟨sx,nx,cx,hx⟩ :=hx
  obtain ⟨sy,ny,cy,hy⟩ :=hy
  have x0 :=hx.neg
  have y0 :=hy.neg
  have x1 :=hx.abs
  have y1 :=hy.abs
  have z0 :=hz.neg
  have z1 :=hz.abs
  have f0 :=hz.nf 0
  have f1 :=hz.nf 1
  have ha :=fun W (hW : Kept w W) => nat_div W (hg.kept hW) sx sy nx ny cx cy X.natAbs Y.natAbs (hx.nat.kept hW) (hy.nat.kept hW) (Nat.lt_of_le_of_lt (hx.nat.len_lt hX) (by decide)) (by omega)
  obtain ⟨p,hp2⟩ : ∃ p,p = decide (X < 0) :=⟨_,rfl⟩
  obtain ⟨q,hq2⟩ : ∃ p,p = decide (Y < 0) :=⟨_,rfl⟩
  rw [← hp2] at x0
  rw [← hq2] at y0
  have HPQ :=Lib.hid (And.intro hp2 hq2)
  clear hp2 hq2
  have HX :=Lib.hid (And.intro hx (And.intro hy (And.intro h0 hX)))
  clear hx hy h0 hX
  by_cases hN : X.natAbs / Y.natAbs = 0
  · have HN :=Lib.hid hN
    clear hN
    go_enter Tryz.func116,Tryz.ntmps116
    go_wp2_with (first
      | (refine wp_region_lit_segs (id :=1) [[0,1,2,3,4,5,6,7,8,9,10,11,12,13,14,15,16,17,18,19]] mixed (by kernel_rfl) ?_;simp only [wpSegsL,gaC,gaN,lZ0,lS0,coS])
      | (refine wp_region_lit_segs (id :=2) [[0,1,2,3,4,5,6,7,8,9,10,11,12,13,14,15,16,17,18,19,20]] mixed (by kernel_rfl) ?_;simp only [wpSegsL,gaC,gaN,lZ0,lS0,coS])
      | refine ⟨by kernel_rfl,?_⟩
      | (go_at_call 132;refine (ha _ (Chg.refl _ _).drew).mono ?_;rintro e w1 ⟨s',n',c',s2,n2,c2,rfl,k1,k4,k2,k5,k3⟩;have k3 :=k3.of_drew;obtain ⟨z0',z1',zf'⟩ :=hz.kept k3;have f0' :=zf' 0;have f1' :=zf' 1;have x2 :=cs_ne (u :=.slice s' n' c') (Kept.at k3 x0) (b' :=bz) (o' :=1) (by omega);have y2 :=cs_ne (u :=.slice s' n' c') (Kept.at k3 y0) (b' :=bz) (o' :=1) (by omega);have z2 :=cell_setCell_eq (v :=.slice s' n' c') z1';obtain rfl : n' = 0 :=k1.eq_zero.1 HN.out;have KK :=Lib.hid (And.intro k1 (And.intro k2 k3));clear k1 k2 k3 k4 k5))
    first | go_ret | refine ⟨_,results_tmp rfl _ _ _,?_⟩
    obtain ⟨k1,k2,k3⟩ :=KK.out
    obtain ⟨hx,hy,h0,hX⟩ :=HX.out
    have hd :=int_doneN (X :=X.tdiv Y) _ (show false = _ from by have :=HN.out;rw [← tdiv_abs] at this;symm;rw [decide_eq_false_iff_not];omega) hk hb hz (by rw [tdiv_abs];exact k1) (fun a ha => (k2 a ha).1) k3
    first | exact ⟨rfl,hd⟩ | exact ⟨rfl,done_drew hd⟩
  · have HN :=Lib.hid hN
    clear hN
    go_enter Tryz.func116,Tryz.ntmps116
    go_wp2_with (first
      | (refine wp_region_lit_segs (id :=1) [[0,1,2,3,4,5,6,7,8,9,10,11,12,13,14,15,16,17,18,19]] mixed (by kernel_rfl) ?_;simp only [wpSegsL,gaC,gaN,lZ0,lS0,coS])
      | (refine wp_region_lit_segs (id :=2) [[0,1,2,3,4,5,6,7,8,9,10,11,12,13,14,15,16,17,18,19,20]] mixed (by kernel_rfl) ?_;simp only [wpSegsL,gaC,gaN,lZ0,lS0,coS])
      | refine ⟨by kernel_rfl,?_⟩
      | (go_at_call 132;refine (ha _ (Chg.refl _ _).drew).mono ?_;rintro e w1 ⟨s',n',c',s2,n2,c2,rfl,k1,k4,k2,k5,k3⟩;have k3 :=k3.of_drew;obtain ⟨z0',z1',zf'⟩ :=hz.kept k3;have f0' :=zf' 0;have f1' :=zf' 1;have x2 :=cs_ne (u :=.slice s' n' c') (Kept.at k3 x0) (b' :=bz) (o' :=1) (by omega);have y2 :=cs_ne (u :=.slice s' n' c') (Kept.at k3 y0) (b' :=bz) (o' :=1) (by omega);have z2 :=cell_setCell_eq (v :=.slice s' n' c') z1';have hN :=HN.out;have hn0 : ¬ n' = 0 :=(fun h => by have :=k1.eq_zero.2 h;omega);obtain ⟨n',rfl⟩ : ∃ m,n' = m + 1 :=⟨n' - 1,by omega⟩;clear hN;have KK :=Lib.hid (And.intro k1 (And.intro k2 k3));clear k1 k2 k3 k4 k5))
    first | go_ret | refine ⟨_,results_tmp rfl _ _ _,?_⟩
    obtain ⟨k1,k2,k3⟩ :=KK.out
    obtain ⟨hx,hy,h0,hX⟩ :=HX.out
    have hd :=int_doneN (X :=X.tdiv Y) _ (show (p != q) = _ from by rw [HPQ.out.1,HPQ.out.2];exact tdiv_sign HN.out) hk hb hz (by rw [tdiv_abs];exact k1) (fun a ha => (k2 a ha).1) k3
    first | exact ⟨rfl,hd⟩ | exact ⟨rfl,done_drew hd⟩
end Go.Proofs.YtfmmdamgcpiciaaGreatDoor
