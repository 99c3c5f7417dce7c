/- A part of the proof, joined out of the texts H11, H12, H13, H14, H15, H16, H17, H18, H19, H20, H21, H22, H24, H26, H25, H28, H27, H23; each theorem bears its own conditions. -/
import Derived.BigRegion
import Derived.Test.YtfmmdamgcpiciaaGreatDoorT03
import Derived.Test.YtfmmdamgcpiciaaGreatDoorT06
import Derived.Test.YtfmmdamgcpiciaaGreatDoorT10
import Derived.Test.YtfmmdamgcpiciaaGreatDoorT11
set_option linter.unusedVariables false
set_option linter.unusedSimpArgs false
set_option linter.all false
set_option maxHeartbeats 9000000
set_option exponentiation.threshold 400000
set_option maxRecDepth 1000000
namespace Go.Proofs.YtfmmdamgcpiciaaGreatDoor
open Go Go.RowKit
theorem natString (w : World) (s : Option Addr) (n c X : Nat) (hx : Dig w s n c X) (hX : X < 10 ^ 1000) : Calls Tryz.prog 49 #[.slice s n c] w fun r w' => r = .returned (str (digT X)) ∧ Kept w w' :=by
  have hn : n ≤ 112 :=hx.len_le (Nat.lt_of_lt_of_le hX (by decide))
  obtain ⟨xs,h1,h2,h3,h4,h5,h6,h7,h8⟩ :=hx
  have hnz : ∀ i,i < n → val L9 (xs.drop i) ≠ 0 :=by
    intro i hi
    have hd : Nz (xs.drop i) :=fun x hx => h7 x (by rw [List.getLast?_drop] at hx;split at hx <;> simp_all)
    obtain ⟨k,hk⟩ : ∃ k,(xs.drop i).length = k + 1 :=⟨n - i - 1,by rw [List.length_drop,h1];omega⟩
    have :=Nz.le (B :=L9) hd hk
    have h2 : 0 < L9 ^ k :=Nat.pow_pos (by decide)
    omega
  have HN :=Lib.hid (And.intro hnz (And.intro h8 (And.intro hX h3)))
  clear hnz h3 h7 h8 hX
  go_enter Tryz.func49,Tryz.ntmps49
  go_wp2
  go_loopw [3,11] (fun t3 t11 wx => ∃ (i : Nat) (s3 : Option Addr) (c3 n3 : Nat) (ys : List Nat),t11 = .int .i64 i ∧ i ≤ n ∧ t3 = .slice s3 n3 c3 ∧ ys.length = n3 ∧ n3 ≤ 1000 ∧ Hid (dl X = ys ++ dl (val L9 (xs.drop i))) ∧ Hid (Sl .u8 w wx s3 c3 (ys.map (48 + ·))) ∧ Kept w wx) (fun _ t11 _ => n - (intOf t11).toNat)
  case atStart => exact ⟨0,none,0,0,[],rfl,Nat.zero_le _,rfl,rfl,Nat.zero_le _,Lib.hid (by rw [List.drop_zero,HN.out.2.1];rfl),Lib.hid Sl.start,Chg.refl _ _⟩
  case round =>
    obtain ⟨i,s3,c3,n3,ys,rfl,hi,rfl,hn3,hb3,hdl,hS,hK⟩ :=hrel
    rcases Nat.lt_or_ge i n with hin | hin
    · have hic : i < c :=by omega
      have gx : xs[i]? = some xs[i] :=List.getElem?_eq_getElem (by omega)
      have lx : xs[i] < L9 :=h6 _ (List.getElem_mem _)
      have hdr : val L9 (xs.drop i) = xs[i] + L9 * val L9 (xs.drop (i + 1)) :=by rw [List.drop_eq_getElem_cons (by omega)];rfl
      generalize xs[i] = r at gx lx hdr
      obtain ⟨g1,rfl,r1⟩ :=h5.row (fun e => by subst e;simp at h1;omega)
      have c1 :=(r1.keep hK) i r gx
      simp only [Nat.zero_add] at c1
      obtain ⟨V,hV⟩ : ∃ V,val L9 (xs.drop (i + 1)) = V :=⟨_,rfl⟩
      rw [hV] at hdr
      have hmV : (i + 1 = n ∧ V = 0) ∨ (i + 1 < n ∧ V ≠ 0) :=by
        rcases Nat.lt_or_ge (i + 1) n with h | h
        · exact .inr ⟨h,by rw [← hV];exact HN.out.1 _ h⟩
        · exact .inl ⟨by omega,by rw [← hV,List.drop_of_length_le (by omega)];rfl⟩
      obtain ⟨more,hmo⟩ : ∃ b,decide (V ≠ 0) = b :=⟨_,rfl⟩
      obtain ⟨R,eR⟩ : ∃ R : Int,(r : Int) = R :=⟨_,rfl⟩
      rw [eR] at c1
      have HV :=Lib.hid (And.intro hV (And.intro hdr (And.intro lx (And.intro gx eR))))
      clear hV hdr lx gx eR
      go_upto_block 2 with fail
      go_wp2
      go_loopw [3,5,6] (fun t3 t5 t6 wx => ∃ (k d : Nat) (D : Int) (es : List Nat) (s' : Option Addr) (c' : Nat),t6 = .int .i64 k ∧ k ≤ 9 ∧ t5 = .int .u32 D ∧ Hid ((d : Int) = D ∧ r / 10 ^ k = d) ∧ Hid (Emit more r k es) ∧ es.length = k ∧ t3 = .slice s' (n3 + k) c' ∧ Hid (Sl .u8 w wx s' c' ((ys ++ es).map (48 + ·))) ∧ Kept w wx) (fun _ _ t6 _ => 9 - (intOf t6).toNat)
      case atStart => exact ⟨0,r,R,[],s3,c3,rfl,by decide,rfl,Lib.hid ⟨HV.out.2.2.2.2,by simp⟩,Lib.hid (Emit.start _ _),rfl,rfl,Lib.hid (by rw [List.append_nil];exact hS.out),hK⟩
      case round =>
        clear hS hK c1
        obtain ⟨k,d,D,es,s',c',rfl,hk,rfl,hd,hEm,hes,rfl,hS,hK⟩ :=hrel
        have hdr : d < L9 :=by rw [← hd.out.2];exact Nat.lt_of_le_of_lt (Nat.div_le_self _ _) HV.out.2.2.1
        have D0 : 0 ≤ D :=by have :=hd.out.1;omega
        have D1 : D ≤ 999999999 :=by have :=hd.out.1;unfold L9 at hdr;omega
        by_cases hst : k < 9 ∧ (i + 1 < n ∨ d ≠ 0)
        · obtain ⟨hk9,hst⟩ :=hst
          have hlen : ((ys ++ es).map (48 + ·)).length = n3 + k :=by simp [hn3,hes]
          have HD :=Lib.hid (And.intro hd.out (And.intro hst hmV))
          have hE2 :=hEm.out.step (by
            rw [hd.out.2,← hmo]
            rcases hst with h | h
            · exact .inl (decide_eq_true (by omega))
            · exact .inr h)
          rw [hd.out.2] at hE2
          have HE :=Lib.hid hE2
          have hz : (48 + D % 10).toNat = 48 + d % 10 :=by have :=hd.out.1;omega
          have HZ :=Lib.hid hz
          clear hE2 hz hdr
          rcases Int.lt_or_le 0 D with hDp | hDp
          · clear hst hmV
            go_wp2_with (at_builtin;refine wp_gapp1 T76 (w0 :=w) rfl (.tmp 31) (.tmp 36) rfl rfl rfl rfl hS.out hK.size hlen (by omega) (by omega) ?_;intro s4 c4 w4 hS4 hC4 hD4)
            go_roundw
            case rel =>
              obtain ⟨⟨h1,h2⟩,hst,hmV⟩ :=HD.out
              refine ⟨k + 1,d / 10,_,es ++ [d % 10],s4,c4,by go_num,hk9,rfl,Lib.hid ⟨?_,?_⟩,HE,by simp [hes],rfl,Lib.hid ?_,hK.trans hC4 fun b o hb h => ?_⟩
              · rw [← h1];rfl
              · rw [Nat.pow_succ,← Nat.div_div_eq_div_mul,h2]
              · rw [HZ.out] at hS4
                simpa [List.append_assoc] using hS4
              · obtain ⟨a,ha,rfl⟩ :=h
                have :=(hS.out.lt ha).1
                omega
            case measure => simp [intOf];omega
          · obtain rfl : D = 0 :=by omega
            have hin2 : (i : Int) + 1 < (n : Int) :=by have :=hd.out.1;omega
            clear hst hmV
            go_wp2_with (at_builtin;refine wp_gapp1 T76 (w0 :=w) rfl (.tmp 31) (.tmp 36) rfl rfl rfl rfl hS.out hK.size hlen (by omega) (by omega) ?_;intro s4 c4 w4 hS4 hC4 hD4)
            go_roundw
            case rel =>
              obtain ⟨⟨h1,h2⟩,hst,hmV⟩ :=HD.out
              have hd0 : d = 0 :=by omega
              refine ⟨k + 1,d / 10,_,es ++ [d % 10],s4,c4,by go_num,hk9,rfl,Lib.hid ⟨?_,?_⟩,HE,by simp [hes],rfl,Lib.hid ?_,hK.trans hC4 fun b o hb h => ?_⟩
              · rw [hd0];rfl
              · rw [Nat.pow_succ,← Nat.div_div_eq_div_mul,h2]
              · subst hd0
                simpa [List.append_assoc] using hS4
              · obtain ⟨a,ha,rfl⟩ :=h
                have :=(hS.out.lt ha).1
                omega
            case measure => simp [intOf];omega
        · have hx : k = 9 ∨ (more = false ∧ r / 10 ^ k = 0) :=by
            rcases Nat.lt_or_ge k 9 with h | h
            · refine .inr ⟨?_,by rw [hd.out.2];omega⟩
              rw [← hmo]
              exact decide_eq_false (by omega)
            · exact .inl (by omega)
          have hdn :=hEm.out.done HV.out.2.2.1 hk hx hmo.symm
          have hdl2 : dl X = (ys ++ es) ++ dl (val L9 (xs.drop (i + 1))) :=by
            rw [HV.out.1,hdl.out,HV.out.2.1,hdn,List.append_assoc]
          have hlen : n3 + k ≤ 1000 :=by
            have h1 :=dl_length_le 1000 _ HN.out.2.2.1
            rw [hdl2] at h1
            simp only [List.length_append] at h1
            omega
          have HDn :=Lib.hid (And.intro hdl2 hlen)
          clear hdl2 hlen
          have HM :=Lib.hid (And.intro hmV hst)
          rcases Nat.lt_or_ge k 9 with hk9 | hk9
          · have hd0 : d = 0 :=by omega
            have hin2 : ¬ ((i : Int) + 1 < (n : Int)) :=by omega
            obtain rfl : D = 0 :=by have :=hd.out.1;omega
            clear hx hdn hmV hst hdr
            go_wp2
            go_roundw
            case rel =>
              obtain ⟨hdl2,hlen⟩ :=HDn.out
              exact ⟨i + 1,s',c',n3 + k,ys ++ es,by go_num,hin,rfl,by simp [hn3,hes],hlen,Lib.hid hdl2,hS,hK⟩
            case measure => simp [intOf];omega
          · obtain rfl : k = 9 :=by omega
            clear hx hdn hmV hst hdr
            go_wp2
            go_roundw
            case rel =>
              obtain ⟨hdl2,hlen⟩ :=HDn.out
              exact ⟨i + 1,s',c',n3 + 9,ys ++ es,by go_num,hin,rfl,by simp [hn3,hes],hlen,Lib.hid hdl2,hS,hK⟩
            case measure => simp [intOf];omega
    · obtain rfl : i = n :=by omega
      have hys : dl X = ys :=by
        have :=hdl.out
        rw [List.drop_of_length_le (by omega)] at this
        simpa [val,dl_zero] using this
      rcases Nat.eq_zero_or_pos n3 with rfl | hp
      · have hX0 : X = 0 :=by
          rcases Nat.eq_zero_or_pos X with h | h
          · exact h
          · rw [dl_pos (by omega)] at hys
            rw [← hys] at hn3;simp at hn3
        clear hys
        go_wp2
        first | go_ret | refine ⟨_,results_tmp rfl _ _ _,?_⟩
        exact ⟨by subst hX0;rfl,hK⟩
      · have hn60 : ((n3 : Int) == 0) = false :=by simp;omega
        have hX0 : X ≠ 0 :=fun h => by subst h;rw [dl_zero] at hys;rw [← hys] at hn3;simp at hn3;omega
        obtain ⟨L,hL⟩ : ∃ L,ys.map (48 + ·) = L :=⟨_,rfl⟩
        have hL2 : digT X = L.reverse :=by rw [← hL,← hys,digT_eq hX0]
        have hLl : L.length = n3 :=by rw [← hL];simp [hn3]
        have hS' : Sl .u8 w wr s3 c3 L :=by rw [← hL];exact hS.out
        have hs3 : ∃ g,s3 = some ⟨g,0,none⟩ ∧ w.heap.size ≤ g ∧ OutK .u8 wr g 0 c3 L :=by
          cases s3 with
          | none => have :=(hS'.nil rfl).1;rw [this] at hLl;simp at hLl;omega
          | some a => obtain ⟨g,rfl,h0,_,h⟩ :=hS'.own a rfl;exact ⟨g,rfl,h0,h⟩
        obtain ⟨g,rfl,hg,hO⟩ :=hs3
        have HL :=Lib.hid hL2
        clear hL2 hL hS' hS hys
        go_wp2
        go_loopw [7,8] (fun t7 t8 wx => ∃ (i : Nat) (zs : List Nat),2 * i ≤ n3 ∧ t7 = .int .i64 i ∧ t8 = .int .i64 ((n3 : Int) - 1 - i) ∧ Turned L zs i ∧ OutK .u8 wx g 0 c3 zs ∧ Kept w wx) (fun t7 _ _ => n3 - (intOf t7).toNat)
        case atStart => exact ⟨0,L,by omega,rfl,by first | rfl | (congr 1;omega),Turned.start L,hO,hK⟩
        case round =>
          clear hO hK
          obtain ⟨j,zs,hj,rfl,rfl,hT,hO,hK⟩ :=hrel
          have hzl : zs.length = n3 :=hT.1.trans hLl
          have hcN :=hO.le
          by_cases hlt : 2 * j + 1 < n3
          · obtain ⟨k,hk⟩ : ∃ k,k + 1 + j = n3 :=⟨n3 - 1 - j,by omega⟩
            have e1 : ((n3 : Int) - 1 - j) = (k : Int) :=by omega
            have gx : zs[k]? = some zs[k] :=List.getElem?_eq_getElem (by omega)
            have gy : zs[j]? = some zs[j] :=List.getElem?_eq_getElem (by omega)
            generalize zs[k] = x at gx
            generalize zs[j] = y at gy
            have cx :=hO.row k x gx
            have cy :=hO.row j y gy
            have fi :=(hO.room j (by omega)).2
            have fk :=(hO.room k (by omega)).2
            have hik : j < k :=by omega
            have hkN : k < n3 :=by omega
            have hO3 :=(hO.set x (i :=j) (by omega)).set y (i :=k) (by simp;omega)
            have hT3 :=hT.step (by rw [hLl];exact hk) hik gx gy
            have HH :=Lib.hid (And.intro hO3 hT3)
            simp only [Nat.zero_add] at cx cy fi fk
            have cy2 :=cs_ne (u :=.int .u8 (x : Int)) cx (b' :=g) (o' :=j) (by omega)
            rw [e1]
            clear hO hT hO3 hT3
            go_wp2_with (first
              | (refine wp_region_lit_segs (id :=16) [[0,1,2,3,4,5,6,7,8,9,10,11,12,13,14,15]] mixed (by kernel_rfl) ?_;simp only [wpSegsL,gaC,gaN,lZ0,lS0,coS])
              | refine ⟨by kernel_rfl,?_⟩)
            go_roundw
            case rel =>
              obtain ⟨hO3,hT3⟩ :=HH.out
              simp only [Nat.zero_add] at hO3
              refine ⟨j + 1,(zs.set j x).set k y,by omega,by go_num,by first | rfl | (congr 1;omega),hT3,?_,?_⟩
              · first | exact hO3 | exact hO3.kept (Chg.refl _ _).drew
              · refine Chg.keptNew (M :=fun p _ => p = g) hK ?_ fun p _ h => by omega
                exact ((Chg.refl _ _).drew.trans (Chg.setCell _ g j _ (fun p _ => p = g) fun _ => rfl) fun _ _ _ h => h).trans (Chg.setCell _ g k _ (fun p _ => p = g) fun _ => rfl) fun _ _ _ h => h
            case measure => simp [intOf];omega
          · have hij : ¬ ((j : Int) < (n3 : Int) - 1 - j) :=by omega
            have hz :=hT.done (by omega)
            have hrow :=hO.row
            rw [hz] at hrow
            have hstr :=bytes_str wr g n3 c3 L.reverse (by simp [hLl]) (by
              rw [← HL.out]
              intro c hc
              have :=digT_range _ c hc
              omega) hrow
            go_wp2
            first | go_ret | refine ⟨_,results_tmp rfl _ _ _,?_⟩
            exact ⟨by rw [HL.out];rfl,hK⟩
end Go.Proofs.YtfmmdamgcpiciaaGreatDoor
namespace Go.Proofs.YtfmmdamgcpiciaaGreatDoor
open Go Go.RowKit
theorem readD_chunk {D : List Nat} {b e : Nat} (hbe : b ≤ e) : readD (D.take e) = readD (D.take b) * 10 ^ ((D.drop b).take (e - b)).length + readD ((D.drop b).take (e - b)) :=by
  have : D.take e = D.take b ++ (D.drop b).take (e - b) :=by
    rw [← List.take_add]
    congr 1
    omega
  rw [this,readD_append]
def OfI (D : List Nat) (e : Nat) (zs : List Nat) : Prop :=Lt L9 zs ∧ val L9 zs + L9 ^ zs.length * readD (D.take e) = readD D
theorem OfI.step {D zs : List Nat} {e : Nat} (h : OfI D e zs) (he : e ≤ D.length) (hD : ∀ c ∈ D,48 ≤ c ∧ c ≤ 57) (he0 : 0 < e) : OfI D (e - 9) (zs ++ [readD ((D.drop (e - 9)).take (e - (e - 9)))]) :=by
  obtain ⟨h1,h2⟩ :=h
  have hc :=readD_chunk (D :=D) (b :=e - 9) (e :=e) (by omega)
  have hl : ((D.drop (e - 9)).take (e - (e - 9))).length = e - (e - 9) :=by rw [List.length_take,List.length_drop];omega
  have hlt :=readD_lt ((D.drop (e - 9)).take (e - (e - 9))) fun c hc => hD c (List.mem_of_mem_drop (List.mem_of_mem_take hc))
  rw [hl] at hc hlt
  have h9 : 10 ^ (e - (e - 9)) ≤ 10 ^ 9 :=Nat.pow_le_pow_right (by decide) (by omega)
  refine ⟨h1.snoc (Nat.lt_of_lt_of_le hlt h9),?_⟩
  rw [val_snoc,List.length_append,List.length_singleton,← h2,hc,Nat.pow_succ,Nat.add_assoc,Nat.mul_assoc,← Nat.mul_add]
  congr 2
  rcases Nat.lt_or_ge e 9 with h | h
  · have : e - 9 = 0 :=by omega
    rw [this]
    simp [readD]
  · rw [show e - (e - 9) = 9 by omega,Nat.mul_comm (readD (D.take (e - 9))),Nat.add_comm]
theorem natOf (w : World) (D : List Nat) (hD : ∀ c ∈ D,48 ≤ c ∧ c ≤ 57) (hne : D ≠ []) (hl : D.length ≤ 1000) : Calls Tryz.prog 50 #[str D] w fun r w' => (∃ v,r = .returned (.tuple #[v,.bool true]) ∧ NV w' v (readD D)) ∧ Kept w w' :=by
  obtain ⟨N,hN⟩ : ∃ N,D.length = N :=⟨_,rfl⟩
  have hNp : 0 < N :=by rw [← hN];exact List.length_pos_iff.2 hne
  obtain ⟨s,hs⟩ : ∃ s,bs D = s :=⟨_,rfl⟩
  have hsz : s.size = N :=by rw [← hs,bs_size,hN]
  have hget : ∀ j x,D[j]? = some x → ∀ h : j < s.size,(s[j]'h).toNat = x :=by
    subst hs
    intro j x hj h
    exact bs_get hj (by have :=hD x (List.mem_of_getElem? hj);omega) h
  have hsne : s.toList.isEmpty = false :=by
    rw [← hs]
    obtain ⟨c,l,rfl⟩ :=List.exists_cons_of_ne_nil hne
    rw [bs,ByteArray.toList_mk]
    rfl
  rw [str_bs,hs]
  have HG :=Lib.hid (And.intro hget (And.intro hD hN))
  clear hs hget hD
  go_enter Tryz.func50,Tryz.ntmps50
  go_wp2
  go_loopw [4,5] (fun t4 t5 wx => ∃ (E : Int) (e n : Nat) (zs : List Nat) (s4 : Option Addr) (c4 : Nat),t5 = .int .i64 E ∧ -9 < E ∧ e = E.toNat ∧ e ≤ N ∧ t4 = .slice s4 n c4 ∧ zs.length = n ∧ n + e ≤ N + 9 ∧ Hid (OfI D e zs) ∧ Hid (Sl .u32 w wx s4 c4 zs) ∧ Kept w wx) (fun _ t5 _ => (intOf t5).toNat)
  case atStart => exact ⟨N,N,0,[],none,0,rfl,by omega,by omega,Nat.le_refl _,rfl,rfl,by omega,Lib.hid ⟨Lt.nil,by rw [List.take_of_length_le (by omega)];simp [val]⟩,Lib.hid Sl.start,Chg.refl _ _⟩
  case round =>
    obtain ⟨E,e,n,zs,s4,c4,rfl,hE9,he,heN,rfl,hzl,hne9,hI,hS,hK⟩ :=hrel
    rcases Nat.eq_zero_or_pos e with rfl | hep
    · have hE0 : ¬ 0 < E :=by omega
      have hv :=hI.out.2
      have hv2 : val L9 zs = readD D :=by simpa [readD] using hv
      have ht :=natTrim wr s4 n c4 zs hzl (by rw [← hzl];exact hS.out.le) hS.out.cap (by omega) (Rd.of_Sl hS.out) hI.out.1
      rw [hv2] at ht
      have HK :=Lib.hid hK
      clear hv hv2
      go_wp2_with (go_at_call 80;refine ht.mono ?_;rintro r w2 ⟨rfl,n',rfl,hD⟩)
      first | go_ret2 | refine ⟨_,results_tmp2 rfl _ _ _,?_⟩
      exact ⟨⟨_,by first | rfl | (show Ending.returned (.tuple #[.slice s4 n' c4,.bool (!s.toList.isEmpty)]) = _;rw [hsne];rfl),_,n',_,rfl,hD⟩,HK.out⟩
    · have hEe : E = (e : Int) :=by omega
      have hst :=hI.out.step (by rw [HG.out.2.2];exact heN) HG.out.2.1 hep
      obtain ⟨b,hb⟩ : ∃ b,e - 9 = b :=⟨_,rfl⟩
      rw [hb] at hst
      have hmx : max 0 (E - 9) = (b : Int) :=by omega
      have hE0 : 0 < E :=by omega
      have hE1 : E ≤ 1000 :=by omega
      have hbe : b < e :=by omega
      have HST :=Lib.hid (And.intro hst hb)
      have HE :=Lib.hid (And.intro hEe he)
      clear hst hb hEe he
      go_upto_block 2 with fail
      go_cut [6,7] from 17 to 39 (fun t6 t7 wx => wr = wx ∧ ∃ M : Int,t6 = .int .u32 M ∧ M = (readD ((D.drop b).take (e - b)) : Nat))
      case first =>
        go_wp2
        go_loop [6,7] (fun t6 t7 => ∃ (i m : Nat) (M : Int),t7 = .int .i64 i ∧ b ≤ i ∧ i ≤ e ∧ t6 = .int .u32 M ∧ Hid (M = m ∧ m = readD ((D.drop b).take (i - b)))) (fun _ t7 => e - (intOf t7).toNat)
        case atStart => exact ⟨b,0,0,rfl,Nat.le_refl _,by omega,rfl,Lib.hid ⟨rfl,by rw [Nat.sub_self];rfl⟩⟩
        case round =>
          obtain ⟨i,m,M,rfl,hbi,hie,rfl,hM⟩ :=hrel
          have M0 : 0 ≤ M :=by have :=hM.out.1;omega
          rcases Nat.lt_or_ge i e with hi | hi
          · have hiN : i < N :=by omega
            have hiE : (i : Int) < E :=by have :=HE.out.1;omega
            have hml : m < 10 ^ (i - b) :=by
              rw [hM.out.2]
              have :=readD_lt ((D.drop b).take (i - b)) fun c hc => HG.out.2.1 c (List.mem_of_mem_drop (List.mem_of_mem_take hc))
              rwa [List.length_take,List.length_drop,Nat.min_eq_left (by have :=HG.out.2.2;omega)] at this
            have h8 : 10 ^ (i - b) ≤ 10 ^ 8 :=Nat.pow_le_pow_right (by decide) (by have :=HST.out.2;omega)
            have M1 : M ≤ 99999999 :=by have :=hM.out.1;omega
            have gx : D[i]? = some D[i] :=List.getElem?_eq_getElem (by have :=HG.out.2.2;omega)
            have hx :=HG.out.2.1 _ (List.getElem_mem (by have :=HG.out.2.2;omega : i < D.length))
            have hnx : readD ((D.drop b).take (i - b + 1)) = m * 10 + (D[i] - 48) :=by
              rw [readD_take (x :=D[i]) (by rw [List.getElem?_drop,show b + (i - b) = i by omega];exact gx),← hM.out.2]
            generalize D[i] = x at gx hx hnx
            have hidx : ∀ W,(Instr.index 9 (.string s) (.int .i64 (i : Int))).run Tryz.prog W = .ok (.int .u8 (x : Int)) W :=fun W => str_index s i x W (by omega) (HG.out.1 i x gx)
            obtain ⟨A,eA⟩ : ∃ A : Int,(x : Int) = A :=⟨_,rfl⟩
            rw [eA] at hidx
            have A1 : 48 ≤ A :=by omega
            have A2 : A ≤ 57 :=by omega
            have HH :=Lib.hid (And.intro hnx (And.intro eA hx))
            clear hml h8 gx hx hnx eA
            go_wp2
            go_round
            case rel =>
              obtain ⟨hnx,eA,hx⟩ :=HH.out
              refine ⟨i + 1,m * 10 + (x - 48),_,by go_num,by omega,hi,rfl,Lib.hid ⟨?_,?_⟩⟩
              · rw [hM.out.1,← eA];omega
              · rw [show i + 1 - b = i - b + 1 by omega,hnx]
            case measure => simp [intOf];omega
          · obtain rfl : i = e :=by omega
            have hiE : ¬ (i : Int) < E :=by have :=HE.out.1;omega
            go_wp2
            go_meet
            exact ⟨rfl,M,rfl,by rw [hM.out.1,hM.out.2]⟩
      case rest =>
        obtain ⟨rfl,M,rfl,hM⟩ :=hcut
        have hlt :=HST.out.1.1
        have hM9 : (readD ((D.drop b).take (e - b))) < L9 :=hlt _ (by simp)
        have M0 : 0 ≤ M :=by omega
        have eM : M.toNat = readD ((D.drop b).take (e - b)) :=by omega
        have HM :=Lib.hid (And.intro eM hM9)
        clear hlt hM9 eM hM
        go_wp2_with (at_builtin;refine wp_gapp1 T26 (w0 :=w) rfl (.tmp 40) (.tmp 42) rfl rfl rfl rfl hS.out hK.size hzl (by omega) M0 ?_;intro s5 c5 w5 hS5 hC5 hD5)
        go_roundw
        case rel =>
          obtain ⟨eM,hM9⟩ :=HM.out
          rw [eM] at hS5
          have hst :=HST.out.1
          obtain ⟨hEe,he⟩ :=HE.out
          refine ⟨_,b,n + 1,_,s5,c5,rfl,by omega,by have :=HST.out.2;omega,by omega,rfl,by simp [hzl],by have :=HST.out.2;omega,Lib.hid hst,Lib.hid hS5,hK.trans hC5 fun b' o hb h => ?_⟩
          obtain ⟨a,ha,rfl⟩ :=h
          have :=(hS.out.lt ha).1
          omega
        case measure => simp [intOf];omega
end Go.Proofs.YtfmmdamgcpiciaaGreatDoor
namespace Go.Proofs.YtfmmdamgcpiciaaGreatDoor
open Go Go.RowKit
def WV (w : World) (v : Value) (Z : Int) : Prop :=∃ s n c,v = .agg #[.bool (decide (Z < 0)),.slice s n c] ∧ Dig w s n c Z.natAbs
theorem WV.kept {w w' : World} {v : Value} {Z : Int} (h : WV w v Z) (k : Kept w w') : WV w' v Z :=by
  obtain ⟨s,n,c,h1,h2⟩ :=h
  exact ⟨s,n,c,h1,h2.kept k⟩
abbrev Box28 (w : World) (x y : Value) : World :=w.alloc (.cells #[x,y] 28)
theorem slot28 (w : World) (x y : Value) : Slot (Box28 w x y) w.heap.size :=⟨⟨_,by rw [World.cell?_alloc_at _ _ _ _ rfl];rfl⟩,⟨_,by rw [World.cell?_alloc_at _ _ _ _ rfl];rfl⟩,NF.made w _ _⟩
theorem box28_0 (w : World) (x y : Value) : (Box28 w x y).cell? ⟨w.heap.size,0,none⟩ = some x :=by rw [World.cell?_alloc_at _ _ _ _ rfl];rfl
theorem box28_1 (w : World) (x y : Value) : (Box28 w x y).cell? ⟨w.heap.size,1,none⟩ = some y :=by rw [World.cell?_alloc_at _ _ _ _ rfl];rfl
theorem info28 : (Tryz.prog.info? 28).map (fun i => (i.zero,i.size,i.bytes)) = some (some (.agg #[.bool false,.slice none 0 0]),2,32) :=by kernel_rfl
theorem results_28 {fn : Func} {t r : Nat} {tmps : Array Value} {w : World} {x y : Value} (h : fn.results = #[.cell t 28]) (hp : tmps.getD t undef = ptr r) (h0 : w.cell? ⟨r,0,none⟩ = some x) (h1 : w.cell? ⟨r,1,none⟩ = some y) :
    (results fn tmps).run Tryz.prog w = .ok (.agg #[x,y]) w :=by
  obtain ⟨i0,hi,hz0,hz1,hz2⟩ :=info_parts info28
  have hp' : tmps[t]?.getD undef = ptr r :=by simpa using hp
  simp [results,h,hp',go_sem,hi,hz1,h0,h1]
def sgn (b : Bool) (X : Nat) : Int :=if b then -(X : Int) else X
theorem sgn_abs (b : Bool) (X : Nat) : (sgn b X).natAbs = X :=by unfold sgn;split <;> simp
theorem sgn_neg (b : Bool) (X : Nat) : decide (sgn b X < 0) = (b && decide (X ≠ 0)) :=by
  unfold sgn
  cases b
  · simp
  · rw [Bool.eq_iff_iff];simp;omega
theorem sgn_of (Z : Int) : sgn (decide (Z < 0)) Z.natAbs = Z :=by
  unfold sgn
  split
  · rename_i h;have :=of_decide_eq_true h;omega
  · rename_i h;have : ¬ Z < 0 :=fun h2 => h (decide_eq_true h2);omega
theorem wholeOf (w : World) (b : Bool) (v : Value) (X : Nat) (hv : NV w v X) : Calls Tryz.prog 35 #[.bool b,v] w fun r w' => (∃ v',r = .returned v' ∧ WV w' v' (sgn b X)) ∧ Kept w w' :=by
  obtain ⟨s,n,c,rfl,hd⟩ :=hv
  have hz :=hd.zero
  have S :=slot28 w (.bool false) (.slice none 0 0)
  obtain ⟨⟨u0,s0⟩,⟨u1,s1⟩,sf⟩ :=id S
  have f0 :=sf 0
  have f1 :=sf 1
  have k0 : Kept w (Box28 w (.bool false) (.slice none 0 0)) :=Chg.alloc _ _ _
  obtain ⟨W,hW⟩ : ∃ W,w.alloc (.cells #[.bool false,.slice none 0 0] 28) = W :=⟨_,rfl⟩
  simp only [Box28,hW] at S s0 s1 f0 f1 k0
  have hD :=hd.kept k0
  have fin : ∀ bb : Bool,bb = (b && decide (n ≠ 0)) → ∃ v',(.agg #[.bool bb,.slice s n c] : Value) = v' ∧ WV (put2 W w.heap.size (.bool bb) (.slice s n c)) v' (sgn b X) ∧ Kept w (put2 W w.heap.size (.bool bb) (.slice s n c)) :=by
    intro bb hb
    have kk : Kept w (put2 W w.heap.size (.bool bb) (.slice s n c)) :=k0.keptNew (put2_chg _ _ _ _) fun b _ h => by omega
    refine ⟨_,rfl,⟨s,n,c,?_,?_⟩,kk⟩
    · have e : decide (n ≠ 0) = decide (X ≠ 0) :=decide_eq_decide.2 (not_congr hz)
      rw [sgn_neg,hb,e]
    · rw [sgn_abs];exact hd.kept kk
  have s2 :=fun bb : Bool => cs_ne (u :=.bool bb) s1 (b' :=w.heap.size) (o' :=0) (by omega)
  have HF :=Lib.hid fin
  have HW :=Lib.hid hW
  clear fin hz hd hD k0 hW
  cases b
  · go_enter Tryz.func35,Tryz.ntmps35
    go_upto_region 1 with fail
    rw [HW.out]
    go_wp2
    obtain ⟨v',rfl,h1,h2⟩ :=HF.out false rfl
    exact bodyPost_ret (results_28 rfl rfl (put2_0 S _ _) (put2_1 S _ _)) rfl ⟨⟨_,rfl,h1⟩,h2⟩
  · rcases Nat.eq_zero_or_pos n with rfl | hn
    · go_enter Tryz.func35,Tryz.ntmps35
      go_upto_region 1 with fail
      rw [HW.out]
      go_wp2
      obtain ⟨v',rfl,h1,h2⟩ :=HF.out false rfl
      exact bodyPost_ret (results_28 rfl rfl (put2_0 S _ _) (put2_1 S _ _)) rfl ⟨⟨_,rfl,h1⟩,h2⟩
    · have hni : (n : Int) > 0 :=by omega
      have hb :=Lib.hid (show true = (true && decide (n ≠ 0)) by simp;omega)
      go_enter Tryz.func35,Tryz.ntmps35
      go_upto_region 1 with fail
      rw [HW.out]
      go_wp2
      obtain ⟨v',rfl,h1,h2⟩ :=HF.out true hb.out
      exact bodyPost_ret (results_28 rfl rfl (put2_0 S _ _) (put2_1 S _ _)) rfl ⟨⟨_,rfl,h1⟩,h2⟩
theorem Dig.set {w w' : World} {s : Option Addr} {n c X r : Nat} {b : Bool} (h : Dig w s n c X) (hr : w.cell? ⟨r,0,none⟩ = some (.bool b)) (kc : Chg w w' fun p _ => p = r) : Dig w' s n c X :=by
  obtain ⟨xs,h1,h2,h3,h4,h5,h6⟩ :=h
  refine ⟨xs,h1,h2,h3,h4,?_,h6⟩
  rcases h5 with h | ⟨g,rfl,h⟩
  · exact .inl h
  · rcases Nat.eq_zero_or_pos xs.length with h0 | h0
    · exact .inl (List.eq_nil_of_length_eq_zero h0)
    · refine .inr ⟨g,rfl,h.chg kc fun j _ e => ?_⟩
      have :=h 0 xs[0] (List.getElem?_eq_getElem h0)
      rw [e,Nat.zero_add,hr] at this
      cases this
theorem WV.set {w w' : World} {v : Value} {Z : Int} {r : Nat} {b : Bool} (h : WV w v Z) (hr : w.cell? ⟨r,0,none⟩ = some (.bool b)) (kc : Chg w w' fun p _ => p = r) : WV w' v Z :=by
  obtain ⟨s,n,c,h1,h2⟩ :=h
  exact ⟨s,n,c,h1,h2.set hr kc⟩
theorem sgn_minus (Z : Int) : sgn (!decide (Z < 0)) Z.natAbs = -Z :=by
  unfold sgn
  by_cases h : Z < 0
  · rw [decide_eq_true h];simp;omega
  · rw [decide_eq_false h];simp;omega
theorem WV.nv {w : World} {s : Option Addr} {n c : Nat} {b : Bool} {Z : Int} (h : WV w (.agg #[.bool b,.slice s n c]) Z) : b = decide (Z < 0) ∧ Dig w s n c Z.natAbs :=by
  obtain ⟨s',n',c',h1,h2⟩ :=h
  injection h1 with h1
  have h3 :=Array.mk.inj h1
  injection h3 with e1 e2
  injection e2 with e3 e4
  injection e1 with e1
  injection e3 with e3 e5 e6
  subst e1 e3 e5 e6
  exact ⟨rfl,h2⟩
theorem wholeMinus (w : World) (v : Value) (Z : Int) (hv : WV w v Z) : Calls Tryz.prog 10 #[v] w fun r w' => (∃ v',r = .returned v' ∧ WV w' v' (-Z)) ∧ Kept w w' :=by
  obtain ⟨s,n,c,rfl,hd⟩ :=hv
  obtain ⟨b,hb⟩ : ∃ b,decide (Z < 0) = b :=⟨_,rfl⟩
  have hneg :=sgn_minus Z
  rw [hb] at hneg ⊢
  have k1 : Kept w (Box28 w (.bool b) (.slice s n c)) :=Chg.alloc _ _ _
  have k2 : Kept (Box28 w (.bool b) (.slice s n c)) (Box28 (Box28 w (.bool b) (.slice s n c)) (.bool false) (.slice none 0 0)) :=Chg.alloc _ _ _
  have c0 :=Kept.at k2 (box28_0 w (.bool b) (.slice s n c))
  have c1 :=Kept.at k2 (box28_1 w (.bool b) (.slice s n c))
  have S0 :=slot28 (Box28 w (.bool b) (.slice s n c)) (.bool false) (.slice none 0 0)
  have r0 :=box28_0 (Box28 w (.bool b) (.slice s n c)) (.bool false) (.slice none 0 0)
  have e1 : (Box28 w (.bool b) (.slice s n c)).heap.size = w.heap.size + 1 :=by simp
  rw [e1] at S0 r0
  have hw :=wholeOf (Box28 (Box28 w (.bool b) (.slice s n c)) (.bool false) (.slice none 0 0)) (!b) (.slice s n c) Z.natAbs ⟨_,_,_,rfl,hd.kept (kt k1 k2)⟩
  rw [hneg] at hw
  have HK :=Lib.hid (kt k1 k2)
  clear hneg hb hd k1 k2
  obtain ⟨Y,hY⟩ : ∃ Y,-Z = Y :=⟨_,rfl⟩
  rw [hY] at hw ⊢
  go_enter Tryz.func10,Tryz.ntmps10
  go_wp2_with (go_at_call 35;refine hw.mono ?_;rintro r w1 ⟨⟨v1,rfl,s',n',c',rfl,hd1⟩,q1⟩;have S :=S0.kept q1;have r1 :=Kept.at q1 r0;obtain ⟨⟨u0,s0⟩,⟨u1,s1⟩,sf⟩ :=id S;have f0 :=sf 0;have f1 :=sf 1;have s2 :=cs_ne (u :=.bool (decide (Y < 0))) s1 (b' :=w.heap.size + 1) (o' :=0) (by omega))
  exact bodyPost_ret (results_28 rfl rfl (put2_0 S _ _) (put2_1 S _ _)) rfl ⟨⟨_,rfl,s',n',c',rfl,hd1.set r1 (put2_chg _ _ _ _)⟩,(kt HK.out q1).keptNew (put2_chg _ _ _ _) fun b' _ h => by omega⟩
end Go.Proofs.YtfmmdamgcpiciaaGreatDoor
namespace Go.Proofs.YtfmmdamgcpiciaaGreatDoor
open Go Go.RowKit
structure Two28 (w W : World) (a0 a1 b0 b1 : Value) : Prop where
  k : Kept w W
  a0 : W.cell? ⟨w.heap.size,0,none⟩ = some a0
  a1 : W.cell? ⟨w.heap.size,1,none⟩ = some a1
  b0 : W.cell? ⟨w.heap.size + 1,0,none⟩ = some b0
  b1 : W.cell? ⟨w.heap.size + 1,1,none⟩ = some b1
  r0 : W.cell? ⟨w.heap.size + 2,0,none⟩ = some (.bool false)
  S : Slot W (w.heap.size + 2)
theorem two28 (w : World) (a0 a1 b0 b1 : Value) : Two28 w (((w.alloc (.cells #[a0,a1] 28)).alloc (.cells #[b0,b1] 28)).alloc (.cells #[.bool false,.slice none 0 0] 28)) a0 a1 b0 b1 :=by
  have k1 : Kept w (Box28 w a0 a1) :=Chg.alloc _ _ _
  have k2 : Kept (Box28 w a0 a1) (Box28 (Box28 w a0 a1) b0 b1) :=Chg.alloc _ _ _
  have k3 : Kept (Box28 (Box28 w a0 a1) b0 b1) (Box28 (Box28 (Box28 w a0 a1) b0 b1) (.bool false) (.slice none 0 0)) :=Chg.alloc _ _ _
  have e1 : (Box28 w a0 a1).heap.size = w.heap.size + 1 :=by simp
  have e2 : (Box28 (Box28 w a0 a1) b0 b1).heap.size = w.heap.size + 2 :=by simp
  have x0 :=box28_0 (Box28 w a0 a1) b0 b1
  have x1 :=box28_1 (Box28 w a0 a1) b0 b1
  have y0 :=box28_0 (Box28 (Box28 w a0 a1) b0 b1) (.bool false) (.slice none 0 0)
  have yS :=slot28 (Box28 (Box28 w a0 a1) b0 b1) (.bool false) (.slice none 0 0)
  rw [e1] at x0 x1
  rw [e2] at y0 yS
  exact ⟨kt k1 (kt k2 k3),Kept.at (kt k2 k3) (box28_0 w a0 a1),Kept.at (kt k2 k3) (box28_1 w a0 a1),Kept.at k3 x0,Kept.at k3 x1,y0,yS⟩
theorem Two28.keep {w W W' : World} {a0 a1 b0 b1 : Value} (h : Two28 w W a0 a1 b0 b1) (k : Kept W W') : Two28 w W' a0 a1 b0 b1 :=⟨kt h.k k,Kept.at k h.a0,Kept.at k h.a1,Kept.at k h.b0,Kept.at k h.b1,Kept.at k h.r0,h.S.kept k⟩
theorem sgn_mul (A B : Int) : sgn (decide (A < 0) != decide (B < 0)) (A.natAbs * B.natAbs) = A * B :=by
  rw [← Int.natAbs_mul]
  unfold sgn
  by_cases ha : A < 0 <;> by_cases hb : B < 0
  · rw [decide_eq_true ha,decide_eq_true hb]
    have :=Int.mul_nonneg_of_nonpos_of_nonpos (Int.le_of_lt ha) (Int.le_of_lt hb)
    simp;omega
  · rw [decide_eq_true ha,decide_eq_false hb]
    have :=Int.mul_nonpos_of_nonpos_of_nonneg (Int.le_of_lt ha) (by omega : 0 ≤ B)
    simp;omega
  · rw [decide_eq_false ha,decide_eq_true hb]
    have :=Int.mul_nonpos_of_nonneg_of_nonpos (by omega : 0 ≤ A) (Int.le_of_lt hb)
    simp;omega
  · rw [decide_eq_false ha,decide_eq_false hb]
    have :=Int.mul_nonneg (by omega : 0 ≤ A) (by omega : 0 ≤ B)
    simp;omega
abbrev Sm (X : Nat) : Prop :=X < L9 ^ 399999
theorem Dig.sm {w : World} {s : Option Addr} {n c X : Nat} (h : Dig w s n c X) (hs : Sm X) : n < 400000 :=by
  have :=h.len_le hs
  omega
theorem wholeMul (w : World) (v1 v2 : Value) (A B : Int) (h1 : WV w v1 A) (h2 : WV w v2 B) (hA : Sm A.natAbs) (hB : Sm B.natAbs) : Calls Tryz.prog 39 #[v1,v2] w fun r w' => (∃ v',r = .returned v' ∧ WV w' v' (A * B)) ∧ Kept w w' :=by
  obtain ⟨s1,n1,c1,rfl,d1⟩ :=h1
  obtain ⟨s2,n2,c2,rfl,d2⟩ :=h2
  have l1 :=d1.sm hA
  have l2 :=d2.sm hB
  clear hA hB
  have hs :=sgn_mul A B
  obtain ⟨a,ha⟩ : ∃ b,decide (A < 0) = b :=⟨_,rfl⟩
  obtain ⟨b,hb⟩ : ∃ b,decide (B < 0) = b :=⟨_,rfl⟩
  rw [ha,hb] at hs
  rw [ha,hb]
  have T :=two28 w (.bool a) (.slice s1 n1 c1) (.bool b) (.slice s2 n2 c2)
  obtain ⟨W,hW⟩ : ∃ W,((w.alloc (.cells #[.bool a,.slice s1 n1 c1] 28)).alloc (.cells #[.bool b,.slice s2 n2 c2] 28)).alloc (.cells #[.bool false,.slice none 0 0] 28) = W :=⟨_,rfl⟩
  rw [hW] at T
  have hmul : ∀ W',Kept W W' → Calls Tryz.prog 40 #[.slice s1 n1 c1,.slice s2 n2 c2] W' fun e w' => (∃ v,e = .returned v ∧ NV w' v (A.natAbs * B.natAbs)) ∧ Kept W' w' :=fun W' k => natMul W' s1 s2 n1 n2 c1 c2 _ _ (d1.kept (kt T.k k)) (d2.kept (kt T.k k)) (by omega) (by omega)
  have hwo : ∀ W' v,NV W' v (A.natAbs * B.natAbs) → Calls Tryz.prog 35 #[.bool (!(a == b)),v] W' fun r w' => (∃ v',r = .returned v' ∧ WV w' v' (A * B)) ∧ Kept W' w' :=fun W' v h => by
    have :=wholeOf W' (a != b) v _ h
    rw [hs] at this;exact this
  obtain ⟨Y,hY⟩ : ∃ Y,A * B = Y :=⟨_,rfl⟩
  rw [hY] at hwo ⊢
  have HW :=Lib.hid hW
  clear hs ha hb d1 d2 hY hW
  obtain ⟨q0,q1,q2,q3,q4,q5,q6⟩ :=id T
  go_enter Tryz.func39,Tryz.ntmps39
  go_upto_region 1 with fail
  rw [HW.out]
  go_wp2_with (first
    | (refine wp_region_lit_segs (id :=1) [[0,1,2,3,4,5,6,7,8,9],[10,11]] mixed (by kernel_rfl) ?_;simp only [wpSegsL,gaC,gaN,lZ0,lS0,coS])
    | refine ⟨by kernel_rfl,?_⟩
    | (refine ⟨by kernel_rfl,oldD kr,?_⟩)
    | (refine ⟨oldD kr,?_⟩)
    | (go_at_call 40;(with_reducible refine (hmul _ (Chg.refl _ _).drew).mono ?_);rintro r w1 ⟨⟨v1,rfl,n1⟩,p1⟩;have kr :=p1.of_drew;clear p1)
    | (go_at_call 35;(with_reducible refine (hwo _ _ n1).mono ?_);rintro r w2 ⟨⟨v3,rfl,s',n',c',rfl,hd1⟩,p2⟩;replace kr :=kt kr p2;have T2 :=T.keep kr;obtain ⟨⟨u0,s0⟩,⟨u1,s1'⟩,sf⟩ :=id T2.S;have f0 :=sf 0;have f1 :=sf 1;have s2' :=cs_ne (u :=.bool (decide (Y < 0))) s1' (b' :=w.heap.size + 2) (o' :=0) (by omega)))
  exact ⟨_,results_28 (r :=w.heap.size + 2) rfl rfl (put2_0 T2.S _ _) (put2_1 T2.S _ _),⟨s',n',c',rfl,hd1.set T2.r0 (put2_chg _ _ _ _)⟩,(kt T.k kr).keptNew (put2_chg _ _ _ _) fun b' _ h => by omega⟩
end Go.Proofs.YtfmmdamgcpiciaaGreatDoor
namespace Go.Proofs.YtfmmdamgcpiciaaGreatDoor
open Go Go.RowKit
theorem sgn_add_same (A B : Int) (h : decide (A < 0) = decide (B < 0)) : sgn (decide (A < 0)) (A.natAbs + B.natAbs) = A + B :=by
  unfold sgn
  by_cases ha : A < 0 <;> by_cases hb : B < 0 <;> simp [ha,hb] at h ⊢ <;> omega
theorem sgn_add_left (A B : Int) (h : decide (A < 0) ≠ decide (B < 0)) (hle : B.natAbs ≤ A.natAbs) : sgn (decide (A < 0)) (A.natAbs - B.natAbs) = A + B :=by
  unfold sgn
  by_cases ha : A < 0 <;> by_cases hb : B < 0 <;> simp [ha,hb] at h ⊢ <;> omega
theorem sgn_add_right (A B : Int) (h : decide (A < 0) ≠ decide (B < 0)) (hle : A.natAbs < B.natAbs) : sgn (decide (B < 0)) (B.natAbs - A.natAbs) = A + B :=by
  unfold sgn
  by_cases ha : A < 0 <;> by_cases hb : B < 0 <;> simp [ha,hb] at h ⊢ <;> omega
theorem wholeAdd_same (w : World) (v1 v2 : Value) (A B : Int) (h1 : WV w v1 A) (h2 : WV w v2 B) (hA : Sm A.natAbs) (hB : Sm B.natAbs) (hab : decide (A < 0) = decide (B < 0)) : Calls Tryz.prog 38 #[v1,v2] w fun r w' => (∃ v',r = .returned v' ∧ WV w' v' (A + B)) ∧ Kept w w' :=by
  obtain ⟨s1,n1,c1,rfl,d1⟩ :=h1
  obtain ⟨s2,n2,c2,rfl,d2⟩ :=h2
  have l1 :=d1.sm hA
  have l2 :=d2.sm hB
  clear hA hB
  obtain ⟨a,ha⟩ : ∃ b,decide (A < 0) = b :=⟨_,rfl⟩
  obtain ⟨b,hb⟩ : ∃ b,decide (B < 0) = b :=⟨_,rfl⟩
  have hs :=sgn_add_same A B hab
  rw [ha,hb] at hab
  rw [ha] at hs
  rw [ha,hb]
  have T :=two28 w (.bool a) (.slice s1 n1 c1) (.bool b) (.slice s2 n2 c2)
  obtain ⟨W,hW⟩ : ∃ W,((w.alloc (.cells #[.bool a,.slice s1 n1 c1] 28)).alloc (.cells #[.bool b,.slice s2 n2 c2] 28)).alloc (.cells #[.bool false,.slice none 0 0] 28) = W :=⟨_,rfl⟩
  rw [hW] at T
  have HW :=Lib.hid hW
  have hop : ∀ W',Kept W W' → Calls Tryz.prog 78 #[.slice s1 n1 c1,.slice s2 n2 c2] W' fun e w' => (∃ v,e = .returned v ∧ NV w' v (A.natAbs + B.natAbs)) ∧ Kept W' w' :=fun W' k => natAdd W' s1 s2 n1 n2 c1 c2 _ _ (d1.kept (kt T.k k)) (d2.kept (kt T.k k)) (by omega) (by omega)
  have hwo : ∀ W' v,NV W' v (A.natAbs + B.natAbs) → Calls Tryz.prog 35 #[.bool a,v] W' fun r w' => (∃ v',r = .returned v' ∧ WV w' v' (A + B)) ∧ Kept W' w' :=fun W' v h => by
    have :=wholeOf W' a v _ h
    rw [hs] at this;exact this
  obtain ⟨Y,hY⟩ : ∃ Y,A + B = Y :=⟨_,rfl⟩
  rw [hY] at hwo ⊢
  clear hs ha hb d1 d2 hY hW
  subst hab
  obtain ⟨q0,q1,q2,q3,q4,q5,q6⟩ :=id T
  go_enter Tryz.func38,Tryz.ntmps38
  go_upto_region 1 with fail
  rw [HW.out]
  go_wp2_with (first
    | (refine wp_region_lit_segs (id :=2) [[0,1,2,3,4,5,6],[7,8]] mixed (by kernel_rfl) ?_;simp only [wpSegsL,gaC,gaN,lZ0,lS0,coS])
    | refine ⟨by kernel_rfl,?_⟩
    | (refine ⟨by kernel_rfl,oldD kr,?_⟩)
    | (refine ⟨oldD kr,?_⟩)
    | (go_at_call 78;(with_reducible refine (hop _ (Chg.refl _ _).drew).mono ?_);rintro r w1 ⟨⟨v1,rfl,n1⟩,p1⟩;have kr :=p1.of_drew;clear p1)
    | (go_at_call 35;(with_reducible refine (hwo _ _ n1).mono ?_);rintro r w2 ⟨⟨v3,rfl,s',n',c',rfl,hd1⟩,p2⟩;replace kr :=kt kr p2;have T2 :=T.keep kr;obtain ⟨⟨u0,s0⟩,⟨u1,s1'⟩,sf⟩ :=id T2.S;have f0 :=sf 0;have f1 :=sf 1;have s2' :=cs_ne (u :=.bool (decide (Y < 0))) s1' (b' :=w.heap.size + 2) (o' :=0) (by omega)))
  first
    | exact ⟨_,results_28 (r :=w.heap.size + 2) rfl rfl (put2_0 T2.S _ _) (put2_1 T2.S _ _),⟨s',n',c',rfl,hd1.set T2.r0 (put2_chg _ _ _ _)⟩,(kt T.k kr).keptNew (put2_chg _ _ _ _) fun b' _ h => by omega⟩
    | exact bodyPost_ret (results_28 (r :=w.heap.size + 2) rfl rfl (put2_0 T2.S _ _) (put2_1 T2.S _ _)) rfl ⟨⟨_,rfl,s',n',c',rfl,hd1.set T2.r0 (put2_chg _ _ _ _)⟩,(kt T.k kr).keptNew (put2_chg _ _ _ _) fun b' _ h => by omega⟩
theorem wholeAdd_left (w : World) (v1 v2 : Value) (A B : Int) (h1 : WV w v1 A) (h2 : WV w v2 B) (hA : Sm A.natAbs) (hB : Sm B.natAbs) (hab : decide (A < 0) ≠ decide (B < 0)) (hle : B.natAbs ≤ A.natAbs) : Calls Tryz.prog 38 #[v1,v2] w fun r w' => (∃ v',r = .returned v' ∧ WV w' v' (A + B)) ∧ Kept w w' :=by
  obtain ⟨s1,n1,c1,rfl,d1⟩ :=h1
  obtain ⟨s2,n2,c2,rfl,d2⟩ :=h2
  have l1 :=d1.sm hA
  have l2 :=d2.sm hB
  clear hA hB
  obtain ⟨a,ha⟩ : ∃ b,decide (A < 0) = b :=⟨_,rfl⟩
  obtain ⟨b,hb⟩ : ∃ b,decide (B < 0) = b :=⟨_,rfl⟩
  have hs :=sgn_add_left A B hab hle
  rw [ha,hb] at hab
  rw [ha] at hs
  rw [ha,hb]
  have T :=two28 w (.bool a) (.slice s1 n1 c1) (.bool b) (.slice s2 n2 c2)
  obtain ⟨W,hW⟩ : ∃ W,((w.alloc (.cells #[.bool a,.slice s1 n1 c1] 28)).alloc (.cells #[.bool b,.slice s2 n2 c2] 28)).alloc (.cells #[.bool false,.slice none 0 0] 28) = W :=⟨_,rfl⟩
  rw [hW] at T
  have HW :=Lib.hid hW
  have hop : ∀ W',Kept W W' → Calls Tryz.prog 79 #[.slice s1 n1 c1,.slice s2 n2 c2] W' fun e w' => (∃ v,e = .returned v ∧ NV w' v (A.natAbs - B.natAbs)) ∧ Kept W' w' :=fun W' k => (natSub W' s1 s2 n1 n2 c1 c2 _ _ (d1.kept (kt T.k k)) (d2.kept (kt T.k k)) (by omega) (by omega)).mono fun r w' h => by obtain ⟨⟨v,e,n⟩,k⟩ :=h;exact ⟨⟨v,e,n.nv⟩,k⟩
  have hcm : ∀ W',Kept W W' → Calls Tryz.prog 77 #[.slice s1 n1 c1,.slice s2 n2 c2] W' fun e w' => e = .returned (.int .i64 (cmpI A.natAbs B.natAbs)) ∧ Kept W' w' :=fun W' k => natCmp W' s1 s2 n1 n2 c1 c2 _ _ (d1.kept (kt T.k k)) (d2.kept (kt T.k k))
  obtain ⟨z,hz⟩ : ∃ z,cmpI A.natAbs B.natAbs = z :=⟨_,rfl⟩
  have hzs : 0 ≤ z :=by rw [← hz];unfold cmpI;repeat' split <;> omega
  rw [hz] at hcm
  have hwo : ∀ W' v,NV W' v (A.natAbs - B.natAbs) → Calls Tryz.prog 35 #[.bool a,v] W' fun r w' => (∃ v',r = .returned v' ∧ WV w' v' (A + B)) ∧ Kept W' w' :=fun W' v h => by
    have :=wholeOf W' a v _ h
    rw [hs] at this;exact this
  obtain ⟨Y,hY⟩ : ∃ Y,A + B = Y :=⟨_,rfl⟩
  rw [hY] at hwo ⊢
  clear hs ha hb d1 d2 hY hW hle hz
  have hab2 : (a == b) = false :=by simpa using hab
  clear hab
  obtain ⟨q0,q1,q2,q3,q4,q5,q6⟩ :=id T
  go_enter Tryz.func38,Tryz.ntmps38
  go_upto_region 1 with fail
  rw [HW.out]
  go_wp2_with (first
    | (refine wp_region_lit_segs (id :=4) [[0,1,2,3,4,5,6],[7,8]] mixed (by kernel_rfl) ?_;simp only [wpSegsL,gaC,gaN,lZ0,lS0,coS])
    | refine ⟨by kernel_rfl,?_⟩
    | (refine ⟨by kernel_rfl,oldD kr,?_⟩)
    | (refine ⟨oldD kr,?_⟩)
    | (go_at_call 77;(with_reducible refine (hcm _ (Chg.refl _ _)).mono ?_);rintro r w0 ⟨rfl,p0⟩;have T1 :=T.keep p0;obtain ⟨g0,g1,g2,g3,g4,g5,g6⟩ :=id T1)
    | (go_at_call 79;(with_reducible refine (hop _ (kt p0 (Chg.refl _ _).drew)).mono ?_);rintro r w1 ⟨⟨v1,rfl,n1⟩,p1⟩;have kr :=p1.of_drew;clear p1)
    | (go_at_call 35;(with_reducible refine (hwo _ _ n1).mono ?_);rintro r w2 ⟨⟨v3,rfl,s',n',c',rfl,hd1⟩,p2⟩;replace kr :=kt kr p2;have T2 :=T.keep (kt p0 kr);obtain ⟨⟨u0,s0⟩,⟨u1,s1'⟩,sf⟩ :=id T2.S;have f0 :=sf 0;have f1 :=sf 1;have s2' :=cs_ne (u :=.bool (decide (Y < 0))) s1' (b' :=w.heap.size + 2) (o' :=0) (by omega)))
  first
    | exact ⟨_,results_28 (r :=w.heap.size + 2) rfl rfl (put2_0 T2.S _ _) (put2_1 T2.S _ _),⟨s',n',c',rfl,hd1.set T2.r0 (put2_chg _ _ _ _)⟩,(kt T.k (kt p0 kr)).keptNew (put2_chg _ _ _ _) fun b' _ h => by omega⟩
    | exact bodyPost_ret (results_28 (r :=w.heap.size + 2) rfl rfl (put2_0 T2.S _ _) (put2_1 T2.S _ _)) rfl ⟨⟨_,rfl,s',n',c',rfl,hd1.set T2.r0 (put2_chg _ _ _ _)⟩,(kt T.k (kt p0 kr)).keptNew (put2_chg _ _ _ _) fun b' _ h => by omega⟩
theorem wholeAdd_right (w : World) (v1 v2 : Value) (A B : Int) (h1 : WV w v1 A) (h2 : WV w v2 B) (hA : Sm A.natAbs) (hB : Sm B.natAbs) (hab : decide (A < 0) ≠ decide (B < 0)) (hle : A.natAbs < B.natAbs) : Calls Tryz.prog 38 #[v1,v2] w fun r w' => (∃ v',r = .returned v' ∧ WV w' v' (A + B)) ∧ Kept w w' :=by
  obtain ⟨s1,n1,c1,rfl,d1⟩ :=h1
  obtain ⟨s2,n2,c2,rfl,d2⟩ :=h2
  have l1 :=d1.sm hA
  have l2 :=d2.sm hB
  clear hA hB
  obtain ⟨a,ha⟩ : ∃ b,decide (A < 0) = b :=⟨_,rfl⟩
  obtain ⟨b,hb⟩ : ∃ b,decide (B < 0) = b :=⟨_,rfl⟩
  have hs :=sgn_add_right A B hab hle
  rw [ha,hb] at hab
  rw [hb] at hs
  rw [ha,hb]
  have T :=two28 w (.bool a) (.slice s1 n1 c1) (.bool b) (.slice s2 n2 c2)
  obtain ⟨W,hW⟩ : ∃ W,((w.alloc (.cells #[.bool a,.slice s1 n1 c1] 28)).alloc (.cells #[.bool b,.slice s2 n2 c2] 28)).alloc (.cells #[.bool false,.slice none 0 0] 28) = W :=⟨_,rfl⟩
  rw [hW] at T
  have HW :=Lib.hid hW
  have hop : ∀ W',Kept W W' → Calls Tryz.prog 79 #[.slice s2 n2 c2,.slice s1 n1 c1] W' fun e w' => (∃ v,e = .returned v ∧ NV w' v (B.natAbs - A.natAbs)) ∧ Kept W' w' :=fun W' k => (natSub W' s2 s1 n2 n1 c2 c1 _ _ (d2.kept (kt T.k k)) (d1.kept (kt T.k k)) (by omega) (by omega)).mono fun r w' h => by obtain ⟨⟨v,e,n⟩,k⟩ :=h;exact ⟨⟨v,e,n.nv⟩,k⟩
  have hcm : ∀ W',Kept W W' → Calls Tryz.prog 77 #[.slice s1 n1 c1,.slice s2 n2 c2] W' fun e w' => e = .returned (.int .i64 (cmpI A.natAbs B.natAbs)) ∧ Kept W' w' :=fun W' k => natCmp W' s1 s2 n1 n2 c1 c2 _ _ (d1.kept (kt T.k k)) (d2.kept (kt T.k k))
  obtain ⟨z,hz⟩ : ∃ z,cmpI A.natAbs B.natAbs = z :=⟨_,rfl⟩
  have hzs : z < 0 :=by rw [← hz];unfold cmpI;repeat' split <;> omega
  rw [hz] at hcm
  have hwo : ∀ W' v,NV W' v (B.natAbs - A.natAbs) → Calls Tryz.prog 35 #[.bool b,v] W' fun r w' => (∃ v',r = .returned v' ∧ WV w' v' (A + B)) ∧ Kept W' w' :=fun W' v h => by
    have :=wholeOf W' b v _ h
    rw [hs] at this;exact this
  obtain ⟨Y,hY⟩ : ∃ Y,A + B = Y :=⟨_,rfl⟩
  rw [hY] at hwo ⊢
  clear hs ha hb d1 d2 hY hW hle hz
  have hab2 : (a == b) = false :=by simpa using hab
  clear hab
  obtain ⟨q0,q1,q2,q3,q4,q5,q6⟩ :=id T
  go_enter Tryz.func38,Tryz.ntmps38
  go_upto_region 1 with fail
  rw [HW.out]
  go_wp2_with (first
    | (refine wp_region_lit_segs (id :=5) [[0,1,2,3,4,5,6],[7,8]] mixed (by kernel_rfl) ?_;simp only [wpSegsL,gaC,gaN,lZ0,lS0,coS])
    | refine ⟨by kernel_rfl,?_⟩
    | (refine ⟨by kernel_rfl,oldD kr,?_⟩)
    | (refine ⟨oldD kr,?_⟩)
    | (go_at_call 77;(with_reducible refine (hcm _ (Chg.refl _ _)).mono ?_);rintro r w0 ⟨rfl,p0⟩;have T1 :=T.keep p0;obtain ⟨g0,g1,g2,g3,g4,g5,g6⟩ :=id T1)
    | (go_at_call 79;(with_reducible refine (hop _ (kt p0 (Chg.refl _ _).drew)).mono ?_);rintro r w1 ⟨⟨v1,rfl,n1⟩,p1⟩;have kr :=p1.of_drew;clear p1)
    | (go_at_call 35;(with_reducible refine (hwo _ _ n1).mono ?_);rintro r w2 ⟨⟨v3,rfl,s',n',c',rfl,hd1⟩,p2⟩;replace kr :=kt kr p2;have T2 :=T.keep (kt p0 kr);obtain ⟨⟨u0,s0⟩,⟨u1,s1'⟩,sf⟩ :=id T2.S;have f0 :=sf 0;have f1 :=sf 1;have s2' :=cs_ne (u :=.bool (decide (Y < 0))) s1' (b' :=w.heap.size + 2) (o' :=0) (by omega)))
  first
    | exact ⟨_,results_28 (r :=w.heap.size + 2) rfl rfl (put2_0 T2.S _ _) (put2_1 T2.S _ _),⟨s',n',c',rfl,hd1.set T2.r0 (put2_chg _ _ _ _)⟩,(kt T.k (kt p0 kr)).keptNew (put2_chg _ _ _ _) fun b' _ h => by omega⟩
    | exact bodyPost_ret (results_28 (r :=w.heap.size + 2) rfl rfl (put2_0 T2.S _ _) (put2_1 T2.S _ _)) rfl ⟨⟨_,rfl,s',n',c',rfl,hd1.set T2.r0 (put2_chg _ _ _ _)⟩,(kt T.k (kt p0 kr)).keptNew (put2_chg _ _ _ _) fun b' _ h => by omega⟩
theorem wholeAdd (w : World) (v1 v2 : Value) (A B : Int) (h1 : WV w v1 A) (h2 : WV w v2 B) (hA : Sm A.natAbs) (hB : Sm B.natAbs) : Calls Tryz.prog 38 #[v1,v2] w fun r w' => (∃ v',r = .returned v' ∧ WV w' v' (A + B)) ∧ Kept w w' :=by
  by_cases hab : decide (A < 0) = decide (B < 0)
  · exact wholeAdd_same w v1 v2 A B h1 h2 hA hB hab
  · rcases Nat.lt_or_ge A.natAbs B.natAbs with h | h
    · exact wholeAdd_right w v1 v2 A B h1 h2 hA hB hab h
    · exact wholeAdd_left w v1 v2 A B h1 h2 hA hB hab h
end Go.Proofs.YtfmmdamgcpiciaaGreatDoor
namespace Go.Proofs.YtfmmdamgcpiciaaGreatDoor
open Go Go.RowKit
theorem cmpI_swap (x y : Nat) : cmpI y x = -cmpI x y :=by unfold cmpI;repeat' split <;> omega
theorem cmpZ_of (A B : Int) : cmpZ A B = if decide (A < 0) = decide (B < 0) then (if decide (A < 0) then cmpI B.natAbs A.natAbs else cmpI A.natAbs B.natAbs) else (if decide (A < 0) then -1 else 1) :=by
  by_cases h : decide (A < 0) = decide (B < 0)
  · rw [if_pos h,cmpZ_same (by rw [h];simp),cmpI_swap A.natAbs B.natAbs]
  · rw [if_neg h]
    unfold cmpZ
    by_cases ha : A < 0 <;> by_cases hb : B < 0 <;> simp [ha,hb] at h ⊢ <;> omega
theorem pair28 (w : World) (a0 a1 b0 b1 : Value) : Kept w ((w.alloc (.cells #[a0,a1] 28)).alloc (.cells #[b0,b1] 28)) ∧ ((w.alloc (.cells #[a0,a1] 28)).alloc (.cells #[b0,b1] 28)).cell? ⟨w.heap.size,0,none⟩ = some a0 ∧ ((w.alloc (.cells #[a0,a1] 28)).alloc (.cells #[b0,b1] 28)).cell? ⟨w.heap.size,1,none⟩ = some a1 ∧ ((w.alloc (.cells #[a0,a1] 28)).alloc (.cells #[b0,b1] 28)).cell? ⟨w.heap.size + 1,0,none⟩ = some b0 ∧ ((w.alloc (.cells #[a0,a1] 28)).alloc (.cells #[b0,b1] 28)).cell? ⟨w.heap.size + 1,1,none⟩ = some b1 :=by
  have k1 : Kept w (Box28 w a0 a1) :=Chg.alloc _ _ _
  have k2 : Kept (Box28 w a0 a1) (Box28 (Box28 w a0 a1) b0 b1) :=Chg.alloc _ _ _
  have e1 : (Box28 w a0 a1).heap.size = w.heap.size + 1 :=by simp
  have x0 :=box28_0 (Box28 w a0 a1) b0 b1
  have x1 :=box28_1 (Box28 w a0 a1) b0 b1
  rw [e1] at x0 x1
  exact ⟨kt k1 k2,Kept.at k2 (box28_0 w a0 a1),Kept.at k2 (box28_1 w a0 a1),x0,x1⟩
theorem wholeCmp (w : World) (v1 v2 : Value) (A B : Int) (h1 : WV w v1 A) (h2 : WV w v2 B) : Calls Tryz.prog 44 #[v1,v2] w fun r w' => r = .returned (.int .i64 (cmpZ A B)) ∧ Kept w w' :=by
  obtain ⟨s1,n1,c1,rfl,d1⟩ :=h1
  obtain ⟨s2,n2,c2,rfl,d2⟩ :=h2
  have hz :=cmpZ_of A B
  obtain ⟨a,ha⟩ : ∃ b,decide (A < 0) = b :=⟨_,rfl⟩
  obtain ⟨b,hb⟩ : ∃ b,decide (B < 0) = b :=⟨_,rfl⟩
  rw [ha,hb] at hz
  rw [ha,hb]
  obtain ⟨q0,q1,q2,q3,q4⟩ :=pair28 w (.bool a) (.slice s1 n1 c1) (.bool b) (.slice s2 n2 c2)
  obtain ⟨W,hW⟩ : ∃ W,((w.alloc (.cells #[.bool a,.slice s1 n1 c1] 28)).alloc (.cells #[.bool b,.slice s2 n2 c2] 28)) = W :=⟨_,rfl⟩
  rw [hW] at q0 q1 q2 q3 q4
  have hc1 : ∀ W',Kept W W' → Calls Tryz.prog 77 #[.slice s1 n1 c1,.slice s2 n2 c2] W' fun e w' => e = .returned (.int .i64 (cmpI A.natAbs B.natAbs)) ∧ Kept W' w' :=fun W' k => natCmp W' s1 s2 n1 n2 c1 c2 _ _ (d1.kept (kt q0 k)) (d2.kept (kt q0 k))
  have hc2 : ∀ W',Kept W W' → Calls Tryz.prog 77 #[.slice s2 n2 c2,.slice s1 n1 c1] W' fun e w' => e = .returned (.int .i64 (cmpI B.natAbs A.natAbs)) ∧ Kept W' w' :=fun W' k => natCmp W' s2 s1 n2 n1 c2 c1 _ _ (d2.kept (kt q0 k)) (d1.kept (kt q0 k))
  obtain ⟨z1,hz1⟩ : ∃ z,cmpI A.natAbs B.natAbs = z :=⟨_,rfl⟩
  obtain ⟨z2,hz2⟩ : ∃ z,cmpI B.natAbs A.natAbs = z :=⟨_,rfl⟩
  rw [hz1] at hc1 hz
  rw [hz2] at hc2 hz
  have HW :=Lib.hid hW
  have HZ :=Lib.hid hz
  clear hz ha hb hz1 hz2 d1 d2 hW
  cases a <;> cases b
  all_goals
    go_enter Tryz.func44,Tryz.ntmps44
    go_upto_region 1 with fail
    rw [HW.out]
    go_wp2_with (first
      | (go_at_call 77;(with_reducible refine (hc1 _ (Chg.refl _ _)).mono ?_);rintro r w1 ⟨rfl,p1⟩)
      | (go_at_call 77;(with_reducible refine (hc2 _ (Chg.refl _ _)).mono ?_);rintro r w1 ⟨rfl,p1⟩))
    first | go_ret | refine ⟨_,results_tmp rfl _ _ _,?_⟩
    first
      | exact ⟨by rw [HZ.out];rfl,kt q0 p1⟩
      | exact ⟨by rw [HZ.out];rfl,q0⟩
theorem wholeSign (w : World) (v : Value) (A : Int) (h : WV w v A) : Calls Tryz.prog 37 #[v] w fun r w' => r = .returned (.int .i64 (cmpZ A 0)) ∧ Kept w w' :=by
  obtain ⟨s1,n1,c1,rfl,d1⟩ :=h
  have k1 : Kept w (Box28 w (.bool (decide (A < 0))) (.slice s1 n1 c1)) :=Chg.alloc _ _ _
  have x0 :=box28_0 w (.bool (decide (A < 0))) (.slice s1 n1 c1)
  have x1 :=box28_1 w (.bool (decide (A < 0))) (.slice s1 n1 c1)
  have hc : ∀ W',Kept w W' → Calls Tryz.prog 44 #[.agg #[.bool (decide (A < 0)),.slice s1 n1 c1],.agg #[.bool false,.slice none 0 0]] W' fun r w' => r = .returned (.int .i64 (cmpZ A 0)) ∧ Kept W' w' :=fun W' k => wholeCmp W' _ _ A 0 ⟨s1,n1,c1,rfl,d1.kept k⟩ (by obtain ⟨s,n,c,e,h⟩ :=NV.nil W';cases e;exact ⟨none,0,0,rfl,h⟩)
  obtain ⟨a,ha⟩ : ∃ b,decide (A < 0) = b :=⟨_,rfl⟩
  rw [ha] at hc k1 x0 x1 ⊢
  clear ha d1
  go_enter Tryz.func37,Tryz.ntmps37
  go_wp2_with (go_at_call 44;(with_reducible refine (hc _ k1).mono ?_);rintro r w1 ⟨rfl,p1⟩)
  first | go_ret | refine ⟨_,results_tmp rfl _ _ _,?_⟩
  exact ⟨rfl,kt k1 p1⟩
end Go.Proofs.YtfmmdamgcpiciaaGreatDoor
namespace Go.Proofs.YtfmmdamgcpiciaaGreatDoor
open Go Go.RowKit
theorem bs_minus (L : List Nat) : (⟨#[45]⟩ : ByteArray) ++ bs L = bs (45 :: L) :=by
  apply ByteArray.ext
  simp [bs]
theorem wholeString (w : World) (v : Value) (A : Int) (h : WV w v A) (hA : A.natAbs < 10 ^ 1000) : Calls Tryz.prog 33 #[v] w fun r w' => r = .returned (str (txt A)) ∧ Kept w w' :=by
  obtain ⟨s1,n1,c1,rfl,d1⟩ :=h
  have k1 : Kept w (Box28 w (.bool (decide (A < 0))) (.slice s1 n1 c1)) :=Chg.alloc _ _ _
  have x0 :=box28_0 w (.bool (decide (A < 0))) (.slice s1 n1 c1)
  have x1 :=box28_1 w (.bool (decide (A < 0))) (.slice s1 n1 c1)
  have hc : ∀ W',Kept w W' → Calls Tryz.prog 49 #[.slice s1 n1 c1] W' fun r w' => r = .returned (str (digT A.natAbs)) ∧ Kept W' w' :=fun W' k => natString W' s1 n1 c1 _ (d1.kept k) hA
  have hl :=digT_length A.natAbs 1000 (by decide) hA
  have htx : str (txt A) = if decide (A < 0) then .string (bs (45 :: digT A.natAbs)) else .string (bs (digT A.natAbs)) :=by
    unfold txt
    by_cases h : A < 0
    · rw [if_pos h,decide_eq_true h];rfl
    · rw [if_neg h,decide_eq_false h];rfl
  have hbm :=bs_minus (digT A.natAbs)
  have hsz : (bs (digT A.natAbs)).size ≤ 1000 :=by rw [bs_size];exact hl
  rw [htx]
  rw [str_bs] at hc
  rw [← hbm]
  clear hbm htx hl
  obtain ⟨t,ht⟩ : ∃ t,bs (digT A.natAbs) = t :=⟨_,rfl⟩
  obtain ⟨a,ha⟩ : ∃ b,decide (A < 0) = b :=⟨_,rfl⟩
  rw [ha] at k1 x0 x1 ⊢
  rw [ht] at hc hsz ⊢
  clear ha d1 ht hA
  cases a
  all_goals
    go_enter Tryz.func33,Tryz.ntmps33
    go_wp2_with (go_at_call 49;(with_reducible refine (hc _ k1).mono ?_);rintro r w1 ⟨rfl,p1⟩)
    first | go_ret | refine ⟨_,results_tmp rfl _ _ _,?_⟩
    exact ⟨rfl,kt k1 p1⟩
theorem results_28_tmp {fn : Func} {t u r : Nat} {tmps : Array Value} {w : World} {x y : Value} (h : fn.results = #[.cell t 28,.tmp u]) (hp : tmps.getD t undef = ptr r) (h0 : w.cell? ⟨r,0,none⟩ = some x) (h1 : w.cell? ⟨r,1,none⟩ = some y) :
    (results fn tmps).run Tryz.prog w = .ok (.tuple #[.agg #[x,y],tmps.getD u undef]) w :=by
  obtain ⟨i0,hi,hz0,hz1,hz2⟩ :=info_parts info28
  have hp' : tmps[t]?.getD undef = ptr r :=by simpa using hp
  simp [results,h,hp',go_sem,hi,hz1,h0,h1]
theorem parseWhole (w : World) (A : Int) (hA : A.natAbs < 10 ^ 999) : Calls Tryz.prog 42 #[str (txt A)] w fun r w' => (∃ v,r = .returned (.tuple #[v,.bool true]) ∧ WV w' v A) ∧ Kept w w' :=by
  obtain ⟨D,hD⟩ : ∃ D,digT A.natAbs = D :=⟨_,rfl⟩
  have hDl : D.length ≤ 999 :=hD ▸ digT_length _ 999 (by decide) hA
  have hDne : D ≠ [] :=hD ▸ digT_ne _
  have hDr : ∀ c ∈ D,48 ≤ c ∧ c ≤ 57 :=hD ▸ digT_range _
  have hDv : readD D = A.natAbs :=by rw [← hD];exact readD_digs _
  have htx : txt A = if A < 0 then 45 :: D else D :=by unfold txt;rw [hD]
  obtain ⟨t,ht⟩ : ∃ t,bs D = t :=⟨_,rfl⟩
  have hno : ∀ W,Calls Tryz.prog 50 #[.string t] W fun r w' => (∃ v,r = .returned (.tuple #[v,.bool true]) ∧ NV w' v A.natAbs) ∧ Kept W w' :=fun W => by
    have :=natOf W D hDr hDne (by omega)
    rw [hDv,str_bs,ht] at this
    exact this
  have hwo : ∀ W v,NV W v A.natAbs → Calls Tryz.prog 35 #[.bool (decide (A < 0)),v] W fun r w' => (∃ v',r = .returned v' ∧ WV w' v' A) ∧ Kept W w' :=fun W v h => by
    have :=wholeOf W (decide (A < 0)) v _ h
    rw [sgn_of] at this
    exact this
  obtain ⟨s,hs⟩ : ∃ s,bs (txt A) = s :=⟨_,rfl⟩
  have hse : s.toList.isEmpty = false :=by
    rw [← hs,htx]
    obtain ⟨c,l,rfl⟩ :=List.exists_cons_of_ne_nil hDne
    split <;> (rw [bs,ByteArray.toList_mk];rfl)
  have hsz : 0 < s.size :=by
    have : 0 < D.length :=List.length_pos_iff.2 hDne
    rw [← hs,bs_size,htx]
    split
    · simp
    · exact this
  have hex : decide (A < 0) = true → s.extract 1 s.size = t :=by
    intro h
    rw [← hs,← ht,htx,if_pos (of_decide_eq_true h),bs_size]
    exact bs_tail 45 D
  have hst : decide (A < 0) = false → s = t :=by
    intro h
    rw [← hs,← ht,htx,if_neg (of_decide_eq_false h)]
  have hc : ∃ c : Nat,(∀ h : 0 < s.size,(s[0]'h).toNat = c) ∧ (((c : Int) == 45) = decide (A < 0)) ∧ (((c : Int) == 43) = false) :=by
    obtain ⟨c,l,hcl⟩ :=List.exists_cons_of_ne_nil hDne
    have h1 :=hDr c (by rw [hcl];simp)
    by_cases h : A < 0
    · refine ⟨45,fun hh => ?_,by rw [decide_eq_true h];rfl,rfl⟩
      subst hs
      rw [if_pos h] at htx
      exact bs_get (by rw [htx];rfl) (by decide) hh
    · refine ⟨c,fun hh => ?_,by rw [decide_eq_false h];simp only [beq_eq_false_iff_ne];omega,by simp only [beq_eq_false_iff_ne];omega⟩
      subst hs
      rw [if_neg h] at htx
      exact bs_get (by rw [htx,hcl];rfl) (by omega) hh
  obtain ⟨c,hc1,hc2,hc3⟩ :=hc
  have S0 :=slot28 w (.bool false) (.slice none 0 0)
  have r0 :=box28_0 w (.bool false) (.slice none 0 0)
  have k0 : Kept w (Box28 w (.bool false) (.slice none 0 0)) :=Chg.alloc _ _ _
  rw [str_bs,hs]
  obtain ⟨a,ha⟩ : ∃ b,decide (A < 0) = b :=⟨_,rfl⟩
  rw [ha] at hwo hex hst hc2
  have HA :=Lib.hid ha
  clear hA hD hDl hDne hDr hDv htx ht hs ha
  cases a
  · obtain rfl :=hst rfl
    clear hex hst
    go_enter Tryz.func42,Tryz.ntmps42
    go_wp2_with (first
      | (go_at_call 50;(with_reducible refine (hno _).mono ?_);rintro r w1 ⟨⟨v1,rfl,n1⟩,p1⟩)
      | (go_at_call 35;(with_reducible refine (hwo _ _ n1).mono ?_);rintro r w2 ⟨⟨v3,rfl,s',n',c',rfl,hd1⟩,p2⟩;have kr :=kt p1 p2;have S :=S0.kept kr;have r1 :=Kept.at kr r0;obtain ⟨⟨u0,s0⟩,⟨u1,s1'⟩,sf⟩ :=id S;have f0 :=sf 0;have f1 :=sf 1;have s2' :=cs_ne (u :=.bool (decide (A < 0))) s1' (b' :=w.heap.size) (o' :=0) (by omega)))
    exact bodyPost_ret (v :=.tuple #[.agg #[.bool (decide (A < 0)),.slice s' n' c'],.bool true]) (results_28_tmp (t :=2) (u :=3) (r :=w.heap.size) rfl rfl (put2_0 S _ _) (put2_1 S _ _)) rfl ⟨⟨_,rfl,s',n',c',rfl,hd1.set r1 (put2_chg _ _ _ _)⟩,(kt k0 kr).keptNew (put2_chg _ _ _ _) fun b' _ h => by omega⟩
  · have hex :=hex rfl
    clear hst
    go_enter Tryz.func42,Tryz.ntmps42
    go_wp2_with (first
      | (go_at_call 50;(with_reducible refine (hno _).mono ?_);rintro r w1 ⟨⟨v1,rfl,n1⟩,p1⟩)
      | (go_at_call 35;(with_reducible refine (hwo _ _ n1).mono ?_);rintro r w2 ⟨⟨v3,rfl,s',n',c',rfl,hd1⟩,p2⟩;have kr :=kt p1 p2;have S :=S0.kept kr;have r1 :=Kept.at kr r0;obtain ⟨⟨u0,s0⟩,⟨u1,s1'⟩,sf⟩ :=id S;have f0 :=sf 0;have f1 :=sf 1;have s2' :=cs_ne (u :=.bool (decide (A < 0))) s1' (b' :=w.heap.size) (o' :=0) (by omega)))
    exact bodyPost_ret (v :=.tuple #[.agg #[.bool (decide (A < 0)),.slice s' n' c'],.bool true]) (results_28_tmp (t :=2) (u :=3) (r :=w.heap.size) rfl rfl (put2_0 S _ _) (put2_1 S _ _)) rfl ⟨⟨_,rfl,s',n',c',rfl,hd1.set r1 (put2_chg _ _ _ _)⟩,(kt k0 kr).keptNew (put2_chg _ _ _ _) fun b' _ h => by omega⟩
end Go.Proofs.YtfmmdamgcpiciaaGreatDoor
namespace Go.Proofs.YtfmmdamgcpiciaaGreatDoor
open Go Go.RowKit
theorem info37 : (Tryz.prog.info? 37).map (fun i => (i.zero,i.size,i.bytes)) = some (some (.agg #[.bool false,.slice none 0 0,.int .i64 0]),3,40) :=by kernel_rfl
theorem info30 : (Tryz.prog.info? 30).map (fun i => (i.zero,i.size,i.bytes)) = some (some (.agg #[.bool false,.slice none 0 0,.slice none 0 0]),3,56) :=by kernel_rfl
theorem wholeIn (w : World) (A : Int) (hA : A.natAbs < 10 ^ 999) : Calls Tryz.prog 34 #[str (txt A)] w fun r w' => (∃ v,r = .returned v ∧ WV w' v A) ∧ Kept w w' :=by
  have hp :=fun W => parseWhole W A hA
  obtain ⟨s,hs⟩ : ∃ s,str (txt A) = .string s :=⟨_,rfl⟩
  rw [hs] at hp ⊢
  have S0 :=slot28 w (.bool false) (.slice none 0 0)
  have r0 :=box28_0 w (.bool false) (.slice none 0 0)
  have k0 : Kept w (Box28 w (.bool false) (.slice none 0 0)) :=Chg.alloc _ _ _
  clear hA hs
  obtain ⟨d,hd⟩ : ∃ b,decide (A < 0) = b :=⟨_,rfl⟩
  go_enter Tryz.func34,Tryz.ntmps34
  go_wp2_with (go_at_call 42;(with_reducible refine (hp _).mono ?_);rintro r w1 ⟨⟨v1,rfl,s',n',c',rfl,hd1⟩,p1⟩;rw [hd];have kr :=kt p1 (Chg.alloc w1 (.cells #[.bool d,.slice s' n' c'] 28) None2);have S :=S0.kept kr;have r1 :=Kept.at kr r0;have x0 :=box28_0 w1 (.bool d) (.slice s' n' c');have x1 :=box28_1 w1 (.bool d) (.slice s' n' c');have hd2 :=hd1.kept (Chg.alloc w1 (.cells #[.bool d,.slice s' n' c'] 28) None2);obtain ⟨⟨u0,s0⟩,⟨u1,s1'⟩,sf⟩ :=id S;have f0 :=sf 0;have f1 :=sf 1;have s2' :=cs_ne (u :=.bool d) s1' (b' :=w.heap.size) (o' :=0) (by omega))
  exact bodyPost_ret (results_28 rfl rfl (put2_0 S _ _) (put2_1 S _ _)) rfl ⟨⟨_,rfl,s',n',c',by rw [hd],hd2.set r1 (put2_chg _ _ _ _)⟩,(kt k0 kr).keptNew (put2_chg _ _ _ _) fun b' _ h => by omega⟩
theorem wholeOne (w : World) : Calls Tryz.prog 45 #[.int .i64 1] w fun r w' => (∃ v,r = .returned v ∧ WV w' v 1) ∧ Kept w w' :=by
  have hf :=fun W => natFrom W 1 (by decide)
  have S0 :=slot28 w (.bool false) (.slice none 0 0)
  have r0 :=box28_0 w (.bool false) (.slice none 0 0)
  have k0 : Kept w (Box28 w (.bool false) (.slice none 0 0)) :=Chg.alloc _ _ _
  go_enter Tryz.func45,Tryz.ntmps45
  go_wp2_with (go_at_call 41;refine (hf _).mono ?_;rintro r w1 ⟨⟨v1,rfl,s',n',c',rfl,hd1⟩,kr⟩;have S :=S0.kept kr;have r1 :=Kept.at kr r0;obtain ⟨⟨u0,s0⟩,⟨u1,s1'⟩,sf⟩ :=id S;have f0 :=sf 0;have f1 :=sf 1;have s2' :=cs_ne (u :=.bool false) s1' (b' :=w.heap.size) (o' :=0) (by omega))
  exact bodyPost_ret (results_28 rfl rfl (put2_0 S _ _) (put2_1 S _ _)) rfl ⟨⟨_,rfl,s',n',c',rfl,hd1.set r1 (put2_chg _ _ _ _)⟩,(kt k0 kr).keptNew (put2_chg _ _ _ _) fun b' _ h => by omega⟩
end Go.Proofs.YtfmmdamgcpiciaaGreatDoor
namespace Go.Proofs.YtfmmdamgcpiciaaGreatDoor
open Go Go.RowKit
structure Slot3 (w : World) (b : Nat) : Prop where
  c0 : ∃ u,w.cell? ⟨b,0,none⟩ = some u
  c1 : ∃ u,w.cell? ⟨b,1,none⟩ = some u
  c2 : ∃ u,w.cell? ⟨b,2,none⟩ = some u
  nf : NF w b
theorem Slot3.kept {w w' : World} {b : Nat} (h : Slot3 w b) (hk : Kept w w') : Slot3 w' b :=by
  obtain ⟨⟨u,hu⟩,⟨v,hv⟩,⟨x,hx⟩,hf⟩ :=h
  exact ⟨⟨u,Kept.at hk hu⟩,⟨v,Kept.at hk hv⟩,⟨x,Kept.at hk hx⟩,hf.chg (lt_of_cell hu) hk⟩
theorem box3_cells (w : World) (x y z : Value) (t : TypeId) : (w.alloc (.cells #[x,y,z] t)).cell? ⟨w.heap.size,0,none⟩ = some x ∧ (w.alloc (.cells #[x,y,z] t)).cell? ⟨w.heap.size,1,none⟩ = some y ∧ (w.alloc (.cells #[x,y,z] t)).cell? ⟨w.heap.size,2,none⟩ = some z :=by
  refine ⟨?_,?_,?_⟩ <;> (rw [World.cell?_alloc_at _ _ _ _ rfl];rfl)
theorem slot3_made (w : World) (x y z : Value) (t : TypeId) : Slot3 (w.alloc (.cells #[x,y,z] t)) w.heap.size :=by
  obtain ⟨h0,h1,h2⟩ :=box3_cells w x y z t
  exact ⟨⟨_,h0⟩,⟨_,h1⟩,⟨_,h2⟩,NF.made w _ _⟩
abbrev put3 (w : World) (r : Nat) (x y z : Value) : World :=((w.setCell ⟨r,0,none⟩ x).setCell ⟨r,1,none⟩ y).setCell ⟨r,2,none⟩ z
theorem put3_chg (w : World) (r : Nat) (x y z : Value) : Chg w (put3 w r x y z) fun b _ => b = r :=
  ((Chg.setCell w r 0 x (fun b _ => b = r) fun _ => rfl).trans (Chg.setCell _ r 1 y (fun b _ => b = r) fun _ => rfl) fun _ _ _ h => h).trans (Chg.setCell _ r 2 z (fun b _ => b = r) fun _ => rfl) fun _ _ _ h => h
theorem put3_cells {w : World} {r : Nat} (h : Slot3 w r) (x y z : Value) : (put3 w r x y z).cell? ⟨r,0,none⟩ = some x ∧ (put3 w r x y z).cell? ⟨r,1,none⟩ = some y ∧ (put3 w r x y z).cell? ⟨r,2,none⟩ = some z :=by
  obtain ⟨⟨u,hu⟩,⟨v,hv⟩,⟨t,ht⟩,_⟩ :=h
  refine ⟨?_,?_,?_⟩
  · exact cs_ne (cs_ne (cell_setCell_eq hu) (by omega)) (by omega)
  · exact cs_ne (cell_setCell_eq (cs_ne hv (by omega))) (by omega)
  · exact cell_setCell_eq (cs_ne (cs_ne ht (by omega)) (by omega))
theorem results_37 {fn : Func} {t r : Nat} {tmps : Array Value} {w : World} {x y u : Value} (h : fn.results = #[.cell t 37]) (hp : tmps.getD t undef = ptr r) (hc : w.cell? ⟨r,0,none⟩ = some x ∧ w.cell? ⟨r,1,none⟩ = some y ∧ w.cell? ⟨r,2,none⟩ = some u) :
    (results fn tmps).run Tryz.prog w = .ok (.agg #[x,y,u]) w :=by
  obtain ⟨h0,h1,h2⟩ :=hc
  obtain ⟨i0,hi,hz0,hz1,hz2⟩ :=info_parts info37
  have hp' : tmps[t]?.getD undef = ptr r :=by simpa using hp
  simp [results,h,hp',go_sem,hi,hz1,h0,h1,h2]
theorem results_30 {fn : Func} {t r : Nat} {tmps : Array Value} {w : World} {x y u : Value} (h : fn.results = #[.cell t 30]) (hp : tmps.getD t undef = ptr r) (hc : w.cell? ⟨r,0,none⟩ = some x ∧ w.cell? ⟨r,1,none⟩ = some y ∧ w.cell? ⟨r,2,none⟩ = some u) :
    (results fn tmps).run Tryz.prog w = .ok (.agg #[x,y,u]) w :=by
  obtain ⟨h0,h1,h2⟩ :=hc
  obtain ⟨i0,hi,hz0,hz1,hz2⟩ :=info_parts info30
  have hp' : tmps[t]?.getD undef = ptr r :=by simpa using hp
  simp [results,h,hp',go_sem,hi,hz1,h0,h1,h2]
def DV (w : World) (v : Value) (Z e : Int) : Prop :=∃ s n c,v = .agg #[.bool (decide (Z < 0)),.slice s n c,.int .i64 e] ∧ Dig w s n c Z.natAbs
def FV (w : World) (v : Value) (N : Int) (D : Nat) : Prop :=∃ s n c s2 n2 c2,v = .agg #[.bool (decide (N < 0)),.slice s n c,.slice s2 n2 c2] ∧ Dig w s n c N.natAbs ∧ Dig w s2 n2 c2 D
theorem FV.kept {w w' : World} {v : Value} {N : Int} {D : Nat} (h : FV w v N D) (k : Kept w w') : FV w' v N D :=by
  obtain ⟨s,n,c,s2,n2,c2,h1,h2,h3⟩ :=h
  exact ⟨s,n,c,s2,n2,c2,h1,h2.kept k,h3.kept k⟩
theorem decIn (w : World) (A e : Int) (hA : A.natAbs < 10 ^ 999) : Calls Tryz.prog 9 #[pd (str (txt A)) e] w fun r w' => (∃ v,r = .returned v ∧ DV w' v A e) ∧ Kept w w' :=by
  have hp :=fun W => wholeIn W A hA
  obtain ⟨s,hs⟩ : ∃ s,str (txt A) = .string s :=⟨_,rfl⟩
  rw [hs] at hp ⊢
  have k1 : Kept w (Box23 w (.string s) (.int .i64 e)) :=Chg.alloc _ _ _
  have k2 : Kept (Box23 w (.string s) (.int .i64 e)) ((Box23 w (.string s) (.int .i64 e)).alloc (.cells #[.bool false,.slice none 0 0,.int .i64 0] 37)) :=Chg.alloc _ _ _
  have a0 :=Kept.at k2 (show (Box23 w (.string s) (.int .i64 e)).cell? ⟨w.heap.size,0,none⟩ = some (.string s) by rw [World.cell?_alloc_at _ _ _ _ rfl];rfl)
  have a1 :=Kept.at k2 (show (Box23 w (.string s) (.int .i64 e)).cell? ⟨w.heap.size,1,none⟩ = some (.int .i64 e) by rw [World.cell?_alloc_at _ _ _ _ rfl];rfl)
  have S0 :=slot3_made (Box23 w (.string s) (.int .i64 e)) (.bool false) (.slice none 0 0) (.int .i64 0) 37
  have r0 :=(box3_cells (Box23 w (.string s) (.int .i64 e)) (.bool false) (.slice none 0 0) (.int .i64 0) 37).1
  have e1 : (Box23 w (.string s) (.int .i64 e)).heap.size = w.heap.size + 1 :=by simp
  rw [e1] at S0 r0
  clear hA hs
  have k0 :=kt k1 k2
  obtain ⟨d,hd⟩ : ∃ b,decide (A < 0) = b :=⟨_,rfl⟩
  obtain ⟨W,hW⟩ : ∃ W,((Box23 w (.string s) (.int .i64 e)).alloc (.cells #[.bool false,.slice none 0 0,.int .i64 0] 37)) = W :=⟨_,rfl⟩
  rw [hW] at S0 r0 a0 a1 k0
  have HW :=Lib.hid hW
  clear hW k1 k2
  go_enter Tryz.func9,Tryz.ntmps9
  go_upto_region 1 with fail
  rw [show (w.alloc (.cells #[.string s,.int .i64 e] 23)).alloc (.cells #[.bool false,.slice none 0 0,.int .i64 0] 37) = W from HW.out]
  go_wp2_with (first
    | (refine wp_region_lit_segs (id :=1) [[0,1,3,4,2],[5,6]] mixed (by kernel_rfl) ?_;simp only [wpSegsL,gaC,gaN,lZ0,lS0,coS])
    | refine ⟨by kernel_rfl,?_⟩
    | (refine ⟨by kernel_rfl,oldD kr,?_⟩)
    | (refine ⟨oldD kr,?_⟩)
    | (go_at_call 34;(with_reducible refine (hp _).mono ?_);rintro r w1 ⟨⟨v1,rfl,s',n',c',rfl,hd1⟩,p1⟩;rw [hd];have kr :=p1.of_drew;have S :=S0.kept kr;have r1 :=Kept.at kr r0;obtain ⟨⟨u0,s0⟩,⟨u1,s1⟩,⟨u2,s2⟩,sf⟩ :=id S;have f0 :=sf 0;have f1 :=sf 1;have f2 :=sf 2;have t1 :=cs_ne (u :=.bool d) s1 (b' :=w.heap.size + 1) (o' :=0) (by omega);have t2 :=cs_ne (u :=.slice s' n' c') (cs_ne (u :=.bool d) s2 (b' :=w.heap.size + 1) (o' :=0) (by omega)) (b' :=w.heap.size + 1) (o' :=1) (by omega)))
  exact ⟨_,results_37 (r :=w.heap.size + 1) rfl rfl (put3_cells S _ _ _),⟨s',n',c',by rw [hd],hd1.set r1 (put3_chg _ _ _ _ _)⟩,(kt k0 kr).keptNew (put3_chg _ _ _ _ _) fun b' _ h => by omega⟩
theorem decOut (w : World) (v : Value) (A e : Int) (h : DV w v A e) (hA : A.natAbs < 10 ^ 1000) : Calls Tryz.prog 8 #[v] w fun r w' => r = .returned (pd (str (txt A)) e) ∧ Kept w w' :=by
  obtain ⟨s,n,c,rfl,hd⟩ :=h
  have k1 : Kept w (w.alloc (.cells #[.bool (decide (A < 0)),.slice s n c,.int .i64 e] 37)) :=Chg.alloc _ _ _
  have e1 : (w.alloc (.cells #[.bool (decide (A < 0)),.slice s n c,.int .i64 e] 37)).heap.size = w.heap.size + 1 :=by simp
  obtain ⟨a0,a1,a2⟩ :=box3_cells w (.bool (decide (A < 0))) (.slice s n c) (.int .i64 e) 37
  have hp : ∀ W,Kept w W → Calls Tryz.prog 33 #[.agg #[.bool (decide (A < 0)),.slice s n c]] W fun r w' => r = .returned (str (txt A)) ∧ Kept W w' :=fun W k => wholeString W _ A ⟨s,n,c,rfl,hd.kept k⟩ hA
  obtain ⟨d,hd'⟩ : ∃ b,decide (A < 0) = b :=⟨_,rfl⟩
  rw [hd'] at k1 e1 a0 a1 a2 hp ⊢
  obtain ⟨W1,hW1⟩ : ∃ W,w.alloc (.cells #[.bool d,.slice s n c,.int .i64 e] 37) = W :=⟨_,rfl⟩
  rw [hW1] at k1 e1 a0 a1 a2
  have k2 : Kept W1 (Box23 W1 (.string { data :=#[] }) (.int .i64 0)) :=Chg.alloc _ _ _
  have S0 :=slot23 W1 (.string { data :=#[] }) (.int .i64 0)
  rw [e1] at S0
  replace a0 :=Kept.at k2 a0
  replace a1 :=Kept.at k2 a1
  replace a2 :=Kept.at k2 a2
  have k0 :=kt k1 k2
  obtain ⟨t,ht⟩ : ∃ t,str (txt A) = .string t :=⟨_,rfl⟩
  rw [ht] at hp ⊢
  obtain ⟨W,hW⟩ : ∃ W,W1.alloc (.cells #[.string { data :=#[] },.int .i64 0] 23) = W :=⟨_,rfl⟩
  simp only [Box23,hW] at S0 a0 a1 a2 k0 k2
  have HW :=Lib.hid (And.intro hW1 hW)
  clear hW hW1 k1 k2 hd hd' ht hA e1
  go_enter Tryz.func8,Tryz.ntmps8
  go_upto_region 1 with fail
  rw [HW.out.1,HW.out.2]
  go_wp2_with (first
    | (refine wp_region_lit_segs (id :=1) [[0,1,3,4,2],[5,6]] mixed (by kernel_rfl) ?_;simp only [wpSegsL,gaC,gaN,lZ0,lS0,coS])
    | refine ⟨by kernel_rfl,?_⟩
    | (refine ⟨by kernel_rfl,oldD kr,?_⟩)
    | (refine ⟨oldD kr,?_⟩)
    | (go_at_call 33;(with_reducible refine (hp _ (kt k0 (Chg.refl _ _).drew)).mono ?_);rintro r w1 ⟨rfl,p1⟩;have kr :=p1.of_drew;have S :=S0.kept kr;obtain ⟨⟨u0,s0⟩,⟨u1,s1⟩,sf⟩ :=id S;have f0 :=sf 0;have f1 :=sf 1;have t1 :=cs_ne (u :=.string t) s1 (b' :=w.heap.size + 1) (o' :=0) (by omega)))
  exact ⟨_,results_23 (r :=w.heap.size + 1) rfl rfl (put2_0 S _ _) (put2_1 S _ _),rfl,(kt k0 kr).keptNew (put2_chg _ _ _ _) fun b' _ h => by omega⟩
end Go.Proofs.YtfmmdamgcpiciaaGreatDoor
namespace Go.Proofs.YtfmmdamgcpiciaaGreatDoor
open Go Go.RowKit
structure One3 (w W : World) (x y z : Value) : Prop where
  k : Kept w W
  a0 : W.cell? ⟨w.heap.size,0,none⟩ = some x
  a1 : W.cell? ⟨w.heap.size,1,none⟩ = some y
  a2 : W.cell? ⟨w.heap.size,2,none⟩ = some z
  r0 : W.cell? ⟨w.heap.size + 1,0,none⟩ = some (.bool false)
  S : Slot3 W (w.heap.size + 1)
theorem one3 (w : World) (x y z u v : Value) (T U : TypeId) : One3 w ((w.alloc (.cells #[x,y,z] T)).alloc (.cells #[.bool false,u,v] U)) x y z :=by
  have k1 : Kept w (w.alloc (.cells #[x,y,z] T)) :=Chg.alloc _ _ _
  have k2 : Kept (w.alloc (.cells #[x,y,z] T)) ((w.alloc (.cells #[x,y,z] T)).alloc (.cells #[.bool false,u,v] U)) :=Chg.alloc _ _ _
  have e1 : (w.alloc (.cells #[x,y,z] T)).heap.size = w.heap.size + 1 :=by simp
  obtain ⟨a0,a1,a2⟩ :=box3_cells w x y z T
  have S0 :=slot3_made (w.alloc (.cells #[x,y,z] T)) (.bool false) u v U
  have r0 :=(box3_cells (w.alloc (.cells #[x,y,z] T)) (.bool false) u v U).1
  rw [e1] at S0 r0
  exact ⟨kt k1 k2,Kept.at k2 a0,Kept.at k2 a1,Kept.at k2 a2,r0,S0⟩
theorem One3.keep {w W W' : World} {x y z : Value} (h : One3 w W x y z) (k : Kept W W') : One3 w W' x y z :=⟨kt h.k k,Kept.at k h.a0,Kept.at k h.a1,Kept.at k h.a2,Kept.at k h.r0,h.S.kept k⟩
theorem FV.put {w W w1 : World} {N : Int} {D : Nat} {s s2 : Option Addr} {n c n2 c2 : Nat} {x y z : Value} (O : One3 w W x y z) (k : Kept W w1) (d : Bool) (hd : decide (N < 0) = d) (h1 : Dig w1 s n c N.natAbs) (h2 : Dig w1 s2 n2 c2 D) :
    FV (put3 w1 (w.heap.size + 1) (.bool d) (.slice s n c) (.slice s2 n2 c2)) (.agg #[.bool d,.slice s n c,.slice s2 n2 c2]) N D ∧ Kept w (put3 w1 (w.heap.size + 1) (.bool d) (.slice s n c) (.slice s2 n2 c2)) :=by
  have r1 :=Kept.at k O.r0
  exact ⟨⟨s,n,c,s2,n2,c2,by rw [hd],h1.set r1 (put3_chg _ _ _ _ _),h2.set r1 (put3_chg _ _ _ _ _)⟩,(kt O.k k).keptNew (put3_chg _ _ _ _ _) fun b' _ h => by omega⟩
theorem Slot3.use {w : World} {r : Nat} (S : Slot3 w r) : (∃ u,w.cell? ⟨r,0,none⟩ = some u) ∧ (∃ u,w.cell? ⟨r,1,none⟩ = some u ∧ ∀ x,(w.setCell ⟨r,0,none⟩ x).cell? ⟨r,1,none⟩ = some u) ∧ (∃ u,w.cell? ⟨r,2,none⟩ = some u ∧ ∀ x y,((w.setCell ⟨r,0,none⟩ x).setCell ⟨r,1,none⟩ y).cell? ⟨r,2,none⟩ = some u) ∧ w.frozen? ⟨r,0,none⟩ = false ∧ w.frozen? ⟨r,1,none⟩ = false ∧ w.frozen? ⟨r,2,none⟩ = false :=by
  obtain ⟨⟨u0,h0⟩,⟨u1,h1⟩,⟨u2,h2⟩,hf⟩ :=S
  exact ⟨⟨u0,h0⟩,⟨u1,h1,fun x => cs_ne h1 (by omega)⟩,⟨u2,h2,fun x y => cs_ne (cs_ne h2 (by omega)) (by omega)⟩,hf 0,hf 1,hf 2⟩
theorem decFrac_neg (w : World) (v : Value) (A : Int) (k : Nat) (h : DV w v A (-(k : Int))) (hk0 : 0 < k) (hk : k ≤ 100000) : Calls Tryz.prog 43 #[v] w fun r w' => (∃ v',r = .returned v' ∧ FV w' v' A (10 ^ k)) ∧ Kept w w' :=by
  obtain ⟨s,n,c,rfl,hd⟩ :=h
  obtain ⟨d,hd'⟩ : ∃ b,decide (A < 0) = b :=⟨_,rfl⟩
  rw [hd']
  have O :=one3 w (.bool d) (.slice s n c) (.int .i64 (-(k : Int))) (.slice none 0 0) (.slice none 0 0) 37 30
  obtain ⟨W,hW⟩ : ∃ W,((w.alloc (.cells #[.bool d,.slice s n c,.int .i64 (-(k : Int))] 37)).alloc (.cells #[.bool false,.slice none 0 0,.slice none 0 0] 30)) = W :=⟨_,rfl⟩
  rw [hW] at O
  have hp :=fun W => natPow10 W k hk
  obtain ⟨E,hE⟩ : ∃ E : Int,-(k : Int) = E :=⟨_,rfl⟩
  have hkE : ((k : Nat) : Int) = -E :=by omega
  rw [hkE] at hp
  rw [hE] at O hW ⊢
  have hE0 : ¬ 0 ≤ E :=by omega
  have hE1 : -100000 ≤ E :=by omega
  have HW :=Lib.hid hW
  have HD :=Lib.hid (And.intro hd' hd)
  clear hW hd' hd hkE hE hk hk0
  obtain ⟨q0,q1,q2,q3,q4,q5⟩ :=id O
  go_enter Tryz.func43,Tryz.ntmps43
  go_upto_region 1 with fail
  rw [HW.out]
  go_wp2_with (first
    | (refine wp_region_lit_segs (id :=3) [[0,1,2,3,4,5],[6,7]] mixed (by kernel_rfl) ?_;simp only [wpSegsL,gaC,gaN,lZ0,lS0,coS])
    | refine ⟨by kernel_rfl,?_⟩
    | (refine ⟨by kernel_rfl,oldD kr,?_⟩)
    | (refine ⟨oldD kr,?_⟩)
    | (go_at_call 17;(with_reducible refine (hp _).mono ?_);rintro r w1 ⟨⟨v1,rfl,s2,n2,c2,rfl,d2⟩,p1⟩;have kr :=p1.of_drew;obtain ⟨⟨u0,s0⟩,⟨u1,s1,t1⟩,⟨u2,s2',t2⟩,f0,f1,f2⟩ :=(O.keep kr).S.use))
  obtain ⟨g1,g2⟩ :=FV.put O kr d HD.out.1 (HD.out.2.kept (kt O.k kr)) d2
  exact ⟨_,results_30 (r :=w.heap.size + 1) rfl rfl (put3_cells (O.keep kr).S _ _ _),g1,g2⟩
theorem decFrac_zero (w : World) (v : Value) (A : Int) (h : DV w v A 0) (hA : Sm A.natAbs) : Calls Tryz.prog 43 #[v] w fun r w' => (∃ v',r = .returned v' ∧ FV w' v' A 1) ∧ Kept w w' :=by
  obtain ⟨s,n,c,rfl,hd⟩ :=h
  have hl :=hd.sm hA
  clear hA
  obtain ⟨d,hd'⟩ : ∃ b,decide (A < 0) = b :=⟨_,rfl⟩
  rw [hd']
  have O :=one3 w (.bool d) (.slice s n c) (.int .i64 0) (.slice none 0 0) (.slice none 0 0) 37 30
  obtain ⟨W,hW⟩ : ∃ W,((w.alloc (.cells #[.bool d,.slice s n c,.int .i64 0] 37)).alloc (.cells #[.bool false,.slice none 0 0,.slice none 0 0] 30)) = W :=⟨_,rfl⟩
  rw [hW] at O
  have hp : ∀ W,Calls Tryz.prog 17 #[.int .i64 0] W fun r w' => (∃ v,r = .returned v ∧ NV w' v 1) ∧ Kept W w' :=fun W => natPow10 W 0 (by decide)
  have hm : ∀ W' s2 n2 c2,Kept w W' → Dig W' s2 n2 c2 1 → Calls Tryz.prog 40 #[.slice s n c,.slice s2 n2 c2] W' fun r w' => (∃ v,r = .returned v ∧ NV w' v A.natAbs) ∧ Kept W' w' :=fun W' s2 n2 c2 k h => by
    have :=natMul W' s s2 n n2 c c2 A.natAbs 1 (hd.kept k) h (by omega) (by have :=h.len_le (k :=1) (by decide);omega)
    rw [Nat.mul_one] at this
    exact this
  have hwo : ∀ W' v,NV W' v A.natAbs → Calls Tryz.prog 35 #[.bool d,v] W' fun r w' => (∃ v',r = .returned v' ∧ WV w' v' A) ∧ Kept W' w' :=fun W' v h => by
    have :=wholeOf W' d v _ h
    rw [← hd',sgn_of] at this
    rw [hd'] at this
    exact this
  have HW :=Lib.hid hW
  have HD :=Lib.hid hd'
  clear hW hd hl hd'
  obtain ⟨q0,q1,q2,q3,q4,q5⟩ :=id O
  go_enter Tryz.func43,Tryz.ntmps43
  go_upto_region 1 with fail
  rw [HW.out]
  go_wp2_with (first
    | (refine wp_region_lit_segs (id :=2) [[0,1,2,3,4,5,6,7,8],[9],[10,11,12,13]] mixed (by kernel_rfl) ?_;simp only [wpSegsL,gaC,gaN,lZ0,lS0,coS])
    | refine ⟨by kernel_rfl,?_⟩
    | (refine ⟨by kernel_rfl,oldD kr,?_⟩)
    | (refine ⟨oldD kr,?_⟩)
    | (go_at_call 17;(with_reducible refine (hp _).mono ?_);rintro r w1 ⟨⟨v1,rfl,s2,n2,c2,rfl,d2⟩,p1⟩;have kr :=p1.of_drew)
    | (go_at_call 40;(with_reducible refine (hm _ _ _ _ (kt O.k kr) d2).mono ?_);rintro r w2 ⟨⟨v2,rfl,n3⟩,p2⟩;replace kr :=kt kr p2)
    | (go_at_call 35;(with_reducible refine (hwo _ _ n3).mono ?_);rintro r w3 ⟨⟨v3,rfl,s3,n4,c3,rfl,d3⟩,p3⟩;rw [HD.out];replace kr :=kt kr p3)
    | (go_at_call 48;(with_reducible refine (natOne _).mono ?_);rintro r w4 ⟨⟨v4,rfl,s5,n5,c5,rfl,d5⟩,p4⟩;replace kr :=kt kr p4;obtain ⟨⟨u0,s0⟩,⟨u1,s1,t1⟩,⟨u2,s2',t2⟩,f0,f1,f2⟩ :=(O.keep kr).S.use))
  obtain ⟨g1,g2⟩ :=FV.put O kr d HD.out (d3.kept p4) d5
  exact ⟨_,results_30 (r :=w.heap.size + 1) rfl rfl (put3_cells (O.keep kr).S _ _ _),g1,g2⟩
theorem decFrac (w : World) (v : Value) (A : Int) (k : Nat) (h : DV w v A (-(k : Int))) (hA : Sm A.natAbs) (hk : k ≤ 100000) : Calls Tryz.prog 43 #[v] w fun r w' => (∃ v',r = .returned v' ∧ FV w' v' A (10 ^ k)) ∧ Kept w w' :=by
  rcases Nat.eq_zero_or_pos k with rfl | hk0
  · exact decFrac_zero w v A h hA
  · exact decFrac_neg w v A k h hk0 hk
theorem fracOf (w : World) (A : Int) (k : Nat) (hA : A.natAbs < 10 ^ 999) (hk : k ≤ 100000) : Calls Tryz.prog 14 #[pd (str (txt A)) (-(k : Int))] w fun r w' => (∃ v',r = .returned v' ∧ FV w' v' A (10 ^ k)) ∧ Kept w w' :=by
  have h1 :=fun W => decIn W A (-(k : Int)) hA
  have h2 :=fun W v (h : DV W v A (-(k : Int))) => decFrac W v A k h (Nat.lt_trans hA (by
    show 10 ^ 999 < L9 ^ 399999
    have : 10 ^ 999 = L9 ^ 111 :=by decide
    rw [this]
    exact Nat.pow_lt_pow_right (by decide) (by decide))) hk
  obtain ⟨E,hE⟩ : ∃ E : Int,-(k : Int) = E :=⟨_,rfl⟩
  obtain ⟨s,hs⟩ : ∃ s,str (txt A) = .string s :=⟨_,rfl⟩
  rw [hE,hs] at h1
  rw [hE] at h2
  rw [hE,hs]
  have kA : Kept w (Box23 w (.string s) (.int .i64 E)) :=Chg.alloc _ _ _
  have kB : Kept (Box23 w (.string s) (.int .i64 E)) ((Box23 w (.string s) (.int .i64 E)).alloc (.cells #[.bool false,.slice none 0 0,.slice none 0 0] 30)) :=Chg.alloc _ _ _
  have a0 :=Kept.at kB (show (Box23 w (.string s) (.int .i64 E)).cell? ⟨w.heap.size,0,none⟩ = some (.string s) by rw [World.cell?_alloc_at _ _ _ _ rfl];rfl)
  have a1 :=Kept.at kB (show (Box23 w (.string s) (.int .i64 E)).cell? ⟨w.heap.size,1,none⟩ = some (.int .i64 E) by rw [World.cell?_alloc_at _ _ _ _ rfl];rfl)
  have S0 :=slot3_made (Box23 w (.string s) (.int .i64 E)) (.bool false) (.slice none 0 0) (.slice none 0 0) 30
  have r0 :=(box3_cells (Box23 w (.string s) (.int .i64 E)) (.bool false) (.slice none 0 0) (.slice none 0 0) 30).1
  have e1 : (Box23 w (.string s) (.int .i64 E)).heap.size = w.heap.size + 1 :=by simp
  rw [e1] at S0 r0
  have k0 :=kt kA kB
  obtain ⟨W,hW⟩ : ∃ W,((w.alloc (.cells #[.string s,.int .i64 E] 23)).alloc (.cells #[.bool false,.slice none 0 0,.slice none 0 0] 30)) = W :=⟨_,rfl⟩
  simp only [Box23,hW] at S0 r0 a0 a1 k0
  have HW :=Lib.hid hW
  clear hW kA kB hA hE hs hk e1
  obtain ⟨d,hd⟩ : ∃ b,decide (A < 0) = b :=⟨_,rfl⟩
  go_enter Tryz.func14,Tryz.ntmps14
  go_upto_region 1 with fail
  rw [HW.out]
  go_wp2_with (first
    | (go_at_call 9;(with_reducible refine (h1 _).mono ?_);rintro r w1 ⟨⟨v1,rfl,n1⟩,p1⟩)
    | (go_at_call 43;(with_reducible refine (h2 _ _ n1).mono ?_);rintro r w2 ⟨⟨v2,rfl,s1,n2,c1,s2,n3,c2,rfl,d1,d2⟩,p2⟩;rw [hd];have kr :=kt p1 p2;have S :=S0.kept kr;obtain ⟨⟨u0,x0⟩,⟨u1,x1,t1⟩,⟨u2,x2,t2⟩,f0,f1,f2⟩ :=S.use))
  have r1 :=Kept.at kr r0
  exact bodyPost_ret (results_30 (r :=w.heap.size + 1) rfl rfl (put3_cells S _ _ _)) rfl ⟨⟨_,rfl,s1,n2,c1,s2,n3,c2,by rw [hd],d1.set r1 (put3_chg _ _ _ _ _),d2.set r1 (put3_chg _ _ _ _ _)⟩,(kt k0 kr).keptNew (put3_chg _ _ _ _ _) fun b' _ h => by omega⟩
end Go.Proofs.YtfmmdamgcpiciaaGreatDoor
namespace Go.Proofs.YtfmmdamgcpiciaaGreatDoor
open Go Go.RowKit
theorem fracMinus (w : World) (v : Value) (N : Int) (D : Nat) (h : FV w v N D) : Calls Tryz.prog 15 #[v] w fun r w' => (∃ v',r = .returned v' ∧ FV w' v' (-N) D) ∧ Kept w w' :=by
  obtain ⟨s,n,c,s2,n2,c2,rfl,h1,h2⟩ :=h
  have hm : ∀ W,Kept w W → Calls Tryz.prog 10 #[.agg #[.bool (decide (N < 0)),.slice s n c]] W fun r w' => (∃ v',r = .returned v' ∧ WV w' v' (-N)) ∧ Kept W w' :=fun W k => wholeMinus W _ N ⟨s,n,c,rfl,h1.kept k⟩
  obtain ⟨d,hd⟩ : ∃ b,decide (N < 0) = b :=⟨_,rfl⟩
  obtain ⟨Y,hY⟩ : ∃ Y,-N = Y :=⟨_,rfl⟩
  obtain ⟨d',hd'⟩ : ∃ b,decide (Y < 0) = b :=⟨_,rfl⟩
  rw [hd,hY] at hm
  rw [hd,hY]
  have O :=one3 w (.bool d) (.slice s n c) (.slice s2 n2 c2) (.slice none 0 0) (.slice none 0 0) 30 30
  obtain ⟨W,hW⟩ : ∃ W,((w.alloc (.cells #[.bool d,.slice s n c,.slice s2 n2 c2] 30)).alloc (.cells #[.bool false,.slice none 0 0,.slice none 0 0] 30)) = W :=⟨_,rfl⟩
  rw [hW] at O
  have HW :=Lib.hid hW
  clear hW hd hY h1
  obtain ⟨q0,q1,q2,q3,q4,q5⟩ :=id O
  go_enter Tryz.func15,Tryz.ntmps15
  go_upto_region 1 with fail
  rw [HW.out]
  go_wp2_with (first
    | (refine wp_region_lit_segs (id :=1) [[0,1,3,4,2],[5,6]] mixed (by kernel_rfl) ?_;simp only [wpSegsL,gaC,gaN,lZ0,lS0,coS])
    | refine ⟨by kernel_rfl,?_⟩
    | (refine ⟨by kernel_rfl,oldD kr,?_⟩)
    | (refine ⟨oldD kr,?_⟩)
    | (go_at_call 10;(with_reducible refine (hm _ (kt O.k (Chg.refl _ _).drew)).mono ?_);rintro r w1 ⟨⟨v1,rfl,s3,n3,c3,rfl,d3⟩,p1⟩;rw [hd'];have kr :=p1.of_drew;obtain ⟨⟨u0,s0⟩,⟨u1,s1,t1⟩,⟨u2,s2',t2⟩,f0,f1,f2⟩ :=(O.keep kr).S.use))
  obtain ⟨g1,g2⟩ :=FV.put O kr d' hd' d3 (h2.kept (kt O.k kr))
  exact ⟨_,results_30 (r :=w.heap.size + 1) rfl rfl (put3_cells (O.keep kr).S _ _ _),g1,g2⟩
theorem fracAbs (w : World) (v : Value) (N : Int) (D : Nat) (h : FV w v N D) : Calls Tryz.prog 18 #[v] w fun r w' => (∃ v',r = .returned v' ∧ FV w' v' N.natAbs D) ∧ Kept w w' :=by
  obtain ⟨s,n,c,s2,n2,c2,rfl,h1,h2⟩ :=h
  obtain ⟨d,hd⟩ : ∃ b,decide (N < 0) = b :=⟨_,rfl⟩
  rw [hd]
  have O :=one3 w (.bool d) (.slice s n c) (.slice s2 n2 c2) (.slice none 0 0) (.slice none 0 0) 30 30
  obtain ⟨W,hW⟩ : ∃ W,((w.alloc (.cells #[.bool d,.slice s n c,.slice s2 n2 c2] 30)).alloc (.cells #[.bool false,.slice none 0 0,.slice none 0 0] 30)) = W :=⟨_,rfl⟩
  rw [hW] at O
  have HW :=Lib.hid hW
  clear hW hd
  obtain ⟨q0,q1,q2,q3,q4,q5⟩ :=id O
  obtain ⟨⟨u0,s0⟩,⟨u1,s1,t1⟩,⟨u2,s2',t2⟩,f0,f1,f2⟩ :=O.S.use
  go_enter Tryz.func18,Tryz.ntmps18
  go_upto_region 1 with fail
  rw [HW.out]
  go_wp2
  have hz : decide (((N.natAbs : Nat) : Int) < 0) = false :=decide_eq_false (by omega)
  obtain ⟨g1,g2⟩ :=FV.put (N :=N.natAbs) O (Chg.refl _ _) false hz (by rw [Int.natAbs_natCast];exact h1.kept O.k) (h2.kept O.k)
  exact bodyPost_ret (results_30 (r :=w.heap.size + 1) rfl rfl (put3_cells O.S _ _ _)) rfl ⟨⟨_,rfl,g1⟩,g2⟩
structure Two3 (w W : World) (x y z x' y' z' : Value) : Prop where
  k : Kept w W
  a0 : W.cell? ⟨w.heap.size,0,none⟩ = some x
  a1 : W.cell? ⟨w.heap.size,1,none⟩ = some y
  a2 : W.cell? ⟨w.heap.size,2,none⟩ = some z
  b0 : W.cell? ⟨w.heap.size + 1,0,none⟩ = some x'
  b1 : W.cell? ⟨w.heap.size + 1,1,none⟩ = some y'
  b2 : W.cell? ⟨w.heap.size + 1,2,none⟩ = some z'
theorem two3 (w : World) (x y z x' y' z' : Value) : Two3 w ((w.alloc (.cells #[x,y,z] 30)).alloc (.cells #[x',y',z'] 30)) x y z x' y' z' :=by
  have k1 : Kept w (w.alloc (.cells #[x,y,z] 30)) :=Chg.alloc _ _ _
  have k2 : Kept (w.alloc (.cells #[x,y,z] 30)) ((w.alloc (.cells #[x,y,z] 30)).alloc (.cells #[x',y',z'] 30)) :=Chg.alloc _ _ _
  have e1 : (w.alloc (.cells #[x,y,z] 30)).heap.size = w.heap.size + 1 :=by simp
  obtain ⟨a0,a1,a2⟩ :=box3_cells w x y z 30
  obtain ⟨b0,b1,b2⟩ :=box3_cells (w.alloc (.cells #[x,y,z] 30)) x' y' z' 30
  rw [e1] at b0 b1 b2
  exact ⟨kt k1 k2,Kept.at k2 a0,Kept.at k2 a1,Kept.at k2 a2,b0,b1,b2⟩
theorem WV.nat {w : World} {s : Option Addr} {n c X : Nat} (h : Dig w s n c X) : WV w (.agg #[.bool false,.slice s n c]) (X : Int) :=⟨s,n,c,by rw [decide_eq_false (by omega : ¬ ((X : Nat) : Int) < 0)],by rw [Int.natAbs_natCast];exact h⟩
theorem fracCmp (w : World) (v1 v2 : Value) (N M : Int) (D E : Nat) (h1 : FV w v1 N D) (h2 : FV w v2 M E) (hN : Sm N.natAbs) (hM : Sm M.natAbs) (hD : Sm D) (hE : Sm E) : Calls Tryz.prog 19 #[v1,v2] w fun r w' => r = .returned (.int .i64 (cmpZ (N * E) (M * D))) ∧ Kept w w' :=by
  obtain ⟨s,n,c,s2,n2,c2,rfl,d1,d2⟩ :=h1
  obtain ⟨s3,n3,c3,s4,n4,c4,rfl,d3,d4⟩ :=h2
  have hm1 : ∀ W,Kept w W → Calls Tryz.prog 39 #[.agg #[.bool (decide (N < 0)),.slice s n c],.agg #[.bool false,.slice s4 n4 c4]] W fun r w' => (∃ v',r = .returned v' ∧ WV w' v' (N * E)) ∧ Kept W w' :=fun W k => wholeMul W _ _ N E ⟨s,n,c,rfl,d1.kept k⟩ (WV.nat (d4.kept k)) hN (by rw [Int.natAbs_natCast];exact hE)
  have hm2 : ∀ W,Kept w W → Calls Tryz.prog 39 #[.agg #[.bool (decide (M < 0)),.slice s3 n3 c3],.agg #[.bool false,.slice s2 n2 c2]] W fun r w' => (∃ v',r = .returned v' ∧ WV w' v' (M * D)) ∧ Kept W w' :=fun W k => wholeMul W _ _ M D ⟨s3,n3,c3,rfl,d3.kept k⟩ (WV.nat (d2.kept k)) hM (by rw [Int.natAbs_natCast];exact hD)
  obtain ⟨a,ha⟩ : ∃ b,decide (N < 0) = b :=⟨_,rfl⟩
  obtain ⟨b,hb⟩ : ∃ b,decide (M < 0) = b :=⟨_,rfl⟩
  obtain ⟨X,hX⟩ : ∃ X,N * (E : Int) = X :=⟨_,rfl⟩
  obtain ⟨Y,hY⟩ : ∃ X,M * (D : Int) = X :=⟨_,rfl⟩
  rw [ha,hX] at hm1
  rw [hb,hY] at hm2
  rw [ha,hb,hX,hY]
  have T :=two3 w (.bool a) (.slice s n c) (.slice s2 n2 c2) (.bool b) (.slice s3 n3 c3) (.slice s4 n4 c4)
  obtain ⟨W,hW⟩ : ∃ W,((w.alloc (.cells #[.bool a,.slice s n c,.slice s2 n2 c2] 30)).alloc (.cells #[.bool b,.slice s3 n3 c3,.slice s4 n4 c4] 30)) = W :=⟨_,rfl⟩
  rw [hW] at T
  have HW :=Lib.hid hW
  clear hW ha hb hX hY d1 d2 d3 d4 hN hM hD hE
  obtain ⟨q0,q1,q2,q3,q4,q5,q6⟩ :=id T
  go_enter Tryz.func19,Tryz.ntmps19
  go_upto_region 1 with fail
  rw [HW.out]
  go_wp2_with (first
    | (refine wp_region_lit_segs (id :=1) [[0,1,2,3,4,6,7,8,9,10,5],[11,12,13]] mixed (by kernel_rfl) ?_;simp only [wpSegsL,gaC,gaN,lZ0,lS0,coS])
    | refine ⟨by kernel_rfl,?_⟩
    | (refine ⟨by kernel_rfl,oldD kr,?_⟩)
    | (refine ⟨oldD kr,?_⟩)
    | (go_at_call 39;(with_reducible refine (hm1 _ (kt T.k (Chg.refl _ _).drew)).mono ?_);rintro r w1 ⟨⟨v1,rfl,m1⟩,p1⟩;have kr :=p1.of_drew)
    | (go_at_call 39;(with_reducible refine (hm2 _ (kt T.k kr)).mono ?_);rintro r w2 ⟨⟨v2,rfl,m2⟩,p2⟩;replace kr :=kt kr p2)
    | (go_at_call 44;(with_reducible refine (wholeCmp _ _ _ X Y (m1.kept p2) m2).mono ?_);rintro r w3 ⟨rfl,p3⟩;replace kr :=kt kr p3))
  first | go_ret | refine ⟨_,results_tmp rfl _ _ _,?_⟩
  exact ⟨rfl,kt T.k kr⟩
end Go.Proofs.YtfmmdamgcpiciaaGreatDoor
namespace Go.Proofs.YtfmmdamgcpiciaaGreatDoor
open Go Go.RowKit
structure Two3R (w W : World) (x y z x' y' z' : Value) : Prop where
  T : Two3 w W x y z x' y' z'
  r0 : W.cell? ⟨w.heap.size + 2,0,none⟩ = some (.bool false)
  S : Slot3 W (w.heap.size + 2)
theorem two3R (w : World) (x y z x' y' z' : Value) : Two3R w (((w.alloc (.cells #[x,y,z] 30)).alloc (.cells #[x',y',z'] 30)).alloc (.cells #[.bool false,.slice none 0 0,.slice none 0 0] 30)) x y z x' y' z' :=by
  obtain ⟨k,a0,a1,a2,b0,b1,b2⟩ :=two3 w x y z x' y' z'
  have k2 : Kept ((w.alloc (.cells #[x,y,z] 30)).alloc (.cells #[x',y',z'] 30)) (((w.alloc (.cells #[x,y,z] 30)).alloc (.cells #[x',y',z'] 30)).alloc (.cells #[.bool false,.slice none 0 0,.slice none 0 0] 30)) :=Chg.alloc _ _ _
  have e2 : ((w.alloc (.cells #[x,y,z] 30)).alloc (.cells #[x',y',z'] 30)).heap.size = w.heap.size + 2 :=by simp
  have S0 :=slot3_made ((w.alloc (.cells #[x,y,z] 30)).alloc (.cells #[x',y',z'] 30)) (.bool false) (.slice none 0 0) (.slice none 0 0) 30
  have r0 :=(box3_cells ((w.alloc (.cells #[x,y,z] 30)).alloc (.cells #[x',y',z'] 30)) (.bool false) (.slice none 0 0) (.slice none 0 0) 30).1
  rw [e2] at S0 r0
  exact ⟨⟨kt k k2,Kept.at k2 a0,Kept.at k2 a1,Kept.at k2 a2,Kept.at k2 b0,Kept.at k2 b1,Kept.at k2 b2⟩,r0,S0⟩
theorem FV.put2 {w W w1 : World} {N : Int} {D : Nat} {s s2 : Option Addr} {n c n2 c2 : Nat} {x y z x' y' z' : Value} (O : Two3R w W x y z x' y' z') (k : Kept W w1) (d : Bool) (hd : decide (N < 0) = d) (h1 : Dig w1 s n c N.natAbs) (h2 : Dig w1 s2 n2 c2 D) :
    FV (put3 w1 (w.heap.size + 2) (.bool d) (.slice s n c) (.slice s2 n2 c2)) (.agg #[.bool d,.slice s n c,.slice s2 n2 c2]) N D ∧ Kept w (put3 w1 (w.heap.size + 2) (.bool d) (.slice s n c) (.slice s2 n2 c2)) :=by
  have r1 :=Kept.at k O.r0
  exact ⟨⟨s,n,c,s2,n2,c2,by rw [hd],h1.set r1 (put3_chg _ _ _ _ _),h2.set r1 (put3_chg _ _ _ _ _)⟩,(kt O.T.k k).keptNew (put3_chg _ _ _ _ _) fun b' _ h => by omega⟩
theorem fracAdd (w : World) (v1 v2 : Value) (N M : Int) (D E : Nat) (h1 : FV w v1 N D) (h2 : FV w v2 M E) (hN : Sm N.natAbs) (hM : Sm M.natAbs) (hD : Sm D) (hE : Sm E) (hX : Sm (N * E).natAbs) (hY : Sm (M * D).natAbs) : Calls Tryz.prog 24 #[v1,v2] w fun r w' => (∃ v',r = .returned v' ∧ FV w' v' (N * E + M * D) (D * E)) ∧ Kept w w' :=by
  obtain ⟨s,n,c,s2,n2,c2,rfl,d1,d2⟩ :=h1
  obtain ⟨s3,n3,c3,s4,n4,c4,rfl,d3,d4⟩ :=h2
  have hm1 : ∀ W,Kept w W → Calls Tryz.prog 39 #[.agg #[.bool (decide (N < 0)),.slice s n c],.agg #[.bool false,.slice s4 n4 c4]] W fun r w' => (∃ v',r = .returned v' ∧ WV w' v' (N * E)) ∧ Kept W w' :=fun W k => wholeMul W _ _ N E ⟨s,n,c,rfl,d1.kept k⟩ (WV.nat (d4.kept k)) hN (by rw [Int.natAbs_natCast];exact hE)
  have hm2 : ∀ W,Kept w W → Calls Tryz.prog 39 #[.agg #[.bool (decide (M < 0)),.slice s3 n3 c3],.agg #[.bool false,.slice s2 n2 c2]] W fun r w' => (∃ v',r = .returned v' ∧ WV w' v' (M * D)) ∧ Kept W w' :=fun W k => wholeMul W _ _ M D ⟨s3,n3,c3,rfl,d3.kept k⟩ (WV.nat (d2.kept k)) hM (by rw [Int.natAbs_natCast];exact hD)
  have hm3 : ∀ W,Kept w W → Calls Tryz.prog 40 #[.slice s2 n2 c2,.slice s4 n4 c4] W fun r w' => (∃ v',r = .returned v' ∧ NV w' v' (D * E)) ∧ Kept W w' :=fun W k => natMul W s2 s4 n2 n4 c2 c4 D E (d2.kept k) (d4.kept k) (by have :=d2.sm hD;omega) (by have :=d4.sm hE;omega)
  have ha : ∀ W v v',WV W v (N * E) → WV W v' (M * D) → Calls Tryz.prog 38 #[v,v'] W fun r w' => (∃ v',r = .returned v' ∧ WV w' v' (N * E + M * D)) ∧ Kept W w' :=fun W v v' h h' => wholeAdd W v v' _ _ h h' hX hY
  obtain ⟨a,ha'⟩ : ∃ b,decide (N < 0) = b :=⟨_,rfl⟩
  obtain ⟨b,hb'⟩ : ∃ b,decide (M < 0) = b :=⟨_,rfl⟩
  obtain ⟨Z,hZ⟩ : ∃ Z,N * (E : Int) + M * (D : Int) = Z :=⟨_,rfl⟩
  obtain ⟨z,hz⟩ : ∃ b,decide (Z < 0) = b :=⟨_,rfl⟩
  rw [hZ] at ha
  obtain ⟨X,hX'⟩ : ∃ X,N * (E : Int) = X :=⟨_,rfl⟩
  obtain ⟨Y,hY'⟩ : ∃ X,M * (D : Int) = X :=⟨_,rfl⟩
  rw [ha',hX'] at hm1
  rw [hb',hY'] at hm2
  rw [hX',hY'] at ha
  rw [ha',hb',hZ]
  have T :=two3R w (.bool a) (.slice s n c) (.slice s2 n2 c2) (.bool b) (.slice s3 n3 c3) (.slice s4 n4 c4)
  obtain ⟨W,hW⟩ : ∃ W,(((w.alloc (.cells #[.bool a,.slice s n c,.slice s2 n2 c2] 30)).alloc (.cells #[.bool b,.slice s3 n3 c3,.slice s4 n4 c4] 30)).alloc (.cells #[.bool false,.slice none 0 0,.slice none 0 0] 30)) = W :=⟨_,rfl⟩
  rw [hW] at T
  have HW :=Lib.hid hW
  clear hW ha' hb' hX hY hX' hY' hZ d1 d2 d3 d4 hN hM hD hE
  obtain ⟨q0,q1,q2,q3,q4,q5,q6⟩ :=id T.T
  go_enter Tryz.func24,Tryz.ntmps24
  go_upto_region 1 with fail
  rw [HW.out]
  go_wp2_with (first
    | (refine wp_region_lit_segs (id :=1) [[0,1,2,3,4,6,7,8,9,10,13,14,15,16,5],[11],[12],[17,18,19]] mixed (by kernel_rfl) ?_;simp only [wpSegsL,gaC,gaN,lZ0,lS0,coS])
    | refine ⟨by kernel_rfl,?_⟩
    | (refine ⟨by kernel_rfl,oldD kr,?_⟩)
    | (refine ⟨oldD kr,?_⟩)
    | (go_at_call 39;(with_reducible refine (hm1 _ (kt q0 (Chg.refl _ _).drew)).mono ?_);rintro r w1 ⟨⟨v1,rfl,m1⟩,p1⟩;have kr :=p1.of_drew)
    | (go_at_call 39;(with_reducible refine (hm2 _ (kt q0 kr)).mono ?_);rintro r w2 ⟨⟨v2,rfl,m2⟩,p2⟩;replace kr :=kt kr p2)
    | (go_at_call 38;(with_reducible refine (ha _ _ _ (m1.kept p2) m2).mono ?_);rintro r w3 ⟨⟨v3,rfl,s5,n5,c5,rfl,d5⟩,p3⟩;rw [hz];replace kr :=kt kr p3)
    | (go_at_call 40;(with_reducible refine (hm3 _ (kt q0 kr)).mono ?_);rintro r w4 ⟨⟨v4,rfl,s6,n6,c6,rfl,d6⟩,p4⟩;replace kr :=kt kr p4;obtain ⟨⟨u0,x0⟩,⟨u1,x1,t1⟩,⟨u2,x2,t2⟩,f0,f1,f2⟩ :=(T.S.kept kr).use))
  obtain ⟨g1,g2⟩ :=FV.put2 T kr z hz (d5.kept p4) d6
  exact ⟨_,results_30 (r :=w.heap.size + 2) rfl rfl (put3_cells (T.S.kept kr) _ _ _),g1,g2⟩
theorem fracSub (w : World) (v1 v2 : Value) (N M : Int) (D E : Nat) (h1 : FV w v1 N D) (h2 : FV w v2 M E) (hN : Sm N.natAbs) (hM : Sm M.natAbs) (hD : Sm D) (hE : Sm E) (hX : Sm (N * E).natAbs) (hY : Sm (M * D).natAbs) : Calls Tryz.prog 16 #[v1,v2] w fun r w' => (∃ v',r = .returned v' ∧ FV w' v' (N * E - M * D) (D * E)) ∧ Kept w w' :=by
  have hmi : ∀ W,Kept w W → Calls Tryz.prog 15 #[v2] W fun r w' => (∃ v',r = .returned v' ∧ FV w' v' (-M) E) ∧ Kept W w' :=fun W k => fracMinus W v2 M E (h2.kept k)
  have had : ∀ W v,Kept w W → FV W v (-M) E → Calls Tryz.prog 24 #[v1,v] W fun r w' => (∃ v',r = .returned v' ∧ FV w' v' (N * E - M * D) (D * E)) ∧ Kept W w' :=fun W v k h => by
    have :=fracAdd W v1 v N (-M) D E (h1.kept k) h hN (by rw [Int.natAbs_neg];exact hM) hD hE hX (by rw [Int.neg_mul,Int.natAbs_neg];exact hY)
    rw [Int.neg_mul,← Int.sub_eq_add_neg] at this
    exact this
  obtain ⟨s,n,c,s2,n2,c2,rfl,d1,d2⟩ :=h1
  obtain ⟨s3,n3,c3,s4,n4,c4,rfl,d3,d4⟩ :=h2
  obtain ⟨a,ha'⟩ : ∃ b,decide (N < 0) = b :=⟨_,rfl⟩
  obtain ⟨b,hb'⟩ : ∃ b,decide (M < 0) = b :=⟨_,rfl⟩
  obtain ⟨Z,hZ⟩ : ∃ Z,N * (E : Int) - M * (D : Int) = Z :=⟨_,rfl⟩
  obtain ⟨z,hz⟩ : ∃ b,decide (Z < 0) = b :=⟨_,rfl⟩
  rw [ha',hZ] at had
  rw [hb'] at hmi
  rw [ha',hb',hZ]
  have T :=two3R w (.bool a) (.slice s n c) (.slice s2 n2 c2) (.bool b) (.slice s3 n3 c3) (.slice s4 n4 c4)
  obtain ⟨W,hW⟩ : ∃ W,(((w.alloc (.cells #[.bool a,.slice s n c,.slice s2 n2 c2] 30)).alloc (.cells #[.bool b,.slice s3 n3 c3,.slice s4 n4 c4] 30)).alloc (.cells #[.bool false,.slice none 0 0,.slice none 0 0] 30)) = W :=⟨_,rfl⟩
  rw [hW] at T
  have HW :=Lib.hid hW
  clear hW ha' hb' hX hY hZ d1 d2 d3 d4 hN hM hD hE
  obtain ⟨q0,q1,q2,q3,q4,q5,q6⟩ :=id T.T
  go_enter Tryz.func16,Tryz.ntmps16
  go_upto_region 1 with fail
  rw [HW.out]
  go_wp2_with (first
    | (refine wp_region_lit_segs (id :=1) [[0,1,2],[3,4]] mixed (by kernel_rfl) ?_;simp only [wpSegsL,gaC,gaN,lZ0,lS0,coS])
    | refine ⟨by kernel_rfl,?_⟩
    | (refine ⟨by kernel_rfl,oldD kr,?_⟩)
    | (refine ⟨oldD kr,?_⟩)
    | (go_at_call 15;(with_reducible refine (hmi _ (kt q0 (Chg.refl _ _).drew)).mono ?_);rintro r w1 ⟨⟨v1,rfl,m1⟩,p1⟩;have kr :=p1.of_drew)
    | (go_at_call 24;(with_reducible refine (had _ _ (kt q0 kr) m1).mono ?_);rintro r w4 ⟨⟨v4,rfl,s5,n5,c5,s6,n6,c6,rfl,d5,d6⟩,p4⟩;rw [hz];replace kr :=kt kr p4;obtain ⟨⟨u0,x0⟩,⟨u1,x1,t1⟩,⟨u2,x2,t2⟩,f0,f1,f2⟩ :=(T.S.kept kr).use))
  obtain ⟨g1,g2⟩ :=FV.put2 T kr z hz d5 d6
  exact ⟨_,results_30 (r :=w.heap.size + 2) rfl rfl (put3_cells (T.S.kept kr) _ _ _),g1,g2⟩
end Go.Proofs.YtfmmdamgcpiciaaGreatDoor
namespace Go.Proofs.YtfmmdamgcpiciaaGreatDoor
open Go Go.RowKit
theorem arTiny13 (w : World) : Calls Tryz.prog 20 #[.int .i64 13] w fun r w' => (∃ v',r = .returned v' ∧ FV w' v' 1 (10 ^ 13)) ∧ Kept w w' :=by
  have h2 : ∀ W v,DV W v 1 (-13) → Calls Tryz.prog 43 #[v] W fun r w' => (∃ v',r = .returned v' ∧ FV w' v' 1 (10 ^ 13)) ∧ Kept W w' :=fun W v h => decFrac W v 1 13 h (by
    show (1 : Nat) < L9 ^ 399999
    exact Nat.one_lt_pow (by decide) (by decide)) (by decide)
  have S0 :=slot3_made w (.bool false) (.slice none 0 0) (.slice none 0 0) 30
  have r0 :=(box3_cells w (.bool false) (.slice none 0 0) (.slice none 0 0) 30).1
  have k0 : Kept w (w.alloc (.cells #[.bool false,.slice none 0 0,.slice none 0 0] 30)) :=Chg.alloc _ _ _
  obtain ⟨d,hd⟩ : ∃ b,decide ((1 : Int) < 0) = b :=⟨_,rfl⟩
  have Hd :=Lib.hid hd
  obtain ⟨E,hE⟩ : ∃ E,10 ^ 13 = E :=⟨_,rfl⟩
  rw [hE] at h2 ⊢
  clear hE
  go_enter Tryz.func20,Tryz.ntmps20
  go_wp2_with (first
    | (go_at_call 45;(with_reducible refine (wholeOne _).mono ?_);rintro r w1 ⟨⟨v1,rfl,s1,n1,c1,rfl,d1⟩,p1⟩;rw [Hd.out];have dv1 : DV w1 (.agg #[.bool d,.slice s1 n1 c1,.int .i64 (-13)]) 1 (-13) :=⟨s1,n1,c1,(by rw [Hd.out]),d1⟩)
    | (go_at_call 43;(with_reducible refine (h2 _ _ dv1).mono ?_);rintro r w2 ⟨⟨v2,rfl,s2,n2,c2,s3,n3,c3,rfl,d2,d3⟩,p2⟩;rw [Hd.out];have kr :=kt p1 p2;have S :=S0.kept kr;obtain ⟨⟨u0,x0⟩,⟨u1,x1,t1⟩,⟨u2,x2,t2⟩,f0,f1,f2⟩ :=S.use))
  have r1 :=Kept.at kr r0
  exact bodyPost_ret (results_30 (r :=w.heap.size) rfl rfl (put3_cells S _ _ _)) rfl ⟨⟨_,rfl,s2,n2,c2,s3,n3,c3,by rw [Hd.out],d2.set r1 (put3_chg _ _ _ _ _),d3.set r1 (put3_chg _ _ _ _ _)⟩,(kt k0 kr).keptNew (put3_chg _ _ _ _ _) fun b' _ h => by omega⟩
end Go.Proofs.YtfmmdamgcpiciaaGreatDoor
namespace Go.Proofs.YtfmmdamgcpiciaaGreatDoor
open Go Go.RowKit
theorem zzFits (w : World) (s : ByteArray) (e : Int) (h : s.size ≤ 2147483647) : Calls Tryz.prog 5 #[pd (.string s) e] w fun r w' => r = .returned (.bool true) ∧ Kept w w' :=by
  have kA : Kept w (Box23 w (.string s) (.int .i64 e)) :=Chg.alloc _ _ _
  have c0 : (Box23 w (.string s) (.int .i64 e)).cell? ⟨w.heap.size,0,none⟩ = some (.string s) :=by rw [World.cell?_alloc_at _ _ _ _ rfl];rfl
  obtain ⟨n,hn⟩ : ∃ n : Int,(s.size : Int) = n :=⟨_,rfl⟩
  have h2 : n ≤ 2147483647 :=by omega
  have h0 : 0 ≤ n :=by omega
  go_enter Tryz.func5,Tryz.ntmps5
  go_wp2
  first | go_ret | refine ⟨_,results_tmp rfl _ _ _,?_⟩
  exact ⟨rfl,kA⟩
end Go.Proofs.YtfmmdamgcpiciaaGreatDoor
namespace Go.Proofs.YtfmmdamgcpiciaaGreatDoor
open Go Go.RowKit
theorem sound (w : World) (A e : Int) (hA : A.natAbs < 10 ^ 999) (he1 : -3000 < e) (he2 : e < 3000) : Calls Tryz.prog 12 #[pd (str (txt A)) e] w fun r w' => r = .returned (.bool true) ∧ Kept w w' :=by
  have hp :=fun W => parseWhole W A hA
  have hst :=fun W v (h : WV W v A) => wholeString W v A h (Nat.lt_trans hA (Nat.pow_lt_pow_right (by decide) (by decide)))
  obtain ⟨s,hs⟩ : ∃ s,str (txt A) = .string s :=⟨_,rfl⟩
  rw [hs] at hp hst ⊢
  have kA : Kept w (Box23 w (.string s) (.int .i64 e)) :=Chg.alloc _ _ _
  have ce : ∀ W,Kept (Box23 w (.string s) (.int .i64 e)) W → W.cell? ⟨w.heap.size,1,none⟩ = some (.int .i64 e) ∧ W.cell? ⟨w.heap.size,0,none⟩ = some (.string s) :=fun W k => ⟨Kept.at k (by rw [World.cell?_alloc_at _ _ _ _ rfl];rfl),Kept.at k (by rw [World.cell?_alloc_at _ _ _ _ rfl];rfl)⟩
  obtain ⟨d,hd⟩ : ∃ b,decide (A < 0) = b :=⟨_,rfl⟩
  have Hd :=Lib.hid hd
  have hss : (s.toList == s.toList) = true :=by simp
  clear hA hs hd
  go_enter Tryz.func12,Tryz.ntmps12
  go_wp2_with (first
    | (refine wp_region_lit_segs (id :=2) [[0,1,2,4,5,3],[6,7,8,9,10,11,12,13,14,15,16,17,18]] mixed (by kernel_rfl) ?_;simp only [wpSegsL,gaC,gaN,lZ0,lS0,coS])
    | refine ⟨by kernel_rfl,?_⟩
    | (refine ⟨by kernel_rfl,oldD ky,?_⟩)
    | (refine ⟨oldD ky,?_⟩)
    | (go_at_call 42;(with_reducible refine (hp _).mono ?_);rintro r w1 ⟨⟨v1,rfl,s1,n1,c1,rfl,d1⟩,p1⟩;rw [Hd.out];have kr :=kt p1 (Chg.alloc w1 (.cells #[.bool d,.slice s1 n1 c1] 28) None2);have x0 :=box28_0 w1 (.bool d) (.slice s1 n1 c1);have x1 :=box28_1 w1 (.bool d) (.slice s1 n1 c1);obtain ⟨y1,y0⟩ :=ce _ kr;have wv1 : WV (w1.alloc (.cells #[.bool d,.slice s1 n1 c1] 28)).drew (.agg #[.bool d,.slice s1 n1 c1]) A :=⟨s1,n1,c1,(by rw [Hd.out]),d1.kept (kt (Chg.alloc _ _ _) (Chg.refl _ _).drew)⟩)
    | (go_at_call 33;(with_reducible refine (hst _ _ wv1).mono ?_);rintro r w2 ⟨rfl,p2⟩;have ky :=p2.of_drew;obtain ⟨y1,y0⟩ :=ce _ (kt kr ky)))
  first | go_ret | refine ⟨_,results_tmp rfl _ _ _,?_⟩
  exact ⟨by first | rfl | simp [he1,he2],kt kA (kt kr ky)⟩
end Go.Proofs.YtfmmdamgcpiciaaGreatDoor
namespace Go.Proofs.YtfmmdamgcpiciaaGreatDoor
open Go Go.RowKit
theorem says (w : World) (A : Int) (k : Nat) (v : Value) (M : Int) (D : Nat) (hA : A.natAbs < 10 ^ 999) (hk : k < 3000) (hv : FV w v M D) (hM : Sm M.natAbs) (hD : Sm D) (he : A * D = M * (10 ^ k : Nat)) : Calls Tryz.prog 13 #[pd (str (txt A)) (-(k : Int)),v] w fun r w' => r = .returned (.bool true) ∧ Kept w w' :=by
  have hSmA : Sm A.natAbs :=Nat.lt_trans hA (by
    show 10 ^ 999 < L9 ^ 399999
    have : 10 ^ 999 = L9 ^ 111 :=by decide
    rw [this]
    exact Nat.pow_lt_pow_right (by decide) (by decide))
  have hSmk : Sm (10 ^ k) :=Nat.lt_of_lt_of_le (Nat.pow_lt_pow_right (by decide) hk) (by
    show 10 ^ 3000 ≤ L9 ^ 399999
    have : 10 ^ 2997 = L9 ^ 333 :=by decide +kernel
    have h2 : 10 ^ 3000 ≤ L9 ^ 334 :=by decide +kernel
    exact Nat.le_trans h2 (Nat.pow_le_pow_right (by decide) (by decide)))
  have h12 :=fun W => sound W A (-(k : Int)) hA (by omega) (by omega)
  have h9 :=fun W => decIn W A (-(k : Int)) hA
  have h43 :=fun W v (h : DV W v A (-(k : Int))) => decFrac W v A k h hSmA (by omega)
  have h19 : ∀ W v1 v2,FV W v1 A (10 ^ k) → FV W v2 M D → Calls Tryz.prog 19 #[v1,v2] W fun r w' => r = .returned (.int .i64 0) ∧ Kept W w' :=fun W v1 v2 g1 g2 => by
    have :=fracCmp W v1 v2 A M (10 ^ k) D g1 g2 hSmA hM hSmk hD
    rw [he] at this
    have e0 : cmpZ (M * (10 ^ k : Nat)) (M * (10 ^ k : Nat)) = 0 :=by unfold cmpZ;simp
    rw [e0] at this
    exact this
  obtain ⟨s,hs⟩ : ∃ s,str (txt A) = .string s :=⟨_,rfl⟩
  obtain ⟨E,hE⟩ : ∃ E : Int,-(k : Int) = E :=⟨_,rfl⟩
  rw [hE,hs] at h12 h9
  rw [hE] at h43
  rw [hE,hs]
  obtain ⟨s1,n1,c1,s2,n2,c2,rfl,d1,d2⟩ :=hv
  have HV : ∀ W',Kept w W' → FV W' (.agg #[.bool (decide (M < 0)),.slice s1 n1 c1,.slice s2 n2 c2]) M D :=fun W' k' => ⟨s1,n1,c1,s2,n2,c2,rfl,d1.kept k',d2.kept k'⟩
  obtain ⟨b,hb⟩ : ∃ b,decide (M < 0) = b :=⟨_,rfl⟩
  rw [hb] at HV ⊢
  have kA : Kept w (Box23 w (.string s) (.int .i64 E)) :=Chg.alloc _ _ _
  have kB : Kept (Box23 w (.string s) (.int .i64 E)) ((Box23 w (.string s) (.int .i64 E)).alloc (.cells #[.bool b,.slice s1 n1 c1,.slice s2 n2 c2] 30)) :=Chg.alloc _ _ _
  have a0 :=Kept.at kB (show (Box23 w (.string s) (.int .i64 E)).cell? ⟨w.heap.size,0,none⟩ = some (.string s) by rw [World.cell?_alloc_at _ _ _ _ rfl];rfl)
  have a1 :=Kept.at kB (show (Box23 w (.string s) (.int .i64 E)).cell? ⟨w.heap.size,1,none⟩ = some (.int .i64 E) by rw [World.cell?_alloc_at _ _ _ _ rfl];rfl)
  obtain ⟨r0,r1,r2⟩ :=box3_cells (Box23 w (.string s) (.int .i64 E)) (.bool b) (.slice s1 n1 c1) (.slice s2 n2 c2) 30
  have e1 : (Box23 w (.string s) (.int .i64 E)).heap.size = w.heap.size + 1 :=by simp
  rw [e1] at r0 r1 r2
  have k0 :=kt kA kB
  obtain ⟨W,hW⟩ : ∃ W,((w.alloc (.cells #[.string s,.int .i64 E] 23)).alloc (.cells #[.bool b,.slice s1 n1 c1,.slice s2 n2 c2] 30)) = W :=⟨_,rfl⟩
  simp only [Box23,hW] at r0 r1 r2 a0 a1 k0
  have HW :=Lib.hid hW
  have ce : ∀ W',Kept W W' → W'.cell? ⟨w.heap.size,0,none⟩ = some (.string s) ∧ W'.cell? ⟨w.heap.size,1,none⟩ = some (.int .i64 E) ∧ W'.cell? ⟨w.heap.size + 1,0,none⟩ = some (.bool b) ∧ W'.cell? ⟨w.heap.size + 1,1,none⟩ = some (.slice s1 n1 c1) ∧ W'.cell? ⟨w.heap.size + 1,2,none⟩ = some (.slice s2 n2 c2) :=fun W' k => ⟨Kept.at k a0,Kept.at k a1,Kept.at k r0,Kept.at k r1,Kept.at k r2⟩
  clear hW kA kB e1 hA hk hM hD he hSmA hSmk hs hE hb d1 d2
  have kr : Kept W W.drew :=(Chg.refl _ _).drew
  go_enter Tryz.func13,Tryz.ntmps13
  go_upto_region 1 with fail
  rw [HW.out]
  go_wp2_with (first
    | (refine wp_region_lit_plan (id :=1) (.seg [0,1] (.seg [2] (.two 3 6 (.two 4 6 (.two 5 6 (.seg [6] (.seg [7] (.seg [8,9,10] .fin))) (.seg [5] (.seg [7] (.seg [8,9,10] .fin)))) (.seg [4] (.seg [5] (.seg [7] (.seg [8,9,10] .fin))))) (.seg [3] (.seg [4] (.seg [5] (.seg [7] (.seg [8,9,10] .fin)))))))) mixed (by kernel_rfl) ?_;simp only [wpPlanL,gaC,gaN,lZ0,lS0,coS])
    | refine ⟨by kernel_rfl,?_⟩
    | refine ⟨by kernel_rfl,oldD (by first | assumption | exact Chg.refl _ _ | exact (Chg.refl _ _).drew | exact kt (by first | assumption | exact (Chg.refl _ _).drew | exact Chg.refl _ _) (ziK _) | exact Chg.drew (by assumption)),?_⟩
    | refine ⟨oldD (by first | assumption | exact Chg.refl _ _ | exact (Chg.refl _ _).drew | exact kt (by first | assumption | exact (Chg.refl _ _).drew | exact Chg.refl _ _) (ziK _) | exact Chg.drew (by assumption)),?_⟩
    | (with_reducible refine And.intro ?_ ?_)
    | (go_at_call 12;(with_reducible refine (h12 _).mono ?_);rintro r w1 ⟨rfl,p1⟩;have k1 :=kt kr p1;obtain ⟨b0,b1,b2,b3,b4⟩ :=ce _ k1)
    | (go_at_call 9;(with_reducible refine (h9 _).mono ?_);rintro r w2 ⟨⟨v2,rfl,n2⟩,p2⟩;have k2 :=kt k1 p2;obtain ⟨y0,y1,y2,y3,y4⟩ :=ce _ k2)
    | (go_at_call 43;(with_reducible refine (h43 _ _ n2).mono ?_);rintro r w3 ⟨⟨v3,rfl,n3⟩,p3⟩;have k3 :=kt k2 p3;obtain ⟨x0,x1,x2,x3,x4⟩ :=ce _ k3)
    | (go_at_call 19;(with_reducible refine (h19 _ _ _ n3 (HV _ (kt k0 k3))).mono ?_);rintro r w4 ⟨rfl,p4⟩;have k4 :=kt k3 p4;obtain ⟨z0,z1,z2,z3,z4⟩ :=ce _ k4))
  all_goals (first | go_ret | refine ⟨_,results_tmp rfl _ _ _,?_⟩)
  all_goals exact ⟨by first | rfl | simp,kt k0 k4⟩
end Go.Proofs.YtfmmdamgcpiciaaGreatDoor
namespace Go.Proofs.YtfmmdamgcpiciaaGreatDoor
open Go Go.RowKit
theorem dl_val : ∀ (ds : List Nat),(∀ d ∈ ds,d < 10) → (∀ d,ds.getLast? = some d → d ≠ 0) → dl (val 10 ds) = ds
  | [],_,_ => dl_zero
  | d :: l,h1,h2 => by
    have hd : d < 10 :=h1 d (by simp)
    simp only [val]
    cases l with
    | nil =>
      have : d ≠ 0 :=h2 d rfl
      simp only [val,Nat.mul_zero,Nat.add_zero]
      rw [dl_pos this,show d / 10 = 0 by omega,dl_zero,show d % 10 = d by omega]
    | cons x l =>
      have ih :=dl_val (x :: l) (fun y hy => h1 y (List.mem_cons_of_mem _ hy)) (fun y hy => h2 y (by rw [List.getLast?_cons_cons];exact hy))
      have hv : val 10 (x :: l) ≠ 0 :=fun h => by rw [h,dl_zero] at ih;cases ih
      rw [dl_pos (by omega),show (d + 10 * val 10 (x :: l)) / 10 = val 10 (x :: l) by omega,ih,show (d + 10 * val 10 (x :: l)) % 10 = d by omega]
theorem digT_of {c : Nat} {l : List Nat} (h : ∀ x ∈ c :: l,48 ≤ x ∧ x ≤ 57) (hc : c ≠ 48) : digT (readD (c :: l)) = c :: l ∧ readD (c :: l) ≠ 0 :=by
  obtain ⟨ds,hds⟩ : ∃ ds,((c :: l).map (· - 48)).reverse = ds :=⟨_,rfl⟩
  have h1 : ∀ d ∈ ds,d < 10 :=by
    intro d hd
    rw [← hds,List.mem_reverse,List.mem_map] at hd
    obtain ⟨x,hx,rfl⟩ :=hd
    have :=h x hx
    omega
  have h2 : ∀ d,ds.getLast? = some d → d ≠ 0 :=by
    intro d hd
    rw [← hds,List.getLast?_reverse] at hd
    have e : c - 48 = d :=by simpa using hd
    have :=h c (by simp)
    omega
  have h3 : c :: l = ds.reverse.map (48 + ·) :=by
    rw [← hds,List.reverse_reverse,List.map_map]
    conv => lhs;rw [← List.map_id (c :: l)]
    refine List.map_congr_left fun x hx => ?_
    have :=h x hx
    simp only [id,Function.comp]
    omega
  have h4 : readD (c :: l) = val 10 ds :=by rw [h3];exact readD_rev ds h1
  have h5 :=dl_val ds h1 h2
  have hne : val 10 ds ≠ 0 :=fun e => by
    rw [e,dl_zero] at h5
    rw [← h5] at h3
    cases h3
  refine ⟨?_,by rw [h4];exact hne⟩
  rw [h4]
  unfold digT
  rw [if_neg hne,h5,h3]
def Fit (ys : List Nat) : Prop :=(∀ x ∈ ys,48 ≤ x ∧ x ≤ 57) ∧ ∀ c l,ys = c :: l → c ≠ 48
theorem Fit.snoc {ys : List Nat} {x : Nat} (h : Fit ys) (h1 : 48 ≤ x) (h2 : x ≤ 57) (h3 : 0 < ys.length ∨ x ≠ 48) : Fit (ys ++ [x]) :=by
  refine ⟨fun y hy => ?_,fun c l e => ?_⟩
  · rcases List.mem_append.1 hy with hy | hy
    · exact h.1 y hy
    · simp at hy;omega
  · cases ys with
    | nil =>
      simp at e
      have :=h3.resolve_left (by simp)
      omega
    | cons a r =>
      simp at e
      have :=h.2 a r rfl
      omega
theorem Fit.txt {ys : List Nat} (h : Fit ys) (hne : ys ≠ []) : txt (readD ys) = ys ∧ txt (-(readD ys : Int)) = 45 :: ys :=by
  obtain ⟨c,l,rfl⟩ :=List.exists_cons_of_ne_nil hne
  obtain ⟨h1,h2⟩ :=digT_of h.1 (h.2 c l rfl)
  unfold Go.Proofs.YtfmmdamgcpiciaaGreatDoor.txt
  rw [if_neg (by omega),if_pos (by omega),Int.natAbs_neg,Int.natAbs_natCast,h1]
  exact ⟨rfl,rfl⟩
theorem Fit.lt {ys : List Nat} (h : Fit ys) : readD ys < 10 ^ ys.length :=readD_lt ys h.1
@[go_sem] theorem conv_nil (W : World) : (convert 76 9 (.slice none 0 0)).run Tryz.prog W = .ok (.string { data :=#[] }) W :=by kernel_rfl
theorem bs_cons (c : Nat) (L : List Nat) : (bs [c]) ++ bs L = bs (c :: L) :=by
  apply ByteArray.ext
  simp [bs,ByteArray.append]
theorem decFit (w : World) (s : ByteArray) (e : Int) (hlen : s.size ≤ 2147483647) : Calls Tryz.prog 26 #[pd (.string s) e,.int .i64 20,.int .i64 18] w fun r w' => (∃ Z e' : Int,r = .returned (pd (str (txt Z)) e') ∧ Z.natAbs < 10 ^ 20 ∧ -18 ≤ e' ∧ e' ≤ 18) ∧ Kept w w' :=by
  have k1 : Kept w (Box23 w (.string s) (.int .i64 e)) :=Chg.alloc _ _ _
  have k2 : Kept (Box23 w (.string s) (.int .i64 e)) ((Box23 w (.string s) (.int .i64 e)).alloc (.cells #[.string { data :=#[] },.int .i64 0] 23)) :=Chg.alloc _ _ _
  have a0 :=Kept.at k2 (show (Box23 w (.string s) (.int .i64 e)).cell? ⟨w.heap.size,0,none⟩ = some (.string s) by rw [World.cell?_alloc_at _ _ _ _ rfl];rfl)
  have a1 :=Kept.at k2 (show (Box23 w (.string s) (.int .i64 e)).cell? ⟨w.heap.size,1,none⟩ = some (.int .i64 e) by rw [World.cell?_alloc_at _ _ _ _ rfl];rfl)
  have S0 :=slot23 (Box23 w (.string s) (.int .i64 e)) (.string { data :=#[] }) (.int .i64 0)
  have e1 : (Box23 w (.string s) (.int .i64 e)).heap.size = w.heap.size + 1 :=by simp
  rw [e1] at S0
  have k0 :=kt k1 k2
  obtain ⟨W,hW⟩ : ∃ W,((Box23 w (.string s) (.int .i64 e)).alloc (.cells #[.string { data :=#[] },.int .i64 0] 23)) = W :=⟨_,rfl⟩
  simp only [Box23] at hW
  simp only [Box23,hW] at S0 a0 a1 k0
  have HW :=Lib.hid hW
  clear hW k1 k2 e1
  obtain ⟨m,hm⟩ : ∃ m : Int,Int.tmod e 19 = m :=⟨_,rfl⟩
  have hm0 : m.natAbs < 19 :=by
    rw [← hm,Int.natAbs_tmod]
    exact Nat.mod_lt _ (by decide)
  have hm1 : -18 ≤ m :=by omega
  have hm2 : m ≤ 18 :=by omega
  clear hm0
  obtain ⟨N,hN⟩ : ∃ N,s.size = N :=⟨_,rfl⟩
  rw [hN] at hlen
  go_enter Tryz.func26,Tryz.ntmps26
  go_upto_region 1 with fail
  rw [HW.out]
  go_wp2_with fail
  go_loopw [7,8] (fun t7 t8 wx => ∃ (i n : Nat) (ys : List Nat) (s7 : Option Addr) (c7 : Nat),i ≤ N ∧ n ≤ 20 ∧ ys.length = n ∧ Hid (n = 0 → s7 = none ∧ c7 = 0) ∧ Hid (0 < n → 0 < i) ∧ t7 = .slice s7 n c7 ∧ t8 = .int .i64 i ∧ Hid (Fit ys) ∧ Hid (Sl .u8 W wx s7 c7 ys) ∧ Hid (Kept W wx)) (fun _ t8 _ => N - (intOf t8).toNat)
  case atStart => exact ⟨0,0,[],none,0,Nat.zero_le _,Nat.zero_le _,rfl,Lib.hid (fun _ => ⟨rfl,rfl⟩),Lib.hid (fun h => h),rfl,rfl,Lib.hid ⟨(fun _ h => by cases h),(fun _ _ h => by cases h)⟩,Lib.hid Sl.start,Lib.hid (Chg.refl _ _)⟩
  case round =>
    obtain ⟨i,n,ys,s7,c7,hiN,hn20,hyl,hn0,hni,rfl,rfl,hF,hS,hK⟩ :=hrel
    have b0 :=Kept.at hK.out a0
    by_cases hlt : i < N ∧ n < 20
    · obtain ⟨hi,hn⟩ :=hlt
      have his : i < s.size :=by omega
      have hx256 : (s[i]'his).toNat < 256 :=UInt8.toNat_lt _
      have hidx : ∀ W,(Instr.index 9 (.string s) (.int .i64 (i : Int))).run Tryz.prog W = .ok (.int .u8 ((s[i]'his).toNat : Int)) W :=fun W => str_index s i _ W his (fun _ => rfl)
      obtain ⟨x,hx⟩ : ∃ x,(s[i]'his).toNat = x :=⟨_,rfl⟩
      rw [hx] at hx256 hidx
      obtain ⟨A,eA⟩ : ∃ A : Int,(x : Int) = A :=⟨_,rfl⟩
      rw [eA] at hidx
      have A1 : 0 ≤ A :=by omega
      have A2 : A ≤ 255 :=by omega
      have HA :=Lib.hid eA
      clear hx hx256 eA
      rcases (by omega : A < 48 ∨ 57 < A ∨ (48 ≤ A ∧ A ≤ 57 ∧ 0 < n) ∨ (A = 48 ∧ n = 0) ∨ (48 < A ∧ A ≤ 57 ∧ n = 0)) with h | h | ⟨h1,h2,h3⟩ | ⟨rfl,rfl⟩ | ⟨h1,h2,rfl⟩
      · go_wp2_with fail
        go_roundw
        case rel => exact ⟨i + 1,n,ys,s7,c7,hi,hn20,hyl,hn0,Lib.hid (fun _ => Nat.succ_pos _),rfl,by go_num,hF,hS,hK⟩
        case measure => simp [intOf];omega
      · go_wp2_with fail
        go_roundw
        case rel => exact ⟨i + 1,n,ys,s7,c7,hi,hn20,hyl,hn0,Lib.hid (fun _ => Nat.succ_pos _),rfl,by go_num,hF,hS,hK⟩
        case measure => simp [intOf];omega
      · go_wp2_with (at_builtin;refine wp_gapp1 T76 (w0 :=W) rfl (.tmp 43) (.tmp 45) rfl rfl rfl rfl hS.out hK.out.size hyl (by omega) A1 ?_;intro s4 c4 w4 hS4 hC4 hD4)
        go_roundw
        case rel =>
          refine ⟨i + 1,n + 1,_,s4,c4,hi,hn,by simp [hyl],Lib.hid (fun h => by omega),Lib.hid (fun _ => Nat.succ_pos _),rfl,by go_num,Lib.hid (hF.out.snoc (by omega) (by omega) (.inl (by omega))),Lib.hid hS4,Lib.hid (hK.out.trans hC4 fun b' o hb h => ?_)⟩
          obtain ⟨a,ha,rfl⟩ :=h
          have :=(hS.out.lt ha).1
          omega
        case measure => simp [intOf];omega
      · go_wp2_with fail
        go_roundw
        case rel => exact ⟨i + 1,0,ys,s7,c7,hi,hn20,hyl,hn0,Lib.hid (fun _ => Nat.succ_pos _),rfl,by go_num,hF,hS,hK⟩
        case measure => simp [intOf];omega
      · go_wp2_with (at_builtin;refine wp_gapp1 T76 (w0 :=W) rfl (.tmp 43) (.tmp 45) rfl rfl rfl rfl hS.out hK.out.size hyl (by omega) A1 ?_;intro s4 c4 w4 hS4 hC4 hD4)
        go_roundw
        case rel =>
          refine ⟨i + 1,0 + 1,_,s4,c4,hi,hn,by simp [hyl],Lib.hid (fun h => by omega),Lib.hid (fun _ => Nat.succ_pos _),rfl,by go_num,Lib.hid (hF.out.snoc (by omega) (by omega) (.inr (by omega))),Lib.hid hS4,Lib.hid (hK.out.trans hC4 fun b' o hb h => ?_)⟩
          obtain ⟨a,ha,rfl⟩ :=h
          have :=(hS.out.lt ha).1
          omega
        case measure => simp [intOf];omega
    · obtain ⟨c0,c1⟩ : 0 ≤ (n : Int) ∧ (n : Int) ≤ 20 :=by omega
      rcases Nat.eq_zero_or_pos n with rfl | hp
      · obtain ⟨rfl,rfl⟩ :=hn0.out rfl
        have b1 :=Kept.at hK.out a1
        have S :=S0.kept hK.out
        obtain ⟨⟨u0,s0⟩,⟨u1,s1⟩,sf⟩ :=id S
        obtain rfl : i = N :=by omega
        clear hn0 hni hlt
        have hw19 : IntKind.i64.wrap 19 = 19 :=by decide
        have b2 :=Kept.at (Chg.alloc wr (.cells #[.string { data :=#[] },.int .i64 0] 23) None2) b1
        go_upto_region 8 with fail
        go_region
        have S2 :=S.kept (Chg.alloc wr (.cells #[.string { data :=#[48] },.int .i64 m] 23) None2)
        obtain ⟨⟨v0,r0⟩,⟨v1,r1⟩,rf⟩ :=id S2
        have f0 :=rf 0
        have f1 :=rf 1
        have r2 :=cs_ne (u :=.string { data :=#[48] }) r1 (b' :=w.heap.size + 1) (o' :=0) (by omega)
        go_wp2_with fail
        exact bodyPost_ret (results_23 (r :=w.heap.size + 1) rfl rfl (put2_0 (S2.kept (Chg.refl _ _).drew) _ _) (put2_1 (S2.kept (Chg.refl _ _).drew) _ _)) rfl ⟨⟨0,m,rfl,by decide,hm1,hm2⟩,(kt k0 (kt hK.out (kt (Chg.alloc wr (.cells #[.string { data :=#[48] },.int .i64 m] 23) None2) (Chg.refl _ _).drew))).keptNew (put2_chg _ _ _ _) fun b' _ h => by omega⟩
      · obtain ⟨j,rfl⟩ : ∃ j,n = j + 1 :=⟨n - 1,by omega⟩
        have hN0 : 0 < s.size :=by have :=hni.out (by omega);omega
        obtain ⟨x0,hx0⟩ : ∃ x,(s[0]'hN0).toNat = x :=⟨_,rfl⟩
        have hidx : ∀ W,(Instr.index 9 (.string s) (.int .i64 0)).run Tryz.prog W = .ok (.int .u8 (x0 : Int)) W :=fun W => by
          have :=str_index s 0 x0 W hN0 (fun _ => hx0)
          exact this
        have hs7 : ∃ g,s7 = some ⟨g,0,none⟩ ∧ OutK .u8 wr g 0 c7 ys :=by
          cases s7 with
          | none => have :=(hS.out.nil rfl).1;subst this;simp at hyl
          | some a => obtain ⟨g,rfl,h0,_,h⟩ :=hS.out.own a rfl;exact ⟨g,rfl,h⟩
        obtain ⟨g,rfl,hO⟩ :=hs7
        have hys : ys ≠ [] :=fun h => by subst h;simp at hyl
        obtain ⟨tp,tn⟩ :=hF.out.txt hys
        have hlt20 : readD ys < 10 ^ 20 :=Nat.lt_of_lt_of_le hF.out.lt (Nat.pow_le_pow_right (by decide) (by omega))
        have hstr :=bytes_str wr.drew g (j + 1) c7 ys hyl (fun x hx => by have :=hF.out.1 x hx;omega) (fun q x h => hO.row q x h)
        have hO2 :=hO.kept (Chg.alloc wr (.cells #[.string { data :=#[] },.int .i64 0] 23) None2)
        have hstr2 :=bytes_str (wr.alloc (.cells #[.string { data :=#[] },.int .i64 0] 23)).drew g (j + 1) c7 ys hyl (fun x hx => by have :=hF.out.1 x hx;omega) (fun q x h => hO2.row q x h)
        obtain ⟨T,hT⟩ : ∃ T,bs ys = T :=⟨_,rfl⟩
        rw [str_bs,hT] at hstr hstr2
        have hneg : ({ data :=#[45] } : ByteArray) ++ T = bs (45 :: ys) :=by rw [← hT];exact bs_cons 45 ys
        obtain ⟨T2,hT2⟩ : ∃ T,bs (45 :: ys) = T :=⟨_,rfl⟩
        rw [hT2] at hneg
        have hTz : T.size ≤ 20 :=by rw [← hT,bs_size];omega
        have HH :=Lib.hid (And.intro hT (And.intro hT2 (And.intro tp (And.intro tn hlt20))))
        have b1 :=Kept.at hK.out a1
        have S :=S0.kept hK.out
        obtain ⟨⟨u0,s0⟩,⟨u1,s1⟩,sf⟩ :=id S
        obtain ⟨X0,hX0⟩ : ∃ X : Int,(x0 : Int) = X :=⟨_,rfl⟩
        rw [hX0] at hidx
        obtain ⟨J,hJ⟩ : ∃ X : Int,((j + 1 : Nat) : Int) = X :=⟨_,rfl⟩
        have hJ1 : 1 ≤ J :=by omega
        have hJ2 : J ≤ 20 :=by omega
        clear hT hT2 tp tn hlt20 hO hO2 hS hF hx0 hX0 hn0 hni hyl c0 c1 hn20 hp hys
        have hw19 : IntKind.i64.wrap 19 = 19 :=by decide
        have b2 :=Kept.at (Chg.alloc wr (.cells #[.string { data :=#[] },.int .i64 0] 23) None2) b1
        have b3 :=Kept.at (Chg.alloc wr (.cells #[.string T,.int .i64 m] 23) None2) b0
        have hstr2 : (convert 76 9 (.slice (some ⟨g,0,none⟩) (j + 1) c7)).run Tryz.prog (wr.alloc (.cells #[.string { data :=#[] },.int .i64 0] 23)).drew = .ok (.string T) (wr.alloc (.cells #[.string { data :=#[] },.int .i64 0] 23)).drew :=hstr2
        rcases (by omega : i = N ∨ (i < N ∧ j = 19)) with rfl | ⟨hiN2,rfl⟩
        · clear hlt
          by_cases hx : X0 = 45
          · subst hx
            have S2 :=S.kept (Chg.alloc wr (.cells #[.string T2,.int .i64 m] 23) None2)
            obtain ⟨⟨v0,r0⟩,⟨v1,r1⟩,rf⟩ :=id S2
            have f0 :=rf 0
            have f1 :=rf 1
            have r2 :=cs_ne (u :=.string T2) r1 (b' :=w.heap.size + 1) (o' :=0) (by omega)
            go_upto_region 8 with fail
            go_region
            all_goals go_wp2_with fail
            all_goals exact bodyPost_ret (results_23 (r :=w.heap.size + 1) rfl rfl (put2_0 (S2.kept (Chg.refl _ _).drew) _ _) (put2_1 (S2.kept (Chg.refl _ _).drew) _ _)) rfl ⟨⟨-(readD ys : Int),m,by obtain ⟨_,q2,_,q4,_⟩ :=HH.out;rw [q4,str_bs,q2],by obtain ⟨_,_,_,_,q5⟩ :=HH.out;rw [Int.natAbs_neg,Int.natAbs_natCast];exact q5,hm1,hm2⟩,(kt k0 (kt hK.out (kt (Chg.alloc wr (.cells #[.string T2,.int .i64 m] 23) None2) (Chg.refl _ _).drew))).keptNew (put2_chg _ _ _ _) fun b' _ h => by omega⟩
          · skip
            have S2 :=S.kept (Chg.alloc wr (.cells #[.string T,.int .i64 m] 23) None2)
            obtain ⟨⟨v0,r0⟩,⟨v1,r1⟩,rf⟩ :=id S2
            have f0 :=rf 0
            have f1 :=rf 1
            have r2 :=cs_ne (u :=.string T) r1 (b' :=w.heap.size + 1) (o' :=0) (by omega)
            go_upto_region 8 with fail
            go_region
            all_goals go_wp2_with fail
            all_goals exact bodyPost_ret (results_23 (r :=w.heap.size + 1) rfl rfl (put2_0 (S2.kept (Chg.refl _ _).drew) _ _) (put2_1 (S2.kept (Chg.refl _ _).drew) _ _)) rfl ⟨⟨(readD ys : Int),m,by obtain ⟨q1,_,q3,_,_⟩ :=HH.out;rw [q3,str_bs,q1],by obtain ⟨_,_,_,_,q5⟩ :=HH.out;rw [Int.natAbs_natCast];exact q5,hm1,hm2⟩,(kt k0 (kt hK.out (kt (Chg.alloc wr (.cells #[.string T,.int .i64 m] 23) None2) (Chg.refl _ _).drew))).keptNew (put2_chg _ _ _ _) fun b' _ h => by omega⟩
        · clear hlt
          by_cases hx : X0 = 45
          · subst hx
            have S2 :=S.kept (Chg.alloc wr (.cells #[.string T2,.int .i64 m] 23) None2)
            obtain ⟨⟨v0,r0⟩,⟨v1,r1⟩,rf⟩ :=id S2
            have f0 :=rf 0
            have f1 :=rf 1
            have r2 :=cs_ne (u :=.string T2) r1 (b' :=w.heap.size + 1) (o' :=0) (by omega)
            go_upto_region 8 with fail
            go_region
            all_goals go_wp2_with fail
            all_goals exact bodyPost_ret (results_23 (r :=w.heap.size + 1) rfl rfl (put2_0 (S2.kept (Chg.refl _ _).drew) _ _) (put2_1 (S2.kept (Chg.refl _ _).drew) _ _)) rfl ⟨⟨-(readD ys : Int),m,by obtain ⟨_,q2,_,q4,_⟩ :=HH.out;rw [q4,str_bs,q2],by obtain ⟨_,_,_,_,q5⟩ :=HH.out;rw [Int.natAbs_neg,Int.natAbs_natCast];exact q5,hm1,hm2⟩,(kt k0 (kt hK.out (kt (Chg.alloc wr (.cells #[.string T2,.int .i64 m] 23) None2) (Chg.refl _ _).drew))).keptNew (put2_chg _ _ _ _) fun b' _ h => by omega⟩
          · skip
            have S2 :=S.kept (Chg.alloc wr (.cells #[.string T,.int .i64 m] 23) None2)
            obtain ⟨⟨v0,r0⟩,⟨v1,r1⟩,rf⟩ :=id S2
            have f0 :=rf 0
            have f1 :=rf 1
            have r2 :=cs_ne (u :=.string T) r1 (b' :=w.heap.size + 1) (o' :=0) (by omega)
            go_upto_region 8 with fail
            go_region
            all_goals go_wp2_with fail
            all_goals exact bodyPost_ret (results_23 (r :=w.heap.size + 1) rfl rfl (put2_0 (S2.kept (Chg.refl _ _).drew) _ _) (put2_1 (S2.kept (Chg.refl _ _).drew) _ _)) rfl ⟨⟨(readD ys : Int),m,by obtain ⟨q1,_,q3,_,_⟩ :=HH.out;rw [q3,str_bs,q1],by obtain ⟨_,_,_,_,q5⟩ :=HH.out;rw [Int.natAbs_natCast];exact q5,hm1,hm2⟩,(kt k0 (kt hK.out (kt (Chg.alloc wr (.cells #[.string T,.int .i64 m] 23) None2) (Chg.refl _ _).drew))).keptNew (put2_chg _ _ _ _) fun b' _ h => by omega⟩
end Go.Proofs.YtfmmdamgcpiciaaGreatDoor
namespace Go.Proofs.YtfmmdamgcpiciaaGreatDoor
open Go Go.RowKit
theorem rounds0 (w : World) (neg : Bool) (half : Int) (odd : Bool) : Calls Tryz.prog 76 #[.int .i64 0,.bool neg,.int .i64 half,.bool odd] w fun r w' => r = .returned (.bool false) ∧ w' = w :=by
  go_enter Tryz.func76,Tryz.ntmps76
  go_wp2
  first | go_ret | refine ⟨_,results_tmp rfl _ _ _,?_⟩
  exact ⟨rfl,rfl⟩
def cutq (N : Int) (D p : Nat) : Int :=sgn (decide (N < 0)) (N.natAbs * 10 ^ p / D)
theorem fracRound (w : World) (v : Value) (N : Int) (D p : Nat) (h : FV w v N D) (hD0 : 0 < D) (hp : p ≤ 1000) (hN : N.natAbs < L9 ^ 100000) (hD : D < L9 ^ 100000) : Calls Tryz.prog 36 #[v,.int .i64 (p : Int),.int .i64 0] w fun r w' => (∃ v',r = .returned v' ∧ DV w' v' (cutq N D p) (-(p : Int))) ∧ Kept w w' :=by
  obtain ⟨s,n,c,s2,n2,c2,rfl,d1,d2⟩ :=h
  have l1 :=d1.len_le hN
  have l2 :=d2.len_le hD
  have hpw :=fun W => natPow10 W p (by omega)
  have hmu : ∀ W s3 n3 c3,Kept w W → Dig W s3 n3 c3 (10 ^ p) → Calls Tryz.prog 40 #[.slice s n c,.slice s3 n3 c3] W fun r w' => (∃ v',r = .returned v' ∧ NV w' v' (N.natAbs * 10 ^ p)) ∧ Kept W w' :=fun W s3 n3 c3 k h => natMul W s s3 n n3 c c3 _ _ (d1.kept k) h (by omega) (by
    have :=h.len_le (k :=1000) (Nat.lt_of_le_of_lt (Nat.pow_le_pow_right (by decide) hp) (by decide))
    omega)
  have hdv : ∀ W s3 n3 c3,Kept w W → Dig W s3 n3 c3 (N.natAbs * 10 ^ p) → Calls Tryz.prog 75 #[.slice s3 n3 c3,.slice s2 n2 c2] W fun e w' => (∃ v1 v2,e = .returned (.tuple #[v1,v2]) ∧ NV w' v1 (N.natAbs * 10 ^ p / D) ∧ NV w' v2 (N.natAbs * 10 ^ p % D)) ∧ Kept W w' :=fun W s3 n3 c3 k h => natDiv W s3 s2 n3 n2 c3 c2 _ D h (d2.kept k) hD0 (by
    have e1 : 10 ^ p < L9 ^ 1000 :=Nat.lt_of_le_of_lt (Nat.pow_le_pow_right (by decide) hp) (by decide)
    have :=h.len_le (k :=100000 + 1000) (by rw [Nat.pow_add];exact Nat.mul_lt_mul'' hN e1)
    omega) (by omega)
  obtain ⟨d,hd⟩ : ∃ b,decide (N < 0) = b :=⟨_,rfl⟩
  obtain ⟨P,hP⟩ : ∃ P : Int,(p : Int) = P :=⟨_,rfl⟩
  obtain ⟨Q,hQ⟩ : ∃ Q,N.natAbs * 10 ^ p / D = Q :=⟨_,rfl⟩
  obtain ⟨R,hR⟩ : ∃ R,N.natAbs * 10 ^ p % D = R :=⟨_,rfl⟩
  have hRD : R < D :=by rw [← hR];exact Nat.mod_lt _ hD0
  obtain ⟨Z,hZ⟩ : ∃ Z,cutq N D p = Z :=⟨_,rfl⟩
  have hwo : ∀ W v,NV W v Q → Calls Tryz.prog 35 #[.bool d,v] W fun r w' => (∃ v',r = .returned v' ∧ WV w' v' Z) ∧ Kept W w' :=fun W v h => by
    have :=wholeOf W d v Q h
    rw [← hd,← hQ] at this
    have e : sgn (decide (N < 0)) (N.natAbs * 10 ^ p / D) = Z :=hZ
    rw [e,hd] at this
    exact this
  rw [hP] at hpw
  rw [hQ,hR] at hdv
  rw [hd,hP,hZ]
  have hP0 : 0 ≤ P :=by omega
  have hP1 : P ≤ 1000 :=by omega
  have O :=one3 w (.bool d) (.slice s n c) (.slice s2 n2 c2) (.slice none 0 0) (.int .i64 0) 30 37
  obtain ⟨W,hW⟩ : ∃ W,((w.alloc (.cells #[.bool d,.slice s n c,.slice s2 n2 c2] 30)).alloc (.cells #[.bool false,.slice none 0 0,.int .i64 0] 37)) = W :=⟨_,rfl⟩
  rw [hW] at O
  have HW :=Lib.hid hW
  have HD :=Lib.hid d2
  have HL :=Lib.hid (And.intro l2 hRD)
  clear hW hd hQ hR hZ hP hN hD hD0 hp d1 d2 l1 l2 hRD
  obtain ⟨z,hz⟩ : ∃ b,decide (Z < 0) = b :=⟨_,rfl⟩
  obtain ⟨q0,q1,q2,q3,q4,q5⟩ :=id O
  go_enter Tryz.func36,Tryz.ntmps36
  go_upto_region 1 with fail
  rw [HW.out]
  go_upto_region 6 with (first
    | (refine wp_region_lit_segs (id :=1) [[0,1,2,3,4,5,6]] mixed (by kernel_rfl) ?_;simp only [wpSegsL,gaC,gaN,lZ0,lS0,coS])
    | refine ⟨by kernel_rfl,?_⟩
    | (refine ⟨by kernel_rfl,oldD kr,?_⟩)
    | (refine ⟨oldD kr,?_⟩)
    | (go_at_call 17;(with_reducible refine (hpw _).mono ?_);rintro r w1 ⟨⟨v1,rfl,s3,n3,c3,rfl,d3⟩,p1⟩;have kr : Kept W _ :=kt (Chg.refl _ _).drew p1)
    | (go_at_call 40;(with_reducible refine (hmu _ _ _ _ (kt O.k kr) d3).mono ?_);rintro r w2 ⟨⟨v2,rfl,s4,n4,c4,rfl,d4⟩,p2⟩;replace kr :=kt kr p2)
    | (go_at_call 75;(with_reducible refine (hdv _ _ _ _ (kt O.k kr) d4).mono ?_);rintro r w3 ⟨⟨v3,v4,rfl,⟨sq,nq,cq,rfl,dq⟩,⟨sr,nr,cr,rfl,dr⟩⟩,p3⟩;replace kr :=kt kr p3))
  have k3 :=kr
  have hnr : nr ≤ 100000 :=by
    obtain ⟨l2,hRD⟩ :=HL.out
    rcases Nat.lt_or_ge n2 nr with h | h
    · have :=HD.out.len_ge dr h;omega
    · omega
  have hadd : ∀ W',Kept w3 W' → Calls Tryz.prog 78 #[.slice sr nr cr,.slice sr nr cr] W' fun e w' => (∃ v,e = .returned v ∧ NV w' v (R + R)) ∧ Kept W' w' :=fun W' k => natAdd W' sr sr nr nr cr cr R R (dr.kept k) (dr.kept k) (by omega) (by omega)
  have hdq : NV w3 (.slice sq nq cq) Q :=⟨sq,nq,cq,rfl,dq⟩
  have ky : Kept w3 w3.drew :=(Chg.refl _ _).drew
  have a0 :=Kept.at kr q1
  clear p1 p2 p3 d3 d4 hpw hmu hdv kr
  rcases (by omega : nr = 0 ∨ (0 < nr ∧ nq = 0) ∨ (0 < nr ∧ 0 < nq)) with rfl | ⟨h1,rfl⟩ | ⟨h1,h2⟩
  · replace k3 :=kt k3 ky
    go_wp2_with (first
      | (refine wp_region_lit_segs (id :=6) [[0,1,2,3,4,5,6,7,8,9,11,13,14,15,10],[12],[16,17,18,19],[20,21,22,23,24]] mixed (by kernel_rfl) ?_;simp only [wpSegsL,gaC,gaN,lZ0,lS0,coS])
      | refine ⟨by kernel_rfl,?_⟩
      | (refine ⟨by kernel_rfl,oldD ky,?_⟩)
      | (refine ⟨oldD ky,?_⟩)
      | (go_at_call 78;(with_reducible refine (hadd _ (Chg.refl _ _).drew).mono ?_);rintro r w4 ⟨⟨v4,rfl,s5,n5,c5,rfl,d5⟩,p4⟩;have ky :=p4.of_drew;replace k3 :=kt k3 ky)
      | (go_at_call 77;(with_reducible refine (natCmp _ s5 s2 n5 n2 c5 c2 _ D d5 (HD.out.kept (kt q0 k3))).mono ?_);rintro r w5 ⟨rfl,p5⟩;replace ky :=kt ky p5;replace k3 :=kt k3 p5;have a0 :=Kept.at k3 q1;(try have c6 :=Kept.at ky c6'))
      | (go_at_call 76;(with_reducible refine (rounds0 _ d _ _).mono ?_);rintro r w6 ⟨rfl,hw6⟩;subst hw6)
      | (go_at_call 35;(with_reducible refine (hwo _ _ (hdq.kept ky)).mono ?_);rintro r w7 ⟨⟨v7,rfl,s7,n7,c7,rfl,d7⟩,p7⟩;rw [hz];replace k3 :=kt k3 p7;obtain ⟨⟨u0,x0⟩,⟨u1,x1,t1⟩,⟨u2,x2,t2⟩,f0,f1,f2⟩ :=(O.keep k3).S.use))
    exact ⟨_,results_37 (r :=w.heap.size + 1) rfl rfl (put3_cells (O.keep k3).S _ _ _),⟨s7,n7,c7,by rw [hz],d7.set (O.keep k3).r0 (put3_chg _ _ _ _ _)⟩,(kt O.k k3).keptNew (put3_chg _ _ _ _ _) fun b' _ h => by omega⟩
  · have h1' : (nr : Int) > 0 :=by omega
    go_wp2_with (first
      | (refine wp_region_lit_segs (id :=6) [[0,1,2,3,4,5,6,7,8,9,11,13,14,15,10],[12],[16,17,18,19],[20,21,22,23,24]] mixed (by kernel_rfl) ?_;simp only [wpSegsL,gaC,gaN,lZ0,lS0,coS])
      | refine ⟨by kernel_rfl,?_⟩
      | (refine ⟨by kernel_rfl,oldD ky,?_⟩)
      | (refine ⟨oldD ky,?_⟩)
      | (go_at_call 78;(with_reducible refine (hadd _ (Chg.refl _ _).drew).mono ?_);rintro r w4 ⟨⟨v4,rfl,s5,n5,c5,rfl,d5⟩,p4⟩;have ky :=p4.of_drew;replace k3 :=kt k3 ky)
      | (go_at_call 77;(with_reducible refine (natCmp _ s5 s2 n5 n2 c5 c2 _ D d5 (HD.out.kept (kt q0 k3))).mono ?_);rintro r w5 ⟨rfl,p5⟩;replace ky :=kt ky p5;replace k3 :=kt k3 p5;have a0 :=Kept.at k3 q1;(try have c6 :=Kept.at ky c6'))
      | (go_at_call 76;(with_reducible refine (rounds0 _ d _ _).mono ?_);rintro r w6 ⟨rfl,hw6⟩;subst hw6)
      | (go_at_call 35;(with_reducible refine (hwo _ _ (hdq.kept ky)).mono ?_);rintro r w7 ⟨⟨v7,rfl,s7,n7,c7,rfl,d7⟩,p7⟩;rw [hz];replace k3 :=kt k3 p7;obtain ⟨⟨u0,x0⟩,⟨u1,x1,t1⟩,⟨u2,x2,t2⟩,f0,f1,f2⟩ :=(O.keep k3).S.use))
    exact ⟨_,results_37 (r :=w.heap.size + 1) rfl rfl (put3_cells (O.keep k3).S _ _ _),⟨s7,n7,c7,by rw [hz],d7.set (O.keep k3).r0 (put3_chg _ _ _ _ _)⟩,(kt O.k k3).keptNew (put3_chg _ _ _ _ _) fun b' _ h => by omega⟩
  · have h1' : (nr : Int) > 0 :=by omega
    have h2' : (nq : Int) > 0 :=by omega
    obtain ⟨xs,e1,e2,e3,e4,e5,e6⟩ :=id dq
    obtain ⟨g,rfl,r1⟩ :=e5.row (fun e => by subst e;simp at e1;omega)
    have hqc : 0 < cq :=by omega
    have c6' :=r1 0 xs[0] (List.getElem?_eq_getElem (by omega))
    generalize xs[0] = x at c6'
    simp only [Nat.zero_add] at c6'
    go_wp2_with (first
      | (refine wp_region_lit_segs (id :=6) [[0,1,2,3,4,5,6,7,8,9,11,13,14,15,10],[12],[16,17,18,19],[20,21,22,23,24]] mixed (by kernel_rfl) ?_;simp only [wpSegsL,gaC,gaN,lZ0,lS0,coS])
      | refine ⟨by kernel_rfl,?_⟩
      | (refine ⟨by kernel_rfl,oldD ky,?_⟩)
      | (refine ⟨oldD ky,?_⟩)
      | (go_at_call 78;(with_reducible refine (hadd _ (Chg.refl _ _).drew).mono ?_);rintro r w4 ⟨⟨v4,rfl,s5,n5,c5,rfl,d5⟩,p4⟩;have ky :=p4.of_drew;replace k3 :=kt k3 ky)
      | (go_at_call 77;(with_reducible refine (natCmp _ s5 s2 n5 n2 c5 c2 _ D d5 (HD.out.kept (kt q0 k3))).mono ?_);rintro r w5 ⟨rfl,p5⟩;replace ky :=kt ky p5;replace k3 :=kt k3 p5;have a0 :=Kept.at k3 q1;(try have c6 :=Kept.at ky c6'))
      | (go_at_call 76;(with_reducible refine (rounds0 _ d _ _).mono ?_);rintro r w6 ⟨rfl,hw6⟩;subst hw6)
      | (go_at_call 35;(with_reducible refine (hwo _ _ (hdq.kept ky)).mono ?_);rintro r w7 ⟨⟨v7,rfl,s7,n7,c7,rfl,d7⟩,p7⟩;rw [hz];replace k3 :=kt k3 p7;obtain ⟨⟨u0,x0⟩,⟨u1,x1,t1⟩,⟨u2,x2,t2⟩,f0,f1,f2⟩ :=(O.keep k3).S.use))
    exact ⟨_,results_37 (r :=w.heap.size + 1) rfl rfl (put3_cells (O.keep k3).S _ _ _),⟨s7,n7,c7,by rw [hz],d7.set (O.keep k3).r0 (put3_chg _ _ _ _ _)⟩,(kt O.k k3).keptNew (put3_chg _ _ _ _ _) fun b' _ h => by omega⟩
end Go.Proofs.YtfmmdamgcpiciaaGreatDoor
